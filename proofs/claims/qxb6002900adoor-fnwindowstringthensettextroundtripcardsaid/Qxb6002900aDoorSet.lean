/-
  DERIVED. THE WALK of (wholeValue).setText (function 10), and of its shim (function 6).
-/
import Derived.Test.Qxb6002900aDoorLib
namespace Go.Proofs.Qxb6002900aDoor
open Go.RowKit

/-- A leading 0: refused; nothing that was there has turned. -/
theorem set_zero (s : ByteArray) (m : Int) (p : Option Addr) (hz : s.data.toList.head? = some 48) (w : World) :
    Calls Tryd.prog 10 #[.agg #[.pointer p, .int .i64 m], .string s] w fun e w' => e = .returned (.bool false) ∧ Below w.heap.size w w' := by
  have hd : decide (s.data.toList.head? = some 48) = true := decide_eq_true hz
  have hc := fun w => prefix_any s w
  rw [hd] at hc
  clear hd hz
  go_enter Tryd.func10, Tryd.ntmps10
  go_wp2_with (go_at_call 12; refine (hc _).mono ?_; rintro e w1 ⟨rfl, rfl⟩)
  go_ret
  exact ⟨rfl, (Below.refl _ _).alloc (Nat.le_refl _) _⟩

/-- A byte that is no digit: refused. -/
theorem set_nodigit (s : ByteArray) (m : Int) (p : Option Addr) (hz : ¬ s.data.toList.head? = some 48) (bad : Nat) (hb : bad < s.size) (hbad : s[bad].toNat < 48 ∨ 57 < s[bad].toNat)
    (hok : ∀ j (hj : j < bad), 48 ≤ (s[j]'(by omega)).toNat ∧ (s[j]'(by omega)).toNat ≤ 57) (w : World) :
    Calls Tryd.prog 10 #[.agg #[.pointer p, .int .i64 m], .string s] w fun e w' => e = .returned (.bool false) ∧ Below w.heap.size w w' := by
  have hd : decide (s.data.toList.head? = some 48) = false := decide_eq_false hz
  have hc := fun w => prefix_any s w
  rw [hd] at hc
  have hf := fun w => contains_yes s bad hb hbad hok w
  clear hd hz hbad hok
  go_enter Tryd.func10, Tryd.ntmps10
  go_wp2_with (first | (go_at_call 12; refine (hc _).mono ?_; rintro e w1 ⟨rfl, rfl⟩) | (go_at_call 13; refine (hf _).mono ?_; rintro e w2 ⟨rfl, hb2⟩))
  go_ret
  exact ⟨rfl, ((Below.refl _ _).alloc (Nat.le_refl _) _).trans (hb2.mono (by simp))⟩

/-- Digits alone, no leading 0, and strconv.ParseInt refuses: refused. -/
theorem set_err (s : ByteArray) (m : Int) (p : Option Addr) (hz : ¬ s.data.toList.head? = some 48) (hdg : ∀ j (hj : j < s.size), 48 ≤ s[j].toNat ∧ s[j].toNat ≤ 57)
    (hp : ∀ w, Laid w → Calls Tryd.prog 15 #[.string s, .int .i64 10, .int .i64 64] w fun e w' => ∃ (v : Int) (N : Nat), e = .returned (.tuple #[.int .i64 v, .iface 54 (.pointer (some ⟨N, 0, none⟩))]) ∧ Below w.heap.size w w') (w : World) (hL : Laid w) :
    Calls Tryd.prog 10 #[.agg #[.pointer p, .int .i64 m], .string s] w fun e w' => e = .returned (.bool false) ∧ Below w.heap.size w w' := by
  have hd : decide (s.data.toList.head? = some 48) = false := decide_eq_false hz
  have hc := fun w => prefix_any s w
  rw [hd] at hc
  have hf := fun w => contains_no s hdg w
  have hlow := hL.low
  clear hd hz hdg
  go_enter Tryd.func10, Tryd.ntmps10
  go_wp2_with (first | (go_at_call 12; refine (hc _).mono ?_; rintro e w1 ⟨rfl, rfl⟩) | (go_at_call 13; refine (hf _).mono ?_; rintro e w2 ⟨rfl, hb2⟩; refine Hid.out ?_))
  have hb3 : Below w.heap.size w w2 := ((Below.refl _ _).alloc (Nat.le_refl _) _).trans (hb2.mono (by simp))
  have hL2 := hL.below hb3 hlow
  clear hb2
  refine Lib.hid ?_
  go_wp2_with (go_at_call 15; refine (hp _ hL2).mono ?_; rintro e w3 ⟨v, N, rfl, hb4⟩)
  go_ret
  exact ⟨rfl, hb3.trans (hb4.mono hb3.size)⟩

/-- The number is over max: refused. -/
theorem set_over (s : ByteArray) (m : Int) (p : Option Addr) (hs : s.size ≤ 1048576) (hz : ¬ s.data.toList.head? = some 48) (hdg : ∀ j (hj : j < s.size), 48 ≤ s[j].toNat ∧ s[j].toNat ≤ 57) (v : Nat)
    (h : Lib.parseIntB 64 s.data.toList = .ok (v : Int)) (hv1 : (1 : Int) ≤ v) (hvm : m < v) (w : World) :
    Calls Tryd.prog 10 #[.agg #[.pointer p, .int .i64 m], .string s] w fun e w' => e = .returned (.bool false) ∧ Below w.heap.size w w' := by
  have hd : decide (s.data.toList.head? = some 48) = false := decide_eq_false hz
  have hc := fun w => prefix_any s w
  rw [hd] at hc
  have hf := fun w => contains_no s hdg w
  have hp := fun w => parse_ok s hs v h w
  clear hd hz hdg h
  go_enter Tryd.func10, Tryd.ntmps10
  go_wp2_with (first | (go_at_call 12; refine (hc _).mono ?_; rintro e w1 ⟨rfl, rfl⟩) | (go_at_call 13; refine (hf _).mono ?_; rintro e w2 ⟨rfl, hb2⟩) | (go_at_call 15; refine (hp _).mono ?_; rintro e w3 ⟨rfl, hb4⟩; refine Hid.out ?_))
  have hb3 : Below w.heap.size w w2 := ((Below.refl _ _).alloc (Nat.le_refl _) _).trans (hb2.mono (by simp))
  have hb5 : Below (w.heap.size + 1) (w.alloc (.cells #[.pointer p, .int .i64 m] 31)) w3 := (hb2.mono (by simp)).trans (hb4.mono (by have := hb2.size; simpa using this))
  have hc1 : w3.cell? ⟨w.heap.size, 1, none⟩ = some (.int .i64 m) := by rw [hb5.cell (by simp)]; simp [go_sem]
  have hb6 := hb3.trans (hb4.mono hb3.size)
  clear hb2 hb3 hb4 hb5
  refine Lib.hid ?_
  go_wp2
  go_ret
  exact ⟨rfl, hb6⟩

/-- Taken: the setting holds the number. -/
theorem set_yes (s : ByteArray) (m : Int) (b : Nat) (c : Int) (hs : s.size ≤ 1048576) (hz : ¬ s.data.toList.head? = some 48) (hdg : ∀ j (hj : j < s.size), 48 ≤ s[j].toNat ∧ s[j].toNat ≤ 57) (v : Nat)
    (h : Lib.parseIntB 64 s.data.toList = .ok (v : Int)) (hv1 : (1 : Int) ≤ v) (hvm : (v : Int) ≤ m) (w : World) (hb : b < w.heap.size) (hcell : w.cell? ⟨b, 0, none⟩ = some (.int .i64 c)) (hfr : w.frozen? ⟨b, 0, none⟩ = false) :
    Calls Tryd.prog 10 #[.agg #[.pointer (some ⟨b, 0, none⟩), .int .i64 m], .string s] w fun e w' => e = .returned (.bool true) ∧ w'.cell? ⟨b, 0, none⟩ = some (.int .i64 v) ∧ Below b w w' ∧ w'.frozen? ⟨b, 0, none⟩ = false := by
  have hd : decide (s.data.toList.head? = some 48) = false := decide_eq_false hz
  have hc := fun w => prefix_any s w
  rw [hd] at hc
  have hf := fun w => contains_no s hdg w
  have hp := fun w => parse_ok s hs v h w
  clear hd hz hdg h
  go_enter Tryd.func10, Tryd.ntmps10
  go_wp2_with (first | (go_at_call 12; refine (hc _).mono ?_; rintro e w1 ⟨rfl, rfl⟩) | (go_at_call 13; refine (hf _).mono ?_; rintro e w2 ⟨rfl, hb2⟩) | (go_at_call 15; refine (hp _).mono ?_; rintro e w3 ⟨rfl, hb4⟩; refine Hid.out ?_))
  have hb3 : Below w.heap.size w w2 := ((Below.refl _ _).alloc (Nat.le_refl _) _).trans (hb2.mono (by simp))
  have hb5 : Below (w.heap.size + 1) (w.alloc (.cells #[.pointer (some ⟨b, 0, none⟩), .int .i64 m] 31)) w3 := (hb2.mono (by simp)).trans (hb4.mono (by have := hb2.size; simpa using this))
  have hc0 : w3.cell? ⟨w.heap.size, 0, none⟩ = some (.pointer (some ⟨b, 0, none⟩)) := by rw [hb5.cell (by simp)]; simp [go_sem]
  have hc1 : w3.cell? ⟨w.heap.size, 1, none⟩ = some (.int .i64 m) := by rw [hb5.cell (by simp)]; simp [go_sem]
  have hb6 := hb3.trans (hb4.mono hb3.size)
  have hc2 : w3.cell? ⟨b, 0, none⟩ = some (.int .i64 c) := by rw [hb6.cell hb]; exact hcell
  have hf2 : w3.frozen? ⟨b, 0, none⟩ = false := by rw [hb6.frozen hb]; exact hfr
  clear hb2 hb3 hb4 hb5
  refine Lib.hid ?_
  go_wp2
  go_ret
  exact ⟨rfl, World.cell?_setCell_same _ _ _ hc2, (hb6.mono (Nat.le_of_lt hb)).setCell (Nat.le_refl _) _, by rw [World.frozen?_setCell]; exact hf2⟩
end Go.Proofs.Qxb6002900aDoor
