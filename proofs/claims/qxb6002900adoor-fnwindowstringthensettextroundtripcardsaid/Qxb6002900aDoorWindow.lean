/-
  DERIVED. THE WALK of FnWindowStringThenSetTextRoundTrip (function 4).
-/
import Derived.Test.Qxb6002900aDoorTop
namespace Go.Proofs.Qxb6002900aDoor
open Go.RowKit

/-- The text that windowValue.String shows for a number from 1 on. -/
theorem windowString (b n : Nat) (m : Int) (w : World) (h1 : 1 ≤ n) (hn : n < 9223372036854775808) (hb : b < w.heap.size) (hcell : w.cell? ⟨b, 0, none⟩ = some (.int .i64 n)) (hL : Laid w) :
    Calls Tryd.prog 8 #[.pointer (some ⟨b, 0, none⟩), .int .i64 m] w fun e w' => ∃ s : ByteArray, e = .returned (.string s) ∧ Hid (s = ⟨(Lib.decDigits n).toArray⟩) ∧ Below w.heap.size w w' := by
  have hlow := hL.low
  have hB2 : ∀ o1 o2, Below w.heap.size w ((w.alloc o1).alloc o2) := fun o1 o2 => ((Below.refl _ _).alloc (Nat.le_refl _) o1).alloc (by simp) o2
  have hL2 : ∀ o1 o2, Laid ((w.alloc o1).alloc o2) := fun o1 o2 => hL.below (hB2 o1 o2) hlow
  have hc1 : ∀ o, (w.alloc o).cell? ⟨b, 0, none⟩ = some (.int .i64 n) := fun o => by rw [World.cell?_alloc_past _ _ _ hb]; exact hcell
  have hc2 : ∀ o1 o2, ((w.alloc o1).alloc o2).cell? ⟨b, 0, none⟩ = some (.int .i64 n) := fun o1 o2 => by rw [World.cell?_alloc_past _ _ _ (by simp; omega)]; exact hc1 o1
  have hz : ((n : Int) == 0) = false := beq_eq_false_iff_ne.2 (by omega)
  go_enter Tryd.func8, Tryd.ntmps8
  go_wp2_with (first | (go_at_call 16; refine (format_any n hn _ (hL2 _ _)).mono ?_; rintro e w1 ⟨rfl, hb1⟩) | go_in)
  go_ret
  exact ⟨_, rfl, rfl, (hB2 _ _).trans (hb1.mono (by simp; omega))⟩

/-- A number's own numeral is canonical in 1 .. m, and spells the number. -/
theorem canon_dec (n : Nat) (m : Int) (h1 : 1 ≤ n) (hm : (n : Int) ≤ m) : canon (Lib.decDigits n) m ∧ Pl.val 0 (Lib.decDigits n) = n := by
  have hv := Pl.decDigits_val n n (Nat.le_refl _)
  exact ⟨⟨Pl.decDigits_head n n (Nat.le_refl _) h1, Pl.decDigits_digs n n (Nat.le_refl _), by rw [hv]; exact hm⟩, hv⟩

theorem window_any (n m : Int) (w : World) (hL : Laid w) (hm : m < 9223372036854775808) :
    Calls Tryd.prog 4 #[.int .i64 n, .int .i64 m] w fun e w' => e = .returned (.bool true) ∧ Below w.heap.size w w' := by
  by_cases hn1 : n < 1
  · go_enter Tryd.func4, Tryd.ntmps4
    go_wp2
    go_ret
    exact ⟨rfl, Below.refl _ _⟩
  by_cases hnm : m < n
  · go_enter Tryd.func4, Tryd.ntmps4
    go_wp2
    go_ret
    exact ⟨rfl, Below.refl _ _⟩
  obtain ⟨k, rfl⟩ : ∃ k : Nat, n = k := ⟨n.toNat, by omega⟩
  have hk1 : 1 ≤ k := by omega
  have hk2 : k < 9223372036854775808 := by omega
  have hlow := hL.low
  have hB : ∀ o, Below w.heap.size w (w.alloc o) := fun o => (Below.refl _ _).alloc (Nat.le_refl _) o
  have k8 := windowString w.heap.size k m (w.alloc (.cells #[.int .i64 k] 2)) hk1 hk2 (by simp) (by simp [go_sem]) (hL.below (hB _) hlow)
  obtain ⟨hy, hval⟩ := canon_dec k m hk1 (by omega)
  have Hy : Hid (canon (Lib.decDigits k) m) := hy
  have Hval : Hid (Pl.val 0 (Lib.decDigits k) = k) := hval
  clear hy hval
  go_enter Tryd.func4, Tryd.ntmps4
  go_wp2_with (first | (go_at_call 8; refine k8.mono ?_; rintro e w1 ⟨s, rfl, Hs, hb1⟩; refine Hid.out ?_) | go_in)
  have hz1 : w.heap.size < w1.heap.size := by have := hb1.size; simp at this; omega
  have hb0 : Below w.heap.size w w1 := (hB _).trans (hb1.mono (by simp))
  have hsd : s.data.toList = Lib.decDigits k := by rw [Hs.out]
  have hss : s.size ≤ 1048576 := by
    rw [Hs.out, size_mk, Lib.decDigits_length]
    have := Lib.nDigits_le20 k (by omega)
    omega
  have k6 := setText_yes s m w1.heap.size 0 hss hm (by rw [hsd]; exact Hy.out) (w1.alloc (.cells #[.int .i64 0] 2)) (by simp) (by simp [go_sem]) (by simp [go_sem])
  rw [hsd, Hval.out] at k6
  clear hb1 hsd hss k8
  refine Lib.hid ?_
  go_wp2_with (first | (go_at_call 6; refine k6.mono ?_; rintro e w2 ⟨rfl, hc2, hb2, hf2⟩; refine Hid.out ?_) | go_in)
  have hb3 : Below w.heap.size w w2 := ((hb0.alloc (by omega) _).trans (hb2.mono (by omega)))
  clear hb2 hf2 k6 hb0
  have hs2 := Hs.out
  have k9 := fun w => decimalOf_any k hk2 w
  rw [← hs2] at k9
  clear hs2 Hs
  have hqn : ((k : Int) == (k : Int)) = true := by simp
  refine Lib.hid ?_
  go_wp2_with (first | (go_at_call 9; refine (k9 _).mono ?_; rintro e w3 ⟨rfl, hb4⟩) | go_in)
  go_ret
  exact ⟨by simp, hb3.trans (hb4.mono hb3.size)⟩
end Go.Proofs.Qxb6002900aDoor
