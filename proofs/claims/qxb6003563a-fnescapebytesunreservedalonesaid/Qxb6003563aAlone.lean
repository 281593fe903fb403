/-
  DERIVED. THE WALK of FnEscapeBytesUnreservedAlone (function 5).
-/
import Derived.Test.Qxb6003563aClone
namespace Go.Proofs.Qxb6003563a
open Go.RowKit

theorem all_snoc (xs : List UInt8) (k : Nat) (h : k < xs.length) : (xs.take (k + 1)).all Pl.unres = ((xs.take k).all Pl.unres && Pl.unres (xs.getD k 0)) := by
  rw [take_next xs k h]; simp

theorem alone_end (xs : List UInt8) (s : ByteArray) (hs : s = ⟨(Pl.esc xs).toArray⟩) : ((s.toList == xs) == xs.all Pl.unres) = true := by
  subst hs
  rw [ByteArray.toList_eq]
  have h := Pl.esc_self xs
  have e : (Pl.esc xs == xs) = xs.all Pl.unres := by
    rw [Bool.eq_iff_iff, beq_iff_eq, h, List.all_eq_true]
  show ((Pl.esc xs == xs) == xs.all Pl.unres) = true
  rw [e]; simp
theorem ret_bool {a b : Bool} (h : a = b) : Ending.returned (.bool a) = .returned (.bool b) := by rw [h]

/-- Too long: let by. -/
theorem alone_big (a : Option Addr) (n c : Nat) (w : World) (h1 : 1048576 < n) (h2 : n ≤ maxLen) :
    Calls Try.prog 5 #[.slice a n c] w fun e w' => e = .returned (.bool true) ∧ Below w.heap.size w w' := by
  unfold maxLen at h2
  have hb : (1048576 : Int) < (n : Int) := by omega
  go_enter Try.func5, Try.ntmps5
  go_wp2
  go_ret
  exact ⟨rfl, Below.refl _ _⟩

set_option maxHeartbeats 1000000 in
theorem alone_some (a : Addr) (n c : Nat) (xs : List UInt8) (w : World) (ha : 0 < n → a.block < w.heap.size) (hn : n ≤ 1048576) (hx : xs.length = n)
    (hsrc : ∀ j, j < n → w.cell? (a.add j) = some (.int .u8 ((xs.getD j 0).toNat : Int))) :
    Calls Try.prog 5 #[.slice (some a) n c] w fun e w' => e = .returned (.bool true) ∧ Below w.heap.size w w' := by
  have hb : ¬ (1048576 : Int) < (n : Int) := by omega
  have hne : ∀ w, (binOp .neq 22 (.slice (some a) n c) (.slice none 0 0)).run Try.prog w = .ok (.bool true) w := fun w => run_neq_slice_nil_any w 22 5 (some a) n c 0 0 Try.underlying22
  have hmk := made_run n hn
  have hcp := copy_run n c xs a w ha hx hsrc
  have hrow : ∀ j, j < n → (w.alloc (.cells (rowOf xs) 5)).cell? ⟨w.heap.size, j, none⟩ = some (.int .u8 ((xs.getD j 0).toNat : Int)) := fun j hj => row_cell w xs j (by omega)
  have k7 := zz_some w.heap.size n n xs (w.alloc (.cells (rowOf xs) 5)) (by simp) hn hx hrow
  have Hrow : Hid (∀ j, j < n → (w.alloc (.cells (rowOf xs) 5)).cell? ⟨w.heap.size, j, none⟩ = some (.int .u8 ((xs.getD j 0).toNat : Int))) := hrow
  have Hx : Hid (xs.length = n) := hx
  have hB : Below w.heap.size w (w.alloc (.cells (rowOf xs) 5)) := (Below.refl _ _).alloc (Nat.le_refl _) _
  clear hsrc hx hrow ha
  go_enter Try.func5, Try.ntmps5
  go_wp2_with (first | (go_at_call 7; refine k7.mono ?_; rintro e w1 ⟨s, rfl, Hs, hb1⟩; refine Hid.out ?_) | go_in)
  have hc1 : ∀ j, j < n → w1.cell? ⟨w.heap.size, j, none⟩ = some (.int .u8 ((xs.getD j 0).toNat : Int)) := fun j hj => by rw [hb1.cell (by simp)]; exact Hrow.out j hj
  have Hc1 : Hid (∀ j, j < n → w1.cell? ⟨w.heap.size, j, none⟩ = some (.int .u8 ((xs.getD j 0).toNat : Int))) := hc1
  have hlen := Pl.esc_len xs
  have hss : s.size = (Pl.esc xs).length := by rw [Hs.out]; simp [ByteArray.size]
  have hl1 : n ≤ s.size := by have := Hx.out; omega
  have hl2 : s.size ≤ 3 * n := by have := Hx.out; omega
  have hcv := run_convert_bytes_back (P := Try.prog) w1 22 9 5 ⟨w.heap.size, 0, none⟩ n xs Try.underlying22 Try.underlying5 Try.underlying9 (fun j hj => by
    have := hc1 j (by rw [← Hx.out]; exact hj)
    rw [show (⟨w.heap.size, 0, none⟩ : Addr).add j = ⟨w.heap.size, j, none⟩ by simp [Addr.add]; omega, this, List.getD_eq_getElem?_getD, List.getElem?_eq_getElem hj]; rfl)
  rw [Hx.out] at hcv
  have hbf := hB.trans (hb1.mono (by simp))
  clear hcp hmk hne k7 hc1 hlen hss hb1 hB
  refine Lib.hid ?_
  go_wp2
  go_loop [5, 6] (fun al i => ∃ k : Nat, k ≤ n ∧ i = .int .i64 k ∧ al = .bool ((xs.take k).all Pl.unres)) (fun _ i => n - (intOf i).toNat)
  case atStart => exact ⟨0, Nat.zero_le _, rfl, by simp⟩
  case round =>
    obtain ⟨k, hk, rfl, rfl⟩ := hrel
    by_cases hlt : k < n
    · have hlt' : (k : Int) < (n : Int) := by omega
      have hcell := Hc1.out k hlt
      have hsn := all_snoc xs k (by rw [Hx.out]; exact hlt)
      have HS : Hid ((xs.take (k + 1)).all Pl.unres = ((xs.take k).all Pl.unres && Pl.unres (xs.getD k 0))) := hsn
      have k12 := fun w => unres_any (xs.getD k 0) w
      obtain ⟨x, hxx⟩ : ∃ x, xs.getD k 0 = x := ⟨_, rfl⟩
      rw [hxx] at hcell k12 HS
      clear hsn hxx
      generalize (xs.take k).all Pl.unres = A at HS ⊢
      cases hu : Pl.unres x <;> rw [hu] at k12 HS
      · go_wp2_with (first | (go_at_call 12; refine (k12 _).mono ?_; rintro e w2 ⟨rfl, rfl⟩) | go_in)
        go_round
        case rel => exact ⟨k + 1, by omega, by go_num, by rw [HS.out]; simp⟩
        case measure => simp [intOf]; omega
      · go_wp2_with (first | (go_at_call 12; refine (k12 _).mono ?_; rintro e w2 ⟨rfl, rfl⟩) | go_in)
        go_round
        case rel => exact ⟨k + 1, by omega, by go_num, by rw [HS.out]; simp⟩
        case measure => simp [intOf]; omega
    · obtain rfl : k = n := by omega
      have hfull : xs.take k = xs := List.take_of_length_le (by rw [Hx.out]; exact Nat.le_refl _)
      rw [hfull]
      have h3 : ¬ ((s.size : Int) < (k : Int)) := by omega
      have h4 : ¬ (3 * (k : Int) < (s.size : Int)) := by omega
      clear hfull
      have hfin := alone_end xs s Hs.out
      go_wp2
      go_ret
      exact ⟨ret_bool rfl, hbf⟩

theorem alone_nil (w : World) : Calls Try.prog 5 #[.slice none 0 0] w fun e w' => e = .returned (.bool true) ∧ Below w.heap.size w w' := by
  have hne : ∀ w, (binOp .neq 22 (.slice none 0 0) (.slice none 0 0)).run Try.prog w = .ok (.bool false) w := fun w => run_neq_slice_nil_any w 22 5 none 0 0 0 0 Try.underlying22
  have hcv : ∀ w, (convert 22 9 (.slice none 0 0)).run Try.prog w = .ok (.string ⟨#[]⟩) w := fun w => by kernel_rfl
  have k7 := zz_nil w
  go_enter Try.func5, Try.ntmps5
  go_wp2_with (first | (go_at_call 7; refine k7.mono ?_; rintro e w1 ⟨s, rfl, Hs, hb1⟩; refine Hid.out ?_) | go_in)
  have hs := Hs.out
  rw [show (Pl.esc []).toArray = #[] from rfl] at hs
  rw [hs]
  clear hs
  refine Lib.hid ?_
  go_wp2
  go_loop [5, 6] (fun al i => i = .int .i64 0 ∧ al = .bool true) (fun _ _ => 0)
  case atStart => exact ⟨rfl, rfl⟩
  case round =>
    obtain ⟨rfl, rfl⟩ := hrel
    go_wp2
    go_ret
    exact ⟨rfl, hb1⟩
end Go.Proofs.Qxb6003563a
