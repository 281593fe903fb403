/-
  DERIVED. THE WALK of FnEscapeBytesDecodesBack (function 3).
-/
import Derived.Test.Qxb6003563aDecode
namespace Go.Proofs.Qxb6003563a
open Go.RowKit

theorem equal_nil (b c : Nat) (w : World) :
    Calls Try.prog 9 #[.slice (some ⟨b, 0, none⟩) 0 c, .slice none 0 0] w fun e w' => e = .returned (.bool true) ∧ Below w.heap.size w w' := by
  go_enter Try.func9, Try.ntmps9
  go_wp2
  go_loop [5] (fun i => i = .int .i64 0) (fun _ => 0)
  case atStart => rfl
  case round =>
    obtain rfl := hrel
    go_wp2
    go_ret
    exact ⟨rfl, Below.refl _ _⟩

/-- Too long: let by. -/
theorem back_big (a : Option Addr) (n c : Nat) (w : World) (h1 : 1048576 < n) (h2 : n ≤ maxLen) :
    Calls Try.prog 3 #[.slice a n c] w fun e w' => e = .returned (.bool true) ∧ Below w.heap.size w w' := by
  unfold maxLen at h2
  have hb : (1048576 : Int) < (n : Int) := by omega
  go_enter Try.func3, Try.ntmps3
  go_wp2
  go_ret
  exact ⟨rfl, Below.refl _ _⟩

theorem own_cell {w : World} {b g n cap : Nat} {xs : List UInt8} (h : w.ownsRow b 5 1 (.slice (some ⟨g, 0, none⟩) n cap) n (cellsOf xs)) (hx : xs.length = n) (j : Nat) (hj : j < n) :
    w.cell? ⟨g, j, none⟩ = some (.int .u8 ((xs.getD j 0).toNat : Int)) := by
  rw [h.cellAt j (by omega)]
  simp [cellsOf, hx, hj]

set_option maxHeartbeats 1000000 in
theorem back_some (a : Addr) (n c : Nat) (xs : List UInt8) (w : World) (ha : 0 < n → a.block < w.heap.size) (hn : n ≤ 1048576) (hx : xs.length = n)
    (hsrc : ∀ j, j < n → w.cell? (a.add j) = some (.int .u8 ((xs.getD j 0).toNat : Int))) :
    Calls Try.prog 3 #[.slice (some a) n c] w fun e w' => e = .returned (.bool true) ∧ Below w.heap.size w w' := by
  have hb : ¬ (1048576 : Int) < (n : Int) := by omega
  have hne : ∀ w, (binOp .neq 22 (.slice (some a) n c) (.slice none 0 0)).run Try.prog w = .ok (.bool true) w := fun w => run_neq_slice_nil_any w 22 5 (some a) n c 0 0 Try.underlying22
  have hmk := made_run n hn
  have hcp := copy_run n c xs a w ha hx hsrc
  have hrow : ∀ j, j < n → (w.alloc (.cells (rowOf xs) 5)).cell? ⟨w.heap.size, j, none⟩ = some (.int .u8 ((xs.getD j 0).toNat : Int)) := fun j hj => row_cell w xs j (by omega)
  have k7 := zz_some w.heap.size n n xs (w.alloc (.cells (rowOf xs) 5)) (by simp) hn hx hrow
  have Hrow : Hid (∀ j, j < n → (w.alloc (.cells (rowOf xs) 5)).cell? ⟨w.heap.size, j, none⟩ = some (.int .u8 ((xs.getD j 0).toNat : Int))) := hrow
  have Hx : Hid (xs.length = n) := hx
  have hB : Below w.heap.size w (w.alloc (.cells (rowOf xs) 5)) := (Below.refl _ _).alloc (Nat.le_refl _) _
  clear hsrc hx hrow ha
  go_enter Try.func3, Try.ntmps3
  go_wp2_with (first | (go_at_call 7; refine k7.mono ?_; rintro e w1 ⟨s, rfl, Hs, hb1⟩; refine Hid.out ?_) | go_in)
  have k8 := decode_any xs (by rw [Hx.out]; exact hn) s Hs.out w1
  rw [Hx.out] at k8
  have hz1 : w.heap.size < w1.heap.size := by have := hb1.size; simp at this; omega
  clear hcp hmk hne k7
  refine Lib.hid ?_
  go_wp2_with (first | (go_at_call 8; refine k8.mono ?_; rintro e w2 ⟨rfl, hown, hb2⟩; refine Hid.out ?_) | go_in)
  have k9 := equal_some w1.heap.size w.heap.size n s.size n xs hn w2 (fun j hj => own_cell hown Hx.out j hj) (fun j hj => by rw [hb2.cell hz1, hb1.cell (by simp)]; exact Hrow.out j hj)
  have hbf : Below w.heap.size w w2 := (hB.trans (hb1.mono (by simp))).trans (hb2.mono (by omega))
  clear k8 hown hb1 hb2 hB
  refine Lib.hid ?_
  go_wp2_with (first | (go_at_call 9; refine k9.mono ?_; rintro e w3 ⟨rfl, hb3⟩) | go_in)
  go_ret
  exact ⟨rfl, hbf.trans (hb3.mono hbf.size)⟩

theorem back_nil (w : World) : Calls Try.prog 3 #[.slice none 0 0] w fun e w' => e = .returned (.bool true) ∧ Below w.heap.size w w' := by
  have hne : ∀ w, (binOp .neq 22 (.slice none 0 0) (.slice none 0 0)).run Try.prog w = .ok (.bool false) w := fun w => run_neq_slice_nil_any w 22 5 none 0 0 0 0 Try.underlying22
  have k7 := zz_nil w
  go_enter Try.func3, Try.ntmps3
  go_wp2_with (first | (go_at_call 7; refine k7.mono ?_; rintro e w1 ⟨s, rfl, Hs, hb1⟩; refine Hid.out ?_) | go_in)
  have k8 := decode_any [] (by simp) s Hs.out w1
  rw [show ([] : List UInt8).length = 0 from rfl] at k8
  have k9 := fun w => equal_nil w1.heap.size s.size w
  clear k7
  refine Lib.hid ?_
  go_wp2_with (first | (go_at_call 8; refine k8.mono ?_; rintro e w2 ⟨rfl, hown, hb2⟩) | (go_at_call 9; refine (k9 _).mono ?_; rintro e w3 ⟨rfl, hb3⟩) | go_in)
  have hbf : Below w.heap.size w w2 := hb1.trans (hb2.mono hb1.size)
  go_ret
  exact ⟨rfl, hbf.trans (hb3.mono hbf.size)⟩
end Go.Proofs.Qxb6003563a
