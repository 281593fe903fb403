/-
  DERIVED. THE WALK of decimalOf (function 9): at 1 .. 2^63 - 1 it returns the number's decimal numeral.
-/
import Derived.Test.Qxb6002900aDoorRows
import Derived.Test.Qxb6002900aDoorPlain
import Derived.Lib.ItoaLen
import Derived.WalkKit
import Derived.WalkSpells
import Derived.WalkLawsBesides
namespace Go.Proofs.Qxb6002900aDoor
open Go.RowKit

theorem zero20 : ∀ j, j < 20 → (#[Value.int .u8 0, .int .u8 0, .int .u8 0, .int .u8 0, .int .u8 0, .int .u8 0, .int .u8 0, .int .u8 0, .int .u8 0, .int .u8 0, .int .u8 0, .int .u8 0, .int .u8 0, .int .u8 0, .int .u8 0, .int .u8 0, .int .u8 0, .int .u8 0, .int .u8 0, .int .u8 0] : Array Value)[j]? = some (.int .u8 0)
  | 0, _ | 1, _ | 2, _ | 3, _ | 4, _ | 5, _ | 6, _ | 7, _ | 8, _ | 9, _ | 10, _ | 11, _ | 12, _ | 13, _ | 14, _ | 15, _ | 16, _ | 17, _ | 18, _ | 19, _ => rfl
  | n + 20, h => absurd h (by omega)

/-- After k digits as many are left as the quotient has. -/
theorem nDigits_after (x : Nat) : ∀ k, k < Lib.nDigits x → Lib.nDigits x = k + Lib.nDigits (x / 10 ^ k) := by
  intro k
  induction k with
  | zero => intro _; simp
  | succ k ih =>
    intro h
    have e := ih (by omega)
    have hb : ¬ x / 10 ^ k < 10 := fun hlt => by have := Lib.nDigits_small hlt; omega
    have e2 := Lib.nDigits_big hb
    rw [Nat.div_div_eq_div_mul, ← Nat.pow_succ] at e2
    rw [e, e2, Nat.add_assoc, Nat.add_comm 1]

theorem div_pow_succ (x k : Nat) : x / 10 ^ k / 10 = x / 10 ^ (k + 1) := by rw [Nat.div_div_eq_div_mul, ← Nat.pow_succ]

/-- The last round: what lies in the array from m on is the numeral. -/
theorem dec_end (x m k v : Nat) (f : Nat → UInt8) (hmk : m + k = 19) (hv : v = x / 10 ^ k) (hk : k < Lib.nDigits x) (h10 : v < 10) (hf : ∀ j, m < j → j < 20 → f j = Lib.dg x (19 - j)) :
    (Lib.decDigits x).length = 20 - m ∧ ∀ j (hj : j < (Lib.decDigits x).length), (Lib.decDigits x)[j] = if j = 0 then UInt8.ofNat (48 + v) else f (m + j) := by
  have e := nDigits_after x k hk
  rw [← hv, Lib.nDigits_small h10] at e
  refine ⟨by rw [Lib.decDigits_length]; omega, fun j hj => ?_⟩
  rw [Lib.decDigits_length] at hj
  have : (Lib.decDigits x)[j]? = some (Lib.dg x (Lib.nDigits x - 1 - j)) := by
    rw [Lib.decDigits_eq]; simp [hj]
  have h2 := (List.getElem?_eq_some_iff.1 this).2
  rw [h2]
  split
  · rename_i h0; subst h0
    unfold Lib.dg
    rw [e, show k + 1 - 1 - 0 = k by omega, ← hv, Nat.mod_eq_of_lt h10]
  · rw [hf (m + j) (by omega) (by omega)]
    congr 1; omega

theorem dec_convert (x m k v : Nat) (f : Nat → UInt8) (b : Nat) (wr : World) (hmk : m + k = 19) (hv : v = x / 10 ^ k) (hk : k < Lib.nDigits x) (h10 : v < 10) (hf : ∀ j, m < j → j < 20 → f j = Lib.dg x (19 - j))
    (hc : ∀ j, j < 20 → wr.cell? ⟨b, j, none⟩ = some (.int .u8 ((f j).toNat : Int))) :
    (convert 38 9 (.slice (some ⟨b, m, none⟩) (20 - m) (20 - m))).run Tryd.prog (wr.setCell ⟨b, m, none⟩ (.int .u8 (48 + (v : Int) % 10))) = .ok (.string ⟨(Lib.decDigits x).toArray⟩) (wr.setCell ⟨b, m, none⟩ (.int .u8 (48 + (v : Int) % 10))) := by
  obtain ⟨hl, hd⟩ := dec_end x m k v f hmk hv hk h10 hf
  have h := run_convert_bytes_back (P := Tryd.prog) (wr.setCell ⟨b, m, none⟩ (.int .u8 (48 + (v : Int) % 10))) 38 9 5 ⟨b, m, none⟩ (20 - m) (Lib.decDigits x) Tryd.underlying38 Tryd.underlying5 Tryd.underlying9 (fun j hj => by
    rw [hd j hj]
    have ea : (⟨b, m, none⟩ : Addr).add j = ⟨b, m + j, none⟩ := by simp [Addr.add]
    rw [ea]
    split
    · rename_i h0; subst h0
      rw [Nat.add_zero, World.cell?_setCell_same _ _ _ (hc m (by omega)), Pl.ofNat_toNat _ (by omega)]
      congr 2; omega
    · rw [World.cell?_setCell_other _ _ _ _ (fun e => by injection e; omega), hc (m + j) (by omega)])
  rw [hl] at h
  exact h

theorem dec_slice (b m : Nat) (hm : m ≤ 19) (w : World) :
    (Instr.sliceAt 37 (.pointer (some ⟨b, 0, none⟩)) (some (.int .i64 (m : Int))) none none).run Tryd.prog w = .ok (.slice (some ⟨b, m, none⟩) (20 - m) (20 - m)) w := by
  have ha : Tryd.prog.arrayLen 37 = 20 := by kernel_rfl
  have hel : Tryd.prog.elem 37 = 5 := by kernel_rfl
  have hsz : (sizeOf 5).run Tryd.prog w = .ok 1 w := by kernel_rfl
  rw [run_sliceAt_array_l w 37 ⟨b, 0, none⟩ (by rw [ha, hel]; exact Tryd.underlying37) .i64 (m : Int) (by omega) (by rw [ha]; omega), ha, hel, hsz]
  simp [slicedAt, Addr.add, show ¬ (20 = m) by omega]
  omega

set_option maxHeartbeats 400000 in
theorem decimalOf_any (x : Nat) (hx : x < 9223372036854775808) (w : World) :
    Calls Tryd.prog 9 #[.int .i64 x] w fun e w' => e = .returned (.string ⟨(Lib.decDigits x).toArray⟩) ∧ Below w.heap.size w w' := by
  have hx0 : ¬ ((x : Int) < 0) := by omega
  go_enter Tryd.func9, Tryd.ntmps9
  go_wp2
  go_loopw [4, 6] (fun u i wr => ∃ (m : Nat) (k : Nat) (v : Nat) (f : Nat → UInt8), m ≤ 19 ∧ Hid (m + k = 19) ∧ v < 9223372036854775808 ∧ i = .int .i64 ((m : Int) + 1) ∧ u = .int .u64 (v : Int) ∧ Hid (v = x / 10 ^ k) ∧ Hid (k < Lib.nDigits x) ∧
      Hid (∀ j, m < j → j < 20 → f j = Lib.dg x (19 - j)) ∧ (∀ j, j < 20 → wr.cell? ⟨w.heap.size, j, none⟩ = some (.int .u8 ((f j).toNat : Int))) ∧ (∀ j, wr.frozen? ⟨w.heap.size, j, none⟩ = false) ∧ Below w.heap.size w wr)
    (fun u _ _ => (intOf u).toNat)
  case atStart =>
    refine ⟨19, 0, x, fun _ => 0, by omega, rfl, hx, rfl, rfl, by simp [Hid], Lib.nDigits_pos x, fun j h1 h2 => by omega, fun j hj => ?_, fun j => ?_, (Below.refl _ _).alloc (Nat.le_refl _) _⟩
    · simp only [go_sem]
      exact zero20 j hj
    · simp [go_sem]
  case round =>
    obtain ⟨m, k, v, f, hm, Hmk, hv, rfl, rfl, Hv, Hk, Hf, hc, hfz, hnx⟩ := hrel
    have hck := hc m (by omega)
    have hfk := hfz m
    have hsl := dec_slice w.heap.size m hm
    by_cases h10 : v < 10
    · have hq : ((v : Int) / 10 == 0) = true := by simp; omega
      have hcv := dec_convert x m k v f w.heap.size wr Hmk Hv Hk h10 Hf hc
      clear hc hfz
      go_wp2
      go_ret
      exact ⟨rfl, hnx.setCell (Nat.le_refl _) _⟩
    · have hq : ((v : Int) / 10 == 0) = false := by simp; omega
      have Hc : Hid (∀ j, j < 20 → wr.cell? ⟨w.heap.size, j, none⟩ = some (.int .u8 ((f j).toNat : Int))) := hc
      have Hz : Hid (∀ j, wr.frozen? ⟨w.heap.size, j, none⟩ = false) := hfz
      clear hc hfz
      go_wp2
      go_roundw
      case rel =>
        have e := nDigits_after x k Hk.out
        have hb := Lib.nDigits_big h10
        have hp := Lib.nDigits_pos (v / 10)
        have hvk := Hv.out
        rw [← hvk] at e
        have hmk := Hmk.out
        have h20 := Lib.nDigits_le20 x (by omega)
        refine ⟨m - 1, k + 1, v / 10, fun j => if j = m then UInt8.ofNat (48 + v % 10) else f j, by omega, ?_, by omega, ?_, ?_, ?_, ?_, ?_, ?_, ?_, ?_⟩
        · show m - 1 + (k + 1) = 19
          omega
        · congr 1; omega
        · congr 1
        · show v / 10 = x / 10 ^ (k + 1)
          rw [hvk, div_pow_succ]
        · show k + 1 < Lib.nDigits x
          omega
        · intro j h1 h2
          show (if j = m then UInt8.ofNat (48 + v % 10) else f j) = _
          split
          · rename_i ej; subst ej
            unfold Lib.dg
            rw [show 19 - j = k by omega, ← hvk]
          · exact Hf.out j (by omega) h2
        · intro j hj
          show _ = some (Value.int .u8 (((if j = m then UInt8.ofNat (48 + v % 10) else f j).toNat : Nat) : Int))
          split
          · rename_i ej; subst ej
            rw [World.cell?_setCell_same _ _ _ (Hc.out j hj), Pl.ofNat_toNat _ (by omega)]
            congr 2
          · rw [World.cell?_setCell_other _ _ _ _ (fun e => by injection e; omega)]
            exact Hc.out j hj
        · intro j; rw [World.frozen?_setCell]; exact Hz.out j
        · exact hnx.setCell (Nat.le_refl _) _
      case measure => simp [intOf]; omega
end Go.Proofs.Qxb6002900aDoor
