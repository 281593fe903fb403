/-
  DERIVED. THE WALKS of zzEqual (10), zzCompare (11), zzDecimal (7: its length).
-/
import Derived.Test.Qxb6003233aDoorUtil
namespace Go.Proofs.Qxb6003233aDoor
open Go.RowKit

theorem drewN2 (w : World) (q r : Nat) : (w.drewN q).drewN r = w.drewN (q + r) := by simp [World.drewN, Nat.add_assoc]

/-! ### zzEqual -/
theorem equal_zero (b o c1 : Nat) (w : World) :
    Calls Tryd.prog 10 #[.slice (some ⟨b, o, none⟩) 0 c1, .slice none 0 0] w fun e w' => e = .returned (.bool true) ∧ ∃ q, w' = w.drewN q := by
  go_enter Tryd.func10, Tryd.ntmps10
  go_wp2
  go_loop [5] (fun i => i = .int .i64 0) (fun _ => 0)
  case atStart => rfl
  case round =>
    obtain rfl := hrel
    go_wp2
    go_ret
    exact ⟨rfl, 0, rfl⟩

set_option maxHeartbeats 1000000 in
theorem equal_lit (b1 b2 n c1 c2 : Nat) (l : List UInt8) (hn : n ≤ 1073741824) (w : World)
    (hc1 : ∀ j, j < n → w.cell? ⟨b1, j, none⟩ = some (.int .u8 ((l.getD j 0).toNat : Int))) (hc2 : ∀ j, j < n → w.cell? ⟨b2, j, none⟩ = some (.int .u8 ((l.getD j 0).toNat : Int))) :
    Calls Tryd.prog 10 #[.slice (some ⟨b1, 0, none⟩) n c1, .slice (some ⟨b2, 0, none⟩) n c2] w fun e w' => e = .returned (.bool true) ∧ ∃ q, w' = w.drewN q := by
  have hne : ((n : Int) != (n : Int)) = false := by simp
  have H1 : Hid (∀ j, j < n → w.cell? ⟨b1, j, none⟩ = some (.int .u8 ((l.getD j 0).toNat : Int))) := hc1
  have H2 : Hid (∀ j, j < n → w.cell? ⟨b2, j, none⟩ = some (.int .u8 ((l.getD j 0).toNat : Int))) := hc2
  clear hc1 hc2
  go_enter Tryd.func10, Tryd.ntmps10
  go_wp2
  go_loopw [5] (fun i wr => ∃ k q : Nat, k ≤ n ∧ i = .int .i64 k ∧ wr = w.drewN q) (fun i _ => n - (intOf i).toNat)
  case atStart => exact ⟨0, 0, Nat.zero_le _, rfl, rfl⟩
  case round =>
    obtain ⟨k, q, hk, rfl, rfl⟩ := hrel
    by_cases hlt : k < n
    · have hlt' : (k : Int) < (n : Int) := by omega
      have hd1 := H1.out k hlt
      have hd2 := H2.out k hlt
      obtain ⟨x, hx⟩ : ∃ x, l.getD k 0 = x := ⟨_, rfl⟩
      rw [hx] at hd1 hd2
      clear hx
      have hx2 : ((x.toNat : Int) != (x.toNat : Int)) = false := by simp
      go_wp2_with fail
      go_quiet (fail)
      go_wp2
      go_roundw
      case rel => exact ⟨k + 1, _, by omega, by go_num, rfl⟩
      case measure => simp [intOf]; omega
    · obtain rfl : k = n := by omega
      go_wp2
      go_ret
      exact ⟨rfl, _, rfl⟩

/-! ### zzCompare -/
set_option maxHeartbeats 1000000 in
theorem compare_lt (b1 b2 o n c1 c2 : Nat) (la lb : List UInt8) (hn : n ≤ 1073741824) (j : Nat) (hj : j < n) (hsame : ∀ k, k < j → la.getD k 0 = lb.getD k 0) (hlt : (la.getD j 0).toNat < (lb.getD j 0).toNat) (w : World)
    (hc1 : ∀ j, j < n → w.cell? ⟨b1, o + j, none⟩ = some (.int .u8 ((la.getD j 0).toNat : Int))) (hc2 : ∀ j, j < n → w.cell? ⟨b2, o + j, none⟩ = some (.int .u8 ((lb.getD j 0).toNat : Int))) :
    Calls Tryd.prog 11 #[.slice (some ⟨b1, o, none⟩) n c1, .slice (some ⟨b2, o, none⟩) n c2] w fun e w' => e = .returned (.int .i64 (-1)) ∧ ∃ q, w' = w.drewN q := by
  have H1 : Hid (∀ j, j < n → w.cell? ⟨b1, o + j, none⟩ = some (.int .u8 ((la.getD j 0).toNat : Int))) := hc1
  have H2 : Hid (∀ j, j < n → w.cell? ⟨b2, o + j, none⟩ = some (.int .u8 ((lb.getD j 0).toNat : Int))) := hc2
  have HS : Hid (∀ k, k < j → la.getD k 0 = lb.getD k 0) := hsame
  have HL : Hid ((la.getD j 0).toNat < (lb.getD j 0).toNat) := hlt
  clear hc1 hc2 hsame hlt
  go_enter Tryd.func11, Tryd.ntmps11
  go_wp2
  go_loopw [5] (fun i wr => ∃ k q : Nat, k ≤ j ∧ i = .int .i64 k ∧ wr = w.drewN q) (fun i _ => j - (intOf i).toNat)
  case atStart => exact ⟨0, 0, Nat.zero_le _, rfl, rfl⟩
  case round =>
    obtain ⟨k, q, hk, rfl, rfl⟩ := hrel
    have hkn : (k : Int) < (n : Int) := by omega
    have hd1 := H1.out k (by omega)
    have hd2 := H2.out k (by omega)
    by_cases hlt : k < j
    · have he := HS.out k hlt
      rw [← he] at hd2
      obtain ⟨x, hx⟩ : ∃ x, la.getD k 0 = x := ⟨_, rfl⟩
      rw [hx] at hd1 hd2
      clear hx he
      have hx2 : ¬ ((x.toNat : Int) < (x.toNat : Int)) := by omega
      go_wp2_with fail
      go_quiet (fail)
      go_wp2_with fail
      go_quiet (fail)
      go_wp2
      go_roundw
      case rel => exact ⟨k + 1, _, by omega, by go_num, rfl⟩
      case measure => simp [intOf]; omega
    · obtain rfl : k = j := by omega
      have hl := HL.out
      obtain ⟨x, hx⟩ : ∃ x, la.getD k 0 = x := ⟨_, rfl⟩
      obtain ⟨y, hy⟩ : ∃ y, lb.getD k 0 = y := ⟨_, rfl⟩
      rw [hx] at hd1 hl
      rw [hy] at hd2 hl
      clear hx hy
      have hx2 : (x.toNat : Int) < (y.toNat : Int) := by omega
      clear hl
      go_wp2_with fail
      go_quiet (fail)
      go_wp2
      go_ret
      exact ⟨rfl, _, drewN2 _ _ _⟩

set_option maxHeartbeats 1000000 in
theorem compare_gt (b1 b2 o n c1 c2 : Nat) (la lb : List UInt8) (hn : n ≤ 1073741824) (j : Nat) (hj : j < n) (hsame : ∀ k, k < j → la.getD k 0 = lb.getD k 0) (hlt : (lb.getD j 0).toNat < (la.getD j 0).toNat) (w : World)
    (hc1 : ∀ j, j < n → w.cell? ⟨b1, o + j, none⟩ = some (.int .u8 ((la.getD j 0).toNat : Int))) (hc2 : ∀ j, j < n → w.cell? ⟨b2, o + j, none⟩ = some (.int .u8 ((lb.getD j 0).toNat : Int))) :
    Calls Tryd.prog 11 #[.slice (some ⟨b1, o, none⟩) n c1, .slice (some ⟨b2, o, none⟩) n c2] w fun e w' => e = .returned (.int .i64 1) ∧ ∃ q, w' = w.drewN q := by
  have H1 : Hid (∀ j, j < n → w.cell? ⟨b1, o + j, none⟩ = some (.int .u8 ((la.getD j 0).toNat : Int))) := hc1
  have H2 : Hid (∀ j, j < n → w.cell? ⟨b2, o + j, none⟩ = some (.int .u8 ((lb.getD j 0).toNat : Int))) := hc2
  have HS : Hid (∀ k, k < j → la.getD k 0 = lb.getD k 0) := hsame
  have HL : Hid ((lb.getD j 0).toNat < (la.getD j 0).toNat) := hlt
  clear hc1 hc2 hsame hlt
  go_enter Tryd.func11, Tryd.ntmps11
  go_wp2
  go_loopw [5] (fun i wr => ∃ k q : Nat, k ≤ j ∧ i = .int .i64 k ∧ wr = w.drewN q) (fun i _ => j - (intOf i).toNat)
  case atStart => exact ⟨0, 0, Nat.zero_le _, rfl, rfl⟩
  case round =>
    obtain ⟨k, q, hk, rfl, rfl⟩ := hrel
    have hkn : (k : Int) < (n : Int) := by omega
    have hd1 := H1.out k (by omega)
    have hd2 := H2.out k (by omega)
    by_cases hlt : k < j
    · have he := HS.out k hlt
      rw [← he] at hd2
      obtain ⟨x, hx⟩ : ∃ x, la.getD k 0 = x := ⟨_, rfl⟩
      rw [hx] at hd1 hd2
      clear hx he
      have hx2 : ¬ ((x.toNat : Int) < (x.toNat : Int)) := by omega
      go_wp2_with fail
      go_quiet (fail)
      go_wp2_with fail
      go_quiet (fail)
      go_wp2
      go_roundw
      case rel => exact ⟨k + 1, _, by omega, by go_num, rfl⟩
      case measure => simp [intOf]; omega
    · obtain rfl : k = j := by omega
      have hl := HL.out
      obtain ⟨x, hx⟩ : ∃ x, la.getD k 0 = x := ⟨_, rfl⟩
      obtain ⟨y, hy⟩ : ∃ y, lb.getD k 0 = y := ⟨_, rfl⟩
      rw [hx] at hd1 hl
      rw [hy] at hd2 hl
      clear hx hy
      have hx2 : (y.toNat : Int) < (x.toNat : Int) := by omega
      have hx3 : ¬ ((x.toNat : Int) < (y.toNat : Int)) := by omega
      clear hl
      go_wp2_with fail
      go_quiet (fail)
      go_wp2_with fail
      go_quiet (fail)
      go_wp2
      go_ret
      exact ⟨rfl, _, by rw [drewN2, drewN2]⟩

set_option maxHeartbeats 1000000 in
theorem compare_eq (b1 b2 o n c1 c2 : Nat) (la : List UInt8) (hn : n ≤ 1073741824) (w : World)
    (hc1 : ∀ j, j < n → w.cell? ⟨b1, o + j, none⟩ = some (.int .u8 ((la.getD j 0).toNat : Int))) (hc2 : ∀ j, j < n → w.cell? ⟨b2, o + j, none⟩ = some (.int .u8 ((la.getD j 0).toNat : Int))) :
    Calls Tryd.prog 11 #[.slice (some ⟨b1, o, none⟩) n c1, .slice (some ⟨b2, o, none⟩) n c2] w fun e w' => e = .returned (.int .i64 0) ∧ ∃ q, w' = w.drewN q := by
  have H1 : Hid (∀ j, j < n → w.cell? ⟨b1, o + j, none⟩ = some (.int .u8 ((la.getD j 0).toNat : Int))) := hc1
  have H2 : Hid (∀ j, j < n → w.cell? ⟨b2, o + j, none⟩ = some (.int .u8 ((la.getD j 0).toNat : Int))) := hc2
  clear hc1 hc2
  have hnn : ¬ ((n : Int) < (n : Int)) := by omega
  go_enter Tryd.func11, Tryd.ntmps11
  go_wp2
  go_loopw [5] (fun i wr => ∃ k q : Nat, k ≤ n ∧ i = .int .i64 k ∧ wr = w.drewN q) (fun i _ => n - (intOf i).toNat)
  case atStart => exact ⟨0, 0, Nat.zero_le _, rfl, rfl⟩
  case round =>
    obtain ⟨k, q, hk, rfl, rfl⟩ := hrel
    by_cases hlt : k < n
    · have hkn : (k : Int) < (n : Int) := by omega
      have hd1 := H1.out k (by omega)
      have hd2 := H2.out k (by omega)
      obtain ⟨x, hx⟩ : ∃ x, la.getD k 0 = x := ⟨_, rfl⟩
      rw [hx] at hd1 hd2
      clear hx
      have hx2 : ¬ ((x.toNat : Int) < (x.toNat : Int)) := by omega
      go_wp2_with fail
      go_quiet (fail)
      go_wp2_with fail
      go_quiet (fail)
      go_wp2
      go_roundw
      case rel => exact ⟨k + 1, _, by omega, by go_num, rfl⟩
      case measure => simp [intOf]; omega
    · obtain rfl : k = n := by omega
      go_wp2
      go_ret
      exact ⟨rfl, _, rfl⟩
end Go.Proofs.Qxb6003233aDoor
