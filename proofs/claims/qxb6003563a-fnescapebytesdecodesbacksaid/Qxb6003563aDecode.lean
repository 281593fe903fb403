/-
  DERIVED. THE WALKS of zzB2HexVal (function 14) at a digit, zzB2DecodeStrict (8) at an escaped text, zzB2BytesEqual (9) at equal rows.
-/
import Derived.Test.Qxb6003563aClone
import Derived.Deep.QuietTactic
import Derived.BigQuiet
namespace Go.Proofs.Qxb6003563a
open Go.RowKit

theorem hexval_any (n : Nat) (h : n < 16) (z : UInt8) (hz : z = Pl.hexd n) (w : World) :
    Calls Try.prog 14 #[.int .u8 (z.toNat : Int)] w fun e w' => e = .returned (.tuple #[.int .u8 (n : Int), .bool true]) ∧ w = w' := by
  have hn := Pl.hexd_toNat n h
  rw [← hz] at hn
  clear hz
  by_cases h10 : n < 10
  · rw [if_pos h10] at hn
    have h1 : (48 : Int) ≤ (z.toNat : Int) := by omega
    have h2 : (z.toNat : Int) ≤ 57 := by omega
    have e : (z.toNat : Int) - 48 = (n : Int) := by omega
    clear hn
    go_enter Try.func14, Try.ntmps14
    go_wp2
    go_ret2
    exact ⟨rfl, rfl⟩
  · rw [if_neg h10] at hn
    have h1 : (65 : Int) ≤ (z.toNat : Int) := by omega
    have h2 : (z.toNat : Int) ≤ 70 := by omega
    have e : (z.toNat : Int) - 65 + 10 = (n : Int) := by omega
    clear hn
    go_enter Try.func14, Try.ntmps14
    go_wp2
    go_ret2
    exact ⟨rfl, rfl⟩

theorem or_fin : ∀ n : Fin 256, bits BinOp.or IntKind.u8 ((n.val : Int) / 16 * 16) ((n.val : Int) % 16) = (n.val : Int) := by decide +kernel

theorem unres_at (x : UInt8) (w : World) : Calls Try.prog 12 #[.int .u8 (x.toNat : Int)] w fun e w' => e = .returned (.bool (Pl.unres x)) ∧ w = w' :=
  (unres_any x w).mono fun _ _ ⟨he, hw⟩ => ⟨he, hw.symm⟩

theorem made0_run (n : Nat) (hn : n ≤ 3145728) (w : World) :
    (Instr.makeSlice 22 (.int .i64 0) (.int .i64 (n : Int))).run Try.prog w = .ok (.slice (some ⟨w.heap.size, 0, none⟩) 0 n) (w.alloc (.cells (madeRow n) 5)) := by
  obtain ⟨i, hi, hz, hs, hb⟩ := info_parts info5
  have := run_make (P := Try.prog) w 22 5 i (.int .u8 0) Try.underlying22 hi hz .i64 .i64 0 (n : Int) (by omega) (by omega) (by rw [hb]; omega) (by omega)
  rw [hs] at this
  simpa [madeRow] using this

theorem esc_append (l m : List UInt8) : Pl.esc (l ++ m) = Pl.esc l ++ Pl.esc m := by simp [Pl.esc]
/-- Where the k-th byte's piece lies in the text. -/
theorem at_esc (xs : List UInt8) (k : Nat) (h : k < xs.length) (j : Nat) (hj : j < (Pl.esc1 (xs.getD k 0)).length) :
    (Pl.esc xs)[(Pl.esc (xs.take k)).length + j]? = (Pl.esc1 (xs.getD k 0))[j]? := by
  have e : xs = xs.take k ++ xs.getD k 0 :: xs.drop (k + 1) := by
    have : xs.getD k 0 = xs[k] := by rw [List.getD_eq_getElem?_getD, List.getElem?_eq_getElem h]; rfl
    rw [this, ← List.drop_eq_getElem_cons h, List.take_append_drop]
  have e2 : Pl.esc xs = Pl.esc (xs.take k) ++ (Pl.esc1 (xs.getD k 0) ++ Pl.esc (xs.drop (k + 1))) := by
    conv => lhs; rw [e]
    simp [Pl.esc]
  rw [e2, List.getElem?_append_right (by omega), List.getElem?_append_left (by omega)]
  congr 1; omega
theorem len_next (xs : List UInt8) (k : Nat) (h : k < xs.length) : (Pl.esc (xs.take (k + 1))).length = (Pl.esc (xs.take k)).length + (Pl.esc1 (xs.getD k 0)).length := by
  rw [take_next xs k h, Pl.esc_snoc, List.length_append]
theorem len_part (xs : List UInt8) (k : Nat) : (Pl.esc (xs.take k)).length ≤ (Pl.esc xs).length := by
  have : Pl.esc xs = Pl.esc (xs.take k) ++ Pl.esc (xs.drop k) := by
    rw [← esc_append, List.take_append_drop]
  rw [this, List.length_append]; omega
def cellsOf (xs : List UInt8) : List Value := xs.map fun x => Value.int .u8 (x.toNat : Int)
theorem cells_next (xs : List UInt8) (k : Nat) (h : k < xs.length) : cellsOf (xs.take (k + 1)) = cellsOf (xs.take k) ++ [.int .u8 ((xs.getD k 0).toNat : Int)] := by
  rw [take_next xs k h]; simp [cellsOf]
theorem size_mk (l : List UInt8) : (⟨l.toArray⟩ : ByteArray).size = l.length := by simp [ByteArray.size]
theorem bytes_at (s : ByteArray) (l : List UInt8) (h : s = ⟨l.toArray⟩) (k : Nat) (c : UInt8) (hc : l[k]? = some c) : ∃ hk : k < s.size, s[k] = c := by
  subst h
  obtain ⟨h1, h2⟩ := List.getElem?_eq_some_iff.1 hc
  exact ⟨by rw [size_mk]; exact h1, h2⟩

set_option maxHeartbeats 1000000 in
theorem decode_any (xs : List UInt8) (hn : xs.length ≤ 1048576) (s : ByteArray) (hs : s = ⟨(Pl.esc xs).toArray⟩) (w : World) :
    Calls Try.prog 8 #[.string s] w fun e w' => e = .returned (.tuple #[.slice (some ⟨w.heap.size, 0, none⟩) xs.length s.size, .bool true]) ∧
      w'.ownsRow w.heap.size 5 1 (.slice (some ⟨w.heap.size, 0, none⟩) xs.length s.size) xs.length (cellsOf xs) ∧ Below w.heap.size w w' := by
  have hlen := Pl.esc_len xs
  have hss : s.size = (Pl.esc xs).length := by rw [hs, size_mk]
  have hcap : s.size ≤ 3145728 := by omega
  have hnl : xs.length ≤ s.size := by omega
  have hmk := made0_run s.size hcap
  have hown0 := World.ownsRow_made (base := w.heap.size) (e := 5) (size := 1) w (madeRow s.size) s.size (Nat.le_refl _) (by unfold maxLen; omega) (by unfold madeRow; rw [size_madeCells])
  obtain ⟨i0, hi, hz0, hz1, hz2⟩ := info_parts info5
  have Hs : Hid (s = ⟨(Pl.esc xs).toArray⟩) := hs
  have Hss : Hid (s.size = (Pl.esc xs).length) := hss
  clear hs hss hlen
  go_enter Try.func8, Try.ntmps8
  go_wp2
  go_loopw [4, 5] (fun v i wr => ∃ (k p : Nat), k ≤ xs.length ∧ p ≤ s.size ∧ i = .int .i64 (p : Int) ∧ Hid (p = (Pl.esc (xs.take k)).length) ∧ v = .slice (some ⟨w.heap.size, 0, none⟩) k s.size ∧
      wr.ownsRow w.heap.size 5 1 (.slice (some ⟨w.heap.size, 0, none⟩) k s.size) k (cellsOf (xs.take k)) ∧ Below w.heap.size w wr) (fun _ i _ => s.size - (intOf i).toNat)
  case atStart => exact ⟨0, 0, Nat.zero_le _, Nat.zero_le _, rfl, rfl, rfl, hown0, (Below.refl _ _).alloc (Nat.le_refl _) _⟩
  case round =>
    obtain ⟨k, p, hk, hp, rfl, Hp, rfl, hown, hnx⟩ := hrel
    clear hmk hown0
    by_cases hlt : k < xs.length
    · have hat := at_esc xs k hlt
      have hln := len_next xs k hlt
      have hpart := len_part xs (k + 1)
      have hcn := cells_next xs k hlt
      rw [← Hp.out] at hat hln
      obtain ⟨x, hxx⟩ : ∃ x, xs.getD k 0 = x := ⟨_, rfl⟩
      rw [hxx] at hat hln hcn
      have hss := Hss.out
      have HC : Hid (cellsOf (xs.take (k + 1)) = cellsOf (xs.take k) ++ [.int .u8 (x.toNat : Int)]) := hcn
      have hszr := hnx.size
      clear hcn hxx
      cases hu : Pl.unres x
      · rw [Pl.esc1_no hu] at hat hln
        have hx255 := x.toNat_lt
        obtain ⟨h1, hs0⟩ := bytes_at s _ Hs.out p 37 (hat 0 (by simp))
        obtain ⟨h2, hs1⟩ := bytes_at s _ Hs.out (p + 1) (Pl.hexd (x.toNat / 16)) (hat 1 (by simp))
        obtain ⟨h3, hs2⟩ := bytes_at s _ Hs.out (p + 2) (Pl.hexd (x.toNat % 16)) (hat 2 (by simp))
        have hps : (p : Int) < (s.size : Int) := by omega
        have hps2 : ¬ ((s.size : Int) ≤ (p : Int) + 2) := by omega
        have h37 : ((s[p].toNat : Int) == 37) = true := by rw [hs0]; rfl
        have k1 := fun w => hexval_any (x.toNat / 16) (by omega) s[p + 1] hs1 w
        have k2 := fun w => hexval_any (x.toNat % 16) (by omega) s[p + 2] hs2 w
        have k12 := fun w => unres_at x w
        rw [hu] at k12
        have hor : bits BinOp.or IntKind.u8 ((x.toNat : Int) / 16 * 16) ((x.toNat : Int) % 16) = (x.toNat : Int) := or_fin ⟨x.toNat, hx255⟩
        have HL : Hid (p + 3 = (Pl.esc (xs.take (k + 1))).length) := hln.symm
        have hp1 : p + 3 ≤ s.size := by omega
        obtain ⟨X, hX⟩ : ∃ X, cellsOf (xs.take k) = X := ⟨_, rfl⟩
        rw [hX] at hown HC
        clear hat hln hpart hss hu hs0 hs1 hs2 hX
        have hb1 : 0 ≤ (p : Int) + 1 ∧ (p : Int) + 1 < (s.size : Int) := by omega
        have hb2 : 0 ≤ (p : Int) + 2 ∧ (p : Int) + 2 < (s.size : Int) := by omega
        go_wp2_with fail
        refine (k1 _).mono ?_
        rintro e w2 ⟨rfl, rfl⟩
        go_wp2_with fail
        refine (k2 _).mono ?_
        rintro e w2 ⟨rfl, rfl⟩
        clear k1 k2
        go_wp2_with (first | (go_at_call 12; refine (k12 _).mono ?_; rintro e w2 ⟨rfl, rfl⟩) | (at_builtin; refine wpList_append_fits _ rfl _ _ 22 rfl w.heap.size 5 i0 1 Try.underlying22 hi hz1 w.heap.size k s.size X rfl (hown.alloc _) ⟨wr.heap.size, 0, none⟩ 1 1 [.int .u8 (x.toNat : Int)] rfl rfl (cell_one_new _ _ _) (by simp; rfl) (by omega) ?_) | go_in)
        intro w3 hown3 hg3
        have hb3 : Below w.heap.size w w3 := (hnx.alloc hszr _).grown hg3 (by simp; omega) (fun q e => by cases e; exact Nat.le_refl _)
        have HO : Hid (w3.ownsRow w.heap.size 5 1 (.slice (some ⟨w.heap.size, 0, none⟩) (k + 1) s.size) (k + 1) (X ++ [.int .u8 (x.toNat : Int)])) := hown3
        clear hown3 hg3 hown
        go_wp2
        go_roundw
        case rel => exact ⟨k + 1, p + 3, by omega, hp1, by go_num, HL, rfl, by rw [HC.out]; exact HO.out, hb3⟩
        case measure => simp [intOf]; omega
      · rw [Pl.esc1_yes hu] at hat hln
        obtain ⟨h1, hsx⟩ := bytes_at s _ Hs.out p x (hat 0 (by simp))
        have hps : (p : Int) < (s.size : Int) := by omega
        have h37 : ((s[p].toNat : Int) == 37) = false := by
          rw [hsx]
          refine beq_eq_false_iff_ne.2 fun e => ?_
          have : x.toNat = 37 := by omega
          simp [Pl.unres, this] at hu
        have k12 := fun w => unres_at s[p] w
        rw [show Pl.unres s[p] = true by rw [hsx]; exact hu] at k12
        have HL : Hid (p + 1 = (Pl.esc (xs.take (k + 1))).length) := hln.symm
        have hp1 : p + 1 ≤ s.size := by omega
        have Hsx : Hid (s[p] = x) := hsx
        obtain ⟨X, hX⟩ : ∃ X, cellsOf (xs.take k) = X := ⟨_, rfl⟩
        rw [hX] at hown HC
        clear hat hln hpart hss hu hsx hX
        go_wp2_with (first | (go_at_call 12; refine (k12 _).mono ?_; rintro e w2 ⟨rfl, rfl⟩) | (at_builtin; refine wpList_append_fits _ rfl _ _ 22 rfl w.heap.size 5 i0 1 Try.underlying22 hi hz1 w.heap.size k s.size X rfl (hown.alloc _) ⟨wr.heap.size, 0, none⟩ 1 1 [.int .u8 (s[p].toNat : Int)] rfl rfl (cell_one_new _ _ _) (by simp; rfl) (by omega) ?_) | go_in)
        intro w3 hown3 hg3
        have hb3 : Below w.heap.size w w3 := (hnx.alloc hszr _).grown hg3 (by simp; omega) (fun q e => by cases e; exact Nat.le_refl _)
        have HO : Hid (w3.ownsRow w.heap.size 5 1 (.slice (some ⟨w.heap.size, 0, none⟩) (k + 1) s.size) (k + 1) (X ++ [.int .u8 (s[p].toNat : Int)])) := hown3
        clear hown3 hg3 hown
        go_wp2
        go_roundw
        case rel => exact ⟨k + 1, p + 1, by omega, hp1, by go_num, HL, rfl, by rw [HC.out, ← Hsx.out]; exact HO.out, hb3⟩
        case measure => simp [intOf]; omega
    · obtain rfl : k = xs.length := by omega
      have hpe : p = s.size := by rw [Hp.out, Hss.out, List.take_of_length_le (Nat.le_refl _)]
      subst hpe
      rw [List.take_of_length_le (Nat.le_refl _)] at hown
      go_wp2
      go_ret2
      exact ⟨rfl, hown, hnx⟩

/-! ### zzB2BytesEqual -/
set_option maxHeartbeats 1000000 in
theorem equal_some (b1 b2 n c1 c2 : Nat) (xs : List UInt8) (hn : n ≤ 1048576) (w : World)
    (hc1 : ∀ j, j < n → w.cell? ⟨b1, j, none⟩ = some (.int .u8 ((xs.getD j 0).toNat : Int))) (hc2 : ∀ j, j < n → w.cell? ⟨b2, j, none⟩ = some (.int .u8 ((xs.getD j 0).toNat : Int))) :
    Calls Try.prog 9 #[.slice (some ⟨b1, 0, none⟩) n c1, .slice (some ⟨b2, 0, none⟩) n c2] w fun e w' => e = .returned (.bool true) ∧ Below w.heap.size w w' := by
  have hne : ((n : Int) != (n : Int)) = false := by simp
  have H1 : Hid (∀ j, j < n → w.cell? ⟨b1, j, none⟩ = some (.int .u8 ((xs.getD j 0).toNat : Int))) := hc1
  have H2 : Hid (∀ j, j < n → w.cell? ⟨b2, j, none⟩ = some (.int .u8 ((xs.getD j 0).toNat : Int))) := hc2
  clear hc1 hc2
  go_enter Try.func9, Try.ntmps9
  go_wp2
  go_loopw [5] (fun i wr => ∃ k q : Nat, k ≤ n ∧ i = .int .i64 k ∧ wr = w.drewN q) (fun i _ => n - (intOf i).toNat)
  case atStart => exact ⟨0, 0, Nat.zero_le _, rfl, rfl⟩
  case round =>
    obtain ⟨k, q, hk, rfl, rfl⟩ := hrel
    by_cases hlt : k < n
    · have hlt' : (k : Int) < (n : Int) := by omega
      have hd1 := H1.out k hlt
      have hd2 := H2.out k hlt
      obtain ⟨x, hx⟩ : ∃ x, xs.getD k 0 = x := ⟨_, rfl⟩
      rw [hx] at hd1 hd2
      clear hx
      have hx2 : ((x.toNat : Int) != (x.toNat : Int)) = false := by simp
      go_wp2_with fail
      go_quiet (fail)
      go_wp2
      go_roundw
      case rel => exact ⟨k + 1, _, by omega, by go_num, (by first | rfl | exact World.drewN_drewN _ _ _)⟩
      case measure => simp [intOf]; omega
    · obtain rfl : k = n := by omega
      go_wp2
      go_ret
      exact ⟨rfl, below_drewN (Below.refl _ _) _⟩
end Go.Proofs.Qxb6003563a
