/-
  DERIVED. THE WALKS of zzCloneStrs (13), zzAppendStr (21), zzBytes (20).
-/
import Derived.Test.Qxb6003233aDoorQry
namespace Go.Proofs.Qxb6003233aDoor
open Go.RowKit

/-! ### zzCloneStrs -/
theorem info9 : (Tryd.prog.info? 9).map (fun i => (i.zero, i.size, i.bytes)) = some (some (.string ByteArray.empty), 1, 16) := by kernel_rfl
def madeStrs (n : Nat) : Array Value := madeCells (Value.string ByteArray.empty).cells (n * 1)
theorem madeStrs_run (n : Nat) (hn : n ≤ 1048576) (w : World) :
    (Instr.makeSlice 29 (.int .i64 (n : Int)) (.int .i64 (n : Int))).run Tryd.prog w = .ok (.slice (some ⟨w.heap.size, 0, none⟩) n n) (w.alloc (.cells (madeStrs n) 9)) := by
  obtain ⟨i, hi, hz, hs, hb⟩ := info_parts info9
  have := run_make (P := Tryd.prog) w 29 9 i (.string ByteArray.empty) Tryd.underlying29 hi hz .i64 .i64 (n : Int) (n : Int) (by omega) (by omega) (by rw [hb]; omega) (by omega)
  rw [hs] at this
  simpa [madeStrs] using this

/-- Block g is a row of m strings; the first k are hash's. -/
def StrRow (g m k : Nat) (hash : Nat → ByteArray) (w : World) : Prop := ∃ arr : Array Value, w.heap[g]? = some (.cells arr 9 (0, 0)) ∧ arr.size = m ∧ ∀ j, j < k → arr[j]? = some (.string (hash j))
theorem StrRow.cell {g m k : Nat} {hash : Nat → ByteArray} {w : World} (h : StrRow g m k hash w) (j : Nat) (hj : j < k) : w.cell? ⟨g, j, none⟩ = some (.string (hash j)) := by
  obtain ⟨arr, hg, _, hc⟩ := h
  simp only [World.cell?, hg]; exact hc j hj
theorem StrRow.some {g m k : Nat} {hash : Nat → ByteArray} {w : World} (h : StrRow g m k hash w) (j : Nat) (hj : j < m) : ∃ u, w.cell? ⟨g, j, none⟩ = some u := by
  obtain ⟨arr, hg, hm, hc⟩ := h
  simp only [World.cell?, hg]; exact ⟨_, Array.getElem?_eq_getElem (by omega)⟩
theorem StrRow.frozen {g m k : Nat} {hash : Nat → ByteArray} {w : World} (h : StrRow g m k hash w) (j : Nat) : w.frozen? ⟨g, j, none⟩ = false := by
  obtain ⟨arr, hg, _⟩ := h
  simp [World.frozen?, hg]
theorem StrRow.lt {g m k : Nat} {hash : Nat → ByteArray} {w : World} (h : StrRow g m k hash w) : g < w.heap.size := by
  obtain ⟨arr, hg, _⟩ := h
  exact (Array.getElem?_eq_some_iff.1 hg).1
theorem StrRow.set {g m k : Nat} {hash : Nat → ByteArray} {w : World} (h : StrRow g m k hash w) (hk : k < m) : StrRow g m (k + 1) hash (w.setCell ⟨g, k, none⟩ (.string (hash k))) := by
  obtain ⟨arr, hg, hm, hc⟩ := h
  rw [setCell_eq_setRow w g k arr 9 (0, 0) _ hg]
  refine ⟨_, setRow_heap w g arr _ 9 (0, 0) hg, by simpa using hm, fun j hj => ?_⟩
  by_cases e : k = j
  · subst e; simp [show k < arr.size by omega]
  · rw [Array.getElem?_setIfInBounds_ne e]; exact hc j (by omega)

theorem cloneStrs_any (x : Addr) (m c : Nat) (hash : Nat → ByteArray) (w : World) (hm : m ≤ 65536) (hx : 0 < m → x.block < w.heap.size) (hh : ∀ j, j < m → w.cell? (x.add j) = some (.string (hash j))) :
    Calls Tryd.prog 13 #[.slice (some x) m c] w fun e w' => e = .returned (.slice (some ⟨w.heap.size, 0, none⟩) m m) ∧ StrRow w.heap.size m m hash w' ∧ Below w.heap.size w w' := by
  have hne : ∀ w, (binOp .eql 29 (.slice (some x) m c) (.slice none 0 0)).run Tryd.prog w = .ok (.bool false) w := fun w => Lib.run_eql_slice_nil w 29 9 (some x) m c 0 0 Tryd.underlying29
  have hmk := madeStrs_run m (by omega)
  have Hh : Hid (∀ j, j < m → w.cell? (x.add j) = some (.string (hash j))) := hh
  have H0 : Hid (StrRow w.heap.size m 0 hash (w.alloc (.cells (madeStrs m) 9))) := ⟨_, heap_alloc_new w _, by unfold madeStrs; rw [size_madeCells]; omega, fun j hj => absurd hj (by omega)⟩
  clear hh
  go_enter Tryd.func13, Tryd.ntmps13
  go_wp2
  go_loopw [4] (fun i wr => ∃ k : Nat, k ≤ m ∧ i = .int .i64 k ∧ StrRow w.heap.size m k hash wr ∧ Below w.heap.size w wr) (fun i _ => m - (intOf i).toNat)
  case atStart => exact ⟨0, Nat.zero_le _, rfl, H0.out, (Below.refl _ _).alloc (Nat.le_refl _) _⟩
  case round =>
    obtain ⟨k, hk, rfl, hS, hb⟩ := hrel
    have HS := Lib.hid hS
    have Hb := Lib.hid hb
    by_cases hlt : k < m
    · have hlt' : (k : Int) < (m : Int) := by omega
      have hd : wr.cell? (x.add k) = some (.string (hash k)) := by rw [hb.cell (by rw [add_block]; exact hx (by omega))]; exact Hh.out k hlt
      obtain ⟨u, hu⟩ := hS.some k hlt
      have hfz := hS.frozen k
      clear hS hb
      go_wp2
      go_roundw
      case rel => exact ⟨k + 1, by omega, by go_num, HS.out.set hlt, Hb.out.setCell (p := ⟨w.heap.size, k, none⟩) (Nat.le_refl _) _⟩
      case measure => simp [intOf]; omega
    · obtain rfl : k = m := by omega
      have hge : ¬ ((k : Int) < (k : Int)) := by omega
      clear hS hb
      go_wp2
      go_ret
      exact ⟨rfl, HS.out, Hb.out⟩

/-! ### zzAppendStr -/
theorem made_owns (w : World) (n : Nat) (hn : n ≤ 1073741824) : (w.alloc (.cells (madeRow n) 5)).ownsRow w.heap.size 5 1 (.slice (some ⟨w.heap.size, 0, none⟩) 0 n) 0 (cellsOf []) := by
  refine ⟨rfl, .inr ⟨w.heap.size, n, madeRow n, rfl, Nat.le_refl _, heap_alloc_new w _, Nat.zero_le _, by unfold maxLen; omega, ?_, by simp [cellsOf]⟩⟩
  unfold madeRow; rw [size_madeCells]
theorem take_next (l : List UInt8) (k : Nat) (h : k < l.length) : l.take k ++ [l.getD k 0] = l.take (k + 1) := by
  rw [List.take_add_one, List.getElem?_eq_getElem h, List.getD_eq_getElem?_getD, List.getElem?_eq_getElem h]; rfl

theorem str_len (s : ByteArray) : s.data.toList.length = s.size := by rw [Array.length_toList]; rfl
theorem str_next (s : ByteArray) (j : Nat) (h : j < s.size) : s.data.toList.take j ++ [s[j]'h] = s.data.toList.take (j + 1) := by
  rw [List.take_add_one, List.getElem?_eq_getElem (by rw [str_len]; exact h)]; rfl

set_option maxHeartbeats 2000000 in
theorem appendStr_any (g n cap : Nat) (l : List UInt8) (s : ByteArray) (w : World) (hl : l.length = n) (hg : g < w.heap.size) (hc : ∀ j, j < n → w.cell? ⟨g, j, none⟩ = some (.int .u8 ((l.getD j 0).toNat : Int))) (hn : n ≤ 1073741000) (hs : s.size ≤ 100) :
    Calls Tryd.prog 21 #[.slice (some ⟨g, 0, none⟩) n cap, .string s] w fun e w' => ∃ v', e = .returned v' ∧ w'.ownsRow w.heap.size 5 1 v' (n + s.size) (cellsOf (l ++ s.data.toList)) ∧ v' ≠ .slice none 0 0 ∧ Below w.heap.size w w' := by
  have hmk : ∀ w, (Instr.makeSlice 22 (.int .i64 0) (.int .i64 ((n : Int) + (s.size : Int)))).run Tryd.prog w = .ok (.slice (some ⟨w.heap.size, 0, none⟩) 0 (n + s.size)) (w.alloc (.cells (madeRow (n + s.size)) 5)) := fun w => by
    have := made_run 0 (n + s.size) (Nat.zero_le _) (by omega) w
    rw [Int.natCast_add] at this
    exact this
  have H0 : Hid (After w.heap.size w 0 [] (.slice (some ⟨w.heap.size, 0, none⟩) 0 (n + s.size)) (w.alloc (.cells (madeRow (n + s.size)) 5))) :=
    ⟨made_owns w (n + s.size) (by omega), (Below.refl _ _).alloc (Nat.le_refl _) _, (Lib.OthersKept.refl _ _ _).alloc _, by simp⟩
  have Hc : Hid (∀ j, j < n → w.cell? ⟨g, j, none⟩ = some (.int .u8 ((l.getD j 0).toNat : Int))) := hc
  have Hl : Hid (l.length = n) := hl
  clear hc hl
  go_enter Tryd.func21, Tryd.ntmps21
  go_wp2
  go_loopw [5, 6] (fun d i wr => ∃ k : Nat, k ≤ n ∧ i = .int .i64 k ∧ After w.heap.size w k (l.take k) d wr) (fun _ i _ => n - (intOf i).toNat)
  case atStart => exact ⟨0, Nat.zero_le _, rfl, by simpa using H0.out⟩
  case round =>
    obtain ⟨k, hk, rfl, hA⟩ := hrel
    have HA := Lib.hid hA
    by_cases hlt : k < n
    · have hlt' : (k : Int) < (n : Int) := by omega
      have hd : wr.cell? ⟨g, k, none⟩ = some (.int .u8 ((l.getD k 0).toNat : Int)) := by rw [hA.2.1.cell hg]; exact Hc.out k hlt
      obtain ⟨b, hb⟩ : ∃ b, l.getD k 0 = b := ⟨_, rfl⟩
      have Hn : Hid (l.take k ++ [b] = l.take (k + 1)) := by rw [← hb]; exact take_next l k (by have := Hl.out; omega)
      rw [hb] at hd
      clear hb
      have hA1 : After w.heap.size w k (l.take k) u5 (wr.alloc (.cells #[.int .u8 (b.toNat : Int)] 5)) := hA.then ⟨ownsRow_old hA.1 ((Below.refl _ _).alloc (Nat.le_refl _) _), (Below.refl _ _).alloc hA.2.1.size _, (Lib.OthersKept.refl _ _ _).alloc _, hA.2.2.2⟩
      have hrun := fun ty => hA1.more (Nat.le_refl _) 1 [b] 22 _ (one_src b wr) (by omega) ty
      clear hA hA1
      go_wp2_with (at_builtin; refine wpList_append_ex _ rfl _ _ 22 22 rfl _ _ rfl rfl hrun ?_; rintro v' w' hA'; refine Hid.out ?_)
      have HA' := Lib.hid hA'
      clear hrun hA'
      refine Lib.hid ?_
      go_wp2
      go_roundw
      case rel => exact ⟨k + 1, by omega, by go_num, by rw [← Hn.out]; exact HA'.out⟩
      case measure => simp [intOf]; omega
    · obtain rfl : k = n := by omega
      have hge : ¬ ((k : Int) < (k : Int)) := by omega
      have H1 : Hid (After w.heap.size w k l u5 wr) := by have := HA.out; rw [List.take_of_length_le (by rw [Hl.out]; omega)] at this; exact this
      clear hA HA H0 hmk
      go_wp2
      go_loopw [5, 7] (fun d i wr => ∃ j : Nat, j ≤ s.size ∧ i = .int .i64 j ∧ After w.heap.size w (k + j) (l ++ s.data.toList.take j) d wr) (fun _ i _ => s.size - (intOf i).toNat)
      case atStart => exact ⟨0, Nat.zero_le _, rfl, by simpa using H1.out⟩
      case round =>
        obtain ⟨j, hj, rfl, hA⟩ := hrel
        have HA := Lib.hid hA
        by_cases hlt : j < s.size
        · have hlt' : (j : Int) < (s.size : Int) := by omega
          have hA1 : After w.heap.size w (k + j) (l ++ s.data.toList.take j) u5 (wr.alloc (.cells #[.int .u8 ((s[j]'hlt).toNat : Int)] 5)) := hA.then ⟨ownsRow_old hA.1 ((Below.refl _ _).alloc (Nat.le_refl _) _), (Below.refl _ _).alloc hA.2.1.size _, (Lib.OthersKept.refl _ _ _).alloc _, hA.2.2.2⟩
          have hrun := fun ty => hA1.more (Nat.le_refl _) 1 [s[j]'hlt] 22 _ (one_src (s[j]'hlt) wr) (by omega) ty
          clear hA hA1
          go_wp2_with (at_builtin; refine wpList_append_ex _ rfl _ _ 22 22 rfl _ _ rfl rfl hrun ?_; rintro v' w' hA'; refine Hid.out ?_)
          have HA' := Lib.hid hA'
          clear hrun hA'
          refine Lib.hid ?_
          go_wp2
          go_roundw
          case rel => exact ⟨j + 1, by omega, by go_num, by rw [← str_next s j hlt, ← List.append_assoc]; exact HA'.out⟩
          case measure => simp [intOf]; omega
        · obtain rfl : j = s.size := by omega
          have hge : ¬ ((s.size : Int) < (s.size : Int)) := by omega
          have H2 : Hid (After w.heap.size w (k + s.size) (l ++ s.data.toList) u5 wr) := by have := HA.out; rw [List.take_of_length_le (Nat.le_of_eq (str_len s))] at this; exact this
          clear hA HA H1
          go_wp2
          go_ret
          exact ⟨_, rfl, H2.out.1, H2.out.2.2.2, H2.out.2.1⟩
end Go.Proofs.Qxb6003233aDoor
