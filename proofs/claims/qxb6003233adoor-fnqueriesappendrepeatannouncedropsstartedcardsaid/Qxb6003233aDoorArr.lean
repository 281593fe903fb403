/-
  DERIVED. strconv.AppendInt(digits[:0], n, 10), digits a [20]byte of the caller's own, n not negative: the numeral is laid in the array itself.
-/
import Derived.Test.Qxb6003233aDoorApp
import Derived.Test.Qxb6003233aDoorShelf
import Derived.Lib.ItoaLen
import Derived.Lib.AppendIntMem
namespace Go.Proofs.Qxb6003233aDoor
open Go.RowKit Go.Sort

/-- The table's name, off the given row. -/
def powName : String := Rows.fnAppendPaddedSortsAsNumbersRow.named.getD 0 ""
theorem gPow : Tryd.prog.globalNamed powName = some 0 := by kernel_rfl

/-- Block g is a [20]byte that begins with the bytes l. -/
def ArrIs (g : Nat) (l : List UInt8) (w : World) : Prop :=
  ∃ arr : Array Value, w.heap[g]? = some (.cells arr 43 (0, 0)) ∧ arr.size = 20 ∧ ∀ j (hj : j < l.length), arr[j]? = some (.int .u8 (l[j].toNat : Int))

theorem arr_set (g m : Nat) (arr : Array Value) (l : List UInt8) (w : World) (hg : w.heap[g]? = some (.cells arr 43 (0, 0))) (ha : arr.size = 20) (hl : l.length = m) (hm : m ≤ 20) :
    ArrIs g l (w.setRow g (arr.toList.take 0 ++ (l.map fun b => Value.int .u8 (b.toNat : Int)) ++ arr.toList.drop (0 + m)).toArray) := by
  refine ⟨_, setRow_heap w g arr _ 43 (0, 0) hg, ?_, fun j hj => ?_⟩
  · simp [hl]; omega
  · simp [List.getElem?_append_left, hj]

theorem small_any (u : Nat) (hu : u < 100) (w : World) : Calls Tryd.prog 28 #[.int .i64 u] w fun e w' => e = .returned (.string ⟨(Lib.decDigits u).toArray⟩) ∧ w = w' :=
  (Any.internal_strconv_small Tryd.lays283 u hu w).mono fun _ _ ⟨he, hw⟩ => ⟨he, hw.symm⟩
theorem numDigits_any (u : Nat) (h1 : 1 ≤ u) (h2 : u < 18446744073709551616) (w : World) (htab : Lib.TabIs Tryd.prog w powName .u64 Lib.pow10Tab) :
    Calls Tryd.prog 29 #[.int .u64 u] w fun e w' => e = .returned (.int .i64 (Lib.nDigits u)) ∧ w = w' :=
  (Any.internal_strconv_numDigits Tryd.laysM284 u h1 h2 w htab).mono fun _ _ ⟨he, hw⟩ => ⟨he, hw.symm⟩

theorem size_mk (l : List UInt8) : (⟨l.toArray⟩ : ByteArray).size = l.length := by simp [ByteArray.size]

theorem below_setRow_at {g : Nat} {w : World} (cs : Array Value) : Below g w (w.setRow g cs) :=
  ⟨rfl, rfl, rfl, by simp [World.setRow], fun k hk => setRow_other w g k cs (by omega)⟩

set_option maxHeartbeats 1000000 in
theorem appUint_small (g u : Nat) (hu : u < 100) (arr : Array Value) (w : World) (hg : w.heap[g]? = some (.cells arr 43 (0, 0))) (ha : arr.size = 20) :
    Calls Tryd.prog 27 #[.slice (some ⟨g, 0, none⟩) 0 20, .int .u64 u, .int .i64 10] w fun e w' => e = .returned (.slice (some ⟨g, 0, none⟩) (Lib.nDigits u) 20) ∧ ArrIs g (Lib.decDigits u) w' ∧ Below g w w' := by
  have hnd : Lib.nDigits u ≤ 20 := Lib.nDigits_le20 u (by omega)
  have hsz : (⟨(Lib.decDigits u).toArray⟩ : ByteArray).size = Lib.nDigits u := by rw [size_mk, Lib.decDigits_length]
  have src := Src.ofString (P := Tryd.prog) w (tx := 9) Tryd.underlying9 ⟨(Lib.decDigits u).toArray⟩
  rw [hsz] at src
  have hrun := fun ty => room_append g 0 (Lib.nDigits u) 20 arr 43 _ 9 _ w hg src (by omega) (by omega) ty
  have hA := arr_set g (Lib.nDigits u) arr (Lib.decDigits u) w hg ha (Lib.decDigits_length u) hnd
  have hbc : byteCells ⟨(Lib.decDigits u).toArray⟩ = (Lib.decDigits u).map fun b => Value.int .u8 (b.toNat : Int) := rfl
  rw [hbc] at hrun
  rw [Nat.zero_add] at hrun
  generalize hW : w.setRow g (arr.toList.take 0 ++ (Lib.decDigits u).map (fun b => Value.int .u8 (b.toNat : Int)) ++ arr.toList.drop (0 + Lib.nDigits u)).toArray = W at hA
  have hb : Below g w W := hW ▸ below_setRow_at _
  rw [Nat.zero_add] at hW
  rw [hW] at hrun
  clear hW hbc src hsz hg
  have hu' : (u : Int) < 100 := by omega
  go_enter Tryd.func27, Tryd.ntmps27
  go_wp2_with (first
    | (go_at_call 28; refine (small_any u hu _).mono ?_; rintro e w' ⟨rfl, rfl⟩)
    | (at_builtin; refine wpList_append_ex (fun v' w' => v' = .slice (some ⟨g, 0, none⟩) (Lib.nDigits u) 20 ∧ w' = W) rfl _ _ 22 9 rfl _ _ rfl rfl (fun ty => ⟨_, _, hrun ty, rfl, rfl⟩) ?_; rintro v' w' ⟨rfl, rfl⟩))
  go_ret
  exact ⟨rfl, hA, hb⟩

theorem slice53 (b n : Nat) (hn : n ≤ 24) (W : World) :
    (Instr.sliceAt 53 (.pointer (some ⟨b, 0, none⟩)) none (some (.int .i64 (n : Int))) none).run Tryd.prog W = .ok (.slice (some ⟨b, 0, none⟩) n 24) W := by
  have ha : Tryd.prog.arrayLen 53 = 24 := by kernel_rfl
  have hel : Tryd.prog.elem 53 = 5 := by kernel_rfl
  have hsz : (sizeOf 5).run Tryd.prog W = .ok 1 W := by kernel_rfl
  rw [run_sliceAt_array_h W 53 ⟨b, 0, none⟩ (by rw [ha, hel]; exact Tryd.underlying53) .i64 (n : Int) (by omega) (by rw [ha]; omega), ha, hel, hsz]
  simp [slicedAt, Addr.add]

set_option maxHeartbeats 2000000 in
theorem appUint_big (g u : Nat) (hu : 100 ≤ u) (hu64 : u < 18446744073709551616) (arr : Array Value) (w : World) (hg : w.heap[g]? = some (.cells arr 43 (0, 0))) (ha : arr.size = 20)
    (htab : Lib.TabIs Tryd.prog w powName .u64 Lib.pow10Tab) :
    Calls Tryd.prog 27 #[.slice (some ⟨g, 0, none⟩) 0 20, .int .u64 u, .int .i64 10] w fun e w' => e = .returned (.slice (some ⟨g, 0, none⟩) (Lib.nDigits u) 20) ∧ ArrIs g (Lib.decDigits u) w' ∧ Below g w w' := by
  have hgw : g < w.heap.size := (Array.getElem?_eq_some_iff.1 hg).1
  have hnd : Lib.nDigits u ≤ 20 := Lib.nDigits_le20 u hu64
  have hsl := slice53 w.heap.size (Lib.nDigits u) (by omega)
  have hH0 := Lib.holds_zero0 w 53 (Lib.nDigits u) (by omega)
  have hfmt := Any.internal_strconv_formatBase10 Tryd.lays285 w.heap.size 0 24 u (Array.replicate (Lib.nDigits u) 0) (w.alloc (.cells Lib.zeros24 53)) hH0 (by rw [Array.size_replicate]; exact Lib.lt_pow_nDigits u) hu64 (by rw [Array.size_replicate]; omega)
  rw [Array.size_replicate] at hfmt
  have hfmt : Calls Tryd.prog 30 #[.slice (some ⟨w.heap.size, 0, none⟩) (Lib.nDigits u) 24, .int .u64 u] (w.alloc (.cells Lib.zeros24 53)) _ := hfmt
  have HH0 := Lib.hid hH0
  have iu : (100 : Int) ≤ (u : Int) := by omega
  have htab2 := Lib.tabIs_alloc htab (.cells Lib.zeros24 53)
  have Hg : Hid (w.heap[g]? = some (.cells arr 43 (0, 0))) := hg
  have Htab : Hid (Lib.TabIs Tryd.prog (w.alloc (.cells Lib.zeros24 53)) powName .u64 Lib.pow10Tab) := htab2
  clear hH0 hg htab htab2
  go_enter Tryd.func27, Tryd.ntmps27
  go_wp2_with (go_at_call 29; refine (numDigits_any u (by omega) hu64 _ Htab.out).mono ?_; rintro e w' ⟨rfl, rfl⟩)
  refine hfmt.mono ?_
  rintro e w' ⟨rfl, k, v', dk, rfl, hF⟩
  have hcells : ∀ j u', ((Lib.decDigits u).map fun b => Value.int .u8 (b.toNat : Int))[j]? = some u' → ((putRow (fun (b : UInt8) => Value.int .u8 (b.toNat : Int)) (w.alloc (.cells Lib.zeros24 53)) w.heap.size 0 dk).drewN k).cell? ((⟨w.heap.size, 0, none⟩ : Addr).add j) = some u' := by
    intro j u' hj
    have hjl : j < (Lib.decDigits u).length := by
      have h5 := (List.getElem?_eq_some_iff.1 hj).1
      rwa [List.length_map] at h5
    have e5 : ((Lib.decDigits u).map fun b => Value.int .u8 (b.toNat : Int))[j]? = some (Value.int .u8 ((Lib.decDigits u)[j].toNat : Int)) := by simp [hjl]
    rw [e5] at hj
    cases hj
    rw [Lib.row_is_numeral hF j hjl, Lib.add_plain, World.cell?_drewN]
    exact cell?_putRow (fun (b : UInt8) => Value.int .u8 (b.toNat : Int)) _ w.heap.size 0 _ dk HH0.out (by rw [hF.size, Array.size_replicate]) j (by rw [hF.size]; rw [Lib.decDigits_length] at hjl; exact hjl)
  obtain ⟨os, eo⟩ := Lib.fin_at w (.cells Lib.zeros24 53) dk k 0
  have hb2 : Below w.heap.size w ((putRow (fun (b : UInt8) => Value.int .u8 (b.toNat : Int)) (w.alloc (.cells Lib.zeros24 53)) w.heap.size 0 dk).drewN k) := by rw [eo]; exact Lib.below_grow _ w (Nat.le_refl _) k os
  generalize (putRow (fun (b : UInt8) => Value.int .u8 (b.toNat : Int)) (w.alloc (.cells Lib.zeros24 53)) w.heap.size 0 dk).drewN k = W2 at hcells hb2 ⊢
  clear eo HH0 hfmt
  have hg2 : W2.heap[g]? = some (.cells arr 43 (0, 0)) := (hb2.block g hgw).trans Hg.out
  have src := Src.ofSlice (P := Tryd.prog) W2 (size := 1) (tx := 22) Tryd.underlying22 ⟨w.heap.size, 0, none⟩ (Lib.nDigits u) 24 _ (by rw [List.length_map, Lib.decDigits_length]; omega) hcells (fun x hx => by obtain ⟨b, _, rfl⟩ := List.mem_map.1 hx; rfl)
  have hrun := fun ty => room_append g 0 (Lib.nDigits u) 20 arr 43 _ 22 _ W2 hg2 src (by omega) (by omega) ty
  have hA := arr_set g (Lib.nDigits u) arr (Lib.decDigits u) W2 hg2 ha (Lib.decDigits_length u) hnd
  rw [Nat.zero_add] at hrun hA
  generalize hW : W2.setRow g (arr.toList.take 0 ++ (Lib.decDigits u).map (fun b => Value.int .u8 (b.toNat : Int)) ++ arr.toList.drop (Lib.nDigits u)).toArray = W at hA hrun
  have hb : Below g w W := (hb2.mono (by omega)).trans (hW ▸ below_setRow_at _)
  clear hW src hg2 hb2 hcells
  go_wp2_with (at_builtin; refine wpList_append_ex (fun v' w' => v' = .slice (some ⟨g, 0, none⟩) (Lib.nDigits u) 20 ∧ w' = W) rfl _ _ 22 22 rfl _ _ rfl rfl (fun ty => ⟨_, _, hrun ty, rfl, rfl⟩) ?_; rintro v' w' ⟨rfl, rfl⟩)
  go_ret
  exact ⟨rfl, hA, hb⟩

theorem appUint_any (g u : Nat) (hu64 : u < 18446744073709551616) (arr : Array Value) (w : World) (hg : w.heap[g]? = some (.cells arr 43 (0, 0))) (ha : arr.size = 20)
    (htab : Lib.TabIs Tryd.prog w powName .u64 Lib.pow10Tab) :
    Calls Tryd.prog 27 #[.slice (some ⟨g, 0, none⟩) 0 20, .int .u64 u, .int .i64 10] w fun e w' => e = .returned (.slice (some ⟨g, 0, none⟩) (Lib.nDigits u) 20) ∧ ArrIs g (Lib.decDigits u) w' ∧ Below g w w' := by
  by_cases h : u < 100
  · exact appUint_small g u h arr w hg ha
  · exact appUint_big g u (by omega) hu64 arr w hg ha htab

/-- strconv.AppendInt onto the array's empty head. -/
theorem appInt_arr (g n : Nat) (hn : n < 9223372036854775808) (arr : Array Value) (w : World) (hg : w.heap[g]? = some (.cells arr 43 (0, 0))) (ha : arr.size = 20)
    (htab : Lib.TabIs Tryd.prog w powName .u64 Lib.pow10Tab) :
    Calls Tryd.prog 25 #[.slice (some ⟨g, 0, none⟩) 0 20, .int .i64 n, .int .i64 10] w fun e w' => e = .returned (.slice (some ⟨g, 0, none⟩) (Lib.nDigits n) 20) ∧ ArrIs g (Lib.decDigits n) w' ∧ Below g w w' := by
  have h := appUint_any g n (by omega) arr w hg ha htab
  have hn0 : ¬ ((n : Int) < 0) := by omega
  clear hg htab
  go_enter Tryd.func25, Tryd.ntmps25
  go_wp2_with (first | (go_at_call 27; refine h.mono ?_; rintro e w1 ⟨rfl, hA, hb⟩) | go_in)
  go_ret
  exact ⟨rfl, hA, hb⟩
end Go.Proofs.Qxb6003233aDoor
