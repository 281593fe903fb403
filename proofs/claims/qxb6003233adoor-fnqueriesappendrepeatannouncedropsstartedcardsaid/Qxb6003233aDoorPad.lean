/-
  DERIVED. WHAT CAN BE APPENDED TO ('Appd': a row that the call owns, or a full slice whose cells are known), and the walk of appendPadded (function 22) and its shim (9).
-/
import Derived.Test.Qxb6003233aDoorArr
import Derived.Lib.OthersKept
import Derived.Lib.OwnKind
namespace Go.Proofs.Qxb6003233aDoor
open Go.RowKit

def cellsOf (l : List UInt8) : List Value := l.map fun b => Value.int .u8 (b.toNat : Int)
theorem cellsOf_length (l : List UInt8) : (cellsOf l).length = l.length := by simp [cellsOf]
theorem cellsOf_append (l m : List UInt8) : cellsOf (l ++ m) = cellsOf l ++ cellsOf m := by simp [cellsOf]
theorem cellsOf_one (l : List UInt8) : ∀ u ∈ cellsOf l, u.oneCell' = true := fun u hu => by obtain ⟨b, _, rfl⟩ := List.mem_map.1 hu; rfl

/-- A full slice that lies below B. -/
def Full (B : Nat) (v : Value) (n : Nat) (l : List UInt8) (w : World) : Prop :=
  ∃ base : Option Addr, v = .slice base n n ∧ l.length = n ∧ (base = none → n = 0) ∧ ∀ ad, base = some ad → (0 < n → ad.block < B) ∧ ∀ j, j < n → w.cell? (ad.add j) = some (.int .u8 ((l.getD j 0).toNat : Int))
def Appd (B : Nat) (v : Value) (n : Nat) (l : List UInt8) (w : World) : Prop := w.ownsRow B 5 1 v n (cellsOf l) ∨ Full B v n l w

theorem add_block (a : Addr) (j : Nat) : (a.add j).block = a.block := by unfold Addr.add; split <;> rfl

theorem ownsRow_old {w w' : World} {B n : Nat} {v : Value} {xs : List Value} (h : w.ownsRow B 5 1 v n xs) (hb : Below w.heap.size w w') : w'.ownsRow B 5 1 v n xs :=
  h.kept (row := none) ⟨hb.os, hb.tape, hb.output, hb.size, fun k hk _ => hb.block k hk⟩ (by
    rcases h.2 with ⟨rfl, _⟩ | ⟨g, cap, cur, rfl, _⟩ <;> simp [Value.ownBlock])
theorem ownsRow_base {w : World} {B B' n : Nat} {v : Value} {xs : List Value} (h : w.ownsRow B 5 1 v n xs) (hB : B' ≤ B) : w.ownsRow B' 5 1 v n xs := by
  obtain ⟨h1, h2⟩ := h
  refine ⟨h1, ?_⟩
  rcases h2 with h2 | ⟨g, cap, cur, hv, hg, r⟩
  · exact .inl h2
  · exact .inr ⟨g, cap, cur, hv, by omega, r⟩

theorem Appd.old {w w' : World} {B n : Nat} {v : Value} {l : List UInt8} (h : Appd B v n l w) (hBw : B ≤ w.heap.size) (hb : Below w.heap.size w w') : Appd B v n l w' := by
  rcases h with h | ⟨base, hv, hl, hn, hc⟩
  · exact .inl (ownsRow_old h hb)
  · refine .inr ⟨base, hv, hl, hn, fun ad e => ⟨(hc ad e).1, fun j hj => ?_⟩⟩
    rw [hb.cell (by rw [add_block]; have := (hc ad e).1 (by omega); omega)]
    exact (hc ad e).2 j hj
theorem Appd.alloc {w : World} {B n : Nat} {v : Value} {l : List UInt8} (h : Appd B v n l w) (hBw : B ≤ w.heap.size) (o : Obj) : Appd B v n l (w.alloc o) := h.old hBw ((Below.refl _ _).alloc (Nat.le_refl _) o)

/-- What an append leaves. -/
def After (B : Nat) (w : World) (n : Nat) (l : List UInt8) (v' : Value) (w' : World) : Prop := w'.ownsRow B 5 1 v' n (cellsOf l) ∧ Below B w w' ∧ Lib.OthersKept 5 none w w' ∧ v' ≠ .slice none 0 0

theorem others_below {w w' : World} (h : Below w.heap.size w w') : Lib.OthersKept 5 none w w' := fun k o hk _ _ => by
  rw [h.block k (Array.getElem?_eq_some_iff.1 hk).1]; exact hk

theorem cells_at (l : List UInt8) (j : Nat) (u : Value) (h : (cellsOf l)[j]? = some u) : j < l.length ∧ u = .int .u8 ((l.getD j 0).toNat : Int) := by
  have hj : j < l.length := by have := (List.getElem?_eq_some_iff.1 h).1; rw [cellsOf_length] at this; exact this
  refine ⟨hj, ?_⟩
  unfold cellsOf at h
  rw [List.getElem?_map, List.getElem?_eq_getElem hj] at h
  rw [List.getD_eq_getElem?_getD, List.getElem?_eq_getElem hj]
  simpa using h.symm

theorem appd_run (B n m : Nat) (v : Value) (l k : List UInt8) (w : World) (h : Appd B v n l w) (hBw : B ≤ w.heap.size) (tx : TypeId) (xv : Value) (src : Src Tryd.prog 1 tx xv m (cellsOf k) w)
    (hm : 0 < m ∨ w.ownsRow B 5 1 v n (cellsOf l) ∧ v ≠ .slice none 0 0) (hb : n + m ≤ 1099511627776) (ty : TypeId) :
    ∃ v' w', (Builtin.append_ #[22, tx] ty #[v, xv]).run Tryd.prog w = .ok v' w' ∧ After B w (n + m) (l ++ k) v' w' := by
  have hkl : k.length = m := by have := src.newsLen; rw [cellsOf_length] at this; omega
  have full : ∀ base : Option Addr, v = .slice base n n → l.length = n → (base = none → n = 0) → (∀ ad, base = some ad → ∀ j, j < n → w.cell? (ad.add j) = some (.int .u8 ((l.getD j 0).toNat : Int))) → 0 < m →
      ∃ v' w', (Builtin.append_ #[22, tx] ty #[v, xv]).run Tryd.prog w = .ok v' w' ∧ After B w (n + m) (l ++ k) v' w' := by
    intro base hv hl hn hc hm0
    subst hv
    obtain ⟨v', w', hr, ho, hg, cap, hv'⟩ := full_append base n m (cellsOf l) (cellsOf k) tx xv w (by rw [cellsOf_length, hl]) hn (fun ad e j u hj => by
      obtain ⟨h1, rfl⟩ := cells_at l j u hj
      exact hc ad e j (by omega)) src hm0 hb ty
    have hbw : Below w.heap.size w w' := ⟨hg.os, hg.tape, hg.output, hg.size, fun k hk => hg.block k hk (by simp)⟩
    exact ⟨v', w', hr, ownsRow_base (by rw [cellsOf_append]; exact ho) hBw, hbw.mono hBw, others_below hbw, by rw [hv']; simp⟩
  rcases h with h | ⟨base, hv, hl, hn, hc⟩
  · have h' := h
    obtain ⟨h1, h2⟩ := h
    rcases h2 with ⟨rfl, rfl⟩ | ⟨g, cap, cur, rfl, hBg, hg, hnc, hcm, hcs, htake⟩
    · rcases hm with hm | ⟨_, hm⟩
      · exact full none rfl (by rw [cellsOf_length] at h1; simpa using h1) (fun _ => rfl) (fun ad e => by cases e) hm
      · exact absurd rfl hm
    · by_cases hroom : n + m ≤ cap
      · have hr := room_append g n m cap cur 5 (cellsOf k) tx xv w hg src hroom (by omega) ty
        refine ⟨_, _, hr, ⟨by rw [cellsOf_length, List.length_append, hkl]; rw [cellsOf_length] at h1; omega, .inr ⟨g, cap, _, rfl, hBg, setRow_heap w g cur _ 5 _ hg, hroom, hcm, ?_, ?_⟩⟩, ?_, ?_, by simp⟩
        · simp only [List.size_toArray, List.length_append, List.length_take, List.length_drop, Array.length_toList, cellsOf_length, hkl]
          omega
        · have ht' : cur.toList.take n = cellsOf l := by simpa using htake
          rw [ht', cellsOf_append]
          have e : (n + m) * 1 = (cellsOf l ++ cellsOf k).length := by rw [List.length_append, cellsOf_length, cellsOf_length, hkl]; rw [cellsOf_length] at h1; omega
          rw [e]
          exact List.take_left
        · exact (below_setRow_at _).mono hBg
        · exact (Lib.OthersKept.refl _ _ _).grown (row := some g) ⟨rfl, rfl, rfl, by simp, fun q _ hq => setRow_other w g q _ (fun e => hq (by rw [e]))⟩ (fun q hq => by cases hq; exact ⟨_, _, hg⟩)
      · obtain ⟨i, hi, hz, hs, hby⟩ := info_parts info5
        have holds := h'.cells (g := g) rfl
        have hxl : (cellsOf l).length = n := by simpa using h1
        have hfc := run_firstCells_some (P := Tryd.prog) w.drew i.size n ⟨g, 0, none⟩ n cap (cellsOf l) (by rw [hs, hxl]; omega) (by simpa using holds)
        have hr := run_append_grow_src (P := Tryd.prog) w 22 tx ty 5 i (.int .u8 0) Tryd.underlying22 hi hz (some ⟨g, 0, none⟩) n cap (cellsOf l) hfc xv m (cellsOf k) (by rw [hs]; exact src) (by omega) (by omega) (by rw [hby]; exact growslice_fits (by omega) (by omega))
        have hge := grownCap_ge w (n + m) cap 5
        have hcm2 : grownCap w (n + m) cap 5 ≤ maxLen := grownCap_le_maxLen w (n + m) cap 5 (by unfold maxLen; omega)
        have hnl : (cellsOf k).length = m := by rw [cellsOf_length, hkl]
        have hlen : (cellsOf l ++ cellsOf k).length = (n + m) * 1 := by rw [List.length_append, hxl, hnl]; omega
        have hbw : Below w.heap.size w (w.drew.alloc (.cells ((cellsOf l ++ cellsOf k).toArray ++ Builtin.zeroCells (Value.int .u8 0).cells (grownCap w (n + m) cap 5 - (n + m))) 5)) := ((Below.refl _ _).drew).alloc (Nat.le_refl _) _
        refine ⟨_, _, hr, ⟨by rw [cellsOf_append]; exact hlen, .inr ⟨w.heap.size, _, _, rfl, hBw, heap_alloc_new w.drew _, hge, hcm2, ?_, ?_⟩⟩, hbw.mono hBw, others_below hbw, by simp⟩
        · have hz1 : (Value.int IntKind.u8 0).cells.size = 1 := rfl
          simp only [Array.size_append, List.size_toArray, size_zeroCells, hz1, List.length_append, hxl, hnl]
          omega
        · simp only [Array.toList_append]
          rw [cellsOf_append, ← hlen]
          exact List.take_left
  · rcases hm with hm | ⟨ho, hv0⟩
    · exact full base hv hl hn (fun ad e => (hc ad e).2) hm
    · subst hv
      obtain ⟨h1, h2⟩ := ho
      by_cases hm : 0 < m
      · exact full base rfl hl hn (fun ad e => (hc ad e).2) hm
      · obtain rfl : m = 0 := by omega
        rcases h2 with ⟨e, rfl⟩ | ⟨g, cap, cur, e, hBg, hg, hnc, hcm, hcs, htake⟩
        · exact absurd e hv0
        · injection e with e1 e2 e3
          subst e1 e3
          have hr := room_append g n 0 n cur 5 (cellsOf k) tx xv w hg src (by omega) (by omega) ty
          obtain rfl : k = [] := List.eq_nil_of_length_eq_zero hkl
          have hsame : w.setRow g (cur.toList.take n ++ cellsOf [] ++ cur.toList.drop (n + 0)).toArray = w := by
            have : (cur.toList.take n ++ cellsOf [] ++ cur.toList.drop (n + 0)).toArray = cur := by simp [cellsOf]
            rw [this]; exact setRow_self w g cur 5 (0, 0) hg
          rw [hsame] at hr
          exact ⟨_, _, hr, ⟨by simpa using h1, .inr ⟨g, n, cur, rfl, hBg, hg, by omega, hcm, hcs, by simpa using htake⟩⟩, Below.refl _ _, Lib.OthersKept.refl _ _ _, by simp⟩

/-! ### appendPadded -/
/-- n in decimal, with zeros before it to make it 'width' digits long. -/
def pad (W N : Nat) : List UInt8 := List.replicate (W - Lib.nDigits N) 48 ++ Lib.decDigits N

theorem slice43 (b : Nat) (W : World) :
    (Instr.sliceAt 43 (.pointer (some ⟨b, 0, none⟩)) none (some (.int .i64 0)) none).run Tryd.prog W = .ok (.slice (some ⟨b, 0, none⟩) 0 20) W := by
  have ha : Tryd.prog.arrayLen 43 = 20 := by kernel_rfl
  have hel : Tryd.prog.elem 43 = 5 := by kernel_rfl
  have hsz : (sizeOf 5).run Tryd.prog W = .ok 1 W := by kernel_rfl
  rw [run_sliceAt_array_h W 43 ⟨b, 0, none⟩ (by rw [ha, hel]; exact Tryd.underlying43) .i64 0 (by omega) (by rw [ha]; omega), ha, hel, hsz]
  simp [slicedAt, Addr.add]

theorem arr_src (g : Nat) (l : List UInt8) (W : World) (h : ArrIs g l W) : Src Tryd.prog 1 22 (.slice (some ⟨g, 0, none⟩) l.length 20) l.length (cellsOf l) W := by
  obtain ⟨arr, hg, ha, hc⟩ := h
  refine Src.ofSlice (P := Tryd.prog) W (size := 1) (tx := 22) Tryd.underlying22 ⟨g, 0, none⟩ l.length 20 _ (by rw [cellsOf_length]; omega) (fun j u hj => ?_) (cellsOf_one l)
  obtain ⟨h1, rfl⟩ := cells_at l j u hj
  rw [show (⟨g, 0, none⟩ : Addr).add j = ⟨g, j, none⟩ by simp [Addr.add]; omega]
  simp only [World.cell?, hg]
  rw [show (l.getD j 0) = l[j] by rw [List.getD_eq_getElem?_getD, List.getElem?_eq_getElem h1]; rfl]
  exact hc j h1

theorem one_src (b : UInt8) (w : World) : Src Tryd.prog 1 22 (.slice (some ⟨w.heap.size, 0, none⟩) 1 1) 1 (cellsOf [b]) (w.alloc (.cells #[.int .u8 (b.toNat : Int)] 5)) :=
  Src.ofSlice (P := Tryd.prog) _ (size := 1) (tx := 22) Tryd.underlying22 ⟨w.heap.size, 0, none⟩ 1 1 _ rfl (cell_one_new _ _ _) (cellsOf_one [b])

theorem ArrIs.kept {g : Nat} {l : List UInt8} {w w' : World} (h : ArrIs g l w) (hk : Lib.OthersKept 5 none w w') : ArrIs g l w' := by
  obtain ⟨arr, hg, r⟩ := h
  exact ⟨arr, hk g _ hg (by simp) (fun c fz e => by injection e with _ e2; exact absurd e2 (by decide)), r⟩

theorem rep_next (l : List UInt8) (k : Nat) : l ++ List.replicate k 48 ++ [48] = l ++ List.replicate (k + 1) (48 : UInt8) := by
  rw [List.append_assoc, ← List.replicate_succ']

set_option maxHeartbeats 2000000 in
theorem appendPadded_any (B n W N : Nat) (v : Value) (l : List UInt8) (w : World) (h : Appd B v n l w) (hBw : B ≤ w.heap.size) (hN : N < 9223372036854775808) (hW : W ≤ 65536) (hn : n ≤ 1073741824)
    (htab : Lib.TabIs Tryd.prog w powName .u64 Lib.pow10Tab) :
    Calls Tryd.prog 22 #[v, .int .i64 N, .int .i64 W] w fun e w' => ∃ v', e = .returned v' ∧ After B w (n + (pad W N).length) (l ++ pad W N) v' w' := by
  have hnd : Lib.nDigits N ≤ 20 := Lib.nDigits_le20 N (by omega)
  have hnd1 := Lib.nDigits_pos N
  have hsl := slice43 w.heap.size
  have hg0 : (w.alloc (.cells #[Value.int .u8 0, .int .u8 0, .int .u8 0, .int .u8 0, .int .u8 0, .int .u8 0, .int .u8 0, .int .u8 0, .int .u8 0, .int .u8 0, .int .u8 0, .int .u8 0, .int .u8 0, .int .u8 0, .int .u8 0, .int .u8 0, .int .u8 0, .int .u8 0, .int .u8 0, .int .u8 0] 43)).heap[w.heap.size]? = some (.cells #[Value.int .u8 0, .int .u8 0, .int .u8 0, .int .u8 0, .int .u8 0, .int .u8 0, .int .u8 0, .int .u8 0, .int .u8 0, .int .u8 0, .int .u8 0, .int .u8 0, .int .u8 0, .int .u8 0, .int .u8 0, .int .u8 0, .int .u8 0, .int .u8 0, .int .u8 0, .int .u8 0] 43 (0, 0)) := heap_alloc_new w _
  have k25 := appInt_arr w.heap.size N hN _ _ hg0 rfl (Lib.tabIs_alloc htab _)
  have hl : l.length = n := by
    rcases h with h | ⟨_, _, hl, _⟩
    · have := h.1; rw [cellsOf_length] at this; omega
    · exact hl
  have HA : Hid (Appd B v n l w) := h
  have hB1 : ∀ o, Below w.heap.size w (w.alloc o) := fun o => (Below.refl _ _).alloc (Nat.le_refl _) o
  clear h hg0 htab
  go_enter Tryd.func22, Tryd.ntmps22
  go_wp2_with (go_at_call 25; refine k25.mono ?_; rintro e w2 ⟨rfl, hA2, hb2⟩; refine Hid.out ?_)
  have hb2' : Below w.heap.size w w2 := (hB1 _).trans hb2
  have hAp : Appd B v n l w2 := HA.out.old hBw hb2'
  clear k25 hsl hb2 hB1
  obtain ⟨nd, hndd⟩ : ∃ nd, Lib.nDigits N = nd := ⟨_, rfl⟩
  rw [hndd] at hnd hnd1 ⊢
  have Hnd : Hid (Lib.nDigits N = nd) := hndd
  have HA2 : Hid (ArrIs w.heap.size (Lib.decDigits N) w2) := hA2
  have hw2 : w.heap.size < w2.heap.size := by obtain ⟨arr, hg, _⟩ := hA2; exact (Array.getElem?_eq_some_iff.1 hg).1
  clear hndd hA2
  have hok2 := others_below hb2'
  refine Lib.hid ?_
  go_wp2
  go_loopw [0, 16] (fun d i wr => ∃ k : Nat, k ≤ W - nd ∧ i = .int .i64 k ∧ Appd B d (n + k) (l ++ List.replicate k 48) wr ∧ ArrIs w.heap.size (Lib.decDigits N) wr ∧ Below B w wr ∧ Lib.OthersKept 5 none w wr) (fun _ i _ => W - nd - (intOf i).toNat)
  case atStart => exact ⟨0, Nat.zero_le _, rfl, by simpa using hAp, HA2, hb2'.mono hBw, hok2⟩
  case round =>
    obtain ⟨k, hk, rfl, hApk, hAk, hbk, hokk⟩ := hrel
    clear hAp HA2 hb2' hok2 hw2
    have hszk : B ≤ wr.heap.size := by have := hbk.size; omega
    by_cases hlt : k < W - nd
    · have hlt' : (k : Int) < (W : Int) - (nd : Int) := by omega
      have hrun := fun ty => appd_run B (n + k) 1 u0 (l ++ List.replicate k 48) [48] _ (hApk.alloc hszk (.cells #[.int .u8 48] 5)) (by simp; omega) 22 _ (one_src 48 wr) (.inl (by omega)) (by omega) ty
      go_wp2_with (at_builtin; refine wpList_append_ex _ rfl _ _ 22 22 rfl _ _ rfl rfl hrun ?_; rintro v' w' ⟨ho, hb, hok, hv0⟩; refine Hid.out ?_)
      have hb3 : Below B w w' := (hbk.alloc hszk _).trans hb
      have hA3 : ArrIs w.heap.size (Lib.decDigits N) w' := (hAk.kept ((Lib.OthersKept.refl _ _ _).alloc _)).kept hok
      have hok3 : Lib.OthersKept 5 none w w' := (hokk.alloc _).trans hok
      rw [rep_next] at ho
      have HO : Hid (w'.ownsRow B 5 1 v' (n + k + 1) (cellsOf (l ++ List.replicate (k + 1) 48))) := ho
      clear hrun ho hb hok hv0 hApk hAk hokk hbk
      refine Lib.hid ?_
      go_wp2
      go_roundw
      case rel => exact ⟨k + 1, by omega, by go_num, .inl HO.out, hA3, hb3, hok3⟩
      case measure => simp [intOf]; omega
    · obtain rfl : k = W - nd := by omega
      have src := arr_src w.heap.size (Lib.decDigits N) wr hAk
      rw [Lib.decDigits_length, Hnd.out] at src
      have hrun := fun ty => appd_run B (n + (W - nd)) nd u0 (l ++ List.replicate (W - nd) 48) (Lib.decDigits N) wr hApk hszk 22 _ src (.inl (by omega)) (by omega) ty
      have hge : ¬ (((W - nd : Nat) : Int) < (W : Int) - (nd : Int)) := by omega
      go_wp2_with (at_builtin; refine wpList_append_ex _ rfl _ _ 22 22 rfl _ _ rfl rfl hrun ?_; rintro v' w' ⟨ho, hb, hok, hv0⟩; refine Hid.out ?_)
      have hfin : After B w (n + (pad W N).length) (l ++ pad W N) v' w' := by
        refine ⟨?_, hbk.trans hb, hokk.trans hok, hv0⟩
        have e1 : (pad W N).length = W - nd + nd := by unfold pad; rw [List.length_append, List.length_replicate, Lib.decDigits_length, Hnd.out]
        have e2 : l ++ pad W N = l ++ List.replicate (W - nd) 48 ++ Lib.decDigits N := by unfold pad; rw [Hnd.out, List.append_assoc]
        rw [e1, e2, ← Nat.add_assoc]
        exact ho
      clear hrun ho hb hok hv0 hApk hAk hokk hbk src
      refine Lib.hid ?_
      go_wp2
      go_ret
      exact ⟨_, rfl, hfin⟩

/-- The shim hands the call on. -/
theorem zzPadded_any (B n W N : Nat) (v : Value) (l : List UInt8) (w : World) (h : Appd B v n l w) (hBw : B ≤ w.heap.size) (hN : N < 9223372036854775808) (hW : W ≤ 65536) (hn : n ≤ 1073741824)
    (htab : Lib.TabIs Tryd.prog w powName .u64 Lib.pow10Tab) :
    Calls Tryd.prog 9 #[v, .int .i64 N, .int .i64 W] w fun e w' => ∃ v', e = .returned v' ∧ After B w (n + (pad W N).length) (l ++ pad W N) v' w' := by
  have k := appendPadded_any B n W N v l w h hBw hN hW hn htab
  clear h htab
  go_enter Tryd.func9, Tryd.ntmps9
  go_wp2_with (go_at_call 22; refine k.mono ?_; rintro e w1 ⟨v', rfl, hA⟩)
  go_ret
  exact ⟨_, rfl, hA⟩
end Go.Proofs.Qxb6003233aDoor
