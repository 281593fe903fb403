/-
  DERIVED. THE WALK of zzDecimal (function 7) at a number that is not negative: how long its text is.
-/
import Derived.Test.Qxb6003233aDoorCmp
namespace Go.Proofs.Qxb6003233aDoor
open Go.RowKit

/-- Block g is a [20]byte of whatever bytes. -/
def ArrAny (g : Nat) (w : World) : Prop := ∃ arr : Array Value, w.heap[g]? = some (.cells arr 43 (0, 0)) ∧ ∀ j, j < 20 → ∃ x : UInt8, arr[j]? = some (.int .u8 (x.toNat : Int))
theorem ArrAny.cell {g : Nat} {w : World} (h : ArrAny g w) (j : Nat) (hj : j < 20) : ∃ x : UInt8, w.cell? ⟨g, j, none⟩ = some (.int .u8 (x.toNat : Int)) := by
  obtain ⟨arr, hg, hc⟩ := h
  obtain ⟨x, hx⟩ := hc j hj
  exact ⟨x, by simp only [World.cell?, hg]; exact hx⟩
theorem ArrAny.frozen {g : Nat} {w : World} (h : ArrAny g w) (j : Nat) : w.frozen? ⟨g, j, none⟩ = false := by
  obtain ⟨arr, hg, _⟩ := h
  simp [World.frozen?, hg]
theorem ArrAny.lt {g : Nat} {w : World} (h : ArrAny g w) : g < w.heap.size := by
  obtain ⟨arr, hg, _⟩ := h
  exact (Array.getElem?_eq_some_iff.1 hg).1
theorem ArrAny.set {g : Nat} {w : World} (h : ArrAny g w) (k : Nat) (x : UInt8) : ArrAny g (w.setCell ⟨g, k, none⟩ (.int .u8 (x.toNat : Int))) := by
  obtain ⟨arr, hg, hc⟩ := h
  rw [setCell_eq_setRow w g k arr 43 (0, 0) _ hg]
  refine ⟨_, setRow_heap w g arr _ 43 (0, 0) hg, fun j hj => ?_⟩
  obtain ⟨y, hy⟩ := hc j hj
  have hjs : j < arr.size := (Array.getElem?_eq_some_iff.1 hy).1
  by_cases e : k = j
  · subst e; exact ⟨x, by simp [hjs]⟩
  · exact ⟨y, by rw [Array.getElem?_setIfInBounds_ne e]; exact hy⟩
theorem ArrAny.kept {g : Nat} {w w' : World} (h : ArrAny g w) (hk : Lib.OthersKept 5 none w w') : ArrAny g w' := by
  obtain ⟨arr, hg, r⟩ := h
  exact ⟨arr, hk g _ hg (by simp) (fun c fz e => by injection e with _ e2; exact absurd e2 (by decide)), r⟩
theorem arr_new (w : World) : ArrAny w.heap.size (w.alloc (.cells #[Value.int .u8 0, .int .u8 0, .int .u8 0, .int .u8 0, .int .u8 0, .int .u8 0, .int .u8 0, .int .u8 0, .int .u8 0, .int .u8 0, .int .u8 0, .int .u8 0, .int .u8 0, .int .u8 0, .int .u8 0, .int .u8 0, .int .u8 0, .int .u8 0, .int .u8 0, .int .u8 0] 43)) := by
  refine ⟨_, heap_alloc_new w _, fun j hj => ⟨0, ?_⟩⟩
  match j, hj with
  | 0, _ | 1, _ | 2, _ | 3, _ | 4, _ | 5, _ | 6, _ | 7, _ | 8, _ | 9, _ | 10, _ | 11, _ | 12, _ | 13, _ | 14, _ | 15, _ | 16, _ | 17, _ | 18, _ | 19, _ => rfl
  | n + 20, h => exact absurd h (by omega)

theorem nDigits_after (x : Nat) : ∀ k, k < Lib.nDigits x → Lib.nDigits x = k + Lib.nDigits (x / 10 ^ k) := by
  intro k
  induction k with
  | zero => intro _; simp
  | succ k ih =>
    intro h
    have e := ih (by omega)
    have hb : ¬ x / 10 ^ k < 10 := fun hlt => by have := Lib.nDigits_small hlt; omega
    have e2 := Lib.nDigits_big hb
    rw [Nat.div_div_eq_div_mul, ← Nat.pow_succ] at e2
    rw [e, e2, Nat.add_assoc, Nat.add_comm 1]
theorem div_pow_succ (x k : Nat) : x / 10 ^ k / 10 = x / 10 ^ (k + 1) := by rw [Nat.div_div_eq_div_mul, ← Nat.pow_succ]

set_option maxHeartbeats 2000000 in
theorem decimal_any (N : Nat) (hN : N < 9223372036854775808) (w : World) :
    Calls Tryd.prog 7 #[.int .i64 N] w fun e w' => (∃ base cap, e = .returned (.slice base (Lib.nDigits N) cap)) ∧ Below w.heap.size w w' := by
  have hN0 : ¬ ((N : Int) < 0) := by omega
  have h20 := Lib.nDigits_le20 N (by omega)
  have harr := arr_new w
  go_enter Tryd.func7, Tryd.ntmps7
  go_wp2
  go_loopw [3, 6] (fun u c wr => ∃ (k v : Nat), k < 20 ∧ v < 9223372036854775808 ∧ c = .int .i64 (k : Int) ∧ u = .int .u64 (v : Int) ∧ Hid (v = N / 10 ^ k) ∧ Hid (k < Lib.nDigits N) ∧ ArrAny w.heap.size wr ∧ Below w.heap.size w wr) (fun u _ _ => (intOf u).toNat)
  case atStart => exact ⟨0, N, by omega, hN, rfl, rfl, by simp [Hid], Lib.nDigits_pos N, harr, (Below.refl _ _).alloc (Nat.le_refl _) _⟩
  case round =>
    obtain ⟨k, v, hk, hv, rfl, rfl, Hv, Hk, hA, hnx⟩ := hrel
    clear harr
    obtain ⟨x, hcx⟩ := hA.cell k hk
    have hfx := hA.frozen k
    have hset := hA.set k (UInt8.ofNat (48 + v % 10))
    have ex : (((UInt8.ofNat (48 + v % 10)).toNat : Nat) : Int) = 48 + (v : Int) % 10 := by rw [UInt8.toNat_ofNat']; omega
    rw [ex] at hset
    have hbs : Below w.heap.size w (wr.setCell ⟨w.heap.size, k, none⟩ (.int .u8 (48 + (v : Int) % 10))) := hnx.setCell (Nat.le_refl _) _
    clear ex hA
    by_cases h10 : v < 10
    · have hq : ((v : Int) / 10 == 0) = true := by simp; omega
      have hnd : Lib.nDigits N = k + 1 := by
        have e := nDigits_after N k Hk.out
        rw [← Hv.out, Lib.nDigits_small h10] at e
        exact e
      have Hnd : Hid (Lib.nDigits N = k + 1) := hnd
      have hmk : ∀ w, (Instr.makeSlice 22 (.int .i64 0) (.int .i64 ((k : Int) + 1 + 1))).run Tryd.prog w = .ok (.slice (some ⟨w.heap.size, 0, none⟩) 0 (k + 2)) (w.alloc (.cells (madeRow (k + 2)) 5)) := fun w => by
        have := made_run 0 (k + 2) (by omega) (by omega) w
        rw [show (((k + 2 : Nat)) : Int) = (k : Int) + 1 + 1 by omega] at this
        exact this
      generalize hW : wr.setCell ⟨w.heap.size, k, none⟩ (.int .u8 (48 + (v : Int) % 10)) = W at hset hbs
      have HW : Hid (wr.setCell ⟨w.heap.size, k, none⟩ (.int .u8 (48 + (v : Int) % 10)) = W) := hW
      clear hnd hW
      have hWs : W.heap.size = wr.heap.size := by rw [← HW.out]; simp
      have hwr : w.heap.size ≤ wr.heap.size := hnx.size
      have hown0 := World.ownsRow_made (base := w.heap.size) (e := 5) (size := 1) W (madeRow (k + 2)) (k + 2) (by omega) (by unfold maxLen; omega) (by unfold madeRow; rw [size_madeCells])
      rw [hWs] at hown0
      have HO0 : Hid ((W.alloc (.cells (madeRow (k + 2)) 5)).ownsRow w.heap.size 5 1 (.slice (some ⟨wr.heap.size, 0, none⟩) 0 (k + 2)) 0 []) := hown0
      have hA0 : ArrAny w.heap.size (W.alloc (.cells (madeRow (k + 2)) 5)) := hset.kept ((Lib.OthersKept.refl _ _ _).alloc _)
      have hB0 : Below w.heap.size w (W.alloc (.cells (madeRow (k + 2)) 5)) := hbs.alloc (by omega) _
      have HWs : Hid (W.heap.size = wr.heap.size) := hWs
      clear hown0 hset hbs hWs
      go_wp2
      go_loopw [7, 8] (fun d j wx => ∃ (r t : Nat) (l : List UInt8), Hid (r + t = k + 1) ∧ r ≤ k + 1 ∧ t ≤ k + 1 ∧ j = .int .i64 ((r : Int) - 1) ∧ wx.ownsRow w.heap.size 5 1 d t (cellsOf l) ∧ d ≠ .slice none 0 0 ∧ ArrAny w.heap.size wx ∧ Below w.heap.size w wx) (fun _ j _ => (intOf j + 1).toNat)
      case atStart =>
        rw [HW.out]
        exact ⟨k + 1, 0, [], rfl, Nat.le_refl _, Nat.zero_le _, by go_num, HO0.out, by simp, hA0, hB0⟩
      case round =>
        clear HO0 hA0 hB0
        obtain ⟨r, t, l, Hrt, hr, ht, rfl, ho, hd0, hAx, hbx⟩ := hrel
        cases r with
        | zero =>
          have hj : ¬ ((0 : Int) ≤ ((0 : Nat) : Int) - 1) := by omega
          have htk : t = k + 1 := by have := Hrt.out; omega
          rcases ho.2 with ⟨e, _⟩ | ⟨g, cap, cur, e, _⟩
          · exact absurd e hd0
          · subst e
            subst htk
            go_wp2
            go_ret
            exact ⟨⟨_, _, by rw [Hnd.out]; rfl⟩, hbx⟩
        | succ r =>
          have er : (((r + 1 : Nat)) : Int) - 1 = (r : Int) := by omega
          rw [er]
          obtain ⟨y, hy⟩ := hAx.cell r (by omega)
          have hszx : w.heap.size ≤ wr.heap.size := by have := hbx.size; omega
          have hAp : Appd w.heap.size u7 t l wr := .inl ho
          have hrun := fun ty => appd_run w.heap.size t 1 u7 l [y] _ (hAp.alloc hszx (.cells #[.int .u8 (y.toNat : Int)] 5)) (by simp; omega) 22 _ (one_src y wr) (.inl (by omega)) (by omega) ty
          have hA4 := hAx.kept ((Lib.OthersKept.refl _ _ _).alloc (.cells #[.int .u8 (y.toNat : Int)] 5))
          have hb4 := hbx.alloc hszx (.cells #[.int .u8 (y.toNat : Int)] 5)
          clear ho hd0 hAp hAx hbx
          go_wp2_with (at_builtin; refine wpList_append_ex _ rfl _ _ 22 22 rfl _ _ rfl rfl hrun ?_; rintro v' w' ⟨ho, hb, hok, hv0⟩; refine Hid.out ?_)
          have hb3 : Below w.heap.size w w' := hb4.trans hb
          have hA3 : ArrAny w.heap.size w' := hA4.kept hok
          have HO : Hid (w'.ownsRow w.heap.size 5 1 v' (t + 1) (cellsOf (l ++ [y]))) := ho
          have Hv0 : Hid (v' ≠ .slice none 0 0) := hv0
          clear hrun ho hb hok hv0 hA4 hb4
          refine Lib.hid ?_
          go_wp2
          go_roundw
          case rel => exact ⟨r, t + 1, _, by have := Hrt.out; show _ = _; omega, by omega, by have := Hrt.out; omega, rfl, HO.out, Hv0.out, hA3, hb3⟩
          case measure => simp [intOf]
    · have hq : ((v : Int) / 10 == 0) = false := by simp; omega
      go_wp2
      go_roundw
      case rel =>
        have e := nDigits_after N k Hk.out
        have hb := Lib.nDigits_big h10
        have hp := Lib.nDigits_pos (v / 10)
        have hvk := Hv.out
        rw [← hvk] at e
        exact ⟨k + 1, v / 10, by omega, by omega, by go_num, by congr 1, by show _ = _; rw [hvk, div_pow_succ], by show _ < _; omega, hset, hbs⟩
      case measure => simp [intOf]; omega
end Go.Proofs.Qxb6003233aDoor
