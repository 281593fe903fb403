/-
  DERIVED. THE WALKS of b1Clone (8), b1Same (19), ZZMake (9), the shims' readers (11, 12, 20, 21, 22) and b1Untouched (13).
-/
import Derived.Test.Qxb6602638aRows
import Derived.WalkKit
import Derived.WalkSpells
import Derived.WalkLawsBesides
import Derived.Deep.QuietTactic
import Derived.BigQuiet
import Derived.Lib.SliceRun
import Derived.Lib.Hide
import Derived.Below
namespace Go.Proofs.Qxb6602638a
open Go.RowKit

theorem info5 : (Try.prog.info? 5).map (fun i => (i.zero, i.size, i.bytes)) = some (some (.int .u8 0), 1, 1) := by kernel_rfl
def madeRow (n : Nat) : Array Value := madeCells (Value.int .u8 0).cells (n * 1)
theorem made_run (n : Nat) (hn : n ≤ 1073741824) (w : World) :
    (Instr.makeSlice 22 (.int .i64 (n : Int)) (.int .i64 (n : Int))).run Try.prog w = .ok (.slice (some ⟨w.heap.size, 0, none⟩) n n) (w.alloc (.cells (madeRow n) 5)) := by
  obtain ⟨i, hi, hz, hs, hb⟩ := info_parts info5
  have := run_make (P := Try.prog) w 22 5 i (.int .u8 0) Try.underlying22 hi hz .i64 .i64 (n : Int) (n : Int) (by omega) (by omega) (by rw [hb]; omega) (by omega)
  rw [hs] at this
  simpa [madeRow] using this

theorem add_block (a : Addr) (j : Nat) : (a.add j).block = a.block := by unfold Addr.add; split <;> rfl

/-- A slice that reads as the bytes l; nil or not, as 'z' says. -/
def Reads (z : Bool) (v : Value) (n : Nat) (l : List UInt8) (w : World) : Prop :=
  l.length = n ∧ ((z = true ∧ v = .slice none 0 0 ∧ n = 0) ∨ (z = false ∧ ∃ a c, v = .slice (some a) n c ∧ (0 < n → a.block < w.heap.size) ∧ ∀ j, j < n → w.cell? (a.add j) = some (.int .u8 ((l.getD j 0).toNat : Int))))
/-- A clone: nil, or the whole of the row at block b. -/
def Row (z : Bool) (b : Nat) (v : Value) (n : Nat) (l : List UInt8) (w : World) : Prop :=
  l.length = n ∧ ((z = true ∧ v = .slice none 0 0 ∧ n = 0) ∨ (z = false ∧ v = .slice (some ⟨b, 0, none⟩) n n ∧ b < w.heap.size ∧ ∀ j, j < n → w.cell? ⟨b, j, none⟩ = some (.int .u8 ((l.getD j 0).toNat : Int))))

theorem add_lit (b j : Nat) : (⟨b, 0, none⟩ : Addr).add j = ⟨b, j, none⟩ := by simp [Addr.add]; omega

theorem Row.reads {z : Bool} {b n : Nat} {v : Value} {l : List UInt8} {w : World} (h : Row z b v n l w) : Reads z v n l w := by
  obtain ⟨hl, h | ⟨hz, hv, h1, h2⟩⟩ := h
  · exact ⟨hl, .inl h⟩
  · exact ⟨hl, .inr ⟨hz, _, _, hv, fun _ => h1, fun j hj => by rw [add_lit]; exact h2 j hj⟩⟩
theorem Row.below {z : Bool} {b n B : Nat} {v : Value} {l : List UInt8} {w w' : World} (h : Row z b v n l w) (hb : Below B w w') (hB : b < B) : Row z b v n l w' := by
  obtain ⟨hl, h | ⟨hz, hv, h1, h2⟩⟩ := h
  · exact ⟨hl, .inl h⟩
  · exact ⟨hl, .inr ⟨hz, hv, Nat.lt_of_lt_of_le h1 hb.size, fun j hj => by rw [hb.cell hB]; exact h2 j hj⟩⟩
theorem Row.old {z : Bool} {b n : Nat} {v : Value} {l : List UInt8} {w w' : World} (h : Row z b v n l w) (hb : Below w.heap.size w w') : Row z b v n l w' := by
  rcases h.2 with h2 | ⟨_, _, h1, _⟩
  · exact ⟨h.1, .inl h2⟩
  · exact h.below hb h1
theorem Row.slice {z : Bool} {b n : Nat} {v : Value} {l : List UInt8} {w : World} (h : Row z b v n l w) : ∃ a c, v = .slice a n c := by
  obtain ⟨-, ⟨-, rfl, rfl⟩ | ⟨-, rfl, -⟩⟩ := h
  · exact ⟨_, _, rfl⟩
  · exact ⟨_, _, rfl⟩
theorem Row.drew {z : Bool} {b n : Nat} {v : Value} {l : List UInt8} {w : World} (h : Row z b v n l w) (q : Nat) : Row z b v n l (w.drewN q) := h

/-! ### b1Clone -/
/-- Block g is a row of m bytes; the first k are l's. -/
def ByteRow (g m k : Nat) (l : List UInt8) (w : World) : Prop := ∃ arr : Array Value, w.heap[g]? = some (.cells arr 5 (0, 0)) ∧ arr.size = m ∧ ∀ j, j < k → arr[j]? = some (.int .u8 ((l.getD j 0).toNat : Int))
theorem ByteRow.cell {g m k : Nat} {l : List UInt8} {w : World} (h : ByteRow g m k l w) (j : Nat) (hj : j < k) : w.cell? ⟨g, j, none⟩ = some (.int .u8 ((l.getD j 0).toNat : Int)) := by
  obtain ⟨arr, hg, _, hc⟩ := h
  simp only [World.cell?, hg]; exact hc j hj
theorem ByteRow.some {g m k : Nat} {l : List UInt8} {w : World} (h : ByteRow g m k l w) (j : Nat) (hj : j < m) : ∃ u, w.cell? ⟨g, j, none⟩ = some u := by
  obtain ⟨arr, hg, hm, hc⟩ := h
  simp only [World.cell?, hg]; exact ⟨_, Array.getElem?_eq_getElem (by omega)⟩
theorem ByteRow.frozen {g m k : Nat} {l : List UInt8} {w : World} (h : ByteRow g m k l w) (j : Nat) : w.frozen? ⟨g, j, none⟩ = false := by
  obtain ⟨arr, hg, _⟩ := h
  simp [World.frozen?, hg]
theorem ByteRow.lt {g m k : Nat} {l : List UInt8} {w : World} (h : ByteRow g m k l w) : g < w.heap.size := by
  obtain ⟨arr, hg, _⟩ := h
  exact (Array.getElem?_eq_some_iff.1 hg).1
theorem ByteRow.set {g m k : Nat} {l : List UInt8} {w : World} (h : ByteRow g m k l w) (hk : k < m) : ByteRow g m (k + 1) l (w.setCell ⟨g, k, none⟩ (.int .u8 ((l.getD k 0).toNat : Int))) := by
  obtain ⟨arr, hg, hm, hc⟩ := h
  rw [setCell_eq_setRow w g k arr 5 (0, 0) _ hg]
  refine ⟨_, setRow_heap w g arr _ 5 (0, 0) hg, by simpa using hm, fun j hj => ?_⟩
  by_cases e : k = j
  · subst e; simp [show k < arr.size by omega]
  · rw [Array.getElem?_setIfInBounds_ne e]; exact hc j (by omega)

theorem clone_any (z : Bool) (v : Value) (n : Nat) (l : List UInt8) (w : World) (h : Reads z v n l w) (hn : n ≤ 1048576) :
    Calls Try.prog 8 #[v] w fun e w' => ∃ v', e = .returned v' ∧ Row z w.heap.size v' n l w' ∧ Below w.heap.size w w' := by
  obtain ⟨hl, ⟨rfl, rfl, rfl⟩ | ⟨rfl, x, c, rfl, hx, hh⟩⟩ := h
  · have hne : ∀ w, (binOp .eql 22 (.slice none 0 0) (.slice none 0 0)).run Try.prog w = .ok (.bool true) w := fun w => Lib.run_eql_slice_nil w 22 5 none 0 0 0 0 Try.underlying22
    go_enter Try.func8, Try.ntmps8
    go_wp2
    go_ret
    exact ⟨_, rfl, ⟨hl, .inl ⟨rfl, rfl, rfl⟩⟩, Below.refl _ _⟩
  · have hne : ∀ w, (binOp .eql 22 (.slice (some x) n c) (.slice none 0 0)).run Try.prog w = .ok (.bool false) w := fun w => Lib.run_eql_slice_nil w 22 5 (some x) n c 0 0 Try.underlying22
    have hmk := made_run n (by omega)
    have Hl := Lib.hid hl
    have Hh : Hid (∀ j, j < n → w.cell? (x.add j) = some (.int .u8 ((l.getD j 0).toNat : Int))) := hh
    have H0 : Hid (ByteRow w.heap.size n 0 l (w.alloc (.cells (madeRow n) 5))) := ⟨_, heap_alloc_new w _, by unfold madeRow; rw [size_madeCells]; omega, fun j hj => absurd hj (by omega)⟩
    clear hh hl
    go_enter Try.func8, Try.ntmps8
    go_wp2
    go_loopw [4] (fun i wr => ∃ k : Nat, k ≤ n ∧ i = .int .i64 k ∧ ByteRow w.heap.size n k l wr ∧ Below w.heap.size w wr) (fun i _ => n - (intOf i).toNat)
    case atStart => exact ⟨0, Nat.zero_le _, rfl, H0.out, (Below.refl _ _).alloc (Nat.le_refl _) _⟩
    case round =>
      obtain ⟨k, hk, rfl, hS, hb⟩ := hrel
      have HS := Lib.hid hS
      have Hb := Lib.hid hb
      by_cases hlt : k < n
      · have hlt' : (k : Int) < (n : Int) := by omega
        have hd : wr.cell? (x.add k) = some (.int .u8 ((l.getD k 0).toNat : Int)) := by rw [hb.cell (by rw [add_block]; exact hx (by omega))]; exact Hh.out k hlt
        obtain ⟨u, hu⟩ := hS.some k hlt
        have hfz := hS.frozen k
        have Hset : Hid (ByteRow w.heap.size n (k + 1) l (wr.setCell ⟨w.heap.size, k, none⟩ (.int .u8 ((l.getD k 0).toNat : Int)))) := hS.set hlt
        obtain ⟨y, hy⟩ : ∃ y, l.getD k 0 = y := ⟨_, rfl⟩
        rw [hy] at hd Hset
        clear hS hb hy
        go_wp2
        go_roundw
        case rel => exact ⟨k + 1, by omega, by go_num, Hset.out, Hb.out.setCell (p := ⟨w.heap.size, k, none⟩) (Nat.le_refl _) _⟩
        case measure => simp [intOf]; omega
      · obtain rfl : k = n := by omega
        have hge : ¬ ((k : Int) < (k : Int)) := by omega
        clear hS hb
        go_wp2
        go_ret
        exact ⟨_, rfl, ⟨Hl.out, .inr ⟨rfl, rfl, HS.out.lt, fun j hj => HS.out.cell j hj⟩⟩, Hb.out⟩

/-! ### b1Same -/
theorem same_any (z : Bool) (b1 b2 n : Nat) (v1 v2 : Value) (l : List UInt8) (w : World) (h1 : Row z b1 v1 n l w) (h2 : Row z b2 v2 n l w) (hn : n ≤ 1048576) :
    Calls Try.prog 19 #[v1, v2] w fun e w' => e = .returned (.bool true) ∧ ∃ q, w' = w.drewN q := by
  obtain ⟨-, ⟨rfl, rfl, rfl⟩ | ⟨rfl, rfl, -, hc1⟩⟩ := h1
  · obtain ⟨-, ⟨-, rfl, -⟩ | ⟨e, -⟩⟩ := h2
    · have hne : ∀ w, (binOp .eql 22 (.slice none 0 0) (.slice none 0 0)).run Try.prog w = .ok (.bool true) w := fun w => Lib.run_eql_slice_nil w 22 5 none 0 0 0 0 Try.underlying22
      go_enter Try.func19, Try.ntmps19
      go_wp2
      go_loop [5] (fun i => i = .int .i64 0) (fun _ => 0)
      case atStart => rfl
      case round =>
        obtain rfl := hrel
        go_wp2
        go_ret
        exact ⟨rfl, 0, rfl⟩
    · cases e
  · obtain ⟨-, ⟨e, -⟩ | ⟨-, rfl, -, hc2⟩⟩ := h2
    · cases e
    have hne : ∀ b w, (binOp .eql 22 (.slice (some ⟨b, 0, none⟩) n n) (.slice none 0 0)).run Try.prog w = .ok (.bool false) w := fun b w => Lib.run_eql_slice_nil w 22 5 (some ⟨b, 0, none⟩) n n 0 0 Try.underlying22
    have hne1 := hne b1
    have hne2 := hne b2
    have hnn : ((n : Int) != (n : Int)) = false := by simp
    have H1 : Hid (∀ j, j < n → w.cell? ⟨b1, j, none⟩ = some (.int .u8 ((l.getD j 0).toNat : Int))) := hc1
    have H2 : Hid (∀ j, j < n → w.cell? ⟨b2, j, none⟩ = some (.int .u8 ((l.getD j 0).toNat : Int))) := hc2
    clear hc1 hc2 hne
    go_enter Try.func19, Try.ntmps19
    go_wp2
    go_loopw [5] (fun i wr => ∃ k q : Nat, k ≤ n ∧ i = .int .i64 k ∧ wr = w.drewN q) (fun i _ => n - (intOf i).toNat)
    case atStart => exact ⟨0, 0, Nat.zero_le _, rfl, rfl⟩
    case round =>
      obtain ⟨k, q, hk, rfl, rfl⟩ := hrel
      by_cases hlt : k < n
      · have hlt' : (k : Int) < (n : Int) := by omega
        have hd1 := H1.out k hlt
        have hd2 := H2.out k hlt
        obtain ⟨x, hx⟩ : ∃ x, l.getD k 0 = x := ⟨_, rfl⟩
        rw [hx] at hd1 hd2
        clear hx
        have hx2 : ((x.toNat : Int) != (x.toNat : Int)) = false := by simp
        go_wp2_with fail
        go_quiet (fail)
        go_wp2
        go_roundw
        case rel => exact ⟨k + 1, _, by omega, by go_num, rfl⟩
        case measure => simp [intOf]; omega
      · obtain rfl : k = n := by omega
        go_wp2
        go_ret
        exact ⟨rfl, _, rfl⟩

/-! ### The scanner's box -/
def Box (sb : Nat) (keep : Bool) (vo : Value) (one : Bool) (st : Int) (vp : Value) (key : Bool) (hex : Int) (rest : ByteArray) (w : World) : Prop :=
  w.heap[sb]? = some (.cells #[.bool keep, vo, .bool one, .int .u8 st, vp, .bool key, .int .i64 hex, .string rest] 38 (0, 0))
theorem Box.cells {sb : Nat} {keep : Bool} {vo : Value} {one : Bool} {st : Int} {vp : Value} {key : Bool} {hex : Int} {rest : ByteArray} {w : World} (h : Box sb keep vo one st vp key hex rest w) :
    w.cell? ⟨sb, 0, none⟩ = some (.bool keep) ∧ w.cell? ⟨sb, 1, none⟩ = some vo ∧ w.cell? ⟨sb, 2, none⟩ = some (.bool one) ∧ w.cell? ⟨sb, 3, none⟩ = some (.int .u8 st) ∧ w.cell? ⟨sb, 4, none⟩ = some vp ∧ w.cell? ⟨sb, 5, none⟩ = some (.bool key) ∧ w.cell? ⟨sb, 6, none⟩ = some (.int .i64 hex) ∧ w.cell? ⟨sb, 7, none⟩ = some (.string rest) := by
  unfold Box at h
  simp only [World.cell?, h]
  exact ⟨rfl, rfl, rfl, rfl, rfl, rfl, rfl, rfl⟩
theorem Box.frozen {sb : Nat} {keep : Bool} {vo : Value} {one : Bool} {st : Int} {vp : Value} {key : Bool} {hex : Int} {rest : ByteArray} {w : World} (h : Box sb keep vo one st vp key hex rest w) (j : Nat) : w.frozen? ⟨sb, j, none⟩ = false := by
  unfold Box at h
  simp [World.frozen?, h]
theorem Box.state {sb : Nat} {keep : Bool} {vo : Value} {one : Bool} {st : Int} {vp : Value} {key : Bool} {hex : Int} {rest : ByteArray} {w : World} (h : Box sb keep vo one st vp key hex rest w) (t : Int) : Box sb keep vo one t vp key hex rest (w.setCell ⟨sb, 3, none⟩ (.int .u8 t)) := by
  unfold Box at h ⊢
  rw [setCell_eq_setRow w sb 3 _ 38 (0, 0) _ h, setRow_heap w sb _ _ 38 (0, 0) h]
  rfl
theorem Box.keyed {sb : Nat} {keep : Bool} {vo : Value} {one : Bool} {st : Int} {vp : Value} {key : Bool} {hex : Int} {rest : ByteArray} {w : World} (h : Box sb keep vo one st vp key hex rest w) (t : Bool) : Box sb keep vo one st vp t hex rest (w.setCell ⟨sb, 5, none⟩ (.bool t)) := by
  unfold Box at h ⊢
  rw [setCell_eq_setRow w sb 5 _ 38 (0, 0) _ h, setRow_heap w sb _ _ 38 (0, 0) h]
  rfl
theorem Box.drew {sb : Nat} {keep : Bool} {vo : Value} {one : Bool} {st : Int} {vp : Value} {key : Bool} {hex : Int} {rest : ByteArray} {w : World} (h : Box sb keep vo one st vp key hex rest w) (q : Nat) : Box sb keep vo one st vp key hex rest (w.drewN q) := h

theorem make_any (keep : Bool) (vo : Value) (one : Bool) (st : Int) (vp : Value) (key : Bool) (hex : Int) (rest : ByteArray) (ao ap : Option Addr) (no co np cp : Nat) (eo : vo = .slice ao no co) (ep : vp = .slice ap np cp) (w : World) :
    Calls Try.prog 9 #[.bool keep, vo, .bool one, .int .u8 st, vp, .bool key, .int .i64 hex, .string rest] w fun e w' => e = .returned (.pointer (some ⟨w.heap.size, 0, none⟩)) ∧ Box w.heap.size keep vo one st vp key hex rest w' ∧ Below w.heap.size w w' := by
  subst eo ep
  have hb : Hid (Box w.heap.size keep (.slice ao no co) one st (.slice ap np cp) key hex rest (w.alloc (.cells #[.bool keep, .slice ao no co, .bool one, .int .u8 st, .slice ap np cp, .bool key, .int .i64 hex, .string rest] 38))) := heap_alloc_new w _
  go_enter Try.func9, Try.ntmps9
  go_wp2
  go_ret
  exact ⟨rfl, hb.out, (Below.refl _ _).alloc (Nat.le_refl _) _⟩
end Go.Proofs.Qxb6602638a
