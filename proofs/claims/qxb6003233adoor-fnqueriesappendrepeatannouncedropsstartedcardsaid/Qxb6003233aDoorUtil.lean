/-
  DERIVED. THE WALKS of zzClone (8), zzEqual (10), zzCompare (11).
-/
import Derived.Test.Qxb6003233aDoorPad
import Derived.Test.Qxb6003233aDoorPlain
import Derived.Deep.QuietTactic
import Derived.BigQuiet
import Derived.Lib.SliceRun
namespace Go.Proofs.Qxb6003233aDoor
open Go.RowKit

/-! ### zzClone -/
def madeRow (n : Nat) : Array Value := madeCells (Value.int .u8 0).cells (n * 1)
def rowOf (xs : List UInt8) : Array Value := (xs.map fun x => Value.int .u8 (x.toNat : Int)).toArray

theorem made_run (l n : Nat) (hln : l ≤ n) (hn : n ≤ 1073741824) (w : World) :
    (Instr.makeSlice 22 (.int .i64 (l : Int)) (.int .i64 (n : Int))).run Tryd.prog w = .ok (.slice (some ⟨w.heap.size, 0, none⟩) l n) (w.alloc (.cells (madeRow n) 5)) := by
  obtain ⟨i, hi, hz, hs, hb⟩ := info_parts info5
  have := run_make (P := Tryd.prog) w 22 5 i (.int .u8 0) Tryd.underlying22 hi hz .i64 .i64 (l : Int) (n : Int) (by omega) (by omega) (by rw [hb]; omega) (by omega)
  rw [hs] at this
  simpa [madeRow] using this

theorem setRow_new (w : World) (old cs : Array Value) (t : TypeId) : (w.alloc (.cells old t)).setRow w.heap.size cs = w.alloc (.cells cs t) := by
  unfold World.setRow World.alloc
  congr 1
  apply Array.ext_getElem?
  intro i
  rw [Array.getElem?_modify]
  by_cases h : w.heap.size = i
  · subst h; simp
  · rw [if_neg h]
    simp only [Array.getElem?_push]
    split <;> rename_i h2
    · exact absurd h2.symm h
    · rfl

theorem copy_run (n c : Nat) (xs : List UInt8) (a : Addr) (w : World) (ha : 0 < n → a.block < w.heap.size) (hx : xs.length = n)
    (hsrc : ∀ j, j < n → w.cell? (a.add j) = some (.int .u8 ((xs.getD j 0).toNat : Int))) (ty : TypeId) :
    (Builtin.copy_ #[22, 22] ty #[.slice (some ⟨w.heap.size, 0, none⟩) n n, .slice (some a) n c]).run Tryd.prog (w.alloc (.cells (madeRow n) 5)) = .ok (.int .i64 (n : Int)) (w.alloc (.cells (rowOf xs) 5)) := by
  have hl : (xs.map fun x => Value.int .u8 (x.toNat : Int)).length = n := by rw [List.length_map, hx]
  have hsz : (madeRow n).size = n := by unfold madeRow; rw [size_madeCells]; omega
  have hg : (w.alloc (.cells (madeRow n) 5)).heap[w.heap.size]? = some (.cells (madeRow n) 5 (0, 0)) := heap_alloc_new w _
  have h := run_copy_row (P := Tryd.prog) (w.alloc (.cells (madeRow n) 5)) 22 22 ty 5 w.heap.size 0 n n a n c (madeRow n) 5 (xs.map fun x => Value.int .u8 (x.toNat : Int)) Tryd.underlying22 (by kernel_rfl) hg (by rw [hl]; exact (Nat.min_self n).symm)
    (fun j v hj => by
      have hjn : j < n := by have := (List.getElem?_eq_some_iff.1 hj).1; omega
      rw [((Below.refl _ w).alloc (Nat.le_refl _) _).cell (by rw [add_block]; exact ha (by omega)), hsrc j hjn]
      rw [List.getElem?_map, List.getElem?_eq_getElem (by omega)] at hj
      rw [List.getD_eq_getElem?_getD, List.getElem?_eq_getElem (by omega)]
      simpa using hj) (by rw [hl, hsz]; omega) (fun v hv => by
      obtain ⟨x, _, rfl⟩ := List.mem_map.1 hv
      rfl)
  rw [h, setRow_new, hl]
  have e2 : ((madeRow n).toList.drop (0 + n)) = [] := List.drop_eq_nil_of_le (by rw [Array.length_toList, hsz]; omega)
  rw [e2]
  simp [rowOf, goInt]

theorem row_cell (w : World) (xs : List UInt8) (j : Nat) (h : j < xs.length) : (w.alloc (.cells (rowOf xs) 5)).cell? ⟨w.heap.size, j, none⟩ = some (.int .u8 ((xs.getD j 0).toNat : Int)) := by
  simp [go_sem, rowOf, h]

/-- A slice that reads as the bytes l. -/
def Reads (v : Value) (n : Nat) (l : List UInt8) (w : World) : Prop :=
  ∃ (base : Option Addr) (c : Nat), v = .slice base n c ∧ l.length = n ∧ (base = none → n = 0 ∧ c = 0) ∧ ∀ ad, base = some ad → (0 < n → ad.block < w.heap.size) ∧ ∀ j, j < n → w.cell? (ad.add j) = some (.int .u8 ((l.getD j 0).toNat : Int))

/-- A clone: nil, or the whole of one new row. -/
def Clone (b : Nat) (v : Value) (n : Nat) (l : List UInt8) (w : World) : Prop :=
  l.length = n ∧ ((v = .slice none 0 0 ∧ n = 0) ∨ (v = .slice (some ⟨b, 0, none⟩) n n ∧ b < w.heap.size ∧ ∀ j, j < n → w.cell? ⟨b, j, none⟩ = some (.int .u8 ((l.getD j 0).toNat : Int))))

theorem add_lit (b j : Nat) : (⟨b, 0, none⟩ : Addr).add j = ⟨b, j, none⟩ := by simp [Addr.add]; omega

theorem Clone.full {b n B : Nat} {v : Value} {l : List UInt8} {w : World} (h : Clone b v n l w) (hB : b < B) : Appd B v n l w := by
  obtain ⟨hl, ⟨rfl, rfl⟩ | ⟨rfl, h1, h2⟩⟩ := h
  · exact .inr ⟨none, rfl, hl, fun _ => rfl, fun ad e => by cases e⟩
  · exact .inr ⟨some ⟨b, 0, none⟩, rfl, hl, fun e => (by cases e), fun ad e => by cases e; exact ⟨fun _ => hB, fun j hj => by rw [add_lit]; exact h2 j hj⟩⟩
theorem Clone.reads {b n : Nat} {v : Value} {l : List UInt8} {w : World} (h : Clone b v n l w) : Reads v n l w := by
  obtain ⟨hl, ⟨rfl, rfl⟩ | ⟨rfl, h1, h2⟩⟩ := h
  · exact ⟨none, 0, rfl, hl, fun _ => ⟨rfl, rfl⟩, fun ad e => by cases e⟩
  · exact ⟨some ⟨b, 0, none⟩, n, rfl, hl, fun e => (by cases e), fun ad e => by cases e; exact ⟨fun _ => h1, fun j hj => by rw [add_lit]; exact h2 j hj⟩⟩
theorem Clone.below {b n : Nat} {v : Value} {l : List UInt8} {w w' : World} {B : Nat} (h : Clone b v n l w) (hb : Below B w w') (hB : b < B) : Clone b v n l w' := by
  obtain ⟨hl, h⟩ := h
  refine ⟨hl, ?_⟩
  rcases h with h | ⟨rfl, h1, h2⟩
  · exact .inl h
  · exact .inr ⟨rfl, by have := hb.size; omega, fun j hj => by rw [hb.cell hB]; exact h2 j hj⟩

theorem Clone.appd {b n : Nat} {v : Value} {l : List UInt8} {w : World} (h : Clone b v n l w) : Appd w.heap.size v n l w := by
  rcases h.2 with ⟨e1, e2⟩ | ⟨_, h2, _⟩
  · subst e1 e2; exact .inr ⟨none, rfl, h.1, fun _ => rfl, fun ad e => by cases e⟩
  · exact h.full h2
theorem Clone.old {b n : Nat} {v : Value} {l : List UInt8} {w w' : World} (h : Clone b v n l w) (hb : Below w.heap.size w w') : Clone b v n l w' := by
  rcases h.2 with ⟨e1, e2⟩ | ⟨_, h2, _⟩
  · exact ⟨h.1, .inl ⟨e1, e2⟩⟩
  · exact h.below hb h2

theorem clone_any (v : Value) (n : Nat) (l : List UInt8) (w : World) (h : Reads v n l w) (hn : n ≤ 1048576) :
    Calls Tryd.prog 8 #[v] w fun e w' => ∃ v', e = .returned v' ∧ Clone w.heap.size v' n l w' ∧ Below w.heap.size w w' := by
  obtain ⟨base, c, rfl, hl, hnil, hc⟩ := h
  cases base with
  | none =>
    obtain ⟨rfl, rfl⟩ := hnil rfl
    have hne : ∀ w, (binOp .eql 22 (.slice none 0 0) (.slice none 0 0)).run Tryd.prog w = .ok (.bool true) w := fun w => Lib.run_eql_slice_nil w 22 5 none 0 0 0 0 Tryd.underlying22
    clear hc hnil
    go_enter Tryd.func8, Tryd.ntmps8
    go_wp2
    go_ret
    exact ⟨_, rfl, ⟨hl, .inl ⟨rfl, rfl⟩⟩, Below.refl _ _⟩
  | some a =>
    have hne : ∀ w, (binOp .eql 22 (.slice (some a) n c) (.slice none 0 0)).run Tryd.prog w = .ok (.bool false) w := fun w => Lib.run_eql_slice_nil w 22 5 (some a) n c 0 0 Tryd.underlying22
    have hmk := made_run n n (Nat.le_refl _) (by omega)
    have hcp := copy_run n c l a w (hc a rfl).1 hl (hc a rfl).2
    clear hc hnil
    go_enter Tryd.func8, Tryd.ntmps8
    go_wp2
    go_ret
    exact ⟨_, rfl, ⟨hl, .inr ⟨rfl, by simp, fun j hj => row_cell w l j (by omega)⟩⟩, (Below.refl _ _).alloc (Nat.le_refl _) _⟩
end Go.Proofs.Qxb6003233aDoor
