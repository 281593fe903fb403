/-
  DERIVED. 'c := make([]byte, len(p)); copy(c, p)': the two operations' runs, told of one new row.
-/
import Derived.Test.Qxb6003563aEsc
namespace Go.Proofs.Qxb6003563a
open Go.RowKit

def madeRow (n : Nat) : Array Value := madeCells (Value.int .u8 0).cells (n * 1)
def rowOf (xs : List UInt8) : Array Value := (xs.map fun x => Value.int .u8 (x.toNat : Int)).toArray
theorem info5 : (Try.prog.info? 5).map (fun i => (i.zero, i.size, i.bytes)) = some (some (.int .u8 0), 1, 1) := by kernel_rfl

theorem made_run (n : Nat) (hn : n ≤ 1048576) (w : World) :
    (Instr.makeSlice 22 (.int .i64 (n : Int)) (.int .i64 (n : Int))).run Try.prog w = .ok (.slice (some ⟨w.heap.size, 0, none⟩) n n) (w.alloc (.cells (madeRow n) 5)) := by
  obtain ⟨i, hi, hz, hs, hb⟩ := info_parts info5
  have := run_make (P := Try.prog) w 22 5 i (.int .u8 0) Try.underlying22 hi hz .i64 .i64 (n : Int) (n : Int) (by omega) (by omega) (by rw [hb]; omega) (by omega)
  rw [hs] at this
  simpa [madeRow] using this

theorem setRow_new (w : World) (old cs : Array Value) (t : TypeId) : (w.alloc (.cells old t)).setRow w.heap.size cs = w.alloc (.cells cs t) := by
  unfold World.setRow World.alloc
  congr 1
  apply Array.ext_getElem?
  intro i
  rw [Array.getElem?_modify]
  by_cases h : w.heap.size = i
  · subst h; simp
  · rw [if_neg h]
    simp only [Array.getElem?_push]
    split <;> rename_i h2
    · exact absurd h2.symm h
    · rfl

theorem copy_run (n c : Nat) (xs : List UInt8) (a : Addr) (w : World) (ha : 0 < n → a.block < w.heap.size) (hx : xs.length = n)
    (hsrc : ∀ j, j < n → w.cell? (a.add j) = some (.int .u8 ((xs.getD j 0).toNat : Int))) (ty : TypeId) :
    (Builtin.copy_ #[22, 22] ty #[.slice (some ⟨w.heap.size, 0, none⟩) n n, .slice (some a) n c]).run Try.prog (w.alloc (.cells (madeRow n) 5)) = .ok (.int .i64 (n : Int)) (w.alloc (.cells (rowOf xs) 5)) := by
  have hl : (xs.map fun x => Value.int .u8 (x.toNat : Int)).length = n := by rw [List.length_map, hx]
  have hsz : (madeRow n).size = n := by unfold madeRow; rw [size_madeCells]; omega
  have hg : (w.alloc (.cells (madeRow n) 5)).heap[w.heap.size]? = some (.cells (madeRow n) 5 (0, 0)) := by
    show (w.heap.push _)[w.heap.size]? = _
    simp
  have h := run_copy_row (P := Try.prog) (w.alloc (.cells (madeRow n) 5)) 22 22 ty 5 w.heap.size 0 n n a n c (madeRow n) 5 (xs.map fun x => Value.int .u8 (x.toNat : Int)) Try.underlying22 (by kernel_rfl) hg (by rw [hl]; exact (Nat.min_self n).symm)
    (fun j v hj => by
      have hjn : j < n := by have := (List.getElem?_eq_some_iff.1 hj).1; omega
      have hb2 : (a.add j).block = a.block := by unfold Addr.add; split <;> rfl
      rw [((Below.refl _ w).alloc (Nat.le_refl _) _).cell (by rw [hb2]; exact ha (by omega)), hsrc j hjn]
      rw [List.getElem?_map, List.getElem?_eq_getElem (by omega)] at hj
      rw [List.getD_eq_getElem?_getD, List.getElem?_eq_getElem (by omega)]
      simpa using hj) (by rw [hl, hsz]; omega) (fun v hv => by
      obtain ⟨x, _, rfl⟩ := List.mem_map.1 hv
      rfl)
  rw [h, setRow_new, hl]
  have e2 : ((madeRow n).toList.drop (0 + n)) = [] := List.drop_eq_nil_of_le (by rw [Array.length_toList, hsz]; omega)
  rw [e2]
  simp [rowOf, goInt]

theorem row_cell (w : World) (xs : List UInt8) (j : Nat) (h : j < xs.length) : (w.alloc (.cells (rowOf xs) 5)).cell? ⟨w.heap.size, j, none⟩ = some (.int .u8 ((xs.getD j 0).toNat : Int)) := by
  simp [go_sem, rowOf, h]

theorem lt_of_cell {w : World} {p : Addr} {v : Value} (h : w.cell? p = some v) : p.block < w.heap.size := by
  by_cases hlt : p.block < w.heap.size
  · exact hlt
  · have : w.heap[p.block]? = none := Array.getElem?_eq_none (by omega)
    simp [World.cell?, this] at h

/-- A row of numbers that came in, as bytes. -/
theorem row_open {w : World} {x : Addr} {len cap : Nat} {zs : List Int} (hl : len ≤ cap) (hz : zs.length = cap) (hcell : ∀ i, i < zs.length → w.cell? (x.add i) = some (.int .u8 (zs.getD i 0))) (hwf : ∀ n ∈ zs, (Lit.int .u8 n).wf = true) :
    ∃ xs : List UInt8, xs.length = len ∧ (0 < len → x.block < w.heap.size) ∧ ∀ j, j < len → w.cell? (x.add j) = some (.int .u8 ((xs.getD j 0).toNat : Int)) := by
  have hb2 : ∀ j, (x.add j).block = x.block := fun j => by unfold Addr.add; split <;> rfl
  refine ⟨(zs.take len).map fun z => UInt8.ofNat z.toNat, by simp; omega, fun h0 => ?_, fun j hj => ?_⟩
  · have := lt_of_cell (hcell 0 (by omega))
    rw [hb2] at this; exact this
  · rw [hcell j (by omega)]
    have hj2 : j < zs.length := by omega
    have hm := hwf _ (List.getElem_mem hj2)
    have e1 : IntKind.u8.min = 0 := rfl
    have e2 : IntKind.u8.max = 255 := rfl
    simp [Lit.wf, e1, e2] at hm
    have g1 : zs.getD j 0 = zs[j] := by rw [List.getD_eq_getElem?_getD, List.getElem?_eq_getElem hj2]; rfl
    have g2 : ((zs.take len).map fun z => UInt8.ofNat z.toNat).getD j 0 = UInt8.ofNat zs[j].toNat := by
      rw [List.getD_eq_getElem?_getD, List.getElem?_map, List.getElem?_take_of_lt hj, List.getElem?_eq_getElem hj2]; rfl
    rw [g1, g2, UInt8.toNat_ofNat']
    congr 2; omega
end Go.Proofs.Qxb6003563a
