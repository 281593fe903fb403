/-
  DERIVED. WHAT THE ROWS' CONDITION ('laid') GIVES THE WALKS OF THIS SEAT; one start that meets it: the heap that the door's own run leaves. A row of bytes that came in.
-/
import Derived.Test.Qxb6003233aDoorSorts
import Derived.ProofKit
import Derived.LaidMore
import Derived.Stop.Joined
import Derived.Stop.LaidErr
namespace Go.Proofs.Qxb6003233aDoor
open Go.RowKit

theorem lt_of_cell {w : World} {p : Addr} {v : Value} (h : w.cell? p = some v) : p.block < w.heap.size := by
  by_cases hlt : p.block < w.heap.size
  · exact hlt
  · have : w.heap[p.block]? = none := Array.getElem?_eq_none (by omega)
    simp [World.cell?, this] at h

theorem own : ownKnob Tryd.prog.godebug = none := by kernel_rfl
theorem laidOut : laidOutB Tryd.prog = true := by kernel_rfl
theorem tPow : (Tryd.prog.globals[0]?).map (·.type) = some 60 := by kernel_rfl
theorem cells60 : Tryd.prog.cellsOf 60 = 20 := by kernel_rfl
theorem cells37 : Tryd.prog.cellsOf 37 = 1 := by kernel_rfl

/-- The list, as the given rows bear it. -/
def laid3 : List (String × DataW Unit) := Rows.fnAppendPaddedSortsAsNumbersRow.laid

theorem plain3 (W : World) (h : laidMetH Tryd.prog laid3 W) : laidMet Tryd.prog laid3 W := by
  rw [MakeChecks.laidMetH_plain _ _ _ (by kernel_rfl)] at h
  exact h

theorem laid_low (W : World) (h : laidMetH Tryd.prog laid3 W) : Laid W := by
  have h1 : laidMet Tryd.prog laid3 W := plain3 W h
  have h2 := h1.tail.tail
  have hpow : Lib.TabIs Tryd.prog W powName .u64 Lib.pow10Tab := Lib.tabIs_of_head (rest := _) gPow tPow Tryd.underlying60 Tryd.underlying37 cells37 cells60 h2
  refine ⟨hpow, ?_⟩
  have := World.var?_cell gPow hpow 0
  exact lt_of_cell (this.trans (by simp [Lib.pow10Tab]; rfl))

/-- The door's own heap meets the condition. -/
theorem door_met (os : Os) (args : Array Value) : laidMetH Tryd.prog laid3 ((World.doorLaid Tryd.prog 24 os).forCall (fun _ _ => 0) ⟨#[], args, []⟩).memory :=
  laidMetH_of_parts3 (fuel := 8) (laidMet_of_run' 8 (by kernel_rfl) (by kernel_rfl)) (by kernel_rfl) (by kernel_rfl)

/-- A slice of bytes that came in: nil, or the cells of a row. -/
theorem row_reads {w : World} {x : Addr} {len cap : Nat} {zs : List Int} (hl : len ≤ cap) (hz : zs.length = cap) (hcell : ∀ i, i < zs.length → w.cell? (x.add i) = some (.int .u8 (zs.getD i 0))) (hwf : ∀ n ∈ zs, (Lit.int .u8 n).wf = true) :
    ∃ l : List UInt8, Reads (.slice (some x) len cap) len l w := by
  refine ⟨(zs.take len).map fun z => UInt8.ofNat z.toNat, some x, cap, rfl, by simp; omega, fun e => (by cases e), fun ad e => ?_⟩
  cases e
  refine ⟨fun h0 => ?_, fun j hj => ?_⟩
  · have := lt_of_cell (hcell 0 (by omega))
    rw [add_block] at this; exact this
  · rw [hcell j (by omega)]
    have hj2 : j < zs.length := by omega
    have hm := hwf _ (List.getElem_mem hj2)
    have e1 : IntKind.u8.min = 0 := rfl
    have e2 : IntKind.u8.max = 255 := rfl
    simp [Lit.wf, e1, e2] at hm
    have g1 : zs.getD j 0 = zs[j] := by rw [List.getD_eq_getElem?_getD, List.getElem?_eq_getElem hj2]; rfl
    have g2 : ((zs.take len).map fun z => UInt8.ofNat z.toNat).getD j 0 = UInt8.ofNat zs[j].toNat := by
      rw [List.getD_eq_getElem?_getD, List.getElem?_map, List.getElem?_take_of_lt hj, List.getElem?_eq_getElem hj2]; rfl
    rw [g1, g2, UInt8.toNat_ofNat']
    congr 2; omega
end Go.Proofs.Qxb6003233aDoor
