/-
  DERIVED. WHAT THE ROWS' CONDITION ('laid') GIVES THE WALKS OF THIS SEAT; one start that meets it: the heap that the door's own run leaves.
-/
import Derived.Test.Qxb6002900aDoorTop
import Derived.ProofKit
import Derived.LaidMore
import Derived.Stop.Joined
import Derived.Stop.LaidErr
namespace Go.Proofs.Qxb6002900aDoor
open Go.RowKit

theorem own : ownKnob Tryd.prog.godebug = none := by kernel_rfl
theorem tPow : (Tryd.prog.globals[2]?).map (·.type) = some 70 := by kernel_rfl
theorem tSyn : (Tryd.prog.globals[0]?).map (·.type) = some 43 := by kernel_rfl
theorem tRan : (Tryd.prog.globals[1]?).map (·.type) = some 43 := by kernel_rfl
theorem cells78 : Tryd.prog.cellsOf 78 = 1 := by kernel_rfl
theorem cells9 : Tryd.prog.cellsOf 9 = 1 := by kernel_rfl
theorem cells36 : Tryd.prog.cellsOf 36 = 1 := by kernel_rfl
theorem cells70 : Tryd.prog.cellsOf 70 = 20 := by kernel_rfl

/-- The list, as the given rows bear it. -/
def laid5 : List (String × DataW Unit) := Rows.fnWholeSetTextMatchesCanonicalDecimalModelRow.laid

theorem plain5 (W : World) (h : laidMetH Tryd.prog laid5 W) : laidMet Tryd.prog laid5 W := by
  rw [MakeChecks.laidMetH_plain _ _ _ (by kernel_rfl)] at h
  exact h

theorem laid_low (W : World) (h : laidMetH Tryd.prog laid5 W) : Laid W := by
  have h1 : laidMet Tryd.prog laid5 W := plain5 W h
  have h2 := h1.tail.tail
  have hpow : Lib.TabIs Tryd.prog W powName .u64 Lib.pow10Tab := Lib.tabIs_of_head (rest := _) gPow tPow Tryd.underlying70 Tryd.underlying36 cells36 cells70 h2
  have h3 := h2.tail
  obtain ⟨a1, s1, hv1, -, -, -⟩ := laid_sentinel h3 gRan tRan Tryd.underlying43 (fun u e => typeName_ptr_named (nm := "errors.errorString") (tp := 76) (by kernel_rfl) (by kernel_rfl) (by decide) u (e.trans (congrArg some (by kernel_rfl)))) Tryd.underlying76 Tryd.underlying78 rfl rfl Tryd.underlying9 cells78 cells9
  have h4 := h3.tail
  obtain ⟨a2, s2, hv2, -, -, -⟩ := laid_sentinel h4 gSyn tSyn Tryd.underlying43 (fun u e => typeName_ptr_named (nm := "errors.errorString") (tp := 76) (by kernel_rfl) (by kernel_rfl) (by decide) u (e.trans (congrArg some (by kernel_rfl)))) Tryd.underlying76 Tryd.underlying78 rfl rfl Tryd.underlying9 cells78 cells9
  refine ⟨⟨_, _, hv2⟩, ⟨_, _, hv1⟩, hpow, ?_⟩
  have := World.var?_cell gPow hpow 0
  exact Lib.lt_of_cell (this.trans (by simp [Lib.pow10Tab]; rfl))

/-- The door's own heap meets the condition. -/
theorem door_met (os : Os) (args : Array Value) : laidMetH Tryd.prog laid5 ((World.doorLaid Tryd.prog 62 os).forCall (fun _ _ => 0) ⟨#[], args, []⟩).memory :=
  laidMetH_of_parts3 (fuel := 8) (laidMet_of_run' 8 (by kernel_rfl) (by kernel_rfl)) (by kernel_rfl) (by kernel_rfl)
end Go.Proofs.Qxb6002900aDoor
