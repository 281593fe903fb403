/-
  DERIVED: THE LIBRARY's CONTRACTS AT THIS DUMP, in plain words: (*strings.Builder).WriteByte and String, as the kit's tool writes such layings for a program; the table of numbers of WriteByte's typed by hand (the tool does not find two of them: no body of the closure names them).
-/
import Derived.Shelf.Strings.Builder1
import Derived.Test.Qxb6003563aProg
namespace Go.Proofs
open Go.Shelf
def Try.lays169_ren : Go.Shelf.Ren := ⟨fun | 169 => 16 | n => n, fun | 70 => 32 | 9 => 9 | 0 => 0 | 72 => 34 | 37 => 22 | 127 => 39 | 3 => 3 | 5 => 5 | n => n, fun | n => n⟩
theorem Try.lays169 : Go.Proofs.Lays.n169 Try.prog Try.lays169_ren := {
  mixed := by kernel_rfl
  f169 := Try.func16.trans (congrArg some (by kernel_rfl))
  t0 := Try.underlying0
  a0 := Try.isAgg0
  z0 := Try.sizeOf0
  v0 := Try.zeroValue0
  t3 := Try.underlying3
  a3 := Try.isAgg3
  z3 := Try.sizeOf3
  v3 := Try.zeroValue3
  t9 := Try.underlying9
  a9 := Try.isAgg9
  z9 := Try.sizeOf9
  v9 := Try.zeroValue9
  t37 := Try.underlying22
  a37 := Try.isAgg22
  z37 := Try.sizeOf22
  v37 := Try.zeroValue22
  t70 := Try.underlying32
  a70 := Try.isAgg32
  z70 := Try.sizeOf32
  v70 := Try.zeroValue32
  t72 := Try.underlying34
  a72 := Try.isAgg34
  z72 := Try.sizeOf34
  v72 := Try.zeroValue34
  t127 := Try.underlying39
  a127 := Try.isAgg39
  z127 := Try.sizeOf39
  v127 := Try.zeroValue39 }
theorem Try.extra169 : Builder.Extra Try.prog Try.lays169_ren := {
  sizeBuilder := by kernel_rfl
  liesBuilder := by kernel_rfl
  t5 := Try.underlying5
  a5 := Try.isAgg5
  z5 := Try.sizeOf5
  v5 := Try.zeroValue5
  infoByte := by kernel_rfl
  cellsByte := by kernel_rfl
  sizeByte := by kernel_rfl
  neB5 := by decide }
def Try.lays167_ren : Go.Shelf.Ren := ⟨fun | 167 => 15 | 240 => 17 | 276 => 18 | n => n, fun | 70 => 32 | 72 => 34 | 37 => 22 | 75 => 36 | 80 => 38 | 164 => 40 | n => n, fun | n => n⟩
theorem Try.lays167 : Go.Proofs.Lays.n167 Try.prog Try.lays167_ren := {
  mixed := by kernel_rfl
  f167 := Try.func15.trans (congrArg some (by kernel_rfl))
  f240 := Try.func17.trans (congrArg some (by kernel_rfl))
  f276 := Try.func18.trans (congrArg some (by kernel_rfl))
  t0 := Try.underlying0
  a0 := Try.isAgg0
  z0 := Try.sizeOf0
  v0 := Try.zeroValue0
  t4 := Try.underlying4
  a4 := Try.isAgg4
  z4 := Try.sizeOf4
  v4 := Try.zeroValue4
  t5 := Try.underlying5
  a5 := Try.isAgg5
  z5 := Try.sizeOf5
  v5 := Try.zeroValue5
  t9 := Try.underlying9
  a9 := Try.isAgg9
  z9 := Try.sizeOf9
  v9 := Try.zeroValue9
  t20 := Try.underlying20
  a20 := Try.isAgg20
  z20 := Try.sizeOf20
  v20 := Try.zeroValue20
  t37 := Try.underlying22
  a37 := Try.isAgg22
  z37 := Try.sizeOf22
  v37 := Try.zeroValue22
  t70 := Try.underlying32
  a70 := Try.isAgg32
  z70 := Try.sizeOf32
  v70 := Try.zeroValue32
  t72 := Try.underlying34
  a72 := Try.isAgg34
  z72 := Try.sizeOf34
  v72 := Try.zeroValue34
  t75 := Try.underlying36
  a75 := Try.isAgg36
  z75 := Try.sizeOf36
  v75 := Try.zeroValue36
  t164 := Try.underlying40
  a164 := Try.isAgg40
  z164 := Try.sizeOf40
  v164 := Try.zeroValue40 }
theorem Try.extra167 : Builder.Extra Try.prog Try.lays167_ren := {
  sizeBuilder := by kernel_rfl
  liesBuilder := by kernel_rfl
  t5 := Try.underlying5
  a5 := Try.isAgg5
  z5 := Try.sizeOf5
  v5 := Try.zeroValue5
  infoByte := by kernel_rfl
  cellsByte := by kernel_rfl
  sizeByte := by kernel_rfl
  neB5 := by decide }
/-- (*strings.Builder).WriteByte, on a builder that the call has made. -/
theorem Try.writeByte (B b : Nat) (bs : List Value) (c : Int) (w : World) (h : Lib.IsBuilder 34 5 B b bs w) (hlen : bs.length + 1 ≤ 140737488355328) (hBw : B ≤ w.heap.size) :
    Calls Try.prog 15 #[.pointer (some ⟨b, 0, none⟩), .int .u8 c] w fun e w' => e = .returned .nilIface ∧ (Lib.BuilderAt 34 5 B b (.pointer (some ⟨b, 0, none⟩)) (bs ++ [.int .u8 c]) w' ∧ Go.RowKit.Below B w w') := Any.Builder_WriteByte Try.lays167 Try.extra167 B b bs c w h hlen hBw
/-- (*strings.Builder).String. -/
theorem Try.builderString (B b : Nat) (l : List UInt8) (w : World) (h : Lib.IsBuilder 34 5 B b (Lib.byteCells l) w) (hBw : B ≤ w.heap.size) :
    Calls Try.prog 16 #[.pointer (some ⟨b, 0, none⟩)] w fun e w' => e = .returned (.string ⟨l.toArray⟩) ∧ Go.RowKit.Below B w w' := Any.Builder_String_any Try.lays169 Try.extra169 B b l w h hBw
end Go.Proofs
