/-
  strings.Builder at this dump: WriteByte (28) and String (29): the shelf's contracts, laid. By an AI agent.
-/
import Derived.Test.Qxb6603932aRows
import Derived.Shelf.Strings.Builder1
import Derived.WalkKit
namespace Go.Proofs.Qxb6603932a
open Go.Shelf Go.RowKit

def lays169_ren : Go.Shelf.Ren := ⟨fun | 169 => 29 | n => n, fun | 70 => 38 | 9 => 9 | 0 => 0 | 72 => 40 | 37 => 35 | 127 => 45 | 3 => 3 | 5 => 5 | n => n, fun | n => n⟩
theorem lays169 : Go.Proofs.Lays.n169 Try.prog lays169_ren := {
  mixed := by kernel_rfl
  f169 := Try.func29.trans (congrArg some (by kernel_rfl))
  t0 := Try.underlying0
  a0 := Try.isAgg0
  z0 := Try.sizeOf0
  v0 := Try.zeroValue0
  t3 := Try.underlying3
  a3 := Try.isAgg3
  z3 := Try.sizeOf3
  v3 := Try.zeroValue3
  t9 := Try.underlying9
  a9 := Try.isAgg9
  z9 := Try.sizeOf9
  v9 := Try.zeroValue9
  t37 := Try.underlying35
  a37 := Try.isAgg35
  z37 := Try.sizeOf35
  v37 := Try.zeroValue35
  t70 := Try.underlying38
  a70 := Try.isAgg38
  z70 := Try.sizeOf38
  v70 := Try.zeroValue38
  t72 := Try.underlying40
  a72 := Try.isAgg40
  z72 := Try.sizeOf40
  v72 := Try.zeroValue40
  t127 := Try.underlying45
  a127 := Try.isAgg45
  z127 := Try.sizeOf45
  v127 := Try.zeroValue45 }
theorem builderExtra : Builder.Extra Try.prog lays169_ren := {
  sizeBuilder := by kernel_rfl
  liesBuilder := by kernel_rfl
  t5 := Try.underlying5
  a5 := Try.isAgg5
  z5 := Try.sizeOf5
  v5 := Try.zeroValue5
  infoByte := by kernel_rfl
  cellsByte := by kernel_rfl
  sizeByte := by kernel_rfl
  neB5 := by decide }

/-- (*strings.Builder).String: the accumulated bytes. -/
theorem builder_String (B b : Nat) (l : List UInt8) (w : World) (h : Lib.IsBuilder 40 5 B b (Lib.byteCells l) w) (hBw : B ≤ w.heap.size) :
    Calls Try.prog 29 #[.pointer (some ⟨b, 0, none⟩)] w fun e w' => e = .returned (.string ⟨l.toArray⟩) ∧ Below B w w' := Any.Builder_String_any lays169 builderExtra B b l w h hBw

/-- WriteByte's closure (the one command does not lay it: its structure names a type that the refused statement alone would name: here that number is typed by hand). -/
def lays167_ren : Go.Shelf.Ren := ⟨fun | 167 => 28 | 240 => 30 | 276 => 31 | n => n, fun | 70 => 38 | 72 => 40 | 37 => 35 | 75 => 42 | 80 => 44 | 164 => 46 | n => n, fun | n => n⟩
theorem lays167 : Go.Proofs.Lays.n167 Try.prog lays167_ren := {
  mixed := by kernel_rfl
  f167 := Try.func28.trans (congrArg some (by kernel_rfl))
  f240 := Try.func30.trans (congrArg some (by kernel_rfl))
  f276 := Try.func31.trans (congrArg some (by kernel_rfl))
  t0 := Try.underlying0
  a0 := Try.isAgg0
  z0 := Try.sizeOf0
  v0 := Try.zeroValue0
  t4 := Try.underlying4
  a4 := Try.isAgg4
  z4 := Try.sizeOf4
  v4 := Try.zeroValue4
  t5 := Try.underlying5
  a5 := Try.isAgg5
  z5 := Try.sizeOf5
  v5 := Try.zeroValue5
  t9 := Try.underlying9
  a9 := Try.isAgg9
  z9 := Try.sizeOf9
  v9 := Try.zeroValue9
  t20 := Try.underlying20
  a20 := Try.isAgg20
  z20 := Try.sizeOf20
  v20 := Try.zeroValue20
  t37 := Try.underlying35
  a37 := Try.isAgg35
  z37 := Try.sizeOf35
  v37 := Try.zeroValue35
  t70 := Try.underlying38
  a70 := Try.isAgg38
  z70 := Try.sizeOf38
  v70 := Try.zeroValue38
  t72 := Try.underlying40
  a72 := Try.isAgg40
  z72 := Try.sizeOf40
  v72 := Try.zeroValue40
  t75 := Try.underlying42
  a75 := Try.isAgg42
  z75 := Try.sizeOf42
  v75 := Try.zeroValue42
  t164 := Try.underlying46
  a164 := Try.isAgg46
  z164 := Try.sizeOf46
  v164 := Try.zeroValue46 }
theorem builderExtra167 : Builder.Extra Try.prog lays167_ren := {
  sizeBuilder := by kernel_rfl
  liesBuilder := by kernel_rfl
  t5 := Try.underlying5
  a5 := Try.isAgg5
  z5 := Try.sizeOf5
  v5 := Try.zeroValue5
  infoByte := by kernel_rfl
  cellsByte := by kernel_rfl
  sizeByte := by kernel_rfl
  neB5 := by decide }

/-- (*strings.Builder).WriteByte: one byte more. -/
theorem builder_WriteByte (B b : Nat) (bs : List Value) (c : Int) (w : World) (h : Lib.IsBuilder 40 5 B b bs w) (hlen : bs.length + 1 ≤ 140737488355328) (hBw : B ≤ w.heap.size) :
    Calls Try.prog 28 #[.pointer (some ⟨b, 0, none⟩), .int .u8 c] w fun e w' => e = .returned .nilIface ∧ (Lib.BuilderAt 40 5 B b (.pointer (some ⟨b, 0, none⟩)) (bs ++ [.int .u8 c]) w' ∧ Below B w w') := Any.Builder_WriteByte lays167 builderExtra167 B b bs c w h hlen hBw

theorem infoByte5 : (Try.prog.info? 5).map (fun i => (i.zero, i.size, i.bytes)) = some (some (.int .u8 0), 1, 1) := by kernel_rfl
end Go.Proofs.Qxb6603932a
