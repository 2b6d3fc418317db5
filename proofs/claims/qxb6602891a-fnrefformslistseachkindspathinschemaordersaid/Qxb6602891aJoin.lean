/-
  strings.Join (30) at this dump: laid off the shelf by its own tools (lay-shelf.mjs, lay-plain.mjs), cut down to this one contract. By an AI agent.
-/
import Derived.Shelf.Strings.OnBuilder
import Derived.Test.Qxb6602891aRows
namespace Go.Proofs.Qxb6602891a
open Go.Shelf Go.RowKit
def lays156_ren : Go.Shelf.Ren := ⟨fun | 156 => 30 | 165 => 32 | 166 => 33 | 169 => 34 | 240 => 35 | 241 => 36 | 276 => 37 | 277 => 38 | n => n, fun | 31 => 22 | 9 => 9 | 3 => 3 | 4 => 4 | 0 => 0 | 20 => 20 | 72 => 66 | 76 => 70 | 70 => 64 | 37 => 60 | 75 => 69 | 127 => 72 | 164 => 73 | 5 => 5 | 80 => 59 | n => n, fun | n => n⟩
theorem lays156 : Go.Proofs.Lays.n156 Try.prog lays156_ren := {
  mixed := by kernel_rfl
  f156 := Try.func30.trans (congrArg some (by kernel_rfl))
  f165 := Try.func32.trans (congrArg some (by kernel_rfl))
  f166 := Try.func33.trans (congrArg some (by kernel_rfl))
  f169 := Try.func34.trans (congrArg some (by kernel_rfl))
  f240 := Try.func35.trans (congrArg some (by kernel_rfl))
  f241 := Try.func36.trans (congrArg some (by kernel_rfl))
  f276 := Try.func37.trans (congrArg some (by kernel_rfl))
  f277 := Try.func38.trans (congrArg some (by kernel_rfl))
  t0 := Try.underlying0
  a0 := Try.isAgg0
  z0 := Try.sizeOf0
  v0 := Try.zeroValue0
  t3 := Try.underlying3
  a3 := Try.isAgg3
  z3 := Try.sizeOf3
  v3 := Try.zeroValue3
  t4 := Try.underlying4
  a4 := Try.isAgg4
  z4 := Try.sizeOf4
  v4 := Try.zeroValue4
  t9 := Try.underlying9
  a9 := Try.isAgg9
  z9 := Try.sizeOf9
  v9 := Try.zeroValue9
  t20 := Try.underlying20
  a20 := Try.isAgg20
  z20 := Try.sizeOf20
  v20 := Try.zeroValue20
  t31 := Try.underlying22
  a31 := Try.isAgg22
  z31 := Try.sizeOf22
  v31 := Try.zeroValue22
  t37 := Try.underlying60
  a37 := Try.isAgg60
  z37 := Try.sizeOf60
  v37 := Try.zeroValue60
  t70 := Try.underlying64
  a70 := Try.isAgg64
  z70 := Try.sizeOf64
  v70 := Try.zeroValue64
  t72 := Try.underlying66
  a72 := Try.isAgg66
  z72 := Try.sizeOf66
  v72 := Try.zeroValue66
  t75 := Try.underlying69
  a75 := Try.isAgg69
  z75 := Try.sizeOf69
  v75 := Try.zeroValue69
  t76 := Try.underlying70
  a76 := Try.isAgg70
  z76 := Try.sizeOf70
  v76 := Try.zeroValue70
  t127 := Try.underlying72
  a127 := Try.isAgg72
  z127 := Try.sizeOf72
  v127 := Try.zeroValue72
  t164 := Try.underlying73
  a164 := Try.isAgg73
  z164 := Try.sizeOf73
  v164 := Try.zeroValue73 }
theorem extra156 : Builder.Extra Try.prog lays156_ren := {
  sizeBuilder := by kernel_rfl
  liesBuilder := by kernel_rfl
  t5 := Try.underlying5
  a5 := Try.isAgg5
  z5 := Try.sizeOf5
  v5 := Try.zeroValue5
  infoByte := by kernel_rfl
  cellsByte := by kernel_rfl
  sizeByte := by kernel_rfl
  neB5 := by decide }
theorem join_none (a : Option Addr) (c : Nat) (sep : ByteArray) (w : World) :
    Calls Try.prog 30 #[.slice a 0 c, .string sep] w fun e w' => e = .returned (.string ⟨#[]⟩) ∧ w' = w := Any.strings_Join_none lays156 extra156 a c sep w
theorem join_any (bk o c : Nat) (xs : List ByteArray) (sep : ByteArray) (w : World) (hcells : ∀ (j : Nat) x, xs[j]? = some x → w.cell? ⟨bk, o + j, none⟩ = some (.string x)) (hbk : bk < w.heap.size) (hN : xs.length ≤ 140737488355328) (hcap : xs.length ≤ c) (hlen : (Lib.join (xs.map (·.data.toList)) sep.data.toList).length ≤ 140737488355328) :
    Calls Try.prog 30 #[.slice (some ⟨bk, o, none⟩) xs.length c, .string sep] w fun e w' => e = .returned (.string ⟨(Lib.join (xs.map (·.data.toList)) sep.data.toList).toArray⟩) ∧ Below w.heap.size w w' := Any.strings_Join lays156 extra156 bk o c xs sep w hcells hbk hN hcap hlen
end Go.Proofs.Qxb6602891a
