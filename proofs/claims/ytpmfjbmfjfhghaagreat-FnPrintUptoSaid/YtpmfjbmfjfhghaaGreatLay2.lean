/-
  DERIVED: THE SHELF's CONTRACTS AT THIS DUMP, IN PLAIN WORDS (tools/lay-plain.mjs out of 'YtpmfjbmfjfhghaaGreatLay2Try.lean', which tools/lay-shelf.mjs wrote): THE SAME DECLARATIONS UNDER THE SAME NAMES: 'import', 'namespace', 'open', 'def', 'theorem' AND NOTHING ELSE: no command of the shelf's: FOR A HAND-IN. Each laying: the table of numbers ('.._ren') and one theorem, a field a fact of the dump's own or the kernel's comparison; each contract: ONE APPLICATION.
-/
import Derived.Test.YtpmfjbmfjfhghaaGreatProg
import Derived.Shelf.Strings.OnBuilder
namespace Go.Proofs
open Go.Shelf
def Tryz.lays156_ren : Go.Shelf.Ren := ⟨fun | 156 => 166 | 165 => 167 | 166 => 168 | 169 => 169 | 240 => 170 | 241 => 171 | 276 => 172 | 277 => 173 | n => n, fun | 31 => 26 | 9 => 9 | 3 => 3 | 4 => 4 | 0 => 0 | 20 => 20 | 72 => 221 | 76 => 225 | 70 => 218 | 37 => 219 | 75 => 224 | 127 => 211 | 164 => 227 | 5 => 5 | 80 => 146 | n => n, fun | n => n⟩
theorem Tryz.lays156 : Go.Proofs.Lays.n156 Tryz.prog Tryz.lays156_ren := {
  mixed := by kernel_rfl
  f156 := Tryz.func166.trans (congrArg some (by kernel_rfl))
  f165 := Tryz.func167.trans (congrArg some (by kernel_rfl))
  f166 := Tryz.func168.trans (congrArg some (by kernel_rfl))
  f169 := Tryz.func169.trans (congrArg some (by kernel_rfl))
  f240 := Tryz.func170.trans (congrArg some (by kernel_rfl))
  f241 := Tryz.func171.trans (congrArg some (by kernel_rfl))
  f276 := Tryz.func172.trans (congrArg some (by kernel_rfl))
  f277 := Tryz.func173.trans (congrArg some (by kernel_rfl))
  t0 := Tryz.underlying0
  a0 := Tryz.isAgg0
  z0 := Tryz.sizeOf0
  v0 := Tryz.zeroValue0
  t3 := Tryz.underlying3
  a3 := Tryz.isAgg3
  z3 := Tryz.sizeOf3
  v3 := Tryz.zeroValue3
  t4 := Tryz.underlying4
  a4 := Tryz.isAgg4
  z4 := Tryz.sizeOf4
  v4 := Tryz.zeroValue4
  t9 := Tryz.underlying9
  a9 := Tryz.isAgg9
  z9 := Tryz.sizeOf9
  v9 := Tryz.zeroValue9
  t20 := Tryz.underlying20
  a20 := Tryz.isAgg20
  z20 := Tryz.sizeOf20
  v20 := Tryz.zeroValue20
  t31 := Tryz.underlying26
  a31 := Tryz.isAgg26
  z31 := Tryz.sizeOf26
  v31 := Tryz.zeroValue26
  t37 := Tryz.underlying219
  a37 := Tryz.isAgg219
  z37 := Tryz.sizeOf219
  v37 := Tryz.zeroValue219
  t70 := Tryz.underlying218
  a70 := Tryz.isAgg218
  z70 := Tryz.sizeOf218
  v70 := Tryz.zeroValue218
  t72 := Tryz.underlying221
  a72 := Tryz.isAgg221
  z72 := Tryz.sizeOf221
  v72 := Tryz.zeroValue221
  t75 := Tryz.underlying224
  a75 := Tryz.isAgg224
  z75 := Tryz.sizeOf224
  v75 := Tryz.zeroValue224
  t76 := Tryz.underlying225
  a76 := Tryz.isAgg225
  z76 := Tryz.sizeOf225
  v76 := Tryz.zeroValue225
  t127 := Tryz.underlying211
  a127 := Tryz.isAgg211
  z127 := Tryz.sizeOf211
  v127 := Tryz.zeroValue211
  t164 := Tryz.underlying227
  a164 := Tryz.isAgg227
  z164 := Tryz.sizeOf227
  v164 := Tryz.zeroValue227 }
theorem Tryz.Builder_Extra_156 : Builder.Extra Tryz.prog Tryz.lays156_ren := {
  sizeBuilder := by kernel_rfl
  liesBuilder := by kernel_rfl
  t5 := Tryz.underlying5
  a5 := Tryz.isAgg5
  z5 := Tryz.sizeOf5
  v5 := Tryz.zeroValue5
  infoByte := by kernel_rfl
  cellsByte := by kernel_rfl
  sizeByte := by kernel_rfl
  neB5 := by decide }
end Go.Proofs
