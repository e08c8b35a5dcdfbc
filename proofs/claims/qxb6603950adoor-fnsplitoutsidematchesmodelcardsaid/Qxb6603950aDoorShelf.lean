import Derived.Shelf.Small.Strs
import Derived.Shelf.Strings.TrimSpaceAny
import Derived.Test.Qxb6603950aDoorProg
namespace Go.Proofs
open Go.Shelf
def Tryd.lays163_ren : Go.Shelf.Ren := ⟨fun | 163 => 28 | 237 => 30 | 199 => 31 | 238 => 32 | 272 => 33 | 261 => 34 | 273 => 35 | 197 => 36 | 315 => 37 | 311 => 38 | 312 => 39 | 271 => 40 | 260 => 41 | 120 => 42 | n => n, fun | 9 => 9 | 37 => 36 | 3 => 3 | 0 => 0 | 5 => 5 | 4 => 4 | 40 => 38 | 119 => 39 | 21 => 21 | 51 => 40 | 141 => 42 | 105 => 44 | 196 => 49 | 193 => 46 | 198 => 52 | 49 => 50 | 194 => 47 | 201 => 55 | 226 => 57 | 46 => 58 | 227 => 59 | 139 => 63 | 138 => 62 | n => n, fun | 0 => 0 | 6 => 2 | 3 => 3 | 4 => 4 | n => n⟩
theorem Tryd.lays163 : Go.Proofs.Lays.n163 Tryd.prog Tryd.lays163_ren := {
  mixed := by kernel_rfl
  f120 := Tryd.func42.trans (congrArg some (by kernel_rfl))
  f163 := Tryd.func28.trans (congrArg some (by kernel_rfl))
  f197 := Tryd.func36.trans (congrArg some (by kernel_rfl))
  f199 := Tryd.func31.trans (congrArg some (by kernel_rfl))
  f237 := Tryd.func30.trans (congrArg some (by kernel_rfl))
  f238 := Tryd.func32.trans (congrArg some (by kernel_rfl))
  f260 := Tryd.func41.trans (congrArg some (by kernel_rfl))
  f261 := Tryd.func34.trans (congrArg some (by kernel_rfl))
  f271 := Tryd.func40.trans (congrArg some (by kernel_rfl))
  f272 := Tryd.func33.trans (congrArg some (by kernel_rfl))
  f273 := Tryd.func35.trans (congrArg some (by kernel_rfl))
  f311 := Tryd.func38.trans (congrArg some (by kernel_rfl))
  f312 := Tryd.func39.trans (congrArg some (by kernel_rfl))
  f315 := Tryd.func37.trans (congrArg some (by kernel_rfl))
  t0 := Tryd.underlying0
  a0 := Tryd.isAgg0
  z0 := Tryd.sizeOf0
  v0 := Tryd.zeroValue0
  t3 := Tryd.underlying3
  a3 := Tryd.isAgg3
  z3 := Tryd.sizeOf3
  v3 := Tryd.zeroValue3
  t4 := Tryd.underlying4
  a4 := Tryd.isAgg4
  z4 := Tryd.sizeOf4
  v4 := Tryd.zeroValue4
  t5 := Tryd.underlying5
  a5 := Tryd.isAgg5
  z5 := Tryd.sizeOf5
  v5 := Tryd.zeroValue5
  t9 := Tryd.underlying9
  a9 := Tryd.isAgg9
  z9 := Tryd.sizeOf9
  v9 := Tryd.zeroValue9
  t21 := Tryd.underlying21
  a21 := Tryd.isAgg21
  z21 := Tryd.sizeOf21
  v21 := Tryd.zeroValue21
  t37 := Tryd.underlying36
  a37 := Tryd.isAgg36
  z37 := Tryd.sizeOf36
  v37 := Tryd.zeroValue36
  t40 := Tryd.underlying38
  a40 := Tryd.isAgg38
  z40 := Tryd.sizeOf38
  v40 := Tryd.zeroValue38
  t46 := Tryd.underlying58
  a46 := Tryd.isAgg58
  z46 := Tryd.sizeOf58
  v46 := Tryd.zeroValue58
  t49 := Tryd.underlying50
  a49 := Tryd.isAgg50
  z49 := Tryd.sizeOf50
  v49 := Tryd.zeroValue50
  t51 := Tryd.underlying40
  a51 := Tryd.isAgg40
  z51 := Tryd.sizeOf40
  v51 := Tryd.zeroValue40
  t105 := Tryd.underlying44
  a105 := Tryd.isAgg44
  z105 := Tryd.sizeOf44
  v105 := Tryd.zeroValue44
  t119 := Tryd.underlying39
  a119 := Tryd.isAgg39
  z119 := Tryd.sizeOf39
  t138 := Tryd.underlying62
  a138 := Tryd.isAgg62
  z138 := Tryd.sizeOf62
  v138 := Tryd.zeroValue62
  t139 := Tryd.underlying63
  a139 := Tryd.isAgg63
  z139 := Tryd.sizeOf63
  v139 := Tryd.zeroValue63
  t141 := Tryd.underlying42
  a141 := Tryd.isAgg42
  z141 := Tryd.sizeOf42
  v141 := Tryd.zeroValue42
  t193 := Tryd.underlying46
  a193 := Tryd.isAgg46
  z193 := Tryd.sizeOf46
  v193 := Tryd.zeroValue46
  t194 := Tryd.underlying47
  a194 := Tryd.isAgg47
  z194 := Tryd.sizeOf47
  v194 := Tryd.zeroValue47
  t196 := Tryd.underlying49
  a196 := Tryd.isAgg49
  z196 := Tryd.sizeOf49
  v196 := Tryd.zeroValue49
  t198 := Tryd.underlying52
  a198 := Tryd.isAgg52
  z198 := Tryd.sizeOf52
  v198 := Tryd.zeroValue52
  t201 := Tryd.underlying55
  a201 := Tryd.isAgg55
  z201 := Tryd.sizeOf55
  v201 := Tryd.zeroValue55
  t226 := Tryd.underlying57
  a226 := Tryd.isAgg57
  z226 := Tryd.sizeOf57
  v226 := Tryd.zeroValue57
  t227 := Tryd.underlying59
  a227 := Tryd.isAgg59
  z227 := Tryd.sizeOf59
  v227 := Tryd.zeroValue59
  g0 := by kernel_rfl
  g3 := by kernel_rfl
  g4 := by kernel_rfl
  g6 := by kernel_rfl }
theorem Tryd.Space_Extra_163 : Space.Extra Tryd.prog Tryd.lays163_ren := {
  gNamed := by kernel_rfl }
def Tryd.lays137_ren : Go.Shelf.Ren := ⟨fun | 137 => 25 | 217 => 27 | 266 => 29 | n => n, fun | 9 => 9 | 5 => 5 | 3 => 3 | n => n, fun | n => n⟩
theorem Tryd.lays137 : Go.Proofs.Lays.n137 Tryd.prog Tryd.lays137_ren := {
  mixed := by kernel_rfl
  f137 := Tryd.func25.trans (congrArg some (by kernel_rfl))
  f217 := Tryd.func27.trans (congrArg some (by kernel_rfl))
  f266 := Tryd.func29.trans (congrArg some (by kernel_rfl))
  t3 := Tryd.underlying3
  a3 := Tryd.isAgg3
  z3 := Tryd.sizeOf3
  v3 := Tryd.zeroValue3
  t5 := Tryd.underlying5
  a5 := Tryd.isAgg5
  z5 := Tryd.sizeOf5
  v5 := Tryd.zeroValue5
  t9 := Tryd.underlying9
  a9 := Tryd.isAgg9
  z9 := Tryd.sizeOf9
  v9 := Tryd.zeroValue9 }
open Go.RowKit in
theorem Tryd.strings_IndexByte (s : ByteArray) (c : Int) (w : World) :
    Calls Tryd.prog 25 #[.string s, .int .u8 c] w fun e w' => e = .returned (.int .i64 (Lib.indexByte s.data.toList c.toNat.toUInt8)) ∧ w' = w := Any.strings_IndexByte Tryd.lays137 s c w
open Go.RowKit in
theorem Tryd.strings_TrimSpace_any (s : ByteArray) (w : World) (hs : s.size ≤ 9223372036854775807) (htab : Lib.TabIs Tryd.prog w "strings.asciiSpace" .u8 Lib.asciiSpaceTab) (hU8 : Lib.Utf8Tabs 3 4 w) (hWS : Lib.WhiteTab 2 w) :
    Calls Tryd.prog 28 #[.string s] w fun e w' => e = .returned (.string ⟨(Lib.trimSpaceD s.data.toList).toArray⟩) ∧ Below w.heap.size w w' := Any.strings_TrimSpace_any Tryd.lays163 Tryd.Space_Extra_163 s w hs htab hU8 hWS
end Go.Proofs
