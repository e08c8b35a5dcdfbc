/-
  The contract of strings.Split, laid at this program by the shelf's own tool.
-/
import Derived.Shelf.LaysM
import Derived.Shelf.Strings.SplitShaped
import Derived.Test.Qxb6603685aDoorProg
namespace Go.Proofs
open Go.Shelf
def Tryd.laysM146_ren : Go.Shelf.Ren := ⟨fun | 146 => 21 | 221 => 27 | 268 => 30 | 138 => 31 | 143 => 32 | 195 => 35 | 197 => 36 | 218 => 37 | 219 => 34 | 260 => 42 | 217 => 38 | 225 => 39 | 224 => 40 | 267 => 41 | 266 => 43 | 314 => 44 | n => n, fun | 9 => 9 | 31 => 24 | 3 => 3 | 4 => 4 | 0 => 0 | 105 => 49 | 21 => 21 | 5 => 5 | 46 => 52 | 119 => 56 | 139 => 59 | 138 => 58 | 146 => 54 | 51 => 53 | n => n, fun | 1 => 0 | 3 => 1 | 4 => 2 | n => n⟩
theorem Tryd.laysM146 : Go.Proofs.LaysM.n146 Tryd.prog Tryd.laysM146_ren := {
  mixed := by kernel_rfl
  f138 := Tryd.func31.trans (congrArg some (by kernel_rfl))
  f143 := Tryd.func32.trans (congrArg some (by kernel_rfl))
  f146 := Tryd.func21.trans (congrArg some (by kernel_rfl))
  f195 := Tryd.func35.trans (congrArg some (by kernel_rfl))
  f197 := Tryd.func36.trans (congrArg some (by kernel_rfl))
  f217 := Tryd.func38.trans (congrArg some (by kernel_rfl))
  f218 := Tryd.func37.trans (congrArg some (by kernel_rfl))
  f219 := Tryd.func34.trans (congrArg some (by kernel_rfl))
  f221 := Tryd.func27.trans (congrArg some (by kernel_rfl))
  f224 := Tryd.func40.trans (congrArg some (by kernel_rfl))
  f225 := Tryd.func39.trans (congrArg some (by kernel_rfl))
  f260 := Tryd.func42.trans (congrArg some (by kernel_rfl))
  f266 := Tryd.func43.trans (congrArg some (by kernel_rfl))
  f267 := Tryd.func41.trans (congrArg some (by kernel_rfl))
  f268 := Tryd.func30.trans (congrArg some (by kernel_rfl))
  f314 := Tryd.func44.trans (congrArg some (by kernel_rfl))
  t0 := Tryd.underlying0
  a0 := Tryd.isAgg0
  z0 := Tryd.sizeOf0
  v0 := Tryd.zeroValue0
  t3 := Tryd.underlying3
  a3 := Tryd.isAgg3
  z3 := Tryd.sizeOf3
  v3 := Tryd.zeroValue3
  t4 := Tryd.underlying4
  a4 := Tryd.isAgg4
  z4 := Tryd.sizeOf4
  v4 := Tryd.zeroValue4
  t5 := Tryd.underlying5
  a5 := Tryd.isAgg5
  z5 := Tryd.sizeOf5
  v5 := Tryd.zeroValue5
  t9 := Tryd.underlying9
  a9 := Tryd.isAgg9
  z9 := Tryd.sizeOf9
  v9 := Tryd.zeroValue9
  t21 := Tryd.underlying21
  a21 := Tryd.isAgg21
  z21 := Tryd.sizeOf21
  v21 := Tryd.zeroValue21
  t31 := Tryd.underlying24
  a31 := Tryd.isAgg24
  z31 := Tryd.sizeOf24
  v31 := Tryd.zeroValue24
  t46 := Tryd.underlying52
  a46 := Tryd.isAgg52
  z46 := Tryd.sizeOf52
  v46 := Tryd.zeroValue52
  t51 := Tryd.underlying53
  a51 := Tryd.isAgg53
  z51 := Tryd.sizeOf53
  v51 := Tryd.zeroValue53
  t105 := Tryd.underlying49
  a105 := Tryd.isAgg49
  z105 := Tryd.sizeOf49
  v105 := Tryd.zeroValue49
  t119 := Tryd.underlying56
  a119 := Tryd.isAgg56
  z119 := Tryd.sizeOf56
  t138 := Tryd.underlying58
  a138 := Tryd.isAgg58
  z138 := Tryd.sizeOf58
  v138 := Tryd.zeroValue58
  t139 := Tryd.underlying59
  a139 := Tryd.isAgg59
  z139 := Tryd.sizeOf59
  v139 := Tryd.zeroValue59
  t146 := Tryd.underlying54
  a146 := Tryd.isAgg54
  z146 := Tryd.sizeOf54
  v146 := Tryd.zeroValue54
  g1 := by kernel_rfl
  g3 := by kernel_rfl
  g4 := by kernel_rfl
  i0 := by kernel_rfl
  i3 := by kernel_rfl
  i4 := by kernel_rfl
  i5 := by kernel_rfl
  i9 := by kernel_rfl
  i21 := by kernel_rfl
  i31 := by kernel_rfl
  i46 := by kernel_rfl
  i51 := by kernel_rfl
  i105 := by kernel_rfl
  i138 := by kernel_rfl
  i139 := by kernel_rfl
  i146 := by kernel_rfl
  m1 := by kernel_rfl
  s1_3 := fun w h => Go.Proofs.cell_of_shapedOpen_int (zero := #[.int .i64 0]) (t := 3) h (of_decide_eq_true (by kernel_rfl)) (by kernel_rfl) rfl (by kernel_rfl) (by kernel_rfl) Tryd.underlying3
  m3 := by kernel_rfl
  m4 := by kernel_rfl }
open Go.RowKit Go.Lib in
/-- strings.Split, sep not empty. (LAID: no walk: one application.) -/
theorem Tryd.strings_Split_shaped (s sep : ByteArray) (w : World) (h : w.ShapedOpen Tryd.prog) (hs : s.size < 4294967281) (h1 : 1 ≤ sep.size) :
    Calls Tryd.prog 21 #[.string s, .string sep] w fun e w' =>
      e = .returned (.slice (some ⟨w.heap.size, 0, none⟩) (Lib.countB s sep + 1) (Lib.countB s sep + 1)) ∧ w' = w.alloc (.cells ((Lib.splitB sep 0 (Lib.countB s sep) s).map Value.string).toArray 9) := Any.strings_Split_shaped Tryd.laysM146 s sep w h hs h1
end Go.Proofs
