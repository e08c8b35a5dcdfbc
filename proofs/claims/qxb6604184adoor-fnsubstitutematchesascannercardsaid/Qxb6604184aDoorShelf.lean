import Derived.Shelf.LaysM
import Derived.Shelf.Strings.SplitShaped
import Derived.Shelf.Strings.OnBuilder
import Derived.Shelf.Pu.ParseUintPublic10
import Derived.Test.Qxb6604184aDoorProg
namespace Go.Proofs
open Go.Shelf
def Tryd.lays156_ren : Go.Shelf.Ren := ⟨fun | 156 => 15 | 165 => 19 | 166 => 20 | 169 => 21 | 240 => 31 | 241 => 32 | 276 => 40 | 277 => 41 | n => n, fun | 31 => 22 | 9 => 9 | 3 => 3 | 4 => 4 | 0 => 0 | 20 => 20 | 72 => 43 | 76 => 45 | 70 => 41 | 37 => 31 | 75 => 35 | 127 => 57 | 164 => 66 | 5 => 5 | 80 => 47 | n => n, fun | n => n⟩
theorem Tryd.lays156 : Go.Proofs.Lays.n156 Tryd.prog Tryd.lays156_ren := {
  mixed := by kernel_rfl
  f156 := Tryd.func15.trans (congrArg some (by kernel_rfl))
  f165 := Tryd.func19.trans (congrArg some (by kernel_rfl))
  f166 := Tryd.func20.trans (congrArg some (by kernel_rfl))
  f169 := Tryd.func21.trans (congrArg some (by kernel_rfl))
  f240 := Tryd.func31.trans (congrArg some (by kernel_rfl))
  f241 := Tryd.func32.trans (congrArg some (by kernel_rfl))
  f276 := Tryd.func40.trans (congrArg some (by kernel_rfl))
  f277 := Tryd.func41.trans (congrArg some (by kernel_rfl))
  t0 := Tryd.underlying0
  a0 := Tryd.isAgg0
  z0 := Tryd.sizeOf0
  v0 := Tryd.zeroValue0
  t3 := Tryd.underlying3
  a3 := Tryd.isAgg3
  z3 := Tryd.sizeOf3
  v3 := Tryd.zeroValue3
  t4 := Tryd.underlying4
  a4 := Tryd.isAgg4
  z4 := Tryd.sizeOf4
  v4 := Tryd.zeroValue4
  t9 := Tryd.underlying9
  a9 := Tryd.isAgg9
  z9 := Tryd.sizeOf9
  v9 := Tryd.zeroValue9
  t20 := Tryd.underlying20
  a20 := Tryd.isAgg20
  z20 := Tryd.sizeOf20
  v20 := Tryd.zeroValue20
  t31 := Tryd.underlying22
  a31 := Tryd.isAgg22
  z31 := Tryd.sizeOf22
  v31 := Tryd.zeroValue22
  t37 := Tryd.underlying31
  a37 := Tryd.isAgg31
  z37 := Tryd.sizeOf31
  v37 := Tryd.zeroValue31
  t70 := Tryd.underlying41
  a70 := Tryd.isAgg41
  z70 := Tryd.sizeOf41
  v70 := Tryd.zeroValue41
  t72 := Tryd.underlying43
  a72 := Tryd.isAgg43
  z72 := Tryd.sizeOf43
  v72 := Tryd.zeroValue43
  t75 := Tryd.underlying35
  a75 := Tryd.isAgg35
  z75 := Tryd.sizeOf35
  v75 := Tryd.zeroValue35
  t76 := Tryd.underlying45
  a76 := Tryd.isAgg45
  z76 := Tryd.sizeOf45
  v76 := Tryd.zeroValue45
  t127 := Tryd.underlying57
  a127 := Tryd.isAgg57
  z127 := Tryd.sizeOf57
  v127 := Tryd.zeroValue57
  t164 := Tryd.underlying66
  a164 := Tryd.isAgg66
  z164 := Tryd.sizeOf66
  v164 := Tryd.zeroValue66 }
theorem Tryd.Builder_Extra_156 : Builder.Extra Tryd.prog Tryd.lays156_ren := {
  sizeBuilder := by kernel_rfl
  liesBuilder := by kernel_rfl
  t5 := Tryd.underlying5
  a5 := Tryd.isAgg5
  z5 := Tryd.sizeOf5
  v5 := Tryd.zeroValue5
  infoByte := by kernel_rfl
  cellsByte := by kernel_rfl
  sizeByte := by kernel_rfl
  neB5 := by decide }
open Go.RowKit in
theorem Tryd.strings_Join_none (a : Option Addr) (c : Nat) (sep : ByteArray) (w : World) :
    Calls Tryd.prog 15 #[.slice a 0 c, .string sep] w fun e w' => e = .returned (.string ⟨#[]⟩) ∧ w' = w := Any.strings_Join_none Tryd.lays156 Tryd.Builder_Extra_156 a c sep w
open Go.RowKit in
theorem Tryd.strings_Join (bk o c : Nat) (xs : List ByteArray) (sep : ByteArray) (w : World) (hcells : ∀ (j : Nat) x, xs[j]? = some x → w.cell? ⟨bk, o + j, none⟩ = some (.string x)) (hbk : bk < w.heap.size) (hN : xs.length ≤ 140737488355328) (hcap : xs.length ≤ c) (hlen : (Lib.join (xs.map (·.data.toList)) sep.data.toList).length ≤ 140737488355328) :
    Calls Tryd.prog 15 #[.slice (some ⟨bk, o, none⟩) xs.length c, .string sep] w fun e w' => e = .returned (.string ⟨(Lib.join (xs.map (·.data.toList)) sep.data.toList).toArray⟩) ∧ Below w.heap.size w w' := Any.strings_Join Tryd.lays156 Tryd.Builder_Extra_156 bk o c xs sep w hcells hbk hN hcap hlen
def Tryd.laysPu14_ren : Go.Shelf.Ren := ⟨fun | 14 => 14 | 16 => 17 | 17 => 18 | 19 => 25 | 20 => 26 | 21 => 27 | 22 => 28 | 23 => 29 | 24 => 30 | 25 => 37 | 27 => 39 | 26 => 38 | 28 => 47 | 29 => 50 | 30 => 51 | 31 => 52 | 32 => 53 | 33 => 54 | 35 => 56 | 34 => 55 | 36 => 57 | 37 => 58 | 38 => 59 | 39 => 60 | 40 => 61 | n => n, fun | 9 => 9 | 3 => 3 | 22 => 33 | 24 => 35 | 25 => 36 | 4 => 4 | 34 => 50 | 5 => 5 | 36 => 52 | 37 => 31 | 0 => 0 | 39 => 54 | 21 => 21 | 44 => 63 | 47 => 57 | 50 => 72 | 48 => 70 | 2 => 2 | 52 => 81 | 55 => 84 | 59 => 87 | 60 => 77 | 20 => 20 | 61 => 88 | 65 => 92 | 66 => 93 | 67 => 47 | n => n, fun | 0 => 0 | 1 => 1 | 2 => 5 | 3 => 6 | 4 => 7 | n => n⟩
theorem Tryd.laysPu14 : Go.Proofs.LaysPu.n14 Tryd.prog Tryd.laysPu14_ren := {
  mixed := by kernel_rfl
  f14 := Tryd.func14.trans (congrArg some (by kernel_rfl))
  f16 := Tryd.func17.trans (congrArg some (by kernel_rfl))
  f17 := Tryd.func18.trans (congrArg some (by kernel_rfl))
  f19 := Tryd.func25.trans (congrArg some (by kernel_rfl))
  f20 := Tryd.func26.trans (congrArg some (by kernel_rfl))
  f21 := Tryd.func27.trans (congrArg some (by kernel_rfl))
  f22 := Tryd.func28.trans (congrArg some (by kernel_rfl))
  f23 := Tryd.func29.trans (congrArg some (by kernel_rfl))
  f24 := Tryd.func30.trans (congrArg some (by kernel_rfl))
  f25 := Tryd.func37.trans (congrArg some (by kernel_rfl))
  f26 := Tryd.func38.trans (congrArg some (by kernel_rfl))
  f27 := Tryd.func39.trans (congrArg some (by kernel_rfl))
  f28 := Tryd.func47.trans (congrArg some (by kernel_rfl))
  f29 := Tryd.func50.trans (congrArg some (by kernel_rfl))
  f30 := Tryd.func51.trans (congrArg some (by kernel_rfl))
  f31 := Tryd.func52.trans (congrArg some (by kernel_rfl))
  f32 := Tryd.func53.trans (congrArg some (by kernel_rfl))
  f33 := Tryd.func54.trans (congrArg some (by kernel_rfl))
  f34 := Tryd.func55.trans (congrArg some (by kernel_rfl))
  f35 := Tryd.func56.trans (congrArg some (by kernel_rfl))
  f36 := Tryd.func57.trans (congrArg some (by kernel_rfl))
  f37 := Tryd.func58.trans (congrArg some (by kernel_rfl))
  f38 := Tryd.func59.trans (congrArg some (by kernel_rfl))
  f39 := Tryd.func60.trans (congrArg some (by kernel_rfl))
  f40 := Tryd.func61.trans (congrArg some (by kernel_rfl))
  t0 := Tryd.underlying0
  a0 := Tryd.isAgg0
  z0 := Tryd.sizeOf0
  v0 := Tryd.zeroValue0
  i0 := by kernel_rfl
  t2 := Tryd.underlying2
  a2 := Tryd.isAgg2
  z2 := Tryd.sizeOf2
  v2 := Tryd.zeroValue2
  i2 := by kernel_rfl
  t3 := Tryd.underlying3
  a3 := Tryd.isAgg3
  z3 := Tryd.sizeOf3
  v3 := Tryd.zeroValue3
  i3 := by kernel_rfl
  t4 := Tryd.underlying4
  a4 := Tryd.isAgg4
  z4 := Tryd.sizeOf4
  v4 := Tryd.zeroValue4
  i4 := by kernel_rfl
  t5 := Tryd.underlying5
  a5 := Tryd.isAgg5
  z5 := Tryd.sizeOf5
  v5 := Tryd.zeroValue5
  i5 := by kernel_rfl
  t9 := Tryd.underlying9
  a9 := Tryd.isAgg9
  z9 := Tryd.sizeOf9
  v9 := Tryd.zeroValue9
  i9 := by kernel_rfl
  t20 := Tryd.underlying20
  a20 := Tryd.isAgg20
  z20 := Tryd.sizeOf20
  v20 := Tryd.zeroValue20
  i20 := by kernel_rfl
  t21 := Tryd.underlying21
  a21 := Tryd.isAgg21
  z21 := Tryd.sizeOf21
  v21 := Tryd.zeroValue21
  i21 := by kernel_rfl
  t22 := Tryd.underlying33
  a22 := Tryd.isAgg33
  z22 := Tryd.sizeOf33
  v22 := Tryd.zeroValue33
  i22 := by kernel_rfl
  t24 := Tryd.underlying35
  a24 := Tryd.isAgg35
  z24 := Tryd.sizeOf35
  v24 := Tryd.zeroValue35
  i24 := by kernel_rfl
  t25 := Tryd.underlying36
  a25 := Tryd.isAgg36
  z25 := Tryd.sizeOf36
  v25 := Tryd.zeroValue36
  i25 := by kernel_rfl
  t34 := Tryd.underlying50
  a34 := Tryd.isAgg50
  z34 := Tryd.sizeOf50
  v34 := Tryd.zeroValue50
  i34 := by kernel_rfl
  c34 := by kernel_rfl
  t36 := Tryd.underlying52
  a36 := Tryd.isAgg52
  z36 := Tryd.sizeOf52
  v36 := Tryd.zeroValue52
  i36 := by kernel_rfl
  t37 := Tryd.underlying31
  a37 := Tryd.isAgg31
  z37 := Tryd.sizeOf31
  v37 := Tryd.zeroValue31
  i37 := by kernel_rfl
  t39 := Tryd.underlying54
  a39 := Tryd.isAgg54
  z39 := Tryd.sizeOf54
  v39 := Tryd.zeroValue54
  i39 := by kernel_rfl
  t44 := Tryd.underlying63
  a44 := Tryd.isAgg63
  z44 := Tryd.sizeOf63
  v44 := Tryd.zeroValue63
  i44 := by kernel_rfl
  t47 := Tryd.underlying57
  a47 := Tryd.isAgg57
  z47 := Tryd.sizeOf57
  v47 := Tryd.zeroValue57
  i47 := by kernel_rfl
  t48 := Tryd.underlying70
  a48 := Tryd.isAgg70
  z48 := Tryd.sizeOf70
  v48 := Tryd.zeroValue70
  i48 := by kernel_rfl
  t50 := Tryd.underlying72
  a50 := Tryd.isAgg72
  z50 := Tryd.sizeOf72
  v50 := Tryd.zeroValue72
  i50 := by kernel_rfl
  t52 := Tryd.underlying81
  a52 := Tryd.isAgg81
  z52 := Tryd.sizeOf81
  v52 := Tryd.zeroValue81
  i52 := by kernel_rfl
  t55 := Tryd.underlying84
  a55 := Tryd.isAgg84
  z55 := Tryd.sizeOf84
  v55 := Tryd.zeroValue84
  i55 := by kernel_rfl
  t59 := Tryd.underlying87
  a59 := Tryd.isAgg87
  z59 := Tryd.sizeOf87
  v59 := Tryd.zeroValue87
  i59 := by kernel_rfl
  t60 := Tryd.underlying77
  a60 := Tryd.isAgg77
  z60 := Tryd.sizeOf77
  v60 := Tryd.zeroValue77
  i60 := by kernel_rfl
  t61 := Tryd.underlying88
  a61 := Tryd.isAgg88
  z61 := Tryd.sizeOf88
  t65 := Tryd.underlying92
  a65 := Tryd.isAgg92
  z65 := Tryd.sizeOf92
  v65 := Tryd.zeroValue92
  i65 := by kernel_rfl
  t66 := Tryd.underlying93
  a66 := Tryd.isAgg93
  z66 := Tryd.sizeOf93
  v66 := Tryd.zeroValue93
  i66 := by kernel_rfl
  t67 := Tryd.underlying47
  a67 := Tryd.isAgg47
  z67 := Tryd.sizeOf47
  v67 := Tryd.zeroValue47
  i67 := by kernel_rfl
  g0 := by kernel_rfl
  m0 := by kernel_rfl
  g1 := by kernel_rfl
  m1 := by kernel_rfl
  g2 := by kernel_rfl
  m2 := by kernel_rfl
  g3 := by kernel_rfl
  m3 := by kernel_rfl
  g4 := by kernel_rfl
  m4 := by kernel_rfl }
open Go.RowKit in
theorem Tryd.strconv_ParseUint_10_at32_ok (s : ByteArray) (hmax : s.size ≤ 9223372036854775806) (u : Nat) (h : Lib.parseUintB 32 s.data.toList = .ok u) (w : World) :
    Calls Tryd.prog 14 #[.string s, .int .i64 10, .int .i64 32] w fun e w' => e = .returned (.tuple #[.int .u64 u, .nilIface]) ∧ (w' = w ∨ w' = Lib.bytesWorld w 5 s) := Any.strconv_ParseUint_10_at32_ok Tryd.laysPu14 s hmax u h w
def Tryd.laysM146_ren : Go.Shelf.Ren := ⟨fun | 146 => 13 | 221 => 16 | 268 => 22 | 138 => 23 | 143 => 24 | 195 => 33 | 197 => 34 | 218 => 35 | 219 => 36 | 260 => 42 | 217 => 43 | 225 => 44 | 224 => 45 | 267 => 46 | 266 => 48 | 314 => 49 | n => n, fun | 9 => 9 | 31 => 22 | 3 => 3 | 4 => 4 | 0 => 0 | 105 => 58 | 21 => 21 | 5 => 5 | 46 => 52 | 119 => 73 | 139 => 76 | 138 => 75 | 146 => 78 | 51 => 77 | n => n, fun | 1 => 2 | 3 => 3 | 4 => 4 | n => n⟩
theorem Tryd.laysM146 : Go.Proofs.LaysM.n146 Tryd.prog Tryd.laysM146_ren := {
  mixed := by kernel_rfl
  f138 := Tryd.func23.trans (congrArg some (by kernel_rfl))
  f143 := Tryd.func24.trans (congrArg some (by kernel_rfl))
  f146 := Tryd.func13.trans (congrArg some (by kernel_rfl))
  f195 := Tryd.func33.trans (congrArg some (by kernel_rfl))
  f197 := Tryd.func34.trans (congrArg some (by kernel_rfl))
  f217 := Tryd.func43.trans (congrArg some (by kernel_rfl))
  f218 := Tryd.func35.trans (congrArg some (by kernel_rfl))
  f219 := Tryd.func36.trans (congrArg some (by kernel_rfl))
  f221 := Tryd.func16.trans (congrArg some (by kernel_rfl))
  f224 := Tryd.func45.trans (congrArg some (by kernel_rfl))
  f225 := Tryd.func44.trans (congrArg some (by kernel_rfl))
  f260 := Tryd.func42.trans (congrArg some (by kernel_rfl))
  f266 := Tryd.func48.trans (congrArg some (by kernel_rfl))
  f267 := Tryd.func46.trans (congrArg some (by kernel_rfl))
  f268 := Tryd.func22.trans (congrArg some (by kernel_rfl))
  f314 := Tryd.func49.trans (congrArg some (by kernel_rfl))
  t0 := Tryd.underlying0
  a0 := Tryd.isAgg0
  z0 := Tryd.sizeOf0
  v0 := Tryd.zeroValue0
  t3 := Tryd.underlying3
  a3 := Tryd.isAgg3
  z3 := Tryd.sizeOf3
  v3 := Tryd.zeroValue3
  t4 := Tryd.underlying4
  a4 := Tryd.isAgg4
  z4 := Tryd.sizeOf4
  v4 := Tryd.zeroValue4
  t5 := Tryd.underlying5
  a5 := Tryd.isAgg5
  z5 := Tryd.sizeOf5
  v5 := Tryd.zeroValue5
  t9 := Tryd.underlying9
  a9 := Tryd.isAgg9
  z9 := Tryd.sizeOf9
  v9 := Tryd.zeroValue9
  t21 := Tryd.underlying21
  a21 := Tryd.isAgg21
  z21 := Tryd.sizeOf21
  v21 := Tryd.zeroValue21
  t31 := Tryd.underlying22
  a31 := Tryd.isAgg22
  z31 := Tryd.sizeOf22
  v31 := Tryd.zeroValue22
  t46 := Tryd.underlying52
  a46 := Tryd.isAgg52
  z46 := Tryd.sizeOf52
  v46 := Tryd.zeroValue52
  t51 := Tryd.underlying77
  a51 := Tryd.isAgg77
  z51 := Tryd.sizeOf77
  v51 := Tryd.zeroValue77
  t105 := Tryd.underlying58
  a105 := Tryd.isAgg58
  z105 := Tryd.sizeOf58
  v105 := Tryd.zeroValue58
  t119 := Tryd.underlying73
  a119 := Tryd.isAgg73
  z119 := Tryd.sizeOf73
  t138 := Tryd.underlying75
  a138 := Tryd.isAgg75
  z138 := Tryd.sizeOf75
  v138 := Tryd.zeroValue75
  t139 := Tryd.underlying76
  a139 := Tryd.isAgg76
  z139 := Tryd.sizeOf76
  v139 := Tryd.zeroValue76
  t146 := Tryd.underlying78
  a146 := Tryd.isAgg78
  z146 := Tryd.sizeOf78
  v146 := Tryd.zeroValue78
  g1 := by kernel_rfl
  g3 := by kernel_rfl
  g4 := by kernel_rfl
  i0 := by kernel_rfl
  i3 := by kernel_rfl
  i4 := by kernel_rfl
  i5 := by kernel_rfl
  i9 := by kernel_rfl
  i21 := by kernel_rfl
  i31 := by kernel_rfl
  i46 := by kernel_rfl
  i51 := by kernel_rfl
  i105 := by kernel_rfl
  i138 := by kernel_rfl
  i139 := by kernel_rfl
  i146 := by kernel_rfl
  m1 := by kernel_rfl
  s1_3 := fun w h => Go.Proofs.cell_of_shapedOpen_int (zero := #[.int .i64 0]) (t := 3) h (of_decide_eq_true (by kernel_rfl)) (by kernel_rfl) rfl (by kernel_rfl) (by kernel_rfl) Tryd.underlying3
  m3 := by kernel_rfl
  m4 := by kernel_rfl }
theorem Tryd.split_at (s sep : ByteArray) (m : Int) (w : World) (hs : s.size < 4294967281) (hm : w.cell? ⟨2, 0, none⟩ = some (.int .i64 m)) (h1 : 1 ≤ sep.size) :
    Calls Tryd.prog 13 #[.string s, .string sep] w fun e w' =>
      e = .returned (.slice (some ⟨w.heap.size, 0, none⟩) (Lib.countB s sep + 1) (Lib.countB s sep + 1)) ∧ w' = w.alloc (.cells ((Lib.splitB sep 0 (Lib.countB s sep) s).map Value.string).toArray 9) :=
  Any.strings_Split { Tryd.laysM146 with } Tryd.laysM146.i9 s sep m w hs hm h1
theorem Tryd.maxLen_cell (w : World) (h : w.ShapedOpen Tryd.prog) : ∃ m : Int, w.cell? ⟨2, 0, none⟩ = some (.int .i64 m) := Tryd.laysM146.s1_3 w h
theorem Tryd.parseUint_ok (s : ByteArray) (hmax : s.size ≤ 281474976710656) (u : Nat) (h : Lib.parseUintB 32 s.data.toList = .ok u) (w : World) :
    Calls Tryd.prog 14 #[.string s, .int .i64 10, .int .i64 32] w fun e w' => e = .returned (.tuple #[.int .u64 u, .nilIface]) ∧ RowKit.Below w.heap.size w w' := by
  refine (Tryd.strconv_ParseUint_10_at32_ok s (Nat.le_trans hmax (by decide)) u h w).mono ?_
  rintro e w' ⟨rfl, hw⟩
  refine ⟨rfl, ?_⟩
  rcases hw with rfl | rfl
  · exact RowKit.Below.refl _ _
  · exact ⟨rfl, rfl, rfl, by rw [Lib.bytesWorld_size]; exact Nat.le_add_right _ _, fun j hj => Lib.bytesWorld_at_old w 5 s j hj⟩
theorem Tryd.parseUint_bad (s : ByteArray) (hlim : s.size ≤ 281474976710656) (h : ∀ u, Lib.parseUintB 32 s.data.toList ≠ .ok u) (w : World) (e0 e1 : Value)
    (h0 : w.cell? ⟨0, 0, none⟩ = some e0) (i0 : e0 = .nilIface ∨ ∃ te pe, e0 = .iface te pe) (h1 : w.cell? ⟨1, 0, none⟩ = some e1) (i1 : e1 = .nilIface ∨ ∃ te pe, e1 = .iface te pe) :
    Calls Tryd.prog 14 #[.string s, .int .i64 10, .int .i64 32] w fun e w' => ∃ (x : Int) (a : Addr), e = .returned (.tuple #[.int .u64 x, .iface 54 (.pointer (some a))]) ∧ RowKit.Below w.heap.size w w' := by
  cases hp : Lib.parseUintB 32 s.data.toList
  · exact absurd hp (h _)
  · refine (Any.strconv_ParseUint_10_at32_syntax Tryd.laysPu14 s hlim hp e0 w h0 i0).mono ?_
    rintro e w' ⟨N, he, _, _, hb⟩
    exact ⟨_, _, he, hb⟩
  · refine (Any.strconv_ParseUint_10_at32_range Tryd.laysPu14 s hlim hp e1 w h1 i1).mono ?_
    rintro e w' ⟨N, he, _, _, hb⟩
    exact ⟨_, _, he, hb⟩
end Go.Proofs
