/-
  THE SHELF's CONTRACTS on strings.CutPrefix and strconv.Atoi AT THIS DUMP, in plain words (written by the kit's lay-shelf and lay-plain for this program); and Atoi's two failing ways in one.
-/
import Derived.Shelf.Small.Wraps
import Derived.Shelf.LaysC
import Derived.Shelf.Strconv.AtoiAll
import Derived.Shelf.Strconv.ErrVarAll
import Derived.Lib.AtoiErrMem
import Derived.Test.Qxb6628947aFmtRows
import Derived.WalkKit
namespace Go.Proofs.Qxb6628947aFmt
open Go.Shelf Go.RowKit
def Tryf.lays103_ren : Go.Shelf.Ren := ⟨fun | 103 => 10 | 210 => 14 | 206 => 18 | n => n, fun | 9 => 9 | 4 => 4 | 24 => 29 | 3 => 3 | n => n, fun | n => n⟩
theorem Tryf.lays103 : Go.Proofs.Lays.n103 Tryf.prog Tryf.lays103_ren := {
  mixed := by kernel_rfl
  f103 := Tryf.func10.trans (congrArg some (by kernel_rfl))
  f206 := Tryf.func18.trans (congrArg some (by kernel_rfl))
  f210 := Tryf.func14.trans (congrArg some (by kernel_rfl))
  t3 := Tryf.underlying3
  a3 := Tryf.isAgg3
  z3 := Tryf.sizeOf3
  v3 := Tryf.zeroValue3
  t4 := Tryf.underlying4
  a4 := Tryf.isAgg4
  z4 := Tryf.sizeOf4
  v4 := Tryf.zeroValue4
  t9 := Tryf.underlying9
  a9 := Tryf.isAgg9
  z9 := Tryf.sizeOf9
  v9 := Tryf.zeroValue9
  t24 := Tryf.underlying29
  a24 := Tryf.isAgg29
  z24 := Tryf.sizeOf29
  v24 := Tryf.zeroValue29 }
def Tryf.laysC172_ren : Go.Shelf.Ren := ⟨fun | 172 => 15 | 244 => 19 | 245 => 20 | 247 => 21 | 279 => 22 | 280 => 23 | 281 => 24 | 282 => 25 | 287 => 26 | 316 => 27 | 171 => 28 | 205 => 17 | 321 => 29 | 322 => 30 | 243 => 31 | 246 => 32 | 283 => 33 | 284 => 34 | 285 => 35 | 286 => 36 | 129 => 38 | 317 => 37 | 318 => 39 | 319 => 40 | 320 => 41 | 337 => 42 | 338 => 43 | n => n, fun | 9 => 9 | 3 => 3 | 75 => 24 | 76 => 25 | 4 => 4 | 5 => 5 | 167 => 42 | 37 => 43 | 0 => 0 | 85 => 44 | 2 => 2 | 168 => 46 | 53 => 49 | 175 => 50 | 46 => 52 | 210 => 55 | 127 => 58 | 145 => 41 | 143 => 39 | 21 => 21 | 171 => 60 | 173 => 63 | 212 => 66 | 51 => 67 | 20 => 20 | 213 => 68 | 232 => 72 | 233 => 73 | 80 => 75 | n => n, fun | 15 => 0 | 16 => 1 | 17 => 2 | 18 => 3 | 19 => 4 | n => n⟩
theorem Tryf.laysC172 : Go.Proofs.LaysC.n172 Tryf.prog Tryf.laysC172_ren := {
  mixed := by kernel_rfl
  f129 := Tryf.func38.trans (congrArg some (by kernel_rfl))
  f171 := Tryf.func28.trans (congrArg some (by kernel_rfl))
  f172 := Tryf.func15.trans (congrArg some (by kernel_rfl))
  f205 := Tryf.func17.trans (congrArg some (by kernel_rfl))
  f243 := Tryf.func31.trans (congrArg some (by kernel_rfl))
  f244 := Tryf.func19.trans (congrArg some (by kernel_rfl))
  f245 := Tryf.func20.trans (congrArg some (by kernel_rfl))
  f246 := Tryf.func32.trans (congrArg some (by kernel_rfl))
  f247 := Tryf.func21.trans (congrArg some (by kernel_rfl))
  f279 := Tryf.func22.trans (congrArg some (by kernel_rfl))
  f280 := Tryf.func23.trans (congrArg some (by kernel_rfl))
  f281 := Tryf.func24.trans (congrArg some (by kernel_rfl))
  f282 := Tryf.func25.trans (congrArg some (by kernel_rfl))
  f283 := Tryf.func33.trans (congrArg some (by kernel_rfl))
  f284 := Tryf.func34.trans (congrArg some (by kernel_rfl))
  f285 := Tryf.func35.trans (congrArg some (by kernel_rfl))
  f286 := Tryf.func36.trans (congrArg some (by kernel_rfl))
  f287 := Tryf.func26.trans (congrArg some (by kernel_rfl))
  f316 := Tryf.func27.trans (congrArg some (by kernel_rfl))
  f317 := Tryf.func37.trans (congrArg some (by kernel_rfl))
  f318 := Tryf.func39.trans (congrArg some (by kernel_rfl))
  f319 := Tryf.func40.trans (congrArg some (by kernel_rfl))
  f320 := Tryf.func41.trans (congrArg some (by kernel_rfl))
  f321 := Tryf.func29.trans (congrArg some (by kernel_rfl))
  f322 := Tryf.func30.trans (congrArg some (by kernel_rfl))
  f337 := Tryf.func42.trans (congrArg some (by kernel_rfl))
  f338 := Tryf.func43.trans (congrArg some (by kernel_rfl))
  t0 := Tryf.underlying0
  a0 := Tryf.isAgg0
  z0 := Tryf.sizeOf0
  v0 := Tryf.zeroValue0
  t2 := Tryf.underlying2
  a2 := Tryf.isAgg2
  z2 := Tryf.sizeOf2
  v2 := Tryf.zeroValue2
  t3 := Tryf.underlying3
  a3 := Tryf.isAgg3
  z3 := Tryf.sizeOf3
  v3 := Tryf.zeroValue3
  t4 := Tryf.underlying4
  a4 := Tryf.isAgg4
  z4 := Tryf.sizeOf4
  v4 := Tryf.zeroValue4
  t5 := Tryf.underlying5
  a5 := Tryf.isAgg5
  z5 := Tryf.sizeOf5
  v5 := Tryf.zeroValue5
  t9 := Tryf.underlying9
  a9 := Tryf.isAgg9
  z9 := Tryf.sizeOf9
  v9 := Tryf.zeroValue9
  t20 := Tryf.underlying20
  a20 := Tryf.isAgg20
  z20 := Tryf.sizeOf20
  v20 := Tryf.zeroValue20
  t21 := Tryf.underlying21
  a21 := Tryf.isAgg21
  z21 := Tryf.sizeOf21
  v21 := Tryf.zeroValue21
  t37 := Tryf.underlying43
  a37 := Tryf.isAgg43
  z37 := Tryf.sizeOf43
  v37 := Tryf.zeroValue43
  t46 := Tryf.underlying52
  a46 := Tryf.isAgg52
  z46 := Tryf.sizeOf52
  v46 := Tryf.zeroValue52
  t51 := Tryf.underlying67
  a51 := Tryf.isAgg67
  z51 := Tryf.sizeOf67
  v51 := Tryf.zeroValue67
  t53 := Tryf.underlying49
  a53 := Tryf.isAgg49
  z53 := Tryf.sizeOf49
  v53 := Tryf.zeroValue49
  t75 := Tryf.underlying24
  a75 := Tryf.isAgg24
  z75 := Tryf.sizeOf24
  v75 := Tryf.zeroValue24
  t76 := Tryf.underlying25
  a76 := Tryf.isAgg25
  z76 := Tryf.sizeOf25
  v76 := Tryf.zeroValue25
  t85 := Tryf.underlying44
  a85 := Tryf.isAgg44
  z85 := Tryf.sizeOf44
  v85 := Tryf.zeroValue44
  t127 := Tryf.underlying58
  a127 := Tryf.isAgg58
  z127 := Tryf.sizeOf58
  v127 := Tryf.zeroValue58
  t143 := Tryf.underlying39
  a143 := Tryf.isAgg39
  z143 := Tryf.sizeOf39
  v143 := Tryf.zeroValue39
  t145 := Tryf.underlying41
  a145 := Tryf.isAgg41
  z145 := Tryf.sizeOf41
  v145 := Tryf.zeroValue41
  t167 := Tryf.underlying42
  a167 := Tryf.isAgg42
  z167 := Tryf.sizeOf42
  v167 := Tryf.zeroValue42
  t168 := Tryf.underlying46
  a168 := Tryf.isAgg46
  z168 := Tryf.sizeOf46
  v168 := Tryf.zeroValue46
  t171 := Tryf.underlying60
  a171 := Tryf.isAgg60
  z171 := Tryf.sizeOf60
  v171 := Tryf.zeroValue60
  t173 := Tryf.underlying63
  a173 := Tryf.isAgg63
  z173 := Tryf.sizeOf63
  v173 := Tryf.zeroValue63
  t175 := Tryf.underlying50
  a175 := Tryf.isAgg50
  z175 := Tryf.sizeOf50
  v175 := Tryf.zeroValue50
  t210 := Tryf.underlying55
  a210 := Tryf.isAgg55
  z210 := Tryf.sizeOf55
  v210 := Tryf.zeroValue55
  t212 := Tryf.underlying66
  a212 := Tryf.isAgg66
  z212 := Tryf.sizeOf66
  v212 := Tryf.zeroValue66
  t213 := Tryf.underlying68
  a213 := Tryf.isAgg68
  z213 := Tryf.sizeOf68
  t232 := Tryf.underlying72
  a232 := Tryf.isAgg72
  z232 := Tryf.sizeOf72
  v232 := Tryf.zeroValue72
  t233 := Tryf.underlying73
  a233 := Tryf.isAgg73
  z233 := Tryf.sizeOf73
  v233 := Tryf.zeroValue73
  g15 := by kernel_rfl
  g16 := by kernel_rfl
  g17 := by kernel_rfl
  g18 := by kernel_rfl
  g19 := by kernel_rfl
  t80 := Tryf.underlying75
  a80 := Tryf.isAgg75
  z80 := Tryf.sizeOf75
  v80 := Tryf.zeroValue75
  i0 := by kernel_rfl
  i2 := by kernel_rfl
  i3 := by kernel_rfl
  i4 := by kernel_rfl
  i5 := by kernel_rfl
  i9 := by kernel_rfl
  i20 := by kernel_rfl
  i21 := by kernel_rfl
  i37 := by kernel_rfl
  i46 := by kernel_rfl
  i51 := by kernel_rfl
  i53 := by kernel_rfl
  i75 := by kernel_rfl
  i76 := by kernel_rfl
  i80 := by kernel_rfl
  i85 := by kernel_rfl
  i127 := by kernel_rfl
  i143 := by kernel_rfl
  i145 := by kernel_rfl
  i167 := by kernel_rfl
  i168 := by kernel_rfl
  i171 := by kernel_rfl
  i173 := by kernel_rfl
  i175 := by kernel_rfl
  i210 := by kernel_rfl
  i212 := by kernel_rfl
  i232 := by kernel_rfl
  i233 := by kernel_rfl
  m15 := by kernel_rfl
  m16 := by kernel_rfl
  m17 := by kernel_rfl
  m18 := by kernel_rfl
  m19 := by kernel_rfl
  c0 := by kernel_rfl
  c2 := by kernel_rfl
  c3 := by kernel_rfl
  c4 := by kernel_rfl
  c5 := by kernel_rfl
  c9 := by kernel_rfl
  c20 := by kernel_rfl
  c21 := by kernel_rfl
  c37 := by kernel_rfl
  c46 := by kernel_rfl
  c51 := by kernel_rfl
  c53 := by kernel_rfl
  c75 := by kernel_rfl
  c76 := by kernel_rfl
  c80 := by kernel_rfl
  c85 := by kernel_rfl
  c127 := by kernel_rfl
  c143 := by kernel_rfl
  c145 := by kernel_rfl
  c167 := by kernel_rfl
  c168 := by kernel_rfl
  c171 := by kernel_rfl
  c173 := by kernel_rfl
  c175 := by kernel_rfl
  c210 := by kernel_rfl
  c212 := by kernel_rfl
  c213 := by kernel_rfl
  c232 := by kernel_rfl
  c233 := by kernel_rfl }

theorem cutPrefix_any (s p : ByteArray) (w : World) :
    Calls Tryf.prog 10 #[.string s, .string p] w fun e w' => e = .returned (.tuple #[.string ⟨(Lib.trimPrefix s.data.toList p.data.toList).toArray⟩, .bool (Lib.hasPrefix s.data.toList p.data.toList)]) ∧ w' = w := Any.strings_CutPrefix Tryf.lays103 s p w

theorem atoi_yes (s : ByteArray) (hmax : s.size ≤ 9223372036854775806) (v : Int) (h : Lib.atoiAll s.data.toList = .ok v) (w : World) :
    Calls Tryf.prog 15 #[.string s] w fun e w' => e = .returned (.tuple #[.int .i64 v, .nilIface]) ∧ Below w.heap.size w w' := by
  refine (Any.strconv_Atoi_ok Tryf.laysC172 s hmax v h w).mono ?_
  rintro e w' ⟨rfl, hw⟩
  refine ⟨rfl, ?_⟩
  rcases hw with rfl | ⟨t, rfl⟩
  · exact Below.refl _ _
  · exact Lib.bytesWorld_below _ _ _

theorem atoi_no (s : ByteArray) (hlim : s.size ≤ 281474976710656) (h : ∀ v, Lib.atoiAll s.data.toList ≠ .ok v) (t0 t1 : TypeId) (p0 p1 : Value) (w : World) (hv0 : w.var? Tryf.prog "strconv.ErrSyntax" = some #[.iface t0 p0]) (hv1 : w.var? Tryf.prog "strconv.ErrRange" = some #[.iface t1 p1]) :
    Calls Tryf.prog 15 #[.string s] w fun e w' => ∃ n a, e = .returned (.tuple #[.int .i64 n, .iface 46 (.pointer (some a))]) ∧ Below w.heap.size w w' := by
  cases ha : Lib.atoiAll s.data.toList
  · exact absurd ha (h _)
  · refine (Any.strconv_Atoi_syntax_var Tryf.laysC172 s hlim ha t0 p0 w hv0).mono ?_
    rintro e w' ⟨N, rfl, _, _, hb⟩
    exact ⟨_, _, rfl, hb⟩
  · refine (Any.strconv_Atoi_range_var Tryf.laysC172 s hlim ha t1 p1 w hv1).mono ?_
    rintro e w' ⟨N, rfl, _, _, hb⟩
    exact ⟨_, _, rfl, hb⟩

end Go.Proofs.Qxb6628947aFmt
