/-
  Laid by the shelf's tool at this program: what strconv.ParseInt and strconv.ParseUint come to at base 10, 64 bits.
-/
import Derived.Shelf.Strconv.Itoa0
import Derived.Shelf.Strconv.Itoa1
import Derived.Shelf.LaysM
import Derived.Shelf.Strconv.Itoa2
import Derived.Shelf.Strconv.Itoa3
import Derived.Shelf.Strconv.Itoa4
import Derived.Shelf.Strconv.ParseIntEmpty
import Derived.Shelf.Strconv.Clone
import Derived.Shelf.Strconv.SyntaxError
import Derived.Shelf.LaysC
import Derived.Shelf.Strconv.ToError
import Derived.Shelf.Strconv.Lower
import Derived.Shelf.Strconv.ParseUint10
import Derived.Shelf.Strconv.ParseUint10Empty
import Derived.Shelf.Strconv.ParseUint10Any
import Derived.Shelf.Strconv.ParseInt10
import Derived.Shelf.Strconv.RangeError
import Derived.Shelf.Strconv.ToErrorRange
import Derived.Shelf.Strconv.ParseUintEmpty
import Derived.Shelf.Strconv.ParseUint10b64
import Derived.Shelf.Strconv.ParseUint10b32
import Derived.Shelf.Strconv.ParseUint10b16
import Derived.Shelf.Strconv.ParseUint10b8
import Derived.Shelf.Strconv.ParseUint10At
import Derived.Shelf.Strconv.ParseInt10At64
import Derived.Shelf.Strconv.ParseInt10At32
import Derived.Shelf.Strconv.ParseInt10At16
import Derived.Shelf.Strconv.ParseInt10At8
import Derived.Shelf.Strconv.ParseInt10All
import Derived.Shelf.Strconv.ParseIntPublic10
import Derived.Shelf.Strconv.ErrVarParseInt
import Derived.Ground.MpProg
import Derived.Shelf.Pu.ParseUintPublic10
import Derived.Shelf.Pu.ErrVarParseUint
import Derived.Test.YbulkxmaDoorProg
namespace Go.Proofs
open Go.Shelf

def Ybad.laysC174_ren : Go.Shelf.Ren := ⟨fun | 174 => 18 | 247 => 27 | 245 => 28 | 287 => 29 | 279 => 37 | 280 => 38 | 281 => 39 | 282 => 40 | 321 => 41 | 322 => 42 | 316 => 49 | 171 => 50 | 205 => 16 | 243 => 53 | 246 => 22 | 283 => 31 | 284 => 32 | 285 => 33 | 286 => 34 | 129 => 44 | 317 => 43 | 318 => 45 | 319 => 46 | 320 => 47 | 337 => 51 | 338 => 52 | n => n, fun | 9 => 9 | 3 => 3 | 2 => 2 | 75 => 36 | 85 => 43 | 4 => 4 | 167 => 65 | 5 => 5 | 53 => 28 | 175 => 45 | 46 => 66 | 168 => 67 | 37 => 22 | 0 => 0 | 210 => 81 | 21 => 21 | 127 => 83 | 145 => 53 | 143 => 51 | 171 => 58 | 173 => 61 | 212 => 74 | 51 => 75 | 20 => 20 | 213 => 76 | 232 => 84 | 233 => 85 | 80 => 88 | n => n, fun | 15 => 2 | 16 => 3 | 17 => 1 | 18 => 5 | 19 => 6 | n => n⟩
theorem Ybad.laysC174 : Go.Proofs.LaysC.n174 Ybad.prog Ybad.laysC174_ren := {
  mixed := by kernel_rfl
  f129 := Ybad.func44.trans (congrArg some (by kernel_rfl))
  f171 := Ybad.func50.trans (congrArg some (by kernel_rfl))
  f174 := Ybad.func18.trans (congrArg some (by kernel_rfl))
  f205 := Ybad.func16.trans (congrArg some (by kernel_rfl))
  f243 := Ybad.func53.trans (congrArg some (by kernel_rfl))
  f245 := Ybad.func28.trans (congrArg some (by kernel_rfl))
  f246 := Ybad.func22.trans (congrArg some (by kernel_rfl))
  f247 := Ybad.func27.trans (congrArg some (by kernel_rfl))
  f279 := Ybad.func37.trans (congrArg some (by kernel_rfl))
  f280 := Ybad.func38.trans (congrArg some (by kernel_rfl))
  f281 := Ybad.func39.trans (congrArg some (by kernel_rfl))
  f282 := Ybad.func40.trans (congrArg some (by kernel_rfl))
  f283 := Ybad.func31.trans (congrArg some (by kernel_rfl))
  f284 := Ybad.func32.trans (congrArg some (by kernel_rfl))
  f285 := Ybad.func33.trans (congrArg some (by kernel_rfl))
  f286 := Ybad.func34.trans (congrArg some (by kernel_rfl))
  f287 := Ybad.func29.trans (congrArg some (by kernel_rfl))
  f316 := Ybad.func49.trans (congrArg some (by kernel_rfl))
  f317 := Ybad.func43.trans (congrArg some (by kernel_rfl))
  f318 := Ybad.func45.trans (congrArg some (by kernel_rfl))
  f319 := Ybad.func46.trans (congrArg some (by kernel_rfl))
  f320 := Ybad.func47.trans (congrArg some (by kernel_rfl))
  f321 := Ybad.func41.trans (congrArg some (by kernel_rfl))
  f322 := Ybad.func42.trans (congrArg some (by kernel_rfl))
  f337 := Ybad.func51.trans (congrArg some (by kernel_rfl))
  f338 := Ybad.func52.trans (congrArg some (by kernel_rfl))
  t0 := Ybad.underlying0
  a0 := Ybad.isAgg0
  z0 := Ybad.sizeOf0
  v0 := Ybad.zeroValue0
  t2 := Ybad.underlying2
  a2 := Ybad.isAgg2
  z2 := Ybad.sizeOf2
  v2 := Ybad.zeroValue2
  t3 := Ybad.underlying3
  a3 := Ybad.isAgg3
  z3 := Ybad.sizeOf3
  v3 := Ybad.zeroValue3
  t4 := Ybad.underlying4
  a4 := Ybad.isAgg4
  z4 := Ybad.sizeOf4
  v4 := Ybad.zeroValue4
  t5 := Ybad.underlying5
  a5 := Ybad.isAgg5
  z5 := Ybad.sizeOf5
  v5 := Ybad.zeroValue5
  t9 := Ybad.underlying9
  a9 := Ybad.isAgg9
  z9 := Ybad.sizeOf9
  v9 := Ybad.zeroValue9
  t20 := Ybad.underlying20
  a20 := Ybad.isAgg20
  z20 := Ybad.sizeOf20
  v20 := Ybad.zeroValue20
  t21 := Ybad.underlying21
  a21 := Ybad.isAgg21
  z21 := Ybad.sizeOf21
  v21 := Ybad.zeroValue21
  t37 := Ybad.underlying22
  a37 := Ybad.isAgg22
  z37 := Ybad.sizeOf22
  v37 := Ybad.zeroValue22
  t46 := Ybad.underlying66
  a46 := Ybad.isAgg66
  z46 := Ybad.sizeOf66
  v46 := Ybad.zeroValue66
  t51 := Ybad.underlying75
  a51 := Ybad.isAgg75
  z51 := Ybad.sizeOf75
  v51 := Ybad.zeroValue75
  t53 := Ybad.underlying28
  a53 := Ybad.isAgg28
  z53 := Ybad.sizeOf28
  v53 := Ybad.zeroValue28
  t75 := Ybad.underlying36
  a75 := Ybad.isAgg36
  z75 := Ybad.sizeOf36
  v75 := Ybad.zeroValue36
  t85 := Ybad.underlying43
  a85 := Ybad.isAgg43
  z85 := Ybad.sizeOf43
  v85 := Ybad.zeroValue43
  t127 := Ybad.underlying83
  a127 := Ybad.isAgg83
  z127 := Ybad.sizeOf83
  v127 := Ybad.zeroValue83
  t143 := Ybad.underlying51
  a143 := Ybad.isAgg51
  z143 := Ybad.sizeOf51
  v143 := Ybad.zeroValue51
  t145 := Ybad.underlying53
  a145 := Ybad.isAgg53
  z145 := Ybad.sizeOf53
  v145 := Ybad.zeroValue53
  t167 := Ybad.underlying65
  a167 := Ybad.isAgg65
  z167 := Ybad.sizeOf65
  v167 := Ybad.zeroValue65
  t168 := Ybad.underlying67
  a168 := Ybad.isAgg67
  z168 := Ybad.sizeOf67
  v168 := Ybad.zeroValue67
  t171 := Ybad.underlying58
  a171 := Ybad.isAgg58
  z171 := Ybad.sizeOf58
  v171 := Ybad.zeroValue58
  t173 := Ybad.underlying61
  a173 := Ybad.isAgg61
  z173 := Ybad.sizeOf61
  v173 := Ybad.zeroValue61
  t175 := Ybad.underlying45
  a175 := Ybad.isAgg45
  z175 := Ybad.sizeOf45
  v175 := Ybad.zeroValue45
  t210 := Ybad.underlying81
  a210 := Ybad.isAgg81
  z210 := Ybad.sizeOf81
  v210 := Ybad.zeroValue81
  t212 := Ybad.underlying74
  a212 := Ybad.isAgg74
  z212 := Ybad.sizeOf74
  v212 := Ybad.zeroValue74
  t213 := Ybad.underlying76
  a213 := Ybad.isAgg76
  z213 := Ybad.sizeOf76
  t232 := Ybad.underlying84
  a232 := Ybad.isAgg84
  z232 := Ybad.sizeOf84
  v232 := Ybad.zeroValue84
  t233 := Ybad.underlying85
  a233 := Ybad.isAgg85
  z233 := Ybad.sizeOf85
  v233 := Ybad.zeroValue85
  g15 := by kernel_rfl
  g16 := by kernel_rfl
  g17 := by kernel_rfl
  g18 := by kernel_rfl
  g19 := by kernel_rfl
  t80 := Ybad.underlying88
  a80 := Ybad.isAgg88
  z80 := Ybad.sizeOf88
  v80 := Ybad.zeroValue88
  i0 := by kernel_rfl
  i2 := by kernel_rfl
  i3 := by kernel_rfl
  i4 := by kernel_rfl
  i5 := by kernel_rfl
  i9 := by kernel_rfl
  i20 := by kernel_rfl
  i21 := by kernel_rfl
  i37 := by kernel_rfl
  i46 := by kernel_rfl
  i51 := by kernel_rfl
  i53 := by kernel_rfl
  i75 := by kernel_rfl
  i80 := by kernel_rfl
  i85 := by kernel_rfl
  i127 := by kernel_rfl
  i143 := by kernel_rfl
  i145 := by kernel_rfl
  i167 := by kernel_rfl
  i168 := by kernel_rfl
  i171 := by kernel_rfl
  i173 := by kernel_rfl
  i175 := by kernel_rfl
  i210 := by kernel_rfl
  i212 := by kernel_rfl
  i232 := by kernel_rfl
  i233 := by kernel_rfl
  m15 := by kernel_rfl
  m16 := by kernel_rfl
  m17 := by kernel_rfl
  m18 := by kernel_rfl
  m19 := by kernel_rfl
  c0 := by kernel_rfl
  c2 := by kernel_rfl
  c3 := by kernel_rfl
  c4 := by kernel_rfl
  c5 := by kernel_rfl
  c9 := by kernel_rfl
  c20 := by kernel_rfl
  c21 := by kernel_rfl
  c37 := by kernel_rfl
  c46 := by kernel_rfl
  c51 := by kernel_rfl
  c53 := by kernel_rfl
  c75 := by kernel_rfl
  c80 := by kernel_rfl
  c85 := by kernel_rfl
  c127 := by kernel_rfl
  c143 := by kernel_rfl
  c145 := by kernel_rfl
  c167 := by kernel_rfl
  c168 := by kernel_rfl
  c171 := by kernel_rfl
  c173 := by kernel_rfl
  c175 := by kernel_rfl
  c210 := by kernel_rfl
  c212 := by kernel_rfl
  c213 := by kernel_rfl
  c232 := by kernel_rfl
  c233 := by kernel_rfl }
open Go.RowKit in
theorem Ybad.strconv_ParseInt_10_at64_ok (s : ByteArray) (hmax : s.size ≤ 9223372036854775806) (v : Int) (h : Lib.parseIntB 64 s.data.toList = .ok v) (w : World) :
    Calls Ybad.prog 18 #[.string s, .int .i64 10, .int .i64 64] w fun e w' => e = .returned (.tuple #[.int .i64 v, .nilIface]) ∧ (w' = w ∨ ∃ t, w' = Lib.bytesWorld w 5 t) := Any.strconv_ParseInt_10_at64_ok Ybad.laysC174 s hmax v h w
def Ybad.laysPu14_ren : Go.Shelf.Ren := ⟨fun | 14 => 19 | 16 => 29 | 17 => 28 | 19 => 41 | 20 => 42 | 21 => 37 | 22 => 38 | 23 => 39 | 24 => 40 | 25 => 49 | 27 => 50 | 26 => 16 | 28 => 53 | 29 => 22 | 30 => 31 | 31 => 32 | 32 => 33 | 33 => 34 | 35 => 44 | 34 => 43 | 36 => 45 | 37 => 46 | 38 => 47 | 39 => 51 | 40 => 52 | n => n, fun | 9 => 9 | 3 => 3 | 22 => 28 | 24 => 36 | 25 => 45 | 4 => 4 | 34 => 65 | 5 => 5 | 36 => 66 | 37 => 22 | 0 => 0 | 39 => 67 | 21 => 21 | 44 => 81 | 47 => 83 | 50 => 53 | 48 => 51 | 2 => 2 | 52 => 58 | 55 => 61 | 59 => 74 | 60 => 75 | 20 => 20 | 61 => 76 | 65 => 84 | 66 => 85 | 67 => 88 | n => n, fun | 0 => 2 | 1 => 3 | 2 => 1 | 3 => 5 | 4 => 6 | n => n⟩
theorem Ybad.laysPu14 : Go.Proofs.LaysPu.n14 Ybad.prog Ybad.laysPu14_ren := {
  mixed := by kernel_rfl
  f14 := Ybad.func19.trans (congrArg some (by kernel_rfl))
  f16 := Ybad.func29.trans (congrArg some (by kernel_rfl))
  f17 := Ybad.func28.trans (congrArg some (by kernel_rfl))
  f19 := Ybad.func41.trans (congrArg some (by kernel_rfl))
  f20 := Ybad.func42.trans (congrArg some (by kernel_rfl))
  f21 := Ybad.func37.trans (congrArg some (by kernel_rfl))
  f22 := Ybad.func38.trans (congrArg some (by kernel_rfl))
  f23 := Ybad.func39.trans (congrArg some (by kernel_rfl))
  f24 := Ybad.func40.trans (congrArg some (by kernel_rfl))
  f25 := Ybad.func49.trans (congrArg some (by kernel_rfl))
  f26 := Ybad.func16.trans (congrArg some (by kernel_rfl))
  f27 := Ybad.func50.trans (congrArg some (by kernel_rfl))
  f28 := Ybad.func53.trans (congrArg some (by kernel_rfl))
  f29 := Ybad.func22.trans (congrArg some (by kernel_rfl))
  f30 := Ybad.func31.trans (congrArg some (by kernel_rfl))
  f31 := Ybad.func32.trans (congrArg some (by kernel_rfl))
  f32 := Ybad.func33.trans (congrArg some (by kernel_rfl))
  f33 := Ybad.func34.trans (congrArg some (by kernel_rfl))
  f34 := Ybad.func43.trans (congrArg some (by kernel_rfl))
  f35 := Ybad.func44.trans (congrArg some (by kernel_rfl))
  f36 := Ybad.func45.trans (congrArg some (by kernel_rfl))
  f37 := Ybad.func46.trans (congrArg some (by kernel_rfl))
  f38 := Ybad.func47.trans (congrArg some (by kernel_rfl))
  f39 := Ybad.func51.trans (congrArg some (by kernel_rfl))
  f40 := Ybad.func52.trans (congrArg some (by kernel_rfl))
  t0 := Ybad.underlying0
  a0 := Ybad.isAgg0
  z0 := Ybad.sizeOf0
  v0 := Ybad.zeroValue0
  i0 := by kernel_rfl
  t2 := Ybad.underlying2
  a2 := Ybad.isAgg2
  z2 := Ybad.sizeOf2
  v2 := Ybad.zeroValue2
  i2 := by kernel_rfl
  t3 := Ybad.underlying3
  a3 := Ybad.isAgg3
  z3 := Ybad.sizeOf3
  v3 := Ybad.zeroValue3
  i3 := by kernel_rfl
  t4 := Ybad.underlying4
  a4 := Ybad.isAgg4
  z4 := Ybad.sizeOf4
  v4 := Ybad.zeroValue4
  i4 := by kernel_rfl
  t5 := Ybad.underlying5
  a5 := Ybad.isAgg5
  z5 := Ybad.sizeOf5
  v5 := Ybad.zeroValue5
  i5 := by kernel_rfl
  t9 := Ybad.underlying9
  a9 := Ybad.isAgg9
  z9 := Ybad.sizeOf9
  v9 := Ybad.zeroValue9
  i9 := by kernel_rfl
  t20 := Ybad.underlying20
  a20 := Ybad.isAgg20
  z20 := Ybad.sizeOf20
  v20 := Ybad.zeroValue20
  i20 := by kernel_rfl
  t21 := Ybad.underlying21
  a21 := Ybad.isAgg21
  z21 := Ybad.sizeOf21
  v21 := Ybad.zeroValue21
  i21 := by kernel_rfl
  t22 := Ybad.underlying28
  a22 := Ybad.isAgg28
  z22 := Ybad.sizeOf28
  v22 := Ybad.zeroValue28
  i22 := by kernel_rfl
  t24 := Ybad.underlying36
  a24 := Ybad.isAgg36
  z24 := Ybad.sizeOf36
  v24 := Ybad.zeroValue36
  i24 := by kernel_rfl
  t25 := Ybad.underlying45
  a25 := Ybad.isAgg45
  z25 := Ybad.sizeOf45
  v25 := Ybad.zeroValue45
  i25 := by kernel_rfl
  t34 := Ybad.underlying65
  a34 := Ybad.isAgg65
  z34 := Ybad.sizeOf65
  v34 := Ybad.zeroValue65
  i34 := by kernel_rfl
  c34 := by kernel_rfl
  t36 := Ybad.underlying66
  a36 := Ybad.isAgg66
  z36 := Ybad.sizeOf66
  v36 := Ybad.zeroValue66
  i36 := by kernel_rfl
  t37 := Ybad.underlying22
  a37 := Ybad.isAgg22
  z37 := Ybad.sizeOf22
  v37 := Ybad.zeroValue22
  i37 := by kernel_rfl
  t39 := Ybad.underlying67
  a39 := Ybad.isAgg67
  z39 := Ybad.sizeOf67
  v39 := Ybad.zeroValue67
  i39 := by kernel_rfl
  t44 := Ybad.underlying81
  a44 := Ybad.isAgg81
  z44 := Ybad.sizeOf81
  v44 := Ybad.zeroValue81
  i44 := by kernel_rfl
  t47 := Ybad.underlying83
  a47 := Ybad.isAgg83
  z47 := Ybad.sizeOf83
  v47 := Ybad.zeroValue83
  i47 := by kernel_rfl
  t48 := Ybad.underlying51
  a48 := Ybad.isAgg51
  z48 := Ybad.sizeOf51
  v48 := Ybad.zeroValue51
  i48 := by kernel_rfl
  t50 := Ybad.underlying53
  a50 := Ybad.isAgg53
  z50 := Ybad.sizeOf53
  v50 := Ybad.zeroValue53
  i50 := by kernel_rfl
  t52 := Ybad.underlying58
  a52 := Ybad.isAgg58
  z52 := Ybad.sizeOf58
  v52 := Ybad.zeroValue58
  i52 := by kernel_rfl
  t55 := Ybad.underlying61
  a55 := Ybad.isAgg61
  z55 := Ybad.sizeOf61
  v55 := Ybad.zeroValue61
  i55 := by kernel_rfl
  t59 := Ybad.underlying74
  a59 := Ybad.isAgg74
  z59 := Ybad.sizeOf74
  v59 := Ybad.zeroValue74
  i59 := by kernel_rfl
  t60 := Ybad.underlying75
  a60 := Ybad.isAgg75
  z60 := Ybad.sizeOf75
  v60 := Ybad.zeroValue75
  i60 := by kernel_rfl
  t61 := Ybad.underlying76
  a61 := Ybad.isAgg76
  z61 := Ybad.sizeOf76
  t65 := Ybad.underlying84
  a65 := Ybad.isAgg84
  z65 := Ybad.sizeOf84
  v65 := Ybad.zeroValue84
  i65 := by kernel_rfl
  t66 := Ybad.underlying85
  a66 := Ybad.isAgg85
  z66 := Ybad.sizeOf85
  v66 := Ybad.zeroValue85
  i66 := by kernel_rfl
  t67 := Ybad.underlying88
  a67 := Ybad.isAgg88
  z67 := Ybad.sizeOf88
  v67 := Ybad.zeroValue88
  i67 := by kernel_rfl
  g0 := by kernel_rfl
  m0 := by kernel_rfl
  g1 := by kernel_rfl
  m1 := by kernel_rfl
  g2 := by kernel_rfl
  m2 := by kernel_rfl
  g3 := by kernel_rfl
  m3 := by kernel_rfl
  g4 := by kernel_rfl
  m4 := by kernel_rfl }
open Go.RowKit in
theorem Ybad.strconv_ParseUint_10_at64_ok (s : ByteArray) (hmax : s.size ≤ 9223372036854775806) (u : Nat) (h : Lib.parseUintB 64 s.data.toList = .ok u) (w : World) :
    Calls Ybad.prog 19 #[.string s, .int .i64 10, .int .i64 64] w fun e w' => e = .returned (.tuple #[.int .u64 u, .nilIface]) ∧ (w' = w ∨ w' = Lib.bytesWorld w 5 s) := Any.strconv_ParseUint_10_at64_ok Ybad.laysPu14 s hmax u h w
end Go.Proofs
