/-
  The library's contracts that this seat takes, laid at its program.
-/
import Derived.Shelf.Strconv.Itoa0
import Derived.Shelf.Strconv.Itoa1
import Derived.Shelf.LaysM
import Derived.Shelf.Strconv.Itoa2
import Derived.Shelf.Strconv.Itoa3
import Derived.Shelf.Strconv.ParseIntEmpty
import Derived.Shelf.Strconv.Clone
import Derived.Shelf.Strconv.SyntaxError
import Derived.Shelf.LaysC
import Derived.Shelf.Strconv.ToError
import Derived.Shelf.Strconv.Lower
import Derived.Shelf.Strconv.ParseUint10
import Derived.Shelf.Strconv.ParseUint10Empty
import Derived.Shelf.Strconv.ParseUint10Any
import Derived.Shelf.Strconv.ParseInt10
import Derived.Shelf.Strconv.RangeError
import Derived.Shelf.Strconv.ToErrorRange
import Derived.Shelf.Strconv.ParseUintEmpty
import Derived.Shelf.Strconv.ParseUint10b64
import Derived.Shelf.Strconv.ParseUint10b32
import Derived.Shelf.Strconv.ParseUint10b16
import Derived.Shelf.Strconv.ParseUint10b8
import Derived.Shelf.Strconv.ParseUint10At
import Derived.Shelf.Strconv.ParseInt10At64
import Derived.Shelf.Strconv.ParseInt10At32
import Derived.Shelf.Strconv.ParseInt10At16
import Derived.Shelf.Strconv.ParseInt10At8
import Derived.Shelf.Strconv.ParseInt10All
import Derived.Shelf.Strconv.ParseIntPublic10
import Derived.Shelf.Bits.Mul64
import Derived.Test.YteohmbannpbokaaDoorProg
namespace Go.Proofs
def Tryd.laysC174_ren : Go.Shelf.Ren := ⟨fun | 174 => 20 | 247 => 28 | 245 => 29 | 287 => 35 | 279 => 36 | 280 => 37 | 281 => 38 | 282 => 39 | 321 => 42 | 322 => 43 | 316 => 44 | 171 => 45 | 205 => 19 | 243 => 48 | 246 => 55 | 283 => 63 | 284 => 64 | 285 => 65 | 286 => 66 | 129 => 70 | 317 => 69 | 318 => 71 | 319 => 72 | 320 => 73 | 337 => 75 | 338 => 76 | n => n, fun | 9 => 9 | 3 => 3 | 2 => 2 | 75 => 46 | 85 => 56 | 4 => 4 | 167 => 84 | 5 => 5 | 53 => 75 | 175 => 85 | 46 => 76 | 168 => 87 | 37 => 70 | 0 => 0 | 210 => 101 | 21 => 21 | 127 => 107 | 145 => 73 | 143 => 71 | 171 => 123 | 173 => 126 | 212 => 131 | 51 => 51 | 20 => 20 | 213 => 132 | 232 => 141 | 233 => 142 | 80 => 53 | n => n, fun | 15 => 2 | 16 => 3 | 17 => 6 | 18 => 7 | 19 => 8 | n => n⟩
theorem Tryd.laysC174 : Go.Proofs.LaysC.n174 Tryd.prog Tryd.laysC174_ren := {
  mixed := by kernel_rfl
  f129 := Tryd.func70.trans (congrArg some (by kernel_rfl))
  f171 := Tryd.func45.trans (congrArg some (by kernel_rfl))
  f174 := Tryd.func20.trans (congrArg some (by kernel_rfl))
  f205 := Tryd.func19.trans (congrArg some (by kernel_rfl))
  f243 := Tryd.func48.trans (congrArg some (by kernel_rfl))
  f245 := Tryd.func29.trans (congrArg some (by kernel_rfl))
  f246 := Tryd.func55.trans (congrArg some (by kernel_rfl))
  f247 := Tryd.func28.trans (congrArg some (by kernel_rfl))
  f279 := Tryd.func36.trans (congrArg some (by kernel_rfl))
  f280 := Tryd.func37.trans (congrArg some (by kernel_rfl))
  f281 := Tryd.func38.trans (congrArg some (by kernel_rfl))
  f282 := Tryd.func39.trans (congrArg some (by kernel_rfl))
  f283 := Tryd.func63.trans (congrArg some (by kernel_rfl))
  f284 := Tryd.func64.trans (congrArg some (by kernel_rfl))
  f285 := Tryd.func65.trans (congrArg some (by kernel_rfl))
  f286 := Tryd.func66.trans (congrArg some (by kernel_rfl))
  f287 := Tryd.func35.trans (congrArg some (by kernel_rfl))
  f316 := Tryd.func44.trans (congrArg some (by kernel_rfl))
  f317 := Tryd.func69.trans (congrArg some (by kernel_rfl))
  f318 := Tryd.func71.trans (congrArg some (by kernel_rfl))
  f319 := Tryd.func72.trans (congrArg some (by kernel_rfl))
  f320 := Tryd.func73.trans (congrArg some (by kernel_rfl))
  f321 := Tryd.func42.trans (congrArg some (by kernel_rfl))
  f322 := Tryd.func43.trans (congrArg some (by kernel_rfl))
  f337 := Tryd.func75.trans (congrArg some (by kernel_rfl))
  f338 := Tryd.func76.trans (congrArg some (by kernel_rfl))
  t0 := Tryd.underlying0
  a0 := Tryd.isAgg0
  z0 := Tryd.sizeOf0
  v0 := Tryd.zeroValue0
  t2 := Tryd.underlying2
  a2 := Tryd.isAgg2
  z2 := Tryd.sizeOf2
  v2 := Tryd.zeroValue2
  t3 := Tryd.underlying3
  a3 := Tryd.isAgg3
  z3 := Tryd.sizeOf3
  v3 := Tryd.zeroValue3
  t4 := Tryd.underlying4
  a4 := Tryd.isAgg4
  z4 := Tryd.sizeOf4
  v4 := Tryd.zeroValue4
  t5 := Tryd.underlying5
  a5 := Tryd.isAgg5
  z5 := Tryd.sizeOf5
  v5 := Tryd.zeroValue5
  t9 := Tryd.underlying9
  a9 := Tryd.isAgg9
  z9 := Tryd.sizeOf9
  v9 := Tryd.zeroValue9
  t20 := Tryd.underlying20
  a20 := Tryd.isAgg20
  z20 := Tryd.sizeOf20
  v20 := Tryd.zeroValue20
  t21 := Tryd.underlying21
  a21 := Tryd.isAgg21
  z21 := Tryd.sizeOf21
  v21 := Tryd.zeroValue21
  t37 := Tryd.underlying70
  a37 := Tryd.isAgg70
  z37 := Tryd.sizeOf70
  v37 := Tryd.zeroValue70
  t46 := Tryd.underlying76
  a46 := Tryd.isAgg76
  z46 := Tryd.sizeOf76
  v46 := Tryd.zeroValue76
  t51 := Tryd.underlying51
  a51 := Tryd.isAgg51
  z51 := Tryd.sizeOf51
  v51 := Tryd.zeroValue51
  t53 := Tryd.underlying75
  a53 := Tryd.isAgg75
  z53 := Tryd.sizeOf75
  v53 := Tryd.zeroValue75
  t75 := Tryd.underlying46
  a75 := Tryd.isAgg46
  z75 := Tryd.sizeOf46
  v75 := Tryd.zeroValue46
  t85 := Tryd.underlying56
  a85 := Tryd.isAgg56
  z85 := Tryd.sizeOf56
  v85 := Tryd.zeroValue56
  t127 := Tryd.underlying107
  a127 := Tryd.isAgg107
  z127 := Tryd.sizeOf107
  v127 := Tryd.zeroValue107
  t143 := Tryd.underlying71
  a143 := Tryd.isAgg71
  z143 := Tryd.sizeOf71
  v143 := Tryd.zeroValue71
  t145 := Tryd.underlying73
  a145 := Tryd.isAgg73
  z145 := Tryd.sizeOf73
  v145 := Tryd.zeroValue73
  t167 := Tryd.underlying84
  a167 := Tryd.isAgg84
  z167 := Tryd.sizeOf84
  v167 := Tryd.zeroValue84
  t168 := Tryd.underlying87
  a168 := Tryd.isAgg87
  z168 := Tryd.sizeOf87
  v168 := Tryd.zeroValue87
  t171 := Tryd.underlying123
  a171 := Tryd.isAgg123
  z171 := Tryd.sizeOf123
  v171 := Tryd.zeroValue123
  t173 := Tryd.underlying126
  a173 := Tryd.isAgg126
  z173 := Tryd.sizeOf126
  v173 := Tryd.zeroValue126
  t175 := Tryd.underlying85
  a175 := Tryd.isAgg85
  z175 := Tryd.sizeOf85
  v175 := Tryd.zeroValue85
  t210 := Tryd.underlying101
  a210 := Tryd.isAgg101
  z210 := Tryd.sizeOf101
  v210 := Tryd.zeroValue101
  t212 := Tryd.underlying131
  a212 := Tryd.isAgg131
  z212 := Tryd.sizeOf131
  v212 := Tryd.zeroValue131
  t213 := Tryd.underlying132
  a213 := Tryd.isAgg132
  z213 := Tryd.sizeOf132
  t232 := Tryd.underlying141
  a232 := Tryd.isAgg141
  z232 := Tryd.sizeOf141
  v232 := Tryd.zeroValue141
  t233 := Tryd.underlying142
  a233 := Tryd.isAgg142
  z233 := Tryd.sizeOf142
  v233 := Tryd.zeroValue142
  g15 := by kernel_rfl
  g16 := by kernel_rfl
  g17 := by kernel_rfl
  g18 := by kernel_rfl
  g19 := by kernel_rfl
  t80 := Tryd.underlying53
  a80 := Tryd.isAgg53
  z80 := Tryd.sizeOf53
  v80 := Tryd.zeroValue53
  i0 := by kernel_rfl
  i2 := by kernel_rfl
  i3 := by kernel_rfl
  i4 := by kernel_rfl
  i5 := by kernel_rfl
  i9 := by kernel_rfl
  i20 := by kernel_rfl
  i21 := by kernel_rfl
  i37 := by kernel_rfl
  i46 := by kernel_rfl
  i51 := by kernel_rfl
  i53 := by kernel_rfl
  i75 := by kernel_rfl
  i80 := by kernel_rfl
  i85 := by kernel_rfl
  i127 := by kernel_rfl
  i143 := by kernel_rfl
  i145 := by kernel_rfl
  i167 := by kernel_rfl
  i168 := by kernel_rfl
  i171 := by kernel_rfl
  i173 := by kernel_rfl
  i175 := by kernel_rfl
  i210 := by kernel_rfl
  i212 := by kernel_rfl
  i232 := by kernel_rfl
  i233 := by kernel_rfl
  m15 := by kernel_rfl
  m16 := by kernel_rfl
  m17 := by kernel_rfl
  m18 := by kernel_rfl
  m19 := by kernel_rfl
  c0 := by kernel_rfl
  c2 := by kernel_rfl
  c3 := by kernel_rfl
  c4 := by kernel_rfl
  c5 := by kernel_rfl
  c9 := by kernel_rfl
  c20 := by kernel_rfl
  c21 := by kernel_rfl
  c37 := by kernel_rfl
  c46 := by kernel_rfl
  c51 := by kernel_rfl
  c53 := by kernel_rfl
  c75 := by kernel_rfl
  c80 := by kernel_rfl
  c85 := by kernel_rfl
  c127 := by kernel_rfl
  c143 := by kernel_rfl
  c145 := by kernel_rfl
  c167 := by kernel_rfl
  c168 := by kernel_rfl
  c171 := by kernel_rfl
  c173 := by kernel_rfl
  c175 := by kernel_rfl
  c210 := by kernel_rfl
  c212 := by kernel_rfl
  c213 := by kernel_rfl
  c232 := by kernel_rfl
  c233 := by kernel_rfl }
open Go.RowKit in
/-- strconv.ParseInt(s, 10, 32), AT EVERY STRING THAT SPELLS AN int32 ('Lib.parseIntB 32 s.data.toList = .ok v'): v, AND NO ERROR. (LAID: no walk: one application.) -/
theorem Tryd.strconv_ParseInt_10_at32_ok (s : ByteArray) (hmax : s.size ≤ 9223372036854775806) (v : Int) (h : Lib.parseIntB 32 s.data.toList = .ok v) (w : World) :
    Calls Tryd.prog 20 #[.string s, .int .i64 10, .int .i64 32] w fun e w' => e = .returned (.tuple #[.int .i64 v, .nilIface]) ∧ (w' = w ∨ ∃ t, w' = Lib.bytesWorld w 5 t) := Any.strconv_ParseInt_10_at32_ok Tryd.laysC174 s hmax v h w
def Tryd.lays212_ren : Go.Shelf.Ren := ⟨fun | 212 => 77 | 263 => 79 | 264 => 80 | n => n, fun | 46 => 76 | 51 => 51 | 146 => 143 | 53 => 75 | 148 => 145 | n => n, fun | n => n⟩
theorem Tryd.lays212 : Go.Proofs.Lays.n212 Tryd.prog Tryd.lays212_ren := {
  mixed := by kernel_rfl
  f212 := Tryd.func77.trans (congrArg some (by kernel_rfl))
  f263 := Tryd.func79.trans (congrArg some (by kernel_rfl))
  f264 := Tryd.func80.trans (congrArg some (by kernel_rfl))
  t46 := Tryd.underlying76
  a46 := Tryd.isAgg76
  z46 := Tryd.sizeOf76
  v46 := Tryd.zeroValue76
  t51 := Tryd.underlying51
  a51 := Tryd.isAgg51
  z51 := Tryd.sizeOf51
  v51 := Tryd.zeroValue51
  t53 := Tryd.underlying75
  a53 := Tryd.isAgg75
  z53 := Tryd.sizeOf75
  v53 := Tryd.zeroValue75
  t146 := Tryd.underlying143
  a146 := Tryd.isAgg143
  z146 := Tryd.sizeOf143
  v146 := Tryd.zeroValue143
  t148 := Tryd.underlying145
  a148 := Tryd.isAgg145
  z148 := Tryd.sizeOf145
  v148 := Tryd.zeroValue145 }
open Go.RowKit Go.Lib in
/-- math/bits.Mul: "Mul returns the full-width product of x and y": on a machine of 64 bits: Mul64's. (LAID: no walk: one application.) -/
theorem Tryd.bits_Mul (x y : Nat) (hx : x < 18446744073709551616) (hy : y < 18446744073709551616) (w : World) :
    Calls Tryd.prog 77 #[.int .u64 x, .int .u64 y] w fun e w' => e = .returned (.tuple #[.int .u64 ((x * y / 18446744073709551616 : Nat) : Int), .int .u64 ((x * y % 18446744073709551616 : Nat) : Int)]) ∧ w' = w := Any.bits_Mul Tryd.lays212 x y hx hy w
end Go.Proofs
