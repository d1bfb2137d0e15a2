/-
  The library's contracts that this seat takes, laid at its program.
-/
import Derived.Shelf.Small.Bits
import Derived.Shelf.Strconv.Itoa0
import Derived.Shelf.Bits.Mul64
import Derived.Test.YteohmbannpbokaaGreatDoorProg
namespace Go.Proofs
def Tryz.lays130_ren : Go.Shelf.Ren := ⟨fun | 130 => 157 | 125 => 71 | 128 => 98 | 129 => 99 | n => n, fun | 46 => 22 | 3 => 3 | 51 => 44 | 53 => 79 | 4 => 4 | 5 => 5 | 9 => 9 | n => n, fun | n => n⟩
theorem Tryz.lays130 : Go.Proofs.Lays.n130 Tryz.prog Tryz.lays130_ren := {
  mixed := by kernel_rfl
  f125 := Tryz.func71.trans (congrArg some (by kernel_rfl))
  f128 := Tryz.func98.trans (congrArg some (by kernel_rfl))
  f129 := Tryz.func99.trans (congrArg some (by kernel_rfl))
  f130 := Tryz.func157.trans (congrArg some (by kernel_rfl))
  t3 := Tryz.underlying3
  a3 := Tryz.isAgg3
  z3 := Tryz.sizeOf3
  v3 := Tryz.zeroValue3
  t4 := Tryz.underlying4
  a4 := Tryz.isAgg4
  z4 := Tryz.sizeOf4
  v4 := Tryz.zeroValue4
  t5 := Tryz.underlying5
  a5 := Tryz.isAgg5
  z5 := Tryz.sizeOf5
  v5 := Tryz.zeroValue5
  t9 := Tryz.underlying9
  a9 := Tryz.isAgg9
  z9 := Tryz.sizeOf9
  v9 := Tryz.zeroValue9
  t46 := Tryz.underlying22
  a46 := Tryz.isAgg22
  z46 := Tryz.sizeOf22
  v46 := Tryz.zeroValue22
  t51 := Tryz.underlying44
  a51 := Tryz.isAgg44
  z51 := Tryz.sizeOf44
  v51 := Tryz.zeroValue44
  t53 := Tryz.underlying79
  a53 := Tryz.isAgg79
  z53 := Tryz.sizeOf79
  v53 := Tryz.zeroValue79 }
/-- bits.LeadingZeros: "LeadingZeros returns the number of leading zero bits in x; the result is [UintSize] for x == 0.": IT RETURNS '64 - Lib.bitLen x'; the world is as it was. ITS CALLEE bits.Len IS MET BY ITS OWN CONTRACT OFF THE SHELF (lay that first): entered in place it sends the kernel out of memory. (LAID: no walk: one application.) -/
theorem Tryz.bits_LeadingZeros (x : Int) (w : World) (h0 : 0 ≤ x) (h1 : x ≤ 18446744073709551615) :
    Calls Tryz.prog 157 #[.int .u64 x] w fun e w' => e = .returned (.int .i64 (64 - (Lib.bitLen x.toNat : Int))) ∧ w' = w := Any.bits_LeadingZeros Tryz.lays130 x w h0 h1
def Tryz.lays212_ren : Go.Shelf.Ren := ⟨fun | 212 => 107 | 263 => 126 | 264 => 127 | n => n, fun | 46 => 22 | 51 => 44 | 146 => 152 | 53 => 79 | 148 => 154 | n => n, fun | n => n⟩
theorem Tryz.lays212 : Go.Proofs.Lays.n212 Tryz.prog Tryz.lays212_ren := {
  mixed := by kernel_rfl
  f212 := Tryz.func107.trans (congrArg some (by kernel_rfl))
  f263 := Tryz.func126.trans (congrArg some (by kernel_rfl))
  f264 := Tryz.func127.trans (congrArg some (by kernel_rfl))
  t46 := Tryz.underlying22
  a46 := Tryz.isAgg22
  z46 := Tryz.sizeOf22
  v46 := Tryz.zeroValue22
  t51 := Tryz.underlying44
  a51 := Tryz.isAgg44
  z51 := Tryz.sizeOf44
  v51 := Tryz.zeroValue44
  t53 := Tryz.underlying79
  a53 := Tryz.isAgg79
  z53 := Tryz.sizeOf79
  v53 := Tryz.zeroValue79
  t146 := Tryz.underlying152
  a146 := Tryz.isAgg152
  z146 := Tryz.sizeOf152
  v146 := Tryz.zeroValue152
  t148 := Tryz.underlying154
  a148 := Tryz.isAgg154
  z148 := Tryz.sizeOf154
  v148 := Tryz.zeroValue154 }
open Go.RowKit Go.Lib in
/-- math/bits.Mul: "Mul returns the full-width product of x and y": on a machine of 64 bits: Mul64's. (LAID: no walk: one application.) -/
theorem Tryz.bits_Mul (x y : Nat) (hx : x < 18446744073709551616) (hy : y < 18446744073709551616) (w : World) :
    Calls Tryz.prog 107 #[.int .u64 x, .int .u64 y] w fun e w' => e = .returned (.tuple #[.int .u64 ((x * y / 18446744073709551616 : Nat) : Int), .int .u64 ((x * y % 18446744073709551616 : Nat) : Int)]) ∧ w' = w := Any.bits_Mul Tryz.lays212 x y hx hy w
end Go.Proofs
