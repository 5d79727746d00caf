/-
  The contracts of math/bits.LeadingZeros64, Len64, Mul64 at this dump, laid by the tool of the shelf in its plain mode.
-/
import Derived.Shelf.Small.Bits
import Derived.Shelf.Strconv.Itoa0
import Derived.Shelf.Bits.Mul64
import Derived.Test.YbulkzuiProg
namespace Go.Proofs
open Go.Shelf
def Yba.lays134_ren : Go.Shelf.Ren := ⟨fun | 134 => 29 | 129 => 31 | n => n, fun | 53 => 129 | 3 => 3 | 4 => 4 | 46 => 142 | 5 => 5 | 9 => 9 | n => n, fun | n => n⟩
theorem Yba.lays134 : Go.Proofs.Lays.n134 Yba.prog Yba.lays134_ren := {
  mixed := by kernel_rfl
  f129 := Yba.func31.trans (congrArg some (by kernel_rfl))
  f134 := Yba.func29.trans (congrArg some (by kernel_rfl))
  t3 := Yba.underlying3
  a3 := Yba.isAgg3
  z3 := Yba.sizeOf3
  v3 := Yba.zeroValue3
  t4 := Yba.underlying4
  a4 := Yba.isAgg4
  z4 := Yba.sizeOf4
  v4 := Yba.zeroValue4
  t5 := Yba.underlying5
  a5 := Yba.isAgg5
  z5 := Yba.sizeOf5
  v5 := Yba.zeroValue5
  t9 := Yba.underlying9
  a9 := Yba.isAgg9
  z9 := Yba.sizeOf9
  v9 := Yba.zeroValue9
  t46 := Yba.underlying142
  a46 := Yba.isAgg142
  z46 := Yba.sizeOf142
  v46 := Yba.zeroValue142
  t53 := Yba.underlying129
  a53 := Yba.isAgg129
  z53 := Yba.sizeOf129
  v53 := Yba.zeroValue129 }
/-- bits.LeadingZeros64: "LeadingZeros64 returns the number of leading zero bits in x; the result is 64 for x == 0.": IT RETURNS '64 - Lib.bitLen x'; the world is as it was. ITS CALLEE bits.Len64 IS MET BY ITS OWN CONTRACT OFF THE SHELF (lay that first): entered in place it sends the kernel out of memory. (LAID: no walk: one application.) -/
theorem Yba.bits_LeadingZeros64 (x : Int) (w : World) (h0 : 0 ≤ x) (h1 : x ≤ 18446744073709551615) :
    Calls Yba.prog 29 #[.int .u64 x] w fun e w' => e = .returned (.int .i64 (64 - (Lib.bitLen x.toNat : Int))) ∧ w' = w := Any.bits_LeadingZeros64 Yba.lays134 x w h0 h1
def Yba.lays129_ren : Go.Shelf.Ren := ⟨fun | 129 => 31 | n => n, fun | 53 => 129 | 3 => 3 | 4 => 4 | 46 => 142 | 5 => 5 | 9 => 9 | n => n, fun | n => n⟩
theorem Yba.lays129 : Go.Proofs.Lays.n129 Yba.prog Yba.lays129_ren := {
  mixed := by kernel_rfl
  f129 := Yba.func31.trans (congrArg some (by kernel_rfl))
  t3 := Yba.underlying3
  a3 := Yba.isAgg3
  z3 := Yba.sizeOf3
  v3 := Yba.zeroValue3
  t4 := Yba.underlying4
  a4 := Yba.isAgg4
  z4 := Yba.sizeOf4
  v4 := Yba.zeroValue4
  t5 := Yba.underlying5
  a5 := Yba.isAgg5
  z5 := Yba.sizeOf5
  v5 := Yba.zeroValue5
  t9 := Yba.underlying9
  a9 := Yba.isAgg9
  z9 := Yba.sizeOf9
  v9 := Yba.zeroValue9
  t46 := Yba.underlying142
  a46 := Yba.isAgg142
  z46 := Yba.sizeOf142
  v46 := Yba.zeroValue142
  t53 := Yba.underlying129
  a53 := Yba.isAgg129
  z53 := Yba.sizeOf129
  v53 := Yba.zeroValue129 }
/-- bits.Len64: "Len64 returns the minimum number of bits required to represent x; the result is 0 for x == 0.": IT RETURNS 'Lib.bitLen x'; the world is as it was. ('h0', 'h1': x is a uint64.) (LAID: no walk: one application.) -/
theorem Yba.bits_Len64 (x : Int) (w : World) (h0 : 0 ≤ x) (h1 : x ≤ 18446744073709551615) :
    Calls Yba.prog 31 #[.int .u64 x] w fun e w' => e = .returned (.int .i64 (Lib.bitLen x.toNat)) ∧ w' = w := Any.bits_Len64 Yba.lays129 x w h0 h1
def Yba.lays264_ren : Go.Shelf.Ren := ⟨fun | 264 => 18 | n => n, fun | 53 => 129 | 46 => 142 | n => n, fun | n => n⟩
theorem Yba.lays264 : Go.Proofs.Lays.n264 Yba.prog Yba.lays264_ren := {
  mixed := by kernel_rfl
  f264 := Yba.func18.trans (congrArg some (by kernel_rfl))
  t46 := Yba.underlying142
  a46 := Yba.isAgg142
  z46 := Yba.sizeOf142
  v46 := Yba.zeroValue142
  t53 := Yba.underlying129
  a53 := Yba.isAgg129
  z53 := Yba.sizeOf129
  v53 := Yba.zeroValue129 }
open Go.RowKit Go.Lib in
theorem Yba.bits_Mul64 (x y : Nat) (hx : x < 18446744073709551616) (hy : y < 18446744073709551616) (w : World) :
    Calls Yba.prog 18 #[.int .u64 x, .int .u64 y] w fun e w' => e = .returned (.tuple #[.int .u64 ((x * y / 18446744073709551616 : Nat) : Int), .int .u64 ((x * y % 18446744073709551616 : Nat) : Int)]) ∧ w' = w := Any.bits_Mul64 Yba.lays264 x y hx hy w
end Go.Proofs
