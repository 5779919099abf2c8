/-
  DERIVED: THE SHELF's CONTRACTS AT THIS DUMP, IN PLAIN WORDS (tools/lay-plain.mjs out of 'TryfShelf.lean', which tools/lay-shelf.mjs wrote): THE SAME DECLARATIONS UNDER THE SAME NAMES: 'import', 'namespace', 'open', 'def', 'theorem' AND NOTHING ELSE: no command of the shelf's: FOR A HAND-IN. Each laying: the table of numbers ('.._ren') and one theorem, a field a fact of the dump's own or the kernel's comparison; each contract: ONE APPLICATION.
-/
import Derived.Shelf.Small.Bits
import Derived.Shelf.Strconv.Itoa0
import Derived.Shelf.Bits.Mul64
import Derived.Test.Qxb6614430aFmtProg
namespace Go.Proofs
open Go.Shelf
def Tryf.lays134_ren : Go.Shelf.Ren := ⟨fun | 134 => 26 | 129 => 21 | n => n, fun | 53 => 29 | 3 => 3 | 4 => 4 | 46 => 44 | 5 => 5 | 9 => 9 | n => n, fun | n => n⟩
theorem Tryf.lays134 : Go.Proofs.Lays.n134 Tryf.prog Tryf.lays134_ren := {
  mixed := by kernel_rfl
  f129 := Tryf.func21.trans (congrArg some (by kernel_rfl))
  f134 := Tryf.func26.trans (congrArg some (by kernel_rfl))
  t3 := Tryf.underlying3
  a3 := Tryf.isAgg3
  z3 := Tryf.sizeOf3
  v3 := Tryf.zeroValue3
  t4 := Tryf.underlying4
  a4 := Tryf.isAgg4
  z4 := Tryf.sizeOf4
  v4 := Tryf.zeroValue4
  t5 := Tryf.underlying5
  a5 := Tryf.isAgg5
  z5 := Tryf.sizeOf5
  v5 := Tryf.zeroValue5
  t9 := Tryf.underlying9
  a9 := Tryf.isAgg9
  z9 := Tryf.sizeOf9
  v9 := Tryf.zeroValue9
  t46 := Tryf.underlying44
  a46 := Tryf.isAgg44
  z46 := Tryf.sizeOf44
  v46 := Tryf.zeroValue44
  t53 := Tryf.underlying29
  a53 := Tryf.isAgg29
  z53 := Tryf.sizeOf29
  v53 := Tryf.zeroValue29 }
/-- bits.LeadingZeros64: "LeadingZeros64 returns the number of leading zero bits in x; the result is 64 for x == 0.": IT RETURNS '64 - Lib.bitLen x'; the world is as it was. ITS CALLEE bits.Len64 IS MET BY ITS OWN CONTRACT OFF THE SHELF (lay that first): entered in place it sends the kernel out of memory. (LAID: no walk: one application.) -/
theorem Tryf.bits_LeadingZeros64 (x : Int) (w : World) (h0 : 0 ≤ x) (h1 : x ≤ 18446744073709551615) :
    Calls Tryf.prog 26 #[.int .u64 x] w fun e w' => e = .returned (.int .i64 (64 - (Lib.bitLen x.toNat : Int))) ∧ w' = w := Any.bits_LeadingZeros64 Tryf.lays134 x w h0 h1
def Tryf.lays129_ren : Go.Shelf.Ren := ⟨fun | 129 => 21 | n => n, fun | 53 => 29 | 3 => 3 | 4 => 4 | 46 => 44 | 5 => 5 | 9 => 9 | n => n, fun | n => n⟩
theorem Tryf.lays129 : Go.Proofs.Lays.n129 Tryf.prog Tryf.lays129_ren := {
  mixed := by kernel_rfl
  f129 := Tryf.func21.trans (congrArg some (by kernel_rfl))
  t3 := Tryf.underlying3
  a3 := Tryf.isAgg3
  z3 := Tryf.sizeOf3
  v3 := Tryf.zeroValue3
  t4 := Tryf.underlying4
  a4 := Tryf.isAgg4
  z4 := Tryf.sizeOf4
  v4 := Tryf.zeroValue4
  t5 := Tryf.underlying5
  a5 := Tryf.isAgg5
  z5 := Tryf.sizeOf5
  v5 := Tryf.zeroValue5
  t9 := Tryf.underlying9
  a9 := Tryf.isAgg9
  z9 := Tryf.sizeOf9
  v9 := Tryf.zeroValue9
  t46 := Tryf.underlying44
  a46 := Tryf.isAgg44
  z46 := Tryf.sizeOf44
  v46 := Tryf.zeroValue44
  t53 := Tryf.underlying29
  a53 := Tryf.isAgg29
  z53 := Tryf.sizeOf29
  v53 := Tryf.zeroValue29 }
/-- bits.Len64: "Len64 returns the minimum number of bits required to represent x; the result is 0 for x == 0.": IT RETURNS 'Lib.bitLen x'; the world is as it was. ('h0', 'h1': x is a uint64.) (LAID: no walk: one application.) -/
theorem Tryf.bits_Len64 (x : Int) (w : World) (h0 : 0 ≤ x) (h1 : x ≤ 18446744073709551615) :
    Calls Tryf.prog 21 #[.int .u64 x] w fun e w' => e = .returned (.int .i64 (Lib.bitLen x.toNat)) ∧ w' = w := Any.bits_Len64 Tryf.lays129 x w h0 h1
def Tryf.lays264_ren : Go.Shelf.Ren := ⟨fun | 264 => 24 | n => n, fun | 53 => 29 | 46 => 44 | n => n, fun | n => n⟩
theorem Tryf.lays264 : Go.Proofs.Lays.n264 Tryf.prog Tryf.lays264_ren := {
  mixed := by kernel_rfl
  f264 := Tryf.func24.trans (congrArg some (by kernel_rfl))
  t46 := Tryf.underlying44
  a46 := Tryf.isAgg44
  z46 := Tryf.sizeOf44
  v46 := Tryf.zeroValue44
  t53 := Tryf.underlying29
  a53 := Tryf.isAgg29
  z53 := Tryf.sizeOf29
  v53 := Tryf.zeroValue29 }
open Go.RowKit Go.Lib in
theorem Tryf.bits_Mul64 (x y : Nat) (hx : x < 18446744073709551616) (hy : y < 18446744073709551616) (w : World) :
    Calls Tryf.prog 24 #[.int .u64 x, .int .u64 y] w fun e w' => e = .returned (.tuple #[.int .u64 ((x * y / 18446744073709551616 : Nat) : Int), .int .u64 ((x * y % 18446744073709551616 : Nat) : Int)]) ∧ w' = w := Any.bits_Mul64 Tryf.lays264 x y hx hy w
end Go.Proofs
