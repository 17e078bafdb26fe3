/-
  DERIVED: THE SHELF's CONTRACTS AT THIS DUMP, IN PLAIN WORDS (tools/lay-plain.mjs out of 'YbulkeekoFmtShelf.lean', which tools/lay-shelf.mjs wrote): THE SAME DECLARATIONS UNDER THE SAME NAMES: 'import', 'namespace', 'open', 'def', 'theorem' AND NOTHING ELSE: no command of the shelf's: FOR A HAND-IN. Each laying: the table of numbers ('.._ren') and one theorem, a field a fact of the dump's own or the kernel's comparison; each contract: ONE APPLICATION.
-/
import Derived.Shelf.Small.Bits
import Derived.Test.YbulkeekoFmtProg
namespace Go.Proofs
open Go.Shelf
def Ybaf.lays125_ren : Go.Shelf.Ren := ⟨fun | 125 => 21 | 128 => 23 | 129 => 24 | n => n, fun | 46 => 33 | 3 => 3 | 51 => 66 | 53 => 32 | 4 => 4 | 5 => 5 | 9 => 9 | n => n, fun | n => n⟩
theorem Ybaf.lays125 : Go.Proofs.Lays.n125 Ybaf.prog Ybaf.lays125_ren := {
  mixed := by kernel_rfl
  f125 := Ybaf.func21.trans (congrArg some (by kernel_rfl))
  f128 := Ybaf.func23.trans (congrArg some (by kernel_rfl))
  f129 := Ybaf.func24.trans (congrArg some (by kernel_rfl))
  t3 := Ybaf.underlying3
  a3 := Ybaf.isAgg3
  z3 := Ybaf.sizeOf3
  v3 := Ybaf.zeroValue3
  t4 := Ybaf.underlying4
  a4 := Ybaf.isAgg4
  z4 := Ybaf.sizeOf4
  v4 := Ybaf.zeroValue4
  t5 := Ybaf.underlying5
  a5 := Ybaf.isAgg5
  z5 := Ybaf.sizeOf5
  v5 := Ybaf.zeroValue5
  t9 := Ybaf.underlying9
  a9 := Ybaf.isAgg9
  z9 := Ybaf.sizeOf9
  v9 := Ybaf.zeroValue9
  t46 := Ybaf.underlying33
  a46 := Ybaf.isAgg33
  z46 := Ybaf.sizeOf33
  v46 := Ybaf.zeroValue33
  t51 := Ybaf.underlying66
  a51 := Ybaf.isAgg66
  z51 := Ybaf.sizeOf66
  v51 := Ybaf.zeroValue66
  t53 := Ybaf.underlying32
  a53 := Ybaf.isAgg32
  z53 := Ybaf.sizeOf32
  v53 := Ybaf.zeroValue32 }
theorem Ybaf.bits_Len (x : Int) (w : World) (h0 : 0 ≤ x) (h1 : x ≤ 18446744073709551615) :
    Calls Ybaf.prog 21 #[.int .u64 x] w fun e w' => e = .returned (.int .i64 (Lib.bitLen x.toNat)) ∧ w' = w := Any.bits_Len Ybaf.lays125 x w h0 h1
end Go.Proofs
