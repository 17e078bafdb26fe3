/-
  DERIVED: THE SHELF's CONTRACTS AT THIS DUMP, IN PLAIN WORDS (tools/lay-plain.mjs out of 'YbulkeekaGreatFmtShelfX.lean', which tools/lay-shelf.mjs wrote): THE SAME DECLARATIONS UNDER THE SAME NAMES: 'import', 'namespace', 'open', 'def', 'theorem' AND NOTHING ELSE: no command of the shelf's: FOR A HAND-IN. Each laying: the table of numbers ('.._ren') and one theorem, a field a fact of the dump's own or the kernel's comparison; each contract: ONE APPLICATION.
-/
import Derived.Shelf.Small.Bits
import Derived.Shelf.Strconv.Itoa0
import Derived.Ground.MnProg
import Derived.Shelf.Bin.LEUint16
import Derived.Shelf.Bin.LEPutUint16
import Derived.Shelf.Bin.LEUint32
import Derived.Shelf.Bin.LEPutUint32
import Derived.Shelf.Bin.LEUint64
import Derived.Shelf.Bin.LEPutUint64
import Derived.Shelf.Bin.ReadersZ
import Derived.Ground.SlbCloneProg
import Derived.Shelf.Bytes.SlClone
import Derived.Shelf.Bytes.SlEqualAll
import Derived.Shelf.Bytes.Small
import Derived.Test.YbulkeekaGreatFmtProg
namespace Go.Proofs
open Go.Shelf
def Ybaz.laysBin28_ren : Go.Shelf.Ren := ⟨fun | 28 => 94 | n => n, fun | 25 => 127 | 22 => 26 | 23 => 25 | 0 => 0 | 5 => 5 | 45 => 76 | n => n, fun | n => n⟩
theorem Ybaz.laysBin28 : Go.Proofs.LaysBin.n28 Ybaz.prog Ybaz.laysBin28_ren := {
  mixed := by kernel_rfl
  f28 := Ybaz.func94.trans (congrArg some (by kernel_rfl))
  t0 := Ybaz.underlying0
  a0 := Ybaz.isAgg0
  z0 := Ybaz.sizeOf0
  v0 := Ybaz.zeroValue0
  i0 := by kernel_rfl
  t5 := Ybaz.underlying5
  a5 := Ybaz.isAgg5
  z5 := Ybaz.sizeOf5
  v5 := Ybaz.zeroValue5
  i5 := by kernel_rfl
  t22 := Ybaz.underlying26
  a22 := Ybaz.isAgg26
  z22 := Ybaz.sizeOf26
  v22 := Ybaz.zeroValue26
  i22 := by kernel_rfl
  t23 := Ybaz.underlying25
  a23 := Ybaz.isAgg25
  z23 := Ybaz.sizeOf25
  v23 := Ybaz.zeroValue25
  i23 := by kernel_rfl
  t25 := Ybaz.underlying127
  a25 := Ybaz.isAgg127
  z25 := Ybaz.sizeOf127
  v25 := Ybaz.zeroValue127
  i25 := by kernel_rfl
  t45 := Ybaz.underlying76
  a45 := Ybaz.isAgg76
  z45 := Ybaz.sizeOf76
  v45 := Ybaz.zeroValue76
  i45 := by kernel_rfl }
open Go.RowKit in
theorem Ybaz.binary_LE_PutUint16 (g o n c v : Nat) (hv : v < 65536) (x0 x1 : Value) (w : World) (hn : 2 ≤ n) (c0 : w.cell? ⟨g, o, none⟩ = some x0) (c1 : w.cell? ⟨g, o + 1, none⟩ = some x1) (f0 : w.frozen? ⟨g, o, none⟩ = false) (f1 : w.frozen? ⟨g, o + 1, none⟩ = false) :
    Calls Ybaz.prog 94 #[.agg #[], .slice (some ⟨g, o, none⟩) n c, .int .u16 v] w fun e w' => e = .returned (.tuple #[]) ∧ w' = (w.alloc (.cells #[] 127)).setCells g o (Lib.byteCells (Lib.leBytes 2 v)) := Any.binary_LE_PutUint16 Ybaz.laysBin28 g o n c v hv x0 x1 w hn c0 c1 f0 f1
def Ybaz.laysBin31_ren : Go.Shelf.Ren := ⟨fun | 31 => 64 | n => n, fun | 25 => 127 | 22 => 26 | 29 => 24 | 0 => 0 | 5 => 5 | 45 => 76 | n => n, fun | n => n⟩
theorem Ybaz.laysBin31 : Go.Proofs.LaysBin.n31 Ybaz.prog Ybaz.laysBin31_ren := {
  mixed := by kernel_rfl
  f31 := Ybaz.func64.trans (congrArg some (by kernel_rfl))
  t0 := Ybaz.underlying0
  a0 := Ybaz.isAgg0
  z0 := Ybaz.sizeOf0
  v0 := Ybaz.zeroValue0
  i0 := by kernel_rfl
  t5 := Ybaz.underlying5
  a5 := Ybaz.isAgg5
  z5 := Ybaz.sizeOf5
  v5 := Ybaz.zeroValue5
  i5 := by kernel_rfl
  t22 := Ybaz.underlying26
  a22 := Ybaz.isAgg26
  z22 := Ybaz.sizeOf26
  v22 := Ybaz.zeroValue26
  i22 := by kernel_rfl
  t25 := Ybaz.underlying127
  a25 := Ybaz.isAgg127
  z25 := Ybaz.sizeOf127
  v25 := Ybaz.zeroValue127
  i25 := by kernel_rfl
  t29 := Ybaz.underlying24
  a29 := Ybaz.isAgg24
  z29 := Ybaz.sizeOf24
  v29 := Ybaz.zeroValue24
  i29 := by kernel_rfl
  t45 := Ybaz.underlying76
  a45 := Ybaz.isAgg76
  z45 := Ybaz.sizeOf76
  v45 := Ybaz.zeroValue76
  i45 := by kernel_rfl }
open Go.RowKit in
theorem Ybaz.binary_LE_PutUint32 (g o n c v : Nat) (hv : v < 4294967296) (x0 x1 x2 x3 : Value) (w : World) (hn : 4 ≤ n) (c0 : w.cell? ⟨g, o, none⟩ = some x0) (c1 : w.cell? ⟨g, o + 1, none⟩ = some x1) (c2 : w.cell? ⟨g, o + 2, none⟩ = some x2) (c3 : w.cell? ⟨g, o + 3, none⟩ = some x3) (f0 : w.frozen? ⟨g, o, none⟩ = false) (f1 : w.frozen? ⟨g, o + 1, none⟩ = false) (f2 : w.frozen? ⟨g, o + 2, none⟩ = false) (f3 : w.frozen? ⟨g, o + 3, none⟩ = false) :
    Calls Ybaz.prog 64 #[.agg #[], .slice (some ⟨g, o, none⟩) n c, .int .u32 v] w fun e w' => e = .returned (.tuple #[]) ∧ w' = (w.alloc (.cells #[] 127)).setCells g o (Lib.byteCells (Lib.leBytes 4 v)) := Any.binary_LE_PutUint32 Ybaz.laysBin31 g o n c v hv x0 x1 x2 x3 w hn c0 c1 c2 c3 f0 f1 f2 f3
def Ybaz.laysBin34_ren : Go.Shelf.Ren := ⟨fun | 34 => 59 | n => n, fun | 25 => 127 | 22 => 26 | 33 => 23 | 0 => 0 | 5 => 5 | 45 => 76 | n => n, fun | n => n⟩
theorem Ybaz.laysBin34 : Go.Proofs.LaysBin.n34 Ybaz.prog Ybaz.laysBin34_ren := {
  mixed := by kernel_rfl
  f34 := Ybaz.func59.trans (congrArg some (by kernel_rfl))
  t0 := Ybaz.underlying0
  a0 := Ybaz.isAgg0
  z0 := Ybaz.sizeOf0
  v0 := Ybaz.zeroValue0
  i0 := by kernel_rfl
  t5 := Ybaz.underlying5
  a5 := Ybaz.isAgg5
  z5 := Ybaz.sizeOf5
  v5 := Ybaz.zeroValue5
  i5 := by kernel_rfl
  t22 := Ybaz.underlying26
  a22 := Ybaz.isAgg26
  z22 := Ybaz.sizeOf26
  v22 := Ybaz.zeroValue26
  i22 := by kernel_rfl
  t25 := Ybaz.underlying127
  a25 := Ybaz.isAgg127
  z25 := Ybaz.sizeOf127
  v25 := Ybaz.zeroValue127
  i25 := by kernel_rfl
  t33 := Ybaz.underlying23
  a33 := Ybaz.isAgg23
  z33 := Ybaz.sizeOf23
  v33 := Ybaz.zeroValue23
  i33 := by kernel_rfl
  t45 := Ybaz.underlying76
  a45 := Ybaz.isAgg76
  z45 := Ybaz.sizeOf76
  v45 := Ybaz.zeroValue76
  i45 := by kernel_rfl }
open Go.RowKit in
theorem Ybaz.binary_LE_PutUint64 (g o n c v : Nat) (hv : v < 18446744073709551616) (x0 x1 x2 x3 x4 x5 x6 x7 : Value) (w : World) (hn : 8 ≤ n) (c0 : w.cell? ⟨g, o, none⟩ = some x0) (c1 : w.cell? ⟨g, o + 1, none⟩ = some x1) (c2 : w.cell? ⟨g, o + 2, none⟩ = some x2) (c3 : w.cell? ⟨g, o + 3, none⟩ = some x3) (c4 : w.cell? ⟨g, o + 4, none⟩ = some x4) (c5 : w.cell? ⟨g, o + 5, none⟩ = some x5) (c6 : w.cell? ⟨g, o + 6, none⟩ = some x6) (c7 : w.cell? ⟨g, o + 7, none⟩ = some x7) (f0 : w.frozen? ⟨g, o, none⟩ = false) (f1 : w.frozen? ⟨g, o + 1, none⟩ = false) (f2 : w.frozen? ⟨g, o + 2, none⟩ = false) (f3 : w.frozen? ⟨g, o + 3, none⟩ = false) (f4 : w.frozen? ⟨g, o + 4, none⟩ = false) (f5 : w.frozen? ⟨g, o + 5, none⟩ = false) (f6 : w.frozen? ⟨g, o + 6, none⟩ = false) (f7 : w.frozen? ⟨g, o + 7, none⟩ = false) :
    Calls Ybaz.prog 59 #[.agg #[], .slice (some ⟨g, o, none⟩) n c, .int .u64 v] w fun e w' => e = .returned (.tuple #[]) ∧ w' = (w.alloc (.cells #[] 127)).setCells g o (Lib.byteCells (Lib.leBytes 8 v)) := Any.binary_LE_PutUint64 Ybaz.laysBin34 g o n c v hv x0 x1 x2 x3 x4 x5 x6 x7 w hn c0 c1 c2 c3 c4 c5 c6 c7 f0 f1 f2 f3 f4 f5 f6 f7
def Ybaz.laysSlK4_ren : Go.Shelf.Ren := ⟨fun | 4 => 5 | n => n, fun | 22 => 26 | 4 => 4 | 5 => 5 | n => n, fun | n => n⟩
theorem Ybaz.laysSlK4 : Go.Proofs.SlLaysK.n4 Ybaz.prog Ybaz.laysSlK4_ren := {
  mixed := by kernel_rfl
  f4 := Ybaz.func5.trans (congrArg some (by kernel_rfl))
  t4 := Ybaz.underlying4
  a4 := Ybaz.isAgg4
  z4 := Ybaz.sizeOf4
  v4 := Ybaz.zeroValue4
  t22 := Ybaz.underlying26
  a22 := Ybaz.isAgg26
  z22 := Ybaz.sizeOf26
  v22 := Ybaz.zeroValue26
  t5 := Ybaz.underlying5
  i5 := by kernel_rfl }
open Go.RowKit Go.Lib in
theorem Ybaz.bytes_Clone_at (a : Addr) (n c : Nat) (xs : List Int) (w : World) (hx : xs.length = n) (hbig : n ≤ 140737488355328) (hc : ∀ i, i < n → w.cell? (a.add i) = some (.int .u8 (xs.getD i 0))) :
    Calls Ybaz.prog 5 #[.slice (some a) n c] w fun e w' => ∃ v', e = .returned v' ∧ w'.ownsRow w.heap.size 5 1 v' n (xs.map (Value.int .u8)) ∧ v' ≠ .slice none 0 0 ∧ Below w.heap.size w w' := Any.bytes_Clone_at Ybaz.laysSlK4 a n c xs w hx hbig hc
open Go.RowKit Go.Lib in
theorem Ybaz.bytes_Clone_nil (n c : Nat) (w : World) :
    Calls Ybaz.prog 5 #[.slice none n c] w fun e w' => e = .returned (.slice none 0 0) ∧ w' = w := Any.bytes_Clone_nil Ybaz.laysSlK4 n c w
def Ybaz.laysnb115_ren : Go.Shelf.Ren := ⟨fun | 115 => 7 | n => n, fun | 37 => 26 | 4 => 4 | 9 => 9 | 5 => 5 | n => n, fun | n => n⟩
theorem Ybaz.laysnb115 : Go.Proofs.Lays.nb115 Ybaz.prog Ybaz.laysnb115_ren := {
  mixed := by kernel_rfl
  f115 := Ybaz.func7.trans (congrArg some (by kernel_rfl))
  t4 := Ybaz.underlying4
  a4 := Ybaz.isAgg4
  z4 := Ybaz.sizeOf4
  v4 := Ybaz.zeroValue4
  t9 := Ybaz.underlying9
  a9 := Ybaz.isAgg9
  z9 := Ybaz.sizeOf9
  v9 := Ybaz.zeroValue9
  t37 := Ybaz.underlying26
  a37 := Ybaz.isAgg26
  z37 := Ybaz.sizeOf26
  v37 := Ybaz.zeroValue26
  t5 := Ybaz.underlying5
  a5 := Ybaz.isAgg5
  z5 := Ybaz.sizeOf5
  v5 := Ybaz.zeroValue5 }
/-- bytes.Equal: WHOLE. (LAID: no walk: one application.) -/
theorem Ybaz.bytes_Equal_all (p1 p2 : Option Addr) (n c m d : Nat) (xs ys : List Int) (w : World) (hx : xs.length = n) (hy : ys.length = m) (h1 : Lib.BytesIn w p1 n xs) (h2 : Lib.BytesIn w p2 m ys) :
    Calls Ybaz.prog 7 #[.slice p1 n c, .slice p2 m d] w fun e w' => e = .returned (.bool (Lib.bytesOf xs == Lib.bytesOf ys)) ∧ w' = w := Any.bytes_Equal_all Ybaz.laysnb115 p1 p2 n c m d xs ys w hx hy h1 h2
end Go.Proofs
