/-
  CLOSED FACTS FOR THE WALK OVER fmt's STOPPED FRONT at this dump, after the guide's CheckFmt text; and the walk of errReachedTwice.
-/
import Derived.Test.YbulkeekaFmtRows
import Derived.Stop.CallBack
import Derived.Stop.IfaceNil
import Derived.WalkKit
import Derived.WalkSpells
namespace Go.Proofs.YbulkeekaFmt
open Go.RowKit Go.Extern.Stop Go.Stop Go.Extern

theorem call7 (args : Array Value) (w : World) : (callFunc 7 args).run Ybaf.prog w = ((FmtStop.errorf #[9, 39] #[33] args).run Ybaf.prog w).andThen fun v w' => .ok (.value v) w' :=
  run_callFunc_extern Ybaf.func7 (by kernel_rfl) (by kernel_rfl) (by kernel_rfl) (by kernel_rfl) args w
theorem guard (name : String) (w : World) : (FmtStop.guard name).run Ybaf.prog w = .ok () w := by kernel_rfl
theorem fmt0 : FmtStop.printed? ⟨#[112, 97, 103, 101, 32, 37, 100, 58, 32, 116, 104, 101, 32, 115, 116, 97, 116, 101, 32, 114, 101, 97, 99, 104, 101, 115, 32, 105, 116, 32, 116, 119, 105, 99, 101]⟩ 1 = some [(0, 100, false)] := by kernel_rfl
theorem fmt0r (w : World) : (FmtDoors.printed ⟨#[112, 97, 103, 101, 32, 37, 100, 58, 32, 116, 104, 101, 32, 115, 116, 97, 116, 101, 32, 114, 101, 97, 99, 104, 101, 115, 32, 105, 116, 32, 116, 119, 105, 99, 101]⟩ 1).run Ybaf.prog w = .ok [(0, 100, false)] w := by kernel_rfl
def shape35 : List UInt8 := FmtStop.intCode .u64 :: FmtStop.pack "mapstone.pgid".toUTF8.data.toList
theorem op35 (name : String) (x : Int) (w : World) : (FmtStop.operand name true 100 false (.iface 35 (.int .u64 x))).run Ybaf.prog w = .ok (shape35, Go.Extern.Stop.digits 8 (x % 2 ^ 64).toNat) w := by kernel_rfl
theorem ptr42 (w : World) : (FmtStop.ptrTo "errors.errorString").run Ybaf.prog w = .ok 42 w := by kernel_rfl
theorem elem42 (w : World) : (elemOf 42).run Ybaf.prog w = .ok 44 w := by kernel_rfl
attribute [local go_sem] call7 guard fmt0 fmt0r op35 ptr42 elem42

set_option maxHeartbeats 400000 in
theorem errTwice_any (F : Interp) (x : Int) (w : World) (hF : F.answers w.tape) :
    Calls Ybaf.prog 5 #[.int .u64 x] w fun e w' => ∃ a, e = .returned (.iface 42 (.pointer (some a))) ∧ Below w.heap.size w w' := by
  have hF' := answers_open hF
  go_enter Ybaf.func5, Ybaf.ntmps5
  go_wp2
  go_ret
  exact ⟨_, rfl, (((Below.refl _ _).alloc (Nat.le_refl _) _).alloc (by simp) _).drew⟩
end Go.Proofs.YbulkeekaFmt
