/-
  THE WALK of LawS6539BPart where a length is over its bound.
-/
import Derived.Test.YbulkeekaGreatFmtFrame
import Derived.Test.YbulkeekaGreatFmtProg
namespace Go.Proofs.YbulkeekaGreatFmt
open Go.RowKit
set_option linter.unusedSimpArgs false
set_option linter.unusedVariables false

set_option maxRecDepth 1000000 in
set_option maxHeartbeats 20000000 in
theorem lawB_long (hasRoot : Bool) (ea : Option Addr) (ec en : Nat) (nodeID ovf pex seq oldRoot : Nat) (ia : Option Addr) (ic il : Nat) (ca : Option Addr) (cc cn : Nat) (fa : Option Addr) (fc fl : Nat) (w : World) (hlen : 65536 < en ∨ 65536 < cn ∨ 1048576 < fl) :
    Calls Ybaz.prog 3 #[.bool hasRoot, .slice ea en ec, .int .u64 nodeID, .int .u32 ovf, .int .u16 pex, .int .u64 seq, .int .u64 oldRoot, .slice ia il ic, .slice ca cn cc, .slice fa fl fc] w fun e w' => e = .returned (.bool true) ∧ Below w.heap.size w w' := by
  go_enter Ybaz.func3, Ybaz.ntmps3
  by_cases h1 : 65536 < en
  · clear hlen
    go_wp2_with fail
    go_ret
    exact ⟨rfl, Below.refl _ _⟩
  · by_cases h2 : 65536 < cn
    · clear hlen
      go_wp2_with fail
      go_ret
      exact ⟨rfl, Below.refl _ _⟩
    · have h3 : 1048576 < fl := by omega
      clear hlen
      go_wp2_with fail
      go_ret
      exact ⟨rfl, Below.refl _ _⟩

end Go.Proofs.YbulkeekaGreatFmt
