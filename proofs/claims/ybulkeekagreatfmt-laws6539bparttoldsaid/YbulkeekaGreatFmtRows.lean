/-
  NARROWER THAN 'FOR EVERY INPUT', by the rows' own cells (each row's printed sentence says how): LawS6539BPart: ifaces, laid.
  DERIVED. THE GIVEN ROWS OF THIS SEAT. 1 by the template 'for every input the law returns true; each argument reads behind the call as it read before'; 0 by the template 'total and deterministic' (their statements: YbulkeekaGreatFmtTotals.lean).
  GIVEN WITH THE SEED: the statements are not yours to turn. If you find one false, say at which input.
  Laid BY PROGRAM, IN A SANDBOX (cutbox-rows.mjs): the forced cells as the released guide's own fill.sh prints them over the translation 2d83a3e6f6d2c8b3… (all of the seat's roots in one cut). By AI agents, Wed Nov 11 2026. No macro, syntax, notation, axiom, sorry.
-/
import Derived.Test.YbulkeekaGreatFmtChecked
import GoSem.Claim
import GoSem.ClaimJoined
import GoSem.ClaimMapViews
import Derived.JoinedTies
import Derived.KernelRfl
namespace Go.Proofs.YbulkeekaGreatFmt
/- THE CELL 'sum', in the pinned program and in every row, IS THE sha256 OF THE DUMP (.gsa) THAT YbulkeekaGreatFmtProg.lean LOADS. Nothing in Lean hashes anything: it is a label: what it is worth is what the hold of that sum in a sandbox is worth. -/
noncomputable def Ybaz.pinned : Pinned := { name := "ybulkeekagreatfmt", sum := "2d83a3e6f6d2c8b3befe2ed1cbaab006f6a00dba9d496d19d8b3243d069f6f12", checked := Ybaz.checked }
namespace Rows
def none {H : Type} : Left H := { results := [], args := [] }

/- WHAT THE LISTED PACKAGE-LEVEL VARIABLES READ AS WHEN THE CALL BEGINS. Each datum BY PROGRAM (the guide's laid-datum.mjs) off the statement by which the dump's own 'gosem.cut.vars' lays the variable. In a bare row this is a premise. The card (YbulkeekaGreatFmtCards.lean) ties it to the program's text. -/
def laid_example_com_mapstone_mapstone_ErrIncompatibleValue {H : Type} : DataW H := .iface "*errors.errorString" (.ptr (.agg [.lit (.string [105, 110, 99, 111, 109, 112, 97, 116, 105, 98, 108, 101, 32, 118, 97, 108, 117, 101])]))

/-- 'mapstone.LawS6539BPart': WHATEVER THE INPUT: true; the input reads as it did. -/
def lawS6539BPartSpec : ChangeSpec := { name := "lawS6539BPart", vars := ["example.com/mapstone/mapstone.ErrIncompatibleValue"], fn := fun _ => fun
  | [d1, d2, d3, d4, d5, d6, d7, d8, d9, d10, g1] => { results := [.lit (.bool true)], args := [d1, d2, d3, d4, d5, d6, d7, d8, d9, d10], vars := [g1] }
  | _ => none }
def lawS6539BPartRow : OpenClaim := { program := "ybulkeekagreatfmt", sum := "2d83a3e6f6d2c8b3befe2ed1cbaab006f6a00dba9d496d19d8b3243d069f6f12", func := "example.com/mapstone/mapstone.LawS6539BPart", spec := "lawS6539BPart", stops := ["fmt.errorf, its operands' methods called", "fmt.Sprintf"], inPlace := ["fmt.errorf", "internal/bytealg.Compare", "slices.overlaps[example.com/mapstone/mapstone.inode]"], unfollowed := true, recurses := true, named := ["encoding/binary.LittleEndian", "example.com/mapstone/mapstone.ErrIncompatibleValue"], ifaces := true, apart := false, laid := [("example.com/mapstone/mapstone.ErrIncompatibleValue", laid_example_com_mapstone_mapstone_ErrIncompatibleValue)] }
/-- NO THEOREM (fmt's text is open here; it may be false): for the released tool's asking of the row's closed facts alone. THE STATEMENT IS 'LawS6539BPartToldSaid' (YbulkeekaGreatFmtCards.lean). -/
def LawS6539BPartFormAsk : Prop := lawS6539BPartRow.holds Ybaz.pinned (OpenSpec.ofChange lawS6539BPartSpec)

/-- ITS FALSE NEIGHBOUR: 'it returns false'. Refute it at one input. -/
def lawS6539BPartWrong : ChangeSpec := { name := "lawS6539BPart", vars := ["example.com/mapstone/mapstone.ErrIncompatibleValue"], fn := fun _ => fun
  | [d1, d2, d3, d4, d5, d6, d7, d8, d9, d10, g1] => { results := [.lit (.bool false)], args := [d1, d2, d3, d4, d5, d6, d7, d8, d9, d10], vars := [g1] }
  | _ => none }
def LawS6539BPartWrongFormAsk : Prop := lawS6539BPartRow.holds Ybaz.pinned (OpenSpec.ofChange lawS6539BPartWrong)

end Rows
end Go.Proofs.YbulkeekaGreatFmt
