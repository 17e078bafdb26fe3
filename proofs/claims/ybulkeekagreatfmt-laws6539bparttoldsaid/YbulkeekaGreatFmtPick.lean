/-
  PIECES OF LawS6539BPart's CODE, taken out of the translation by a function.
-/
import Derived.Test.YbulkeekaGreatFmtCln
namespace Go.Proofs.YbulkeekaGreatFmt
open Go.RowKit

def isReg (r : Nat) : Code → Bool
  | .region i _ _ => i == r
  | _ => false

/-- a statement of the body's own row, and what follows it -/
def cutAt (p : Code → Bool) : Code → Option (Code × Code)
  | .seq a b => match p a with
    | true => some (a, b)
    | false => cutAt p b
  | _ => none

/-- the statement that is region r, and what follows it -/
def pick (b : Option Code) (r : Nat) : Code × Code := (b.bind (cutAt (isReg r))).getD (.skip, .skip)

/-- what the function owes at its return -/
def Owes (w0 : World) (e : Ending) (w' : World) : Prop := e = .returned (.bool true) ∧ Below w0.heap.size w0 w'

end Go.Proofs.YbulkeekaGreatFmt
