/-
  PIECES OF LawS6540CWhole's CODE, taken out of the translation by a function.
-/
import Derived.Test.YbulkeekoFmtLawCP
namespace Go.Proofs.YbulkeekoFmt
open Go.RowKit

def isReg (r : Nat) : Code → Bool
  | .region i _ _ => i == r
  | _ => false

/-- a statement of the body's own row, and what follows it -/
def cutAt (p : Code → Bool) : Code → Option (Code × Code)
  | .seq a b => match p a with
    | true => some (a, b)
    | false => cutAt p b
  | _ => none

/-- the statement that is region r, and what follows it -/
def pick (b : Option Code) (r : Nat) : Code × Code := (b.bind (cutAt (isReg r))).getD (.skip, .skip)

/-- what the function owes at its return -/
def Owes (w0 : World) (e : Ending) (w' : World) : Prop := e = .returned (.bool true) ∧ Below w0.heap.size w0 w'

theorem size5 : (Ybaf.prog.info? 5).map (·.size) = some 1 := by kernel_rfl
theorem u8s_one (xs : List Nat) : ∀ v ∈ u8s xs, v.oneCell' = true := by
  intro v hv
  obtain ⟨x, _, rfl⟩ := List.mem_map.1 hv
  rfl
theorem u16s_one (xs : List Nat) : ∀ v ∈ u16s xs, v.oneCell' = true := by
  intro v hv
  obtain ⟨x, _, rfl⟩ := List.mem_map.1 hv
  rfl
theorem i64s_one (xs : List Int) : ∀ v ∈ i64s xs, v.oneCell' = true := by
  intro v hv
  obtain ⟨x, _, rfl⟩ := List.mem_map.1 hv
  rfl
theorem u8s_int (xs : List Nat) : ∀ v ∈ u8s xs, ∃ x, v = .int .u8 x := by
  intro v hv
  obtain ⟨x, _, rfl⟩ := List.mem_map.1 hv
  exact ⟨_, rfl⟩
theorem u16s_int (xs : List Nat) : ∀ v ∈ u16s xs, ∃ x, v = .int .u16 x := by
  intro v hv
  obtain ⟨x, _, rfl⟩ := List.mem_map.1 hv
  exact ⟨_, rfl⟩
theorem i64s_int (xs : List Int) : ∀ v ∈ i64s xs, ∃ x, v = .int .i64 x := by
  intro v hv
  obtain ⟨x, _, rfl⟩ := List.mem_map.1 hv
  exact ⟨_, rfl⟩

end Go.Proofs.YbulkeekoFmt
