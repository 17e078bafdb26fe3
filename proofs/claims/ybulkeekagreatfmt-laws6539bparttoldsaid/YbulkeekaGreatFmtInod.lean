/-
  A ROW OF INODES: as it is made, and one inode stored.
-/
import Derived.Test.YbulkeekaGreatFmtMid0
namespace Go.Proofs.YbulkeekaGreatFmt
open Go.RowKit
set_option linter.unusedSimpArgs false
set_option linter.unusedVariables false

/-- the zero inode -/
def inoZ : Ino := ⟨0, none, 0, [], none, 0, []⟩

theorem inoCells_length (es : List Ino) : (inoCells es).length = es.length * 5 := by
  induction es with
  | nil => rfl
  | cons e es ih =>
    have h : (inoCells (e :: es)) = e.cells ++ inoCells es := by simp [inoCells]
    rw [h, List.length_append, ih, List.length_cons]
    have : e.cells.length = 5 := rfl
    omega

theorem made_inodes (n : Nat) : (madeCells #[.int .u32 0, .slice none 0 0, .slice none 0 0, .int .u64 0, .pointer none] (n * 5)).toList = inoCells (List.replicate n inoZ) := by
  apply List.ext_getElem?
  intro j
  by_cases hj : j < n * 5
  · have h1 : j = j / 5 * 5 + j % 5 := by omega
    have h2 : j / 5 < (List.replicate n inoZ).length := by simp; omega
    have h3 := inoCells_get (List.replicate n inoZ) (j / 5) (j % 5) h2 (by omega)
    rw [← h1] at h3
    rw [h3]
    have h4 : (List.replicate n inoZ)[j / 5] = inoZ := by simp
    rw [h4]
    have h5 : (madeCells #[.int .u32 0, .slice none 0 0, .slice none 0 0, .int .u64 0, .pointer none] (n * 5)).toList[j]? = some (#[Value.int .u32 0, .slice none 0 0, .slice none 0 0, .int .u64 0, .pointer none][j % 5]!) := by
      unfold madeCells
      simp [hj]
    rw [h5]
    have h6 : j % 5 = 0 ∨ j % 5 = 1 ∨ j % 5 = 2 ∨ j % 5 = 3 ∨ j % 5 = 4 := by omega
    rcases h6 with h | h | h | h | h <;> rw [h] <;> rfl
  · rw [List.getElem?_eq_none (by simp [size_madeCells]; omega), List.getElem?_eq_none (by rw [inoCells_length]; simp; omega)]

theorem blk_of_made5 {w' : World} {base g n : Nat} {t : TypeId} {xs : List Value} (h : w'.ownsRow base t 5 (.slice (some ⟨g, 0, none⟩) n n) n xs) : Blk w' g xs t := by
  rcases h.2 with ⟨h1, _⟩ | ⟨g', cap', cur, hv, _, hh, _, _, hs, ht⟩
  · cases h1
  · simp only [Value.slice.injEq, Option.some.injEq, Addr.mk.injEq] at hv
    obtain ⟨⟨rfl, _⟩, _, rfl⟩ := hv
    unfold Blk
    rw [hh, ← ht]
    simp [hs, List.take_of_length_le]

/-- five stores lay one inode -/
theorem ino_set : ∀ (es : List Ino) (i : Nat) (e : Ino), i < es.length →
    (((((inoCells es).set (i * 5) (.int .u32 e.fl)).set (i * 5 + 1) (.slice e.ka e.key.length e.kc)).set (i * 5 + 2) (.slice e.va e.val.length e.vc)).set (i * 5 + 3) (.int .u64 0)).set (i * 5 + 4) (.pointer none) = inoCells (es.set i e)
  | [], i, e, h => by simp at h
  | a :: es, 0, e, _ => by
    simp [inoCells, Ino.cells]
  | a :: es, i + 1, e, h => by
    have ih := ino_set es i e (by simpa using h)
    have h1 : inoCells (a :: es) = a.cells ++ inoCells es := by simp [inoCells]
    have h2 : inoCells ((a :: es).set (i + 1) e) = a.cells ++ inoCells (es.set i e) := by simp [inoCells]
    have hl : a.cells.length = 5 := rfl
    rw [h1, h2, ← ih]
    rw [List.set_append_right _ _ (by omega), List.set_append_right _ _ (by omega), List.set_append_right _ _ (by omega), List.set_append_right _ _ (by omega), List.set_append_right _ _ (by omega), hl]
    rw [show (i + 1) * 5 - 5 = i * 5 by omega, show (i + 1) * 5 + 1 - 5 = i * 5 + 1 by omega, show (i + 1) * 5 + 2 - 5 = i * 5 + 2 by omega, show (i + 1) * 5 + 3 - 5 = i * 5 + 3 by omega, show (i + 1) * 5 + 4 - 5 = i * 5 + 4 by omega]

end Go.Proofs.YbulkeekaGreatFmt
