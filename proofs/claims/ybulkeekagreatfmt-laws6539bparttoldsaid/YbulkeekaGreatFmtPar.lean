/-
  THE NODE's ELEMENTS AND THE LAW's: plain laws.
-/
import Derived.Test.YbulkeekaGreatFmtInod
import Derived.Test.YbulkeekaGreatFmtTail1
namespace Go.Proofs.YbulkeekaGreatFmt
open Go.RowKit

theorem mask_one (f : Nat) : mask f &&& 1 = 0 := by
  unfold mask
  rw [Nat.and_assoc]
  simp

theorem Pair.el {es es' : List Ino} (h : Pair es es') : es'.map Ino.el = es.map Ino.mel := by
  apply List.ext_getElem?
  intro i
  rw [List.getElem?_map, List.getElem?_map]
  by_cases hi : i < es.length
  · have hi' : i < es'.length := by rw [h.n]; exact hi
    rw [List.getElem?_eq_getElem hi, List.getElem?_eq_getElem hi']
    obtain ⟨h1, h2, h3⟩ := h.e i hi hi'
    simp [Ino.el, Ino.mel, h1, h2, h3]
  · have hn := h.n
    rw [List.getElem?_eq_none (show es.length ≤ i by omega), List.getElem?_eq_none (show es'.length ≤ i by omega)]
    rfl

theorem Pair.sizes {es es' : List Ino} (h : Pair es es') : sizes es' = sizes es := by
  have h1 : es'.map Ino.size = es.map Ino.size := by
    apply List.ext_getElem?
    intro i
    rw [List.getElem?_map, List.getElem?_map]
    by_cases hi : i < es.length
    · have hi' : i < es'.length := by rw [h.n]; exact hi
      rw [List.getElem?_eq_getElem hi, List.getElem?_eq_getElem hi']
      obtain ⟨h1, h2, h3⟩ := h.e i hi hi'
      simp [Ino.size, h2, h3]
    · have hn := h.n
      rw [List.getElem?_eq_none (show es.length ≤ i by omega), List.getElem?_eq_none (show es'.length ≤ i by omega)]
  unfold YbulkeekaGreatFmt.sizes
  rw [h1]

theorem Pair.fl {es es' : List Ino} (h : Pair es es') : ∀ e ∈ es', e.fl < 4294967296 ∧ e.fl &&& 1 = 0 := by
  intro e he
  obtain ⟨i, hi, rfl⟩ := List.getElem_of_mem he
  obtain ⟨h1, _, _⟩ := h.e i (by rw [← h.n]; exact hi) hi
  rw [h1]
  exact ⟨mask_lt _, mask_one _⟩

end Go.Proofs.YbulkeekaGreatFmt
