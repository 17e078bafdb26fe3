/-
  bytes.Clone and bytes.Equal, as the law's walk wants them.
-/
import Derived.Test.YbulkeekaGreatFmtKids
namespace Go.Proofs.YbulkeekaGreatFmt
open Go.RowKit
set_option linter.unusedSimpArgs false
set_option linter.unusedVariables false

/-- a clone: nil just where the source is; else in memory of its own -/
structure Cln (w w' : World) (src a : Option Addr) (c : Nat) (xs : List Nat) : Prop where
  R : Rd w' a (u8s xs)
  z : a = none ↔ src = none
  n : ∀ ad, a = some ad → w.heap.size ≤ ad.block ∧ ad.block < w'.heap.size
  e : a = none → xs.length = 0 ∧ c = 0
  L : Below w.heap.size w w'

theorem clone_any (w : World) (src : Option Addr) (sc : Nat) (xs : List Nat) (hr : Rd w src (u8s xs)) (h0 : src = none → xs.length = 0 ∧ sc = 0) (hb : xs.length ≤ 140737488355328) :
    Calls Ybaz.prog 5 #[.slice src xs.length sc] w fun e w' => ∃ a c, e = .returned (.slice a xs.length c) ∧ Cln w w' src a c xs := by
  cases src with
  | none =>
    obtain ⟨h1, rfl⟩ := h0 rfl
    obtain rfl := List.eq_nil_of_length_eq_zero h1
    refine (Ybaz.bytes_Clone_nil 0 0 w).mono ?_
    rintro e w' ⟨rfl, rfl⟩
    exact ⟨none, 0, rfl, Rd.nil _ _, Iff.rfl, (fun ad h => by cases h), fun _ => ⟨rfl, rfl⟩, Below.refl _ _⟩
  | some ad =>
    refine (Ybaz.bytes_Clone_at ad xs.length sc (xs.map Int.ofNat) w (by simp) hb (fun i hi => ?_)).mono ?_
    · obtain ⟨a', e', hc⟩ := hr i (.int .u8 ((xs[i] : Nat) : Int)) (by simp [List.getElem?_eq_getElem hi])
      cases e'
      rw [hc]
      simp [List.getD_eq_getElem?_getD, List.getElem?_eq_getElem hi]
    · rintro e w' ⟨v, rfl, ho, hne, hL⟩
      have hmap : (xs.map Int.ofNat).map (Value.int .u8) = u8s xs := by rw [List.map_map]; rfl
      rw [hmap] at ho
      obtain ⟨a, c, rfl, _, _, hR, hz, hf⟩ := owns_form ho
      have ha : a ≠ none := by
        rintro rfl
        obtain ⟨h1, h2⟩ := hz rfl
        exact hne (by rw [h1, h2])
      exact ⟨a, c, rfl, hR, ⟨fun h => absurd h ha, fun h => by cases h⟩, fun ad' e' => ⟨(hf ad' e').2.1, (hf ad' e').2.2.1⟩, fun h => absurd h ha, hL⟩

theorem bytesIn_of {w : World} {a : Option Addr} {xs : List Nat} (h : Rd w a (u8s xs)) : Lib.BytesIn w a xs.length (xs.map Int.ofNat) := by
  cases a with
  | none =>
    have : xs = [] := by
      cases xs with
      | nil => rfl
      | cons x xs => obtain ⟨_, e, _⟩ := h 0 _ rfl; cases e
    subst this
    exact Lib.BytesIn.nil _ _ _
  | some ad =>
    refine Lib.BytesIn.of_cells (fun i hi => ?_)
    obtain ⟨a', e', hc⟩ := h i (.int .u8 ((xs[i] : Nat) : Int)) (by simp [List.getElem?_eq_getElem hi])
    cases e'
    rw [hc]
    simp [List.getD_eq_getElem?_getD, List.getElem?_eq_getElem hi]

/-- equal bytes -/
theorem equal_same (w : World) (a b : Option Addr) (c d : Nat) (xs : List Nat) (h1 : Rd w a (u8s xs)) (h2 : Rd w b (u8s xs)) :
    Calls Ybaz.prog 7 #[.slice a xs.length c, .slice b xs.length d] w fun e w' => e = .returned (.bool true) ∧ w' = w := by
  refine (Ybaz.bytes_Equal_all a b xs.length c xs.length d (xs.map Int.ofNat) (xs.map Int.ofNat) w (by simp) (by simp) (bytesIn_of h1) (bytesIn_of h2)).mono ?_
  rintro e w' ⟨rfl, rfl⟩
  exact ⟨by simp, rfl⟩

end Go.Proofs.YbulkeekaGreatFmt
