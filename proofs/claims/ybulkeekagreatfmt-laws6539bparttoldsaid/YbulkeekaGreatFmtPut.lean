/-
  BYTES LAID INTO A ROW: plain laws; binary.LittleEndian's PutUint16, PutUint32, PutUint64 on a row known whole; (pageHeader).encode.
-/
import Derived.Test.YbulkeekaGreatFmtFrame
import Derived.Test.YbulkeekaGreatFmtShelf
import Derived.Great.Walk
import Derived.Deep.RegionHeld3
import Derived.Laws.IdiomCopy
namespace Go.Proofs.YbulkeekaGreatFmt
open Go.RowKit
set_option linter.unusedSimpArgs false
set_option linter.unusedVariables false

abbrev u8s (xs : List Nat) : List Value := xs.map (fun (b : Nat) => Value.int .u8 (b : Int))

/-- bs laid into L from place o on -/
def put (L : List Nat) (o : Nat) (bs : List Nat) : List Nat := L.take o ++ bs ++ L.drop (o + bs.length)

theorem put_nil (L : List Nat) (o : Nat) : put L o [] = L := by simp [put]
theorem put_length (L : List Nat) (o : Nat) (bs : List Nat) (h : o + bs.length ≤ L.length) : (put L o bs).length = L.length := by simp [put]; omega
theorem put_cons (L : List Nat) (o b : Nat) (bs : List Nat) (h : o < L.length) : put L o (b :: bs) = put (L.set o b) (o + 1) bs := by
  have hl : (L.take o).length = o := by simp; omega
  unfold put
  rw [List.set_eq_take_append_cons_drop, if_pos h]
  have e1 : (L.take o ++ b :: L.drop (o + 1)).take (o + 1) = L.take o ++ [b] := by
    rw [List.take_append, hl, List.take_of_length_le (by omega), Nat.add_sub_cancel_left]
    simp
  have e2 : (L.take o ++ b :: L.drop (o + 1)).drop (o + 1 + bs.length) = L.drop (o + (b :: bs).length) := by
    rw [List.drop_append, hl, List.drop_of_length_le (by omega), show o + 1 + bs.length - o = bs.length + 1 by omega, List.drop_succ_cons, List.drop_drop]
    simp
    congr 1
    omega
  rw [e1, e2]
  simp

/-- v's n least bytes, the least first -/
def le (n v : Nat) : List Nat := (Lib.leBytes n v).map UInt8.toNat
theorem le_length (n v : Nat) : (le n v).length = n := by simp [le, Lib.leBytes_length]
theorem le_cells (n v : Nat) : Lib.byteCells (Lib.leBytes n v) = u8s (le n v) := by simp [le, Lib.byteCells, u8s]

theorem Blk.setCells {g : Nat} : ∀ (bs : List Nat) (o : Nat) (w : World) (L : List Nat), Blk w g (u8s L) 5 → o + bs.length ≤ L.length → Blk (w.setCells g o (u8s bs)) g (u8s (put L o bs)) 5
  | [], o, w, L, h, _ => by rw [put_nil]; exact h
  | b :: bs, o, w, L, h, hl => by
    simp at hl
    rw [put_cons L o b bs (by omega)]
    refine Blk.setCells bs (o + 1) (w.setCell ⟨g, o, none⟩ (.int .u8 (b : Int))) (L.set o b) ?_ (by simp; omega)
    have := h.set o (.int .u8 (b : Int))
    rwa [← List.map_set] at this

theorem But.setCells {S : Nat → Prop} {a : World} {g : Nat} (hg : a.heap.size ≤ g ∨ S g) : ∀ (vs : List Value) (o : Nat) (w : World), But S a w → But S a (w.setCells g o vs)
  | [], o, w, h => h
  | v :: vs, o, w, h => But.setCells hg vs (o + 1) _ (h.setCell (p := ⟨g, o, none⟩) hg v)

section
variable {w : World} {g : Nat} {L : List Nat}

theorem row_cell (h : Blk w g (u8s L) 5) (j : Nat) (hj : j < L.length) : w.cell? ⟨g, j, none⟩ = some (.int .u8 ((L[j] : Nat) : Int)) := h.cell (by simp [List.getElem?_eq_getElem hj])

theorem put16_any (h : Blk w g (u8s L) 5) (o n c v : Nat) (hv : v < 65536) (hn : 2 ≤ n) (ho : o + 2 ≤ L.length) :
    Calls Ybaz.prog 94 #[.agg #[], .slice (some ⟨g, o, none⟩) n c, .int .u16 v] w fun e w' => e = .returned (.tuple #[]) ∧ Blk w' g (u8s (put L o (le 2 v))) 5 ∧ But (fun k => k = g) w w' := by
  refine (Ybaz.binary_LE_PutUint16 g o n c v hv _ _ w hn (row_cell h o (by omega)) (row_cell h (o + 1) (by omega)) (h.frozen _) (h.frozen _)).mono ?_
  rintro e w' ⟨rfl, rfl⟩
  rw [le_cells]
  exact ⟨rfl, Blk.setCells _ _ _ _ (h.alloc _) (by rw [le_length]; omega), But.setCells (S := fun k => k = g) (Or.inr rfl) _ _ _ ((But.refl _ w).alloc _)⟩

theorem put32_any (h : Blk w g (u8s L) 5) (o n c v : Nat) (hv : v < 4294967296) (hn : 4 ≤ n) (ho : o + 4 ≤ L.length) :
    Calls Ybaz.prog 64 #[.agg #[], .slice (some ⟨g, o, none⟩) n c, .int .u32 v] w fun e w' => e = .returned (.tuple #[]) ∧ Blk w' g (u8s (put L o (le 4 v))) 5 ∧ But (fun k => k = g) w w' := by
  refine (Ybaz.binary_LE_PutUint32 g o n c v hv _ _ _ _ w hn (row_cell h o (by omega)) (row_cell h (o + 1) (by omega)) (row_cell h (o + 2) (by omega)) (row_cell h (o + 3) (by omega)) (h.frozen _) (h.frozen _) (h.frozen _) (h.frozen _)).mono ?_
  rintro e w' ⟨rfl, rfl⟩
  rw [le_cells]
  exact ⟨rfl, Blk.setCells _ _ _ _ (h.alloc _) (by rw [le_length]; omega), But.setCells (S := fun k => k = g) (Or.inr rfl) _ _ _ ((But.refl _ w).alloc _)⟩

theorem put64_any (h : Blk w g (u8s L) 5) (o n c v : Nat) (hv : v < 18446744073709551616) (hn : 8 ≤ n) (ho : o + 8 ≤ L.length) :
    Calls Ybaz.prog 59 #[.agg #[], .slice (some ⟨g, o, none⟩) n c, .int .u64 v] w fun e w' => e = .returned (.tuple #[]) ∧ Blk w' g (u8s (put L o (le 8 v))) 5 ∧ But (fun k => k = g) w w' := by
  refine (Ybaz.binary_LE_PutUint64 g o n c v hv _ _ _ _ _ _ _ _ w hn (row_cell h o (by omega)) (row_cell h (o + 1) (by omega)) (row_cell h (o + 2) (by omega)) (row_cell h (o + 3) (by omega)) (row_cell h (o + 4) (by omega)) (row_cell h (o + 5) (by omega)) (row_cell h (o + 6) (by omega)) (row_cell h (o + 7) (by omega))
    (h.frozen _) (h.frozen _) (h.frozen _) (h.frozen _) (h.frozen _) (h.frozen _) (h.frozen _) (h.frozen _)).mono ?_
  rintro e w' ⟨rfl, rfl⟩
  rw [le_cells]
  exact ⟨rfl, Blk.setCells _ _ _ _ (h.alloc _) (by rw [le_length]; omega), But.setCells (S := fun k => k = g) (Or.inr rfl) _ _ _ ((But.refl _ w).alloc _)⟩
end

end Go.Proofs.YbulkeekaGreatFmt
