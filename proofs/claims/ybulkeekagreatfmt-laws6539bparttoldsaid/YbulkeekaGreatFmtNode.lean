/-
  A LEAF NODE IN MEMORY; THE WALKS of (*inode).size, (*node).size.
-/
import Derived.Test.YbulkeekaGreatFmtHdr
import Derived.BigQuiet
namespace Go.Proofs.YbulkeekaGreatFmt
open Go.RowKit
set_option linter.unusedSimpArgs false
set_option linter.unusedVariables false

/-- an element: its flags, where its key and its value lie, and what they hold -/
structure Ino where
  fl : Nat
  ka : Option Addr
  kc : Nat
  key : List Nat
  va : Option Addr
  vc : Nat
  val : List Nat

/-- its five cells -/
def Ino.cells (e : Ino) : List Value := [.int .u32 e.fl, .slice e.ka e.key.length e.kc, .slice e.va e.val.length e.vc, .int .u64 0, .pointer none]
def inoCells (es : List Ino) : List Value := es.flatMap Ino.cells

theorem inoCells_get : ∀ (es : List Ino) (i j : Nat) (hi : i < es.length) (hj : j < 5), (inoCells es)[i * 5 + j]? = es[i].cells[j]?
  | [], i, j, hi, _ => by simp at hi
  | e :: es, 0, j, _, hj => by
    have hl : e.cells.length = 5 := rfl
    simp only [inoCells, List.flatMap_cons, Nat.zero_mul, Nat.zero_add, List.getElem_cons_zero]
    rw [List.getElem?_append_left (by omega)]
  | e :: es, i + 1, j, hi, hj => by
    have hl : e.cells.length = 5 := rfl
    have ih := inoCells_get es i j (by simpa using hi) hj
    simp only [inoCells, List.flatMap_cons, List.getElem_cons_succ] at ih ⊢
    rw [List.getElem?_append_right (by omega), hl, show (i + 1) * 5 + j - 5 = i * 5 + j by omega, ih]

/-- a leaf node: its own block, its elements' block, their bytes -/
structure Nod (w : World) (nb id ov gi : Nat) (es : List Ino) : Prop where
  B : Blk w nb [.int .u64 id, .int .u32 ov, .bool true, .slice (some ⟨gi, 0, none⟩) es.length es.length, .bool false] 60
  I : Blk w gi (inoCells es) 58
  R : ∀ e ∈ es, Rd w e.ka (u8s e.key) ∧ Rd w e.va (u8s e.val)

theorem Nod.but {w w' : World} {nb id ov gi : Nat} {es : List Ino} {S : Nat → Prop} (h : Nod w nb id ov gi es) (P : But S w w') (h1 : ¬ S nb) (h2 : ¬ S gi) (h3 : ∀ e ∈ es, (∀ ad, e.ka = some ad → ¬ S ad.block) ∧ (∀ ad, e.va = some ad → ¬ S ad.block)) : Nod w' nb id ov gi es :=
  ⟨h.B.but P h1, h.I.but P h2, fun e he => ⟨(h.R e he).1.but P (h3 e he).1, (h.R e he).2.but P (h3 e he).2⟩⟩

theorem Nod.below {w w' : World} {nb id ov gi : Nat} {es : List Ino} (h : Nod w nb id ov gi es) (P : Below w.heap.size w w') : Nod w' nb id ov gi es :=
  h.but (But.of_below' (S := fun _ => False) P) (fun h => h) (fun h => h) (fun _ _ => ⟨fun _ _ h => h, fun _ _ h => h⟩)

theorem Nod.cell {w : World} {nb id ov gi : Nat} {es : List Ino} (h : Nod w nb id ov gi es) (i j : Nat) (hi : i < es.length) {v : Value} (hj : es[i].cells[j]? = some v) (h5 : j < 5) : w.cell? ⟨gi, i * 5 + j, none⟩ = some v :=
  h.I.cell (by rw [inoCells_get es i j hi h5]; exact hj)

/-- the size of an element's image -/
def Ino.size (e : Ino) : Nat := 16 + e.key.length + e.val.length
def sizes (es : List Ino) : Nat := (es.map Ino.size).sum

set_option maxHeartbeats 1000000 in
theorem isize_any (b : Nat) (ka va : Option Addr) (kl kc vl vc : Nat) (w : World) (c1 : w.cell? ⟨b, 1, none⟩ = some (.slice ka kl kc)) (c2 : w.cell? ⟨b, 2, none⟩ = some (.slice va vl vc)) (hk : kl ≤ 9000000) (hv : vl ≤ 9000000) :
    Calls Ybaz.prog 55 #[.pointer (some ⟨b, 0, none⟩)] w fun e w' => e = .returned (.int .i64 ((16 + kl + vl : Nat) : Int)) ∧ ∃ q, w' = w.drewN q := by
  go_enter Ybaz.func55, Ybaz.ntmps55
  go_wp2_with fail
  go_quiet (fail)
  go_wp2_with fail
  go_ret
  exact ⟨congrArg (fun z => Ending.returned (Value.int .i64 z)) (by omega), _, rfl⟩

theorem sizes_le (es : List Ino) (i : Nat) (hi : i < es.length) : sizes (es.take i) + es[i].size ≤ sizes es ∧ sizes (es.take (i + 1)) = sizes (es.take i) + es[i].size := by
  have h1 : sizes (es.take (i + 1)) = sizes (es.take i) + es[i].size := by
    unfold sizes
    rw [List.take_add_one, List.getElem?_eq_getElem hi, Option.toList_some, List.map_append, List.sum_append, List.map_singleton, List.sum_singleton]
  refine ⟨?_, h1⟩
  rw [← h1]
  unfold sizes
  have : es = es.take (i + 1) ++ es.drop (i + 1) := (List.take_append_drop _ _).symm
  conv => rhs; rw [this]
  rw [List.map_append, List.sum_append]
  omega

theorem belowDN {B : Nat} {a w : World} (h : Below B a w) (n : Nat) : Below B a (w.drewN n) := h.trans ⟨rfl, rfl, rfl, Nat.le_refl _, fun _ _ => rfl⟩

set_option maxRecDepth 100000 in
set_option maxHeartbeats 1000000 in
theorem size_any {w : World} {nb id ov gi : Nat} {es : List Ino} (h : Nod w nb id ov gi es) (hn : es.length ≤ 65536) (hs : sizes es ≤ 4000000) :
    Calls Ybaz.prog 34 #[.pointer (some ⟨nb, 0, none⟩)] w fun e w' => e = .returned (.int .i64 ((16 + sizes es : Nat) : Int)) ∧ Below w.heap.size w w' := by
  have c3 := h.B.cell (j := 3) rfl
  have HH := hide h
  clear h
  go_enter Ybaz.func34, Ybaz.ntmps34
  go_wp2_with fail
  go_loopw [3, 11] (fun sv iv wr => ∃ i : Nat, i ≤ es.length ∧ sv = .int .i64 ((16 + sizes (es.take i) : Nat) : Int) ∧ iv = .int .i64 (i : Int) ∧ Hid (Below w.heap.size w wr)) (fun _ iv _ => es.length - (intOf iv).toNat)
  case atStart => exact ⟨0, Nat.zero_le _, rfl, rfl, Below.refl _ _⟩
  case round =>
    obtain ⟨i, hi, rfl, rfl, HW⟩ := hrel
    clear c3
    by_cases hlt : i < es.length
    · have N := HH.out.below HW.out
      have d0 : wr.cell? ⟨gi, i * 5, none⟩ = some (.int .u32 es[i].fl) := N.cell i 0 hlt rfl (by omega)
      have d1 := N.cell i 1 hlt rfl (by omega)
      have d2 := N.cell i 2 hlt rfl (by omega)
      have d3 := N.cell i 3 hlt rfl (by omega)
      have d4 := N.cell i 4 hlt rfl (by omega)
      clear N
      obtain ⟨z1, z2⟩ := sizes_le es i hlt
      have z3 : es[i].size = 16 + es[i].key.length + es[i].val.length := rfl
      have HZ := hide (And.intro z2 z3)
      have hk1 : es[i].key.length ≤ 9000000 := by omega
      have hk2 : es[i].val.length ≤ 9000000 := by omega
      have hk3 : sizes (es.take i) ≤ 4000000 := by omega
      clear z1 z2 z3
      have L1 : Hid (Below w.heap.size w (wr.alloc (.cells #[.int .u32 es[i].fl, .slice es[i].ka es[i].key.length es[i].kc, .slice es[i].va es[i].val.length es[i].vc, .int .u64 0, .pointer none] 58))) := HW.out.alloc HW.out.size _
      go_wp2_with fail
      refine (isize_any wr.heap.size es[i].ka es[i].va es[i].key.length es[i].kc es[i].val.length es[i].vc _ (by simp [World.cell?_alloc_new]) (by simp [World.cell?_alloc_new]) hk1 hk2).mono ?_
      rintro e w1 ⟨rfl, q, rfl⟩
      go_wp2_with fail
      go_roundw
      case rel => exact ⟨i + 1, by omega, congrArg (Value.int .i64) (by have := HZ.out; omega), by go_num, belowDN L1.out q⟩
      case measure => simp [intOf]; omega
    · go_wp2_with fail
      go_ret
      obtain rfl : i = es.length := by omega
      rw [List.take_length]
      exact ⟨rfl, HW.out⟩

end Go.Proofs.YbulkeekaGreatFmt
