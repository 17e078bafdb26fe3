/-
  FRAMES AND BLOCKS: small laws on worlds, over any program: 'But S w w'': w' is w, with new blocks, and with writes to blocks of S alone; 'Blk w g L t': block g of w is whole the cells L, of element type t, not frozen.
-/
import Derived.WalkKit
import Derived.Laws.CopyOwn
namespace Go.Proofs.YbulkeekaFmt
open Go.RowKit

structure But (S : Nat → Prop) (w w' : World) : Prop where
  os : w'.os = w.os
  tape : w'.tape = w.tape
  output : w'.output = w.output
  size : w.heap.size ≤ w'.heap.size
  block : ∀ k, k < w.heap.size → ¬ S k → w'.heap[k]? = w.heap[k]?

section
variable {S : Nat → Prop} {a w w' : World}

theorem But.refl (S : Nat → Prop) (w : World) : But S w w := ⟨rfl, rfl, rfl, Nat.le_refl _, fun _ _ _ => rfl⟩

theorem But.trans {b c : World} (h : But S a b) (k : But S b c) : But S a c :=
  ⟨k.os.trans h.os, k.tape.trans h.tape, k.output.trans h.output, Nat.le_trans h.size k.size, fun i hi hs => (k.block i (Nat.lt_of_lt_of_le hi h.size) hs).trans (h.block i hi hs)⟩

theorem But.mono {T : Nat → Prop} (h : But S w w') (hT : ∀ k, k < w.heap.size → S k → T k) : But T w w' :=
  ⟨h.os, h.tape, h.output, h.size, fun k hk hs => h.block k hk (fun hS => hs (hT k hk hS))⟩

theorem But.drew (h : But S a w) : But S a w.drew := ⟨h.os, h.tape, h.output, h.size, h.block⟩

theorem But.alloc (h : But S a w) (o : Obj) : But S a (w.alloc o) :=
  h.trans ⟨rfl, rfl, rfl, by simp, fun k hk _ => Below.heap_alloc _ _ _ hk⟩

/-- a store into a block that is new since 'a', or one of S -/
theorem But.setCell (h : But S a w) {p : Addr} (hp : a.heap.size ≤ p.block ∨ S p.block) (u : Value) : But S a (w.setCell p u) :=
  ⟨h.os, h.tape, h.output, by simpa using h.size, fun k hk hs => (Below.heap_setCell _ _ _ _ (by
    rintro rfl
    rcases hp with hp | hp
    · omega
    · exact hs hp)).trans (h.block k hk hs)⟩

theorem But.of_below {B : Nat} (h : Below B w w') (hB : ∀ k, k < w.heap.size → B ≤ k → S k) : But S w w' :=
  ⟨h.os, h.tape, h.output, h.size, fun k hk hs => h.block k (by
    rcases Nat.lt_or_ge k B with g | g
    · exact g
    · exact absurd (hB k hk g) hs)⟩

theorem But.of_below' (h : Below w.heap.size w w') : But S w w' := But.of_below h (fun _ h1 h2 => absurd h1 (by omega))

theorem But.below (h : But S w w') {B : Nat} (hS : ∀ k, S k → B ≤ k) (hB : B ≤ w.heap.size) : Below B w w' :=
  ⟨h.os, h.tape, h.output, h.size, fun k hk => h.block k (by omega) (fun hs => by have := hS k hs; omega)⟩

theorem But.of_grown {row : Option Nat} (h : w.grownBy w' row) (hr : ∀ k, row = some k → S k) : But S w w' :=
  ⟨h.os, h.tape, h.output, h.size, fun k hk hs => h.block k hk (fun e => hs (hr k e.symm))⟩

theorem But.cell (h : But S w w') {p : Addr} {v : Value} (hs : ¬ S p.block) (hc : w.cell? p = some v) : w'.cell? p = some v :=
  (World.cell?_of_block (h.block p.block (World.block_lt_of_cell? w p hc) hs)).trans hc
end

/-- Block g of w is whole the cells L, of element type t, not frozen. (A definition of its own, so that a walk takes it for no rule.) -/
def Blk (w : World) (g : Nat) (L : List Value) (t : TypeId) : Prop := w.heap[g]? = some (.cells L.toArray t (0, 0))

section
variable {w w' : World} {g : Nat} {L : List Value} {t : TypeId}

theorem Blk.lt (h : Blk w g L t) : g < w.heap.size := (Array.getElem?_eq_some_iff.1 h).1

theorem Blk.cell (h : Blk w g L t) {j : Nat} {v : Value} (hv : L[j]? = some v) : w.cell? ⟨g, j, none⟩ = some v := by
  rw [cell_of_row w g j _ t _ h]; simpa using hv

theorem Blk.cell' (h : Blk w g L t) (j : Nat) : w.cell? ⟨g, j, none⟩ = L[j]? := by
  rw [cell_of_row w g j _ t _ h]; simp

theorem Blk.frozen (h : Blk w g L t) (j : Nat) : w.frozen? ⟨g, j, none⟩ = false := frozen_of_row w g j _ t h

theorem Blk.drew (h : Blk w g L t) : Blk w.drew g L t := h

theorem Blk.alloc (h : Blk w g L t) (o : Obj) : Blk (w.alloc o) g L t := by
  have := Below.heap_alloc w o g h.lt
  unfold Blk at *; rw [this]; exact h

theorem Blk.new (w : World) (L : List Value) (t : TypeId) : Blk (w.alloc (.cells L.toArray t)) w.heap.size L t := heap_alloc_new w _

theorem Blk.set (h : Blk w g L t) (j : Nat) (v : Value) : Blk (w.setCell ⟨g, j, none⟩ v) g (L.set j v) t := by
  have hlt := h.lt
  have hv : w.heap[g] = .cells L.toArray t (0, 0) := (Array.getElem?_eq_some_iff.1 h).2
  unfold Blk World.setCell
  rw [Array.getElem?_eq_getElem (by simpa using hlt), Array.getElem_modify]
  simp [hv]

theorem Blk.other (h : Blk w g L t) {p : Addr} (hp : g ≠ p.block) (v : Value) : Blk (w.setCell p v) g L t := by
  unfold Blk at *; rw [Below.heap_setCell _ _ _ _ hp]; exact h

theorem Blk.but {S : Nat → Prop} (h : Blk w g L t) (hb : But S w w') (hs : ¬ S g) : Blk w' g L t := by
  have := hb.block g h.lt hs
  unfold Blk at *; rw [this]; exact h

theorem Blk.below {B : Nat} (h : Blk w g L t) (hb : Below B w w') (hg : g < B) : Blk w' g L t := by
  have := hb.block g hg
  unfold Blk at *; rw [this]; exact h

theorem Blk.owns (h : Blk w g L t) {base n : Nat} (hb : base ≤ g) (hn : L.length = n) (hm : n ≤ maxLen) : w.ownsRow base t 1 (.slice (some ⟨g, 0, none⟩) n n) n L :=
  ⟨by omega, .inr ⟨g, n, L.toArray, rfl, hb, h, Nat.le_refl _, hm, by simp [hn], by simp [← hn]⟩⟩
end

/-- a made row, whole -/
theorem blk_of_made {w' : World} {base g n cap : Nat} {t : TypeId} {xs : List Value} (h : w'.ownsRow base t 1 (.slice (some ⟨g, 0, none⟩) n cap) n xs) (hc : n = cap) : Blk w' g xs t := by
  subst hc
  rcases h.2 with ⟨h1, _⟩ | ⟨g', cap', cur, hv, _, hh, _, _, hs, ht⟩
  · cases h1
  · simp only [Value.slice.injEq, Option.some.injEq, Addr.mk.injEq] at hv
    obtain ⟨⟨rfl, _⟩, _, rfl⟩ := hv
    unfold Blk
    rw [hh, ← ht]
    simp [hs, List.take_of_length_le]

theorem But.setRow {S : Nat → Prop} {a w : World} (h : But S a w) {g : Nat} (hp : a.heap.size ≤ g ∨ S g) (cs : Array Value) : But S a (w.setRow g cs) :=
  ⟨h.os, h.tape, h.output, by simpa [World.setRow] using h.size, fun k hk hs => (setRow_other w g k cs (by
    rintro rfl
    rcases hp with hp | hp
    · omega
    · exact hs hp)).trans (h.block k hk hs)⟩

/-- 'copy(dst, src)', both of n elements of one cell, dst a row known whole -/
theorem copy_run {P : Program} {w : World} {T e ty : TypeId} (hu : P.underlying T = some (.slice e)) (hsz : (P.info? e).map (·.size) = some 1) {g n sCap : Nat} {L cs : List Value} (hB : Blk w g L e)
    (hL : L.length = n) (hn : cs.length = n) {src : Option Addr} (hsrc : ∀ j v, cs[j]? = some v → ∃ ad, src = some ad ∧ w.cell? (ad.add j) = some v) (h1 : ∀ v ∈ cs, v.oneCell' = true) :
    ∃ w', (Builtin.copy_ #[T, T] ty #[.slice (some ⟨g, 0, none⟩) n n, .slice src n sCap]).run P w = .ok (goInt n) w' ∧ Blk w' g cs e ∧ But (fun k => k = g) w w' := by
  by_cases h0 : n = 0
  · subst h0
    refine ⟨w, run_copy_none (P := P) w T T ty e _ _ 0 0 0 sCap hu hsz rfl, ?_, But.refl _ _⟩
    obtain rfl := List.eq_nil_of_length_eq_zero hL
    obtain rfl := List.eq_nil_of_length_eq_zero hn
    exact hB
  · obtain ⟨ad, rfl, _⟩ := hsrc 0 (cs[0]'(by omega)) (List.getElem?_eq_getElem (by omega))
    have hr := run_copy_row (P := P) w T T ty e g 0 n n ad n sCap L.toArray e cs hu hsz hB (by simp [hn]) (fun j v hv => by obtain ⟨ad', e', h'⟩ := hsrc j v hv; cases e'; exact h') (by simp; omega) h1
    refine ⟨_, by rw [hr, hn], ?_, (But.refl (fun k => k = g) w).setRow (Or.inr rfl) _⟩
    have := setRow_heap w g _ (([] : List Value) ++ (cs ++ L.drop (0 + cs.length))).toArray e (0, 0) hB
    simpa [Blk, hn, ← hL] using this

end Go.Proofs.YbulkeekaFmt
