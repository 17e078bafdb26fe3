/-
  FRAMES AND BLOCKS: small laws on worlds, over any program: 'But S w w'': w' is w, with new blocks, and with writes to blocks of S alone; 'Blk w g L t': block g of w is whole the cells L, of element type t, not frozen.
-/
import Derived.WalkKit
import Derived.Laws.CopyOwn
import Derived.Maps.AppendAt
import Derived.RegionTactic
namespace Go.Proofs.YbulkeekaGreatFmt
open Go.RowKit

structure But (S : Nat → Prop) (w w' : World) : Prop where
  os : w'.os = w.os
  tape : w'.tape = w.tape
  output : w'.output = w.output
  size : w.heap.size ≤ w'.heap.size
  block : ∀ k, k < w.heap.size → ¬ S k → w'.heap[k]? = w.heap[k]?

section
variable {S : Nat → Prop} {a w w' : World}

theorem But.refl (S : Nat → Prop) (w : World) : But S w w := ⟨rfl, rfl, rfl, Nat.le_refl _, fun _ _ _ => rfl⟩

theorem But.trans {b c : World} (h : But S a b) (k : But S b c) : But S a c :=
  ⟨k.os.trans h.os, k.tape.trans h.tape, k.output.trans h.output, Nat.le_trans h.size k.size, fun i hi hs => (k.block i (Nat.lt_of_lt_of_le hi h.size) hs).trans (h.block i hi hs)⟩

theorem But.mono {T : Nat → Prop} (h : But S w w') (hT : ∀ k, k < w.heap.size → S k → T k) : But T w w' :=
  ⟨h.os, h.tape, h.output, h.size, fun k hk hs => h.block k hk (fun hS => hs (hT k hk hS))⟩

theorem But.drew (h : But S a w) : But S a w.drew := ⟨h.os, h.tape, h.output, h.size, h.block⟩

theorem But.alloc (h : But S a w) (o : Obj) : But S a (w.alloc o) :=
  h.trans ⟨rfl, rfl, rfl, by simp, fun k hk _ => Below.heap_alloc _ _ _ hk⟩

/-- a store into a block that is new since 'a', or one of S -/
theorem But.setCell (h : But S a w) {p : Addr} (hp : a.heap.size ≤ p.block ∨ S p.block) (u : Value) : But S a (w.setCell p u) :=
  ⟨h.os, h.tape, h.output, by simpa using h.size, fun k hk hs => (Below.heap_setCell _ _ _ _ (by
    rintro rfl
    rcases hp with hp | hp
    · omega
    · exact hs hp)).trans (h.block k hk hs)⟩

theorem But.of_below {B : Nat} (h : Below B w w') (hB : ∀ k, k < w.heap.size → B ≤ k → S k) : But S w w' :=
  ⟨h.os, h.tape, h.output, h.size, fun k hk hs => h.block k (by
    rcases Nat.lt_or_ge k B with g | g
    · exact g
    · exact absurd (hB k hk g) hs)⟩

theorem But.of_below' (h : Below w.heap.size w w') : But S w w' := But.of_below h (fun _ h1 h2 => absurd h1 (by omega))

theorem But.below (h : But S w w') {B : Nat} (hS : ∀ k, S k → B ≤ k) (hB : B ≤ w.heap.size) : Below B w w' :=
  ⟨h.os, h.tape, h.output, h.size, fun k hk => h.block k (by omega) (fun hs => by have := hS k hs; omega)⟩

theorem But.of_grown {row : Option Nat} (h : w.grownBy w' row) (hr : ∀ k, row = some k → S k) : But S w w' :=
  ⟨h.os, h.tape, h.output, h.size, fun k hk hs => h.block k hk (fun e => hs (hr k e.symm))⟩

theorem But.cell (h : But S w w') {p : Addr} {v : Value} (hs : ¬ S p.block) (hc : w.cell? p = some v) : w'.cell? p = some v :=
  (World.cell?_of_block (h.block p.block (World.block_lt_of_cell? w p hc) hs)).trans hc
end

/-- Block g of w is whole the cells L, of element type t, not frozen. (A definition of its own, so that a walk takes it for no rule.) -/
def Blk (w : World) (g : Nat) (L : List Value) (t : TypeId) : Prop := w.heap[g]? = some (.cells L.toArray t (0, 0))

section
variable {w w' : World} {g : Nat} {L : List Value} {t : TypeId}

theorem Blk.lt (h : Blk w g L t) : g < w.heap.size := (Array.getElem?_eq_some_iff.1 h).1

theorem Blk.cell (h : Blk w g L t) {j : Nat} {v : Value} (hv : L[j]? = some v) : w.cell? ⟨g, j, none⟩ = some v := by
  rw [cell_of_row w g j _ t _ h]; simpa using hv

theorem Blk.cell' (h : Blk w g L t) (j : Nat) : w.cell? ⟨g, j, none⟩ = L[j]? := by
  rw [cell_of_row w g j _ t _ h]; simp

theorem Blk.frozen (h : Blk w g L t) (j : Nat) : w.frozen? ⟨g, j, none⟩ = false := frozen_of_row w g j _ t h

theorem Blk.drew (h : Blk w g L t) : Blk w.drew g L t := h

theorem Blk.alloc (h : Blk w g L t) (o : Obj) : Blk (w.alloc o) g L t := by
  have := Below.heap_alloc w o g h.lt
  unfold Blk at *; rw [this]; exact h

theorem Blk.new (w : World) (L : List Value) (t : TypeId) : Blk (w.alloc (.cells L.toArray t)) w.heap.size L t := heap_alloc_new w _

theorem Blk.set (h : Blk w g L t) (j : Nat) (v : Value) : Blk (w.setCell ⟨g, j, none⟩ v) g (L.set j v) t := by
  have hlt := h.lt
  have hv : w.heap[g] = .cells L.toArray t (0, 0) := (Array.getElem?_eq_some_iff.1 h).2
  unfold Blk World.setCell
  rw [Array.getElem?_eq_getElem (by simpa using hlt), Array.getElem_modify]
  simp [hv]

theorem Blk.other (h : Blk w g L t) {p : Addr} (hp : g ≠ p.block) (v : Value) : Blk (w.setCell p v) g L t := by
  unfold Blk at *; rw [Below.heap_setCell _ _ _ _ hp]; exact h

theorem Blk.but {S : Nat → Prop} (h : Blk w g L t) (hb : But S w w') (hs : ¬ S g) : Blk w' g L t := by
  have := hb.block g h.lt hs
  unfold Blk at *; rw [this]; exact h

theorem Blk.below {B : Nat} (h : Blk w g L t) (hb : Below B w w') (hg : g < B) : Blk w' g L t := by
  have := hb.block g hg
  unfold Blk at *; rw [this]; exact h

theorem Blk.owns (h : Blk w g L t) {base n : Nat} (hb : base ≤ g) (hn : L.length = n) (hm : n ≤ maxLen) : w.ownsRow base t 1 (.slice (some ⟨g, 0, none⟩) n n) n L :=
  ⟨by omega, .inr ⟨g, n, L.toArray, rfl, hb, h, Nat.le_refl _, hm, by simp [hn], by simp [← hn]⟩⟩
end

/-- a made row, whole -/
theorem blk_of_made {w' : World} {base g n cap : Nat} {t : TypeId} {xs : List Value} (h : w'.ownsRow base t 1 (.slice (some ⟨g, 0, none⟩) n cap) n xs) (hc : n = cap) : Blk w' g xs t := by
  subst hc
  rcases h.2 with ⟨h1, _⟩ | ⟨g', cap', cur, hv, _, hh, _, _, hs, ht⟩
  · cases h1
  · simp only [Value.slice.injEq, Option.some.injEq, Addr.mk.injEq] at hv
    obtain ⟨⟨rfl, _⟩, _, rfl⟩ := hv
    unfold Blk
    rw [hh, ← ht]
    simp [hs, List.take_of_length_le]

theorem But.setRow {S : Nat → Prop} {a w : World} (h : But S a w) {g : Nat} (hp : a.heap.size ≤ g ∨ S g) (cs : Array Value) : But S a (w.setRow g cs) :=
  ⟨h.os, h.tape, h.output, by simpa [World.setRow] using h.size, fun k hk hs => (setRow_other w g k cs (by
    rintro rfl
    rcases hp with hp | hp
    · omega
    · exact hs hp)).trans (h.block k hk hs)⟩

/-- 'copy(dst, src)', both of n elements of one cell, dst a row known whole -/
theorem copy_run {P : Program} {w : World} {T e ty : TypeId} (hu : P.underlying T = some (.slice e)) (hsz : (P.info? e).map (·.size) = some 1) {g n sCap : Nat} {L cs : List Value} (hB : Blk w g L e)
    (hL : L.length = n) (hn : cs.length = n) {src : Option Addr} (hsrc : ∀ j v, cs[j]? = some v → ∃ ad, src = some ad ∧ w.cell? (ad.add j) = some v) (h1 : ∀ v ∈ cs, v.oneCell' = true) :
    ∃ w', (Builtin.copy_ #[T, T] ty #[.slice (some ⟨g, 0, none⟩) n n, .slice src n sCap]).run P w = .ok (goInt n) w' ∧ Blk w' g cs e ∧ But (fun k => k = g) w w' := by
  by_cases h0 : n = 0
  · subst h0
    refine ⟨w, run_copy_none (P := P) w T T ty e _ _ 0 0 0 sCap hu hsz rfl, ?_, But.refl _ _⟩
    obtain rfl := List.eq_nil_of_length_eq_zero hL
    obtain rfl := List.eq_nil_of_length_eq_zero hn
    exact hB
  · obtain ⟨ad, rfl, _⟩ := hsrc 0 (cs[0]'(by omega)) (List.getElem?_eq_getElem (by omega))
    have hr := run_copy_row (P := P) w T T ty e g 0 n n ad n sCap L.toArray e cs hu hsz hB (by simp [hn]) (fun j v hv => by obtain ⟨ad', e', h'⟩ := hsrc j v hv; cases e'; exact h') (by simp; omega) h1
    refine ⟨_, by rw [hr, hn], ?_, (But.refl (fun k => k = g) w).setRow (Or.inr rfl) _⟩
    have := setRow_heap w g _ (([] : List Value) ++ (cs ++ L.drop (0 + cs.length))).toArray e (0, 0) hB
    simpa [Blk, hn, ← hL] using this

/-- the cells xs lie from the address on (none: xs is empty) -/
def Rd (w : World) (ao : Option Addr) (xs : List Value) : Prop := ∀ j u, xs[j]? = some u → ∃ ad, ao = some ad ∧ w.cell? (ad.add j) = some u

theorem Rd.nil (w : World) (ao : Option Addr) : Rd w ao [] := fun j u h => by simp at h

theorem Rd.below {w w' : World} {B : Nat} {ao : Option Addr} {xs : List Value} (h : Rd w ao xs) (hb : Below B w w') (hB : w.heap.size ≤ B) : Rd w' ao xs := fun j u hu => by
  obtain ⟨ad, ha, hc⟩ := h j u hu
  exact ⟨ad, ha, (hb.cell (Nat.lt_of_lt_of_le (World.block_lt_of_cell? w _ hc) hB)).trans hc⟩

theorem addr_block (a : Addr) (j : Nat) : (a.add j).block = a.block := by unfold Addr.add; split <;> rfl

theorem Rd.but {S : Nat → Prop} {w w' : World} {ao : Option Addr} {xs : List Value} (h : Rd w ao xs) (hb : But S w w') (hs : ∀ ad, ao = some ad → ¬ S ad.block) : Rd w' ao xs := fun j u hu => by
  obtain ⟨ad, ha, hc⟩ := h j u hu
  exact ⟨ad, ha, hb.cell (by rw [addr_block]; exact hs ad ha) hc⟩

theorem Rd.of_blk {w : World} {g : Nat} {L : List Value} {t : TypeId} (h : Blk w g L t) (o n : Nat) : Rd w (some ⟨g, o, none⟩) ((L.drop o).take n) := fun j u hu => by
  refine ⟨_, rfl, ?_⟩
  rw [Addr.add_lit]
  refine h.cell ?_
  rw [List.getElem?_take] at hu
  split at hu
  · rw [List.getElem?_drop] at hu; exact hu
  · cases hu

/-- what a value that owns xs looks like -/
theorem owns_form {w : World} {base : Nat} {e : TypeId} {v : Value} {n : Nat} {xs : List Value} (h : w.ownsRow base e 1 v n xs) :
    ∃ ao cap, v = .slice ao n cap ∧ n ≤ cap ∧ cap ≤ maxLen ∧ Rd w ao xs ∧ (ao = none → n = 0 ∧ cap = 0) ∧ (∀ ad, ao = some ad → ad = ⟨ad.block, 0, none⟩ ∧ base ≤ ad.block ∧ ad.block < w.heap.size ∧ v.ownBlock = some ad.block) := by
  rcases h.2 with ⟨rfl, rfl⟩ | ⟨g, cap, cur, rfl, hb, hg, hnc, hm, hs, ht⟩
  · refine ⟨none, 0, rfl, Nat.le_refl _, by unfold maxLen; omega, ?_, fun _ => ⟨rfl, rfl⟩, fun ad h => by cases h⟩
    have : xs = [] := List.eq_nil_of_length_eq_zero (by simpa using h.1)
    subst this; exact Rd.nil _ _
  · refine ⟨some ⟨g, 0, none⟩, cap, rfl, hnc, hm, fun j u hu => ⟨_, rfl, h.cells rfl j u hu⟩, (fun h => by cases h), (fun ad h => by cases h; exact ⟨rfl, hb, (Array.getElem?_eq_some_iff.1 hg).1, rfl⟩)⟩

/-- an append onto a value that owns its row, as a run -/
theorem append_run {P : Program} {w : World} {T ty e : TypeId} {i : TypeInfo} {z : Value} {bytes : Nat} (ht : P.underlying T = some (.slice e)) (hi : P.info? e = some i) (hz : i.zero = some z) (hsize : i.size = 1) (hby : i.bytes = bytes) (hzs : z.cells.size = 1)
    {v : Value} {n m c : Nat} {xs news : List Value} {ao : Option Addr} (hown : w.ownsRow 0 e 1 v n xs) (hl : news.length = m) (hsrc : Rd w ao news) (hnone : ao = none → m = 0 ∧ c = 0) (h1 : ∀ u ∈ news, u.oneCell' = true)
    (h63 : n + m ≤ maxLen) (hbytes : (n + m) * bytes ≤ 140737488355328) :
    ∃ v' w', (Builtin.append_ #[T, T] ty #[v, .slice ao m c]).run P w = .ok v' w' ∧ w'.ownsRow 0 e 1 v' (n + m) (xs ++ news) ∧ w.grownBy w' v.ownBlock ∧ (v'.ownBlock = v.ownBlock ∨ v'.ownBlock = some w.heap.size) := by
  cases ao with
  | none =>
    obtain ⟨rfl, rfl⟩ := hnone rfl
    obtain rfl := List.eq_nil_of_length_eq_zero hl
    exact ⟨v, w, run_append_owned_none (P := P) w 0 T ty e i 1 ht hi v n xs hown, by simpa using hown, World.grownBy.refl _ _, Or.inl rfl⟩
  | some ad =>
    obtain ⟨v', w', h2, h3, h4, _, h5⟩ := run_append_own_at (P := P) w 0 T ty e i z 1 bytes ht hi hz hsize hby hzs (by decide) v n xs hown ad m c news (by simpa using hl)
      (fun j u hu => by obtain ⟨ad', e', h'⟩ := hsrc j u hu; cases e'; exact h') h1 h63 hbytes (Nat.zero_le _)
    exact ⟨v', w', h2, h3, h4, h5⟩

/-- a value that owns its row keeps it where its block is not written -/
theorem owns_but {S : Nat → Prop} {w w' : World} {base : Nat} {e : TypeId} {v : Value} {n : Nat} {xs : List Value} (h : w.ownsRow base e 1 v n xs) (hb : But S w w') (hs : ∀ k, v.ownBlock = some k → ¬ S k) : w'.ownsRow base e 1 v n xs := by
  refine ⟨h.1, ?_⟩
  rcases h.2 with h0 | ⟨g, cap, cur, rfl, h1, hg, r⟩
  · exact Or.inl h0
  · exact Or.inr ⟨g, cap, cur, rfl, h1, (hb.block g (Array.getElem?_eq_some_iff.1 hg).1 (hs g rfl)).trans hg, r⟩

theorem ints_one (k : IntKind) (zs : List Int) : ∀ u ∈ zs.map (Value.int k), u.oneCell' = true := ints_oneCell k zs

/-- an append by its run's equation, at the list of a plain region's operations -/
theorem wpList_append_by {P : Program} {w : World} {ops : Array Oper} {rest : List Oper} {o : Oper} {a : Act} {Q : Exit → Act → World → Prop} (hgd : o.guard = none) (s x : Operand) (t : TypeId)
    (ho : o.op = .call { callee := .builtin .append, args := #[s, x], argTypes := #[t, t] }) (v u : Value) (hs : a.eval s = v) (hx : a.eval x = u) {v' : Value} {w' : World}
    (hrun : (Builtin.append_ #[t, t] o.type #[v, u]).run P w = .ok v' w') (h : wpList P ops Q rest (a.put o.dst v') w') : wpList P ops Q (o :: rest) a w := by
  refine wpList_plain hgd fun K hK => ?_
  unfold Oper.wp execOp
  simp only [ho, resolve, invoke, builtin, Sem.run_bind, Sem.run_pure, Result.andThen_ok, List.map_toArray, List.map_cons, List.map_nil, hs, hx, hrun]
  exact hK _ _ h

/-- the same as one step of a region that draws its order -/
theorem step_append_by {P : Program} {w : World} {ops : Array Oper} {o : Oper} {a : Act} {K : Act → World → Prop} {Q : Exit → Act → World → Prop} {E : Prop} (hgd : o.guard = none) (s x : Operand) (t : TypeId)
    (ho : o.op = .call { callee := .builtin .append, args := #[s, x], argTypes := #[t, t] }) (v u : Value) (hs : a.eval s = v) (hx : a.eval x = u) {v' : Value} {w' : World}
    (hrun : (Builtin.append_ #[t, t] o.type #[v, u]).run P w = .ok v' w') (h : K (a.put o.dst v') w') :
    if Region.wanted o (yielded ops a.tmps) = true then Oper.wp P o a w K Q else E := by
  have hw : Region.wanted o (yielded ops a.tmps) = true := by simp [Region.wanted, hgd]
  rw [if_pos hw]
  unfold Oper.wp execOp
  simp only [ho, resolve, invoke, builtin, Sem.run_bind, Sem.run_pure, Result.andThen_ok, List.map_toArray, List.map_cons, List.map_nil, hs, hx, hrun]
  exact h

end Go.Proofs.YbulkeekaGreatFmt
