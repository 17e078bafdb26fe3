/-
  THE WALKS of (*Tx).free, (*Tx).freeNode.
-/
import Derived.Test.YbulkeekaGreatFmtBkt
namespace Go.Proofs.YbulkeekaGreatFmt
open Go.RowKit
set_option linter.unusedSimpArgs false
set_option linter.unusedVariables false

/-- the pages from id on, j of them -/
def frs (id j : Nat) : List Nat := (List.range j).map (fun i => (id + i) % 18446744073709551616)
theorem frs_succ (id j : Nat) : frs id (j + 1) = frs id j ++ [(id + j) % 18446744073709551616] := by simp [frs, List.range_succ]

/-- a transaction whose freed pages are xs -/
structure TxF (w : World) (tb ps rb : Nat) (fv : Value) (xs : List Nat) : Prop where
  B : Blk w tb (txC ps rb fv) 47
  o : w.ownsRow 0 32 1 fv xs.length (u64s xs)
  n : ∀ k, fv.ownBlock = some k → k ≠ tb

def Fresh (w : World) (v0 v : Value) : Prop := v.ownBlock = v0.ownBlock ∨ ∃ g, v.ownBlock = some g ∧ w.heap.size ≤ g

theorem But.trans2 {S S1 : Nat → Prop} {a b c : World} (h : But S a b) (k : But S1 b c) (hs : ∀ i, i < a.heap.size → S1 i → S i) : But S a c :=
  ⟨k.os.trans h.os, k.tape.trans h.tape, k.output.trans h.output, Nat.le_trans h.size k.size, fun i hi hS => (k.block i (Nat.lt_of_lt_of_le hi h.size) (fun h1 => hS (hs i hi h1))).trans (h.block i hi hS)⟩

set_option maxRecDepth 100000 in
set_option maxHeartbeats 2000000 in
theorem free_any {w : World} {tb ps rb : Nat} {fv : Value} {xs : List Nat} (h : TxF w tb ps rb fv xs) (id ov : Nat) (hid : id < 18446744073709551616) (hov : ov < 8) (hl : xs.length ≤ 2000000) :
    Calls Ybaz.prog 35 #[.pointer (some ⟨tb, 0, none⟩), .int .u64 id, .int .u32 ov] w fun e w' => e = .returned (.tuple #[]) ∧ ∃ fv', TxF w' tb ps rb fv' (xs ++ frs id (ov + 1)) ∧ But (fun k => k = tb ∨ fv.ownBlock = some k) w w' ∧ Fresh w fv fv' := by
  have HH := hide h
  clear h
  go_enter Ybaz.func35, Ybaz.ntmps35
  go_wp2_with fail
  go_loopw [10] (fun iv wr => ∃ (j : Nat) (fv' : Value), j ≤ ov + 1 ∧ iv = .int .u64 (j : Int) ∧ Hid (TxF wr tb ps rb fv' (xs ++ frs id j) ∧ But (fun k => k = tb ∨ fv.ownBlock = some k) w wr ∧ Fresh w fv fv')) (fun iv _ => ov + 1 - (intOf iv).toNat)
  case atStart => exact ⟨0, fv, Nat.zero_le _, rfl, by simpa [frs] using HH.out, But.refl _ _, Or.inl rfl⟩
  case round =>
    obtain ⟨j, fv1, hj, rfl, HW⟩ := hrel
    by_cases hlt : j < ov + 1
    · obtain ⟨ys, hys⟩ : ∃ ys, ys = xs ++ frs id j := ⟨_, rfl⟩
      have hlen : ys.length = xs.length + j := by rw [hys]; simp [frs]
      rw [← hys] at HW
      obtain ⟨a1, c1, hfv, _⟩ := owns_form HW.out.1.o
      subst hfv
      obtain ⟨x, hx⟩ : ∃ x : Nat, x = (id + j) % 18446744073709551616 := ⟨_, rfl⟩
      obtain ⟨v2, w2, hrun, H2⟩ := pushF HW.out.1.B HW.out.1.o HW.out.1.n x (by omega)
      obtain ⟨a2, c2, rfl, _⟩ := owns_form H2.out.2.2.1
      rw [show (ys ++ [x]).length = ys.length + 1 by simp] at hrun H2
      have k11 := HW.out.1.B.cell (j := 11) rfl
      have m11 := H2.out.1.cell (j := 11) rfl
      have f11 := H2.out.1.frozen 11
      have eX : IntKind.u64.wrap ((id : Int) + (j : Int)) = (x : Int) := by rw [IntKind.wrap_u64]; omega
      have NX : Hid (TxF (w2.setCell ⟨tb, 11, none⟩ (.slice a2 (ys.length + 1) c2)) tb ps rb (.slice a2 (ys.length + 1) c2) (xs ++ frs id (j + 1)) ∧ But (fun k => k = tb ∨ fv.ownBlock = some k) w (w2.setCell ⟨tb, 11, none⟩ (.slice a2 (ys.length + 1) c2)) ∧ Fresh w fv (.slice a2 (ys.length + 1) c2)) := by
        obtain ⟨_, t1, t2, t3, t4, t5⟩ := H2.out
        refine ⟨⟨t1, ?_, t3⟩, HW.out.2.1.trans2 t4 (fun i hi h => ?_), ?_⟩
        · rw [frs_succ, ← hx, ← List.append_assoc, ← hys, List.length_append]; exact t2
        · rcases h with h | h
          · exact Or.inl h
          · rcases HW.out.2.2 with h1 | ⟨g, h1, h2⟩
            · exact Or.inr (h1 ▸ h)
            · rw [h1] at h; cases h; omega
        · rcases t5 with h | ⟨g, h1, h2⟩
          · rcases HW.out.2.2 with h1 | ⟨g, h1, h2⟩
            · exact Or.inl (h.trans h1)
            · exact Or.inr ⟨g, h.trans h1, h2⟩
          · exact Or.inr ⟨g, h1, Nat.le_trans HW.out.2.1.size h2⟩
      have HX := hide (And.intro hx hys)
      clear hx hlen hys
      go_wp2_with (at_builtin; refine wpList_append_by rfl (.tmp 17) (.tmp 21) 31 rfl _ _ rfl rfl hrun ?_)
      go_roundw
      case rel => exact ⟨j + 1, _, by omega, by go_num, NX.out⟩
      case measure => simp [intOf]; omega
    · obtain rfl : j = ov + 1 := by omega
      go_wp2_with fail
      go_end0
      exact ⟨rfl, fv1, HW.out⟩

end Go.Proofs.YbulkeekaGreatFmt
