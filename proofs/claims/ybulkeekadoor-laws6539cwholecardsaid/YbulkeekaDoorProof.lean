/-
  THE PROOF OF 'Rows.LawS6539CWholeCardSaid': the row's step over the walk, and the tied card.
-/
import Derived.Test.YbulkeekaDoorCards
import Derived.Test.YbulkeekaDoorTie
import Derived.Test.YbulkeekaDoorWalks
import Derived.ProofKit
import Derived.LaidMore
import Derived.OpenShut
import Derived.Carry
import Derived.Stop.Joined
import Derived.SevenTiedAt
namespace Go.Proofs.YbulkeekaDoor
open Go.ChangeShapes Go.WideShapes Go.ChangeAt Go.RowKit

theorem own : ownKnob Ybad.prog.godebug = none := by kernel_rfl
theorem laidOut : laidOutB Ybad.prog = true := by kernel_rfl
theorem cells5 : Ybad.prog.cellsOf 5 = 1 := by kernel_rfl

/-- below the heap's old size nothing has turned: so all arguments read as they did, through the same places -/
theorem below_trodAll {H : Type} {enc : TypeId × Value → H} {P : Program} (hl : laidOutB P = true) {W W' : World} (hb : Below W.heap.size W W') :
    ∀ (ts : List TypeId) {vs : List Value} {ds : List (DataW H)} {ps : List MemPlace}, (∀ t ∈ ts, P.readableRec t = true ∧ t < P.types.size) → DataW.TrodAll enc P W 0 (fun _ => true) true ts vs ds ps →
      (∀ x ∈ ps, x.block < W.heap.size) → DataW.TrodAll enc P W' 0 (fun b => decide (b < W.heap.size)) true ts vs ds ps
  | [], vs, ds, ps, _, h, _ => by
    obtain ⟨rfl, rfl, rfl⟩ := trodAll_nil h
    exact h
  | t :: ts, vs, ds, ps, hr, h, hlt => by
    obtain ⟨v, vs', d, ds', p, q, rfl, rfl, rfl, h1, h2⟩ := trodAll_cons h
    exact trodAll_cons_mk (Below.trod hl (hr t (by simp)).1 (hr t (by simp)).2 h1 hb (fun x hx => hlt x (by simp [hx]))) (below_trodAll hl hb ts (fun u hu => hr u (by simp [hu])) h2 (fun x hx => hlt x (by simp [hx])))

theorem readable : ∀ t ∈ ([22, 22, 4] : List TypeId), Ybad.prog.readableRec t = true ∧ t < Ybad.prog.types.size := by
  have h : (([22, 22, 4] : List TypeId).all fun t => Ybad.prog.readableRec t && decide (t < Ybad.prog.types.size)) = true := by kernel_rfl
  intro t ht
  have := List.all_eq_true.1 h t ht
  simpa using this

/-- The door's own heap meets the condition. -/
theorem door_met (os : Os) (args : Array Value) : laidMetH Ybad.prog Rows.lawS6539CWholeRow.laid ((World.doorLaid Ybad.prog 28 os).forCall (fun _ _ => 0) ⟨#[], args, []⟩).memory :=
  laidMetH_of_parts3 (fuel := 8) (laidMet_of_run' 8 (by kernel_rfl) (by kernel_rfl)) (by kernel_rfl) (by kernel_rfl)

/-- a slice of bytes that came in, opened -/
theorem open_bytes {H : Type} {enc : TypeId × Value → H} {W : World} {fuel : Nat} {a0 : Option Addr} {len cap : Nat} {x : DataW H × List MemPlace} (hf : DataW.trod enc Ybad.prog W 0 (fun _ => true) true fuel 22 [.slice a0 len cap] = some x) :
    ∃ xs : List Int, Rd W a0 (xs.map (Value.int .u8)) ∧ xs.length = len ∧ len ≤ cap ∧ (a0 = none → len = 0 ∧ cap = 0) ∧ ∀ y ∈ xs, 0 ≤ y ∧ y < 256 := by
  rcases open_ints Ybad.underlying22 Ybad.underlying5 cells5 hf with ⟨hcs, _⟩ | ⟨a, len', cap', zs, hcs, _, hl, _, hz, _, hc, hw⟩
  · simp at hcs
    obtain ⟨rfl, rfl, rfl⟩ := hcs
    exact ⟨[], Rd.nil _ _, rfl, Nat.le_refl _, fun _ => ⟨rfl, rfl⟩, fun y h => by simp at h⟩
  · simp at hcs
    obtain ⟨rfl, rfl, rfl⟩ := hcs
    simp at hz
    refine ⟨zs.take len, fun j u hu => ⟨a, rfl, ?_⟩, by simp; omega, hl, (fun h => by cases h), fun y hy => ?_⟩
    · rw [List.getElem?_map] at hu
      obtain ⟨y, hy, rfl⟩ := Option.map_eq_some_iff.1 hu
      have hj : j < len := by
        have := (List.getElem?_eq_some_iff.1 hy).1
        simp at this; omega
      rw [hc j (by omega)]
      rw [List.getElem?_take_of_lt hj] at hy
      simp [List.getD, hy]
    · have := bounds_u8 (hw y (List.mem_of_mem_take hy))
      omega

set_option maxRecDepth 100000 in
theorem lifted (os : Os) (started : os.Started) (H : Type) (enc : TypeId × Value → H) :
    ReturnsInHanded {} Ybad.checked os 3 .any (fun w args => (Rows.lawS6539CWholeSpec.pre enc Ybad.prog Ybad.f3 [] false w args ∧ laidMetH Ybad.prog Rows.lawS6539CWholeRow.laid w) ∧ sizedMet enc Ybad.prog Ybad.f3 (OpenSpec.ofChange Rows.lawS6539CWholeSpec) false w args)
      (Rows.lawS6539CWholeSpec.post enc Ybad.prog Ybad.f3 false true false false) := by
  refine returnsInHanded_of_change_and (C := Ybad.checked) (X := fun w _ => laidMetH Ybad.prog Rows.lawS6539CWholeRow.laid w) (fun _ _ _ hh h => h.of_heap hh) own started (by kernel_rfl) Ybad.func3
    (ChangeSpec.witness_shaped (enc := enc) (C := Ybad.checked) (os := os) (X := fun w _ => laidMetH Ybad.prog Rows.lawS6539CWholeRow.laid w) false (World.doorLaid Ybad.prog 28 os) #[.slice none 0 0, .slice none 0 0, .bool false] 8 rfl (World.shaped_of_RefB (by kernel_rfl) (by kernel_rfl)) (by kernel_rfl) (by kernel_rfl) (by kernel_rfl) (door_met os _)) ?_
  intro W base args ds gs before hval0 hW _ _ _ _
  have hval : ∀ (j : Nat) t v, Ybad.f3.params[j]? = some t → args[j]? = some v → Value.okWide Ybad.prog W .any base t v := hval0
  have hW' := hW
  obtain ⟨p, q, hA0, hV, rfl, _, _⟩ := hW
  have hA : DataW.TrodAll enc Ybad.prog W 0 (fun _ => true) true Ybad.f3.params.toList args.toList ds p := hA0
  rw [Ybad.params3] at hA hval
  have hAk := hA
  obtain ⟨v0, vs0, d0, ds0, p0, q0, hargs, rfl, rfl, h0, r0⟩ := trodAll_cons hA
  obtain ⟨v1, vs1, d1, ds1, p1, q1, rfl, rfl, rfl, h1, r1⟩ := trodAll_cons r0
  obtain ⟨v2, vs2, d2, ds2, p2, q2, rfl, rfl, rfl, h2, r2⟩ := trodAll_cons r1
  obtain ⟨rfl, rfl, rfl⟩ := trodAll_nil r2
  obtain rfl : args = #[v0, v1, v2] := by cases args; simp_all
  obtain ⟨rfl, rfl⟩ := trodVars_none hV
  simp only [List.append_nil] at hW' hAk
  have hlt : ∀ x ∈ p0 ++ (p1 ++ p2), x.block < W.heap.size := fun x hx => by simpa using hW'.lt x hx
  obtain ⟨fail, rfl, rfl, rfl⟩ := open_bool Ybad.underlying4 (hval 2 4 v2 rfl rfl) h2
  obtain ⟨ka, kn, kc, rfl⟩ := okWide_slice Ybad.underlying22 (hval 0 22 v0 rfl rfl)
  obtain ⟨va, vn, vc, rfl⟩ := okWide_slice Ybad.underlying22 (hval 1 22 v1 rfl rfl)
  obtain ⟨fuel0, hf0⟩ := h0
  obtain ⟨fuel1, hf1⟩ := h1
  clear hA0 hval0
  have hwalk : Calls Ybad.prog 3 #[.slice ka kn kc, .slice va vn vc, .bool fail] W fun e w' => e = .returned (.bool true) ∧ Below W.heap.size W w' := by
    obtain ⟨key, k1, k2, k3, k4, k5⟩ := open_bytes hf0
    obtain ⟨value, u1, u2, u3, u4, u5⟩ := open_bytes hf1
    by_cases hl : 1048576 < kn ∨ 1048576 < vn
    · exact law_long ka va kn kc vn vc fail W hl
    · exact law_main ka va kn kc vn vc key value fail W (by omega) (by omega) k1 k2 k3 k4 k5 u1 u2 u3 u4 u5
  refine hwalk.mono fun e W' ⟨he, hn⟩ => ?_
  subst he
  refine ⟨_, rfl, _, _, _, [], p0 ++ (p1 ++ ([] ++ [])), [], hW', ?_, ?_, rfl, hn.frame _, fun h => by cases h⟩
  · exact trodAll_cons_mk (shut_bool Ybad.underlying4 true) trodAll_mk0
  · have := below_trodAll laidOut hn [22, 22, 4] readable hAk hlt
    exact this

theorem rowHolds : Rows.LawS6539CWholeSaid :=
  OpenClaim.holds_of_wide 3 Ybad.f3 rfl rfl rfl rfl rfl rfl rfl ⟨rfl, rfl, rfl, rfl, rfl⟩ rfl rfl rfl rfl rfl (by kernel_rfl) Ybad.func3 (by kernel_rfl)
    (of_decide_eq_true (by kernel_rfl)) (by unfold Func.isWrapper; first | (rw [if_pos (by decide +kernel)]; kernel_rfl) | (rw [if_neg (by decide +kernel)]; exact ⟨rfl, rfl⟩))
    (fun os started H enc _ => lifted os started H enc)

theorem proved : Rows.LawS6539CWholeCardSaid :=
  Claim7.holds_tied_plain_at .later [] [.sentinel] true (true, "60ac2ceeb5283ae56cc3294f12f9cb1be1d770b9185ab7fe712d1b7ed39f37d5") true
    rowHolds (fun _ h => by cases h) (by kernel_rfl) (fun _ h => by cases h) lawS6539CWhole_row_tie rfl ⟨rfl, rfl⟩ (by kernel_rfl) rfl
    (fun f fn hf hfn => by
      obtain rfl : f = 3 := Option.some.inj ((show Ybad.prog.funcNamed Rows.lawS6539CWholeRow.func = some 3 by kernel_rfl).symm.trans hf) |>.symm
      obtain rfl : fn = Ybad.f3 := (Option.some.inj (Ybad.func3.symm.trans hfn)).symm
      exact ⟨by kernel_rfl, fun j t ht => by
        rw [Ybad.params3] at ht
        have hm : t ∈ [22, 22, 4] := by simpa using Array.mem_of_getElem? ht
        have hall : ([22, 22, 4].all fun u => !Ybad.prog.wantsStandIn u) = true := by kernel_rfl
        exact (show Ybad.prog.wantsStandIn t = false by simpa using List.all_eq_true.1 hall t hm)⟩)
    (by kernel_rfl)
#print axioms proved
end Go.Proofs.YbulkeekaDoor
