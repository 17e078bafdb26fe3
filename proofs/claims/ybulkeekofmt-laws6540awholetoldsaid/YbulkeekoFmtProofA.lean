/-
  THE PROOF OF 'Rows.LawS6540AWholeToldSaid': the row's step over the walk, and the told card.
-/
import Derived.Test.YbulkeekoFmtOpen
import Derived.Test.YbulkeekoFmtWalksA1
import Derived.Test.YbulkeekoFmtWalksA2
namespace Go.Proofs.YbulkeekoFmt
open Go.ChangeShapes Go.WideShapes Go.ChangeAt Go.RowKit
open Go.Extern.Stop Go.Stop Go.Extern

theorem readableA : ∀ t ∈ ([22, 3, 5, 5, 5] : List TypeId), Ybaf.prog.readableRec t = true ∧ t < Ybaf.prog.types.size := by
  have h : (([22, 3, 5, 5, 5] : List TypeId).all fun t => Ybaf.prog.readableRec t && decide (t < Ybaf.prog.types.size)) = true := by kernel_rfl
  intro t ht
  have := List.all_eq_true.1 h t ht
  simpa using this

set_option maxRecDepth 100000 in
theorem liftedA (os : Os) (started : os.Started) (H : Type) (enc : TypeId × Value → H) :
    ReturnsInTold none {} Ybaf.checked os 3 .any Input.okWide ((OpenSpec.ofChange Rows.lawS6540AWholeSpec).preRow enc Ybaf.prog Ybaf.f3 [] false []) (fun F => ((OpenSpec.ofChange Rows.lawS6540AWholeSpec).at F).post enc Ybaf.prog Ybaf.f3 false true false false) (aloneAtReturn Ybaf.prog) nothingAlways := by
  refine returnsInTold_of_row (C := Ybaf.checked) (s := OpenSpec.ofChange Rows.lawS6540AWholeSpec) (by kernel_rfl) own started (by kernel_rfl) Ybaf.func3
    (OpenSpec.witness_stopped (enc := enc) (C := Ybaf.checked) false ⟨#[], #[.slice none 0 0, .int .i64 0, .int .u8 0, .int .u8 0, .int .u8 0], []⟩ 8 (by kernel_rfl) (by kernel_rfl) (by kernel_rfl) (by kernel_rfl)) ?_
  intro F W base args ds gs before _ hF hval0 hW _ _ _ _ _
  have hval : ∀ (j : Nat) t v, Ybaf.f3.params[j]? = some t → args[j]? = some v → Value.okWide Ybaf.prog W .any base t v := hval0
  have hW' := hW
  obtain ⟨p, q, hA0, hV, rfl, _, _⟩ := hW
  have hA : DataW.TrodAll enc Ybaf.prog W 0 (fun _ => true) true Ybaf.f3.params.toList args.toList ds p := hA0
  rw [Ybaf.params3] at hA hval
  have hAk := hA
  obtain ⟨v0, vs0, d0, ds0, p0, q0, hargs, rfl, rfl, h0, r0⟩ := trodAll_cons hA
  obtain ⟨v1, vs1, d1, ds1, p1, q1, rfl, rfl, rfl, h1, r1⟩ := trodAll_cons r0
  obtain ⟨v2, vs2, d2, ds2, p2, q2, rfl, rfl, rfl, h2, r2⟩ := trodAll_cons r1
  obtain ⟨v3, vs3, d3, ds3, p3, q3, rfl, rfl, rfl, h3, r3⟩ := trodAll_cons r2
  obtain ⟨v4, vs4, d4, ds4, p4, q4, rfl, rfl, rfl, h4, r4⟩ := trodAll_cons r3
  obtain ⟨rfl, rfl, rfl⟩ := trodAll_nil r4
  obtain rfl : args = #[v0, v1, v2, v3, v4] := by cases args; simp_all
  obtain ⟨rfl, rfl⟩ := trodVars_none hV
  simp only [List.append_nil] at hW' hAk
  have hlt : ∀ x ∈ p0 ++ (p1 ++ (p2 ++ (p3 ++ p4))), x.block < W.heap.size := fun x hx => by simpa using hW'.lt x hx
  obtain ⟨rd, rfl, rfl, rfl, wR⟩ := open_int Ybaf.underlying3 (hval 1 3 v1 rfl rfl) h1
  obtain ⟨last, rfl, rfl, rfl, wL⟩ := open_int Ybaf.underlying5 (hval 2 5 v2 rfl rfl) h2
  obtain ⟨u0, rfl, rfl, rfl, wU⟩ := open_int Ybaf.underlying5 (hval 3 5 v3 rfl rfl) h3
  obtain ⟨w0, rfl, rfl, rfl, wW⟩ := open_int Ybaf.underlying5 (hval 4 5 v4 rfl rfl) h4
  obtain ⟨a0, len, cap, rfl⟩ := okWide_slice Ybaf.underlying22 (hval 0 22 v0 rfl rfl)
  obtain ⟨fuel, hf⟩ := h0
  clear hA0 hval0
  have bR := bounds_i64 wR
  have bL := bounds_u8 wL
  have bU := bounds_u8 wU
  have bW := bounds_u8 wW
  have hwalk : Calls Ybaf.prog 3 #[.slice a0 len cap, .int .i64 rd, .int .u8 last, .int .u8 u0, .int .u8 w0] W fun e w' => e = .returned (.bool true) ∧ Below W.heap.size W w' := by
    by_cases hlen : 1048576 < len
    · exact lawA_long a0 len cap rd last u0 w0 W hlen
    obtain ⟨xs, k1, k2, k3, k4, k5⟩ := open_bytes hf
    obtain ⟨l, rfl⟩ := Int.eq_ofNat_of_zero_le bL.1
    obtain ⟨u, rfl⟩ := Int.eq_ofNat_of_zero_le bU.1
    obtain ⟨w, rfl⟩ := Int.eq_ofNat_of_zero_le bW.1
    by_cases hN : needB (u % 8) (w % 33) ≤ xs.length
    · by_cases hU : u % 8 ≤ w % 33
      · exact lawA_ok1 F.told a0 len cap xs rd l u w W hF (by omega) k1 k2 k3 k4 k5 (by omega) (by omega) (by omega) (by omega) (by omega) hN hU
      · exact lawA_ok2 F.told a0 len cap xs rd l u w W hF (by omega) k1 k2 k3 k4 k5 (by omega) (by omega) (by omega) (by omega) (by omega) hN (by omega)
    · exact lawA_short F.told a0 len cap xs rd l u w W hF (by omega) k1 k2 k3 k4 k5 (by omega) (by omega) (by omega) (by omega) (by omega) (by omega)
  refine hwalk.mono fun e W' ⟨he, hn⟩ => ?_
  subst he
  refine ⟨_, rfl, _, _, _, [], p0 ++ ([] ++ ([] ++ ([] ++ ([] ++ [])))), [], hW', ?_, ?_, rfl, hn.frame _, fun h => by cases h⟩
  · exact trodAll_cons_mk (shut_bool Ybaf.underlying4 true) trodAll_mk0
  · have := below_trodAll laidOut hn [22, 3, 5, 5, 5] readableA hAk hlt
    exact this

theorem provedA : Rows.LawS6540AWholeToldSaid :=
  Claim7.holds_of_told_any 3 Ybaf.f3 "fmt.Sprintf" ["fmt.errorf"] [] _ _ _ (by kernel_rfl) rfl rfl rfl laidOut (by kernel_rfl) rfl ⟨rfl, rfl, rfl, rfl, rfl, rfl, rfl⟩ rfl rfl (by kernel_rfl) (by kernel_rfl) Ybaf.func3 (by kernel_rfl)
    (of_decide_eq_true (by kernel_rfl)) (by unfold Func.isWrapper; first | (rw [if_pos (by decide +kernel)]; kernel_rfl) | (rw [if_neg (by decide +kernel)]; exact ⟨rfl, rfl⟩)) stops.symm rfl stopKnobs.symm (by kernel_rfl)
    (by kernel_rfl) (by kernel_rfl) (by kernel_rfl) (by kernel_rfl) (by kernel_rfl) (by kernel_rfl) (by kernel_rfl) (by kernel_rfl) (by kernel_rfl) rfl (by kernel_rfl) rfl rfl
    rfl rfl
    rfl (by kernel_rfl) (by kernel_rfl) (by kernel_rfl) (by decide) (by kernel_rfl)
    (OpenClaim.moreEntering_of (by kernel_rfl) (by kernel_rfl) (by kernel_rfl) (by kernel_rfl) (by kernel_rfl) (by kernel_rfl) (by kernel_rfl) (by kernel_rfl) (by kernel_rfl) (by kernel_rfl))
    ⟨_, WideRow.started_initial, quiet _⟩
    (fun os started _ H enc _ => liftedA os started H enc)

#print axioms provedA
end Go.Proofs.YbulkeekoFmt
