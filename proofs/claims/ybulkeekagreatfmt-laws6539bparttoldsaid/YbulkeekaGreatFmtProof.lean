/-
  THE PROOF OF 'Rows.LawS6539BPartToldSaid': the row's step over the walk, and the told and tied card.
-/
import Derived.Test.YbulkeekaGreatFmtOpen
import Derived.Test.YbulkeekaGreatFmtLawP
import Derived.Test.YbulkeekaGreatFmtLong
namespace Go.Proofs.YbulkeekaGreatFmt
open Go.ChangeShapes Go.WideShapes Go.ChangeAt Go.RowKit
open Go.Extern.Stop Go.Stop Go.Extern

theorem readable : ∀ t ∈ ([4, 22, 23, 24, 25, 23, 23, 26, 27, 28] : List TypeId), Ybaz.prog.readableRec t = true ∧ t < Ybaz.prog.types.size := by
  have h : (([4, 22, 23, 24, 25, 23, 23, 26, 27, 28] : List TypeId).all fun t => Ybaz.prog.readableRec t && decide (t < Ybaz.prog.types.size)) = true := by kernel_rfl
  intro t ht
  have := List.all_eq_true.1 h t ht
  simpa using this

theorem varsIn : varsRowed Ybaz.prog Rows.lawS6539BPartSpec.vars = true := by kernel_rfl

/-- The door's own heap meets the condition. -/
theorem door_met (os : Os) (args : Array Value) : laidMetH Ybaz.prog Rows.lawS6539BPartRow.laid ((World.doorLaid Ybaz.prog 28 os).forCall (fun _ _ => 0) ⟨#[], args, []⟩).memory :=
  laidMetH_of_parts3 (fuel := 8) (laidMet_of_run' 8 (by kernel_rfl) (by kernel_rfl)) (by kernel_rfl) (by kernel_rfl)

theorem witness_row (os : Os) {H : Type} (enc : TypeId × Value → H) :
    (OpenSpec.ofChange Rows.lawS6539BPartSpec).preRow enc Ybaz.prog Ybaz.f3 [] false Rows.lawS6539BPartRow.laid ((World.doorLaid Ybaz.prog 28 os).forCall (fun _ _ => 0) ⟨#[], #[.bool false, .slice none 0 0, .int .u64 0, .int .u32 0, .int .u16 0, .int .u64 0, .int .u64 0, .slice none 0 0, .slice none 0 0, .slice none 0 0], []⟩).memory #[.bool false, .slice none 0 0, .int .u64 0, .int .u32 0, .int .u16 0, .int .u64 0, .int .u64 0, .slice none 0 0, .slice none 0 0, .slice none 0 0] :=
  OpenSpec.preRow_of_B rfl 8 (by kernel_rfl) (by kernel_rfl) (door_met os _)

set_option maxRecDepth 100000 in
set_option maxHeartbeats 4000000 in
theorem lifted (os : Os) (started : os.Started) (H : Type) (enc : TypeId × Value → H) :
    ReturnsInTold none {} Ybaz.checked os 3 .any Input.okWide ((OpenSpec.ofChange Rows.lawS6539BPartSpec).preRow enc Ybaz.prog Ybaz.f3 [] false Rows.lawS6539BPartRow.laid) (fun F => ((OpenSpec.ofChange Rows.lawS6539BPartSpec).at F).post enc Ybaz.prog Ybaz.f3 false true false false) (aloneAtReturn Ybaz.prog) nothingAlways := by
  refine returnsInTold_of_row (C := Ybaz.checked) (s := OpenSpec.ofChange Rows.lawS6539BPartSpec) (by kernel_rfl) own started (by kernel_rfl) Ybaz.func3
    (OpenSpec.witness_stopped_atRef (enc := enc) (C := Ybaz.checked) false (World.doorLaid Ybaz.prog 28 os) #[.bool false, .slice none 0 0, .int .u64 0, .int .u32 0, .int .u16 0, .int .u64 0, .int .u64 0, .slice none 0 0, .slice none 0 0, .slice none 0 0] rfl (by kernel_rfl) (by kernel_rfl) (by kernel_rfl) (witness_row os enc)) ?_
  intro F W base args ds gs before _ hF hval0 hW _ _ hsz0 _ _
  have hval : ∀ (j : Nat) t v, Ybaz.f3.params[j]? = some t → args[j]? = some v → Value.okWide Ybaz.prog W .any base t v := hval0
  have hW' := hW
  obtain ⟨p, q, hA0, hV0, rfl, _, _⟩ := hW
  have hA : DataW.TrodAll enc Ybaz.prog W 0 (fun _ => true) true Ybaz.f3.params.toList args.toList ds p := hA0
  have hV : DataW.TrodVars enc Ybaz.prog W (fun _ => true) Rows.lawS6539BPartSpec.vars gs q := hV0
  have hsz : (DataW.weightsEach Ybaz.prog (Ybaz.f3.params.toList ++ (OpenSpec.ofChange Rows.lawS6539BPartSpec).bare.plain.varTypes Ybaz.prog) (ds ++ gs)).all (· ≤ reachBytes) = true := hsz0
  rw [Ybaz.params3] at hA hval hsz
  have hAk := hA
  obtain ⟨v0, vs0, d0, ds0, p0, q0, hargs, rfl, rfl, h0, r0⟩ := trodAll_cons hA
  obtain ⟨v1, vs1, d1, ds1, p1, q1, rfl, rfl, rfl, h1, r1⟩ := trodAll_cons r0
  obtain ⟨v2, vs2, d2, ds2, p2, q2, rfl, rfl, rfl, h2, r2⟩ := trodAll_cons r1
  obtain ⟨v3, vs3, d3, ds3, p3, q3, rfl, rfl, rfl, h3, r3⟩ := trodAll_cons r2
  obtain ⟨v4, vs4, d4, ds4, p4, q4, rfl, rfl, rfl, h4, r4⟩ := trodAll_cons r3
  obtain ⟨v5, vs5, d5, ds5, p5, q5, rfl, rfl, rfl, h5, r5⟩ := trodAll_cons r4
  obtain ⟨v6, vs6, d6, ds6, p6, q6, rfl, rfl, rfl, h6, r6⟩ := trodAll_cons r5
  obtain ⟨v7, vs7, d7, ds7, p7, q7, rfl, rfl, rfl, h7, r7⟩ := trodAll_cons r6
  obtain ⟨v8, vs8, d8, ds8, p8, q8, rfl, rfl, rfl, h8, r8⟩ := trodAll_cons r7
  obtain ⟨v9, vs9, d9, ds9, p9, q9, rfl, rfl, rfl, h9, r9⟩ := trodAll_cons r8
  obtain ⟨rfl, rfl, rfl⟩ := trodAll_nil r9
  obtain rfl : args = #[v0, v1, v2, v3, v4, v5, v6, v7, v8, v9] := by cases args; simp_all
  obtain ⟨g, tg, cs, fuelg, dg, pg, rfl, _, _, _, _, _⟩ := trodVars_one hV
  have hlt : ∀ x ∈ p0 ++ (p1 ++ (p2 ++ (p3 ++ (p4 ++ (p5 ++ (p6 ++ (p7 ++ (p8 ++ (p9 ++ []))))))))), x.block < W.heap.size := fun x hx => hW'.lt x (List.mem_append_left _ hx)
  obtain ⟨hasRoot, rfl, rfl, rfl⟩ := open_bool Ybaz.underlying4 (hval 0 4 v0 rfl rfl) h0
  obtain ⟨i2, rfl, rfl, rfl, w2⟩ := open_int Ybaz.underlying23 (hval 2 23 v2 rfl rfl) h2
  obtain ⟨i3, rfl, rfl, rfl, w3⟩ := open_int Ybaz.underlying24 (hval 3 24 v3 rfl rfl) h3
  obtain ⟨i4, rfl, rfl, rfl, w4⟩ := open_int Ybaz.underlying25 (hval 4 25 v4 rfl rfl) h4
  obtain ⟨i5, rfl, rfl, rfl, w5⟩ := open_int Ybaz.underlying23 (hval 5 23 v5 rfl rfl) h5
  obtain ⟨i6, rfl, rfl, rfl, w6⟩ := open_int Ybaz.underlying23 (hval 6 23 v6 rfl rfl) h6
  have hmem : ∀ {j : Nat} {t : TypeId} {d : DataW H}, ([4, 22, 23, 24, 25, 23, 23, 26, 27, 28] : List TypeId)[j]? = some t → [DataW.lit (.bool hasRoot), d1, .lit (.int .u64 i2), .lit (.int .u32 i3), .lit (.int .u16 i4), .lit (.int .u64 i5), .lit (.int .u64 i6), d7, d8, d9][j]? = some d → ∀ n ∈ d.weights Ybaz.prog t, n ≤ reachBytes := by
    intro j t d ht hd n hn
    have := List.all_eq_true.1 hsz n (DataW.weights_mem_each (j := j) (t := t) (d := d) (by rw [List.getElem?_append_left (by simpa using (List.getElem?_eq_some_iff.1 ht).1)]; exact ht) (by rw [List.getElem?_append_left (by simpa using (List.getElem?_eq_some_iff.1 hd).1)]; exact hd) n hn)
    simpa using this
  obtain ⟨f1, g1⟩ := h1
  obtain ⟨f7, g7⟩ := h7
  obtain ⟨f8, g8⟩ := h8
  obtain ⟨f9, g9⟩ := h9
  clear hA0 hval0 hV0
  obtain ⟨ea, en, ec, rfl⟩ := okWide_slice Ybaz.underlying22 (hval 1 22 v1 rfl rfl)
  obtain ⟨ia, il, ic, rfl⟩ := okWide_slice Ybaz.underlying26 (hval 7 26 v7 rfl rfl)
  obtain ⟨ca, cn, cc, rfl⟩ := okWide_slice Ybaz.underlying27 (hval 8 27 v8 rfl rfl)
  obtain ⟨fa, fn, fc, rfl⟩ := okWide_slice Ybaz.underlying28 (hval 9 28 v9 rfl rfl)
  have b2 := bounds_u64 w2
  have b3 := bounds_u32 w3
  have b4 := bounds_u16 w4
  have b5 := bounds_u64 w5
  have b6 := bounds_u64 w6
  obtain ⟨ea', ec', es, xea, e1, e2, e3, e4⟩ := open_elems (x := (d1, p1)) g1 (hmem (j := 1) (d := d1) rfl rfl)
  simp only [Value.slice.injEq] at xea
  obtain ⟨rfl, rfl, rfl⟩ := xea
  obtain ⟨ia', ic', inl, xia, c1, c2, c3⟩ := open_bytes g7
  simp only [Value.slice.injEq] at xia
  obtain ⟨rfl, rfl, rfl⟩ := xia
  obtain ⟨ca', cc', names, xca, n1, n2, n3⟩ := open_names g8
  simp only [Value.slice.injEq] at xca
  obtain ⟨rfl, rfl, rfl⟩ := xca
  obtain ⟨fa', fc', freed, xfa, k1, k2⟩ := open_u64s g9
  simp only [Value.slice.injEq] at xfa
  obtain ⟨rfl, rfl, rfl⟩ := xfa
  have s1 : es.length ≤ 140737488355328 := slice_bound (hmem (j := 1) rfl rfl) Ybaz.underlying22 bytes30 e4
  have s7 : inl.length ≤ 140737488355328 := slice_bound (hmem (j := 7) rfl rfl) Ybaz.underlying26 bytes5 c3
  have s8 : names.length ≤ 140737488355328 := slice_bound (hmem (j := 8) rfl rfl) Ybaz.underlying27 bytes9 n3
  have s9 : freed.length ≤ 140737488355328 := slice_bound (hmem (j := 9) rfl rfl) Ybaz.underlying28 bytes23 k2
  obtain ⟨m2, rfl⟩ := Int.eq_ofNat_of_zero_le b2.1
  obtain ⟨m3, rfl⟩ := Int.eq_ofNat_of_zero_le b3.1
  obtain ⟨m4, rfl⟩ := Int.eq_ofNat_of_zero_le b4.1
  obtain ⟨m5, rfl⟩ := Int.eq_ofNat_of_zero_le b5.1
  obtain ⟨m6, rfl⟩ := Int.eq_ofNat_of_zero_le b6.1
  have hwalk : Calls Ybaz.prog 3 #[.bool hasRoot, .slice ea es.length ec, .int .u64 m2, .int .u32 m3, .int .u16 m4, .int .u64 m5, .int .u64 m6, .slice ia inl.length ic, .slice ca names.length cc, .slice fa freed.length fc] W fun e w' => e = .returned (.bool true) ∧ Below W.heap.size W w' := by
    by_cases hlen : 65536 < es.length ∨ 65536 < names.length ∨ 1048576 < freed.length
    · exact lawB_long hasRoot ea ec es.length m2 m3 m4 m5 m6 ia ic inl.length ca cc names.length fa fc freed.length W hlen
    · exact lawB_ok hasRoot ea ec es m2 m3 m4 m5 m6 ia ic inl ca cc names fa fc freed W e1 c1 c2 n1 k1 e2 e3 s7 n2 (by omega) (by omega) (by omega) (by omega) (by omega) (by omega) (by omega) (by omega)
  refine hwalk.mono fun e W' ⟨he, hn⟩ => ?_
  subst he
  refine ⟨_, rfl, _, _, _, [], [] ++ (p1 ++ ([] ++ ([] ++ ([] ++ ([] ++ ([] ++ (p7 ++ (p8 ++ (p9 ++ []))))))))), q, hW', ?_, ?_, Below.trodVars laidOut hn varsIn hV, hn.frame _, fun h => by cases h⟩
  · exact trodAll_cons_mk (shut_bool Ybaz.underlying4 true) trodAll_mk0
  · have := below_trodAll laidOut hn [4, 22, 23, 24, 25, 23, 23, 26, 27, 28] readable hAk hlt
    exact this

theorem proved : Rows.LawS6539BPartToldSaid :=
  Claim7.holds_of_told_tied_any_at .later 3 Ybaz.f3 _ _ [] _ _ _ _ _ (by kernel_rfl) rfl rfl rfl laidOut (by kernel_rfl) rfl ⟨rfl, rfl, rfl, rfl, rfl, rfl, rfl⟩ rfl rfl (by kernel_rfl) (by kernel_rfl) Ybaz.func3 (by kernel_rfl)
    (of_decide_eq_true (by kernel_rfl)) (by unfold Func.isWrapper; first | (rw [if_pos (by decide +kernel)]; kernel_rfl) | (rw [if_neg (by decide +kernel)]; exact ⟨rfl, rfl⟩)) stops.symm rfl stopKnobs.symm (by kernel_rfl)
    (by kernel_rfl) (by kernel_rfl) (by kernel_rfl) (by kernel_rfl) (by kernel_rfl) (by kernel_rfl) (by kernel_rfl) (by kernel_rfl) (by kernel_rfl) rfl (by kernel_rfl) rfl rfl
    rfl rfl
    rfl (by kernel_rfl) (by kernel_rfl) (by kernel_rfl) (by decide) (by kernel_rfl) lawS6539BPart_row_tie
    (OpenClaim.moreEntering_of (by kernel_rfl) (by kernel_rfl) (by kernel_rfl) (by kernel_rfl) (by kernel_rfl) (by kernel_rfl) (by kernel_rfl) (by kernel_rfl) (by kernel_rfl) (by kernel_rfl))
    ⟨_, WideRow.started_initial, quiet _⟩
    (fun os started _ H enc _ => lifted os started H enc)

#print axioms proved
end Go.Proofs.YbulkeekaGreatFmt
