/-
  THE PROOF OF 'Rows.LawS6540CWholeToldSaid': the row's step over the walk, and the told card.
-/
import Derived.Test.YbulkeekoFmtOpenC
import Derived.Test.YbulkeekoFmtLawC
namespace Go.Proofs.YbulkeekoFmt
open Go.ChangeShapes Go.WideShapes Go.ChangeAt Go.RowKit
open Go.Extern.Stop Go.Stop Go.Extern

theorem readableC : ∀ t ∈ ([35, 22, 3, 5, 5, 3, 35, 36, 36] : List TypeId), Ybaf.prog.readableRec t = true ∧ t < Ybaf.prog.types.size := by
  have h : (([35, 22, 3, 5, 5, 3, 35, 36, 36] : List TypeId).all fun t => Ybaf.prog.readableRec t && decide (t < Ybaf.prog.types.size)) = true := by kernel_rfl
  intro t ht
  have := List.all_eq_true.1 h t ht
  simpa using this

theorem bytes39 : 1 ≤ Ybaf.prog.bytesOf 39 := of_decide_eq_true (by kernel_rfl)
theorem bytes5 : 1 ≤ Ybaf.prog.bytesOf 5 := of_decide_eq_true (by kernel_rfl)
theorem bytes3 : 1 ≤ Ybaf.prog.bytesOf 3 := of_decide_eq_true (by kernel_rfl)

/-- what the reach says of a slice's length -/
theorem len_bound {H : Type} {ts : List TypeId} {ds : List (DataW H)} (hsz : (DataW.weightsEach Ybaf.prog ts ds).all (· ≤ reachBytes) = true) {j : Nat} {t e : TypeId} {len : Nat} {d : DataW H} (ht : ts[j]? = some t) (hd : ds[j]? = some d) (hu : Ybaf.prog.underlying t = some (.slice e)) (hb : 1 ≤ Ybaf.prog.bytesOf e)
    (h : len = 0 ∨ ∃ elems spare, d = .slice elems spare ∧ elems.length = len) : len ≤ 140737488355328 := by
  rcases h with rfl | ⟨elems, spare, rfl, rfl⟩
  · omega
  · have h1 := sized_slice hsz ht hd hu
    have h2 : (elems.length + spare.length) * 1 ≤ (elems.length + spare.length) * Ybaf.prog.bytesOf e := Nat.mul_le_mul_left _ hb
    have h3 : reachBytes = 140737488351232 := rfl
    omega

set_option maxRecDepth 100000 in
theorem liftedC (os : Os) (started : os.Started) (H : Type) (enc : TypeId × Value → H) :
    ReturnsInTold none {} Ybaf.checked os 4 .any Input.okWide ((OpenSpec.ofChange Rows.lawS6540CWholeSpec).preRow enc Ybaf.prog Ybaf.f4 [] false []) (fun F => ((OpenSpec.ofChange Rows.lawS6540CWholeSpec).at F).post enc Ybaf.prog Ybaf.f4 false true false false) (aloneAtReturn Ybaf.prog) nothingAlways := by
  refine returnsInTold_of_row (C := Ybaf.checked) (s := OpenSpec.ofChange Rows.lawS6540CWholeSpec) (by kernel_rfl) own started (by kernel_rfl) Ybaf.func4
    (OpenSpec.witness_stopped (enc := enc) (C := Ybaf.checked) false ⟨#[], #[.slice none 0 0, .slice none 0 0, .int .i64 0, .int .u8 0, .int .u8 0, .int .i64 0, .slice none 0 0, .slice none 0 0, .slice none 0 0], []⟩ 8 (by kernel_rfl) (by kernel_rfl) (by kernel_rfl) (by kernel_rfl)) ?_
  intro F W base args ds gs before _ hF hval0 hW _ _ hsz0 _ _
  have hval : ∀ (j : Nat) t v, Ybaf.f4.params[j]? = some t → args[j]? = some v → Value.okWide Ybaf.prog W .any base t v := hval0
  have hW' := hW
  obtain ⟨p, q, hA0, hV, rfl, _, _⟩ := hW
  have hA : DataW.TrodAll enc Ybaf.prog W 0 (fun _ => true) true Ybaf.f4.params.toList args.toList ds p := hA0
  have hsz : (DataW.weightsEach Ybaf.prog (Ybaf.f4.params.toList ++ (OpenSpec.ofChange Rows.lawS6540CWholeSpec).bare.plain.varTypes Ybaf.prog) (ds ++ gs)).all (· ≤ reachBytes) = true := hsz0
  rw [Ybaf.params4] at hA hval hsz
  have hAk := hA
  obtain ⟨v0, vs0, d0, ds0, p0, q0, hargs, rfl, rfl, h0, r0⟩ := trodAll_cons hA
  obtain ⟨v1, vs1, d1, ds1, p1, q1, rfl, rfl, rfl, h1, r1⟩ := trodAll_cons r0
  obtain ⟨v2, vs2, d2, ds2, p2, q2, rfl, rfl, rfl, h2, r2⟩ := trodAll_cons r1
  obtain ⟨v3, vs3, d3, ds3, p3, q3, rfl, rfl, rfl, h3, r3⟩ := trodAll_cons r2
  obtain ⟨v4, vs4, d4, ds4, p4, q4, rfl, rfl, rfl, h4, r4⟩ := trodAll_cons r3
  obtain ⟨v5, vs5, d5, ds5, p5, q5, rfl, rfl, rfl, h5, r5⟩ := trodAll_cons r4
  obtain ⟨v6, vs6, d6, ds6, p6, q6, rfl, rfl, rfl, h6, r6⟩ := trodAll_cons r5
  obtain ⟨v7, vs7, d7, ds7, p7, q7, rfl, rfl, rfl, h7, r7⟩ := trodAll_cons r6
  obtain ⟨v8, vs8, d8, ds8, p8, q8, rfl, rfl, rfl, h8, r8⟩ := trodAll_cons r7
  obtain ⟨rfl, rfl, rfl⟩ := trodAll_nil r8
  obtain rfl : args = #[v0, v1, v2, v3, v4, v5, v6, v7, v8] := by cases args; simp_all
  obtain ⟨rfl, rfl⟩ := trodVars_none hV
  simp only [List.append_nil] at hW' hAk
  have hlt : ∀ x ∈ p0 ++ (p1 ++ (p2 ++ (p3 ++ (p4 ++ (p5 ++ (p6 ++ (p7 ++ p8))))))), x.block < W.heap.size := fun x hx => by simpa using hW'.lt x hx
  obtain ⟨rd, rfl, rfl, rfl, wR⟩ := open_int Ybaf.underlying3 (hval 2 3 v2 rfl rfl) h2
  obtain ⟨last, rfl, rfl, rfl, wL⟩ := open_int Ybaf.underlying5 (hval 3 5 v3 rfl rfl) h3
  obtain ⟨u0, rfl, rfl, rfl, wU⟩ := open_int Ybaf.underlying5 (hval 4 5 v4 rfl rfl) h4
  obtain ⟨R, rfl, rfl, rfl, wP⟩ := open_int Ybaf.underlying3 (hval 5 3 v5 rfl rfl) h5
  obtain ⟨oa, on, oc, rfl⟩ := okWide_slice Ybaf.underlying35 (hval 0 35 v0 rfl rfl)
  obtain ⟨ra, rn, rc, rfl⟩ := okWide_slice Ybaf.underlying22 (hval 1 22 v1 rfl rfl)
  obtain ⟨ha, hn, hc, rfl⟩ := okWide_slice Ybaf.underlying35 (hval 6 35 v6 rfl rfl)
  obtain ⟨ea, en, ec, rfl⟩ := okWide_slice Ybaf.underlying36 (hval 7 36 v7 rfl rfl)
  obtain ⟨na, nn, nc, rfl⟩ := okWide_slice Ybaf.underlying36 (hval 8 36 v8 rfl rfl)
  obtain ⟨f0, g0⟩ := h0
  obtain ⟨f1, g1⟩ := h1
  obtain ⟨f6, g6⟩ := h6
  obtain ⟨f7, g7⟩ := h7
  obtain ⟨f8, g8⟩ := h8
  clear hA0 hval0
  have bR := bounds_i64 wR
  have bL := bounds_u8 wL
  have bU := bounds_u8 wU
  have bP := bounds_i64 wP
  obtain ⟨order, a1, a2, a3, a4, a5⟩ := open_words g0
  obtain ⟨rest, c1, c2, c3, c4, c5, c6⟩ := open_bytes g1
  obtain ⟨held, k1, k2, k3, k4, k5⟩ := open_words g6
  obtain ⟨ends, e1, e2, e3, e4, e5⟩ := open_i64s g7
  obtain ⟨nth, n1, n2, n3, n4, n5⟩ := open_i64s g8
  have s0 : on ≤ 140737488355328 := len_bound hsz (j := 0) rfl rfl Ybaf.underlying35 bytes39 a5
  have s1 : rn ≤ 140737488355328 := len_bound hsz (j := 1) rfl rfl Ybaf.underlying22 bytes5 c6
  have s6 : hn ≤ 140737488355328 := len_bound hsz (j := 6) rfl rfl Ybaf.underlying35 bytes39 k5
  have s7 : en ≤ 140737488355328 := len_bound hsz (j := 7) rfl rfl Ybaf.underlying36 bytes3 e5
  have s8 : nn ≤ 140737488355328 := len_bound hsz (j := 8) rfl rfl Ybaf.underlying36 bytes3 n5
  have hwalk : Calls Ybaf.prog 4 #[.slice oa on oc, .slice ra rn rc, .int .i64 rd, .int .u8 last, .int .u8 u0, .int .i64 R, .slice ha hn hc, .slice ea en ec, .slice na nn nc] W fun e w' => e = .returned (.bool true) ∧ Below W.heap.size W w' := by
    by_cases hlen : 1048576 < on + rn + hn + en + nn
    · exact lawC_long oa on oc ra rn rc rd last u0 R ha hn hc ea en ec na nn nc W s0 s1 s6 s7 s8 hlen
    · obtain ⟨l, rfl⟩ := Int.eq_ofNat_of_zero_le bL.1
      obtain ⟨u, rfl⟩ := Int.eq_ofNat_of_zero_le bU.1
      exact lawC_ok F.told oa on oc order ra rn rc rest rd l u R ha hn hc held ea en ec ends na nn nc nth W hF a1 a2 c1 c2 c5 k1 k2 e1 e2 e4 n1 n2 n4 (by omega) (by omega) (by omega) (by omega) (by omega) (by omega) (by omega)
  refine hwalk.mono fun e W' ⟨he, hn⟩ => ?_
  subst he
  refine ⟨_, rfl, _, _, _, [], p0 ++ (p1 ++ ([] ++ ([] ++ ([] ++ ([] ++ (p6 ++ (p7 ++ p8))))))), [], hW', ?_, ?_, rfl, hn.frame _, fun h => by cases h⟩
  · exact trodAll_cons_mk (shut_bool Ybaf.underlying4 true) trodAll_mk0
  · have := below_trodAll laidOut hn [35, 22, 3, 5, 5, 3, 35, 36, 36] readableC hAk hlt
    exact this

theorem provedC : Rows.LawS6540CWholeToldSaid :=
  Claim7.holds_of_told_any 4 Ybaf.f4 "fmt.Sprintf" ["fmt.errorf"] [] _ _ _ (by kernel_rfl) rfl rfl rfl laidOut (by kernel_rfl) rfl ⟨rfl, rfl, rfl, rfl, rfl, rfl, rfl⟩ rfl rfl (by kernel_rfl) (by kernel_rfl) Ybaf.func4 (by kernel_rfl)
    (of_decide_eq_true (by kernel_rfl)) (by unfold Func.isWrapper; first | (rw [if_pos (by decide +kernel)]; kernel_rfl) | (rw [if_neg (by decide +kernel)]; exact ⟨rfl, rfl⟩)) stops.symm rfl stopKnobs.symm (by kernel_rfl)
    (by kernel_rfl) (by kernel_rfl) (by kernel_rfl) (by kernel_rfl) (by kernel_rfl) (by kernel_rfl) (by kernel_rfl) (by kernel_rfl) (by kernel_rfl) rfl (by kernel_rfl) rfl rfl
    rfl rfl
    rfl (by kernel_rfl) (by kernel_rfl) (by kernel_rfl) (by decide) (by kernel_rfl)
    (OpenClaim.moreEntering_of (by kernel_rfl) (by kernel_rfl) (by kernel_rfl) (by kernel_rfl) (by kernel_rfl) (by kernel_rfl) (by kernel_rfl) (by kernel_rfl) (by kernel_rfl) (by kernel_rfl))
    ⟨_, WideRow.started_initial, quiet _⟩
    (fun os started _ H enc _ => liftedC os started H enc)

#print axioms provedC
end Go.Proofs.YbulkeekoFmt
