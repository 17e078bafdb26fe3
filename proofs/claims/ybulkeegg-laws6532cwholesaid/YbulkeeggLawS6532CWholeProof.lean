/-
  THE PROOF OF 'Rows.LawS6532CWholeSaid': the shell as it was laid with the seat, its one hole filled.
-/
import Derived.Test.YbulkeeggRows
import Derived.Test.YbulkeeggWalks
import Derived.WalkKit
import Derived.ProofKit
import Derived.OpenShut
import Derived.ShutString
namespace Go.Proofs.Ybulkeegg.lawS6532CWhole
open Go.ChangeShapes Go.WideShapes Go.ChangeAt Go.RowKit
open Go.ChangeMaps (open_string shut_string)
set_option linter.unusedVariables false      -- a walk need not use every 'w<i>' (that an integer argument fits its kind)

theorem own : ownKnob Yba.prog.godebug = none := by kernel_rfl

theorem reduced (x m : Int) (hm : 0 ≤ m) (h : m ≤ 1099511627776) : ∃ A, wrap64 ((IntKind.u64.wrap x).tmod (m + 1)) = A ∧ 0 ≤ A ∧ A ≤ m := by
  have h0 : 0 ≤ IntKind.u64.wrap x := by simp [IntKind.wrap, IntKind.signed, IntKind.bits]; omega
  rw [Int.tmod_eq_emod_of_nonneg h0]
  have h1 := Int.emod_nonneg (IntKind.u64.wrap x) (by omega : m + 1 ≠ 0)
  have h2 := Int.emod_lt_of_pos (IntKind.u64.wrap x) (by omega : 0 < m + 1)
  generalize IntKind.u64.wrap x % (m + 1) = y at *
  refine ⟨y, ?_, h1, by omega⟩
  unfold wrap64; omega

/-! ### THE WALK: the Go text returns true. -/
set_option maxHeartbeats 1000000 in
theorem walk_in (a0 a1 a2 A B : Int) (w : World) (hA : wrap64 ((IntKind.u64.wrap a1).tmod 1099511627777) = A) (hB : wrap64 ((IntKind.u64.wrap a2).tmod 1099511627777) = B) (a_0 : 0 ≤ A) (a_1 : A ≤ 1099511627776) (b_0 : 0 ≤ B) (b_1 : B ≤ 1099511627776) :
    Calls Yba.prog 3 #[.int .i64 a0, .int .i64 a1, .int .i64 a2] w fun e w' => e = .returned (.bool true) ∧ Grown w w' := by
  by_cases hz : A = 0 ∧ B = 0
  · obtain ⟨z1, z2⟩ := hz
    subst z1 z2
    have ho : (FloatKind.f64.format.order 4607182418800017408 4607182418800017408 == some .eq) = true := by decide +kernel
    go_enter Yba.func3, Yba.ntmps3
    go_wp2_with (go_at_call 4; refine (jaccard_zero _ _).mono ?_; rintro e w' ⟨rfl, rfl⟩)
    go_ret
    exact ⟨rfl, Grown.refl _⟩
  · by_cases hlt : B < A
    · obtain ⟨S, hS, s_0, s_1⟩ := reduced a0 B b_0 b_1
      have hza : (A == 0) = false := beq_eq_false_iff_ne.2 (by omega)
      clear hz
      have m0 := Int.emod_nonneg (S * 10000) (by omega : A + B - S ≠ 0)
      have m1 := Int.emod_lt_of_pos (S * 10000) (by omega : 0 < A + B - S)
      by_cases hr : A + B - S ≤ 2 * (S * 10000 % (A + B - S))
      · have e1 : scaled S (A + B - S) = S * 10000 / (A + B - S) + 1 := by rw [scaled_eq]; exact round_up _ _ (by omega) hr
        have hb := scaled_bd S (A + B - S) (by omega) (by omega) (by omega)
        have hf := tenk_quo _ hb.1 hb.2
        rw [e1] at hf
        have hq := fun w => run_float_arith (P := Yba.prog) w .quo 23 .f64 _ _ _ hf.1
        have ho : (FloatKind.f64.format.order (tenk (scaled S (A + B - S))) (tenk (S * 10000 / (A + B - S) + 1)) == some .eq) = true := by rw [e1]; exact hf.2
        rw [e1] at hb
        clear hf e1
        go_enter Yba.func3, Yba.ntmps3
        go_wp2_with (go_at_call 4; refine (jaccard_any S A B _ (by omega) (by omega) (by omega) (by omega) (by omega) (by omega)).mono ?_; rintro e w' ⟨rfl, rfl⟩)
        go_ret
        exact ⟨rfl, Grown.refl _⟩
      · have e1 : scaled S (A + B - S) = S * 10000 / (A + B - S) := by rw [scaled_eq]; exact round_down _ _ (by omega) (by omega)
        have hb := scaled_bd S (A + B - S) (by omega) (by omega) (by omega)
        have hf := tenk_quo _ hb.1 hb.2
        rw [e1] at hf
        have hq := fun w => run_float_arith (P := Yba.prog) w .quo 23 .f64 _ _ _ hf.1
        have ho : (FloatKind.f64.format.order (tenk (scaled S (A + B - S))) (tenk (S * 10000 / (A + B - S))) == some .eq) = true := by rw [e1]; exact hf.2
        rw [e1] at hb
        clear hf e1
        go_enter Yba.func3, Yba.ntmps3
        go_wp2_with (go_at_call 4; refine (jaccard_any S A B _ (by omega) (by omega) (by omega) (by omega) (by omega) (by omega)).mono ?_; rintro e w' ⟨rfl, rfl⟩)
        go_ret
        exact ⟨rfl, Grown.refl _⟩
    · by_cases hA0 : A = 0
      · subst hA0
        obtain ⟨S, hS, s_0, s_1⟩ := reduced a0 0 a_0 a_1
        obtain rfl : S = 0 := by omega
        have hzb : (B == 0) = false := beq_eq_false_iff_ne.2 (by omega)
        have hb1 : 1 ≤ B := by omega
        have hf := tenk_quo 0 (by decide) (by decide)
        have hq := fun w => run_float_arith (P := Yba.prog) w .quo 23 .f64 _ _ _ hf.1
        have ho := hf.2
        clear hf hz
        go_enter Yba.func3, Yba.ntmps3
        go_wp2_with (go_at_call 4; refine (jaccard_left B _ (by omega) (by omega)).mono ?_; rintro e w' ⟨rfl, rfl⟩)
        go_ret
        exact ⟨rfl, Grown.refl _⟩
      · obtain ⟨S, hS, s_0, s_1⟩ := reduced a0 A a_0 a_1
        have hza : (A == 0) = false := beq_eq_false_iff_ne.2 hA0
        have hb1 : 1 ≤ B := by omega
        clear hz
        have m0 := Int.emod_nonneg (S * 10000) (by omega : A + B - S ≠ 0)
        have m1 := Int.emod_lt_of_pos (S * 10000) (by omega : 0 < A + B - S)
        by_cases hr : A + B - S ≤ 2 * (S * 10000 % (A + B - S))
        · have e1 : scaled S (A + B - S) = S * 10000 / (A + B - S) + 1 := by rw [scaled_eq]; exact round_up _ _ (by omega) hr
          have hb := scaled_bd S (A + B - S) (by omega) (by omega) (by omega)
          have hf := tenk_quo _ hb.1 hb.2
          rw [e1] at hf
          have hq := fun w => run_float_arith (P := Yba.prog) w .quo 23 .f64 _ _ _ hf.1
          have ho : (FloatKind.f64.format.order (tenk (scaled S (A + B - S))) (tenk (S * 10000 / (A + B - S) + 1)) == some .eq) = true := by rw [e1]; exact hf.2
          rw [e1] at hb
          clear hf e1
          go_enter Yba.func3, Yba.ntmps3
          go_wp2_with (go_at_call 4; refine (jaccard_any S A B _ (by omega) (by omega) (by omega) (by omega) (by omega) (by omega)).mono ?_; rintro e w' ⟨rfl, rfl⟩)
          go_ret
          exact ⟨rfl, Grown.refl _⟩
        · have e1 : scaled S (A + B - S) = S * 10000 / (A + B - S) := by rw [scaled_eq]; exact round_down _ _ (by omega) (by omega)
          have hb := scaled_bd S (A + B - S) (by omega) (by omega) (by omega)
          have hf := tenk_quo _ hb.1 hb.2
          rw [e1] at hf
          have hq := fun w => run_float_arith (P := Yba.prog) w .quo 23 .f64 _ _ _ hf.1
          have ho : (FloatKind.f64.format.order (tenk (scaled S (A + B - S))) (tenk (S * 10000 / (A + B - S))) == some .eq) = true := by rw [e1]; exact hf.2
          rw [e1] at hb
          clear hf e1
          go_enter Yba.func3, Yba.ntmps3
          go_wp2_with (go_at_call 4; refine (jaccard_any S A B _ (by omega) (by omega) (by omega) (by omega) (by omega) (by omega)).mono ?_; rintro e w' ⟨rfl, rfl⟩)
          go_ret
          exact ⟨rfl, Grown.refl _⟩

theorem walk (a0 : Int) (a1 : Int) (a2 : Int) (w0 : (Lit.int .i64 a0).wf = true) (w1 : (Lit.int .i64 a1).wf = true) (w2 : (Lit.int .i64 a2).wf = true) (w : World) :
    Calls Yba.prog 3 #[.int .i64 a0, .int .i64 a1, .int .i64 a2] w fun e w' => e = .returned (.bool true) ∧ Grown w w' := by
  obtain ⟨A, hA, a_0, a_1⟩ := reduced a1 1099511627776 (by decide) (by decide)
  obtain ⟨B, hB, b_0, b_1⟩ := reduced a2 1099511627776 (by decide) (by decide)
  exact walk_in a0 a1 a2 A B w hA hB a_0 a_1 b_0 b_1

/-! ### THE ROW's STEP: WRITTEN OUT: LEAVE IT -/
set_option maxRecDepth 100000 in
theorem lifted (os : Os) (started : os.Started) (H : Type) (enc : TypeId × Value → H) :
    ReturnsInHanded {} Yba.checked os 3 .any (Rows.lawS6532CWholeSpec.pre6 enc Yba.prog Yba.f3 Rows.lawS6532CWholeRow.domain false) (Rows.lawS6532CWholeSpec.post enc Yba.prog Yba.f3 false true false false) := by
  refine returnsInHanded_of_change (C := Yba.checked) own started (by kernel_rfl) Yba.func3
    (ChangeSpec.witness6 (enc := enc) (C := Yba.checked) false ⟨#[], #[.int .i64 0, .int .i64 0, .int .i64 0], []⟩ 8 (by kernel_rfl) (by kernel_rfl) (by kernel_rfl) (by kernel_rfl)) ?_
  intro W base args ds gs before hval0 hW hcnd _
  have hval : ∀ (j : Nat) t v, Yba.f3.params[j]? = some t → args[j]? = some v → Value.okWide Yba.prog W .any base t v := hval0
  have hW' := hW
  obtain ⟨p, q, hA0, hV, rfl, hfz, hnd⟩ := hW
  have hA : DataW.TrodAll enc Yba.prog W 0 (fun _ => true) true Yba.f3.params.toList args.toList ds p := hA0
  rw [Yba.params3] at hA hval
  obtain ⟨v0, vs0, d0, ds0, p0, q0, hargs, rfl, rfl, h0, r0⟩ := trodAll_cons hA
  obtain ⟨v1, vs1, d1, ds1, p1, q1, rfl, rfl, rfl, h1, r1⟩ := trodAll_cons r0
  obtain ⟨v2, vs2, d2, ds2, p2, q2, rfl, rfl, rfl, h2, r2⟩ := trodAll_cons r1
  obtain ⟨rfl, rfl, rfl⟩ := trodAll_nil r2
  obtain rfl : args = #[v0, v1, v2] := by cases args; simp_all
  obtain ⟨rfl, rfl⟩ := trodVars_none hV
  obtain ⟨a0, rfl, rfl, rfl, w0⟩ := open_int Yba.underlying3 (hval 0 3 v0 rfl rfl) h0
  obtain ⟨a1, rfl, rfl, rfl, w1⟩ := open_int Yba.underlying3 (hval 1 3 v1 rfl rfl) h1
  obtain ⟨a2, rfl, rfl, rfl, w2⟩ := open_int Yba.underlying3 (hval 2 3 v2 rfl rfl) h2
  clear hA0 hval0
  simp only [List.append_nil] at hW'
  refine (walk a0 a1 a2 w0 w1 w2 W).mono fun e W' ⟨he, hg⟩ => ?_
  subst he
  exact ⟨_, rfl, post_of_same (pa := []) (pv := []) hW' (fun _ _ _ => (trodAll_cons_mk (shut_bool Yba.underlying4 _) trodAll_mk0)) (fun sp _ => (trodAll_cons_mk (shut_int Yba.underlying3 w0) (trodAll_cons_mk (shut_int Yba.underlying3 w1) (trodAll_cons_mk (shut_int Yba.underlying3 w2) trodAll_mk0)))) (fun _ _ => rfl) rfl
    (hg.frame _) hg.2.1 (ok_one (by kernel_rfl) rfl (okWide_bool_mk Yba.underlying4 _))⟩

theorem over : Rows.lawS6532CWholeRow.holds Yba.pinned (OpenSpec.ofChange Rows.lawS6532CWholeSpec) :=
  OpenClaim.holds_of_wide 3 Yba.f3 rfl rfl rfl rfl rfl rfl rfl ⟨rfl, rfl, rfl, rfl, rfl⟩ rfl rfl rfl rfl rfl (by kernel_rfl) Yba.func3 (by kernel_rfl)
    (of_decide_eq_true (by kernel_rfl)) (by unfold Func.isWrapper; first | (rw [if_pos (by decide +kernel)]; kernel_rfl) | (rw [if_neg (by decide +kernel)]; exact ⟨rfl, rfl⟩))
    (fun os started H enc _ => lifted os started H enc)

/-- ████ THE STATEMENT ████ -/
theorem proved : Rows.LawS6532CWholeSaid :=
  over
#print axioms proved
end Go.Proofs.Ybulkeegg.lawS6532CWhole
