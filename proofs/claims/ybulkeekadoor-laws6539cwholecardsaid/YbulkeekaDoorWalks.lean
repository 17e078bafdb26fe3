/-
  THE WALK of LawS6539CWhole.
-/
import Derived.Test.YbulkeekaDoorNew
import Derived.LaidEql
namespace Go.Proofs.YbulkeekaDoor
open Go.RowKit
set_option linter.unusedSimpArgs false
set_option linter.unusedVariables false

/-- the writer's last Flush -/
theorem flush_final (rb wb bb : Nat) (sa : Addr) (fail : Bool) (T B S : List Int) (er : Bool) (sv : Value) (w : World) (h : BW w rb wb bb sa fail B S er sv) (g : Good fail T B S er) (h0 : 0 < T.length) (hT : T.length ≤ 10000000) :
    Calls Ybad.prog 15 #[.pointer (some ⟨wb, 0, none⟩)] w fun e w' => e = .returned (errv sa fail) ∧ ∃ B' S' er' sv', BW w' rb wb bb sa fail B' S' er' sv' ∧ S' = (if fail then [] else T) ∧ Step w w' rb wb bb sv sv' := by
  cases er with
  | true =>
    rcases g with ⟨_, rfl, _, rfl⟩ | ⟨h1, _⟩
    · refine (flush_err rb wb bb sa true B [] sv w h).mono ?_
      rintro e w' ⟨rfl, rfl⟩
      exact ⟨rfl, B, [], true, sv, h, rfl, Step.refl _ _ _ _ _⟩
    · cases h1
  | false =>
    have hl := g.len
    rcases g with ⟨h1, _⟩ | ⟨_, h2, h3, h4⟩
    · cases h1
    · by_cases hB : 0 < B.length
      · refine (flush_both rb wb bb sa fail B S sv w h hB (by omega)).mono ?_
        rintro e w' ⟨rfl, sv', hc, s1⟩
        refine ⟨rfl, ?_⟩
        rcases hc with ⟨rfl, rfl, h5⟩ | ⟨rfl, h5⟩
        · exact ⟨B, S, true, _, h5, h3 rfl, s1⟩
        · exact ⟨[], S ++ B, false, sv', h5, h2, s1⟩
      · obtain rfl : B = [] := List.eq_nil_of_length_eq_zero (by omega)
        cases fail with
        | true => have := h3 rfl; subst this; simp at h2; subst h2; simp at h0
        | false =>
          refine (flush_none rb wb bb sa false S sv w h).mono ?_
          rintro e w' ⟨rfl, rfl⟩
          exact ⟨rfl, [], S, false, sv, h, by simpa using h2, Step.refl _ _ _ _ _⟩

set_option maxHeartbeats 400000 in
theorem dflush_any (db wb eb : Nat) (v : Value) (w : World) (R : World → Prop) (hd : Blk w db (dCells wb eb) 46) (hc : Calls Ybad.prog 15 #[.pointer (some ⟨wb, 0, none⟩)] w fun e w' => e = .returned v ∧ R w') :
    Calls Ybad.prog 10 #[.pointer (some ⟨db, 0, none⟩)] w fun e w' => e = .returned v ∧ R w' := by
  have c0 := hd.cell (j := 0) rfl
  have HC := hide hc
  clear hc
  go_enter Ybad.func10, Ybad.ntmps10
  go_wp2_with (go_at_call 15; refine HC.out.mono ?_; rintro e w1 ⟨rfl, hr⟩)
  go_ret
  exact ⟨rfl, hr⟩

theorem neqSent (a : Addr) (w : World) : (binOp .neq 25 (.iface 37 (.pointer (some a))) (.iface 37 (.pointer (some a)))).run Ybad.prog w = .ok (.bool false) w := by
  obtain ⟨i, hi, hc⟩ : ∃ i, Ybad.prog.info? 37 = some i ∧ i.comparable = true := by
    have : (Ybad.prog.info? 37).map (·.comparable) = some true := by kernel_rfl
    obtain ⟨i, h1, h2⟩ := Option.map_eq_some_iff.1 this
    exact ⟨i, h1, h2⟩
  obtain ⟨j, hj⟩ : ∃ j, Ybad.prog.info? 39 = some j := by
    have : (Ybad.prog.info? 39).isSome = true := by kernel_rfl
    exact Option.isSome_iff_exists.1 this
  simp only [binOp]
  simp [Op.equal, Op.maxDepth, run_equalIn_iface_ptr_same w 9998 a Ybad.underlying25 Ybad.underlying37 hi hc hj]

set_option maxRecDepth 100000 in
set_option maxHeartbeats 1000000 in
theorem law_long (ka va : Option Addr) (kn kc vn vc : Nat) (fail : Bool) (w : World) (h : 1048576 < kn ∨ 1048576 < vn) :
    Calls Ybad.prog 3 #[.slice ka kn kc, .slice va vn vc, .bool fail] w fun e w' => e = .returned (.bool true) ∧ Below w.heap.size w w' := by
  by_cases h1 : 1048576 < kn
  · have t1 : decide ((1048576 : Int) < (kn : Int)) = true := by simp; omega
    go_enter Ybad.func3, Ybad.ntmps3
    go_wp2
    go_ret
    exact ⟨rfl, Below.refl _ _⟩
  · have t1 : decide ((1048576 : Int) < (kn : Int)) = false := by simp; omega
    have t2 : decide ((1048576 : Int) < (vn : Int)) = true := by simp; omega
    go_enter Ybad.func3, Ybad.ntmps3
    go_wp2
    go_ret
    exact ⟨rfl, Below.refl _ _⟩

attribute [local go_sem] neqSent

theorem BW.below {w w' : World} {rb wb bb : Nat} {sa : Addr} {fail : Bool} {B S : List Int} {er : Bool} {sv : Value} (h : BW w rb wb bb sa fail B S er sv) (hb : Below w.heap.size w w') : BW w' rb wb bb sa fail B S er sv := by
  have P : But (fun _ => False) w w' := But.of_below' hb
  refine ⟨h.hw.but P (fun h => h), ?_, h.sk.but P (fun h => h) (fun _ _ h => h), h.n1, h.n2, h.n3, h.n4, h.n5⟩
  obtain ⟨r, e1, e2⟩ := h.hb
  exact ⟨r, e1, e2.but P (fun h => h)⟩

theorem BW.old {w : World} {rb wb bb : Nat} {sa : Addr} {fail : Bool} {B S : List Int} {er : Bool} {sv : Value} (h : BW w rb wb bb sa fail B S er sv) : ∀ k, w.heap.size ≤ k → ¬ Mine rb wb bb sv k := by
  rintro k hk (h1 | h1 | h1 | h1)
  · have := h.sk.r.lt; omega
  · have := h.hw.lt; omega
  · obtain ⟨r, e1, e2⟩ := h.hb; have := e2.lt; omega
  · have := (h.sk.s.lt k h1).2; omega

/-- append one constant run of bytes onto what is owned -/
theorem append_lit {w : World} {v : Value} {D ns : List Int} (ho : w.ownsRow 0 5 1 v D.length (D.map (Value.int .u8))) (hD : D.length + ns.length ≤ 8000000) :
    ∃ v' w', (Builtin.append_ #[22, 22] 22 #[v, .slice (some ⟨w.heap.size, 0, none⟩) ns.length ns.length]).run Ybad.prog (w.alloc (.cells (ns.map (Value.int .u8)).toArray 5)) = .ok v' w' ∧
      w'.ownsRow 0 5 1 v' (D ++ ns).length ((D ++ ns).map (Value.int .u8)) ∧ But (fun k => v.ownBlock = some k) w w' ∧ (v'.ownBlock = v.ownBlock ∨ ∃ g, v'.ownBlock = some g ∧ w.heap.size ≤ g) := by
  obtain ⟨ti, hi, hz0, hz1, hz2⟩ := info_parts info5
  obtain ⟨v1, w1, hrun, ho1, hg1, hat⟩ := append_run (P := Ybad.prog) (w := w.alloc (.cells (ns.map (Value.int .u8)).toArray 5)) (T := 22) (ty := 22) (c := ns.length) (m := ns.length) (ao := some ⟨w.heap.size, 0, none⟩) (news := ns.map (Value.int .u8)) Ybad.underlying22 hi hz0 hz1 hz2 rfl (ho.alloc _) (by simp)
    (fun j u hu => ⟨_, rfl, by
      have := (Blk.new w (ns.map (Value.int .u8)) 5).cell hu
      rw [Addr.add_lit, Nat.zero_add]; exact this⟩)
    (fun h => by cases h) (ints_one _ _) (by unfold maxLen; omega) (by omega)
  refine ⟨v1, w1, hrun, by rw [List.length_append, List.map_append]; exact ho1, ((But.refl _ w).alloc _).trans (But.of_grown hg1 (fun k hk => hk)), ?_⟩
  rcases hat with h | h
  · exact Or.inl h
  · exact Or.inr ⟨_, h, by simp⟩

structure Wt (w7 w : World) (v : Value) (D : List Int) : Prop where
  o : w.ownsRow 0 5 1 v D.length (D.map (Value.int .u8))
  L : Below w7.heap.size w7 w
  n : ∀ k, v.ownBlock = some k → w7.heap.size ≤ k

theorem Wt.nil (w7 : World) : Wt w7 w7 (.slice none 0 0) [] := ⟨World.ownsRow_nil _ _ _ _, Below.refl _ _, fun k h => by simp [Value.ownBlock] at h⟩

theorem Wt.next {w7 w w' : World} {v v' : Value} {D D' : List Int} (h : Wt w7 w v D) (o : w'.ownsRow 0 5 1 v' D'.length (D'.map (Value.int .u8))) (P : But (fun k => v.ownBlock = some k) w w') (b : v'.ownBlock = v.ownBlock ∨ ∃ g, v'.ownBlock = some g ∧ w.heap.size ≤ g) : Wt w7 w' v' D' := by
  refine ⟨o, h.L.trans (P.below h.n h.L.size), fun k hk => ?_⟩
  rcases b with e | ⟨g, e, hg⟩
  · rw [e] at hk; exact h.n k hk
  · rw [e] at hk; cases hk; have := h.L.size; omega

theorem far_of {w w5 : World} {rb wb bb eb : Nat} {ao : Option Addr} {xs : List Int} (h : Rd w ao (xs.map (Value.int .u8))) (L : Below w.heap.size w w5) (h1 : w.heap.size ≤ rb) (h2 : w.heap.size ≤ wb) (h3 : w.heap.size ≤ bb) (h4 : w.heap.size ≤ eb) :
    Far w5 rb wb bb eb (.slice none 0 0) ao xs := by
  refine ⟨h.below L (Nat.le_refl _), fun h0 ad e => ?_⟩
  have hl : ad.block < w.heap.size := by
    cases xs with
    | nil => exact absurd rfl h0
    | cons x xs =>
      obtain ⟨a, e', hc⟩ := h 0 (.int .u8 x) rfl
      rw [e] at e'; cases e'
      have := World.block_lt_of_cell? w _ hc
      rwa [addr_block] at this
  refine ⟨?_, by omega, Nat.lt_of_lt_of_le hl L.size⟩
  rintro (h | h | h | h)
  · omega
  · omega
  · omega
  · simp [Value.ownBlock] at h

set_option maxRecDepth 100000 in
set_option maxHeartbeats 4000000 in
theorem law_main (ka va : Option Addr) (kn kc vn vc : Nat) (key value : List Int) (fail : Bool) (w : World) (hk1 : kn ≤ 1048576) (hv1 : vn ≤ 1048576)
    (hk : Rd w ka (key.map (Value.int .u8))) (hkn : key.length = kn) (hkc : kn ≤ kc) (hk0 : ka = none → kn = 0 ∧ kc = 0) (hkx : ∀ x ∈ key, 0 ≤ x ∧ x < 256)
    (hv : Rd w va (value.map (Value.int .u8))) (hvn : value.length = vn) (hvc : vn ≤ vc) (hv0 : va = none → vn = 0 ∧ vc = 0) (hvx : ∀ x ∈ value, 0 ≤ x ∧ x < 256) :
    Calls Ybad.prog 3 #[.slice ka kn kc, .slice va vn vc, .bool fail] w fun e w' => e = .returned (.bool true) ∧ Below w.heap.size w w' := by
  have t1 : decide ((1048576 : Int) < (kn : Int)) = false := by simp; omega
  have t2 : decide ((1048576 : Int) < (vn : Int)) = false := by simp; omega
  have HK := hide (And.intro hk (And.intro hk0 (And.intro hv hv0)))
  clear hk hk0 hv hv0
  go_enter Ybad.func3, Ybad.ntmps3
  go_wp2_with fail
  refine (clone_any w ka kn kc key HK.out.1 hkn HK.out.2.1 hk1).mono ?_
  rintro e w1 ⟨kv, rfl, o1, L1⟩
  obtain ⟨kao, kcap, rfl, c1, c2, r1, n1, b1⟩ := owns_form o1.o
  rw [hkn] at c1 n1 ⊢
  have H1 := hide (And.intro o1 (And.intro L1 (And.intro c1 (And.intro r1 (And.intro n1 b1)))))
  clear o1 L1 c1 c2 r1 n1 b1
  go_wp2_with fail
  refine (clone_any w1 va vn vc value (HK.out.2.2.1.below H1.out.2.1 (Nat.le_refl _)) hvn HK.out.2.2.2 hv1).mono ?_
  rintro e w2 ⟨vv, rfl, o2, L2⟩
  obtain ⟨vao, vcap, rfl, c1, c2, r1, n1, b1⟩ := owns_form o2.o
  rw [hvn] at c1 n1 ⊢
  have H2 := hide (And.intro o2 (And.intro L2 (And.intro c1 (And.intro r1 (And.intro n1 b1)))))
  clear o2 L2 c1 c2 r1 n1 b1
  go_wp2_with fail
  refine (errNew_any w2 _).mono ?_
  rintro e w3 ⟨rfl, rfl⟩
  go_wp2_with fail
  have R4 := Blk.new (w2.alloc (.cells #[.string ⟨#[122, 122, 115, 54, 53, 51, 57, 99, 32, 115, 105, 110, 107, 32, 114, 101, 102, 117, 115, 101, 115]⟩] 39)) (rCells (.slice none 0 0) ⟨w2.heap.size, 0, none⟩ fail) 29
  rw [World.size_alloc] at R4
  refine (newWriter_any (w2.heap.size + 1) ⟨w2.heap.size, 0, none⟩ fail _ R4).mono ?_
  rintro e w5 ⟨wb, bb, eb, db, rfl, E5, D5, ne1, ne2, L5, a1, a2, a3, a4⟩
  have s12 := H1.out.2.1.size
  have s23 := H2.out.2.1.size
  have L25 : Below w2.heap.size w2 w5 := (((Below.refl w2.heap.size w2).alloc (Nat.le_refl _) _).alloc (by simp) _).trans (L5.mono (by simp; omega))
  simp only [World.size_alloc] at a1 a2 a3 a4
  have L05 : Below w.heap.size w w5 := H1.out.2.1.trans ((H2.out.2.1.mono s12).trans (L25.mono (by omega)))
  have L15 : Below w1.heap.size w1 w5 := H2.out.2.1.trans (L25.mono (by omega))
  have FK : Far w5 (w2.heap.size + 1) wb bb eb (.slice none 0 0) ka key := far_of HK.out.1 L05 (by omega) (by omega) (by omega) (by omega)
  have FV : Far w5 (w2.heap.size + 1) wb bb eb (.slice none 0 0) va value := far_of HK.out.2.2.1 L05 (by omega) (by omega) (by omega) (by omega)
  have FKc : Far w5 (w2.heap.size + 1) wb bb eb (.slice none 0 0) kao key := far_of H1.out.2.2.2.1 L15 (by omega) (by omega) (by omega) (by omega)
  have FVc : Far w5 (w2.heap.size + 1) wb bb eb (.slice none 0 0) vao value := far_of H2.out.2.2.2.1 L25 (by omega) (by omega) (by omega) (by omega)
  have s25 := L25.size
  generalize hrb : w2.heap.size + 1 = rb at *
  have H5 := hide (And.intro E5 (And.intro D5 (And.intro L05 (And.intro FK (And.intro FV (And.intro FKc FVc))))))
  have HB0 : Hid (w.heap.size ≤ rb ∧ w.heap.size ≤ wb ∧ w.heap.size ≤ bb ∧ w.heap.size ≤ eb) := ⟨by omega, by omega, by omega, by omega⟩
  clear E5 D5 L5 L25 L05 L15 FK FV FKc FVc R4 hrb a1 a2 a3 a4
  generalize (⟨w2.heap.size, 0, none⟩ : Addr) = sa at *
  go_wp2_with fail
  refine (record_any rb wb bb eb db sa fail [] [] false (.slice none 0 0) false key value ka va kn kc vn vc w5 H5.out.1 (Or.inr ⟨rfl, rfl, fun _ => rfl, fun _ => rfl⟩) H5.out.2.1 ne2 ne1 H5.out.2.2.2.1 hkn hk1 hkc hkx H5.out.2.2.2.2.1 hvn hv1 hvc hvx).mono ?_
  rintro e w7 ⟨B7, S7, er7, sv7, ee7, rfl, E7, g7, s7⟩
  have D7 := blk_next H5.out.2.1 s7 ne2 ne1
  have s57 := s7.b.size
  have L07 : Below w.heap.size w w7 := H5.out.2.2.1.trans (s7.b.below (by
    rintro k (h | h)
    · rcases h with h | h | h | h
      · have := HB0.out.1; omega
      · have := HB0.out.2.1; omega
      · have := HB0.out.2.2.1; omega
      · simp [Value.ownBlock] at h
    · have := HB0.out.2.2.2; omega) H5.out.2.2.1.size)
  have N7 : ∀ k, sv7.ownBlock = some k → w.heap.size ≤ k := by
    intro k hk
    rcases s7.v with h | ⟨g, h1, h2⟩
    · rw [h] at hk; simp [Value.ownBlock] at hk
    · rw [h1] at hk; cases hk; have := H5.out.2.2.1.size; omega
  have H7 := hide (And.intro E7.bw (And.intro g7 (And.intro D7 (And.intro L07 (And.intro (H5.out.2.2.2.1.next s7).r (And.intro (H5.out.2.2.2.2.1.next s7).r (And.intro (H5.out.2.2.2.2.2.1.next s7) (H5.out.2.2.2.2.2.2.next s7))))))))
  clear E7 g7 s7 D7 L07 H5 ne2 ne1
  -- what is wanted
  obtain ⟨v8, w8, hrun8, o8, P8, b8⟩ := append_lit (w := w7) (v := .slice none 0 0) (D := []) (ns := [32]) (World.ownsRow_nil _ _ _ _) (by decide)
  have H8 := hide ((Wt.nil w7).next o8 P8 b8)
  clear o8 P8 b8
  go_wp2_with (at_builtin; refine wpList_append_by rfl (.tmp 41) (.tmp 42) 22 rfl _ _ rfl rfl hrun8 ?_)
  clear hrun8
  refine (hexTable_any w8 v8 _ key kao kn kcap H8.out.o (H7.out.2.2.2.2.2.2.1.r.below H8.out.L (Nat.le_refl _)) hkn hk1 (by simp) hkx (fun ad e => ?_)).mono ?_
  · have h1 := (H1.out.2.2.2.2.2 ad e).2.2.1
    refine ⟨fun h => ?_, ?_⟩
    · have := H8.out.n _ h; omega
    · have := H8.out.L.size; omega
  rintro e w9 ⟨v9, rfl, o9, P9, b9⟩
  have H9 := hide (H8.out.next o9 P9 b9)
  clear o9 P9 b9 H8
  obtain ⟨v10, w10, hrun10, o10, P10, b10⟩ := append_lit (ns := [10, 32]) H9.out.o (by simp [hexs_length]; omega)
  have H10 := hide (H9.out.next o10 P10 b10)
  clear o10 P10 b10 H9
  go_wp2_with (at_builtin; refine wpList_append_by rfl (.tmp 47) (.tmp 48) 22 rfl _ _ rfl rfl hrun10 ?_)
  clear hrun10
  refine (hexTable_any w10 v10 _ value vao vn vcap H10.out.o (H7.out.2.2.2.2.2.2.2.r.below H10.out.L (Nat.le_refl _)) hvn hv1 (by simp [hexs_length]; omega) hvx (fun ad e => ?_)).mono ?_
  · have h1 := (H2.out.2.2.2.2.2 ad e).2.2.1
    refine ⟨fun h => ?_, ?_⟩
    · have := H10.out.n _ h; omega
    · have := H10.out.L.size; omega
  rintro e w11 ⟨v11, rfl, o11, P11, b11⟩
  have H11 := hide (H10.out.next o11 P11 b11)
  clear o11 P11 b11 H10
  obtain ⟨v12, w12, hrun12, o12, P12, b12⟩ := append_lit (ns := [10]) H11.out.o (by simp [hexs_length]; omega)
  have W12 := H11.out.next o12 P12 b12
  have eD : [] ++ [32] ++ hexs key ++ [10, 32] ++ hexs value ++ [10] = recOf key value := by simp [recOf]
  rw [eD] at W12
  clear o12 P12 b12 H11 eD
  obtain ⟨wao, wcap, rfl, c1, c2, r12, n12, b12⟩ := owns_form W12.o
  have H12 := hide (And.intro W12 (And.intro r12 (And.intro n12 b12)))
  clear W12 r12 n12 b12
  go_wp2_with (at_builtin; refine wpList_append_by rfl (.tmp 53) (.tmp 54) 22 rfl _ _ rfl rfl hrun12 ?_)
  clear hrun12
  refine (equal_any w12 ka kao kn kc kn kcap key (conv_run w12 ka kn kc key (H7.out.2.2.2.2.1.below H12.out.1.L (Nat.le_refl _)) hkn HK.out.2.1) (conv_run w12 kao kn kcap key (H7.out.2.2.2.2.2.2.1.r.below H12.out.1.L (Nat.le_refl _)) hkn H1.out.2.2.2.2.1)).mono ?_
  rintro e w13 ⟨rfl, rfl⟩
  go_wp2_with fail
  refine (equal_any w13 va vao vn vc vn vcap value (conv_run w13 va vn vc value (H7.out.2.2.2.2.2.1.below H12.out.1.L (Nat.le_refl _)) hvn HK.out.2.2.2) (conv_run w13 vao vn vcap value (H7.out.2.2.2.2.2.2.2.r.below H12.out.1.L (Nat.le_refl _)) hvn H2.out.2.2.2.2.1)).mono ?_
  rintro e w12 ⟨rfl, rfl⟩
  have hE := Good.er H7.out.1 H7.out.2.1
  subst hE
  have D12 := H7.out.2.2.1.below H12.out.1.L H7.out.2.2.1.lt
  have RB := H7.out.1.below H12.out.1.L
  have HT : (recOf key value).length ≤ 10000000 := by simp [recOf, hexs_length]; omega
  have H0 : 0 < (recOf key value).length := by simp [recOf]
  have HF := hide (dflush_any db wb eb (errv sa fail) _ _ D12 (flush_final rb wb bb sa fail (recOf key value) B7 S7 (erOf fail (recOf key value)) sv7 _ RB H7.out.2.1 H0 HT))
  have HL : Hid (∀ w14 sv', Step w12 w14 rb wb bb sv7 sv' → Below w.heap.size w w14) := by
    intro w14 sv' st
    have s7 := H7.out.2.2.2.1.size
    have L012 := H7.out.2.2.2.1.trans (H12.out.1.L.mono s7)
    refine L012.trans (st.b.below ?_ L012.size)
    rintro k (h | h | h | h)
    · rw [h]; exact HB0.out.1
    · rw [h]; exact HB0.out.2.1
    · rw [h]; exact HB0.out.2.2.1
    · exact N7 k h
  have HW : Hid (∀ w14 sv', Step w12 w14 rb wb bb sv7 sv' → Rd w14 wao ((recOf key value).map (Value.int .u8))) := by
    intro w14 sv' st
    exact H12.out.2.1.but st.b (fun ad e => H7.out.1.old _ (H12.out.1.n _ (H12.out.2.2.2 ad e).2.2.2))
  have HRB := hide RB
  clear RB D12 N7
  cases fail with
  | true =>
    by_cases hlen : 65536 < (recOf key value).length
    · have eE : errv sa (erOf true (recOf key value)) = .iface 37 (.pointer (some sa)) := by simp [erOf, hlen, errv]
      have t3 : decide ((65536 : Int) < ((recOf key value).length : Int)) = true := by simp; omega
      rw [eE]
      go_wp2_with fail
      refine HF.out.mono ?_
      rintro e w14 ⟨rfl, B', S', er', sv', E14, eS, st⟩
      obtain rfl : S' = [] := eS
      obtain ⟨ao, cap, rfl, _⟩ := owns_form E14.sk.s
      have c0 := E14.sk.r.cell (j := 0) rfl
      have HX := hide (HL.out _ _ st)
      clear E14 st
      simp only [errv, if_true]
      go_wp2_with fail
      go_ret
      exact ⟨rfl, HX.out⟩
    · have eE : errv sa (erOf true (recOf key value)) = .nilIface := by simp [erOf, hlen, errv]
      have t3 : decide ((65536 : Int) < ((recOf key value).length : Int)) = false := by simp; omega
      rw [eE]
      go_wp2_with fail
      refine HF.out.mono ?_
      rintro e w14 ⟨rfl, B', S', er', sv', E14, eS, st⟩
      obtain rfl : S' = [] := eS
      obtain ⟨ao, cap, rfl, _⟩ := owns_form E14.sk.s
      have c0 := E14.sk.r.cell (j := 0) rfl
      have HX := hide (HL.out _ _ st)
      clear E14 st
      simp only [errv, if_true]
      go_wp2_with fail
      go_ret
      exact ⟨rfl, HX.out⟩
  | false =>
    have eE : errv sa (erOf false (recOf key value)) = .nilIface := by simp [erOf, errv]
    rw [eE]
    by_cases hlen : (recOf key value).length ≤ 65536
    · have t3 : decide (((recOf key value).length : Int) ≤ (65536 : Int)) = true := by simp; omega
      obtain rfl : S7 = [] := by
        rcases H7.out.2.1 with ⟨_, h, _⟩ | ⟨_, _, _, h⟩
        · cases h
        · exact h hlen
      obtain ⟨sao, scap, rfl, _⟩ := owns_form HRB.out.sk.s
      have c1 := HRB.out.sk.r.cell (j := 0) rfl
      go_wp2_with fail
      refine HF.out.mono ?_
      rintro e w14 ⟨rfl, B', S', er', sv', E14, eS, st⟩
      obtain rfl : S' = recOf key value := eS
      obtain ⟨ao, cap, rfl, _, _, r14, n14, _⟩ := owns_form E14.sk.s
      have c0 := E14.sk.r.cell (j := 0) rfl
      have HX := hide (And.intro (HL.out _ _ st) (And.intro (HW.out _ _ st) (And.intro r14 n14)))
      clear E14 st r14 n14 c1
      simp only [errv, Bool.false_eq_true, if_false]
      go_wp2_with fail
      refine (equal_any w14 ao wao _ cap _ wcap (recOf key value) (conv_run w14 ao _ cap _ HX.out.2.2.1 rfl HX.out.2.2.2) (conv_run w14 wao _ wcap _ HX.out.2.1 rfl H12.out.2.2.1)).mono ?_
      rintro e w15 ⟨rfl, rfl⟩
      go_wp2_with fail
      go_ret
      exact ⟨rfl, HX.out.1⟩
    · have t3 : decide (((recOf key value).length : Int) ≤ (65536 : Int)) = false := by simp; omega
      go_wp2_with fail
      refine HF.out.mono ?_
      rintro e w14 ⟨rfl, B', S', er', sv', E14, eS, st⟩
      obtain rfl : S' = recOf key value := eS
      obtain ⟨ao, cap, rfl, _, _, r14, n14, _⟩ := owns_form E14.sk.s
      have c0 := E14.sk.r.cell (j := 0) rfl
      have HX := hide (And.intro (HL.out _ _ st) (And.intro (HW.out _ _ st) (And.intro r14 n14)))
      clear E14 st r14 n14
      simp only [errv, Bool.false_eq_true, if_false]
      go_wp2_with fail
      refine (equal_any w14 ao wao _ cap _ wcap (recOf key value) (conv_run w14 ao _ cap _ HX.out.2.2.1 rfl HX.out.2.2.2) (conv_run w14 wao _ wcap _ HX.out.2.1 rfl H12.out.2.2.1)).mono ?_
      rintro e w15 ⟨rfl, rfl⟩
      go_wp2_with fail
      go_ret
      exact ⟨rfl, HX.out.1⟩

end Go.Proofs.YbulkeekaDoor
