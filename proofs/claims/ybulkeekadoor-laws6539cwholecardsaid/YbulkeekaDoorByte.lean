/-
  (*bufio.Writer).WriteByte over the law's sink.
-/
import Derived.Test.YbulkeekaDoorFlush
namespace Go.Proofs.YbulkeekaDoor
open Go.RowKit
set_option linter.unusedSimpArgs false
set_option linter.unusedVariables false
attribute [local go_sem] meth27 meth42 meth55
attribute [local go_sem ↓] Go.wp_at_zero Go.wp_at_succ

theorem hide {p : Prop} (h : p) : Hid p := h

/-- how buffer, sink and error stand to what has been written in all -/
def Good (fail : Bool) (T B S : List Int) (er : Bool) : Prop :=
  (er = true ∧ fail = true ∧ 65536 < T.length ∧ S = []) ∨ (er = false ∧ S ++ B = T ∧ (fail = true → S = []) ∧ (T.length ≤ 65536 → S = []))

theorem Good.err {fail : Bool} {T B S : List Int} (h : Good fail T B S true) (xs : List Int) : Good fail (T ++ xs) B S true := by
  rcases h with ⟨h1, h2, h3, h4⟩ | ⟨h1, _⟩
  · exact Or.inl ⟨h1, h2, by simp; omega, h4⟩
  · cases h1

theorem Good.fits {fail : Bool} {T B S : List Int} (h : Good fail T B S false) (xs : List Int) (hf : B.length + xs.length ≤ 65536) : Good fail (T ++ xs) (B ++ xs) S false := by
  rcases h with ⟨h1, _⟩ | ⟨h1, h2, h3, h4⟩
  · cases h1
  · refine Or.inr ⟨rfl, by rw [← h2]; simp, h3, fun hl => h4 (by simp at hl; omega)⟩

/-- the buffer is full and the sink refuses -/
theorem Good.refused {T B S : List Int} (h : Good true T B S false) (B' xs : List Int) (hf : 65536 < B.length + xs.length) : Good true (T ++ xs) B' S true := by
  rcases h with ⟨h1, _⟩ | ⟨h1, h2, h3, h4⟩
  · cases h1
  · have := h3 rfl
    subst this
    exact Or.inl ⟨rfl, rfl, by simp at h2; subst h2; simp; omega, rfl⟩

/-- the buffer goes over to the sink -/
theorem Good.flushed {T B S : List Int} (h : Good false T B S false) (xs ys : List Int) (hx : xs ++ ys ≠ []) (hf : B.length + xs.length = 65536) (hy : ys ≠ []) : Good false (T ++ (xs ++ ys)) ys (S ++ (B ++ xs)) false := by
  rcases h with ⟨h1, _⟩ | ⟨h1, h2, h3, h4⟩
  · cases h1
  · refine Or.inr ⟨rfl, by rw [← h2]; simp, (fun h => by cases h), fun hl => ?_⟩
    have : 0 < ys.length := by cases ys with | nil => exact absurd rfl hy | cons _ _ => simp
    rw [← h2] at hl; simp at hl; omega

theorem Good.len {fail : Bool} {T B S : List Int} (h : Good fail T B S false) : S.length + B.length = T.length := by
  rcases h with ⟨h1, _⟩ | ⟨h1, h2, h3, h4⟩
  · cases h1
  · rw [← h2]; simp

/-- bytes laid behind what the buffer holds -/
theorem BW.lay {w : World} {rb wb bb : Nat} {sa : Addr} {fail : Bool} {B S : List Int} {sv : Value} (h : BW w rb wb bb sa fail B S false sv) {w1 : World} (xs : List Int) (L : List Value)
    (hL : ∀ rest : List Int, (B ++ rest).length = 65536 → Blk w bb ((B ++ rest).map (Value.int .u8)) 5 → ∃ rest', (B ++ xs ++ rest').length = 65536 ∧ Blk w1 bb ((B ++ xs ++ rest').map (Value.int .u8)) 5)
    (P : But (fun k => k = bb) w w1) (n : Int) (hn : n = ((B ++ xs).length : Int)) :
    BW (w1.setCell ⟨wb, 2, none⟩ (.int .i64 n)) rb wb bb sa fail (B ++ xs) S false sv ∧ Step w (w1.setCell ⟨wb, 2, none⟩ (.int .i64 n)) rb wb bb sv sv := by
  subst hn
  have W1 : Blk w1 wb (wCells rb bb sa false B.length) 54 := h.hw.but P h.n3
  have K1 : Sk w1 rb sa fail S sv := h.sk.but P h.n2 (fun k hk e => h.n5 (e ▸ hk))
  obtain ⟨rest, e1, e2⟩ := h.hb
  obtain ⟨rest', e3, e4⟩ := hL rest e1 e2
  have Q : But (fun k => k = wb) w1 (w1.setCell ⟨wb, 2, none⟩ (.int .i64 ((B ++ xs).length : Int))) := (But.refl (fun k => k = wb) w1).setCell (p := ⟨wb, 2, none⟩) (Or.inr rfl) _
  refine ⟨⟨W1.set 2 _, ⟨rest', e3, e4.but Q (Ne.symm h.n3)⟩, K1.but Q h.n1 (fun k hk e => h.n4 (e ▸ hk)), h.n1, h.n2, h.n3, h.n4, h.n5⟩, ?_, Or.inl rfl⟩
  exact (P.mono (fun k _ e => Or.inr (Or.inr (Or.inl e)))).trans (Q.mono (fun k _ e => Or.inr (Or.inl e)))

theorem BW.push {w : World} {rb wb bb : Nat} {sa : Addr} {fail : Bool} {B S : List Int} {sv : Value} (h : BW w rb wb bb sa fail B S false sv) (hl : B.length < 65536) (c : Int) :
    BW ((w.setCell ⟨bb, B.length, none⟩ (.int .u8 c)).setCell ⟨wb, 2, none⟩ (.int .i64 ((B.length : Int) + 1))) rb wb bb sa fail (B ++ [c]) S false sv ∧
      Step w ((w.setCell ⟨bb, B.length, none⟩ (.int .u8 c)).setCell ⟨wb, 2, none⟩ (.int .i64 ((B.length : Int) + 1))) rb wb bb sv sv := by
  refine h.lay [c] [] (fun rest e1 e2 => ?_) ((But.refl (fun k => k = bb) w).setCell (p := ⟨bb, B.length, none⟩) (Or.inr rfl) _) _ (by simp)
  cases rest with
  | nil => simp at e1; omega
  | cons r rest =>
    refine ⟨rest, by simpa using e1, ?_⟩
    have := e2.set B.length (.int .u8 c)
    simpa using this

theorem BW.room {w : World} {rb wb bb : Nat} {sa : Addr} {fail : Bool} {B S : List Int} {er : Bool} {sv : Value} (h : BW w rb wb bb sa fail B S er sv) (hl : B.length < 65536) :
    (∃ x, w.cell? ⟨bb, B.length, none⟩ = some x) ∧ w.frozen? ⟨bb, B.length, none⟩ = false := by
  obtain ⟨rest, e1, e2⟩ := h.hb
  refine ⟨?_, e2.frozen _⟩
  rw [e2.cell']
  have : B.length < ((B ++ rest).map (Value.int .u8)).length := by simp at e1 ⊢; omega
  exact ⟨_, List.getElem?_eq_getElem this⟩

set_option maxHeartbeats 1000000 in
theorem byte_fits (rb wb bb : Nat) (sa : Addr) (fail : Bool) (B S : List Int) (sv : Value) (c : Int) (w : World) (h : BW w rb wb bb sa fail B S false sv) (hl : B.length < 65536) :
    Calls Ybad.prog 13 #[.pointer (some ⟨wb, 0, none⟩), .int .u8 c] w fun e w' => e = .returned .nilIface ∧ BW w' rb wb bb sa fail (B ++ [c]) S false sv ∧ Step w w' rb wb bb sv sv := by
  have c0 := h.hw.cell (j := 0) rfl
  have c1 := h.hw.cell (j := 1) rfl
  have c2 := h.hw.cell (j := 2) rfl
  have f2 := h.hw.frozen 2
  simp only [errv, Bool.false_eq_true, if_false] at c0
  obtain ⟨⟨x0, cb⟩, fb⟩ := h.room hl
  have hb0 : (0 : Int) ≤ (B.length : Int) := by omega
  have hb1 : (B.length : Int) < 65536 := by omega
  have hle : decide (65536 - (B.length : Int) ≤ 0) = false := by simp; omega
  have hn3 := h.n3
  have hn3' : ¬ bb = wb := fun e => h.n3 e.symm
  have HH : Hid (BW w rb wb bb sa fail B S false sv) := h
  clear h
  go_enter Ybad.func13, Ybad.ntmps13
  go_wp2_with (go_at_call 16; refine (available_any rb wb bb sa fail B S false sv _ HH.out).mono ?_; rintro e w1 ⟨rfl, q, rfl⟩)
  go_region_held3 (fun w' => w'.cell? ⟨wb, 1, none⟩ = some (.slice (some ⟨bb, 0, none⟩) 65536 65536) ∧ w'.cell? ⟨wb, 2, none⟩ = some (.int .i64 (B.length : Int))) (go_keep) (fail)
  have X := (HH.out.drewN (q + 1)).push hl c
  have HX : Hid (BW (((w.drewN (q + 1)).setCell ⟨bb, B.length, none⟩ (.int .u8 c)).setCell ⟨wb, 2, none⟩ (.int .i64 ((B.length : Int) + 1))) rb wb bb sa fail (B ++ [c]) S false sv ∧ Step w (((w.drewN (q + 1)).setCell ⟨bb, B.length, none⟩ (.int .u8 c)).setCell ⟨wb, 2, none⟩ (.int .i64 ((B.length : Int) + 1))) rb wb bb sv sv) :=
    ⟨X.1, ((Step.refl w rb wb bb sv).drewN (q + 1)).trans X.2⟩
  clear X HH
  go_wp2
  go_ret
  exact ⟨rfl, HX.out.1, HX.out.2⟩

set_option maxHeartbeats 1000000 in
theorem byte_err (rb wb bb : Nat) (sa : Addr) (fail : Bool) (B S : List Int) (sv : Value) (c : Int) (w : World) (h : BW w rb wb bb sa fail B S true sv) :
    Calls Ybad.prog 13 #[.pointer (some ⟨wb, 0, none⟩), .int .u8 c] w fun e w' => e = .returned (.iface 37 (.pointer (some sa))) ∧ w' = w := by
  have c0 := h.hw.cell (j := 0) rfl
  simp only [errv, if_true] at c0
  go_enter Ybad.func13, Ybad.ntmps13
  go_wp2
  go_ret
  exact ⟨rfl, rfl⟩

set_option maxHeartbeats 1000000 in
theorem byte_refused (rb wb bb : Nat) (sa : Addr) (B S : List Int) (sv : Value) (c : Int) (w : World) (h : BW w rb wb bb sa true B S false sv) (hl : B.length = 65536) :
    Calls Ybad.prog 13 #[.pointer (some ⟨wb, 0, none⟩), .int .u8 c] w fun e w' => e = .returned (.iface 37 (.pointer (some sa))) ∧ BW w' rb wb bb sa true B S true sv ∧ Step w w' rb wb bb sv sv := by
  have c0 := h.hw.cell (j := 0) rfl
  simp only [errv, Bool.false_eq_true, if_false] at c0
  have hle : decide (65536 - (B.length : Int) ≤ 0) = true := by simp; omega
  have HH : Hid (BW w rb wb bb sa true B S false sv) := h
  have HL : Hid (B.length = 65536) := hl
  have hl' : 0 < B.length := by omega
  clear h hl
  go_enter Ybad.func13, Ybad.ntmps13
  go_wp2_with (first
    | (go_at_call 16; refine (available_any rb wb bb sa true B S false sv _ HH.out).mono ?_; rintro e w1 ⟨rfl, q, rfl⟩)
    | (go_at_call 15; refine (flush_fail rb wb bb sa B S sv _ (by exact HH.out.drewN _) hl').mono ?_; rintro e w2 ⟨rfl, h2, s2⟩; have d0 := h2.hw.cell (j := 0) rfl; simp only [errv, if_true] at d0; have H2 := hide (And.intro h2 s2); clear h2 s2))
  go_ret
  exact ⟨rfl, H2.out.1, ((Step.refl w rb wb bb sv).drewN _).trans H2.out.2⟩

set_option maxHeartbeats 1000000 in
theorem byte_flushed (rb wb bb : Nat) (sa : Addr) (B S : List Int) (sv : Value) (c : Int) (w : World) (h : BW w rb wb bb sa false B S false sv) (hl : B.length = 65536) (hS : S.length + B.length ≤ 10000000) :
    Calls Ybad.prog 13 #[.pointer (some ⟨wb, 0, none⟩), .int .u8 c] w fun e w' => e = .returned .nilIface ∧ ∃ sv', BW w' rb wb bb sa false [c] (S ++ B) false sv' ∧ Step w w' rb wb bb sv sv' := by
  have c0 := h.hw.cell (j := 0) rfl
  simp only [errv, Bool.false_eq_true, if_false] at c0
  have hle : decide (65536 - (B.length : Int) ≤ 0) = true := by simp; omega
  have HH : Hid (BW w rb wb bb sa false B S false sv) := h
  have hl' : 0 < B.length := by omega
  have hn3' : ¬ bb = wb := fun e => h.n3 e.symm
  have HL : Hid (B.length = 65536) := hl
  clear h hl
  go_enter Ybad.func13, Ybad.ntmps13
  go_wp2_with (first
    | (go_at_call 16; refine (available_any rb wb bb sa false B S false sv _ HH.out).mono ?_; rintro e w1 ⟨rfl, q, rfl⟩)
    | (go_at_call 15; refine (flush_ok rb wb bb sa B S sv _ (by exact HH.out.drewN _) hl' hS).mono ?_; rintro e w2 ⟨rfl, sv', h2, s2⟩; have d1 := h2.hw.cell (j := 1) rfl; have d2 := h2.hw.cell (j := 2) rfl; have g2 := h2.hw.frozen 2; obtain ⟨⟨x0, cb⟩, fb⟩ := h2.room (by decide); simp only [List.length_nil] at d2 cb fb; have H2 := hide (And.intro h2 s2); clear h2 s2))
  go_region_held3 (fun w' => w'.cell? ⟨wb, 1, none⟩ = some (.slice (some ⟨bb, 0, none⟩) 65536 65536) ∧ w'.cell? ⟨wb, 2, none⟩ = some (.int .i64 ((0 : Nat) : Int))) (go_keep) (fail)
  have X := H2.out.1.push (by decide) c
  have HX : Hid (BW (((w2.setCell ⟨bb, 0, none⟩ (.int .u8 c)).setCell ⟨wb, 2, none⟩ (.int .i64 1)).drewN 1) rb wb bb sa false [c] (S ++ B) false sv' ∧ Step w (((w2.setCell ⟨bb, 0, none⟩ (.int .u8 c)).setCell ⟨wb, 2, none⟩ (.int .i64 1)).drewN 1) rb wb bb sv sv') :=
    ⟨X.1.drewN 1, (((Step.refl w rb wb bb sv).drewN q).trans (H2.out.2.trans X.2)).drewN 1⟩
  clear X HH H2
  go_wp2
  go_ret
  exact ⟨rfl, sv', HX.out.1, HX.out.2⟩

/-- WriteByte, whatever the state -/
theorem byte_any (rb wb bb : Nat) (sa : Addr) (fail : Bool) (T B S : List Int) (er : Bool) (sv : Value) (c : Int) (w : World) (h : BW w rb wb bb sa fail B S er sv) (g : Good fail T B S er) (hT : T.length ≤ 10000000) :
    Calls Ybad.prog 13 #[.pointer (some ⟨wb, 0, none⟩), .int .u8 c] w fun e w' => ∃ B' S' er' sv', e = .returned (errv sa er') ∧ BW w' rb wb bb sa fail B' S' er' sv' ∧ Good fail (T ++ [c]) B' S' er' ∧ Step w w' rb wb bb sv sv' := by
  cases er with
  | true =>
    refine (byte_err rb wb bb sa fail B S sv c w h).mono ?_
    rintro e w' ⟨rfl, rfl⟩
    exact ⟨B, S, true, sv, rfl, h, g.err _, Step.refl _ _ _ _ _⟩
  | false =>
    have hl := h.len
    have hg := g.len
    by_cases hf : B.length < 65536
    · refine (byte_fits rb wb bb sa fail B S sv c w h hf).mono ?_
      rintro e w' ⟨rfl, h1, s1⟩
      exact ⟨_, S, false, sv, rfl, h1, g.fits [c] (by simp; omega), s1⟩
    · cases fail with
      | true =>
        refine (byte_refused rb wb bb sa B S sv c w h (by omega)).mono ?_
        rintro e w' ⟨rfl, h1, s1⟩
        exact ⟨B, S, true, sv, rfl, h1, g.refused B [c] (by simp; omega), s1⟩
      | false =>
        refine (byte_flushed rb wb bb sa B S sv c w h (by omega) (by omega)).mono ?_
        rintro e w' ⟨rfl, sv', h1, s1⟩
        refine ⟨[c], S ++ B, false, sv', rfl, h1, ?_, s1⟩
        have := g.flushed [] [c] (by simp) (by simp; omega) (by simp)
        simpa using this

end Go.Proofs.YbulkeekaDoor
