/-
  THE STATE of a bufio.Writer over the law's sink; Available, Buffered, Flush.
-/
import Derived.Test.YbulkeekaDoorSink
namespace Go.Proofs.YbulkeekaDoor
open Go.RowKit
set_option linter.unusedSimpArgs false
set_option linter.unusedVariables false
attribute [local go_sem] meth27 meth42 meth55
attribute [local go_sem ↓] Go.wp_at_zero Go.wp_at_succ

theorem But.trans2 {S S1 : Nat → Prop} {a b c : World} (h : But S a b) (k : But S1 b c) (hs : ∀ i, i < a.heap.size → S1 i → S i) : But S a c :=
  ⟨k.os.trans h.os, k.tape.trans h.tape, k.output.trans h.output, Nat.le_trans h.size k.size, fun i hi hn => (k.block i (Nat.lt_of_lt_of_le hi h.size) (fun h1 => hn (hs i hi h1))).trans (h.block i hi hn)⟩

/-- the blocks that a writer's operation may write -/
def Mine (rb wb bb : Nat) (sv : Value) (k : Nat) : Prop := k = rb ∨ k = wb ∨ k = bb ∨ sv.ownBlock = some k

/-- what an operation leaves of the rest -/
structure Step (w w' : World) (rb wb bb : Nat) (sv sv' : Value) : Prop where
  b : But (Mine rb wb bb sv) w w'
  v : sv'.ownBlock = sv.ownBlock ∨ ∃ g, sv'.ownBlock = some g ∧ w.heap.size ≤ g

theorem Step.refl (w : World) (rb wb bb : Nat) (sv : Value) : Step w w rb wb bb sv sv := ⟨But.refl _ _, Or.inl rfl⟩

theorem Step.mine {w w' : World} {rb wb bb : Nat} {sv sv' : Value} (h : Step w w' rb wb bb sv sv') : ∀ i, i < w.heap.size → Mine rb wb bb sv' i → Mine rb wb bb sv i := by
  intro i hi hm
  rcases hm with h1 | h1 | h1 | h1
  · exact Or.inl h1
  · exact Or.inr (Or.inl h1)
  · exact Or.inr (Or.inr (Or.inl h1))
  · rcases h.v with h2 | ⟨g, h2, h3⟩
    · exact Or.inr (Or.inr (Or.inr (h2 ▸ h1)))
    · rw [h2] at h1; cases h1; omega

theorem Step.trans {w w1 w2 : World} {rb wb bb : Nat} {sv sv1 sv2 : Value} (h : Step w w1 rb wb bb sv sv1) (k : Step w1 w2 rb wb bb sv1 sv2) : Step w w2 rb wb bb sv sv2 := by
  refine ⟨h.b.trans2 k.b h.mine, ?_⟩
  rcases k.v with h2 | ⟨g, h2, h3⟩
  · rw [h2]; exact h.v
  · exact Or.inr ⟨g, h2, Nat.le_trans h.b.size h3⟩

structure BW (w : World) (rb wb bb : Nat) (sa : Addr) (fail : Bool) (B S : List Int) (er : Bool) (sv : Value) : Prop where
  hw : Blk w wb (wCells rb bb sa er B.length) 54
  hb : ∃ rest : List Int, (B ++ rest).length = 65536 ∧ Blk w bb ((B ++ rest).map (Value.int .u8)) 5
  sk : Sk w rb sa fail S sv
  n1 : rb ≠ wb
  n2 : rb ≠ bb
  n3 : wb ≠ bb
  n4 : sv.ownBlock ≠ some wb
  n5 : sv.ownBlock ≠ some bb

theorem BW.len {w : World} {rb wb bb : Nat} {sa : Addr} {fail : Bool} {B S : List Int} {er : Bool} {sv : Value} (h : BW w rb wb bb sa fail B S er sv) : B.length ≤ 65536 := by
  obtain ⟨r, hr, _⟩ := h.hb
  simp at hr; omega

theorem BW.drewN {w : World} {rb wb bb : Nat} {sa : Addr} {fail : Bool} {B S : List Int} {er : Bool} {sv : Value} (h : BW w rb wb bb sa fail B S er sv) (q : Nat) : BW (w.drewN q) rb wb bb sa fail B S er sv :=
  ⟨h.hw, h.hb, ⟨h.sk.r, h.sk.s, h.sk.n⟩, h.n1, h.n2, h.n3, h.n4, h.n5⟩

theorem Step.drewN {w w' : World} {rb wb bb : Nat} {sv sv' : Value} (h : Step w w' rb wb bb sv sv') (q : Nat) : Step w (w'.drewN q) rb wb bb sv sv' :=
  ⟨⟨h.b.os, h.b.tape, h.b.output, h.b.size, h.b.block⟩, h.v⟩

/-- one of the writer's own fields is stored -/
theorem BW.field {w : World} {rb wb bb : Nat} {sa : Addr} {fail : Bool} {B S : List Int} {er : Bool} {sv : Value} (h : BW w rb wb bb sa fail B S er sv) (j : Nat) (x : Value) (B' : List Int) (er' : Bool)
    (he : (wCells rb bb sa er B.length).set j x = wCells rb bb sa er' B'.length) (hB : ∃ rest : List Int, (B' ++ rest).length = 65536 ∧ Blk w bb ((B' ++ rest).map (Value.int .u8)) 5) :
    BW (w.setCell ⟨wb, j, none⟩ x) rb wb bb sa fail B' S er' sv ∧ Step w (w.setCell ⟨wb, j, none⟩ x) rb wb bb sv sv := by
  have P : But (fun k => k = wb) w (w.setCell ⟨wb, j, none⟩ x) := (But.refl (fun k => k = wb) w).setCell (p := ⟨wb, j, none⟩) (Or.inr rfl) x
  refine ⟨⟨?_, ?_, h.sk.but P h.n1 (fun k hk e => h.n4 (e ▸ hk)), h.n1, h.n2, h.n3, h.n4, h.n5⟩, ⟨P.mono (fun k _ e => Or.inr (Or.inl e)), Or.inl rfl⟩⟩
  · rw [← he]; exact h.hw.set j x
  · obtain ⟨rest, h1, h2⟩ := hB
    exact ⟨rest, h1, h2.but P (Ne.symm h.n3)⟩

set_option maxHeartbeats 400000 in
theorem available_any (rb wb bb : Nat) (sa : Addr) (fail : Bool) (B S : List Int) (er : Bool) (sv : Value) (w : World) (h : BW w rb wb bb sa fail B S er sv) :
    Calls Ybad.prog 16 #[.pointer (some ⟨wb, 0, none⟩)] w fun e w' => e = .returned (.int .i64 (65536 - (B.length : Int))) ∧ ∃ q, w' = w.drewN q := by
  have c1 := h.hw.cell (j := 1) rfl
  have c2 := h.hw.cell (j := 2) rfl
  have hl := h.len
  go_enter Ybad.func16, Ybad.ntmps16
  go_wp2
  go_quiet (fail)
  go_wp2
  go_ret
  exact ⟨by simp, _, rfl⟩

set_option maxHeartbeats 400000 in
theorem buffered_any (rb wb bb : Nat) (sa : Addr) (fail : Bool) (B S : List Int) (er : Bool) (sv : Value) (w : World) (h : BW w rb wb bb sa fail B S er sv) :
    Calls Ybad.prog 17 #[.pointer (some ⟨wb, 0, none⟩)] w fun e w' => e = .returned (.int .i64 (B.length : Int)) ∧ w' = w := by
  have c2 := h.hw.cell (j := 2) rfl
  go_enter Ybad.func17, Ybad.ntmps17
  go_wp2
  go_ret
  exact ⟨rfl, rfl⟩

set_option maxHeartbeats 400000 in
theorem flush_err (rb wb bb : Nat) (sa : Addr) (fail : Bool) (B S : List Int) (sv : Value) (w : World) (h : BW w rb wb bb sa fail B S true sv) :
    Calls Ybad.prog 15 #[.pointer (some ⟨wb, 0, none⟩)] w fun e w' => e = .returned (.iface 37 (.pointer (some sa))) ∧ w' = w := by
  have c0 := h.hw.cell (j := 0) rfl
  simp only [errv, if_true] at c0
  go_enter Ybad.func15, Ybad.ntmps15
  go_wp2
  go_ret
  exact ⟨rfl, rfl⟩

set_option maxHeartbeats 400000 in
theorem flush_none (rb wb bb : Nat) (sa : Addr) (fail : Bool) (S : List Int) (sv : Value) (w : World) (h : BW w rb wb bb sa fail [] S false sv) :
    Calls Ybad.prog 15 #[.pointer (some ⟨wb, 0, none⟩)] w fun e w' => e = .returned .nilIface ∧ w' = w := by
  have c0 := h.hw.cell (j := 0) rfl
  have c2 := h.hw.cell (j := 2) rfl
  simp [errv] at c0 c2
  go_enter Ybad.func15, Ybad.ntmps15
  go_wp2
  go_ret
  exact ⟨rfl, rfl⟩

set_option maxHeartbeats 1000000 in
theorem flush_fail (rb wb bb : Nat) (sa : Addr) (B S : List Int) (sv : Value) (w : World) (h : BW w rb wb bb sa true B S false sv) (hB : 0 < B.length) :
    Calls Ybad.prog 15 #[.pointer (some ⟨wb, 0, none⟩)] w fun e w' => e = .returned (.iface 37 (.pointer (some sa))) ∧ BW w' rb wb bb sa true B S true sv ∧ Step w w' rb wb bb sv sv := by
  have c0 := h.hw.cell (j := 0) rfl
  have c1 := h.hw.cell (j := 1) rfl
  have c2 := h.hw.cell (j := 2) rfl
  have c3 := h.hw.cell (j := 3) rfl
  simp only [errv, Bool.false_eq_true, if_false] at c0
  have hl := h.len
  have hb0 : (0 : Int) ≤ (B.length : Int) := by omega
  have hb1 : (B.length : Int) ≤ 65536 := by omega
  have hb2 : ((B.length : Int) == 0) = false := beq_eq_false_iff_ne.2 (by omega)
  go_enter Ybad.func15, Ybad.ntmps15
  go_wp2
  go_region_held3 (fun w' => w'.cell? ⟨wb, 3, none⟩ = some (.iface 27 (.pointer (some ⟨rb, 0, none⟩))) ∧ w'.cell? ⟨wb, 1, none⟩ = some (.slice (some ⟨bb, 0, none⟩) 65536 65536) ∧ w'.cell? ⟨wb, 2, none⟩ = some (.int .i64 (B.length : Int))) (go_keep)
    (first | (go_at_call 33; refine (sink_fail rb sa sv _ _ (by exact h.sk.r)).mono ?_; rintro e w' ⟨rfl, q, rfl⟩))
  have f0 := h.hw.frozen 0
  have f2 := h.hw.frozen 2
  have X1 := (h.drewN (1 + q)).field 2 (.int .i64 (B.length : Int)) B false rfl (h.drewN (1 + q)).hb
  have X2 := X1.1.field 0 (.iface 37 (.pointer (some sa))) B true rfl X1.1.hb
  have HX : Hid (BW (((w.drewN (1 + q)).setCell ⟨wb, 2, none⟩ (.int .i64 (B.length : Int))).setCell ⟨wb, 0, none⟩ (.iface 37 (.pointer (some sa)))) rb wb bb sa true B S true sv ∧ Step w (((w.drewN (1 + q)).setCell ⟨wb, 2, none⟩ (.int .i64 (B.length : Int))).setCell ⟨wb, 0, none⟩ (.iface 37 (.pointer (some sa)))) rb wb bb sv sv) :=
    ⟨X2.1, ((Step.refl w rb wb bb sv).drewN (1 + q)).trans (X1.2.trans X2.2)⟩
  clear X1 X2 h
  go_wp2
  go_ret
  exact ⟨rfl, HX.out.1, HX.out.2⟩

theorem flush_end {w w0 w1 : World} {rb wb bb : Nat} {sa : Addr} {B S : List Int} {sv sv' : Value} (h : BW w rb wb bb sa false B S false sv) (q : Nat) (h0 : w0 = w.drewN q)
    (P : But (fun k => k = rb ∨ sv.ownBlock = some k) w0 w1) (K : Sk w1 rb sa false (S ++ B) sv') (hat : sv'.ownBlock = sv.ownBlock ∨ sv'.ownBlock = some w0.heap.size) :
    BW (w1.setCell ⟨wb, 2, none⟩ (.int .i64 0)) rb wb bb sa false [] (S ++ B) false sv' ∧ Step w (w1.setCell ⟨wb, 2, none⟩ (.int .i64 0)) rb wb bb sv sv' := by
  subst h0
  have h2 := h.drewN q
  have hsz : (w.drewN q).heap.size = w.heap.size := rfl
  have hne : ∀ k, sv.ownBlock ≠ some k → k < w.heap.size → sv'.ownBlock ≠ some k := by
    intro k h1 h2 h3
    rcases hat with h4 | h4
    · exact h1 (h4 ▸ h3)
    · rw [h4, hsz] at h3; cases h3; omega
  have B1 : BW w1 rb wb bb sa false B (S ++ B) false sv' := by
    refine ⟨h2.hw.but P (by rintro (e | e); exact h.n1 e.symm; exact h.n4 e), ?_, K, h.n1, h.n2, h.n3, hne _ h.n4 h.hw.lt, hne _ h.n5 ?_⟩
    · obtain ⟨rest, e1, e2⟩ := h2.hb
      exact ⟨rest, e1, e2.but P (by rintro (e | e); exact h.n2 e.symm; exact h.n5 e)⟩
    · obtain ⟨rest, e1, e2⟩ := h.hb; exact e2.lt
  have S1 : Step w w1 rb wb bb sv sv' := by
    have P' : But (Mine rb wb bb sv) w w1 := ((Step.refl w rb wb bb sv).drewN q).b.trans (P.mono (fun k _ hk => by rcases hk with e | e; exact Or.inl e; exact Or.inr (Or.inr (Or.inr e))))
    exact ⟨P', by rcases hat with h4 | h4; exact Or.inl h4; exact Or.inr ⟨_, h4, Nat.le_of_eq hsz.symm⟩⟩
  have X := B1.field 2 (.int .i64 0) [] false rfl (by
    obtain ⟨rest, e1, e2⟩ := B1.hb
    exact ⟨B ++ rest, by simpa using e1, by simpa using e2⟩)
  exact ⟨X.1, S1.trans X.2⟩

set_option maxHeartbeats 1000000 in
theorem flush_ok (rb wb bb : Nat) (sa : Addr) (B S : List Int) (sv : Value) (w : World) (h : BW w rb wb bb sa false B S false sv) (hB : 0 < B.length) (hS : S.length + B.length ≤ 10000000) :
    Calls Ybad.prog 15 #[.pointer (some ⟨wb, 0, none⟩)] w fun e w' => e = .returned .nilIface ∧ ∃ sv', BW w' rb wb bb sa false [] (S ++ B) false sv' ∧ Step w w' rb wb bb sv sv' := by
  have c0 := h.hw.cell (j := 0) rfl
  have c1 := h.hw.cell (j := 1) rfl
  have c2 := h.hw.cell (j := 2) rfl
  have c3 := h.hw.cell (j := 3) rfl
  simp only [errv, Bool.false_eq_true, if_false] at c0
  have hl := h.len
  have hb0 : (0 : Int) ≤ (B.length : Int) := by omega
  have hb1 : (B.length : Int) ≤ 65536 := by omega
  have hb2 : ((B.length : Int) == 0) = false := beq_eq_false_iff_ne.2 (by omega)
  have hrd : Rd w (some ⟨bb, 0, none⟩) (B.map (Value.int .u8)) := by
    obtain ⟨rest, e1, e2⟩ := h.hb
    have := Rd.of_blk e2 0 B.length
    simpa using this
  have nw : ¬ (wb = rb ∨ sv.ownBlock = some wb) := by rintro (e | e); exact h.n1 e.symm; exact h.n4 e
  have HH : Hid (BW w rb wb bb sa false B S false sv) := h
  have HR : Hid (Rd w (some ⟨bb, 0, none⟩) (B.map (Value.int .u8))) := hrd
  have f2 := h.hw.frozen 2
  have HB := h.hw
  clear h hrd
  go_enter Ybad.func15, Ybad.ntmps15
  go_wp2
  go_region_held3 (fun w' => w'.cell? ⟨wb, 3, none⟩ = some (.iface 27 (.pointer (some ⟨rb, 0, none⟩))) ∧ w'.cell? ⟨wb, 1, none⟩ = some (.slice (some ⟨bb, 0, none⟩) 65536 65536) ∧ w'.cell? ⟨wb, 2, none⟩ = some (.int .i64 (B.length : Int))) (go_keep)
    (first | (go_at_call 33; refine (sink_ok rb sa sv S B (some ⟨bb, 0, none⟩) B.length 65536 _ (by exact ⟨HH.out.sk.r, HH.out.sk.s, HH.out.sk.n⟩) (by exact HR.out) rfl (by simp) hS).mono ?_; rintro e w1 ⟨rfl, sv', K, P, hat⟩; have k3 := P.cell (p := ⟨wb, 3, none⟩) nw c3; have k1 := P.cell (p := ⟨wb, 1, none⟩) nw c1; have k2 := P.cell (p := ⟨wb, 2, none⟩) nw c2))
  have g2 : w1.frozen? ⟨wb, 2, none⟩ = false := ((show Blk w.drew wb _ 54 from HB).but P nw).frozen 2
  have HX : Hid (BW (w1.setCell ⟨wb, 2, none⟩ (.int .i64 0)) rb wb bb sa false [] (S ++ B) false sv' ∧ Step w (w1.setCell ⟨wb, 2, none⟩ (.int .i64 0)) rb wb bb sv sv') := flush_end HH.out 1 rfl P K hat
  clear K P hat HB HH HR
  go_wp2
  go_ret
  exact ⟨rfl, sv', HX.out.1, HX.out.2⟩

end Go.Proofs.YbulkeekaDoor
