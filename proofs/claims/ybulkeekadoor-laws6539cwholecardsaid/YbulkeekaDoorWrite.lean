/-
  (*bufio.Writer).Write over the law's sink, of at most 1024 bytes.
-/
import Derived.Test.YbulkeekaDoorByte
import Derived.Deep.LoopGhost
namespace Go.Proofs.YbulkeekaDoor
open Go.RowKit
set_option linter.unusedSimpArgs false
set_option linter.unusedVariables false
attribute [local go_sem] meth27 meth42 meth55
attribute [local go_sem ↓] Go.wp_at_zero Go.wp_at_succ

theorem drewN2 (w : World) (a b : Nat) : (w.drewN a).drewN b = w.drewN (a + b) := by simp [World.drewN, Nat.add_assoc]

theorem But.drewL {S : Nat → Prop} {w w' : World} (h : But S w w') (q : Nat) : But S (w.drewN q) w' := ⟨h.os, h.tape, h.output, h.size, h.block⟩

/-- copy(b.buf[b.n:], p), of k cells: the run, and what it lays -/
theorem copy_into {w : World} {rb wb bb : Nat} {sa : Addr} {fail : Bool} {B S : List Int} {sv : Value} (h : BW w rb wb bb sa fail B S false sv) (xs : List Int) (ad : Addr) (m c k : Nat) (hx : Rd w (some ad) (xs.map (Value.int .u8)))
    (hm : xs.length = m) (hk : k = Nat.min m (65536 - B.length)) :
    ∃ w1, (Builtin.copy_ #[22, 22] 3 #[.slice (some ⟨bb, B.length, none⟩) (65536 - B.length) (65536 - B.length), .slice (some ad) m c]).run Ybad.prog w = .ok (.int .i64 (k : Int)) w1 ∧ But (fun i => i = bb) w w1 ∧
      ∀ rest : List Int, (B ++ rest).length = 65536 → Blk w bb ((B ++ rest).map (Value.int .u8)) 5 → ∃ rest', (B ++ xs.take k ++ rest').length = 65536 ∧ Blk w1 bb ((B ++ xs.take k ++ rest').map (Value.int .u8)) 5 := by
  obtain ⟨rest, e1, e2⟩ := h.hb
  have hkm : k ≤ m := by rw [hk]; exact Nat.min_le_left _ _
  have hkr : k ≤ 65536 - B.length := by rw [hk]; exact Nat.min_le_right _ _
  have hrl : B.length + rest.length = 65536 := by simpa using e1
  have hr := run_copy_row (P := Ybad.prog) w 22 22 3 5 bb B.length (65536 - B.length) (65536 - B.length) ad m c ((B ++ rest).map (Value.int .u8)).toArray 5 ((xs.take k).map (Value.int .u8)) Ybad.underlying22 size5 e2
    (by simp only [List.length_map, List.length_take, hm]; rw [Nat.min_eq_left hkm]; exact hk)
    (fun j v hv => by
      have hv' : (xs.map (Value.int .u8))[j]? = some v := by
        rw [List.map_take, List.getElem?_take] at hv
        split at hv
        · exact hv
        · cases hv
      obtain ⟨ad', ea, hc⟩ := hx j v hv'
      cases ea; exact hc)
    (by simp; omega) (ints_one _ _)
  refine ⟨_, by rw [hr]; simp only [List.length_map, List.length_take, hm, Nat.min_eq_left hkm]; rfl, (But.refl (fun i => i = bb) w).setRow (Or.inr rfl) _, fun rest0 e3 e4 => ?_⟩
  refine ⟨rest.drop k, by simp [hm]; omega, ?_⟩
  unfold Blk
  rw [setRow_heap w bb _ _ 5 (0, 0) e2]
  congr 2
  simp [hm, Nat.min_eq_left hkm, List.take_append_of_le_length, List.drop_append]

theorem Step.rd {w w' : World} {rb wb bb : Nat} {sv sv' : Value} (h : Step w w' rb wb bb sv sv') {ad : Addr} {xs : List Value} (hx : Rd w (some ad) xs) (hn : ¬ Mine rb wb bb sv ad.block) : Rd w' (some ad) xs :=
  hx.but h.b (fun ad' e => by cases e; exact hn)

set_option maxHeartbeats 1000000 in
theorem write_err (rb wb bb : Nat) (sa : Addr) (fail : Bool) (B S : List Int) (sv : Value) (ao : Option Addr) (m c : Nat) (w : World) (h : BW w rb wb bb sa fail B S true sv) :
    Calls Ybad.prog 35 #[.pointer (some ⟨wb, 0, none⟩), .slice ao m c] w fun e w' => e = .returned (.tuple #[.int .i64 0, .iface 37 (.pointer (some sa))]) ∧ ∃ q, w' = w.drewN q := by
  have HH : Hid (BW w rb wb bb sa fail B S true sv) := h
  clear h
  go_enter Ybad.func35, Ybad.ntmps35
  go_wp2
  go_loopg [1, 4] 0 (fun k p nn wr => p = .slice ao m c ∧ nn = .int .i64 0 ∧ ∃ q, wr = w.drewN q)
  case atStart => exact ⟨rfl, rfl, 0, rfl⟩
  case round =>
    obtain ⟨rfl, rfl, q, rfl⟩ := hrel
    have c0 := HH.out.hw.cell (j := 0) rfl
    simp only [errv, if_true] at c0
    go_wp2_with (go_at_call 16; refine (available_any rb wb bb sa fail B S true sv _ (HH.out.drewN q)).mono ?_; rintro e w1 ⟨rfl, q1, rfl⟩)
    all_goals go_quiet (fail)
    all_goals go_wp2
    all_goals (go_ret2; exact ⟨rfl, _, drewN2 _ _ _⟩)

theorem flush_both (rb wb bb : Nat) (sa : Addr) (fail : Bool) (B S : List Int) (sv : Value) (w : World) (h : BW w rb wb bb sa fail B S false sv) (hB : 0 < B.length) (hS : S.length + B.length ≤ 10000000) :
    Calls Ybad.prog 15 #[.pointer (some ⟨wb, 0, none⟩)] w fun e w' => e = .returned (errv sa fail) ∧ ∃ sv', ((fail = true ∧ sv' = sv ∧ BW w' rb wb bb sa fail B S true sv) ∨ (fail = false ∧ BW w' rb wb bb sa fail [] (S ++ B) false sv')) ∧ Step w w' rb wb bb sv sv' := by
  cases fail with
  | true =>
    refine (flush_fail rb wb bb sa B S sv w h hB).mono ?_
    rintro e w' ⟨rfl, h1, s1⟩
    exact ⟨rfl, sv, Or.inl ⟨rfl, rfl, h1⟩, s1⟩
  | false =>
    refine (flush_ok rb wb bb sa B S sv w h hB hS).mono ?_
    rintro e w' ⟨rfl, sv', h1, s1⟩
    exact ⟨rfl, sv', Or.inr ⟨rfl, h1⟩, s1⟩

/-- what holds at the head of Write's loop: nothing has been done, or the buffer was filled and flushed -/
def WRel (w : World) (rb wb bb : Nat) (sa : Addr) (fail : Bool) (B S : List Int) (sv : Value) (xs : List Int) (ab ao m c : Nat) (gk : Nat) (p nn : Value) (wr : World) : Prop :=
  (gk = 1 ∧ p = .slice (some ⟨ab, ao, none⟩) m c ∧ nn = .int .i64 0 ∧ BW wr rb wb bb sa fail B S false sv ∧ Step w wr rb wb bb sv sv) ∨
  (gk = 0 ∧ ∃ k : Nat, k < m ∧ p = .slice (some ⟨ab, ao + k, none⟩) (m - k) (c - k) ∧ nn = .int .i64 (k : Int) ∧ 65536 < B.length + m ∧
    ((fail = true ∧ ∃ B', BW wr rb wb bb sa fail B' S true sv ∧ Step w wr rb wb bb sv sv) ∨
     (fail = false ∧ B.length + k = 65536 ∧ ∃ sv', BW wr rb wb bb sa fail [] (S ++ (B ++ xs.take k)) false sv' ∧ Step w wr rb wb bb sv sv')))

set_option maxRecDepth 100000 in
set_option maxHeartbeats 2000000 in
theorem write_any (rb wb bb : Nat) (sa : Addr) (fail : Bool) (T B S : List Int) (sv : Value) (xs : List Int) (ab ao m c : Nat) (w : World) (h : BW w rb wb bb sa fail B S false sv) (g : Good fail T B S false)
    (hx : Rd w (some ⟨ab, ao, none⟩) (xs.map (Value.int .u8))) (hm : xs.length = m) (h1 : 0 < m) (h2 : m ≤ 1024) (hc : m ≤ c) (hc2 : c ≤ 65536) (hap : ¬ Mine rb wb bb sv ab) (hT : T.length ≤ 9000000) :
    Calls Ybad.prog 35 #[.pointer (some ⟨wb, 0, none⟩), .slice (some ⟨ab, ao, none⟩) m c] w fun e w' => ∃ (nn : Int) (B' S' : List Int) (er' : Bool) (sv' : Value), 0 ≤ nn ∧ nn ≤ 1024 ∧ e = .returned (.tuple #[.int .i64 nn, errv sa er']) ∧
      BW w' rb wb bb sa fail B' S' er' sv' ∧ Good fail (T ++ xs) B' S' er' ∧ Step w w' rb wb bb sv sv' := by
  have HH : Hid (BW w rb wb bb sa fail B S false sv ∧ Good fail T B S false ∧ Rd w (some ⟨ab, ao, none⟩) (xs.map (Value.int .u8)) ∧ xs.length = m ∧ ¬ Mine rb wb bb sv ab) := ⟨h, g, hx, hm, hap⟩
  clear h g hx hm hap
  go_enter Ybad.func35, Ybad.ntmps35
  go_wp2
  go_loopg [1, 4] 1 (fun gk p nn wr => WRel w rb wb bb sa fail B S sv xs ab ao m c gk p nn wr)
  case atStart => exact Or.inl ⟨rfl, rfl, rfl, HH.out.1, Step.refl _ _ _ _ _⟩
  case round =>
    rcases hrel with ⟨rfl, rfl, rfl, hb, hs⟩ | ⟨rfl, k, hk, rfl, rfl, hov, hcase⟩
    · have hl := hb.len
      have HB : Hid (BW wr rb wb bb sa fail B S false sv ∧ Step w wr rb wb bb sv sv) := ⟨hb, hs⟩
      have c0 := hb.hw.cell (j := 0) rfl
      simp only [errv, Bool.false_eq_true, if_false] at c0
      have c1 := hb.hw.cell (j := 1) rfl
      have c2 := hb.hw.cell (j := 2) rfl
      have f2 := hb.hw.frozen 2
      have hn3' : ¬ bb = wb := fun e => hb.n3 e.symm
      clear hb hs
      by_cases hfit : m ≤ 65536 - B.length
      · -- it fits
        have t1 : decide (65536 - (B.length : Int) < (m : Int)) = false := by simp; omega
        have hb0 : (0 : Int) ≤ (B.length : Int) := by omega
        have hb1 : (B.length : Int) ≤ 65536 := by omega
        have hb2 : ¬ 65536 = B.length := by omega
        go_wp2_with (go_at_call 16; refine (available_any rb wb bb sa fail B S false sv _ HB.out.1).mono ?_; rintro e w1 ⟨rfl, q1, rfl⟩)
        obtain ⟨w2, hcopy, P2, L2⟩ := copy_into (HB.out.1.drewN (q1 + 1)) xs ⟨ab, ao, none⟩ m c m (by exact HB.out.2.rd HH.out.2.2.1 HH.out.2.2.2.2) HH.out.2.2.2.1 (Nat.min_eq_left hfit).symm
        have k1 := P2.cell (p := ⟨wb, 1, none⟩) (fun e => hn3' e.symm) c1
        have k2 := P2.cell (p := ⟨wb, 2, none⟩) (fun e => hn3' e.symm) c2
        have kf2 : w2.frozen? ⟨wb, 2, none⟩ = false := ((HB.out.1.drewN (q1 + 1)).hw.but P2 (fun e => hn3' e.symm)).frozen 2
        have X := (HB.out.1.drewN (q1 + 1)).lay (w1 := w2) xs [] (by rw [List.take_of_length_le (Nat.le_of_eq HH.out.2.2.2.1)] at L2; exact L2) P2 ((B.length : Int) + (m : Int)) (by simp [HH.out.2.2.2.1])
        have HX : Hid (BW (w2.setCell ⟨wb, 2, none⟩ (.int .i64 ((B.length : Int) + (m : Int)))) rb wb bb sa fail (B ++ xs) S false sv ∧ Step w (w2.setCell ⟨wb, 2, none⟩ (.int .i64 ((B.length : Int) + (m : Int)))) rb wb bb sv sv) :=
          ⟨X.1, (HB.out.2.drewN (q1 + 1)).trans X.2⟩
        clear X P2 L2
        go_region_held3 (fun w' => w'.cell? ⟨wb, 1, none⟩ = some (.slice (some ⟨bb, 0, none⟩) 65536 65536) ∧ w'.cell? ⟨wb, 2, none⟩ = some (.int .i64 (B.length : Int))) (go_keep) (fail)
        go_wp2
        go_ret2
        exact ⟨(m : Int), B ++ xs, S, false, sv, by omega, by omega, rfl, HX.out.1, HH.out.2.1.fits xs (by rw [HH.out.2.2.2.1]; omega), HX.out.2⟩
      · -- the buffer is filled up and flushed
        obtain ⟨k, hk⟩ : ∃ k, B.length + k = 65536 := ⟨65536 - B.length, by omega⟩
        have hkm : k < m := by omega
        have HK : Hid (B.length + k = 65536) := hk
        have t1 : decide (65536 - (B.length : Int) < (m : Int)) = true := by simp; omega
        have hb0 : (0 : Int) ≤ (B.length : Int) := by omega
        have hb1 : (B.length : Int) ≤ 65536 := by omega
        have hk0 : (0 : Int) ≤ (k : Int) := by omega
        have hk1 : (k : Int) ≤ (m : Int) := by omega
        have hk2 : ¬ c = k := by omega
        have t2 : ((B.length : Int) == 0) = false := beq_eq_false_iff_ne.2 (by omega)
        have hkk : k = Nat.min m (65536 - B.length) := by have := Nat.min_eq_right (a := m) (b := 65536 - B.length) (by omega); exact (show k = 65536 - B.length by omega).trans this.symm
        clear hk
        by_cases hb2 : 65536 = B.length
        · have hB : B.length = 65536 := hb2.symm
          have HBl : Hid (B.length = 65536) := hB
          have d2 : wr.cell? ⟨wb, 2, none⟩ = some (.int .i64 65536) := by rw [c2, hB]; rfl
          have A16 : Calls Ybad.prog 16 #[.pointer (some ⟨wb, 0, none⟩)] wr fun e w' => e = .returned (.int .i64 0) ∧ ∃ q, w' = wr.drewN q := by
            have := available_any rb wb bb sa fail B S false sv wr HB.out.1
            rw [hB] at this; exact this
          have A17 : ∀ q, Calls Ybad.prog 17 #[.pointer (some ⟨wb, 0, none⟩)] (wr.drewN q) fun e w' => e = .returned (.int .i64 65536) ∧ w' = wr.drewN q := by
            intro q
            have := buffered_any rb wb bb sa fail B S false sv _ (HB.out.1.drewN q)
            rw [hB] at this; exact this
          have hcopy : ∀ w0 : World, (Builtin.copy_ #[22, 22] 3 #[.slice (some ⟨bb, 0, none⟩) 0 0, .slice (some ⟨ab, ao, none⟩) m c]).run Ybad.prog w0 = .ok (.int .i64 0) w0 := fun w0 => run_copy_none (P := Ybad.prog) w0 22 22 3 5 _ _ 0 0 m c Ybad.underlying22 size5 (by simp)
          have H16 := hide A16
          have H17 := hide A17
          have hm0 : (0 : Int) < (m : Int) := by omega
          clear A16 A17 hB hb2 c2 t1 t2 hkk hb0 hb1 hl hfit
          go_wp2_with (first
            | (go_at_call 16; refine H16.out.mono ?_; rintro e w1 ⟨rfl, q1, rfl⟩)
            | (go_at_call 17; refine (H17.out _).mono ?_; rintro e w1 ⟨rfl, rfl⟩))
          go_region_held3 (fun w' => w'.cell? ⟨wb, 1, none⟩ = some (.slice (some ⟨bb, 0, none⟩) 65536 65536) ∧ w'.cell? ⟨wb, 2, none⟩ = some (.int .i64 65536)) (go_keep) (fail)
          go_wp2_with fail
          have X := (HB.out.1.drewN (q1 + 1)).field 2 (.int .i64 65536) B false (by rw [HBl.out]; rfl) (HB.out.1.drewN (q1 + 1)).hb
          refine (flush_both rb wb bb sa fail B S sv _ X.1 (by rw [HBl.out]; decide) (by have := HH.out.2.1.len; omega)).mono ?_
          rintro e w3 ⟨rfl, sv', hcase, s3⟩
          have HX : Hid (Step w w3 rb wb bb sv sv' ∧ ((fail = true ∧ sv' = sv ∧ BW w3 rb wb bb sa fail B S true sv) ∨ (fail = false ∧ BW w3 rb wb bb sa fail [] (S ++ B) false sv'))) := ⟨(HB.out.2.drewN (q1 + 1)).trans (X.2.trans s3), hcase⟩
          clear X hcase s3
          go_wp2_with fail
          go_roundg 0
          case measure => omega
          case rel =>
            refine Or.inr ⟨rfl, 0, h1, rfl, rfl, by rw [HBl.out]; omega, ?_⟩
            obtain ⟨s4, hcase⟩ := HX.out
            rcases hcase with ⟨hf, rfl, h3⟩ | ⟨hf, h3⟩
            · exact Or.inl ⟨hf, _, h3, s4⟩
            · exact Or.inr ⟨hf, HBl.out, sv', by simpa using h3, s4⟩
        · go_wp2_with (first
            | (go_at_call 16; refine (available_any rb wb bb sa fail B S false sv _ HB.out.1).mono ?_; rintro e w1 ⟨rfl, q1, rfl⟩)
            | (go_at_call 17; refine (buffered_any rb wb bb sa fail B S false sv _ (HB.out.1.drewN _)).mono ?_; rintro e w1 ⟨rfl, rfl⟩))
          obtain ⟨w2, hcopy, P2, L2⟩ := copy_into (HB.out.1.drewN (q1 + 1)) xs ⟨ab, ao, none⟩ m c k (by exact HB.out.2.rd HH.out.2.2.1 HH.out.2.2.2.2) HH.out.2.2.2.1 hkk
          have k1 := P2.cell (p := ⟨wb, 1, none⟩) (fun e => hn3' e.symm) c1
          have k2 := P2.cell (p := ⟨wb, 2, none⟩) (fun e => hn3' e.symm) c2
          have kf2 : w2.frozen? ⟨wb, 2, none⟩ = false := ((HB.out.1.drewN (q1 + 1)).hw.but P2 (fun e => hn3' e.symm)).frozen 2
          have hlen : (B ++ xs.take k).length = 65536 := by rw [List.length_append, List.length_take, HH.out.2.2.2.1, Nat.min_eq_left (Nat.le_of_lt hkm)]; exact HK.out
          have X := (HB.out.1.drewN (q1 + 1)).lay (w1 := w2) (xs.take k) [] L2 P2 ((B.length : Int) + (k : Int)) (by rw [hlen]; have := HK.out; omega)
          have HX : Hid (BW (w2.setCell ⟨wb, 2, none⟩ (.int .i64 ((B.length : Int) + (k : Int)))) rb wb bb sa fail (B ++ xs.take k) S false sv ∧ Step w (w2.setCell ⟨wb, 2, none⟩ (.int .i64 ((B.length : Int) + (k : Int)))) rb wb bb sv sv ∧ (B ++ xs.take k).length = 65536) :=
            ⟨X.1, (HB.out.2.drewN (q1 + 1)).trans X.2, hlen⟩
          clear X P2 L2 hlen hkk
          go_region_held3 (fun w' => w'.cell? ⟨wb, 1, none⟩ = some (.slice (some ⟨bb, 0, none⟩) 65536 65536) ∧ w'.cell? ⟨wb, 2, none⟩ = some (.int .i64 (B.length : Int))) (go_keep) (fail)
          go_wp2_with (go_at_call 15; refine (flush_both rb wb bb sa fail (B ++ xs.take k) S sv _ HX.out.1 (by rw [HX.out.2.2]; decide) (by rw [HX.out.2.2]; have := HH.out.2.1.len; omega)).mono ?_; rintro e w3 ⟨rfl, sv', hcase, s3⟩)
          go_roundg 0
          case measure => omega
          case rel =>
            refine Or.inr ⟨rfl, k, hkm, rfl, rfl, by omega, ?_⟩
            rcases hcase with ⟨hf, rfl, h3⟩ | ⟨hf, h3⟩
            · exact Or.inl ⟨hf, _, h3, HX.out.2.1.trans s3⟩
            · exact Or.inr ⟨hf, HK.out, sv', h3, HX.out.2.1.trans s3⟩
    · rcases hcase with ⟨rfl, B', hb, hs⟩ | ⟨rfl, hkl, sv', hb, hs⟩
      · -- the sink has refused
        have HB : Hid (BW wr rb wb bb sa true B' S true sv ∧ Step w wr rb wb bb sv sv) := ⟨hb, hs⟩
        have c0 := hb.hw.cell (j := 0) rfl
        simp only [errv, if_true] at c0
        clear hb hs
        go_wp2_with (go_at_call 16; refine (available_any rb wb bb sa true B' S true sv _ HB.out.1).mono ?_; rintro e w1 ⟨rfl, q1, rfl⟩)
        all_goals go_quiet (fail)
        all_goals go_wp2
        all_goals
          go_ret2
          exact ⟨(k : Int), B', S, true, sv, by omega, by omega, rfl, (HB.out.1.drewN _).drewN _, HH.out.2.1.refused B' xs (by rw [HH.out.2.2.2.1]; omega), (HB.out.2.drewN _).drewN _⟩
      · -- the buffer is empty again
        have HB : Hid (BW wr rb wb bb sa false [] (S ++ (B ++ xs.take k)) false sv' ∧ Step w wr rb wb bb sv sv' ∧ B.length + k = 65536) := ⟨hb, hs, hkl⟩
        have c0 := hb.hw.cell (j := 0) rfl
        simp only [errv, Bool.false_eq_true, if_false] at c0
        have c1 := hb.hw.cell (j := 1) rfl
        have c2 : wr.cell? ⟨wb, 2, none⟩ = some (.int .i64 0) := hb.hw.cell (j := 2) rfl
        have hn3' : ¬ bb = wb := fun e => hb.n3 e.symm
        have t1 : decide ((65536 : Int) < ((m - k : Nat) : Int)) = false := by simp; omega
        clear hb hs hkl
        go_wp2_with (go_at_call 16; refine (available_any rb wb bb sa false [] _ false sv' _ HB.out.1).mono ?_; rintro e w1 ⟨rfl, q1, rfl⟩)
        have hxd : Rd (wr.drewN (q1 + 1)) (some ⟨ab, ao + k, none⟩) ((xs.drop k).map (Value.int .u8)) := fun j u hu => by
          rw [List.map_drop, List.getElem?_drop] at hu
          obtain ⟨ad, ea, hcl⟩ := (HB.out.2.1.rd HH.out.2.2.1 HH.out.2.2.2.2) (k + j) u hu
          cases ea
          refine ⟨_, rfl, ?_⟩
          rw [Addr.add_lit] at hcl ⊢
          rw [Nat.add_assoc]; exact hcl
        have hdl : (xs.drop k).length = m - k := by rw [List.length_drop, HH.out.2.2.2.1]
        obtain ⟨w2, hcopy, P2, L2⟩ := copy_into (HB.out.1.drewN (q1 + 1)) (xs.drop k) ⟨ab, ao + k, none⟩ (m - k) (c - k) (m - k) hxd hdl (Nat.min_eq_left (by simp; omega)).symm
        simp only [List.length_nil, Nat.sub_zero] at hcopy
        have k1 := P2.cell (p := ⟨wb, 1, none⟩) (fun e => hn3' e.symm) c1
        have k2 := P2.cell (p := ⟨wb, 2, none⟩) (fun e => hn3' e.symm) c2
        have kf2 : w2.frozen? ⟨wb, 2, none⟩ = false := ((HB.out.1.drewN (q1 + 1)).hw.but P2 (fun e => hn3' e.symm)).frozen 2
        have X := (HB.out.1.drewN (q1 + 1)).lay (w1 := w2) (xs.drop k) [] (by rw [List.take_of_length_le (Nat.le_of_eq hdl)] at L2; exact L2) P2 ((m - k : Nat) : Int) (by rw [List.nil_append, hdl])
        have HX : Hid (BW (w2.setCell ⟨wb, 2, none⟩ (.int .i64 ((m - k : Nat) : Int))) rb wb bb sa false (xs.drop k) (S ++ (B ++ xs.take k)) false sv' ∧ Step w (w2.setCell ⟨wb, 2, none⟩ (.int .i64 ((m - k : Nat) : Int))) rb wb bb sv sv') :=
          ⟨by simpa using X.1, (HB.out.2.1.drewN (q1 + 1)).trans X.2⟩
        have HG : Hid (Good false (T ++ xs) (xs.drop k) (S ++ (B ++ xs.take k)) false) := by
          have := HH.out.2.1.flushed (xs.take k) (xs.drop k) (by rw [List.take_append_drop]; intro h0; have := HH.out.2.2.2.1; rw [h0] at this; simp at this; omega)
            (by rw [List.length_take, HH.out.2.2.2.1, Nat.min_eq_left (Nat.le_of_lt hk)]; exact HB.out.2.2) (by intro h0; rw [h0] at hdl; simp at hdl; omega)
          rwa [List.take_append_drop] at this
        clear X P2 L2 hxd hdl
        go_region_held3 (fun w' => w'.cell? ⟨wb, 1, none⟩ = some (.slice (some ⟨bb, 0, none⟩) 65536 65536) ∧ w'.cell? ⟨wb, 2, none⟩ = some (.int .i64 0)) (go_keep) (fail)
        go_wp2
        go_ret2
        exact ⟨_, xs.drop k, _, false, sv', by omega, by omega, rfl, HX.out.1, HG.out, HX.out.2⟩

end Go.Proofs.YbulkeekaDoor
