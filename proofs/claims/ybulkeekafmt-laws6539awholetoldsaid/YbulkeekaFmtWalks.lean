/-
  THE WALK of LawS6539AWhole.
-/
import Derived.Test.YbulkeekaFmtUse
import Derived.Deep.QuietTactic
import Derived.BigQuiet
import Derived.Deep.DeepCutAuto
namespace Go.Proofs.YbulkeekaFmt
open Go.RowKit Go.Extern.Stop Go.Stop Go.Extern
set_option linter.unusedSimpArgs false

theorem info4 : (Ybaf.prog.info? 4).map (fun i => (i.zero, i.size, i.bytes)) = some (some (.bool false), 1, 1) := by kernel_rfl
theorem size4 : (Ybaf.prog.info? 4).map (·.size) = some 1 := by kernel_rfl

theorem neqFunc (w : World) : (binOp .neq 28 .nilFunc .nilFunc).run Ybaf.prog w = .ok (.bool false) w := by kernel_rfl
attribute [local go_sem] neqFunc

theorem bools_oneCell (X : List Bool) : ∀ u ∈ X.map Value.bool, u.oneCell' = true := by
  intro u hu
  obtain ⟨_, _, rfl⟩ := List.mem_map.1 hu
  rfl

theorem splice_all {α : Type} (L cs : List α) (h : L.length = cs.length) : splice L 0 cs = cs := by
  simp [splice, ← h]

set_option maxRecDepth 100000 in
set_option maxHeartbeats 1000000 in
theorem law_long (ao : Option Addr) (len cap : Nat) (R id ov : Int) (w : World) (h : 65536 < len) :
    Calls Ybaf.prog 3 #[.slice ao len cap, .int .u64 R, .int .u64 id, .int .u32 ov] w fun e w' => e = .returned (.bool true) ∧ Below w.heap.size w w' := by
  go_enter Ybaf.func3, Ybaf.ntmps3
  go_wp2
  go_ret
  exact ⟨rfl, Below.refl _ _⟩

set_option maxRecDepth 100000 in
set_option maxHeartbeats 2000000 in
theorem law_main (F : Interp) (ao : Option Addr) (Y : List Bool) (len cap : Nat) (R id ov : Int) (w : World) (hF : F.answers w.tape) (hy : Y.length = len) (h : len ≤ 65536)
    (hsrc : ∀ j v, (Y.map Value.bool)[j]? = some v → ∃ ad, ao = some ad ∧ w.cell? (ad.add j) = some v)
    (r0 : 0 ≤ R) (r1 : R < 18446744073709551616) (i0 : 0 ≤ id) (i1 : id < 18446744073709551616) (o0 : 0 ≤ ov) (o1 : ov < 4294967296) :
    Calls Ybaf.prog 3 #[.slice ao len cap, .int .u64 R, .int .u64 id, .int .u32 ov] w fun e w' => e = .returned (.bool true) ∧ Below w.heap.size w w' := by
  obtain ⟨ti, hi, hz0, hz1, hz2⟩ := info_parts info4
  go_enter Ybaf.func3, Ybaf.ntmps3
  go_wp2_with (at_make; refine wpList_make_full _ rfl (.tmp 27) (.tmp 27) 22 rfl w.heap.size 4 ti (.bool false) 1 Ybaf.underlying22 hi hz0 hz1 _ _ _ _ len rfl rfl rfl rfl (by rw [hz2]; omega) (by unfold maxLen; omega) (Nat.le_refl _) ?_)
  intro w1 hown1 hgrow1
  have B1 : Blk w1 w.heap.size (List.replicate len (.bool false)) 4 := by simpa [toList_madeCells_one] using blk_of_made hown1 rfl
  have L1 : Below w.heap.size w w1 := (Below.refl _ _).grown hgrow1 (Nat.le_refl _) (fun _ h => by cases h)
  have hsrc1 : ∀ (j : Nat) (v : Value), (List.map Value.bool Y)[j]? = some v → ∃ ad, ao = some ad ∧ w1.cell? (ad.add j) = some v := fun j v hv => by
    obtain ⟨ad, ha, hc⟩ := hsrc j v hv
    exact ⟨ad, ha, (L1.cell (World.block_lt_of_cell? w _ hc)).trans hc⟩
  clear hown1 hgrow1 hsrc
  obtain ⟨w2, hcopy, B2, P2⟩ := copy_run (P := Ybaf.prog) (ty := 3) (n := len) (sCap := cap) (cs := Y.map Value.bool) Ybaf.underlying22 size4 B1 (by simp) (by simpa using hy) hsrc1 (bools_oneCell Y)
  have L2 : Below w.heap.size w w2 := L1.trans (P2.below (fun k hk => by omega) L1.size)
  clear hsrc1 B1 L1 P2
  go_upto_if 34 with (fail)
  clear hcopy
  go_cut [9] (fun u wc => ∃ (ub : Nat) (X : List Bool), u = .slice (some ⟨ub, 0, none⟩) X.length X.length ∧ 0 < X.length ∧ X.length ≤ 65536 ∧ w.heap.size ≤ ub ∧ Blk wc ub (X.map Value.bool) 4 ∧ Below w.heap.size w wc)
  case first =>
    subst hy
    by_cases h0 : Y.length = 0
    · have t0 : ((Y.length : Int) == 0) = true := beq_iff_eq.2 (by omega)
      go_wp2_with fail
      go_meet
      case rel => exact ⟨w2.heap.size, [false], rfl, by simp, by simp, L2.size, Blk.new w2 [.bool false] 4, L2.alloc L2.size _⟩
    · have t0 : ((Y.length : Int) == 0) = false := beq_eq_false_iff_ne.2 (by omega)
      go_wp2_with fail
      go_meet
      case rel => exact ⟨w.heap.size, Y, rfl, by omega, by omega, Nat.le_refl _, B2, L2⟩
  case rest =>
    clear B2 L2 h hy
    obtain ⟨ub, X, rfl, hpos, h, hub, B2, L2⟩ := hcut
    go_wp2_with (at_make; refine wpList_make_full _ rfl (.tmp 37) (.tmp 37) 22 rfl w.heap.size 4 ti (.bool false) 1 Ybaf.underlying22 hi hz0 hz1 _ _ _ _ X.length rfl rfl rfl rfl (by rw [hz2]; omega) (by unfold maxLen; omega) L2.size ?_)
    intro w3 hown3 hgrow3
    have B3 : Blk w3 wc.heap.size (List.replicate X.length (.bool false)) 4 := by simpa [toList_madeCells_one] using blk_of_made hown3 rfl
    have L3 : Below w.heap.size w w3 := L2.grown hgrow3 L2.size (fun _ h => by cases h)
    have A3 : Blk w3 ub (X.map Value.bool) 4 := B2.but (But.of_grown (S := fun _ => False) hgrow3 (fun _ h => by cases h)) (fun h => h)
    have hO : ub < wc.heap.size := B2.lt
    clear hown3 hgrow3 B2 L2
    generalize wc.heap.size = O at *
    obtain ⟨w4, hcopy, B4, P4⟩ := copy_run (P := Ybaf.prog) (ty := 3) (n := X.length) (sCap := X.length) (src := some ⟨ub, 0, none⟩) (cs := X.map Value.bool) Ybaf.underlying22 size4 B3 (by simp) (by simp) (fun j v hv => ⟨_, rfl, by rw [Addr.add_lit, Nat.zero_add]; exact A3.cell hv⟩) (bools_oneCell X)
    have L4 : Below w.heap.size w w4 := L3.trans (P4.below (fun k hk => by omega) L3.size)
    have A4 : Blk w4 ub (X.map Value.bool) 4 := A3.but P4 (by omega)
    clear B3 A3 L3 P4
    obtain ⟨st, hst, hst'⟩ : ∃ st : Nat, id % (X.length : Int) = st ∧ st < X.length := ⟨(id % (X.length : Int)).toNat, by have := Int.emod_nonneg id (by omega : (X.length : Int) ≠ 0); omega, by have := Int.emod_nonneg id (by omega : (X.length : Int) ≠ 0); have := Int.emod_lt_of_pos id (by omega : 0 < (X.length : Int)); omega⟩
    obtain ⟨o, ho, ho'⟩ : ∃ o : Nat, ov % ((X.length : Int) - st) = o ∧ st + o < X.length := ⟨(ov % ((X.length : Int) - st)).toNat, by have := Int.emod_nonneg ov (by omega : (X.length : Int) - st ≠ 0); omega, by have := Int.emod_nonneg ov (by omega : (X.length : Int) - st ≠ 0); have := Int.emod_lt_of_pos ov (by omega : 0 < (X.length : Int) - st); omega⟩
    go_wp2_with fail
    clear hcopy
    have A5 := A4.alloc (.cells (stw ub X.length R).toArray 31)
    have B5 := B4.alloc (.cells (stw ub X.length R).toArray 31)
    have S5 := Blk.new w4 (stw ub X.length R) 31
    have L5 := L4.alloc L4.size (.cells (stw ub X.length R).toArray 31)
    have hne : ub ≠ w4.heap.size := by have := A4.lt; omega
    have hne2 : O ≠ w4.heap.size := by have := B4.lt; omega
    have hle : w.heap.size ≤ w4.heap.size := L4.size
    refine (use_any F X ub w4.heap.size st o R _ (by rw [L5.tape]; exact hF) A5 S5 hne ho' h r0 r1).mono ?_
    rintro e w6 ⟨v, rfl, hv, A6, S6, P6⟩
    have B6 : Blk w6 O (X.map Value.bool) 4 := B5.but P6 (by omega)
    have L6 : Below w.heap.size w w6 := L5.trans (P6.below (fun k hk => by omega) (by simp; omega))
    clear A4 B4 L4 A5 B5 S5 L5 P6
    generalize w4.heap.size = sp at *
    have eqC : cntN X st (st + o) X.length = cntN X st (st + o) (st + o + 1) := by
      have := cntN_end X st (st + o) (X.length - (st + o + 1)); rwa [show st + o + 1 + (X.length - (st + o + 1)) = X.length by omega] at this
    have eqH : hitN X st (st + o) X.length = hitN X st (st + o) (st + o + 1) := by
      have := hitN_end X st (st + o) (X.length - (st + o + 1)); rwa [show st + o + 1 + (X.length - (st + o + 1)) = X.length by omega] at this
    have HC : Hid (cntN X st (st + o) X.length = cntN X st (st + o) (st + o + 1) ∧ hitN X st (st + o) X.length = hitN X st (st + o) (st + o + 1)) := ⟨eqC, eqH⟩
    clear eqC eqH
    go_wp2_with fail
    go_loop [17, 18, 19] (fun a b c => ∃ k : Nat, k ≤ X.length ∧ c = .int .u64 k ∧ a = .int .u64 (reach R (cntN X st (st + o) k)) ∧ b = .bool (hitN X st (st + o) k)) (fun _ _ c => X.length - (intOf c).toNat)
    case atStart => exact ⟨0, Nat.zero_le _, rfl, by rw [cntN, reach_zero R r0 r1], rfl⟩
    case round =>
      obtain ⟨k, hk, rfl, rfl, rfl⟩ := hrel
      by_cases hlt : k < X.length
      · have hx : X[k]? = some X[k] := List.getElem?_eq_getElem hlt
        have cO : w6.cell? ⟨O, k, none⟩ = some (.bool X[k]) := B6.cell (by simp [hx])
        have cU : w6.cell? ⟨ub, k, none⟩ = some (.bool (X[k] || (inR st (st + o) k && decide (k < st + o + 1)))) := A6.cell (by simp [markN_at, hx])
        have HN : Hid (cntN X st (st + o) (k + 1) = cntN X st (st + o) k + (if inR st (st + o) k && !X[k] then 1 else 0) ∧ hitN X st (st + o) (k + 1) = (hitN X st (st + o) k || (inR st (st + o) k && X[k]))) := by
          constructor
          · rw [cntN]; simp [hx]
          · rw [hitN]; simp [hx]
        clear hx A6 B6 S6 HC hv
        by_cases g1 : st ≤ k
        · by_cases g2 : k ≤ st + o
          · have e1 : inR st (st + o) k = true := by simp [inR, g1, g2]
            have e2 : decide (k < st + o + 1) = true := by simp; omega
            rw [e1, e2] at cU
            rw [e1] at HN
            clear e1 e2
            have HS := reach_succ R (cntN X st (st + o) k)
            cases hb : X[k] <;> rw [hb] at cO cU HN <;> clear hb <;> simp only [Bool.or_false, Bool.or_true, Bool.true_or, Bool.false_or, Bool.and_true, Bool.and_false, Bool.true_and, Bool.not_true, Bool.not_false, if_true, if_false] at cU HN
            · go_wp2_with fail
              go_roundw
              case rel => exact ⟨k + 1, by omega, by go_num, by rw [HN.out.1], by rw [HN.out.2]⟩
              case measure => simp [intOf]; omega
            · go_wp2_with fail
              go_roundw
              case rel => exact ⟨k + 1, by omega, by go_num, by rw [HN.out.1]; rfl, by rw [HN.out.2]⟩
              case measure => simp [intOf]; omega
          · have e1 : inR st (st + o) k = false := by simp [inR]; omega
            rw [e1] at cU HN
            clear e1
            cases hb : X[k] <;> rw [hb] at cO cU HN <;> clear hb <;> simp only [Bool.or_false, Bool.or_true, Bool.true_or, Bool.false_or, Bool.and_true, Bool.and_false, Bool.true_and, Bool.false_and, Bool.not_true, Bool.not_false, if_true, if_false] at cU HN
            · go_wp2_with fail
              go_roundw
              case rel => exact ⟨k + 1, by omega, by go_num, by rw [HN.out.1]; rfl, by rw [HN.out.2]⟩
              case measure => simp [intOf]; omega
            · go_wp2_with fail
              go_roundw
              case rel => exact ⟨k + 1, by omega, by go_num, by rw [HN.out.1]; rfl, by rw [HN.out.2]⟩
              case measure => simp [intOf]; omega
        · have e1 : inR st (st + o) k = false := by simp [inR]; omega
          rw [e1] at cU HN
          clear e1
          cases hb : X[k] <;> rw [hb] at cO cU HN <;> clear hb <;> simp only [Bool.or_false, Bool.or_true, Bool.true_or, Bool.false_or, Bool.and_true, Bool.and_false, Bool.true_and, Bool.false_and, Bool.not_true, Bool.not_false, if_true, if_false] at cU HN
          · go_wp2_with fail
            go_roundw
            case rel => exact ⟨k + 1, by omega, by go_num, by rw [HN.out.1]; rfl, by rw [HN.out.2]⟩
            case measure => simp [intOf]; omega
          · go_wp2_with fail
            go_roundw
            case rel => exact ⟨k + 1, by omega, by go_num, by rw [HN.out.1]; rfl, by rw [HN.out.2]⟩
            case measure => simp [intOf]; omega
      · obtain rfl : k = X.length := by omega
        rw [HC.out.1, HC.out.2]
        have f0 := S6.cell (j := 0) rfl
        have f1 := S6.cell (j := 1) rfl
        have f2 := S6.cell (j := 2) rfl
        have f3 := S6.cell (j := 3) rfl
        have f4 := S6.cell (j := 4) rfl
        have f5 := S6.cell (j := 5) rfl
        have f6 := S6.cell (j := 6) rfl
        have f7 := S6.cell (j := 7) rfl
        have f8 := S6.cell (j := 8) rfl
        have f9 := S6.cell (j := 9) rfl
        have f10 := S6.cell (j := 10) rfl
        have f11 := S6.cell (j := 11) rfl
        rcases hv with ⟨rfl, hh⟩ | ⟨a, rfl, hh⟩
        · rw [hh]
          go_wp2_with fail
          clear f0 f1 f2 f3 f4 f5 f6 f7 f8 f9 f10 f11 hh HC
          go_loopw [22] (fun c wr => ∃ k : Nat, k ≤ X.length ∧ c = .int .u64 k ∧ Blk wr ub (List.map Value.bool (markN X st (st + o) (st + o + 1))) 4 ∧ Blk wr sp (stw ub X.length (reach R (cntN X st (st + o) (st + o + 1)))) 31 ∧ Below w.heap.size w wr) (fun c _ => X.length - (intOf c).toNat)
          case atStart => exact ⟨0, Nat.zero_le _, rfl, A6, S6, L6⟩
          case round =>
            obtain ⟨k, hk, rfl, A7, S7, L7⟩ := hrel
            clear A6 B6 S6 L6
            by_cases hlt : k < X.length
            · have hx : X[k]? = some X[k] := List.getElem?_eq_getElem hlt
              obtain ⟨bk, cU⟩ : ∃ bk, wr.cell? ⟨ub, k, none⟩ = some (.bool bk) := ⟨X[k] || (inR st (st + o) k && decide (k < st + o + 1)), A7.cell (by simp [markN_at, hx])⟩
              have f4 := S7.cell (j := 4) rfl
              have hl0 : (k : Int) < (X.length : Int) := by omega
              clear hx
              go_wp2_with fail
              go_quiet (fail)
              go_wp2_with fail
              go_roundw
              case rel => exact ⟨k + 1, by omega, by go_num, A7, S7, below_drewN L7 _⟩
              case measure => simp [intOf]; omega
            · have f0 := S7.cell (j := 0) rfl
              have f1 := S7.cell (j := 1) rfl
              have f2 := S7.cell (j := 2) rfl
              have f3 := S7.cell (j := 3) rfl
              have f6 := S7.cell (j := 6) rfl
              have f7 := S7.cell (j := 7) rfl
              have f8 := S7.cell (j := 8) rfl
              have f9 := S7.cell (j := 9) rfl
              have f10 := S7.cell (j := 10) rfl
              have f11 := S7.cell (j := 11) rfl
              go_wp2_with fail
              go_ret
              exact ⟨rfl, L7⟩
        · rw [hh]
          go_wp2_with fail
          clear f0 f1 f2 f3 f4 f5 f6 f7 f8 f9 f10 f11 hh HC
          go_loopw [22] (fun c wr => ∃ k : Nat, k ≤ X.length ∧ c = .int .u64 k ∧ Blk wr ub (List.map Value.bool (markN X st (st + o) (st + o + 1))) 4 ∧ Blk wr sp (stw ub X.length (reach R (cntN X st (st + o) (st + o + 1)))) 31 ∧ Below w.heap.size w wr) (fun c _ => X.length - (intOf c).toNat)
          case atStart => exact ⟨0, Nat.zero_le _, rfl, A6, S6, L6⟩
          case round =>
            obtain ⟨k, hk, rfl, A7, S7, L7⟩ := hrel
            clear A6 B6 S6 L6
            by_cases hlt : k < X.length
            · have hx : X[k]? = some X[k] := List.getElem?_eq_getElem hlt
              obtain ⟨bk, cU⟩ : ∃ bk, wr.cell? ⟨ub, k, none⟩ = some (.bool bk) := ⟨X[k] || (inR st (st + o) k && decide (k < st + o + 1)), A7.cell (by simp [markN_at, hx])⟩
              have f4 := S7.cell (j := 4) rfl
              have hl0 : (k : Int) < (X.length : Int) := by omega
              clear hx
              go_wp2_with fail
              go_quiet (fail)
              go_wp2_with fail
              go_roundw
              case rel => exact ⟨k + 1, by omega, by go_num, A7, S7, below_drewN L7 _⟩
              case measure => simp [intOf]; omega
            · have f0 := S7.cell (j := 0) rfl
              have f1 := S7.cell (j := 1) rfl
              have f2 := S7.cell (j := 2) rfl
              have f3 := S7.cell (j := 3) rfl
              have f6 := S7.cell (j := 6) rfl
              have f7 := S7.cell (j := 7) rfl
              have f8 := S7.cell (j := 8) rfl
              have f9 := S7.cell (j := 9) rfl
              have f10 := S7.cell (j := 10) rfl
              have f11 := S7.cell (j := 11) rfl
              go_wp2_with fail
              go_ret
              exact ⟨rfl, L7⟩

end Go.Proofs.YbulkeekaFmt
