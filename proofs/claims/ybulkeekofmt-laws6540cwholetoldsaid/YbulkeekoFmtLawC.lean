/-
  THE WALK of LawS6540CWhole.
-/
import Derived.Test.YbulkeekoFmtLawB
import Derived.Deep.DeepCutAuto
import Derived.Deep.CutRange
namespace Go.Proofs.YbulkeekoFmt
open Go.RowKit Go.Extern.Stop Go.Stop Go.Extern
set_option linter.unusedSimpArgs false
set_option linter.unusedVariables false

theorem fill_set (xs : List Nat) (k : Nat) (h : k < xs.length) : (u16s (xs.take k) ++ List.replicate (xs.length - k) (Value.int .u16 0)).set k (.int .u16 ((xs[k] : Nat) : Int)) = u16s (xs.take (k + 1)) ++ List.replicate (xs.length - (k + 1)) (.int .u16 0) := by
  have e : xs.length - k = (xs.length - (k + 1)) + 1 := by omega
  have hl : (u16s (xs.take k)).length = k := by simp; omega
  rw [e, List.replicate_succ, List.set_append_right _ _ (by omega), hl, Nat.sub_self, List.set_cons_zero, List.take_add_one, List.getElem?_eq_getElem h]
  show _ = List.map _ (xs.take k ++ [xs[k]]) ++ _
  rw [List.map_append, List.append_assoc]
  rfl

set_option maxRecDepth 100000 in
theorem lawC_long (oa : Option Addr) (on oc : Nat) (ra : Option Addr) (rn rc : Nat) (rd : Int) (last u0 : Int) (R : Int) (ha : Option Addr) (hn hc : Nat) (ea : Option Addr) (en ec : Nat) (na : Option Addr) (nn nc : Nat) (w : World)
    (b1 : on ≤ 140737488355328) (b2 : rn ≤ 140737488355328) (b3 : hn ≤ 140737488355328) (b4 : en ≤ 140737488355328) (b5 : nn ≤ 140737488355328) (h : 1048576 < on + rn + hn + en + nn) :
    Calls Ybaf.prog 4 #[.slice oa on oc, .slice ra rn rc, .int .i64 rd, .int .u8 last, .int .u8 u0, .int .i64 R, .slice ha hn hc, .slice ea en ec, .slice na nn nc] w fun e w' => e = .returned (.bool true) ∧ Below w.heap.size w w' := by
  have t1 : decide ((1048576 : Int) < (on : Int) + rn + hn + en + nn) = true := by simp; omega
  go_enter Ybaf.func4, Ybaf.ntmps4
  go_wp2
  go_ret
  exact ⟨rfl, Below.refl _ _⟩

set_option maxRecDepth 1000000 in
set_option maxHeartbeats 20000000 in
theorem lawC_ok (F : Interp) (oa : Option Addr) (on oc : Nat) (order : List Nat) (ra : Option Addr) (rn rc : Nat) (rest : List Nat) (rd : Int) (last u0 : Nat) (R : Int) (ha : Option Addr) (hn hc : Nat) (held : List Nat) (ea : Option Addr) (en ec : Nat) (ends : List Int) (na : Option Addr) (nn nc : Nat) (nth : List Int) (w : World) (hF : F.answers w.tape)
    (O1 : Rd w oa (u16s order)) (O2 : order.length = on) (R1 : Rd w ra (u8s rest)) (R2 : rest.length = rn) (Rb : ∀ b ∈ rest, b < 256) (H1 : Rd w ha (u16s held)) (H2 : held.length = hn) (E1 : Rd w ea (i64s ends)) (E2 : ends.length = en) (E3 : ea = none → en = 0 ∧ ec = 0) (N1 : Rd w na (i64s nth)) (N2 : nth.length = nn) (N3 : na = none → nn = 0 ∧ nc = 0)
    (hl : last < 256) (hu0 : u0 < 256) (hrd0 : -9223372036854775808 ≤ rd) (hrd1 : rd < 9223372036854775808) (hR0 : -9223372036854775808 ≤ R) (hR1 : R < 9223372036854775808) (hsum : on + rn + hn + en + nn ≤ 1048576) :
    Calls Ybaf.prog 4 #[.slice oa on oc, .slice ra rn rc, .int .i64 rd, .int .u8 last, .int .u8 u0, .int .i64 R, .slice ha hn hc, .slice ea en ec, .slice na nn nc] w fun e w' => e = .returned (.bool true) ∧ Below w.heap.size w w' := by
  have t1 : decide ((1048576 : Int) < (on : Int) + rn + hn + en + nn) = false := by simp; omega
  obtain ⟨t40, i40, z40, s40, b40⟩ := info_parts info40
  obtain ⟨t5, i5, z5, s5, b5⟩ := info_parts info5
  have hon : on ≤ 1048576 := by omega
  have hrn : rn ≤ 1048576 := by omega
  have hhn : hn ≤ 1048576 := by omega
  have hen : en ≤ 1048576 := by omega
  have hnn : nn ≤ 1048576 := by omega
  subst O2 R2 H2 E2 N2
  have HO := hide O1
  have HR := hide R1
  have HH := hide H1
  have HE := hide (And.intro E1 E3)
  have HN := hide (And.intro N1 N3)
  have HF := hide (And.intro hF Rb)
  clear O1 R1 H1 E1 E3 N1 N3 hF Rb hsum
  go_enter Ybaf.func4, Ybaf.ntmps4
  go_wp2_with (at_make; refine wpList_make_full _ rfl (.tmp 66) (.tmp 66) 38 rfl w.heap.size 40 t40 (.int .u16 0) 1 Ybaf.underlying38 i40 z40 s40 _ _ _ _ order.length rfl rfl rfl rfl (by rw [b40]; omega) (by unfold maxLen; omega) (Nat.le_refl _) ?_)
  intro w1 hown1 hgrow1
  have HB1 : Hid (Blk w1 w.heap.size (List.replicate order.length (.int .u16 0)) 40 ∧ But (fun _ => False) w w1) := ⟨by simpa [toList_madeCells_one] using blk_of_made hown1 rfl, But.of_grown hgrow1 (fun _ h => by cases h)⟩
  clear hown1 hgrow1 t1
  go_wp2_with fail
  go_loopw [20] (fun i wr => ∃ k : Nat, k ≤ order.length ∧ i = .int .i64 k ∧ Hid (Blk wr w.heap.size (u16s (order.take k) ++ List.replicate (order.length - k) (.int .u16 0)) 40 ∧ But (fun _ => False) w wr)) (fun i _ => order.length - (intOf i).toNat)
  case atStart => exact ⟨0, Nat.zero_le _, rfl, HB1.out⟩
  case round =>
    obtain ⟨k, hk, rfl, HW⟩ := hrel
    clear HB1
    by_cases hlt : k < order.length
    · have O5 := HO.out.but HW.out.2 (fun _ _ h => h)
      obtain ⟨oad, rfl, cA⟩ := O5 k (.int .u16 ((order[k] : Nat) : Int)) (by simp [List.getElem?_eq_getElem hlt])
      have cB : wr.cell? ⟨w.heap.size, k, none⟩ = some (.int .u16 0) := HW.out.1.cell (by
        have hl' : (u16s (order.take k)).length = k := by simp; omega
        rw [List.getElem?_append_right (by omega), hl', Nat.sub_self, List.getElem?_replicate, if_pos (by omega)])
      have fB := HW.out.1.frozen k
      have NW : Hid (Blk (wr.setCell ⟨w.heap.size, k, none⟩ (.int .u16 ((order[k] : Nat) : Int))) w.heap.size (u16s (order.take (k + 1)) ++ List.replicate (order.length - (k + 1)) (.int .u16 0)) 40 ∧ But (fun _ => False) w (wr.setCell ⟨w.heap.size, k, none⟩ (.int .u16 ((order[k] : Nat) : Int)))) := by
        refine ⟨?_, HW.out.2.setCell (p := ⟨w.heap.size, k, none⟩) (Or.inl (Nat.le_refl _)) _⟩
        have := HW.out.1.set k (.int .u16 ((order[k] : Nat) : Int))
        rwa [fill_set order k hlt] at this
      clear O5
      go_wp2_with fail
      go_roundw
      case rel => exact ⟨k + 1, by omega, by go_num, NW.out⟩
      case measure => simp [intOf]; omega
    · have HW2 : Hid (Blk wr w.heap.size (u16s order) 40 ∧ But (fun _ => False) w wr) := by
        have := HW.out
        rw [List.take_of_length_le (by omega), show order.length - k = 0 by omega] at this
        rw [List.replicate_zero, List.append_nil] at this
        exact this
      clear HW
      go_upto_if 83 with (fail)
      go_cut [19] from 84 to 84 (fun x wc => ∃ (g : Nat) (ord : List Nat), x = .slice (some ⟨g, 0, none⟩) ord.length ord.length ∧ 1 ≤ ord.length ∧ ord.length ≤ 1048576 ∧ w.heap.size ≤ g ∧ Hid (Blk wc g (u16s ord) 40 ∧ But (fun _ => False) w wc))
      case first =>
        by_cases h0 : order.length = 0
        · have t0 : ((order.length : Int) == 0) = true := beq_iff_eq.2 (by omega)
          go_wp2_with fail
          go_meet
          case rel => exact ⟨wr.heap.size, [7], rfl, by simp, by simp, HW2.out.2.size, Blk.new wr [.int .u16 7] 40, HW2.out.2.alloc _⟩
        · have t0 : ((order.length : Int) == 0) = false := beq_eq_false_iff_ne.2 (by omega)
          go_wp2_with fail
          go_meet
          case rel => exact ⟨w.heap.size, order, rfl, by omega, by omega, Nat.le_refl _, HW2.out⟩
      case rest =>
        clear HW2 hlt hk
        obtain ⟨g, ord, rfl, ho1, ho2, hg, HW⟩ := hcut
        go_wp2_with fail
        have rO : Rd wc (some ⟨g, 0, none⟩) (u16s ord) := by
          have := Rd.of_blk HW.out.1 0 ord.length
          rwa [List.drop_zero, List.take_of_length_le (by simp)] at this
        refine (clone8_any wc _ ord.length ord.length (u16s ord) rO (u16s_one _) (by simp) (fun h => by cases h) ho2).mono ?_
        rintro e w2 ⟨ov, rfl, o2, L2⟩
        obtain ⟨oa2, oc2, rfl, q1, q2, r2, n2, b2⟩ := owns_form o2.o
        have K2 : Hid (Rd w2 (some ⟨g, 0, none⟩) (u16s ord) ∧ Rd w2 oa2 (u16s ord) ∧ ord.length ≤ oc2 ∧ But (fun _ => False) w w2) := ⟨rO.below L2 (Nat.le_refl _), r2, by simpa using q1, HW.out.2.trans (But.of_below' L2)⟩
        clear o2 L2 q1 q2 r2 n2 b2 HW rO
        simp only [List.length_map]
        obtain ⟨u, hU⟩ : ∃ u : Nat, u = u0 % 8 := ⟨_, rfl⟩
        have hu : u ≤ 7 := by omega
        have eU : ((u0 : Nat) : Int) % 8 = (u : Int) := by omega
        clear hU
        go_wp2_with (at_make; refine wpList_make_full _ rfl (.tmp 91) (.tmp 91) 22 rfl w.heap.size 5 t5 (.int .u8 0) 1 Ybaf.underlying22 i5 z5 s5 _ _ _ _ rest.length rfl rfl rfl rfl (by rw [b5]; omega) (by unfold maxLen; omega) K2.out.2.2.2.size ?_)
        intro w3 hown3 hgrow3
        have B3 : Blk w3 w2.heap.size (List.replicate rest.length (.int .u8 0)) 5 := by simpa [toList_madeCells_one] using blk_of_made hown3 rfl
        have P3 : But (fun _ => False) w2 w3 := But.of_grown hgrow3 (fun _ h => by cases h)
        obtain ⟨w4, hcopy4, B4, P4⟩ := copy_run (P := Ybaf.prog) (ty := 3) (n := rest.length) (sCap := rc) (cs := u8s rest) (src := ra) Ybaf.underlying22 size5 B3 (by simp) (by simp) (HR.out.but (K2.out.2.2.2.trans P3) (fun _ _ h => h)) (u8s_one rest)
        have K4 : Hid (Blk w4 w2.heap.size (u8s rest) 5 ∧ Below w2.heap.size w2 w4) := ⟨B4, ((P3.mono (fun _ _ h => h.elim)).trans2 P4 (fun i _ h => h)).below (S := fun k => k = w2.heap.size) (fun k hk => by omega) (Nat.le_refl _)⟩
        have P04 : But (fun _ => False) w w4 := K2.out.2.2.2.trans2 (But.of_below (S := fun k => w2.heap.size ≤ k) K4.out.2 (fun k _ h => h)) (fun i hi h => by have := K2.out.2.2.2.size; omega)
        clear hown3 hgrow3 B3 P3 B4 P4
        go_wp2_with (at_make; refine wpList_make_full _ rfl (.tmp 97) (.tmp 97) 22 rfl w.heap.size 5 t5 (.int .u8 0) 1 Ybaf.underlying22 i5 z5 s5 _ _ _ _ rest.length rfl rfl rfl rfl (by rw [b5]; omega) (by unfold maxLen; omega) P04.size ?_)
        clear hcopy4
        intro w5 hown5 hgrow5
        have B5 : Blk w5 w4.heap.size (List.replicate rest.length (.int .u8 0)) 5 := by simpa [toList_madeCells_one] using blk_of_made hown5 rfl
        have P5 : But (fun _ => False) w4 w5 := But.of_grown hgrow5 (fun _ h => by cases h)
        obtain ⟨w6, hcopy6, B6, P6⟩ := copy_run (P := Ybaf.prog) (ty := 3) (n := rest.length) (sCap := rc) (cs := u8s rest) (src := ra) Ybaf.underlying22 size5 B5 (by simp) (by simp) (HR.out.but (P04.trans P5) (fun _ _ h => h)) (u8s_one rest)
        have K6 : Hid (Blk w6 w4.heap.size (u8s rest) 5 ∧ Below w4.heap.size w4 w6) := ⟨B6, ((P5.mono (fun _ _ h => h.elim)).trans2 P6 (fun i _ h => h)).below (S := fun k => k = w4.heap.size) (fun k hk => by omega) (Nat.le_refl _)⟩
        have P06 : But (fun _ => False) w w6 := P04.trans2 (But.of_below (S := fun k => w4.heap.size ≤ k) K6.out.2 (fun k _ h => h)) (fun i hi h => by have := P04.size; omega)
        clear hown5 hgrow5 B5 P5 B6 P6 P04
        go_wp2_with (at_make; refine wpList_make_full _ rfl (.tmp 103) (.tmp 103) 37 rfl w.heap.size 40 t40 (.int .u16 0) 1 Ybaf.underlying37 i40 z40 s40 _ _ _ _ held.length rfl rfl rfl rfl (by rw [b40]; omega) (by unfold maxLen; omega) P06.size ?_)
        clear hcopy6
        intro w7 hown7 hgrow7
        have K7 : Hid (Blk w7 w6.heap.size (List.replicate held.length (.int .u16 0)) 40 ∧ But (fun _ => False) w6 w7) := ⟨by simpa [toList_madeCells_one] using blk_of_made hown7 rfl, But.of_grown hgrow7 (fun _ h => by cases h)⟩
        have HP06 := hide P06
        clear hown7 hgrow7 P06
        go_wp2_with fail
        go_loopw [26] (fun i wr => ∃ k : Nat, k ≤ held.length ∧ i = .int .i64 k ∧ Hid (Blk wr w6.heap.size (u16s (held.take k) ++ List.replicate (held.length - k) (.int .u16 0)) 40 ∧ But (fun _ => False) w6 wr)) (fun i _ => held.length - (intOf i).toNat)
        case atStart => exact ⟨0, Nat.zero_le _, rfl, K7.out⟩
        case round =>
          obtain ⟨k2, hk2, rfl, HW⟩ := hrel
          clear K7
          by_cases hlt : k2 < held.length
          · have O5 := HH.out.but (HP06.out.trans HW.out.2) (fun _ _ h => h)
            obtain ⟨oad, rfl, cA⟩ := O5 k2 (.int .u16 ((held[k2] : Nat) : Int)) (by simp [List.getElem?_eq_getElem hlt])
            have cB : wr.cell? ⟨w6.heap.size, k2, none⟩ = some (.int .u16 0) := HW.out.1.cell (by
              have hl' : (u16s (held.take k2)).length = k2 := by simp; omega
              rw [List.getElem?_append_right (by omega), hl', Nat.sub_self, List.getElem?_replicate, if_pos (by omega)])
            have fB := HW.out.1.frozen k2
            have NW : Hid (Blk (wr.setCell ⟨w6.heap.size, k2, none⟩ (.int .u16 ((held[k2] : Nat) : Int))) w6.heap.size (u16s (held.take (k2 + 1)) ++ List.replicate (held.length - (k2 + 1)) (.int .u16 0)) 40 ∧ But (fun _ => False) w6 (wr.setCell ⟨w6.heap.size, k2, none⟩ (.int .u16 ((held[k2] : Nat) : Int)))) := by
              refine ⟨?_, HW.out.2.setCell (p := ⟨w6.heap.size, k2, none⟩) (Or.inl (Nat.le_refl _)) _⟩
              have := HW.out.1.set k2 (.int .u16 ((held[k2] : Nat) : Int))
              rwa [fill_set held k2 hlt] at this
            clear O5
            go_wp2_with fail
            go_roundw
            case rel => exact ⟨k2 + 1, by omega, by go_num, NW.out⟩
            case measure => simp [intOf]; omega
          · have K8 : Hid (Blk wr w6.heap.size (u16s held) 40 ∧ But (fun _ => False) w6 wr) := by
              have := HW.out
              rw [List.take_of_length_le (by omega), show held.length - k2 = 0 by omega] at this
              rw [List.replicate_zero, List.append_nil] at this
              exact this
            clear HW hk2
            go_wp2_with fail
            clear hlt
            have rH : Rd wr (some ⟨w6.heap.size, 0, none⟩) (u16s held) := by
              have := Rd.of_blk K8.out.1 0 held.length
              rwa [List.drop_zero, List.take_of_length_le (by simp)] at this
            refine (clone9_any wr _ held.length held.length (u16s held) rH (u16s_one _) (by simp) (fun h => by cases h) hhn).mono ?_
            rintro e w9 ⟨hv, rfl, o9, L9⟩
            obtain ⟨hva, hvc, rfl, _⟩ := owns_form o9.o
            simp only [List.length_map] at o9 ⊢
            have P09 : But (fun _ => False) w w9 := (HP06.out.trans K8.out.2).trans (But.of_below' L9)
            have KA := hide (And.intro o9 (And.intro L9 P09))
            clear o9 L9 P09
            go_wp2_with fail
            refine (clone10_any w9 ea ends.length ec (i64s ends) (HE.out.1.but KA.out.2.2 (fun _ _ h => h)) (i64s_one _) (by simp) HE.out.2 hen).mono ?_
            rintro e w10 ⟨ev, rfl, o10, L10⟩
            obtain ⟨eva, evc, rfl, _⟩ := owns_form o10.o
            simp only [List.length_map] at o10 ⊢
            have P010 : But (fun _ => False) w w10 := KA.out.2.2.trans (But.of_below' L10)
            have KB := hide (And.intro o10 (And.intro L10 P010))
            clear o10 L10 P010
            go_wp2_with fail
            refine (clone10_any w10 na nth.length nc (i64s nth) (HN.out.1.but KB.out.2.2 (fun _ _ h => h)) (i64s_one _) (by simp) HN.out.2 hnn).mono ?_
            rintro e w11 ⟨nv, rfl, o11, L11⟩
            obtain ⟨nva, nvc, rfl, _⟩ := owns_form o11.o
            simp only [List.length_map] at o11 ⊢
            have P011 : But (fun _ => False) w w11 := KB.out.2.2.trans (But.of_below' L11)
            have KC := hide (And.intro o11 (And.intro L11 P011))
            clear o11 L11 P011
            go_wp2_with fail
            have L68 : Below w6.heap.size w6 wr := K8.out.2.below (fun _ h => h.elim) (Nat.le_refl _)
            have L48 : Below w4.heap.size w4 wr := K6.out.2.trans (L68.mono K6.out.2.size)
            have L28 : Below w2.heap.size w2 wr := K4.out.2.trans (L48.mono K4.out.2.size)
            have rR0 : Rd wr (some ⟨w2.heap.size, 0, none⟩) (u8s rest) := by
              have := Rd.of_blk (K4.out.1.below L48 K4.out.1.lt) 0 rest.length
              rwa [List.drop_zero, List.take_of_length_le (by simp)] at this
            have rRR : Rd wr (some ⟨w4.heap.size, 0, none⟩) (u8s rest) := by
              have := Rd.of_blk (K6.out.1.below L68 K6.out.1.lt) 0 rest.length
              rwa [List.drop_zero, List.take_of_length_le (by simp)] at this
            have KM := mkSr (w5 := wr) (w6 := w9) (w7 := w10) (w8 := w11) R rd last u (K2.out.2.1.below L28 (Nat.le_refl _)) ho1 K2.out.2.2.1 rRR (Nat.lt_of_lt_of_le K6.out.1.lt L68.size) KA.out.1 KA.out.2.1 KB.out.1 KB.out.2.1 KC.out.1 KC.out.2.1 hrd0 hrd1
            have P0B : But (fun _ => False) w ((w11.alloc (.cells (dC (some ⟨w4.heap.size, 0, none⟩) rest.length rest.length rd last u).toArray 26)).alloc (.cells (srC w11.heap.size R (.slice oa2 ord.length oc2) (.slice hva held.length hvc) (.slice eva ends.length evc) (.slice nva nth.length nvc)).toArray 51)) := (KC.out.2.2.alloc _).alloc _
            obtain ⟨wB, hwB⟩ : ∃ wB, wB = ((w11.alloc (.cells (dC (some ⟨w4.heap.size, 0, none⟩) rest.length rest.length rd last u).toArray 26)).alloc (.cells (srC w11.heap.size R (.slice oa2 ord.length oc2) (.slice hva held.length hvc) (.slice eva ends.length evc) (.slice nva nth.length nvc)).toArray 51)) := ⟨_, rfl⟩
            have KO : Hid (Rd wr (some ⟨g, 0, none⟩) (u16s ord) ∧ Rd wr (some ⟨w2.heap.size, 0, none⟩) (u8s rest) ∧ Rd wr (some ⟨w6.heap.size, 0, none⟩) (u16s held) ∧ But (fun _ => False) w wr) := ⟨K2.out.1.below L28 (Nat.le_refl _), rR0, rH, HP06.out.trans K8.out.2⟩
            change Calls _ _ _ ((w11.alloc (.cells (dC (some ⟨w4.heap.size, 0, none⟩) rest.length rest.length rd last u).toArray 26)).alloc (.cells (srC w11.heap.size R (.slice oa2 ord.length oc2) (.slice hva held.length hvc) (.slice eva ends.length evc) (.slice nva nth.length nvc)).toArray 51)) _
            rw [← hwB] at KM P0B ⊢
            have hFB : F.answers wB.tape := by rw [P0B.tape]; exact HF.out.1
            refine (dist_any F (w11.heap.size + 1) w11.heap.size w4.heap.size R ord oa2 oc2 held ends nth (.slice hva held.length hvc) (.slice eva ends.length evc) (.slice nva nth.length nvc) rest rd last u (some ⟨w4.heap.size, 0, none⟩) rest.length wB hFB KM.out.1 KM.out.2.1 KM.out.2.2.2.1 hl hu HF.out.2 hrn ho1 ho2 hhn hen hnn).mono ?_
            rintro e w12 hPost
            have L12 : Below wr.heap.size wr w12 := KM.out.2.2.1.trans (hPost.P.below KM.out.2.2.2.2 KM.out.2.2.1.size)
            obtain ⟨x31, rfl, hx31⟩ : ∃ x, e = .returned x ∧ (((mdl ord rest last u R held (Lib.bitLen (ord.length - 1)) (snum last u rest 0 (Lib.bitLen (ord.length - 1)))).2.1 = true ∧ ∃ a, x = .iface 73 (.pointer (some a))) ∨ ((mdl ord rest last u R held (Lib.bitLen (ord.length - 1)) (snum last u rest 0 (Lib.bitLen (ord.length - 1)))).2.1 = false ∧ x = .nilIface)) := by
              cases hh : (mdl ord rest last u R held (Lib.bitLen (ord.length - 1)) (snum last u rest 0 (Lib.bitLen (ord.length - 1)))).2.1 with
              | true => obtain ⟨a, ha⟩ := hPost.e1 hh; exact ⟨_, ha, Or.inl ⟨rfl, a, rfl⟩⟩
              | false => exact ⟨_, hPost.e0 hh, Or.inr ⟨rfl, rfl⟩⟩
            have KX := hide hx31
            have KP : Hid ((∃ hv' ev' nv', Sr w12 (w11.heap.size + 1) w11.heap.size w4.heap.size R ord oa2 oc2 (mdl ord rest last u R held (Lib.bitLen (ord.length - 1)) (snum last u rest 0 (Lib.bitLen (ord.length - 1)))).1 (if (mdl ord rest last u R held (Lib.bitLen (ord.length - 1)) (snum last u rest 0 (Lib.bitLen (ord.length - 1)))).2.1 = true then ends else ends ++ [((mdl ord rest last u R held (Lib.bitLen (ord.length - 1)) (snum last u rest 0 (Lib.bitLen (ord.length - 1)))).1.length : Int)]) (if (mdl ord rest last u R held (Lib.bitLen (ord.length - 1)) (snum last u rest 0 (Lib.bitLen (ord.length - 1)))).2.1 = true then nth else nth ++ [(ends.length : Int)]) hv' ev' nv') ∧
              ((mdl ord rest last u R held (Lib.bitLen (ord.length - 1)) (snum last u rest 0 (Lib.bitLen (ord.length - 1)))).2.2.1 = true → Drained w12 w11.heap.size rest rd last u (mdl ord rest last u R held (Lib.bitLen (ord.length - 1)) (snum last u rest 0 (Lib.bitLen (ord.length - 1)))).2.2.2) ∧
              ((mdl ord rest last u R held (Lib.bitLen (ord.length - 1)) (snum last u rest 0 (Lib.bitLen (ord.length - 1)))).2.2.1 = false → ∃ so cc, DecAt w12 w11.heap.size w4.heap.size rest rd last u (mdl ord rest last u R held (Lib.bitLen (ord.length - 1)) (snum last u rest 0 (Lib.bitLen (ord.length - 1)))).2.2.2 so cc) ∧ Below wr.heap.size wr w12) := ⟨hPost.s, hPost.d1, hPost.d0, L12⟩
            clear hx31 hPost L12 hFB P0B hwB KM L68 L48 L28 rR0 rRR rH K2 K4 K6 K8 KA KB KC
            go_upto_region 26 with (fail)
            refine midC w w12 oa order.length oc ra rest.length rc rd last (u0 : Int) R ha held.length hc ea ec na nc (some ⟨g, 0, none⟩) ord.length u (some ⟨w2.heap.size, 0, none⟩) (some ⟨w6.heap.size, 0, none⟩) (w11.heap.size + 1) w11.heap.size w4.heap.size x31 ord rest held ends nth oa2 oc2 _ _ _ _ _ _ _ _ _ _ _ _ _ _ _ _ _ _ _ _ _ _ _ _ _ _ _ _ _ _ _ _ _ _ _ _ _ _ _ _ _ _ _ _ _ _ _ _ _ _ _ _ _ _ _ _ _ _ _ _ _ _ _ _ _ _ _ _ _ _ _ _ _ _ _ _ _ _ _ _ _ _ _ _ _ _ _ _ _ _ _ _ _ _ _ _ _ _ _ _ _ _ _ _ _ _ _ _ _ _ _ _ _ _ _ _ _ _ _ _ _ _ _ _ _ _ _ _ _ _ _ _ _ _ _ _ _ _ _ _ _ _ _ _ _ _ _ _ _ _ _ _ _ _ _ _ _ _ _ _ _ _ _ _ _ _ _ _ _ _ _ _ _ _ _ _ _ _ _ _ _ _ _ _ _ _ _ _ _ _ _ _ _ _ _ _ _ _ _ _ _ _ _ _ _ _ _ _ _ _ _ _ _ _ _ _ _ _ _ _ _ _ _ _ _ _ _ _ _ _ _ _ _ _ _ _ _ _ _ _ _ _ _ _ _ _ _ _ _ _ _ _ _ _ _ _ _ _ _ _ _ _ _ _ _ _ _ _ _ _ _ _ _ _ _ _ _ _ _ _ _ _ _ _ _ _ _ _ _ _ _ _ _ _ _ _ _ _ _ _ _ _ _ _ _ _ _ _ _ _ _ _ _ _ _ _ _ _ _ _ _ _ _ _ _ _ _ _ _ _ _ _ _ _ _ _ _ _ _ _ _ _ _ _ _ _ _ _ _ _ _ _ _ _ _ _ _ _ _ _ _ _ _ _ _ _ _ _ _
              ((KO.out.2.2.2.trans2 (But.of_below (S := fun k => wr.heap.size ≤ k) KP.out.2.2.2 (fun k _ h => h)) (fun i hi h => by have := KO.out.2.2.2.size; omega)).below (fun _ h => h.elim) (Nat.le_refl _)) HE.out.1 HE.out.2 HN.out.1 HN.out.2
              (KO.out.1.below KP.out.2.2.2 (Nat.le_refl _)) (KO.out.2.1.below KP.out.2.2.2 (Nat.le_refl _)) (fun h => by cases h) (KO.out.2.2.1.below KP.out.2.2.2 (Nat.le_refl _)) (fun h => by cases h) HF.out.2 rfl KP.out.1 KP.out.2.1 KP.out.2.2.1 KX.out hl hrn hu hen hnn hhn ho1 ho2 hR0 hR1 _ ?_
            assumption

end Go.Proofs.YbulkeekoFmt
