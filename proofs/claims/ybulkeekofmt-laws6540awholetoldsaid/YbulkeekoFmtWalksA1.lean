/-
  THE WALK of LawS6540AWhole where the bits are there.
-/
import Derived.Test.YbulkeekoFmtWalksA
namespace Go.Proofs.YbulkeekoFmt
open Go.RowKit Go.Extern.Stop Go.Stop Go.Extern
set_option linter.unusedSimpArgs false
set_option linter.unusedVariables false

set_option maxRecDepth 100000 in
set_option maxHeartbeats 20000000 in
theorem lawA_ok1 (F : Interp) (ra : Option Addr) (n c : Nat) (rest : List Nat) (rd : Int) (last u0 w0 : Nat) (w : World) (hF : F.answers w.tape) (hn1 : n ≤ 1048576) (hr : Rd w ra (u8s rest)) (hn : rest.length = n) (hc : n ≤ c) (h0 : ra = none → n = 0 ∧ c = 0) (hb : ∀ b ∈ rest, b < 256)
    (hl : last < 256) (hu0 : u0 < 256) (hw0 : w0 < 256) (hrd0 : -9223372036854775808 ≤ rd) (hrd1 : rd < 9223372036854775808) (hnd0 : needB (u0 % 8) (w0 % 33) ≤ rest.length) (huw0 : u0 % 8 ≤ w0 % 33) :
    Calls Ybaf.prog 3 #[.slice ra n c, .int .i64 rd, .int .u8 last, .int .u8 u0, .int .u8 w0] w fun e w' => e = .returned (.bool true) ∧ Below w.heap.size w w' := by
  have t1 : decide ((1048576 : Int) < (n : Int)) = false := by simp; omega
  obtain ⟨u, hU⟩ : ∃ u : Nat, u = u0 % 8 := ⟨_, rfl⟩
  obtain ⟨width, hW⟩ : ∃ width : Nat, width = w0 % 33 := ⟨_, rfl⟩
  have hu : u ≤ 7 := by omega
  have hw : width ≤ 32 := by omega
  have eU : ((u0 : Nat) : Int) % 8 = (u : Int) := by omega
  have eW : ((w0 : Nat) : Int) % 33 = (width : Int) := by omega
  have HK := hide (And.intro hr (And.intro h0 (And.intro hb hF)))
  have HN : Hid (needB u width ≤ rest.length ∧ u ≤ width) := by rw [hU, hW]; exact ⟨hnd0, huw0⟩
  clear hnd0 huw0
  clear hr h0 hb hF hU hW
  go_enter Ybaf.func3, Ybaf.ntmps3
  go_wp2_with fail
  refine (clone5_any w ra n c _ HK.out.1 (u8s_one _) (by simpa using hn) HK.out.2.1 hn1).mono ?_
  rintro e w1 ⟨ov, rfl, o1, L1⟩
  obtain ⟨oa, oc, rfl, c1, c2, r1, n1, b1⟩ := owns_form o1.o
  simp only [List.length_map] at c1 n1 ⊢
  rw [hn] at c1 n1 ⊢
  have H1 := hide (And.intro o1 (And.intro L1 (And.intro c1 (And.intro r1 (And.intro n1 b1)))))
  clear o1 L1 c1 c2 r1 n1 b1
  go_wp2_with fail
  have B2 := Blk.new w1 (dC ra n c rd last u) 26
  have L2 : Below w.heap.size w (w1.alloc (.cells (dC ra n c rd last u).toArray 26)) := H1.out.2.1.alloc H1.out.2.1.size _
  have R2 : Rnd (w1.alloc (.cells (dC ra n c rd last u).toArray 26)) (w1.alloc (.cells (dC ra n c rd last u).toArray 26)) w1.heap.size rest rd last u 0 ra c := by
    refine ⟨?_, by omega, HK.out.1.below L2 (Nat.le_refl _), fun ad e => ?_, fun e => ?_, But.refl _ _⟩
    · rw [rdAt_zero rd hrd0 hrd1]
      simpa [lastAt, hn] using B2
    · by_cases h0 : rest.length = 0
      · exact Or.inl (by omega)
      · right
        have hl := HK.out.1.lt_of (by simpa using h0) e
        have := H1.out.2.1.size
        omega
    · have := HK.out.2.1 e; omega
  have F2 : F.answers (w1.alloc (.cells (dC ra n c rd last u).toArray 26)).tape := by
    have : w1.tape = w.tape := H1.out.2.1.tape
    show F.answers w1.tape
    rw [this]; exact HK.out.2.2.2
  have O2 : Rd (w1.alloc (.cells (dC ra n c rd last u).toArray 26)) oa (u8s rest) := H1.out.2.2.2.1.below ((Below.refl w1.heap.size w1).alloc (Nat.le_refl _) _) (Nat.le_refl _)
  have s1 := H1.out.2.1.size
  have H2 := hide (And.intro L2 (And.intro R2 (And.intro F2 O2)))
  clear B2 L2 R2 F2 O2
  rw [show (#[Value.slice ra n c, .int .i64 rd, .int .u8 last, .int .i64 u] : Array Value) = (dC ra n c rd last u).toArray from rfl]
  generalize hdb : w1.heap.size = db at *
  generalize w1.alloc (.cells (dC ra n c rd last u).toArray 26) = w2 at *
  refine (bits_any F db rest rd last u width ra c w2 H2.out.2.2.1 H2.out.2.1 hl hu hw HK.out.2.2.1 (by omega)).mono ?_
  rintro e w3 ⟨so, sc, hsc, hB⟩
  have KEEP : But (fun g => g = db) w2 w3 → Hid (Below w.heap.size w w3 ∧ Rd w3 ra (u8s rest) ∧ Rd w3 oa (u8s rest)) := by
    intro P
    refine ⟨H2.out.1.trans (P.below (fun k hk => by omega) H2.out.1.size), ?_, ?_⟩
    · by_cases h0 : rest.length = 0
      · obtain rfl := List.eq_nil_of_length_eq_zero h0; exact Rd.nil _ _
      · exact H2.out.2.1.R.but P (fun ad e h => by have := HK.out.1.lt_of (by simpa using h0) e; omega)
    · by_cases h0 : rest.length = 0
      · obtain rfl := List.eq_nil_of_length_eq_zero h0; exact Rd.nil _ _
      · exact H2.out.2.2.2.but P (fun ad e h => by have := H1.out.2.2.2.1.lt_of (by simpa using h0) e; omega)
  obtain ⟨hnd, rfl, B3, hle, R3, P3, N3⟩ : needB u width ≤ rest.length ∧ e = .returned (.tuple #[.int .i64 (snum last u rest 0 width), .nilIface]) ∧
    Blk w3 db (dC so (rest.length - needB u width) sc (rdAt rd (needB u width)) (lastAt last rest (needB u width)) (u + 8 * needB u width - width)) 26 ∧ rest.length - needB u width ≤ sc ∧
    Rd w3 so ((rest.drop (needB u width)).map (fun (b : Nat) => Value.int .u8 (b : Int))) ∧ But (fun g => g = db) w2 w3 ∧ (∀ ad, so = some ad → rest.length - needB u width = 0 ∨ ad.block ≠ db) := by
    rcases hB with h | ⟨hnd, _⟩
    · exact h
    · exact absurd HN.out.1 (by omega)
  have huw : u ≤ width := HN.out.2
  have K3 := KEEP P3
  clear KEEP
  have c0 := B3.cell (j := 0) rfl
  have c1 := B3.cell (j := 1) rfl
  have c2 := B3.cell (j := 2) rfl
  have c3 := B3.cell (j := 3) rfl
  have hge := needB_ge u width
  have hnd4 : needB u width ≤ 4 := by unfold needB; omega
  have c3' : w3.cell? ⟨db, 3, none⟩ = some (.int .i64 ((u : Int) + 8 * (needB u width : Int) - (width : Int))) := by rw [c3, show ((u + 8 * needB u width - width : Nat) : Int) = (u : Int) + 8 * (needB u width : Int) - (width : Int) by omega]
  unfold rdAt at c1
  clear c3
  have HB := hide (And.intro B3 (And.intro hle (And.intro R3 (And.intro P3 N3))))
  clear B3 hle R3 P3 N3 c0 c1 c2 c3'
  obtain ⟨nd, hnde⟩ : ∃ nd, nd = needB u width := ⟨_, rfl⟩
  have enz : Hid (nd = needB u width) := hnde
  rw [← hnde] at hnd hge hnd4
  clear hnde
  go_wp2_with fail
  refine (equal7_true w3 ra oa n c oc (u8s rest) (u8s_int _) K3.out.2.1 K3.out.2.2 (by simpa using hn) (by omega)).mono ?_
  rintro e w4 ⟨rfl, q, rfl⟩
  go_upto_if 54 with (fail)
  go_cut [17] (fun x wc => x = .int .i64 (nd : Int) ∧ wc = w3.drewN q)
  case first =>
    by_cases hwu : u < width
    · have e5 : Hid (((width : Int) - (u : Int) + 7) / 8 = (nd : Int)) := by have := enz.out; unfold needB at this; show _ = _; omega
      go_wp2_with fail
      go_meet
      case rel => exact ⟨by rw [e5.out], rfl⟩
    · have e5 : Hid ((0 : Int) = (nd : Int)) := by have := enz.out; unfold needB at this; show _ = _; omega
      go_wp2_with fail
      go_meet
      case rel => exact ⟨by rw [e5.out], rfl⟩
  case rest =>
    obtain ⟨rfl, rfl⟩ := hcut
    go_wp2_with fail
    go_loopw [19, 20, 21] (fun x tk i wr => ∃ t : Nat, t ≤ u ∧ t ≤ width ∧ x = .int .u64 (snum last u rest 0 t : Nat) ∧ tk = .int .i64 (t : Int) ∧ i = .int .i64 ((u : Int) - 1 - (t : Int)) ∧ wr = w3.drewN q) (fun _ tk _ _ => u - (intOf tk).toNat)
    case atStart => exact ⟨0, Nat.zero_le _, Nat.zero_le _, rfl, rfl, by simp, rfl⟩
    case round =>
      obtain ⟨t, ht1, ht2, rfl, rfl, rfl, rfl⟩ := hrel
      by_cases hlt : t < u ∧ t < width
      · obtain ⟨m, hm⟩ : ∃ m : Nat, m + t + 1 = u := ⟨u - 1 - t, by omega⟩
        have em : (u : Int) - 1 - (t : Int) = (m : Int) := by omega
        rw [em]
        obtain ⟨hl1, hl2⟩ := hlt
        go_wp2_with fail
        rw [stepX last u rest t last m (by omega) hl (by omega) (by unfold sbit; rw [if_pos hl1, show u - 1 - t = m by omega])]
        exact ⟨⟨t + 1, by omega, by omega, rfl, by go_num, by congr 1; omega, trivial⟩, by simp [intOf]; omega⟩
      · have hlt' : ¬ t < u := by omega
        have HT : Hid (t = min u width) := by show _ = _; omega
        clear hlt
        go_wp2_with fail
        clear hlt'
        go_loopw [19, 20, 22] (fun x tk j wr => ∃ jj t' : Nat, jj ≤ nd ∧ t' = min (u + 8 * jj) width ∧ x = .int .u64 (snum last u rest 0 t' : Nat) ∧ tk = .int .i64 (t' : Int) ∧ j = .int .i64 (jj : Int) ∧ wr = w3.drewN q) (fun _ _ j _ => nd - (intOf j).toNat)
        case atStart => exact ⟨0, t, Nat.zero_le _, by have := HT.out; omega, by simp [*], by simp [*], rfl, rfl⟩
        case round =>
          obtain ⟨jj, t', hj, ht', rfl, rfl, rfl, rfl⟩ := hrel
          by_cases hjl : jj < nd
          · have hx := needB_lt u width jj (by rw [← enz.out]; exact hjl)
            obtain rfl : t' = u + 8 * jj := by omega
            clear ht'
            have hjr : jj < rest.length := by omega
            have hb8 : rest[jj] < 256 := HK.out.2.2.1 _ (List.getElem_mem hjr)
            obtain ⟨oad, rfl, cO⟩ := K3.out.2.2 jj (.int .u8 ((rest[jj] : Nat) : Int)) (by simp [List.getElem?_eq_getElem hjr])
            go_wp2_with fail
            go_loopw [19, 20, 23] (fun x tk i wr => ∃ s : Nat, s ≤ 8 ∧ u + 8 * jj + s ≤ width ∧ x = .int .u64 (snum last u rest 0 (u + 8 * jj + s) : Nat) ∧ tk = .int .i64 ((u + 8 * jj + s : Nat) : Int) ∧ i = .int .i64 (7 - (s : Int)) ∧ wr = w3.drewN q) (fun _ _ i _ => (intOf i + 1).toNat)
            case atStart => exact ⟨0, Nat.zero_le _, by omega, by simp, by simp, by simp, rfl⟩
            case round =>
              obtain ⟨s, hs1, hs2, rfl, rfl, rfl, rfl⟩ := hrel
              by_cases hlt : s < 8 ∧ u + 8 * jj + s < width
              · obtain ⟨m, hm⟩ : ∃ m : Nat, m + s = 7 := ⟨7 - s, by omega⟩
                have em : 7 - (s : Int) = (m : Int) := by omega
                rw [em]
                obtain ⟨hl1, hl2⟩ := hlt
                go_wp2_with fail
                rw [stepX last u rest (u + 8 * jj + s) rest[jj] m (by omega) hb8 (by omega) (by
                  unfold sbit
                  rw [if_neg (by omega), show (u + 8 * jj + s - u) / 8 = jj by omega, show 7 - (u + 8 * jj + s - u) % 8 = m by omega, List.getD_eq_getElem?_getD, List.getElem?_eq_getElem hjr, Option.getD_some])]
                exact ⟨⟨s + 1, by omega, by omega, rfl, by go_num, by congr 1; omega, trivial⟩, by simp [intOf] <;> omega⟩
              · have hlt' : (¬ s < 8 ∧ s ≤ 8) ∨ (s < 8 ∧ ¬ u + 8 * jj + s < width) := by omega
                have HT2 : Hid (u + 8 * jj + s = min (u + 8 * (jj + 1)) width) := by show _ = _; omega
                clear hlt
                rcases hlt' with ⟨hz1, hz2⟩ | ⟨hz1, hz2⟩
                all_goals go_wp2_with fail
                all_goals exact ⟨⟨jj + 1, u + 8 * jj + s, by omega, HT2.out, rfl, rfl, by go_num, trivial⟩, by simp [intOf] <;> omega⟩
          · obtain rfl : nd = jj := by omega
            obtain rfl : width = t' := by omega
            clear ht' hjl
            go_upto_if 171 with (fail)
            go_cut [24] (fun x wc => x = .int .u8 (lastAt last rest nd : Nat) ∧ wc = w3.drewN q)
            case first =>
              by_cases h0 : 0 < nd
              · have hm : nd - 1 < rest.length := by omega
                obtain ⟨oad, rfl, cO⟩ := K3.out.2.2 (nd - 1) (.int .u8 ((rest[nd - 1] : Nat) : Int)) (by simp [List.getElem?_eq_getElem hm])
                have eL : Hid (lastAt last rest nd = rest[nd - 1]) := by show _ = _; unfold lastAt; rw [if_neg (by omega), List.getD_eq_getElem?_getD, List.getElem?_eq_getElem hm]; rfl
                go_wp2_with fail
                go_meet
                case rel => exact ⟨by rw [eL.out], rfl⟩
              · have eL : Hid (lastAt last rest nd = last) := by show _ = _; unfold lastAt; rw [if_pos (by omega)]
                go_wp2_with fail
                go_meet
                case rel => exact ⟨by rw [eL.out], rfl⟩
            case rest =>
              obtain ⟨rfl, rfl⟩ := hcut
              have hsn := snum_lt last u rest 0 width
              have hse : (2 : Nat) ^ width ≤ 4294967296 := Nat.pow_le_pow_right (n := 2) (j := 32) (by decide) hw
              have hsb : snum last u rest 0 width < 4294967296 := by omega
              have hoc := H1.out.2.2.1
              have hnn : n - nd ≤ 9000000 := by omega
              have C0 : w3.cell? ⟨db, 0, none⟩ = some (.slice so (n - nd) sc) := by have := HB.out.1.cell (j := 0) rfl; rwa [hn, ← enz.out] at this
              have C1 : w3.cell? ⟨db, 1, none⟩ = some (.int .i64 (wrap64 (rd + (nd : Int)))) := by have := HB.out.1.cell (j := 1) rfl; rwa [← enz.out] at this
              have C2 : w3.cell? ⟨db, 2, none⟩ = some (.int .u8 ((lastAt last rest nd : Nat) : Int)) := by have := HB.out.1.cell (j := 2) rfl; rwa [← enz.out] at this
              have C3 : w3.cell? ⟨db, 3, none⟩ = some (.int .i64 ((u : Int) + 8 * (nd : Int) - (width : Int))) := by
                have := HB.out.1.cell (j := 3) rfl
                rw [← enz.out, show ((u + 8 * nd - width : Nat) : Int) = (u : Int) + 8 * (nd : Int) - (width : Int) by omega] at this
                exact this
              have R3 : Hid (Rd w3 so (u8s (rest.drop nd))) := by have := HB.out.2.2.1; rw [← enz.out] at this; exact this
              clear hsn hse
              have E1 : IntKind.i64.wrap ((snum last u rest 0 width : Nat) : Int) = ((snum last u rest 0 width : Nat) : Int) := by rw [wI]; unfold wrap64; omega
              have E2 : IntKind.i64.wrap (8 * (nd : Int)) = 8 * (nd : Int) := by rw [wI]; unfold wrap64; omega
              have E3 : IntKind.i64.wrap ((u : Int) + 8 * (nd : Int)) = (u : Int) + 8 * (nd : Int) := by rw [wI]; unfold wrap64; omega
              have E4 : IntKind.i64.wrap ((u : Int) + 8 * (nd : Int) - (width : Int)) = (u : Int) + 8 * (nd : Int) - (width : Int) := by rw [wI]; unfold wrap64; omega
              have E5 : IntKind.i64.wrap (rd + (nd : Int)) = wrap64 (rd + (nd : Int)) := wI _
              have E6 : (0 : Int) ≤ (nd : Int) := by omega
              have E7 : (nd : Int) ≤ (n : Int) := by omega
              have E8 : (nd : Int) ≤ (oc : Int) := by omega
              have HE : Hid (∀ (q' d : Nat) (ob : Option Addr), Rd w3 ob (u8s (rest.drop nd)) → Calls Ybaf.prog 7 #[.slice so (n - nd) sc, .slice ob (n - nd) d] (w3.drewN q') fun e w' => e = .returned (.bool true) ∧ ∃ q'', w' = (w3.drewN q').drewN q'') := by
                intro q' d ob hob
                exact equal7_true (w3.drewN q') so ob (n - nd) sc d (u8s (rest.drop nd)) (u8s_int _) R3.out hob (by simp; omega) hnn
              obtain ⟨ob, hob, HOB⟩ : ∃ ob, (if oc = nd then oa else Option.map (fun x => x.add nd) oa) = ob ∧ Hid (Rd w3 ob (u8s (rest.drop nd))) := by
                refine ⟨_, rfl, ?_⟩
                by_cases hq : oc = nd
                · rw [List.drop_of_length_le (by omega)]; exact Rd.nil _ _
                · rw [if_neg hq]
                  cases oa with
                  | none => exact absurd (H1.out.2.2.2.2.1 rfl) (by omega)
                  | some oad =>
                    have := Rd.later (w := w3) (ad := oad) (xs := u8s rest) K3.out.2.2 nd
                    rw [← List.map_drop] at this
                    exact this
              go_wp2_with fail
              go_region_held3 (fun w' => w'.cell? ⟨db, 0, none⟩ = some (.slice so (n - nd) sc) ∧ w'.cell? ⟨db, 1, none⟩ = some (.int .i64 (wrap64 (rd + (nd : Int)))) ∧ w'.cell? ⟨db, 2, none⟩ = some (.int .u8 ((lastAt last rest nd : Nat) : Int)) ∧ w'.cell? ⟨db, 3, none⟩ = some (.int .i64 ((u : Int) + 8 * (nd : Int) - (width : Int)))) (go_keep) ((go_at_call 7; refine (HE.out _ _ _ HOB.out).mono ?_; rintro e w5 ⟨rfl, q5, rfl⟩))
              go_wp2_with fail
              go_ret
              exact ⟨rfl, belowDN K3.out.1 _⟩

end Go.Proofs.YbulkeekoFmt
