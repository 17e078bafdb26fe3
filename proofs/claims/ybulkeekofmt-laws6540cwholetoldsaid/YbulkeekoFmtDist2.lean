/-
  THE WALK of (*sliceReader).distinctRow where the head is in range.
-/
import Derived.Test.YbulkeekoFmtDist
import Derived.Test.YbulkeekoFmtBit
import Derived.Deep.DeepCutAuto
namespace Go.Proofs.YbulkeekoFmt
open Go.RowKit Go.Extern.Stop Go.Stop Go.Extern
set_option linter.unusedSimpArgs false
set_option linter.unusedVariables false

theorem chunks_step (b : Nat → Nat) (R : Int) (total : Nat) (lt : List Nat) (c n k : Nat) (h h'' : List Nat) (n' : Nat) (hne : 0 < lt.length) (hk : k = min lt.length 16) (hc : c + k ≤ total) (hs : scan (fun i => b (c + i)) R (lt.take k) 0 n h = (h'', n', false)) :
    chunks b R total lt.length lt c n h = chunks b R total (lt.drop k).length (lt.drop k) (c + k) n' h'' := by
  have e : chunks b R total lt.length lt c n h = chunks b R total (lt.length - 1 + 1) lt c n h := by rw [show lt.length - 1 + 1 = lt.length by omega]
  rw [e, chunks, if_neg (by intro h; rw [h] at hne; simp at hne), ← hk, if_neg (by omega), hs]
  exact chunks_fuel b R total _ _ _ _ _ _ (by rw [List.length_drop]; omega) (Nat.le_refl _)

theorem chunks_stop (b : Nat → Nat) (R : Int) (total : Nat) (lt : List Nat) (c n k : Nat) (h h'' : List Nat) (n' : Nat) (hne : 0 < lt.length) (hk : k = min lt.length 16) (hc : c + k ≤ total) (hs : scan (fun i => b (c + i)) R (lt.take k) 0 n h = (h'', n', true)) :
    chunks b R total lt.length lt c n h = (h'', true, false, c + k) := by
  have e : chunks b R total lt.length lt c n h = chunks b R total (lt.length - 1 + 1) lt c n h := by rw [show lt.length - 1 + 1 = lt.length by omega]
  rw [e, chunks, if_neg (by intro h; rw [h] at hne; simp at hne), ← hk, if_neg (by omega), hs]

theorem chunks_short (b : Nat → Nat) (R : Int) (total : Nat) (lt : List Nat) (c n k : Nat) (h : List Nat) (hne : 0 < lt.length) (hk : k = min lt.length 16) (hc : total < c + k) : chunks b R total lt.length lt c n h = (h, true, true, c) := by
  have e : chunks b R total lt.length lt c n h = chunks b R total (lt.length - 1 + 1) lt c n h := by rw [show lt.length - 1 + 1 = lt.length by omega]
  rw [e, chunks, if_neg (by intro h; rw [h] at hne; simp at hne), ← hk, if_pos (by omega)]

theorem len_of (H : Nat) (h0 : H ≠ 0) (h1 : H < 65536) : ∃ l, 2 ^ l ≤ H ∧ H < 2 ^ (l + 1) ∧ Lib.bitLen H = l + 1 ∧ l ≤ 15 := by
  obtain ⟨a, b, c⟩ := Lib.bitLenAux_bounds 64 H (by omega) h0
  refine ⟨Lib.bitLenAux 64 H - 1, b, by rwa [Nat.sub_add_cancel a], by unfold Lib.bitLen; omega, ?_⟩
  have h2 : 2 ^ (Lib.bitLenAux 64 H - 1) < 2 ^ 16 := by omega
  have := (Nat.pow_lt_pow_iff_right (by decide : 1 < 2)).1 h2
  omega

theorem and_mask (H l : Nat) (hH : H < 65536) (hl : l ≤ 15) : bits .and .i64 (H : Int) (wrap64 (wrap64 ((2 : Int) ^ l) - 1)) = ((H % 2 ^ l : Nat) : Int) := by
  have h1 : 1 ≤ 2 ^ l := Nat.two_pow_pos l
  have h2 : 2 ^ l ≤ 2 ^ 15 := Nat.pow_le_pow_right (by decide) hl
  have h3 : (2 : Int) ^ l = ((2 ^ l : Nat) : Int) := by simp
  have h4 := Nat.and_two_pow_sub_one_eq_mod H l
  rw [h3]
  generalize 2 ^ l = z at *
  rw [show wrap64 (wrap64 (z : Int) - 1) = ((z - 1 : Nat) : Int) by unfold wrap64; omega, i64_and_nat _ _ (by omega) (by omega), h4]

def whatR : ByteArray := ⟨#[97, 32, 114, 111, 119, 32, 108, 111, 110, 103, 101, 114, 32, 116, 104, 97, 110, 32, 116, 104, 101, 32, 115, 101, 116, 32, 111, 102, 32, 37, 100, 32, 114, 101, 112, 108, 105, 99, 97, 115]⟩

/-- what distinctRow answers and leaves -/
structure Post (w w' : World) (sb db rb : Nat) (R : Int) (ord : List Nat) (oa : Option Addr) (oc : Nat) (ends nth : List Int) (hv ev nv : Value) (rest : List Nat) (rd : Int) (last u : Nat) (RES : List Nat × Bool × Bool × Nat) (e : Ending) : Prop where
  P : But (Own3 sb db hv ev nv) w w'
  s : ∃ hv' ev' nv', Sr w' sb db rb R ord oa oc RES.1 (if RES.2.1 = true then ends else ends ++ [(RES.1.length : Int)]) (if RES.2.1 = true then nth else nth ++ [(ends.length : Int)]) hv' ev' nv'
  d1 : RES.2.2.1 = true → Drained w' db rest rd last u RES.2.2.2
  d0 : RES.2.2.1 = false → ∃ so cc, DecAt w' db rb rest rd last u RES.2.2.2 so cc
  e1 : RES.2.1 = true → ∃ a, e = .returned (.iface 73 (.pointer (some a)))
  e0 : RES.2.1 = false → e = .returned .nilIface

/-- what holds at the head of the loop over the chunks -/
structure Loop1 (w wr : World) (sb db rb : Nat) (R : Int) (ord : List Nat) (ad : Addr) (oc : Nat) (held : List Nat) (ends nth : List Int) (hv ev nv : Value) (rest : List Nat) (rd : Int) (last u : Nat) (RES : List Nat × Bool × Bool × Nat)
    (lt : List Nat) (la : Option Addr) (lc n c : Nat) (h' : List Nat) (hv' : Value) (so : Option Addr) (cc : Nat) : Prop where
  le : lt.length ≤ lc
  rl : Rd wr la (u16s lt)
  bk : ∀ x, la = some x → lt.length = 0 ∨ x.block = ad.block
  n1 : 1 ≤ n ∧ n + lt.length ≤ ord.length
  hl : h'.length + lt.length ≤ held.length + ord.length
  res : chunks (sbit last u rest) R (u + 8 * rest.length) lt.length lt c n h' = RES
  sr : Sr wr sb db rb R ord (some ad) oc h' ends nth hv' ev nv
  de : DecAt wr db rb rest rd last u c so cc
  P : But (Own3 sb db hv ev nv) w wr
  fr : Fresh w hv hv'

/-- what holds at the head of the loop over one chunk's bits -/
structure Loop2 (w wr : World) (sb db rb : Nat) (R : Int) (ord : List Nat) (ad : Addr) (oc : Nat) (ends nth : List Int) (hv ev nv : Value) (rest : List Nat) (rd : Int) (last u : Nat)
    (lt : List Nat) (la : Option Addr) (n c k : Nat) (h' : List Nat) (so : Option Addr) (cc : Nat) (j n' : Nat) (h'' : List Nat) (hv'' : Value) : Prop where
  jk : j ≤ k
  n1 : n' ≤ n + j
  n2 : 1 ≤ n'
  hl : h''.length ≤ h'.length + j
  sc : scan (fun i => sbit last u rest (c + i)) R ((lt.take k).drop j) j n' h'' = scan (fun i => sbit last u rest (c + i)) R (lt.take k) 0 n h'
  rl : Rd wr la (u16s lt)
  sr : Sr wr sb db rb R ord (some ad) oc h'' ends nth hv'' ev nv
  de : DecAt wr db rb rest rd last u (c + k) so cc
  P : But (Own3 sb db hv ev nv) w wr
  fr : Fresh w hv hv''

set_option maxRecDepth 100000 in
set_option maxHeartbeats 40000000 in
theorem dist_ok (F : Interp) (sb db rb : Nat) (R : Int) (ord : List Nat) (oa : Option Addr) (oc : Nat) (held : List Nat) (ends nth : List Int) (hv ev nv : Value) (rest : List Nat) (rd : Int) (last u : Nat) (so : Option Addr) (cc : Nat) (w : World) (hF : F.answers w.tape)
    (s : Sr w sb db rb R ord oa oc held ends nth hv ev nv) (d : DecAt w db rb rest rd last u 0 so cc) (hrb : rb ≠ db) (hl : last < 256) (hu : u ≤ 7) (hb : ∀ b ∈ rest, b < 256) (hr : rest.length ≤ 1048576) (hm : ord.length ≤ 1048576) (L head : Nat) (hhead : head < ord.length) (hheld : held.length ≤ 1048576) (hends : ends.length ≤ 1048576) (hnth : nth.length ≤ 1048576)
    (hc : Calls Ybaf.prog 20 #[.pointer (some ⟨db, 0, none⟩), .int .i64 ord.length, .string whatS] w.drew fun e w' => e = .returned (.tuple #[.int .i64 head, .nilIface]) ∧ But (fun g => g = db) w.drew w' ∧ ∃ so cc, DecAt w' db rb rest rd last u L so cc) :
    Calls Ybaf.prog 11 #[.pointer (some ⟨sb, 0, none⟩)] w fun e w' => Post w w' sb db rb R ord oa oc ends nth hv ev nv rest rd last u (chunks (sbit last u rest) R (u + 8 * rest.length) (ord.drop (head + 1)).length (ord.drop (head + 1)) L 1 (held ++ [ord[head]])) e := by
  have c0 := s.S.cell (j := 0) rfl
  have c9 := s.S.cell (j := 9) rfl
  have HE : Hid (Calls Ybaf.prog 20 #[.pointer (some ⟨db, 0, none⟩), .int .i64 ord.length, .string whatS] w.drew fun e w' => e = .returned (.tuple #[.int .i64 head, .nilIface]) ∧ w'.cell? ⟨sb, 0, none⟩ = some (.pointer (some ⟨db, 0, none⟩)) ∧ w'.cell? ⟨sb, 9, none⟩ = some (.slice oa ord.length oc) ∧ Hid (Sr w' sb db rb R ord oa oc held ends nth hv ev nv ∧ But (fun g => g = db) w w' ∧ ∃ so cc, DecAt w' db rb rest rd last u L so cc)) := by
    refine hc.mono ?_
    rintro e w' ⟨he, P, hq⟩
    have P' : But (fun g => g = db) w w' := ((But.refl (fun g => g = db) w).drew).trans P
    have := s.S.but P' s.d1
    exact ⟨he, this.cell (j := 0) rfl, this.cell (j := 9) rfl, s.dec P', P', hq⟩
  have HD := hide d.B
  clear s d hc
  go_enter Ybaf.func11, Ybaf.ntmps11
  go_wp2_with fail
  refine (at_any db _ _ _ _ _ _ w HD.out).mono ?_
  rintro e w ⟨⟨at_, rfl⟩, rfl⟩
  go_wp2_with fail
  go_region_held3 (fun w' => w'.cell? ⟨sb, 0, none⟩ = some (.pointer (some ⟨db, 0, none⟩)) ∧ w'.cell? ⟨sb, 9, none⟩ = some (.slice oa ord.length oc)) (go_keep) ((go_at_call 20; refine HE.out.mono ?_; rintro e w1 ⟨rfl, k0, k9, HQ⟩))
  go_upto_region 5 with (fail)
  clear HE HD c0 c9 k0 k9
  obtain ⟨ha, hcp, rfl, _, _, _, _, _⟩ := owns_form HQ.out.1.h
  obtain ⟨ad, rfl, cO⟩ := HQ.out.1.o head (.int .u16 ((ord[head] : Nat) : Int)) (by simp [List.getElem?_eq_getElem hhead])
  have c9 := HQ.out.1.S.cell (j := 9) rfl
  have c10 := HQ.out.1.S.cell (j := 10) rfl
  have f10 := HQ.out.1.S.frozen 10
  obtain ⟨v2, w2, hrun, H2⟩ := HQ.out.1.pushH ord[head] (by omega)
  obtain ⟨a2, cp2, rfl, _⟩ := owns_form H2.out.2.2.1.h
  have k9 := H2.out.1.cell (j := 9) rfl
  have k10 := H2.out.1.cell (j := 10) rfl
  have g10 := H2.out.1.frozen 10
  obtain ⟨_, e9, kO⟩ := H2.out.2.1 head (.int .u16 ((ord[head] : Nat) : Int)) (by simp [List.getElem?_eq_getElem hhead])
  cases e9
  have A10 : (w1.alloc (.cells #[.int .u16 ((ord[head] : Nat) : Int)] 40)).cell? ⟨sb, 10, none⟩ = some (.slice ha held.length hcp) := (HQ.out.1.S.alloc _).cell (j := 10) rfl
  go_cut [4] (fun x wc => x = .int .i64 (head : Int) ∧ wc = w2.setCell ⟨sb, 10, none⟩ (.slice a2 (held ++ [ord[head]]).length cp2))
  case first =>
    go_region_law (refine step_append_by (by rfl) (.tmp 36) (.tmp 44) 37 (by rfl) _ _ (by rfl) (by rfl) hrun ?_)
    all_goals go_wp2_with fail
    all_goals go_meet
    all_goals exact ⟨rfl, by simp⟩
  case rest =>
    obtain ⟨rfl, rfl⟩ := hcut
    have s2 := H2.out.2.2.1
    have Lh : Hid (Sr (w2.setCell ⟨sb, 10, none⟩ (.slice a2 (held ++ [ord[head]]).length cp2)) sb db rb R ord (some ad) oc (held ++ [ord[head]]) ends nth (.slice a2 (held ++ [ord[head]]).length cp2) ev nv) := s2
    have hS : Hid True := trivial
    clear s2 hrun k9 k10 g10 kO c9 c10 f10 A10 cO
    generalize hw3 : w2.setCell ⟨sb, 10, none⟩ (.slice a2 (held ++ [ord[head]]).length cp2) = w3 at *
    have c9 := Lh.out.S.cell (j := 9) rfl
    go_upto_region 7 with (fail)
    go_cut [7] (fun l wc => ∃ la lc, l = .slice la (ord.length - (head + 1)) lc ∧ ord.length - (head + 1) ≤ lc ∧ Rd wc la (u16s (ord.drop (head + 1))) ∧ (∀ x, la = some x → ord.length - (head + 1) = 0 ∨ x.block = ad.block) ∧ wc = w3)
    case first =>
      go_wp2_with fail
      · go_meet
        case rel => exact ⟨_, _, rfl, by have := Lh.out.oc; omega, by rw [List.drop_of_length_le (by have := Lh.out.oc; omega)]; exact Rd.nil _ _, fun x e => Or.inl (by have := Lh.out.oc; omega), rfl⟩
      · go_meet
        case rel =>
          refine ⟨_, _, rfl, by have := Lh.out.oc; omega, ?_, fun x e => Or.inr (by cases e; rfl), rfl⟩
          have := Lh.out.o.later (head + 1)
          rw [← List.map_drop] at this
          exact this
    case rest =>
      obtain ⟨la, lc, rfl, hlc, rL, hbk, rfl⟩ := hcut
      have L0 : Hid (Loop1 w wc sb db rb R ord ad oc held ends nth (.slice ha held.length hcp) ev nv rest rd last u (chunks (sbit last u rest) R (u + 8 * rest.length) (ord.drop (head + 1)).length (ord.drop (head + 1)) L 1 (held ++ [ord[head]]))
          (ord.drop (head + 1)) la lc 1 L (held ++ [ord[head]]) (.slice a2 (held ++ [ord[head]]).length cp2) HQ.out.2.2.choose HQ.out.2.2.choose_spec.choose) := by
        have hd := HQ.out.2.2.choose_spec.choose_spec
        have hs1 := HQ.out.1
        have P2 := H2.out.2.2.2.1
        refine ⟨by simpa using hlc, rL, fun x e => by simpa using hbk x e, ⟨Nat.le_refl _, by simp; omega⟩, by simp; omega, rfl, Lh.out, hd.but P2 ?_ ?_, ?_, ?_⟩
        · rintro (h | h)
          · exact hs1.d1 h.symm
          · exact (hs1.h1 _ h).2.1 rfl
        · rintro (h | h)
          · exact hs1.d2 h
          · exact (hs1.h1 _ h).2.2.1 rfl
        · refine (HQ.out.2.1.mono (fun i _ h => Or.inr (Or.inl h))).trans2 P2 (fun i _ h => ?_)
          rcases h with h | h
          · exact Or.inl h
          · exact Or.inr (Or.inr (Or.inl h))
        · exact (Fresh.refl w _).trans H2.out.2.2.2.2 HQ.out.2.1.size
      go_wp2_with fail
      go_loopg [6, 7] (ord.drop (head + 1)).length (fun gk nn lv wr => ∃ (lt : List Nat) (la : Option Addr) (lc n c : Nat) (h' : List Nat) (hv' : Value) (so : Option Addr) (cc : Nat), gk = lt.length ∧ nn = .int .i64 (n : Int) ∧ lv = .slice la lt.length lc ∧
        Loop1 w wr sb db rb R ord ad oc held ends nth (.slice ha held.length hcp) ev nv rest rd last u (chunks (sbit last u rest) R (u + 8 * rest.length) (ord.drop (head + 1)).length (ord.drop (head + 1)) L 1 (held ++ [ord[head]])) lt la lc n c h' hv' so cc)
      case atStart => exact ⟨ord.drop (head + 1), la, lc, 1, L, _, _, _, _, rfl, rfl, by simp, L0.out⟩
      case round =>
        obtain ⟨lt, la, lc, n, c, h', hv', so', cc', rfl, rfl, rfl, hLp⟩ := hrel
        have HL := hide hLp
        clear hLp L0
        by_cases hne : 0 < lt.length
        · have c0 := HL.out.sr.S.cell (j := 0) rfl
          obtain ⟨ad2, rfl, _⟩ := HL.out.rl 0 (.int .u16 ((lt[0] : Nat) : Int)) (by simp [List.getElem?_eq_getElem hne])
          obtain ⟨k, ek, hk⟩ : ∃ k : Nat, min (lt.length : Int) 16 = (k : Int) ∧ k = min lt.length 16 := ⟨min lt.length 16, by omega, rfl⟩
          have HKk : Hid (k = min lt.length 16) := hk
          have hk1 : 1 ≤ k := by omega
          have hk2 : k ≤ 16 := by omega
          have hk3 : k ≤ lt.length := by omega
          clear hk
          have hFr : F.answers wr.tape := by rw [HL.out.P.tape]; exact hF
          go_wp2_with fail
          refine (bitsAt_any F db rb rest rd last u c k so' cc' wr hFr hrb HL.out.de hl hu (by omega) hb hr).mono ?_
          rintro e wb ⟨Pb, hB⟩
          rcases hB with ⟨h1, rfl, so2, cc2, D2⟩ | ⟨h1, ⟨a, rfl⟩, D2⟩
          · have I0 : Hid (Loop2 w wb sb db rb R ord ad oc ends nth (.slice ha held.length hcp) ev nv rest rd last u lt (some ad2) n c k h' so2 cc2 0 n h' hv') := by
              refine ⟨Nat.zero_le _, Nat.le_refl _, HL.out.n1.1, Nat.le_refl _, by simp, ?_, HL.out.sr.dec Pb, D2, HL.out.P.trans2 Pb (fun i _ h => Or.inr (Or.inl h)), HL.out.fr⟩
              by_cases h0 : lt.length = 0
              · omega
              · exact HL.out.rl.but Pb (fun x e h => by have := (HL.out.bk x e).resolve_left h0; have := (HL.out.sr.oa1 ad rfl).2.1; omega)
            have hSn : snum last u rest c k < 65536 := by
              have := snum_lt last u rest c k
              have : (2 : Nat) ^ k ≤ 2 ^ 16 := Nat.pow_le_pow_right (by decide) hk2
              omega
            clear D2 Pb c0
            go_wp2_with fail
            go_loopg [6, 9] k (fun gk nn hh wr2 => ∃ (j n' : Nat) (h'' : List Nat) (hv'' : Value), gk = k - j ∧ nn = .int .i64 (n' : Int) ∧ hh = .int .i64 (snum last u rest (c + j) (k - j) : Nat) ∧
              Loop2 w wr2 sb db rb R ord ad oc ends nth (.slice ha held.length hcp) ev nv rest rd last u lt (some ad2) n c k h' so2 cc2 j n' h'' hv'')
            case atStart => exact ⟨0, n, h', hv', rfl, rfl, by simp, I0.out⟩
            case round =>
              obtain ⟨j, n', h'', hv'', rfl, rfl, rfl, hL2⟩ := hrel
              have H2' := hide hL2
              clear hL2 I0
              have hHl : snum last u rest (c + j) (k - j) < 65536 := by
                have := snum_lt last u rest (c + j) (k - j)
                have : (2 : Nat) ^ (k - j) ≤ 2 ^ 16 := Nat.pow_le_pow_right (by decide) (by omega)
                omega
              by_cases hz : snum last u rest (c + j) (k - j) = 0
              · have hzz := snum_zero last u rest (c + j) (k - j) hz
                have hsc : scan (fun i => sbit last u rest (c + i)) R (lt.take k) 0 n h' = (h'', n', false) := by
                  rw [← H2'.out.sc]
                  refine scan_none _ _ _ _ _ _ (fun i hi => ?_)
                  have hi' : i < k - j := by simp at hi; omega
                  have := hzz i hi'
                  rwa [show c + j + i = c + (j + i) by omega] at this
                have hRES := HL.out.res
                rw [chunks_step _ _ _ _ _ _ _ _ _ _ hne HKk.out h1 hsc] at hRES
                clear hzz
                have NR : Hid (∀ la' lc', lt.length - k ≤ lc' → Rd wr la' (u16s (lt.drop k)) → (∀ x, la' = some x → lt.length - k = 0 ∨ x.block = ad.block) →
                    Loop1 w wr sb db rb R ord ad oc held ends nth (.slice ha held.length hcp) ev nv rest rd last u (chunks (sbit last u rest) R (u + 8 * rest.length) (ord.drop (head + 1)).length (ord.drop (head + 1)) L 1 (held ++ [ord[head]])) (lt.drop k) la' lc' n' (c + k) h'' hv'' so2 cc2) := by
                  intro la' lc' hle hrd hbk'
                  have hn2 := HL.out.n1
                  have hn3 := H2'.out.n1
                  have hn4 := HL.out.hl
                  have hn5 := H2'.out.hl
                  have hn6 := H2'.out.jk
                  exact ⟨by rw [List.length_drop]; exact hle, hrd, fun x e => by rw [List.length_drop]; exact hbk' x e, ⟨by have := H2'.out.n2; omega, by rw [List.length_drop]; omega⟩, by rw [List.length_drop]; omega, hRES, H2'.out.sr, H2'.out.de, H2'.out.P, H2'.out.fr⟩
                clear hRES hsc
                have hn9 : k ≤ lc := by have := HL.out.le; omega
                have RL := hide (H2'.out.rl.later k)
                go_wp2_with fail
                · go_roundg (lt.length - k)
                  case rel =>
                    have hle := HL.out.le
                    exact ⟨lt.drop k, some ad2, 0, n', c + k, h'', hv'', so2, cc2, by simp, rfl, by simp, NR.out _ _ (by omega) (by rw [List.drop_of_length_le (by omega)]; exact Rd.nil _ _) (fun x e => Or.inl (by omega))⟩
                  case measure => omega
                · go_roundg (lt.length - k)
                  case rel =>
                    have hle := HL.out.le
                    exact ⟨lt.drop k, some (ad2.add k), lc - k, n', c + k, h'', hv'', so2, cc2, by simp, rfl, by simp, NR.out _ _ (by omega) (by have := RL.out; rwa [← List.map_drop] at this) (fun x e => Or.inr (by cases e; rw [addr_block]; exact (HL.out.bk _ rfl).resolve_left (by omega)))⟩
                  case measure => omega
              · have c0 := H2'.out.sr.S.cell (j := 0) rfl
                have c2 := H2'.out.sr.S.cell (j := 2) rfl
                obtain ⟨l, hl1, hl2, eL, hl3⟩ := len_of _ hz hHl
                obtain ⟨p, hp1, hp2, hp3, hp4⟩ := snum_first last u rest (c + j) (k - j) l hl1 hl2
                have hjk := H2'.out.jk
                have hpl : p < ((lt.take k).drop j).length := by simp; omega
                have hit := scan_hit (fun i => sbit last u rest (c + i)) R n' h'' ((lt.take k).drop j) j p hpl (fun i hi => by have := hp2 i hi; rwa [show c + j + i = c + (j + i) by omega] at this) (by rwa [show c + j + p = c + (j + p) by omega] at hp3)
                rw [H2'.out.sc] at hit
                have hn8 : n' ≤ 2000000 := by
                  have h1 := H2'.out.n1
                  have h2 := HL.out.n1
                  omega
                by_cases hR : (n' : Int) + 1 > R
                · rw [if_pos hR] at hit
                  have hRES := HL.out.res
                  rw [chunks_stop _ _ _ _ _ _ _ _ _ _ hne HKk.out h1 hit] at hRES
                  have A0 : (wr.alloc (.cells #[.iface 3 (.int .i64 R)] 20)).cell? ⟨sb, 0, none⟩ = some (.pointer (some ⟨db, 0, none⟩)) := (H2'.out.sr.S.alloc _).cell (j := 0) rfl
                  have HC : Hid (Calls Ybaf.prog 22 #[.pointer (some ⟨db, 0, none⟩), .int .i64 at_, .string whatR, .slice (some ⟨wr.heap.size, 0, none⟩) 1 1] (wr.alloc (.cells #[.iface 3 (.int .i64 R)] 20)).drew fun e w' => ∃ a, e = .returned (.iface 73 (.pointer (some a))) ∧
                      Hid (Post w w' sb db rb R ord (some ad) oc ends nth (.slice ha held.length hcp) ev nv rest rd last u (chunks (sbit last u rest) R (u + 8 * rest.length) (ord.drop (head + 1)).length (ord.drop (head + 1)) L 1 (held ++ [ord[head]])) (.returned (.iface 73 (.pointer (some a)))))) := by
                    have hFr2 : F.answers wr.tape := by rw [H2'.out.P.tape]; exact hF
                    refine (errR F _ at_ R wr.heap.size _ (by exact hFr2) (by simp [World.cell?_alloc_new])).mono ?_
                    rintro e w9 ⟨a, rfl, hb9⟩
                    have L9 : Below wr.heap.size wr w9 := (((But.refl (fun _ => False) wr).alloc (.cells #[.iface 3 (.int .i64 R)] 20)).drew.below (B := wr.heap.size) (fun _ h => h.elim) (Nat.le_refl _)).trans (hb9.mono (by simp [World.drew]))
                    refine ⟨a, rfl, ?_⟩
                    rw [← hRES]
                    exact ⟨H2'.out.P.trans (But.of_below' L9), ⟨_, _, _, H2'.out.sr.dec (But.of_below' L9)⟩, (fun h => by cases h), fun _ => ⟨_, _, H2'.out.de.below L9⟩, fun _ => ⟨_, rfl⟩, (fun h => by cases h)⟩
                  clear hp2 hp3 hp4 hl1 hl2 hRES hit
                  go_upto_region 17 with (fail)
                  go_region_with ((go_at_call 22; refine HC.out.mono ?_; rintro e w9 ⟨a, rfl, HP⟩))
                  all_goals go_wp2_with fail
                  all_goals go_ret
                  all_goals exact HP.out
                · rw [if_neg hR] at hit
                  obtain ⟨q, hq⟩ : ∃ q : Nat, q = j + p := ⟨_, rfl⟩
                  have hqk : q + l + 1 = k := by omega
                  have hxp : q < lt.length := by omega
                  have hxe : ((lt.take k).drop j)[p] = lt[q] := by subst hq; simp
                  rw [hxe, ← hq] at hit
                  obtain ⟨_, e2, cO⟩ := H2'.out.rl q (.int .u16 ((lt[q] : Nat) : Int)) (by simp [List.getElem?_eq_getElem hxp])
                  cases e2
                  obtain ⟨ha3, hcp3, rfl, _, _, _, _, _⟩ := owns_form H2'.out.sr.h
                  have hlh : h''.length ≤ 3000000 := by
                    have h1 := H2'.out.hl
                    have h2 := HL.out.hl
                    omega
                  obtain ⟨v2, w3', hrun, H3⟩ := H2'.out.sr.pushH lt[q] hlh
                  obtain ⟨a2', cp2', rfl, _⟩ := owns_form H3.out.2.2.1.h
                  rw [show (h'' ++ [lt[q]]).length = h''.length + 1 by simp] at hrun H3
                  have c10 := H2'.out.sr.S.cell (j := 10) rfl
                  have k10 := H3.out.1.cell (j := 10) rfl
                  have g10 := H3.out.1.frozen 10
                  have A10 : (wr.alloc (.cells #[.int .u16 ((lt[q] : Nat) : Int)] 40)).cell? ⟨sb, 10, none⟩ = some (.slice ha3 h''.length hcp3) := (H2'.out.sr.S.alloc _).cell (j := 10) rfl
                  have NX : Hid (Loop2 w (w3'.setCell ⟨sb, 10, none⟩ (.slice a2' (h''.length + 1) cp2')) sb db rb R ord ad oc ends nth (.slice ha held.length hcp) ev nv rest rd last u lt (some ad2) n c k h' so2 cc2 (q + 1) (n' + 1) (h'' ++ [lt[q]]) (.slice a2' (h''.length + 1) cp2')) := by
                    have P3 := H3.out.2.2.2.1
                    have s1 := H2'.out.sr
                    have hn1 := H2'.out.n1
                    have hn2 := H2'.out.hl
                    refine ⟨by omega, by omega, by omega, by simp; omega, ?_, ?_, H3.out.2.2.1, H2'.out.de.but P3 ?_ ?_, ?_, ?_⟩
                    · rw [hit, List.drop_drop, show j + (p + 1) = q + 1 by omega]
                    · refine H2'.out.rl.but P3 (fun x e => ?_)
                      cases e
                      have hbk := (HL.out.bk _ rfl).resolve_left (by omega)
                      rw [hbk]
                      rintro (h | h)
                      · exact (s1.oa1 ad rfl).1 h
                      · exact (s1.oa1 ad rfl).2.2.1 h
                    · rintro (h | h)
                      · exact s1.d1 h.symm
                      · exact (s1.h1 _ h).2.1 rfl
                    · rintro (h | h)
                      · exact s1.d2 h
                      · exact (s1.h1 _ h).2.2.1 rfl
                    · refine H2'.out.P.trans2 P3 (fun i hi h => ?_)
                      rcases h with h | h
                      · exact Or.inl h
                      · exact Or.inr (Or.inr (Or.inl (H2'.out.fr.old hi h)))
                    · exact H2'.out.fr.trans H3.out.2.2.2.2 H2'.out.P.size
                  have hp5 : snum last u rest (c + (q + 1)) (k - (q + 1)) = snum last u rest (c + j) (k - j) % 2 ^ l := by
                    rw [hp4, show c + (q + 1) = c + j + p + 1 by omega, show k - (q + 1) = l by omega]
                  have HM : Hid (bits .and .i64 (snum last u rest (c + j) (k - j) : Nat) (wrap64 (wrap64 ((2 : Int) ^ l) - 1)) = (snum last u rest (c + (q + 1)) (k - (q + 1)) : Nat)) := by
                    show _ = _
                    rw [and_mask _ _ hHl hl3, hp5]
                  have HB : Hid (Lib.bitLen (snum last u rest (c + j) (k - j)) = l + 1) := eL
                  have eU : IntKind.u64.wrap ((snum last u rest (c + j) (k - j) : Nat) : Int) = (snum last u rest (c + j) (k - j) : Nat) := by rw [IntKind.wrap_u64]; omega
                  have ekl : IntKind.i64.wrap ((k : Int) - ((l : Int) + 1)) = ((q : Nat) : Int) := by rw [IntKind.wrap_i64]; omega
                  have hjq : j ≤ q := by omega
                  have hqk1 : q + 1 ≤ k := by omega
                  clear hp1 hp2 hp3 hp4 hp5 hl1 hl2 hit eL hxe hq hqk
                  go_upto_region 18 with (fail)
                  go_region_law (first | refine step_append_by (by rfl) (.tmp 107) (.tmp 116) 37 (by rfl) _ _ (by rfl) (by rfl) hrun ?_ | (go_simp; go_at_call 21; (try rw [eU]); refine (Ybaf.bits_Len _ _ (by omega) (by omega)).mono ?_; rintro e w9 ⟨rfl, rfl⟩; rw [Int.toNat_natCast, HB.out]))
                  all_goals go_wp2_with fail
                  all_goals refine (Ybaf.bits_Len _ _ (by omega) (by omega)).mono ?_
                  all_goals rintro e w9 ⟨rfl, rfl⟩
                  all_goals rw [Int.toNat_natCast, HB.out]
                  all_goals go_wp2_with fail
                  all_goals go_roundg (k - (q + 1))
                  all_goals first | exact ⟨q + 1, n' + 1, h'' ++ [lt[q]], _, rfl, by simp, congrArg (Value.int .i64) HM.out, NX.out⟩ | omega
          · have hRES := HL.out.res
            rw [chunks_short _ _ _ _ _ _ _ _ hne HKk.out h1] at hRES
            have HP : Hid (Post w wb sb db rb R ord (some ad) oc ends nth (.slice ha held.length hcp) ev nv rest rd last u (chunks (sbit last u rest) R (u + 8 * rest.length) (ord.drop (head + 1)).length (ord.drop (head + 1)) L 1 (held ++ [ord[head]])) (.returned (.iface 73 (.pointer (some a))))) := by
              rw [← hRES]
              exact ⟨HL.out.P.trans2 Pb (fun i _ h => Or.inr (Or.inl h)), ⟨_, _, _, HL.out.sr.dec Pb⟩, fun _ => D2, (fun h => by cases h), fun _ => ⟨_, rfl⟩, (fun h => by cases h)⟩
            clear hRES D2 Pb
            go_wp2_with fail
            go_ret
            exact HP.out
        · have hlt0 : lt = [] := List.eq_nil_of_length_eq_zero (by omega)
          have hRES := HL.out.res
          subst hlt0
          rw [List.length_nil, chunks] at hRES
          have c11 := HL.out.sr.S.cell (j := 11) rfl
          have c12 := HL.out.sr.S.cell (j := 12) rfl
          obtain ⟨ea, ecp, rfl, _, _, _, _, _⟩ := owns_form HL.out.sr.e
          obtain ⟨na, ncp, rfl, _, _, _, _, _⟩ := owns_form HL.out.sr.n
          obtain ⟨v3, w3', hrun, H3⟩ := HL.out.sr.pushN (ends.length : Int) (by omega)
          obtain ⟨a3, cp3, rfl, _⟩ := owns_form H3.out.2.1.n
          have k12 := H3.out.1.cell (j := 12) rfl
          have g12 := H3.out.1.frozen 12
          have A12 : (wr.alloc (.cells #[.int .i64 (ends.length : Int)] 3)).cell? ⟨sb, 12, none⟩ = some (.slice na nth.length ncp) := (HL.out.sr.S.alloc _).cell (j := 12) rfl
          go_upto_region 20 with (fail)
          go_cut [4] (fun x wc => x = .int .i64 (head : Int) ∧ wc = w3'.setCell ⟨sb, 12, none⟩ (.slice a3 (nth ++ [(ends.length : Int)]).length cp3))
          case first =>
            go_region_law (refine step_append_by (by rfl) (.tmp 127) (.tmp 133) 36 (by rfl) _ _ (by rfl) (by rfl) hrun ?_)
            all_goals go_wp2_with fail
            all_goals go_meet
            all_goals exact ⟨rfl, by simp⟩
          case rest =>
            obtain ⟨rfl, rfl⟩ := hcut
            have hh1 := HL.out.hl
            have Lh3 : Hid (Sr (w3'.setCell ⟨sb, 12, none⟩ (.slice a3 (nth ++ [(ends.length : Int)]).length cp3)) sb db rb R ord (some ad) oc h' ends (nth ++ [(ends.length : Int)]) hv' (.slice ea ends.length ecp) (.slice a3 (nth ++ [(ends.length : Int)]).length cp3) ∧
              But (fun k => k = sb ∨ (Value.slice na nth.length ncp).ownBlock = some k) wr (w3'.setCell ⟨sb, 12, none⟩ (.slice a3 (nth ++ [(ends.length : Int)]).length cp3))) := ⟨H3.out.2.1, H3.out.2.2.1⟩
            clear hrun k12 g12 A12 c11 c12 H3
            generalize hw5 : w3'.setCell ⟨sb, 12, none⟩ (.slice a3 (nth ++ [(ends.length : Int)]).length cp3) = w5 at *
            obtain ⟨ha5, hcp5, rfl, _, _, _, _, _⟩ := owns_form Lh3.out.1.h
            have c10 := Lh3.out.1.S.cell (j := 10) rfl
            have c11 := Lh3.out.1.S.cell (j := 11) rfl
            obtain ⟨v6, w6, hrun, H6⟩ := Lh3.out.1.pushE (h'.length : Int) (by omega)
            obtain ⟨a6, cp6, rfl, _⟩ := owns_form H6.out.2.1.e
            rw [show (ends ++ [(h'.length : Int)]).length = ends.length + 1 by simp] at hrun H6
            have k11 := H6.out.1.cell (j := 11) rfl
            have g11 := H6.out.1.frozen 11
            have A11 : (w5.alloc (.cells #[.int .i64 (h'.length : Int)] 3)).cell? ⟨sb, 11, none⟩ = some (.slice ea ends.length ecp) := (Lh3.out.1.S.alloc _).cell (j := 11) rfl
            have HP : Hid (Post w (w6.setCell ⟨sb, 11, none⟩ (.slice a6 (ends.length + 1) cp6)) sb db rb R ord (some ad) oc ends nth (.slice ha held.length hcp) (.slice ea ends.length ecp) (.slice na nth.length ncp) rest rd last u (chunks (sbit last u rest) R (u + 8 * rest.length) (ord.drop (head + 1)).length (ord.drop (head + 1)) L 1 (held ++ [ord[head]])) (.returned .nilIface)) := by
              rw [← hRES]
              have s1 := HL.out.sr
              have s5 := Lh3.out.1
              have P5 := Lh3.out.2
              have P6 := H6.out.2.2.1
              have dE : DecAt (w6.setCell ⟨sb, 11, none⟩ (.slice a6 (ends.length + 1) cp6)) db rb rest rd last u c so' cc' := by
                refine (HL.out.de.but P5 ?_ ?_).but P6 ?_ ?_
                · rintro (h | h)
                  · exact s1.d1 h.symm
                  · exact (s1.n1 _ h).2.1 rfl
                · rintro (h | h)
                  · exact s1.d2 h
                  · exact (s1.n1 _ h).2.2 rfl
                · rintro (h | h)
                  · exact s1.d1 h.symm
                  · exact (s1.e1 _ h).2.1 rfl
                · rintro (h | h)
                  · exact s1.d2 h
                  · exact (s1.e1 _ h).2.2.1 rfl
              have PP : But (Own3 sb db (.slice ha held.length hcp) (.slice ea ends.length ecp) (.slice na nth.length ncp)) w (w6.setCell ⟨sb, 11, none⟩ (.slice a6 (ends.length + 1) cp6)) := by
                refine (HL.out.P.trans2 P5 (fun i hi h => ?_)).trans2 P6 (fun i hi h => ?_)
                · rcases h with h | h
                  · exact Or.inl h
                  · exact Or.inr (Or.inr (Or.inr (Or.inr h)))
                · rcases h with h | h
                  · exact Or.inl h
                  · exact Or.inr (Or.inr (Or.inr (Or.inl h)))
              exact ⟨PP, ⟨_, _, _, H6.out.2.1⟩, (fun h => by cases h), fun _ => ⟨_, _, dE⟩, (fun h => by cases h), fun _ => rfl⟩
            clear hRES
            go_upto_region 21 with (fail)
            go_region_law (refine step_append_by (by rfl) (.tmp 141) (.tmp 147) 36 (by rfl) _ _ (by rfl) (by rfl) hrun ?_)
            all_goals go_wp2_with fail
            all_goals go_ret
            all_goals exact HP.out

end Go.Proofs.YbulkeekoFmt
