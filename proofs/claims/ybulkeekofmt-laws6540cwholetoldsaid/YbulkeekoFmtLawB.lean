/-
  THE WALK of LawS6540CWhole's model, from the call of distinctRow on.
-/
import Derived.Test.YbulkeekoFmtLawT
import Derived.Deep.DeepCutAuto
import Derived.Deep.CutRange
import Derived.Deep.RegionHeld3
namespace Go.Proofs.YbulkeekoFmt
open Go.RowKit Go.Extern.Stop Go.Stop Go.Extern
set_option linter.unusedSimpArgs false
set_option linter.unusedVariables false

theorem scan_at (b : Nat → Nat) (R : Int) (lt : List Nat) (k j n : Nat) (h : List Nat) (hj : j < k) (hk : k ≤ lt.length) :
    scan b R ((lt.take k).drop j) j n h = if b j = 1 then (if (n : Int) + 1 > R then (h, n + 1, true) else scan b R ((lt.take k).drop (j + 1)) (j + 1) (n + 1) (h ++ [lt[j]])) else scan b R ((lt.take k).drop (j + 1)) (j + 1) n h := by
  rw [List.drop_eq_getElem_cons (by simp; omega), scan]
  simp

set_option maxRecDepth 1000000 in
set_option maxHeartbeats 20000000 in
theorem midC (w0 w12 : World) (oa : Option Addr) (on oc : Nat) (ra : Option Addr) (rn rc : Nat) (rd : Int) (last : Nat) (u0 R : Int) (ha : Option Addr) (hn hc : Nat) (ea : Option Addr) (ec : Nat) (na : Option Addr) (nc : Nat) (ga : Option Addr) (gc u : Nat) (ra0 h0a : Option Addr) (sb db rb : Nat) (x31 : Value)
    (ord rest held : List Nat) (ends nth : List Int) (oa2 : Option Addr) (oc2 : Nat) (RES : List Nat × Bool × Bool × Nat)
    (c9 c10 c11 c12 c13 c14 c15 c16 c17 c20 c21 c24 c26 c27 c28 c29 c32 c33 c34 c35 c36 c37 c38 c39 c40 c41 c42 c43 c44 c45 c46 c47 c48 c49 c50 c51 c52 c53 c54 c55 c56 c57 c58 c59 c60 c61 c62 c63 c64 c65 c66 c67 c68 c69 c70 c71 c72 c73 c74 c75 c76 c77 c78 c79 c80 c81 c82 c83 c84 c85 c86 c87 c88 c89 c90 c91 c92 c93 c94 c95 c96 c97 c98 c99 c100 c101 c102 c103 c104 c105 c106 c107 c108 c109 c110 c111 c112 c113 c114 c115 c116 c117 c118 c119 c120 c121 c122 c123 c124 c125 c126 c127 c128 c129 c130 c131 c132 c133 c134 c135 c136 c137 c138 c139 c140 c141 c142 c143 c144 c145 c146 c147 c148 c149 c150 c151 c152 c153 c154 c155 c156 c157 c158 c159 c160 c161 c162 c163 c164 c165 c166 c167 c168 c169 c170 c171 c172 c173 c174 c175 c176 c177 c178 c179 c180 c181 c182 c183 c184 c185 c186 c187 c188 c189 c190 c191 c192 c193 c194 c195 c196 c197 c198 c199 c200 c201 c202 c203 c204 c205 c206 c207 c208 c209 c210 c211 c212 c213 c214 c215 c216 c217 c218 c219 c220 c221 c222 c223 c224 c225 c226 c227 c228 c229 c230 c231 c232 c233 c234 c235 c236 c237 c238 c239 c240 c241 c242 c243 c244 c245 c246 c247 c248 c249 c250 c251 c252 c253 c254 c255 c256 c257 c258 c259 c260 c261 c262 c263 c264 c265 c266 c267 c268 c269 c270 c271 c272 c273 c274 c275 c276 c277 c278 c279 c280 c281 c282 c283 c284 c285 c286 c287 c288 c289 c290 c291 c292 c293 c294 c295 c296 c297 c298 c299 c300 c301 c302 c303 c304 c305 c306 c307 c308 c309 c310 c311 c312 c313 c314 c315 c316 c317 c318 c319 c320 c321 c322 c323 c324 c325 c326 c327 c328 c329 c330 c331 c332 c333 c334 c335 c336 c337 c338 c339 c340 c341 c342 c343 c344 c345 c346 c347 c348 c349 c350 c351 c352 c353 c354 c355 c356 c357 c358 c359 c360 c361 c362 c363 c364 c365 c366 c367 c368 c369 c370 c371 c372 c373 c374 c375 c376 c377 c378 c379 c380 c381 c382 c383 : Value)
    (hbase : Below w0.heap.size w0 w12) (HE1 : Rd w0 ea (i64s ends)) (HE2 : ea = none → ends.length = 0 ∧ ec = 0) (HN1 : Rd w0 na (i64s nth)) (HN2 : na = none → nth.length = 0 ∧ nc = 0) (rO : Rd w12 ga (u16s ord)) (rR : Rd w12 ra0 (u8s rest)) (rR0 : ra0 = none → False) (rH : Rd w12 h0a (u16s held)) (rH0 : h0a = none → False) (Rb : ∀ b ∈ rest, b < 256)
    (hRES : (mdl ord rest last u R held (Lib.bitLen (ord.length - 1)) (snum last u rest 0 (Lib.bitLen (ord.length - 1)))) = RES)
    (sr : ∃ hv' ev' nv', Sr w12 sb db rb R ord oa2 oc2 RES.1 (if RES.2.1 = true then ends else ends ++ [(RES.1.length : Int)]) (if RES.2.1 = true then nth else nth ++ [(ends.length : Int)]) hv' ev' nv')
    (d1 : RES.2.2.1 = true → Drained w12 db rest rd last u RES.2.2.2) (d0 : RES.2.2.1 = false → ∃ so cc, DecAt w12 db rb rest rd last u RES.2.2.2 so cc)
    (hx : (RES.2.1 = true ∧ ∃ a, x31 = .iface 73 (.pointer (some a))) ∨ (RES.2.1 = false ∧ x31 = .nilIface))
    (hl : last < 256) (hrn : rest.length ≤ 1048576) (hu : u ≤ 7) (hen : ends.length ≤ 1048576) (hnn : nth.length ≤ 1048576) (hhn : held.length ≤ 1048576) (ho1 : 1 ≤ ord.length) (ho2 : ord.length ≤ 1048576) (hR0 : -9223372036854775808 ≤ R) (hR1 : R < 9223372036854775808)
    (K : Act → World → Prop) (hK : ∀ a w, Code.wp Ybaf.prog (pick Ybaf.f4.body 26).2 (bodyPost Ybaf.prog Ybaf.f4 (Owes w0)) a w → K a w) :
    Code.wp Ybaf.prog (pick Ybaf.f4.body 26).1 (Exit.then K (bodyPost Ybaf.prog Ybaf.f4 (Owes w0))) ⟨#[.slice oa on oc, .slice ra rn rc, .int .i64 rd, .int .u8 (last : Nat), .int .u8 u0, .int .i64 R, .slice ha hn hc, .slice ea ends.length ec, .slice na nth.length nc, c9, c10, c11, c12, c13, c14, c15, c16, c17, .bool false, .slice ga ord.length gc, c20, c21, .int .i64 (u : Nat), .slice ra0 rest.length rest.length, c24, .slice h0a held.length held.length, c26, c27, c28, c29, .pointer (some ⟨sb, 0, none⟩), x31, c32, c33, c34, c35, c36, c37, c38, c39, c40, c41, c42, c43, c44, c45, c46, c47, c48, c49, c50, c51, c52, c53, c54, c55, c56, c57, c58, c59, c60, c61, c62, c63, c64, c65, c66, c67, c68, c69, c70, c71, c72, c73, c74, c75, c76, c77, c78, c79, c80, c81, c82, c83, c84, c85, c86, c87, c88, c89, c90, c91, c92, c93, c94, c95, c96, c97, c98, c99, c100, c101, c102, c103, c104, c105, c106, c107, c108, c109, c110, c111, c112, c113, c114, c115, c116, c117, c118, c119, c120, c121, c122, c123, c124, c125, c126, c127, c128, c129, c130, c131, c132, c133, c134, c135, c136, c137, c138, c139, c140, c141, c142, c143, c144, c145, c146, c147, c148, c149, c150, c151, c152, c153, c154, c155, c156, c157, c158, c159, c160, c161, c162, c163, c164, c165, c166, c167, c168, c169, c170, c171, c172, c173, c174, c175, c176, c177, c178, c179, c180, c181, c182, c183, c184, c185, c186, c187, c188, c189, c190, c191, c192, c193, c194, c195, c196, c197, c198, c199, c200, c201, c202, c203, c204, c205, c206, c207, c208, c209, c210, c211, c212, c213, c214, c215, c216, c217, c218, c219, c220, c221, c222, c223, c224, c225, c226, c227, c228, c229, c230, c231, c232, c233, c234, c235, c236, c237, c238, c239, c240, c241, c242, c243, c244, c245, c246, c247, c248, c249, c250, c251, c252, c253, c254, c255, c256, c257, c258, c259, c260, c261, c262, c263, c264, c265, c266, c267, c268, c269, c270, c271, c272, c273, c274, c275, c276, c277, c278, c279, c280, c281, c282, c283, c284, c285, c286, c287, c288, c289, c290, c291, c292, c293, c294, c295, c296, c297, c298, c299, c300, c301, c302, c303, c304, c305, c306, c307, c308, c309, c310, c311, c312, c313, c314, c315, c316, c317, c318, c319, c320, c321, c322, c323, c324, c325, c326, c327, c328, c329, c330, c331, c332, c333, c334, c335, c336, c337, c338, c339, c340, c341, c342, c343, c344, c345, c346, c347, c348, c349, c350, c351, c352, c353, c354, c355, c356, c357, c358, c359, c360, c361, c362, c363, c364, c365, c366, c367, c368, c369, c370, c371, c372, c373, c374, c375, c376, c377, c378, c379, c380, c381, c382, c383], []⟩ w12 := by
  conv => arg 2; whnf
  have KB := hide (And.intro hbase (And.intro HE1 (And.intro HE2 (And.intro HN1 HN2))))
  have KO := hide (And.intro rO (And.intro rR (And.intro rH Rb)))
  have KP := hide (And.intro sr (And.intro d1 (And.intro d0 hx)))
  have HRES := hide hRES
  clear hbase HE1 HE2 HN1 HN2 rO rR rH Rb sr d1 d0 hx hRES
  go_wp2_with fail
  conv => arg 2; whnf
  go_wp2_with fail
  go_loopw [34] (fun i wl => ∃ k : Nat, k ≤ 21 ∧ i = .int .i64 k ∧ (k = 0 ∨ 2 ^ (k - 1) < ord.length) ∧ wl = w12) (fun i _ => 21 - (intOf i).toNat)
  case atStart => exact ⟨0, by omega, rfl, Or.inl rfl, rfl⟩
  case round =>
    obtain ⟨kL, hkL, rfl, hkL2, hw12⟩ := hrel
    have hw12' := hw12.symm
    clear hw12
    subst hw12'
    have hk20 : kL ≤ 20 := by
      rcases hkL2 with h | h
      · omega
      · have h3 : 2 ^ (kL - 1) < 2 ^ 20 := by omega
        have := (Nat.pow_lt_pow_iff_right (by decide : 1 < 2)).1 h3
        omega
    obtain ⟨pw, hpw⟩ : ∃ pw : Nat, pw = 2 ^ kL := ⟨_, rfl⟩
    have hpw2 : pw ≤ 1048576 := by
      have : (2 : Nat) ^ kL ≤ 2 ^ 20 := Nat.pow_le_pow_right (by decide) hk20
      omega
    have ew : wrap64 ((2 : Int) ^ kL) = (pw : Int) := by
      rw [show (2 : Int) ^ kL = ((2 ^ kL : Nat) : Int) by simp, ← hpw]
      unfold wrap64
      omega
    have HPW := hide hpw
    have HKL := hide hkL2
    clear hpw hkL2
    by_cases hlt : pw < ord.length
    · go_wp2_with fail
      go_roundw
      case rel => exact ⟨kL + 1, by omega, by go_num, Or.inr (by rw [Nat.add_sub_cancel, ← HPW.out]; exact hlt), trivial⟩
      case measure => simp [intOf]; omega
    · have HR2 : Hid (mdl ord rest last u R held kL (snum last u rest 0 kL) = RES) := by
        have := HRES.out
        rw [← bitLen_of ord.length kL ho1 ho2 (by rw [← HPW.out]; exact Nat.le_of_not_lt hlt) HKL.out] at this
        exact this
      clear HRES
      go_wp2_with fail
      clear hlt ew HPW HKL
      refine (clone9_any w12 _ held.length held.length (u16s held) KO.out.2.2.1 (u16s_one _) (by simp) (fun h => (rH0 h).elim) hhn).mono ?_
      rintro e w13 ⟨xv, rfl, o13, L13⟩
      obtain ⟨xa, xc, rfl, _⟩ := owns_form o13.o
      simp only [List.length_map] at o13 ⊢
      have X0 : Hid (Exp w12 w13 (.slice xa held.length xc) held) := ⟨by simpa using o13.o, o13.n, L13⟩
      clear o13 L13
      go_upto_if 159 with (fail)
      go_cut [35, 36, 37, 38, 39, 40, 41, 42, 43, 44] from 160 to 234 (fun c dr we xv _ _ _ _ _ _ wc => ∃ (h' : List Nat) (bdr bwe : Bool) (c' : Nat) (xa : Option Addr) (xc : Nat), c = .int .i64 (c' : Int) ∧ dr = .bool bdr ∧ we = .bool bwe ∧ xv = .slice xa h'.length xc ∧ RES = (h', bwe, bdr, c') ∧ h'.length ≤ 3000000 ∧ c' ≤ u + 8 * rest.length ∧ Hid (Exp w12 wc (.slice xa h'.length xc) h'))
      case first =>
        by_cases hs1 : u + 8 * rest.length < kL
        · have hm := HR2.out
          unfold mdl at hm
          rw [if_pos hs1] at hm
          have HM := hide hm
          clear hm
          go_wp2_with fail
          go_meet
          case rel => exact ⟨held, true, true, 0, xa, xc, rfl, rfl, rfl, rfl, HM.out.symm, by omega, by omega, X0.out⟩
        · have hm := HR2.out
          unfold mdl at hm
          rw [if_neg hs1] at hm
          have HM := hide hm
          clear hm
          go_wp2_with fail
          have rR13 := KO.out.2.1.below X0.out.L (Nat.le_refl _)
          refine (num_any last u ra0 rest.length rest.length rest 0 kL w13 hl hu rR13 rfl KO.out.2.2.2 hrn (by omega) (by omega)).mono ?_
          clear rR13
          rintro e w13x ⟨rfl, hw13⟩
          have hw13' := hw13.symm
          clear hw13
          subst hw13'
          have hsn : snum last u rest 0 kL < 1048576 := by
            have h1 := snum_lt last u rest 0 kL
            have h2 : (2 : Nat) ^ kL ≤ 2 ^ 20 := Nat.pow_le_pow_right (by decide) hk20
            omega
          clear HR2
          generalize hhd : snum last u rest 0 kL = head at *
          clear hhd
          by_cases hs2 : head < ord.length
          · have hm := HM.out
            rw [dif_pos hs2] at hm
            have HM2 := hide hm
            clear hm HM
            obtain ⟨gad, rfl, cG⟩ := (KO.out.1.below X0.out.L (Nat.le_refl _)) head (.int .u16 ((ord[head] : Nat) : Int)) (by simp [List.getElem?_eq_getElem hs2])
            obtain ⟨v1, w14, hrun1, X1⟩ := X0.out.push ord[head] (by omega)
            obtain ⟨xa1, xc1, rfl, _⟩ := owns_form X1.out.o
            rw [show (held ++ [ord[head]]).length = held.length + 1 by simp] at hrun1 X1
            obtain ⟨lat, hlat⟩ : ∃ lat : Nat, lat + head + 1 = ord.length := ⟨ord.length - head - 1, by omega⟩
            have eLat : (ord.length : Int) - (head : Int) - 1 = (lat : Int) := by omega
            have HLAT := hide hlat
            have hlat2 : lat ≤ 1048576 := by omega
            clear hlat
            go_wp2_with (at_builtin; refine wpList_append_by rfl (.tmp 172) (.tmp 177) 37 rfl _ _ rfl rfl hrun1 ?_)
            clear hrun1 cG eLat
            go_loopg [35, 36, 37, 38, 40, 42] lat (fun gk cv dv wv xv nv ov wr => ∃ (o c1 n1 : Nat) (h1 : List Nat) (b1 : Bool) (xa1 : Option Addr) (xc1 : Nat), gk = lat - o ∧ cv = .int .i64 (c1 : Int) ∧ dv = .bool false ∧ wv = .bool b1 ∧ xv = .slice xa1 h1.length xc1 ∧ nv = .int .i64 (n1 : Int) ∧ ov = .int .i64 (o : Int) ∧
              o ≤ lat + 16 ∧ n1 ≤ o + 1 ∧ h1.length ≤ held.length + 1 + o ∧ c1 ≤ u + 8 * rest.length ∧ Hid (Exp w12 wr (.slice xa1 h1.length xc1) h1 ∧ (b1 = false → chunks (sbit last u rest) R (u + 8 * rest.length) (ord.drop (head + 1 + o)).length (ord.drop (head + 1 + o)) c1 n1 h1 = RES) ∧ (b1 = true → RES = (h1, true, false, c1))))
            case atStart => exact ⟨0, kL, 1, held ++ [ord[head]], false, xa1, xc1, by simp, by simp, rfl, rfl, by simp, rfl, rfl, by omega, by omega, by simp, by omega, by rw [show (held ++ [ord[head]]).length = held.length + 1 by simp]; exact X1.out, fun _ => HM2.out, (fun h => by cases h)⟩
            case round =>
              obtain ⟨o, c1, n1, h1, b1, xa2, xc2, rfl, rfl, rfl, rfl, rfl, rfl, rfl, q1, q2, q3, q4, HL⟩ := hrel
              clear X1 X0 HM2
              by_cases hob : o < lat
              · cases b1 with
                | true =>
                  have HT : Hid (RES = (h1, true, false, c1)) := HL.out.2.2 rfl
                  go_wp2_with fail
                  go_meet
                  case rel => exact ⟨h1, false, true, c1, xa2, xc2, rfl, rfl, rfl, rfl, HT.out, by omega, q4, HL.out.1⟩
                | false =>
                  have HCH : Hid (chunks (sbit last u rest) R (u + 8 * rest.length) (ord.drop (head + 1 + o)).length (ord.drop (head + 1 + o)) c1 n1 h1 = RES) := HL.out.2.1 rfl
                  have HX1 : Hid (Exp w12 wr (.slice xa2 h1.length xc2) h1) := HL.out.1
                  clear HL
                  obtain ⟨d, hd⟩ : ∃ d : Nat, d + o = lat := ⟨lat - o, by omega⟩
                  obtain ⟨k, hk⟩ : ∃ k : Nat, k = min d 16 := ⟨_, rfl⟩
                  have eD : (lat : Int) - (o : Int) = (d : Int) := by omega
                  have hk1 : 1 ≤ k := by omega
                  have hk2 : k ≤ 16 := by omega
                  have hk3 : k ≤ d := by omega
                  have hd1 : d ≤ 1048576 := by omega
                  have HDK := hide (And.intro hd hk)
                  clear hd hk
                  go_upto_if 196 with (fail)
                  obtain ⟨w16, hw16⟩ : ∃ w16, w16 = wr := ⟨_, rfl⟩
                  subst hw16
                  go_cut [43] from 196 to 196 (fun x wx => x = .int .i64 (k : Int) ∧ wx = w16)
                  case first =>
                    by_cases h16 : 16 < d
                    · have ek : Hid ((16 : Int) = (k : Int)) := by have := HDK.out; show _ = _; omega
                      go_wp2_with fail
                      go_meet
                      case rel => exact ⟨by rw [ek.out], rfl⟩
                    · have ek : Hid ((d : Int) = (k : Int)) := by have := HDK.out; show _ = _; omega
                      go_wp2_with fail
                      go_meet
                      case rel => exact ⟨by rw [ek.out], rfl⟩
                  case rest =>
                    obtain ⟨rfl, hw⟩ := hcut
                    have hw' := hw.symm
                    clear hw eD
                    subst hw'
                    have hltl : (ord.drop (head + 1 + o)).length = d := by
                      have h1 := HLAT.out
                      have h2 := HDK.out.1
                      rw [List.length_drop]; omega
                    have HLT := hide hltl
                    have hkk : Hid (k = min (ord.drop (head + 1 + o)).length 16) := by show _ = _; rw [hltl]; exact HDK.out.2
                    clear hltl
                    by_cases hct : u + 8 * rest.length < c1 + k
                    · have HM3 : Hid (RES = (h1, true, true, c1)) := by
                        have := HCH.out
                        rw [chunks_short _ _ _ _ _ _ _ _ (by rw [HLT.out]; omega) hkk.out hct] at this
                        exact this.symm
                      go_wp2_with fail
                      go_meet
                      case rel => exact ⟨h1, true, true, c1, xa2, xc2, rfl, rfl, rfl, rfl, HM3.out, by omega, q4, HX1.out⟩
                    · have hct2 : c1 + k ≤ u + 8 * rest.length := by omega
                      go_wp2_with fail
                      obtain ⟨lt, hlt⟩ : ∃ lt, lt = ord.drop (head + 1 + o) := ⟨_, rfl⟩
                      rw [← hlt] at HCH hkk HLT
                      have HLTD := hide hlt
                      clear hlt
                      go_loopg [37, 38, 40, 44] k (fun gk wv xv nv jv wr => ∃ (j n2 : Nat) (h2 : List Nat) (xa3 : Option Addr) (xc3 : Nat), gk = k - j ∧ wv = .bool false ∧ xv = .slice xa3 h2.length xc3 ∧ nv = .int .i64 (n2 : Int) ∧ jv = .int .i64 (j : Int) ∧ j ≤ k ∧ n2 ≤ n1 + j ∧ h2.length ≤ h1.length + j ∧
                        Hid (Exp w12 wr (.slice xa3 h2.length xc3) h2 ∧ scan (fun i => sbit last u rest (c1 + i)) R ((lt.take k).drop j) j n2 h2 = scan (fun i => sbit last u rest (c1 + i)) R (lt.take k) 0 n1 h1))
                      case atStart => exact ⟨0, n1, h1, xa2, xc2, rfl, rfl, rfl, rfl, rfl, by omega, by omega, by omega, HX1.out, by rw [List.drop_zero]⟩
                      case round =>
                        obtain ⟨j, n2, h2, xa3, xc3, rfl, rfl, rfl, rfl, rfl, p1, p2, p3, HJ⟩ := hrel
                        have hn9 : n2 ≤ 2000000 := by omega
                        have hdr : Hid (lt.drop k = ord.drop (head + 1 + (o + 16))) := by
                          show _ = _
                          have e1 := HLT.out
                          have e2 := HDK.out
                          have e3 := HLAT.out
                          rw [HLTD.out, List.drop_drop]
                          by_cases h16 : k = 16
                          · rw [h16]; congr 1
                          · rw [List.drop_of_length_le (by omega), List.drop_of_length_le (by omega)]
                        by_cases hjk : j < k
                        · have hjl : j < lt.length := by rw [HLT.out]; omega
                          have hsa := scan_at (fun i => sbit last u rest (c1 + i)) R lt k j n2 h2 hjk (by rw [HLT.out]; exact hk3)
                          have HSC := hide (HJ.out.2.symm.trans hsa)
                          clear hsa
                          have hci : c1 + j < u + 8 * rest.length := by omega
                          go_wp2_with fail
                          refine (bit_any last u ra0 rest.length rest.length rest (c1 + j) wr hl hu (KO.out.2.1.below HJ.out.1.L (Nat.le_refl _)) rfl KO.out.2.2.2 hrn hci).mono ?_
                          rintro e wrx ⟨rfl, hwr⟩
                          have hwr' := hwr.symm
                          clear hwr
                          subst hwr'
                          have hsb := sbit_le last u rest (c1 + j)
                          obtain hb0 | hb1 : sbit last u rest (c1 + j) = 0 ∨ sbit last u rest (c1 + j) = 1 := by omega
                          · have NX : Hid (scan (fun i => sbit last u rest (c1 + i)) R ((lt.take k).drop (j + 1)) (j + 1) n2 h2 = scan (fun i => sbit last u rest (c1 + i)) R (lt.take k) 0 n1 h1) := by
                              have := HSC.out
                              rw [if_neg (by show ¬ sbit last u rest (c1 + j) = 1; omega)] at this
                              exact this.symm
                            rw [hb0]
                            clear hb0 hsb HSC
                            go_wp2_with fail
                            go_roundg (k - (j + 1))
                            case rel => exact ⟨j + 1, n2, h2, xa3, xc3, rfl, rfl, rfl, rfl, by simp, by omega, by omega, by omega, HJ.out.1, NX.out⟩
                            case measure => omega
                          · rw [hb1]
                            have HSC1 : Hid (scan (fun i => sbit last u rest (c1 + i)) R (lt.take k) 0 n1 h1 = if (n2 : Int) + 1 > R then (h2, n2 + 1, true) else scan (fun i => sbit last u rest (c1 + i)) R ((lt.take k).drop (j + 1)) (j + 1) (n2 + 1) (h2 ++ [lt[j]])) := by
                              have := HSC.out
                              rw [if_pos (by show sbit last u rest (c1 + j) = 1; exact hb1)] at this
                              exact this
                            clear hb1 hsb HSC
                            by_cases hRR : R < (n2 : Int) + 1
                            · have HSTOP : Hid (RES = (h2, true, false, c1 + k)) := by
                                have h5 := HSC1.out
                                rw [if_pos hRR] at h5
                                have h6 := HCH.out
                                rw [chunks_stop _ _ _ _ _ _ _ _ _ _ (by rw [HLT.out]; omega) hkk.out hct2 h5] at h6
                                exact h6.symm
                              go_wp2_with fail
                              go_roundg (lat - (o + 16))
                              case rel => exact ⟨o + 16, c1 + k, n2 + 1, h2, true, xa3, xc3, rfl, by simp, rfl, rfl, rfl, by simp, by simp, by omega, by omega, by omega, by omega, HJ.out.1, (fun h => by cases h), fun _ => HSTOP.out⟩
                              case measure => omega
                            · obtain ⟨idx, hidx⟩ : ∃ idx : Nat, idx = head + 1 + o + j := ⟨_, rfl⟩
                              have hil : idx < ord.length := by
                                have e1 := HLT.out
                                have e2 := HDK.out
                                have e3 := HLAT.out
                                omega
                              have eIdx : (head : Int) + 1 + (o : Int) + (j : Int) = (idx : Int) := by omega
                              have hltj : Hid (lt[j] = ord[idx]) := by
                                show _ = _
                                have h7 : lt[j]? = ord[idx]? := by rw [HLTD.out, List.getElem?_drop, hidx]
                                rw [List.getElem?_eq_getElem hjl, List.getElem?_eq_getElem hil] at h7
                                exact Option.some.inj h7
                              have NX : Hid (scan (fun i => sbit last u rest (c1 + i)) R ((lt.take k).drop (j + 1)) (j + 1) (n2 + 1) (h2 ++ [ord[idx]]) = scan (fun i => sbit last u rest (c1 + i)) R (lt.take k) 0 n1 h1) := by
                                have h5 := HSC1.out
                                rw [if_neg hRR, hltj.out] at h5
                                exact h5.symm
                              clear hidx HSC1
                              obtain ⟨_, e9, cG⟩ := (KO.out.1.below HJ.out.1.L (Nat.le_refl _)) idx (.int .u16 ((ord[idx] : Nat) : Int)) (by simp [List.getElem?_eq_getElem hil])
                              cases e9
                              obtain ⟨v2, w17, hrun2, X2⟩ := HJ.out.1.push ord[idx] (by omega)
                              obtain ⟨xa4, xc4, rfl, _⟩ := owns_form X2.out.o
                              rw [show (h2 ++ [ord[idx]]).length = h2.length + 1 by simp] at hrun2 X2
                              go_wp2_with (at_builtin; refine wpList_append_by rfl (.tmp 220) (.tmp 230) 37 rfl _ _ rfl rfl hrun2 ?_)
                              go_roundg (k - (j + 1))
                              case rel => exact ⟨j + 1, n2 + 1, h2 ++ [ord[idx]], xa4, xc4, rfl, rfl, by simp, by simp, by simp, by omega, by omega, by simp; omega, by rw [show (h2 ++ [ord[idx]]).length = h2.length + 1 by simp]; exact X2.out, NX.out⟩
                              case measure => omega
                        · have HNEXT : Hid (chunks (sbit last u rest) R (u + 8 * rest.length) (ord.drop (head + 1 + (o + 16))).length (ord.drop (head + 1 + (o + 16))) (c1 + k) n2 h2 = RES) := by
                            have h5 := HJ.out.2
                            rw [List.drop_of_length_le (by rw [List.length_take]; omega), scan] at h5
                            have h6 := HCH.out
                            rw [chunks_step _ _ _ _ _ _ _ _ _ _ (by rw [HLT.out]; omega) hkk.out hct2 h5.symm, hdr.out] at h6
                            exact h6
                          go_wp2_with fail
                          go_roundg (lat - (o + 16))
                          case rel => exact ⟨o + 16, c1 + k, n2, h2, false, xa3, xc3, rfl, by simp, rfl, rfl, rfl, rfl, by simp, by omega, by omega, by omega, by omega, HJ.out.1, fun _ => HNEXT.out, (fun h => by cases h)⟩
                          case measure => omega
              · have HM3 : Hid (RES = (h1, b1, false, c1)) := by
                  show _ = _
                  cases b1 with
                  | true => exact HL.out.2.2 rfl
                  | false =>
                    have := HL.out.2.1 rfl
                    rw [List.drop_of_length_le (by have := HLAT.out; omega), List.length_nil, chunks] at this
                    exact this.symm
                cases b1 with
                | true =>
                  go_wp2_with fail
                  go_meet
                  case rel => exact ⟨h1, false, true, c1, xa2, xc2, rfl, rfl, rfl, rfl, HM3.out, by omega, q4, HL.out.1⟩
                | false =>
                  go_wp2_with fail
                  go_meet
                  case rel => exact ⟨h1, false, false, c1, xa2, xc2, rfl, rfl, rfl, rfl, HM3.out, by omega, q4, HL.out.1⟩
          · have hm := HM.out
            rw [dif_neg hs2] at hm
            have HM2 := hide hm
            clear hm HM
            go_wp2_with fail
            go_meet
            case rel => exact ⟨held, false, true, kL, xa, xc, rfl, rfl, rfl, rfl, HM2.out.symm, by omega, by omega, X0.out⟩
      case rest =>
        obtain ⟨h', bdr, bwe, c', xa9, xc9, rfl, rfl, rfl, rfl, hRE, hh, hcT, X⟩ := hcut
        subst hRE
        have L13 : Below w12.heap.size w12 wc := X.out.L
        obtain ⟨hv', ev', nv', sr⟩ := KP.out.1
        obtain ⟨so, cc, nb, dB, dR, hnb, hnb2, hcc⟩ : ∃ (so : Option Addr) (cc nb : Nat), Blk wc db (dC so (rest.length - nb) cc (rdAt rd nb) (lastAt last rest nb) (u + 8 * nb - c')) 26 ∧ Rd wc so (u8s (rest.drop nb)) ∧ nb ≤ rest.length ∧ nb = (if bdr = true then rest.length else needB u c') ∧ c' ≤ u + 8 * nb := by
          cases bdr with
          | true =>
            obtain ⟨so, cc, hB⟩ := KP.out.2.1 rfl
            exact ⟨so, cc, rest.length, by rw [Nat.sub_self]; exact hB.below L13 hB.lt, by rw [List.drop_length]; exact Rd.nil _ _, Nat.le_refl _, by simp, hcT⟩
          | false =>
            obtain ⟨so, cc, D⟩ := KP.out.2.2.1 rfl
            have D' := D.below L13
            exact ⟨so, cc, needB u c', D'.B, D'.R, D'.m, by simp, needB_ge _ _⟩
        obtain ⟨x1, y1, f1, _, _, r1, _⟩ := owns_form X.out.o
        cases f1
        have KT := hide (And.intro sr (And.intro dB (And.intro dR (And.intro hnb2 r1))))
        clear sr dB dR hnb2 r1
        go_upto_region 63 with (fail)
        refine tailC w0 wc oa on oc ra rn rc rd last u0 R ha hn hc ea ec na nc ga gc u ra0 sb db rb x31 c' bdr bwe xa9 xc9 ord rest h' ends nth oa2 oc2 nb cc so hv' ev' nv' _ _ _ _ _ _ _ _ _ _ _ _ _ _ _ _ _ _ _ _ _ _ _ _ _ _ _ _ _ _ _ _ _ _ _ _ _ _ _ _ _ _ _ _ _ _ _ _ _ _ _ _ _ _ _ _ _ _ _ _ _ _ _ _ _ _ _ _ _ _ _ _ _ _ _ _ _ _ _ _ _ _ _ _ _ _ _ _ _ _ _ _ _ _ _ _ _ _ _ _ _ _ _ _ _ _ _ _ _ _ _ _ _ _ _ _ _ _ _ _ _ _ _ _ _ _ _ _ _ _ _ _ _ _ _ _ _ _ _ _ _ _ _ _ _ _ _ _ _ _ _ _ _ _ _ _ _ _ _ _ _ _ _ _ _ _ _ _ _ _ _ _ _ _ _ _ _ _ _ _ _ _ _ _ _ _ _ _ _ _ _ _ _ _ _ _ _ _ _ _ _ _ _ _ _ _ _ _ _ _ _ _ _ _ _ _ _ _ _ _ _ _ _ _ _ _ _ _ _ _ _ _ _ _ _ _ _ _ _ _ _ _ _ _ _ _ _ _ _ _ _ _ _ _ _ _ _ _ _ _ _ _ _ _ _ _ _ _ _ _ _ _ _ _ _ _ _ _ _ _ _ _ _ _ _ _ _ _ _ _ _ _ _ _ _ _ _ _ _ _ _ _ _ _ _ _ _ _ _ _ _ _ _ _ _ _ _ _ _ _ _ _ _ _ _ _ _ _ _ _ _ _ _ _ _ _ _ _ _ _ _ _ _ _ _ _ _ _ _ _ _ _ _ _ _ _ _ _ _ _ _ _ _ _ _ (KB.out.1.trans (L13.mono KB.out.1.size)) KB.out.2.1 KB.out.2.2.1 KB.out.2.2.2.1 KB.out.2.2.2.2 (KO.out.1.below L13 (Nat.le_refl _)) (KO.out.2.1.below L13 (Nat.le_refl _)) rR0 (KT.out.1.dec (But.of_below' L13)) KT.out.2.1 KT.out.2.2.1 hnb KT.out.2.2.2.1 hcc KT.out.2.2.2.2 KP.out.2.2.2 hrn hu hen hnn hh ho2 hR0 hR1 _ ?_
        assumption

end Go.Proofs.YbulkeekoFmt
