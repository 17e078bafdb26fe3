/-
  THE WALK of LawS6540CWhole's last part: what is compared.
-/
import Derived.Test.YbulkeekoFmtCode
import Derived.Deep.DeepCutAuto
import Derived.Deep.CutRange
import Derived.Deep.RegionHeld3
namespace Go.Proofs.YbulkeekoFmt
open Go.RowKit Go.Extern.Stop Go.Stop Go.Extern
set_option linter.unusedSimpArgs false
set_option linter.unusedVariables false

theorem belowDN {B : Nat} {a w : World} (h : Below B a w) (n : Nat) : Below B a (w.drewN n) := h.trans ⟨rfl, rfl, rfl, Nat.le_refl _, fun _ _ => rfl⟩
theorem wI (x : Int) : IntKind.i64.wrap x = wrap64 x := Go.IntWalk.i64_left x

set_option maxRecDepth 1000000 in
set_option maxHeartbeats 20000000 in
theorem tailC (w0 wb : World) (oa : Option Addr) (on oc : Nat) (ra : Option Addr) (rn rc : Nat) (rd : Int) (last : Nat) (u0 R : Int) (ha : Option Addr) (hn hc : Nat) (ea : Option Addr) (ec : Nat) (na : Option Addr) (nc : Nat) (ga : Option Addr) (gc u : Nat) (ra0 : Option Addr) (sb db rb : Nat) (x31 : Value) (c' : Nat) (bdr bwe : Bool) (xa : Option Addr) (xc : Nat)
    (ord rest h' : List Nat) (ends nth : List Int) (oa2 : Option Addr) (oc2 nb cc : Nat) (so : Option Addr) (hv' ev' nv' : Value)
    (c9 c10 c11 c12 c13 c14 c15 c16 c17 c20 c21 c24 c25 c26 c27 c28 c29 c32 c33 c34 c39 c40 c41 c42 c43 c44 c45 c46 c47 c48 c49 c50 c51 c52 c53 c54 c55 c56 c57 c58 c59 c60 c61 c62 c63 c64 c65 c66 c67 c68 c69 c70 c71 c72 c73 c74 c75 c76 c77 c78 c79 c80 c81 c82 c83 c84 c85 c86 c87 c88 c89 c90 c91 c92 c93 c94 c95 c96 c97 c98 c99 c100 c101 c102 c103 c104 c105 c106 c107 c108 c109 c110 c111 c112 c113 c114 c115 c116 c117 c118 c119 c120 c121 c122 c123 c124 c125 c126 c127 c128 c129 c130 c131 c132 c133 c134 c135 c136 c137 c138 c139 c140 c141 c142 c143 c144 c145 c146 c147 c148 c149 c150 c151 c152 c153 c154 c155 c156 c157 c158 c159 c160 c161 c162 c163 c164 c165 c166 c167 c168 c169 c170 c171 c172 c173 c174 c175 c176 c177 c178 c179 c180 c181 c182 c183 c184 c185 c186 c187 c188 c189 c190 c191 c192 c193 c194 c195 c196 c197 c198 c199 c200 c201 c202 c203 c204 c205 c206 c207 c208 c209 c210 c211 c212 c213 c214 c215 c216 c217 c218 c219 c220 c221 c222 c223 c224 c225 c226 c227 c228 c229 c230 c231 c232 c233 c234 c235 c236 c237 c238 c239 c240 c241 c242 c243 c244 c245 c246 c247 c248 c249 c250 c251 c252 c253 c254 c255 c256 c257 c258 c259 c260 c261 c262 c263 c264 c265 c266 c267 c268 c269 c270 c271 c272 c273 c274 c275 c276 c277 c278 c279 c280 c281 c282 c283 c284 c285 c286 c287 c288 c289 c290 c291 c292 c293 c294 c295 c296 c297 c298 c299 c300 c301 c302 c303 c304 c305 c306 c307 c308 c309 c310 c311 c312 c313 c314 c315 c316 c317 c318 c319 c320 c321 c322 c323 c324 c325 c326 c327 c328 c329 c330 c331 c332 c333 c334 c335 c336 c337 c338 c339 c340 c341 c342 c343 c344 c345 c346 c347 c348 c349 c350 c351 c352 c353 c354 c355 c356 c357 c358 c359 c360 c361 c362 c363 c364 c365 c366 c367 c368 c369 c370 c371 c372 c373 c374 c375 c376 c377 c378 c379 c380 c381 c382 c383 : Value)
    (hbase : Below w0.heap.size w0 wb) (HE1 : Rd w0 ea (i64s ends)) (HE2 : ea = none → ends.length = 0 ∧ ec = 0) (HN1 : Rd w0 na (i64s nth)) (HN2 : na = none → nth.length = 0 ∧ nc = 0) (rO : Rd wb ga (u16s ord)) (rR : Rd wb ra0 (u8s rest)) (rR0 : ra0 = none → False)
    (sr : Sr wb sb db rb R ord oa2 oc2 h' (if bwe = true then ends else ends ++ [(h'.length : Int)]) (if bwe = true then nth else nth ++ [(ends.length : Int)]) hv' ev' nv')
    (dB : Blk wb db (dC so (rest.length - nb) cc (rdAt rd nb) (lastAt last rest nb) (u + 8 * nb - c')) 26) (dR : Rd wb so (u8s (rest.drop nb))) (hnb : nb ≤ rest.length) (hnb2 : nb = if bdr = true then rest.length else needB u c') (hcc : c' ≤ u + 8 * nb) (rX : Rd wb xa (u16s h'))
    (hx : (bwe = true ∧ ∃ a, x31 = .iface 73 (.pointer (some a))) ∨ (bwe = false ∧ x31 = .nilIface))
    (hrn : rest.length ≤ 1048576) (hu : u ≤ 7) (hen : ends.length ≤ 1048576) (hnn : nth.length ≤ 1048576) (hh : h'.length ≤ 3000000) (ho2 : ord.length ≤ 1048576) (hR0 : -9223372036854775808 ≤ R) (hR1 : R < 9223372036854775808)
    (K : Act → World → Prop) (hK : ∀ a w, Code.wp Ybaf.prog (pick Ybaf.f4.body 63).2 (bodyPost Ybaf.prog Ybaf.f4 (Owes w0)) a w → K a w) :
    Code.wp Ybaf.prog (pick Ybaf.f4.body 63).1 (Exit.then K (bodyPost Ybaf.prog Ybaf.f4 (Owes w0))) ⟨#[.slice oa on oc, .slice ra rn rc, .int .i64 rd, .int .u8 (last : Nat), .int .u8 u0, .int .i64 R, .slice ha hn hc, .slice ea ends.length ec, .slice na nth.length nc, c9, c10, c11, c12, c13, c14, c15, c16, c17, .bool false, .slice ga ord.length gc, c20, c21, .int .i64 (u : Nat), .slice ra0 rest.length rest.length, c24, c25, c26, c27, c28, c29, .pointer (some ⟨sb, 0, none⟩), x31, c32, c33, c34, .int .i64 (c' : Nat), .bool bdr, .bool bwe, .slice xa h'.length xc, c39, c40, c41, c42, c43, c44, c45, c46, c47, c48, c49, c50, c51, c52, c53, c54, c55, c56, c57, c58, c59, c60, c61, c62, c63, c64, c65, c66, c67, c68, c69, c70, c71, c72, c73, c74, c75, c76, c77, c78, c79, c80, c81, c82, c83, c84, c85, c86, c87, c88, c89, c90, c91, c92, c93, c94, c95, c96, c97, c98, c99, c100, c101, c102, c103, c104, c105, c106, c107, c108, c109, c110, c111, c112, c113, c114, c115, c116, c117, c118, c119, c120, c121, c122, c123, c124, c125, c126, c127, c128, c129, c130, c131, c132, c133, c134, c135, c136, c137, c138, c139, c140, c141, c142, c143, c144, c145, c146, c147, c148, c149, c150, c151, c152, c153, c154, c155, c156, c157, c158, c159, c160, c161, c162, c163, c164, c165, c166, c167, c168, c169, c170, c171, c172, c173, c174, c175, c176, c177, c178, c179, c180, c181, c182, c183, c184, c185, c186, c187, c188, c189, c190, c191, c192, c193, c194, c195, c196, c197, c198, c199, c200, c201, c202, c203, c204, c205, c206, c207, c208, c209, c210, c211, c212, c213, c214, c215, c216, c217, c218, c219, c220, c221, c222, c223, c224, c225, c226, c227, c228, c229, c230, c231, c232, c233, c234, c235, c236, c237, c238, c239, c240, c241, c242, c243, c244, c245, c246, c247, c248, c249, c250, c251, c252, c253, c254, c255, c256, c257, c258, c259, c260, c261, c262, c263, c264, c265, c266, c267, c268, c269, c270, c271, c272, c273, c274, c275, c276, c277, c278, c279, c280, c281, c282, c283, c284, c285, c286, c287, c288, c289, c290, c291, c292, c293, c294, c295, c296, c297, c298, c299, c300, c301, c302, c303, c304, c305, c306, c307, c308, c309, c310, c311, c312, c313, c314, c315, c316, c317, c318, c319, c320, c321, c322, c323, c324, c325, c326, c327, c328, c329, c330, c331, c332, c333, c334, c335, c336, c337, c338, c339, c340, c341, c342, c343, c344, c345, c346, c347, c348, c349, c350, c351, c352, c353, c354, c355, c356, c357, c358, c359, c360, c361, c362, c363, c364, c365, c366, c367, c368, c369, c370, c371, c372, c373, c374, c375, c376, c377, c378, c379, c380, c381, c382, c383], []⟩ wb := by
  conv => arg 2; whnf
  obtain ⟨E, hE⟩ : ∃ E : List Int, E = if bwe = true then ends else ends ++ [(h'.length : Int)] := ⟨_, rfl⟩
  obtain ⟨N, hN⟩ : ∃ N : List Int, N = if bwe = true then nth else nth ++ [(ends.length : Int)] := ⟨_, rfl⟩
  rw [← hE, ← hN] at sr
  have hEl : E.length ≤ 1048577 := by
    rw [hE]
    split
    · omega
    · rw [List.length_append]; simp; omega
  have hNl : N.length ≤ 1048577 := by
    rw [hN]
    split
    · omega
    · rw [List.length_append]; simp; omega
  obtain ⟨hva, hvc, rfl, _⟩ := owns_form sr.h
  obtain ⟨eva, evc, rfl, _⟩ := owns_form sr.e
  obtain ⟨nva, nvc, rfl, _⟩ := owns_form sr.n
  have HS := hide sr
  have HD := hide (And.intro dB dR)
  have HB := hide (And.intro hbase (And.intro HE1 (And.intro HE2 (And.intro HN1 HN2))))
  have HR := hide (And.intro rO (And.intro rR rX))
  have HX := hide hx
  have HNB := hide hnb2
  have HEN := hide (And.intro hE hN)
  clear sr dB dR hbase HE1 HE2 HN1 HN2 rO rR rX hx hnb2 hE hN
  go_wp2_with fail
  conv => arg 2; whnf
  go_upto_if 235 with (fail)
  go_cut [45] from 236 to 245 (fun x wx => x = .int .i64 (nb : Int) ∧ wx = wb)
  case first =>
    cases bdr with
    | true =>
      have e5 : Hid (nb = rest.length) := by have := HNB.out; rwa [if_pos rfl] at this
      go_wp2_with fail
      go_meet
      case rel => exact ⟨by rw [e5.out], rfl⟩
    | false =>
      have e4 : Hid (nb = needB u c') := by have := HNB.out; rwa [if_neg (by decide)] at this
      by_cases hwu : u < c'
      · have e5 : Hid (((c' : Int) - (u : Int) + 7) / 8 = (nb : Int)) := by have := e4.out; unfold needB at this; show _ = _; omega
        have hcb : c' ≤ 9000000 := by omega
        go_wp2_with fail
        go_meet
        case rel => exact ⟨by rw [e5.out], rfl⟩
      · have e5 : Hid ((0 : Int) = (nb : Int)) := by have := e4.out; unfold needB at this; show _ = _; omega
        go_wp2_with fail
        go_meet
        case rel => exact ⟨by rw [e5.out], rfl⟩
  case rest =>
    obtain ⟨rfl, hw⟩ := hcut
    have hw' := hw.symm
    clear hw
    subst hw'
    go_upto_if 248 with (fail)
    go_cut [46] from 249 to 253 (fun x wx => x = .int .u8 (lastAt last rest nb : Nat) ∧ wx = wb)
    case first =>
      by_cases h0 : 0 < nb
      · have hm : nb - 1 < rest.length := by omega
        obtain ⟨oad, rfl, cO⟩ := HR.out.2.1 (nb - 1) (.int .u8 ((rest[nb - 1] : Nat) : Int)) (by simp [List.getElem?_eq_getElem hm])
        have eL : Hid (lastAt last rest nb = rest[nb - 1]) := by show _ = _; unfold lastAt; rw [if_neg (by omega), List.getD_eq_getElem?_getD, List.getElem?_eq_getElem hm]; rfl
        go_wp2_with fail
        go_meet
        case rel => exact ⟨by rw [eL.out], rfl⟩
      · have eL : Hid (lastAt last rest nb = last) := by show _ = _; unfold lastAt; rw [if_pos (by omega)]
        go_wp2_with fail
        go_meet
        case rel => exact ⟨by rw [eL.out], rfl⟩
    case rest =>
      obtain ⟨rfl, hw⟩ := hcut
      have hw' := hw.symm
      clear hw
      subst hw'
      go_wp2_with fail
      refine (clone10_any wb ea ends.length ec (i64s ends) (HB.out.2.1.below HB.out.1 (Nat.le_refl _)) (i64s_one _) (by simp) HB.out.2.2.1 hen).mono ?_
      rintro e w14 ⟨v1, rfl, o14, L14⟩
      obtain ⟨a1, c1, rfl, _⟩ := owns_form o14.o
      simp only [List.length_map] at o14 ⊢
      have K14 := hide (And.intro o14 (And.intro L14 (HB.out.1.trans (L14.mono HB.out.1.size))))
      clear o14 L14
      go_wp2_with fail
      refine (clone10_any w14 na nth.length nc (i64s nth) (HB.out.2.2.2.1.below K14.out.2.2 (Nat.le_refl _)) (i64s_one _) (by simp) HB.out.2.2.2.2 hnn).mono ?_
      rintro e w15 ⟨v2, rfl, o15, L15⟩
      obtain ⟨a2, c2, rfl, _⟩ := owns_form o15.o
      simp only [List.length_map] at o15 ⊢
      have K15 : Hid (ExpI wb w15 (.slice a1 ends.length c1) ends ∧ Own w14 w15 3 (.slice a2 nth.length c2) (i64s nth)) := by
        refine ⟨⟨?_, K14.out.1.n, K14.out.2.1.trans (L15.mono K14.out.2.1.size)⟩, o15⟩
        have := owns_but K14.out.1.o (But.of_below' (S := fun _ => False) L15) (fun _ _ h => h)
        simpa using this
      clear o15 L15
      go_upto_if 259 with (fail)
      go_cut [47, 48] from 260 to 269 (fun v47 v48 wd => ∃ (b1 b2 : Option Addr) (d1 d2 : Nat), v47 = .slice b1 E.length d1 ∧ v48 = .slice b2 N.length d2 ∧ Hid (Rd wd b1 (i64s E) ∧ Rd wd b2 (i64s N) ∧ Below wb.heap.size wb wd))
      case first =>
        have s14 := K14.out.2.1.size
        cases bwe with
        | true =>
          have e5 : Hid (E = ends ∧ N = nth) := by have := HEN.out; rw [if_pos rfl, if_pos rfl] at this; exact this
          go_wp2_with fail
          go_meet
          case rel =>
            obtain ⟨x1, y1, f1, _, _, r1, _⟩ := owns_form K15.out.1.o
            obtain ⟨x2, y2, f2, _, _, r2, _⟩ := owns_form K15.out.2.o
            rw [List.length_map] at f2
            cases f1
            cases f2
            rw [e5.out.1, e5.out.2]
            exact ⟨a1, a2, c1, c2, rfl, rfl, r1, r2, K15.out.1.L⟩
        | false =>
          have e5 : Hid (E = ends ++ [(h'.length : Int)] ∧ N = nth ++ [(ends.length : Int)]) := by have := HEN.out; rw [if_neg (by decide), if_neg (by decide)] at this; exact this
          have X2 : ExpI wb w15 (.slice a2 nth.length c2) nth := ⟨by simpa using K15.out.2.o, fun k hk => Nat.le_trans s14 (K15.out.2.n k hk), K15.out.1.L⟩
          obtain ⟨v3, w16, hrun3, Y3⟩ := X2.push (ends.length : Int) (by omega)
          obtain ⟨a3, c3, rfl, _⟩ := owns_form Y3.out.1.o
          rw [show (nth ++ [(ends.length : Int)]).length = nth.length + 1 by simp] at hrun3 Y3
          have X1 : ExpI wb w16 (.slice a1 ends.length c1) ends := ⟨owns_but K15.out.1.o Y3.out.2.1 (fun k hk h => by
            have h1 := (K14.out.1.o.lt k hk).2
            have h2 := K15.out.2.n k h
            omega), K15.out.1.n, Y3.out.1.L⟩
          obtain ⟨v4, w17, hrun4, Y4⟩ := X1.push (h'.length : Int) (by omega)
          obtain ⟨a4, c4, rfl, _⟩ := owns_form Y4.out.1.o
          rw [show (ends ++ [(h'.length : Int)]).length = ends.length + 1 by simp] at hrun4 Y4
          have FIN : Hid (Rd w17 a4 (i64s E) ∧ Rd w17 a3 (i64s N) ∧ Below wb.heap.size wb w17) := by
            obtain ⟨x1, y1, f1, _, _, r1, _⟩ := owns_form Y4.out.1.o
            have o3 := owns_but Y3.out.1.o Y4.out.2.1 (fun k hk h => by
              have h1 := (K14.out.1.o.lt k h).2
              rcases Y3.out.2.2 with e | ⟨g', e, hg'⟩
              · have h2 := K15.out.2.n k (e ▸ hk)
                omega
              · rw [e] at hk; cases hk
                have h3 := K15.out.1.L.size
                have h4 := (K15.out.1.o.lt k h).2
                omega)
            obtain ⟨x2, y2, f2, _, _, r2, _⟩ := owns_form o3
            simp only [Value.slice.injEq] at f1 f2
            obtain ⟨rfl, _, rfl⟩ := f1
            obtain ⟨rfl, _, rfl⟩ := f2
            rw [e5.out.1, e5.out.2]
            exact ⟨r1, r2, Y4.out.1.L⟩
          clear X1 X2
          go_wp2_with (at_builtin; first | (refine wpList_append_by rfl (.tmp 260) (.tmp 263) 36 rfl _ _ rfl rfl hrun3 ?_) | (refine wpList_append_by rfl (.tmp 265) (.tmp 268) 36 rfl _ _ rfl rfl hrun4 ?_))
          go_meet
          case rel => exact ⟨a4, a3, c4, c3, by rw [e5.out.1]; simp, by rw [e5.out.2]; simp, FIN.out⟩
      case rest =>
        obtain ⟨b1, b2, d1, d2, rfl, rfl, HW⟩ := hcut
        obtain ⟨wd, hwd⟩ : ∃ wd, wd = wc := ⟨_, rfl⟩
        subst hwd
        clear K14 K15 HEN
        go_upto_region 76 with (fail)
        go_cut [273] from 270 to 272 (fun v wx => v = .bool false ∧ wx = wd)
        case first =>
          rcases HX.out with ⟨rfl, a, rfl⟩ | ⟨rfl, rfl⟩
          all_goals go_wp2_with fail
          all_goals go_meet
          all_goals exact ⟨rfl, rfl⟩
        case rest =>
          obtain ⟨rfl, hw⟩ := hcut
          have hw' := hw.symm
          clear hw
          subst hw'
          have SW : Hid (Sr wd sb db rb R ord oa2 oc2 h' E N (.slice hva h'.length hvc) (.slice eva E.length evc) (.slice nva N.length nvc)) := HS.out.dec (But.of_below' HW.out.2.2)
          have C10 := SW.out.S.cell (j := 10) rfl
          have C11 := SW.out.S.cell (j := 11) rfl
          have C12 := SW.out.S.cell (j := 12) rfl
          go_wp2_with fail
          obtain ⟨x1, y1, f1, _, _, r1, _⟩ := owns_form SW.out.h
          obtain ⟨x2, y2, f2, _, _, r2, _⟩ := owns_form SW.out.e
          obtain ⟨x3, y3, f3, _, _, r3, _⟩ := owns_form SW.out.n
          cases f1
          cases f2
          cases f3
          have RW : Hid (Rd wd hva (u16s h') ∧ Rd wd eva (i64s E) ∧ Rd wd nva (i64s N)) := ⟨r1, r2, r3⟩
          clear r1 r2 r3
          refine (equal14_true wd hva xa h'.length hvc xc (u16s h') (u16s_int _) RW.out.1 (HR.out.2.2.below HW.out.2.2 (Nat.le_refl _)) (by simp) (by omega)).mono ?_
          rintro e w20 ⟨rfl, q1, rfl⟩
          go_wp2_with fail
          refine (equal15_true (wd.drewN q1) eva b1 E.length evc d1 (i64s E) (i64s_int _) RW.out.2.1 HW.out.1 (by simp) (by omega)).mono ?_
          rintro e w21 ⟨rfl, q2, rfl⟩
          go_wp2_with fail
          first | refine (equal15_true (wd.drewN (q1 + q2)) nva b2 N.length nvc d2 (i64s N) (i64s_int _) RW.out.2.2 HW.out.2.1 (by simp) (by omega)).mono ?_ | refine (equal15_true ((wd.drewN q1).drewN q2) nva b2 N.length nvc d2 (i64s N) (i64s_int _) RW.out.2.2 HW.out.2.1 (by simp) (by omega)).mono ?_
          rintro e w22 ⟨rfl, q3, rfl⟩
          clear C10 C11 C12
          have C0s := SW.out.S.cell (j := 0) rfl
          have DW : Hid (Blk wd db (dC so (rest.length - nb) cc (rdAt rd nb) (lastAt last rest nb) (u + 8 * nb - c')) 26 ∧ Rd wd so (u8s (rest.drop nb)) ∧ Rd wd ra0 (u8s rest)) := ⟨HD.out.1.below HW.out.2.2 HD.out.1.lt, HD.out.2.below HW.out.2.2 (Nat.le_refl _), HR.out.2.1.below HW.out.2.2 (Nat.le_refl _)⟩
          go_upto_region 81 with (fail)
          clear C0s
          generalize q1 + q2 + q3 = q
          have C0 : wd.cell? ⟨db, 0, none⟩ = some (.slice so (rest.length - nb) cc) := DW.out.1.cell (j := 0) rfl
          have C1 : wd.cell? ⟨db, 1, none⟩ = some (.int .i64 (wrap64 (rd + (nb : Int)))) := DW.out.1.cell (j := 1) rfl
          have C2 : wd.cell? ⟨db, 2, none⟩ = some (.int .u8 ((lastAt last rest nb : Nat) : Int)) := DW.out.1.cell (j := 2) rfl
          have C3 : wd.cell? ⟨db, 3, none⟩ = some (.int .i64 ((u : Int) + 8 * (nb : Int) - (c' : Int))) := by
            have := DW.out.1.cell (j := 3) rfl
            rw [show ((u + 8 * nb - c' : Nat) : Int) = (u : Int) + 8 * (nb : Int) - (c' : Int) by omega] at this
            exact this
          have E2 : IntKind.i64.wrap (8 * (nb : Int)) = 8 * (nb : Int) := by rw [wI]; unfold wrap64; omega
          have E3 : IntKind.i64.wrap ((u : Int) + 8 * (nb : Int)) = (u : Int) + 8 * (nb : Int) := by rw [wI]; unfold wrap64; omega
          have E4 : IntKind.i64.wrap ((u : Int) + 8 * (nb : Int) - (c' : Int)) = (u : Int) + 8 * (nb : Int) - (c' : Int) := by rw [wI]; unfold wrap64; omega
          have E5 : IntKind.i64.wrap (rd + (nb : Int)) = wrap64 (rd + (nb : Int)) := wI _
          have E6 : (0 : Int) ≤ (nb : Int) := by omega
          have E7 : (nb : Int) ≤ (rest.length : Int) := by omega
          have HE : Hid (∀ (q' d : Nat) (ob : Option Addr), Rd wd ob (u8s (rest.drop nb)) → Calls Ybaf.prog 7 #[.slice so (rest.length - nb) cc, .slice ob (rest.length - nb) d] (wd.drewN q') fun e w' => e = .returned (.bool true) ∧ ∃ q'', w' = (wd.drewN q').drewN q'') := by
            intro q' d ob hob
            exact equal7_true (wd.drewN q') so ob (rest.length - nb) cc d (u8s (rest.drop nb)) (u8s_int _) DW.out.2.1 hob (by simp) (by omega)
          obtain ⟨ob, hob, HOB⟩ : ∃ ob, (if rest.length = nb then ra0 else Option.map (fun x => x.add nb) ra0) = ob ∧ Hid (Rd wd ob (u8s (rest.drop nb))) := by
            refine ⟨_, rfl, ?_⟩
            by_cases hq : rest.length = nb
            · rw [List.drop_of_length_le (by omega)]; exact Rd.nil _ _
            · rw [if_neg hq]
              cases ra0 with
              | none => exact absurd rfl (fun h => rR0 h)
              | some oad =>
                have := Rd.later (w := wd) (ad := oad) (xs := u8s rest) DW.out.2.2 nb
                rw [← List.map_drop] at this
                exact this
          go_region_held3 (fun w' => w'.cell? ⟨db, 0, none⟩ = some (.slice so (rest.length - nb) cc) ∧ w'.cell? ⟨db, 1, none⟩ = some (.int .i64 (wrap64 (rd + (nb : Int)))) ∧ w'.cell? ⟨db, 2, none⟩ = some (.int .u8 ((lastAt last rest nb : Nat) : Int)) ∧ w'.cell? ⟨db, 3, none⟩ = some (.int .i64 ((u : Int) + 8 * (nb : Int) - (c' : Int)))) (go_keep) ((go_at_call 7; refine (HE.out _ _ _ HOB.out).mono ?_; rintro e w5 ⟨rfl, q5, rfl⟩))
          clear C0 C1 C2 C3 HE hob HOB E2 E3 E4 E5
          have rOd : Hid (Rd wd ga (u16s ord)) := HR.out.1.below HW.out.2.2 (Nat.le_refl _)
          have D1 := SW.out.S.cell (j := 1) rfl
          have D2 := SW.out.S.cell (j := 2) rfl
          have D3 := SW.out.S.cell (j := 3) rfl
          have D7 := SW.out.S.cell (j := 7) rfl
          have D8 := SW.out.S.cell (j := 8) rfl
          have D9 := SW.out.S.cell (j := 9) rfl
          go_wp2_with fail
          refine (equal16_true (wd.drewN (q + 1 + q5)) oa2 ga ord.length oc2 gc (u16s ord) (u16s_int _) SW.out.o rOd.out (by simp) (by omega)).mono ?_
          rintro e w23 ⟨rfl, q6, rfl⟩
          go_wp2_with fail
          go_ret
          exact And.intro rfl (belowDN (HB.out.1.trans (HW.out.2.2.mono HB.out.1.size)) _)

end Go.Proofs.YbulkeekoFmt
