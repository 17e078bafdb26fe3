/-
  THE WALK of LawS6539BPart's last part where there is a root node.
-/
import Derived.Test.YbulkeekaGreatFmtMid0
import Derived.Test.YbulkeekaGreatFmtMod
namespace Go.Proofs.YbulkeekaGreatFmt
open Go.RowKit
set_option linter.unusedSimpArgs false
set_option linter.unusedVariables false

theorem neqNd (w : World) (a : Addr) : (binOp .neq 51 (.pointer (some a)) (.pointer (some a))).run Ybaz.prog w = .ok (.bool false) w := neq_same Ybaz.underlying51 sizeN w a
attribute [local go_sem] neqNd

/-- the node's elements are the law's, their flags masked, their bytes cloned -/
structure Pair (es es' : List Ino) : Prop where
  n : es'.length = es.length
  e : ∀ i (hi : i < es.length) (hi' : i < es'.length), es'[i].fl = mask es[i].fl ∧ es'[i].key = es[i].key ∧ es'[i].val = es[i].val

set_option maxRecDepth 1000000 in
set_option maxHeartbeats 20000000 in
theorem tailB1 (w0 ws : World) (nodeID seq ov : Nat) (ea fa fva : Option Addr) (ec fc fvc : Nat) (freed ys img : List Nat) (es es' : List Ino) (tb bb rb ps mb nb gi g : Nat)
    (c3 c4 c6 c7 c8 c10 c11 c12 c13 c14 c15 c16 c17 c18 c19 c20 c21 c22 c24 c25 c26 c29 c30 c31 c32 c34 c35 c36 c37 c38 c39 c40 c41 c42 c43 c44 c45 c46 c47 c48 c49 c50 c51 c52 c53 c54 c55 c56 c57 c58 c59 c60 c61 c62 c63 c64 c65 c66 c67 c68 c69 c70 c71 c72 c73 c74 c75 c76 c77 c78 c79 c80 c81 c82 c83 c84 c85 c86 c87 c88 c89 c90 c91 c92 c93 c94 c95 c96 c97 c98 c99 c100 c101 c102 c103 c104 c105 c106 c107 c108 c109 c110 c111 c112 c113 c114 c115 c116 c117 c118 c119 c120 c121 c122 c123 c124 c125 c126 c127 c128 c129 c130 c131 c132 c133 c134 c135 c136 c137 c138 c139 c140 c141 c142 c143 c144 c145 c146 c147 c148 c149 c150 c151 c152 c153 c154 c155 c156 c157 c158 c159 c160 c161 c162 c163 c164 c165 c166 c167 c168 c169 c170 c171 c172 c173 c174 c175 c176 c177 c178 c179 c180 c181 c182 c183 c184 c185 c186 c187 c188 c189 c190 c191 c192 c193 c194 c195 c196 c197 c198 c199 c200 c201 c202 c203 c204 c205 c206 c207 c208 c209 c210 c211 c212 c213 c214 c215 c216 c217 c218 c219 c220 c221 c222 c223 c224 c225 c226 c227 c228 c229 c230 c231 c232 c233 c234 c235 c236 c237 c238 c239 c240 c241 c242 c243 c244 c245 c246 c247 c248 c249 c250 c251 c252 c253 c254 c255 c256 c257 c258 c259 c260 c261 c262 c263 c264 c265 c266 c267 c268 c269 c270 c271 c272 c273 c274 c275 c276 c277 c278 c279 c280 c281 c282 c283 c284 c285 c286 c287 c288 c289 c290 c291 c292 c293 c294 c295 c296 c297 c298 c299 c300 c301 c302 c303 c304 c305 c306 c307 c308 c309 c310 c311 c312 c313 c314 c315 c316 c317 c318 c319 c320 c321 c322 c323 c324 c325 c326 c327 c328 c329 c330 c331 c332 c333 c334 c335 c336 c337 c338 c339 c340 c341 c342 c343 c344 c345 c346 c347 c348 c349 c350 c351 c352 c353 c354 c355 c356 c357 c358 c359 c360 c361 c362 c363 c364 c365 c366 c367 c368 c369 c370 c371 c372 c373 c374 c375 c376 c377 c378 c379 c380 c381 c382 c383 c384 c385 c386 c387 c388 c389 c390 c391 c392 c393 c394 c395 c396 c397 c398 c399 c400 c401 c402 c403 c404 c405 c406 c407 c408 c409 c410 c411 c412 c413 c414 c415 c416 c417 c418 c419 c420 c421 c422 c423 c424 c425 c426 c427 c428 c429 c430 c431 c432 c433 c434 c435 c436 c437 c438 c439 c440 c441 c442 c443 c444 c445 c446 c447 c448 c449 c450 c451 c452 c453 c454 c455 c456 c457 c458 c459 c460 c461 c462 c463 c464 c465 c466 c467 c468 c469 c470 c471 c472 c473 c474 c475 c476 c477 c478 c479 c480 c481 c482 : Value)
    (hbase : Below w0.heap.size w0 ws) (hys : ys = if nodeID = 0 then [] else frs nodeID (ov + 1)) (T : TxF ws tb ps rb (.slice fva (freed ++ ys).length fvc) (freed ++ ys)) (B : Blk ws bb (bktC tb 0 seq (.slice (some ⟨g, 0, none⟩) img.length img.length) (.pointer (some ⟨nb, 0, none⟩)) mb) 54) (G : Blk ws g (u8s img) 5) (himg : img = imgOf (es.map Ino.mel))
    (N : Nod ws nb nodeID ov gi es') (hP : Pair es es') (E : Elms ws ea es) (F : Rd ws fa (u64s freed)) (hfl : freed.length ≤ 1048576) (hn : es.length ≤ 65536) (hT : 16 + 16 * es.length + datas (es.map Ino.mel) ≤ 2000000) (hof : ∀ e ∈ es, e.fl < 4294967296) (hid : nodeID < 18446744073709551616) (hov : ov < 8)
    (K : Act → World → Prop) (hK : ∀ a w, Code.wp Ybaz.prog (pick Ybaz.f3.body 54).2 (bodyPost Ybaz.prog Ybaz.f3 (Owes w0)) a w → K a w) :
    Code.wp Ybaz.prog (pick Ybaz.f3.body 54).1 (Exit.then K (bodyPost Ybaz.prog Ybaz.f3 (Owes w0))) ⟨#[.bool true, .slice ea es.length ec, .int .u64 (nodeID : Nat), c3, c4, .int .u64 (seq : Nat), c6, c7, c8, .slice fa freed.length fc, c10, c11, c12, c13, c14, c15, c16, c17, c18, c19, c20, c21, c22, .int .u32 (ov : Nat), c24, c25, c26, .pointer (some ⟨tb, 0, none⟩), .pointer (some ⟨bb, 0, none⟩), c29, c30, c31, c32, .pointer (some ⟨nb, 0, none⟩), c34, c35, c36, c37, c38, c39, c40, c41, c42, c43, c44, c45, c46, c47, c48, c49, c50, c51, c52, c53, c54, c55, c56, c57, c58, c59, c60, c61, c62, c63, c64, c65, c66, c67, c68, c69, c70, c71, c72, c73, c74, c75, c76, c77, c78, c79, c80, c81, c82, c83, c84, c85, c86, c87, c88, c89, c90, c91, c92, c93, c94, c95, c96, c97, c98, c99, c100, c101, c102, c103, c104, c105, c106, c107, c108, c109, c110, c111, c112, c113, c114, c115, c116, c117, c118, c119, c120, c121, c122, c123, c124, c125, c126, c127, c128, c129, c130, c131, c132, c133, c134, c135, c136, c137, c138, c139, c140, c141, c142, c143, c144, c145, c146, c147, c148, c149, c150, c151, c152, c153, c154, c155, c156, c157, c158, c159, c160, c161, c162, c163, c164, c165, c166, c167, c168, c169, c170, c171, c172, c173, c174, c175, c176, c177, c178, c179, c180, c181, c182, c183, c184, c185, c186, c187, c188, c189, c190, c191, c192, c193, c194, c195, c196, c197, c198, c199, c200, c201, c202, c203, c204, c205, c206, c207, c208, c209, c210, c211, c212, c213, c214, c215, c216, c217, c218, c219, c220, c221, c222, c223, c224, c225, c226, c227, c228, c229, c230, c231, c232, c233, c234, c235, c236, c237, c238, c239, c240, c241, c242, c243, c244, c245, c246, c247, c248, c249, c250, c251, c252, c253, c254, c255, c256, c257, c258, c259, c260, c261, c262, c263, c264, c265, c266, c267, c268, c269, c270, c271, c272, c273, c274, c275, c276, c277, c278, c279, c280, c281, c282, c283, c284, c285, c286, c287, c288, c289, c290, c291, c292, c293, c294, c295, c296, c297, c298, c299, c300, c301, c302, c303, c304, c305, c306, c307, c308, c309, c310, c311, c312, c313, c314, c315, c316, c317, c318, c319, c320, c321, c322, c323, c324, c325, c326, c327, c328, c329, c330, c331, c332, c333, c334, c335, c336, c337, c338, c339, c340, c341, c342, c343, c344, c345, c346, c347, c348, c349, c350, c351, c352, c353, c354, c355, c356, c357, c358, c359, c360, c361, c362, c363, c364, c365, c366, c367, c368, c369, c370, c371, c372, c373, c374, c375, c376, c377, c378, c379, c380, c381, c382, c383, c384, c385, c386, c387, c388, c389, c390, c391, c392, c393, c394, c395, c396, c397, c398, c399, c400, c401, c402, c403, c404, c405, c406, c407, c408, c409, c410, c411, c412, c413, c414, c415, c416, c417, c418, c419, c420, c421, c422, c423, c424, c425, c426, c427, c428, c429, c430, c431, c432, c433, c434, c435, c436, c437, c438, c439, c440, c441, c442, c443, c444, c445, c446, c447, c448, c449, c450, c451, c452, c453, c454, c455, c456, c457, c458, c459, c460, c461, c462, c463, c464, c465, c466, c467, c468, c469, c470, c471, c472, c473, c474, c475, c476, c477, c478, c479, c480, c481, c482], []⟩ ws := by
  conv => arg 2; whnf
  have hyl : ys.length = if nodeID = 0 then 0 else ov + 1 := by rw [hys]; split <;> simp [frs]
  have hyg : ∀ k (hk : k < ys.length), ys[k] = (nodeID + k) % 18446744073709551616 := by
    intro k hk
    have h9 : ys[k]? = (if nodeID = 0 then [] else frs nodeID (ov + 1))[k]? := by rw [hys]
    rw [List.getElem?_eq_getElem hk] at h9
    by_cases h0 : nodeID = 0
    · rw [if_pos h0] at h9; simp at h9
    · rw [if_neg h0, frs, List.getElem?_map] at h9
      rw [if_neg h0] at hyl
      rw [List.getElem?_range (by omega)] at h9
      simpa using h9
  obtain ⟨tl, htl⟩ : ∃ tl : Nat, tl = (freed ++ ys).length := ⟨_, rfl⟩
  have htl2 : tl = freed.length + ys.length := by rw [htl, List.length_append]
  have hyb : ys.length ≤ 8 := by rw [hyl]; split <;> omega
  rw [← htl] at T
  have d11 := T.B.cell (j := 11) rfl
  have HT := hide (And.intro T htl)
  have HH := hide (And.intro B (And.intro G (And.intro N (And.intro hP (And.intro E (And.intro F (And.intro hof himg)))))))
  have HW := hide hbase
  have HY := hide (And.intro hys (And.intro hyl (And.intro hyg htl2)))
  clear T B G N hP E F hof himg hbase hys hyl hyg htl htl2
  go_wp2_with fail
  conv => arg 2; whnf
  go_upto_if 285 with (fail)
  go_cut [39] from 286 to 288 (fun x wx => x = .int .i64 (ys.length : Int) ∧ wx = ws)
  case first =>
    by_cases h0 : nodeID = 0
    · have e5 : Hid (ys.length = 0) := by have := HY.out.2.1; rwa [if_pos h0] at this
      subst h0
      go_wp2_with fail
      go_meet
      case rel => exact ⟨by rw [e5.out]; rfl, rfl⟩
    · have e5 : Hid (ys.length = ov + 1) := by have := HY.out.2.1; rwa [if_neg h0] at this
      have h0i : ¬ (nodeID : Int) = 0 := by omega
      go_wp2_with fail
      go_meet
      case rel => exact ⟨by rw [e5.out]; congr 1, rfl⟩
  case rest =>
    obtain ⟨rfl, hw⟩ := hcut
    have hw' := hw.symm
    clear hw
    subst hw'
    have rl : (freed.length : Int) + (ys.length : Int) = (tl : Int) := by have := HY.out.2.2.2; omega
    go_wp2_with fail
    clear rl
    have R1 : Hid (Rd ws fva (u64s (freed ++ ys))) := by
      obtain ⟨x1, y1, f1, _, _, r1, _⟩ := owns_form HT.out.1.o
      simp only [Value.slice.injEq] at f1
      obtain ⟨rfl, _, rfl⟩ := f1
      exact r1
    go_loopw [301] (fun iv wr => ∃ (i q : Nat), i ≤ freed.length ∧ iv = .int .i64 (i : Int) ∧ wr = ws.drewN q) (fun iv _ => freed.length - (intOf iv).toNat)
    case atStart => exact ⟨0, 0, Nat.zero_le _, rfl, rfl⟩
    case round =>
      obtain ⟨i, q, hi, rfl, rfl⟩ := hrel
      by_cases hlt : i < freed.length
      · obtain ⟨ad, rfl, cA⟩ := HH.out.2.2.2.2.2.1 i (.int .u64 ((freed[i] : Nat) : Int)) (by simp [List.getElem?_eq_getElem hlt])
        obtain ⟨bd, e9, cB⟩ := R1.out i (.int .u64 ((freed[i] : Nat) : Int)) (by rw [List.getElem?_map, List.getElem?_append_left hlt, List.getElem?_eq_getElem hlt]; rfl)
        rw [e9] at d11
        have htl3 : i < tl := by have := HY.out.2.2.2; omega
        have htl4 : tl ≤ 2000000 := by have := HY.out.2.2.2; omega
        clear e9
        go_wp2_with fail
        go_quiet (fail)
        go_wp2_with fail
        go_roundw
        case rel => exact ⟨i + 1, _, by omega, by go_num, rfl⟩
        case measure => simp [intOf]; omega
      · go_wp2_with fail
        go_loopw [41] (fun iv wr => ∃ k : Nat, k ≤ ys.length ∧ iv = .int .i64 (k : Int) ∧ wr = ws.drewN q) (fun iv _ => ys.length - (intOf iv).toNat)
        case atStart => exact ⟨0, Nat.zero_le _, rfl, rfl⟩
        case round =>
          obtain ⟨k, hk, rfl, rfl⟩ := hrel
          by_cases hlk : k < ys.length
          · obtain ⟨ix, hix⟩ : ∃ ix : Nat, ix = freed.length + k := ⟨_, rfl⟩
            obtain ⟨x, hx⟩ : ∃ x : Nat, x = ys[k] := ⟨_, rfl⟩
            have r1 : (freed.length : Int) + (k : Int) = (ix : Int) := by omega
            have r2 : ((nodeID : Int) + (k : Int)) % 18446744073709551616 = (x : Int) := by have := HY.out.2.2.1 k hlk; omega
            obtain ⟨bd, e9, cB⟩ := R1.out ix (.int .u64 (x : Int)) (by rw [List.getElem?_map, hix, List.getElem?_append_right (by omega), Nat.add_sub_cancel_left, List.getElem?_eq_getElem hlk, hx]; rfl)
            rw [e9] at d11
            have htl3 : ix < tl := by have := HY.out.2.2.2; omega
            have htl4 : tl ≤ 2000000 := by have := HY.out.2.2.2; omega
            have r3 : IntKind.u64.wrap ((nodeID : Int) + (k : Int)) = (x : Int) := by rw [IntKind.wrap_u64]; exact r2
            clear e9 hix hx
            go_wp2_with fail
            exact ⟨⟨k + 1, by omega, by simp, trivial⟩, by simp [intOf]; omega⟩
          · have c2 := HH.out.1.cell (j := 2) rfl
            have c3 := HH.out.1.cell (j := 3) rfl
            have c5 := HH.out.1.cell (j := 5) rfl
            have n0 := HH.out.2.2.1.B.cell (j := 0) rfl
            have n1 := HH.out.2.2.1.B.cell (j := 1) rfl
            have n2 := HH.out.2.2.1.B.cell (j := 2) rfl
            have n3 := HH.out.2.2.1.B.cell (j := 3) rfl
            have n4 := HH.out.2.2.1.B.cell (j := 4) rfl
            rw [HH.out.2.2.2.1.n] at n3
            go_wp2_with fail
            clear c2 c3 c5 n0 n1 n2 n3 n4
            go_loopw [424] (fun iv wr => ∃ i : Nat, i ≤ es.length ∧ iv = .int .i64 (i : Int) ∧ Hid (Below ws.heap.size ws wr)) (fun iv _ => es.length - (intOf iv).toNat)
            case atStart => exact ⟨0, Nat.zero_le _, rfl, belowDN (Below.refl _ _) q⟩
            case round =>
              obtain ⟨i2, hi2, rfl, HL⟩ := hrel
              by_cases hl2 : i2 < es.length
              · have hl3 : i2 < es'.length := by rw [HH.out.2.2.2.1.n]; exact hl2
                have N := HH.out.2.2.1.below HL.out
                have EE := HH.out.2.2.2.2.1.below HL.out (Nat.le_refl _)
                obtain ⟨q1, q2, q3⟩ := HH.out.2.2.2.1.e i2 hl2 hl3
                have n3 := N.B.cell (j := 3) rfl
                rw [HH.out.2.2.2.1.n] at n3
                have d0 : wr.cell? ⟨gi, i2 * 5, none⟩ = some (.int .u32 es'[i2].fl) := N.cell i2 0 hl3 rfl (by omega)
                have d1 := N.cell i2 1 hl3 rfl (by omega)
                have d2 := N.cell i2 2 hl3 rfl (by omega)
                have d3 := N.cell i2 3 hl3 rfl (by omega)
                have d4 := N.cell i2 4 hl3 rfl (by omega)
                rw [q1] at d0
                rw [q2] at d1
                rw [q3] at d2
                obtain ⟨a, e1, k0, k1', k2'⟩ := EE.c i2 hl2
                subst e1
                have RA := EE.R es[i2] (List.getElem_mem hl2)
                have RB := N.R es'[i2] (List.getElem_mem hl3)
                rw [q2, q3] at RB
                have eM := mask_bits es[i2].fl (HH.out.2.2.2.2.2.2.1 _ (List.getElem_mem hl2))
                obtain ⟨e, he⟩ : ∃ e, e = es[i2] := ⟨_, rfl⟩
                obtain ⟨e', he'⟩ : ∃ e', e' = es'[i2] := ⟨_, rfl⟩
                rw [← he, ← he'] at d1 d2
                rw [← he] at d0 k0 k1' k2' RA eM
                rw [← he, ← he'] at RB
                have hL1 : Below ws.heap.size ws (wr.alloc (.cells #[.int .u32 (mask e.fl : Nat), .slice e'.ka e.key.length e'.kc, .slice e'.va e.val.length e'.vc, .int .u64 0, .pointer none] 58)) := HL.out.alloc HL.out.size _
                have W1 : Below wr.heap.size wr (wr.alloc (.cells #[.int .u32 (mask e.fl : Nat), .slice e'.ka e.key.length e'.kc, .slice e'.va e.val.length e'.vc, .int .u64 0, .pointer none] 58)) := (Below.refl _ _).alloc (Nat.le_refl _) _
                have HX := hide (And.intro hL1 (And.intro (And.intro (RA.1.below W1 (Nat.le_refl _)) (RA.2.below W1 (Nat.le_refl _))) (And.intro (RB.1.below W1 (Nat.le_refl _)) (RB.2.below W1 (Nat.le_refl _)))))
                have m0 : (wr.alloc (.cells #[.int .u32 (mask e.fl : Nat), .slice e'.ka e.key.length e'.kc, .slice e'.va e.val.length e'.vc, .int .u64 0, .pointer none] 58)).cell? (a.add (i2 * 3)) = some (.int .u32 e.fl) := (W1.cell (World.block_lt_of_cell? wr _ k0)).trans k0
                have m1 : (wr.alloc (.cells #[.int .u32 (mask e.fl : Nat), .slice e'.ka e.key.length e'.kc, .slice e'.va e.val.length e'.vc, .int .u64 0, .pointer none] 58)).cell? { block := (a.add (i2 * 3)).block, off := (a.add (i2 * 3)).off + 1 } = some (.slice e.ka e.key.length e.kc) := (W1.cell (World.block_lt_of_cell? wr _ k1')).trans k1'
                have m2 : (wr.alloc (.cells #[.int .u32 (mask e.fl : Nat), .slice e'.ka e.key.length e'.kc, .slice e'.va e.val.length e'.vc, .int .u64 0, .pointer none] 58)).cell? { block := (a.add (i2 * 3)).block, off := (a.add (i2 * 3)).off + 2 } = some (.slice e.va e.val.length e.vc) := (W1.cell (World.block_lt_of_cell? wr _ k2')).trans k2'
                have NB := Blk.new wr [.int .u32 (mask e.fl : Nat), .slice e'.ka e.key.length e'.kc, .slice e'.va e.val.length e'.vc, .int .u64 0, .pointer none] 58
                clear N EE q1 q2 q3 RA RB hL1 W1 k0 k1' k2' he he'
                go_upto_region 82 with (fail)
                clear n3 d0 d1 d2 d3 d4
                generalize hv1 : wr.alloc (.cells #[.int .u32 (mask e.fl : Nat), .slice e'.ka e.key.length e'.kc, .slice e'.va e.val.length e'.vc, .int .u64 0, .pointer none] 58) = v1 at *
                generalize hhb : wr.heap.size = hb at *
                have b0 := NB.cell (j := 0) rfl
                have b1 := NB.cell (j := 1) rfl
                have b2 := NB.cell (j := 2) rfl
                have b3 := NB.cell (j := 3) rfl
                have b4 := NB.cell (j := 4) rfl
                clear NB hv1 hhb
                have HC1 : Hid (Calls Ybaz.prog 7 #[.slice e'.ka e.key.length e'.kc, .slice e.ka e.key.length e.kc] v1.drew fun x w' => x = .returned (.bool true) ∧ w' = v1.drew) := equal_same v1.drew _ _ _ _ e.key HX.out.2.2.1 HX.out.2.1.1
                have HC2 : Hid (Calls Ybaz.prog 7 #[.slice e'.va e.val.length e'.vc, .slice e.va e.val.length e.vc] v1.drew fun x w' => x = .returned (.bool true) ∧ w' = v1.drew) := equal_same v1.drew _ _ _ _ e.val HX.out.2.2.2 HX.out.2.1.2
                go_region_held3 (fun w' => w'.cell? ⟨hb, 0, none⟩ = some (.int .u32 (mask e.fl : Nat)) ∧ w'.cell? ⟨hb, 1, none⟩ = some (.slice e'.ka e.key.length e'.kc) ∧ w'.cell? ⟨hb, 2, none⟩ = some (.slice e'.va e.val.length e'.vc) ∧ w'.cell? ⟨hb, 3, none⟩ = some (.int .u64 0) ∧ w'.cell? ⟨hb, 4, none⟩ = some (.pointer none) ∧ w'.cell? (a.add (i2 * 3)) = some (.int .u32 e.fl) ∧ w'.cell? { block := (a.add (i2 * 3)).block, off := (a.add (i2 * 3)).off + 1 } = some (.slice e.ka e.key.length e.kc) ∧ w'.cell? { block := (a.add (i2 * 3)).block, off := (a.add (i2 * 3)).off + 2 } = some (.slice e.va e.val.length e.vc)) (go_keep) ((go_at_call 7; first | (refine HC1.out.mono ?_; rintro x wz ⟨rfl, rfl⟩) | (refine HC2.out.mono ?_; rintro x wz ⟨rfl, rfl⟩)))
                go_wp2_with fail
                exact ⟨⟨i2 + 1, by omega, by simp, HX.out.1.trans ⟨rfl, rfl, rfl, Nat.le_refl _, fun _ _ => rfl⟩⟩, by simp [intOf]; omega⟩
              · have hB9 := HH.out.1.below HL.out HH.out.1.lt
                have hG9 := HH.out.2.1.below HL.out HH.out.2.1.lt
                have c4 := hB9.cell (j := 4) rfl
                have hIL : img.length = 16 + 16 * es.length + datas (es.map Ino.mel) := by rw [HH.out.2.2.2.2.2.2.2, imgOf_length, List.length_map]
                have HC8 : Hid (Calls Ybaz.prog 8 #[.slice ea es.length ec] wr.drew fun x w' => ∃ g2, x = .returned (.slice (some ⟨g2, 0, none⟩) img.length img.length) ∧ w'.cell? ⟨bb, 4, none⟩ = some (.slice (some ⟨g, 0, none⟩) img.length img.length) ∧ Hid (Blk w' g2 (u8s img) 5 ∧ Blk w' g (u8s img) 5 ∧ Below ws.heap.size ws w')) := by
                  have L8 : Below ws.heap.size ws wr.drew := HL.out.trans ⟨rfl, rfl, rfl, Nat.le_refl _, fun _ _ => rfl⟩
                  refine (mimg_any (w := wr.drew) (HH.out.2.2.2.2.1.below L8 (Nat.le_refl _)) hn HH.out.2.2.2.2.2.2.1 (by omega)).mono ?_
                  rintro x w' ⟨g2, rfl, hg2, I2, L2⟩
                  refine ⟨g2, by rw [← hIL], ((hB9.below (B := wr.heap.size) (show Below wr.heap.size wr w' from (show Below wr.heap.size wr wr.drew from ⟨rfl, rfl, rfl, Nat.le_refl _, fun _ _ => rfl⟩).trans L2) hB9.lt).cell (j := 4) rfl), ?_, ?_, L8.trans (L2.mono L8.size)⟩
                  · rw [HH.out.2.2.2.2.2.2.2]; exact I2
                  · exact hG9.below (show Below wr.heap.size wr w' from (show Below wr.heap.size wr wr.drew from ⟨rfl, rfl, rfl, Nat.le_refl _, fun _ _ => rfl⟩).trans L2) hG9.lt
                have HC7 : Hid (∀ g2 w', Blk w' g2 (u8s img) 5 → Blk w' g (u8s img) 5 → Calls Ybaz.prog 7 #[.slice (some ⟨g, 0, none⟩) img.length img.length, .slice (some ⟨g2, 0, none⟩) img.length img.length] w' fun x w'' => x = .returned (.bool true) ∧ w'' = w') := by
                  intro g2 w' h1 h2
                  have r1 := Rd.of_blk h1 0 img.length
                  have r2 := Rd.of_blk h2 0 img.length
                  rw [List.drop_zero, List.take_of_length_le (by simp)] at r1 r2
                  exact equal_same w' _ _ _ _ img r2 r1
                clear hB9 hG9 hIL
                go_upto_region 85 with (fail)
                go_region_held3 (fun w' => w'.cell? ⟨bb, 4, none⟩ = some (.slice (some ⟨g, 0, none⟩) img.length img.length)) (go_keep) ((first | (go_at_call 8; refine HC8.out.mono ?_; rintro x wz ⟨g2, rfl, k4, HQ⟩) | (go_at_call 7; refine (HC7.out _ _ HQ.out.1 HQ.out.2.1).mono ?_; rintro x wy ⟨rfl, rfl⟩)))
                go_wp2_with fail
                go_ret
                trace_state
                exact And.intro rfl (HW.out.trans (HQ.out.2.2.mono HW.out.size))

end Go.Proofs.YbulkeekaGreatFmt
