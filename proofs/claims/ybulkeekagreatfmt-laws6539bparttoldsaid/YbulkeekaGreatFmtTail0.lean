/-
  THE WALK of LawS6539BPart's last part where there is no root node.
-/
import Derived.Test.YbulkeekaGreatFmtPick
import Derived.Deep.DeepCutAuto
import Derived.Deep.CutRange
namespace Go.Proofs.YbulkeekaGreatFmt
open Go.RowKit
set_option linter.unusedSimpArgs false
set_option linter.unusedVariables false

theorem eqNil26 (w : World) (a : Option Addr) (n c : Nat) : (binOp .eql 26 (.slice a n c) (.slice none 0 0)).run Ybaz.prog w = .ok (.bool a.isNone) w := Lib.run_eql_slice_nil w 26 5 a n c 0 0 Ybaz.underlying26
attribute [local go_sem] eqNil26

set_option maxRecDepth 1000000 in
set_option maxHeartbeats 20000000 in
theorem tailB0 (w0 ws : World) (nodeID seq oldRoot ov : Nat) (ia na : Option Addr) (ic nc : Nat) (inl freed : List Nat) (fa fva : Option Addr) (fc fvc tb bb rb ps mb : Nat)
    (c1 c3 c4 c8 c10 c11 c12 c13 c14 c15 c16 c17 c18 c19 c20 c21 c22 c24 c25 c26 c29 c30 c31 c32 c33 c34 c35 c36 c37 c38 c39 c40 c41 c42 c43 c44 c45 c46 c47 c48 c49 c50 c51 c52 c53 c54 c55 c56 c57 c58 c59 c60 c61 c62 c63 c64 c65 c66 c67 c68 c69 c70 c71 c72 c73 c74 c75 c76 c77 c78 c79 c80 c81 c82 c83 c84 c85 c86 c87 c88 c89 c90 c91 c92 c93 c94 c95 c96 c97 c98 c99 c100 c101 c102 c103 c104 c105 c106 c107 c108 c109 c110 c111 c112 c113 c114 c115 c116 c117 c118 c119 c120 c121 c122 c123 c124 c125 c126 c127 c128 c129 c130 c131 c132 c133 c134 c135 c136 c137 c138 c139 c140 c141 c142 c143 c144 c145 c146 c147 c148 c149 c150 c151 c152 c153 c154 c155 c156 c157 c158 c159 c160 c161 c162 c163 c164 c165 c166 c167 c168 c169 c170 c171 c172 c173 c174 c175 c176 c177 c178 c179 c180 c181 c182 c183 c184 c185 c186 c187 c188 c189 c190 c191 c192 c193 c194 c195 c196 c197 c198 c199 c200 c201 c202 c203 c204 c205 c206 c207 c208 c209 c210 c211 c212 c213 c214 c215 c216 c217 c218 c219 c220 c221 c222 c223 c224 c225 c226 c227 c228 c229 c230 c231 c232 c233 c234 c235 c236 c237 c238 c239 c240 c241 c242 c243 c244 c245 c246 c247 c248 c249 c250 c251 c252 c253 c254 c255 c256 c257 c258 c259 c260 c261 c262 c263 c264 c265 c266 c267 c268 c269 c270 c271 c272 c273 c274 c275 c276 c277 c278 c279 c280 c281 c282 c283 c284 c285 c286 c287 c288 c289 c290 c291 c292 c293 c294 c295 c296 c297 c298 c299 c300 c301 c302 c303 c304 c305 c306 c307 c308 c309 c310 c311 c312 c313 c314 c315 c316 c317 c318 c319 c320 c321 c322 c323 c324 c325 c326 c327 c328 c329 c330 c331 c332 c333 c334 c335 c336 c337 c338 c339 c340 c341 c342 c343 c344 c345 c346 c347 c348 c349 c350 c351 c352 c353 c354 c355 c356 c357 c358 c359 c360 c361 c362 c363 c364 c365 c366 c367 c368 c369 c370 c371 c372 c373 c374 c375 c376 c377 c378 c379 c380 c381 c382 c383 c384 c385 c386 c387 c388 c389 c390 c391 c392 c393 c394 c395 c396 c397 c398 c399 c400 c401 c402 c403 c404 c405 c406 c407 c408 c409 c410 c411 c412 c413 c414 c415 c416 c417 c418 c419 c420 c421 c422 c423 c424 c425 c426 c427 c428 c429 c430 c431 c432 c433 c434 c435 c436 c437 c438 c439 c440 c441 c442 c443 c444 c445 c446 c447 c448 c449 c450 c451 c452 c453 c454 c455 c456 c457 c458 c459 c460 c461 c462 c463 c464 c465 c466 c467 c468 c469 c470 c471 c472 c473 c474 c475 c476 c477 c478 c479 c480 c481 c482 : Value)
    (hbase : Below w0.heap.size w0 ws) (T : TxF ws tb ps rb (.slice fva freed.length fvc) freed) (B : Blk ws bb (bktC tb oldRoot seq (.slice na inl.length nc) (.pointer none) mb) 54) (I : Rd ws na (u8s inl)) (hz : na = none ↔ ia = none) (IA : Rd ws ia (u8s inl)) (F : Rd ws fa (u64s freed)) (hfl : freed.length ≤ 1048576)
    (K : Act → World → Prop) (hK : ∀ a w, Code.wp Ybaz.prog (pick Ybaz.f3.body 54).2 (bodyPost Ybaz.prog Ybaz.f3 (Owes w0)) a w → K a w) :
    Code.wp Ybaz.prog (pick Ybaz.f3.body 54).1 (Exit.then K (bodyPost Ybaz.prog Ybaz.f3 (Owes w0))) ⟨#[.bool false, c1, .int .u64 (nodeID : Nat), c3, c4, .int .u64 (seq : Nat), .int .u64 (oldRoot : Nat), .slice ia inl.length ic, c8, .slice fa freed.length fc, c10, c11, c12, c13, c14, c15, c16, c17, c18, c19, c20, c21, c22, .int .u32 (ov : Nat), c24, c25, c26, .pointer (some ⟨tb, 0, none⟩), .pointer (some ⟨bb, 0, none⟩), c29, c30, c31, c32, c33, c34, c35, c36, c37, c38, c39, c40, c41, c42, c43, c44, c45, c46, c47, c48, c49, c50, c51, c52, c53, c54, c55, c56, c57, c58, c59, c60, c61, c62, c63, c64, c65, c66, c67, c68, c69, c70, c71, c72, c73, c74, c75, c76, c77, c78, c79, c80, c81, c82, c83, c84, c85, c86, c87, c88, c89, c90, c91, c92, c93, c94, c95, c96, c97, c98, c99, c100, c101, c102, c103, c104, c105, c106, c107, c108, c109, c110, c111, c112, c113, c114, c115, c116, c117, c118, c119, c120, c121, c122, c123, c124, c125, c126, c127, c128, c129, c130, c131, c132, c133, c134, c135, c136, c137, c138, c139, c140, c141, c142, c143, c144, c145, c146, c147, c148, c149, c150, c151, c152, c153, c154, c155, c156, c157, c158, c159, c160, c161, c162, c163, c164, c165, c166, c167, c168, c169, c170, c171, c172, c173, c174, c175, c176, c177, c178, c179, c180, c181, c182, c183, c184, c185, c186, c187, c188, c189, c190, c191, c192, c193, c194, c195, c196, c197, c198, c199, c200, c201, c202, c203, c204, c205, c206, c207, c208, c209, c210, c211, c212, c213, c214, c215, c216, c217, c218, c219, c220, c221, c222, c223, c224, c225, c226, c227, c228, c229, c230, c231, c232, c233, c234, c235, c236, c237, c238, c239, c240, c241, c242, c243, c244, c245, c246, c247, c248, c249, c250, c251, c252, c253, c254, c255, c256, c257, c258, c259, c260, c261, c262, c263, c264, c265, c266, c267, c268, c269, c270, c271, c272, c273, c274, c275, c276, c277, c278, c279, c280, c281, c282, c283, c284, c285, c286, c287, c288, c289, c290, c291, c292, c293, c294, c295, c296, c297, c298, c299, c300, c301, c302, c303, c304, c305, c306, c307, c308, c309, c310, c311, c312, c313, c314, c315, c316, c317, c318, c319, c320, c321, c322, c323, c324, c325, c326, c327, c328, c329, c330, c331, c332, c333, c334, c335, c336, c337, c338, c339, c340, c341, c342, c343, c344, c345, c346, c347, c348, c349, c350, c351, c352, c353, c354, c355, c356, c357, c358, c359, c360, c361, c362, c363, c364, c365, c366, c367, c368, c369, c370, c371, c372, c373, c374, c375, c376, c377, c378, c379, c380, c381, c382, c383, c384, c385, c386, c387, c388, c389, c390, c391, c392, c393, c394, c395, c396, c397, c398, c399, c400, c401, c402, c403, c404, c405, c406, c407, c408, c409, c410, c411, c412, c413, c414, c415, c416, c417, c418, c419, c420, c421, c422, c423, c424, c425, c426, c427, c428, c429, c430, c431, c432, c433, c434, c435, c436, c437, c438, c439, c440, c441, c442, c443, c444, c445, c446, c447, c448, c449, c450, c451, c452, c453, c454, c455, c456, c457, c458, c459, c460, c461, c462, c463, c464, c465, c466, c467, c468, c469, c470, c471, c472, c473, c474, c475, c476, c477, c478, c479, c480, c481, c482], []⟩ ws := by
  conv => arg 2; whnf
  have HT := hide T
  have HB := hide B
  have HI := hide (And.intro I (And.intro hz (And.intro IA F)))
  have HW := hide hbase
  have d11 := T.B.cell (j := 11) rfl
  clear T B I hz IA F hbase
  go_wp2_with fail
  conv => arg 2; whnf
  go_wp2_with fail
  go_loopw [301] (fun iv wr => ∃ (i q : Nat), i ≤ freed.length ∧ iv = .int .i64 (i : Int) ∧ wr = ws.drewN q) (fun iv _ => freed.length - (intOf iv).toNat)
  case atStart => exact ⟨0, 0, Nat.zero_le _, rfl, rfl⟩
  case round =>
    obtain ⟨i, q, hi, rfl, rfl⟩ := hrel
    by_cases hlt : i < freed.length
    · obtain ⟨ad, rfl, cA⟩ := HI.out.2.2.2 i (.int .u64 ((freed[i] : Nat) : Int)) (by simp [List.getElem?_eq_getElem hlt])
      obtain ⟨x1, y1, f1, g1, g2, r1, g3, g4⟩ := owns_form HT.out.o
      clear g1 g2 g3 g4
      cases f1
      obtain ⟨bd, e9, cB⟩ := r1 i (.int .u64 ((freed[i] : Nat) : Int)) (by simp [List.getElem?_eq_getElem hlt])
      rw [e9] at d11
      clear r1 e9
      go_wp2_with fail
      go_quiet (fail)
      go_wp2_with fail
      go_roundw
      case rel => exact ⟨i + 1, _, by omega, by go_num, rfl⟩
      case measure => simp [intOf]; omega
    · have c1 := HB.out.cell (j := 1) rfl
      have c2 := HB.out.cell (j := 2) rfl
      have c3 := HB.out.cell (j := 3) rfl
      have c4 := HB.out.cell (j := 4) rfl
      have c5 := HB.out.cell (j := 5) rfl
      go_wp2_with fail
      go_loopw [41] (fun iv wr => iv = .int .i64 0 ∧ wr = ws.drewN q) (fun _ _ => 0)
      case atStart => exact ⟨rfl, rfl⟩
      case round =>
        obtain ⟨rfl, rfl⟩ := hrel
        by_cases hn : ia = none
        · have hna : na = none := HI.out.2.1.2 hn
          subst hn hna
          go_wp2_with fail
          refine (equal_same (ws.drewN q) _ _ _ _ inl HI.out.1 HI.out.2.2.1).mono ?_
          rintro e wx ⟨rfl, hwx⟩
          have hwx' := hwx.symm
          clear hwx
          subst hwx'
          go_wp2_with fail
          go_ret
          exact And.intro rfl (belowDN HW.out _)
        · have hna : ¬ na = none := fun h => hn (HI.out.2.1.1 h)
          obtain ⟨x, rfl⟩ : ∃ x, ia = some x := by cases ia with | none => exact absurd rfl hn | some x => exact ⟨x, rfl⟩
          obtain ⟨y, rfl⟩ : ∃ y, na = some y := by cases na with | none => exact absurd rfl hna | some y => exact ⟨y, rfl⟩
          clear hn hna
          go_wp2_with fail
          refine (equal_same (ws.drewN q) _ _ _ _ inl HI.out.1 HI.out.2.2.1).mono ?_
          rintro e wx ⟨rfl, hwx⟩
          have hwx' := hwx.symm
          clear hwx
          subst hwx'
          go_wp2_with fail
          go_ret
          exact And.intro rfl (belowDN HW.out _)

end Go.Proofs.YbulkeekaGreatFmt
