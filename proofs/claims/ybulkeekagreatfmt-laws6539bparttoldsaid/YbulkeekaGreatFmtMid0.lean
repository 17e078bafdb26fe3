/-
  THE WALK of LawS6539BPart from the children on, where there is no root node.
-/
import Derived.Test.YbulkeekaGreatFmtTail0
namespace Go.Proofs.YbulkeekaGreatFmt
open Go.RowKit Go.Maps Go.Sort
set_option linter.unusedSimpArgs false
set_option linter.unusedVariables false

theorem neqNil26 (w : World) (n c : Nat) : (binOp .neq 26 (.slice none n c) (.slice none 0 0)).run Ybaz.prog w = .ok (.bool false) w := by
  have h : ∀ d : Nat, (Op.equalIn (d + 1) 26 (.slice none n c) (.slice none 0 0)).run Ybaz.prog w = .ok true w := fun d => by
    simp [Op.equalIn, run_underlying Ybaz.underlying26]
  simp only [binOp]
  simp [Op.equal, Op.maxDepth, h 9999]
theorem neqF (w : World) : (binOp .neq 50 (.float .f64 4602678819172646912) (.float .f64 4602678819172646912)).run Ybaz.prog w = .ok (.bool false) w := by kernel_rfl
theorem neqTx (w : World) (a : Addr) : (binOp .neq 33 (.pointer (some a)) (.pointer (some a))).run Ybaz.prog w = .ok (.bool false) w := neq_same Ybaz.underlying33 sizeT w a
attribute [local go_sem] neqNil26 neqTx neqF

abbrev ptrs (kb : List (Nat × Nat)) : List Value := kb.map (fun p => Value.pointer (some ⟨p.1, 0, none⟩))

/-- the children, all laid -/
structure Kids (w : World) (tb mb gc nn : Nat) (kb : List (Nat × Nat)) (D : DataW Unit) : Prop where
  C : Blk w gc (ptrs kb) 40
  M : KMap w mb nn D (fun b => b ∈ kb.map Prod.fst)
  K : ∀ i (hi : i < kb.length), Blk w kb[i].1 (bktC tb (i + 1) i (.slice none 0 0) (.pointer none) kb[i].2) 54 ∧ w.heap[kb[i].2]? = some (.map #[] 0)

theorem Kids.look {w : World} {tb mb gc nn : Nat} {kb : List (Nat × Nat)} {D : DataW Unit} (h : Kids w tb mb gc nn kb D) : ∀ w', Below w.heap.size w w' → ∀ s ∈ strKeys D, ∃ v, (Instr.lookup 52 (.map (some mb)) (encStr s) false).run Ybaz.prog w' = .ok v w' ∧ Kid w tb v := by
  intro w' L s hs
  obtain ⟨b, hb, hrun⟩ := (h.M.but (But.of_below' (S := fun _ => False) L) (fun h => h)).lookup hs
  obtain ⟨p, hp, rfl⟩ := List.mem_map.1 hb
  obtain ⟨i, hi, rfl⟩ := List.getElem_of_mem hp
  obtain ⟨k1, k2⟩ := h.K i hi
  exact ⟨_, hrun, _, _, _, _, rfl, k1, k2⟩

theorem len_empty {w : World} {mb : Nat} (h : w.heap[mb]? = some (.map #[] 0)) (ty : TypeId) : (Builtin.len_ #[52] ty #[.map (some mb)]).run Ybaz.prog w = .ok (.int .i64 0) w :=
  (Joins.ownsMap_empty (H := Unit) (P := Ybaz.prog) (k := 9) (R := noR) h).len Ybaz.underlying52 ty

set_option maxRecDepth 1000000 in
set_option maxHeartbeats 20000000 in
theorem midB0 (w0 wk : World) (nodeID seq oldRoot ov ps : Nat) (ea ia na : Option Addr) (en ec ic nc : Nat) (inl freed : List Nat) (fa fva : Option Addr) (fc fvc tb bb rb mb gc nn : Nat) (kb : List (Nat × Nat)) (D : DataW Unit)
    (c3 c4 c8 c10 c11 c12 c13 c14 c15 c16 c17 c18 c19 c20 c21 c22 c25 c26 c30 c31 c32 c33 c34 c35 c36 c37 c38 c39 c40 c41 c42 c43 c44 c45 c46 c47 c48 c49 c50 c51 c52 c53 c54 c55 c56 c57 c58 c59 c60 c61 c62 c63 c64 c65 c66 c67 c68 c69 c70 c71 c72 c73 c74 c75 c76 c77 c78 c79 c80 c81 c82 c83 c84 c85 c86 c87 c88 c89 c90 c91 c92 c93 c94 c95 c96 c97 c98 c99 c100 c101 c102 c103 c104 c105 c106 c107 c108 c109 c110 c111 c112 c113 c114 c115 c116 c117 c118 c119 c120 c121 c122 c123 c124 c125 c126 c127 c128 c129 c130 c131 c132 c133 c134 c135 c136 c137 c138 c139 c140 c141 c142 c143 c144 c145 c146 c147 c148 c149 c150 c151 c152 c153 c154 c155 c156 c157 c158 c159 c160 c161 c162 c163 c164 c165 c166 c167 c168 c169 c170 c171 c172 c173 c174 c175 c176 c177 c178 c179 c180 c181 c182 c183 c184 c185 c186 c187 c188 c189 c190 c191 c192 c193 c194 c195 c196 c197 c198 c199 c200 c201 c202 c203 c204 c205 c206 c207 c208 c209 c210 c211 c212 c213 c214 c215 c216 c217 c218 c219 c220 c221 c222 c223 c224 c225 c226 c227 c228 c229 c230 c231 c232 c233 c234 c235 c236 c237 c238 c239 c240 c241 c242 c243 c244 c245 c246 c247 c248 c249 c250 c251 c252 c253 c254 c255 c256 c257 c258 c259 c260 c261 c262 c263 c264 c265 c266 c267 c268 c269 c270 c271 c272 c273 c274 c275 c276 c277 c278 c279 c280 c281 c282 c283 c284 c285 c286 c287 c288 c289 c290 c291 c292 c293 c294 c295 c296 c297 c298 c299 c300 c301 c302 c303 c304 c305 c306 c307 c308 c309 c310 c311 c312 c313 c314 c315 c316 c317 c318 c319 c320 c321 c322 c323 c324 c325 c326 c327 c328 c329 c330 c331 c332 c333 c334 c335 c336 c337 c338 c339 c340 c341 c342 c343 c344 c345 c346 c347 c348 c349 c350 c351 c352 c353 c354 c355 c356 c357 c358 c359 c360 c361 c362 c363 c364 c365 c366 c367 c368 c369 c370 c371 c372 c373 c374 c375 c376 c377 c378 c379 c380 c381 c382 c383 c384 c385 c386 c387 c388 c389 c390 c391 c392 c393 c394 c395 c396 c397 c398 c399 c400 c401 c402 c403 c404 c405 c406 c407 c408 c409 c410 c411 c412 c413 c414 c415 c416 c417 c418 c419 c420 c421 c422 c423 c424 c425 c426 c427 c428 c429 c430 c431 c432 c433 c434 c435 c436 c437 c438 c439 c440 c441 c442 c443 c444 c445 c446 c447 c448 c449 c450 c451 c452 c453 c454 c455 c456 c457 c458 c459 c460 c461 c462 c463 c464 c465 c466 c467 c468 c469 c470 c471 c472 c473 c474 c475 c476 c477 c478 c479 c480 c481 c482 : Value)
    (hbase : Below w0.heap.size w0 wk) (KS : Kids wk tb mb gc nn kb D) (hnn : nn ≤ 65536) (hkn : kb.length ≤ 65536) (T : TxF wk tb ps rb (.slice fva freed.length fvc) freed) (B : Blk wk bb (bktC tb oldRoot seq (.slice na inl.length nc) (.pointer none) mb) 54) (I : Rd wk na (u8s inl)) (hz : na = none ↔ ia = none) (IA : Rd wk ia (u8s inl)) (F : Rd wk fa (u64s freed)) (hfl : freed.length ≤ 1048576)
    (K : Act → World → Prop) (hK : ∀ a w, Code.wp Ybaz.prog (pick Ybaz.f3.body 31).2 (bodyPost Ybaz.prog Ybaz.f3 (Owes w0)) a w → K a w) :
    Code.wp Ybaz.prog (pick Ybaz.f3.body 31).1 (Exit.then K (bodyPost Ybaz.prog Ybaz.f3 (Owes w0))) ⟨#[.bool false, .slice ea en ec, .int .u64 (nodeID : Nat), c3, c4, .int .u64 (seq : Nat), .int .u64 (oldRoot : Nat), .slice ia inl.length ic, c8, .slice fa freed.length fc, c10, c11, c12, c13, c14, c15, c16, c17, c18, c19, c20, c21, c22, .int .u32 (ov : Nat), .int .u32 (ps : Nat), c25, c26, .pointer (some ⟨tb, 0, none⟩), .pointer (some ⟨bb, 0, none⟩), .slice (some ⟨gc, 0, none⟩) kb.length kb.length, c30, c31, c32, c33, c34, c35, c36, c37, c38, c39, c40, c41, c42, c43, c44, c45, c46, c47, c48, c49, c50, c51, c52, c53, c54, c55, c56, c57, c58, c59, c60, c61, c62, c63, c64, c65, c66, c67, c68, c69, c70, c71, c72, c73, c74, c75, c76, c77, c78, c79, c80, c81, c82, c83, c84, c85, c86, c87, c88, c89, c90, c91, c92, c93, c94, c95, c96, c97, c98, c99, c100, c101, c102, c103, c104, c105, c106, c107, c108, c109, c110, c111, c112, c113, c114, c115, c116, c117, c118, c119, c120, c121, c122, c123, c124, c125, c126, c127, c128, c129, c130, c131, c132, c133, c134, c135, c136, c137, c138, c139, c140, c141, c142, c143, c144, c145, c146, c147, c148, c149, c150, c151, c152, c153, c154, c155, c156, c157, c158, c159, c160, c161, c162, c163, c164, c165, c166, c167, c168, c169, c170, c171, c172, c173, c174, c175, c176, c177, c178, c179, c180, c181, c182, c183, c184, c185, c186, c187, c188, c189, c190, c191, c192, c193, c194, c195, c196, c197, c198, c199, c200, c201, c202, c203, c204, c205, c206, c207, c208, c209, c210, c211, c212, c213, c214, c215, c216, c217, c218, c219, c220, c221, c222, c223, c224, c225, c226, c227, c228, c229, c230, c231, c232, c233, c234, c235, c236, c237, c238, c239, c240, c241, c242, c243, c244, c245, c246, c247, c248, c249, c250, c251, c252, c253, c254, c255, c256, c257, c258, c259, c260, c261, c262, c263, c264, c265, c266, c267, c268, c269, c270, c271, c272, c273, c274, c275, c276, c277, c278, c279, c280, c281, c282, c283, c284, c285, c286, c287, c288, c289, c290, c291, c292, c293, c294, c295, c296, c297, c298, c299, c300, c301, c302, c303, c304, c305, c306, c307, c308, c309, c310, c311, c312, c313, c314, c315, c316, c317, c318, c319, c320, c321, c322, c323, c324, c325, c326, c327, c328, c329, c330, c331, c332, c333, c334, c335, c336, c337, c338, c339, c340, c341, c342, c343, c344, c345, c346, c347, c348, c349, c350, c351, c352, c353, c354, c355, c356, c357, c358, c359, c360, c361, c362, c363, c364, c365, c366, c367, c368, c369, c370, c371, c372, c373, c374, c375, c376, c377, c378, c379, c380, c381, c382, c383, c384, c385, c386, c387, c388, c389, c390, c391, c392, c393, c394, c395, c396, c397, c398, c399, c400, c401, c402, c403, c404, c405, c406, c407, c408, c409, c410, c411, c412, c413, c414, c415, c416, c417, c418, c419, c420, c421, c422, c423, c424, c425, c426, c427, c428, c429, c430, c431, c432, c433, c434, c435, c436, c437, c438, c439, c440, c441, c442, c443, c444, c445, c446, c447, c448, c449, c450, c451, c452, c453, c454, c455, c456, c457, c458, c459, c460, c461, c462, c463, c464, c465, c466, c467, c468, c469, c470, c471, c472, c473, c474, c475, c476, c477, c478, c479, c480, c481, c482], []⟩ wk := by
  conv => arg 2; whnf
  have HH := hide (And.intro hbase (And.intro KS (And.intro T (And.intro B (And.intro I (And.intro IA F))))))
  have HZ := hide hz
  clear hbase KS T B I hz IA F
  go_wp2_with fail
  conv => arg 2; whnf
  go_wp2_with fail
  have hsz := HH.out.2.1.M.size
  refine (spill_nil bb tb oldRoot seq mb nn _ D ptrR wk HH.out.2.2.2.1 HH.out.2.1.M.o (by omega) (by omega) HH.out.2.1.look).mono ?_
  rintro e ws ⟨rfl, L⟩
  have P : But (fun _ => False) wk ws := But.of_below' L
  have KS : Kids ws tb mb gc nn kb D := ⟨HH.out.2.1.C.below L HH.out.2.1.C.lt, HH.out.2.1.M.but P (fun h => h), fun i hi => ⟨(HH.out.2.1.K i hi).1.below L (HH.out.2.1.K i hi).1.lt, (L.block _ (Array.getElem?_eq_some_iff.1 (HH.out.2.1.K i hi).2).1).trans (HH.out.2.1.K i hi).2⟩⟩
  have T : TxF ws tb ps rb (.slice fva freed.length fvc) freed := ⟨HH.out.2.2.1.B.below L HH.out.2.2.1.B.lt, owns_but HH.out.2.2.1.o P (fun _ _ h => h), HH.out.2.2.1.n⟩
  have B := HH.out.2.2.2.1.below L HH.out.2.2.2.1.lt
  have H2 := hide (And.intro (HH.out.1.trans (L.mono HH.out.1.size)) (And.intro KS (And.intro T (And.intro B (And.intro (HH.out.2.2.2.2.1.below L (Nat.le_refl _)) (And.intro (HH.out.2.2.2.2.2.1.below L (Nat.le_refl _)) (HH.out.2.2.2.2.2.2.below L (Nat.le_refl _))))))))
  clear L P KS T B hsz HH
  go_wp2_with fail
  go_loopw [202] (fun iv wr => ∃ i : Nat, i ≤ kb.length ∧ iv = .int .i64 (i : Int) ∧ wr = ws) (fun iv _ => kb.length - (intOf iv).toNat)
  case atStart => exact ⟨0, Nat.zero_le _, rfl, rfl⟩
  case round =>
    obtain ⟨i, hi, rfl, hw⟩ := hrel
    have hw' := hw.symm
    clear hw
    subst hw'
    by_cases hlt : i < kb.length
    · have cg : ws.cell? ⟨gc, i, none⟩ = some (.pointer (some ⟨kb[i].1, 0, none⟩)) := H2.out.2.1.C.cell (by simp [List.getElem?_eq_getElem hlt])
      obtain ⟨kB, kM⟩ := H2.out.2.1.K i hlt
      obtain ⟨i1, hi1⟩ : ∃ i1 : Nat, i1 = i + 1 := ⟨_, rfl⟩
      rw [← hi1] at kB
      have ri : (i : Int) + 1 = (i1 : Int) := by omega
      have d1 := kB.cell (j := 1) rfl
      have d2 := kB.cell (j := 2) rfl
      have d3 := kB.cell (j := 3) rfl
      have d4 := kB.cell (j := 4) rfl
      have d5 := kB.cell (j := 5) rfl
      have d6 := kB.cell (j := 6) rfl
      have d7 := kB.cell (j := 7) rfl
      have dl := len_empty kM 3
      have HI1 := hide hi1
      clear kB kM hi1
      go_wp2_with fail
      exact ⟨⟨i + 1, by omega, by rw [HI1.out], trivial⟩, by simp [intOf]; have := HI1.out; omega⟩
    · have d0 := H2.out.2.2.2.1.cell (j := 0) rfl
      have d1 := H2.out.2.2.2.1.cell (j := 1) rfl
      have d7 := H2.out.2.2.2.1.cell (j := 7) rfl
      have t3 := H2.out.2.2.1.B.cell (j := 3) rfl
      go_upto_region 54 with (fail)
      refine tailB0 w0 ws nodeID seq oldRoot ov ia na ic nc inl freed fa fva fc fvc tb bb rb ps mb _ _ _ _ _ _ _ _ _ _ _ _ _ _ _ _ _ _ _ _ _ _ _ _ _ _ _ _ _ _ _ _ _ _ _ _ _ _ _ _ _ _ _ _ _ _ _ _ _ _ _ _ _ _ _ _ _ _ _ _ _ _ _ _ _ _ _ _ _ _ _ _ _ _ _ _ _ _ _ _ _ _ _ _ _ _ _ _ _ _ _ _ _ _ _ _ _ _ _ _ _ _ _ _ _ _ _ _ _ _ _ _ _ _ _ _ _ _ _ _ _ _ _ _ _ _ _ _ _ _ _ _ _ _ _ _ _ _ _ _ _ _ _ _ _ _ _ _ _ _ _ _ _ _ _ _ _ _ _ _ _ _ _ _ _ _ _ _ _ _ _ _ _ _ _ _ _ _ _ _ _ _ _ _ _ _ _ _ _ _ _ _ _ _ _ _ _ _ _ _ _ _ _ _ _ _ _ _ _ _ _ _ _ _ _ _ _ _ _ _ _ _ _ _ _ _ _ _ _ _ _ _ _ _ _ _ _ _ _ _ _ _ _ _ _ _ _ _ _ _ _ _ _ _ _ _ _ _ _ _ _ _ _ _ _ _ _ _ _ _ _ _ _ _ _ _ _ _ _ _ _ _ _ _ _ _ _ _ _ _ _ _ _ _ _ _ _ _ _ _ _ _ _ _ _ _ _ _ _ _ _ _ _ _ _ _ _ _ _ _ _ _ _ _ _ _ _ _ _ _ _ _ _ _ _ _ _ _ _ _ _ _ _ _ _ _ _ _ _ _ _ _ _ _ _ _ _ _ _ _ _ _ _ _ _ _ _ _ _ _ _ _ _ _ _ _ _ _ _ _ _ _ _ _ _ _ _ _ _ _ _ _ _ _ _ _ _ _ _ _ _ _ _ _ _ _ _ _ _ _ _ _ _ _ _ _ _ _ _ _ _ _ _ _ _ _ _ _ _ _ _ _ _ _ _ _ _ _ _ _ _ _ _ _ _ _ _ _ _ _ _ _ _ _ _ _ _ _ _ _ _ _ _ _ _ _ _ _ _ _ _ _ _ _ H2.out.1 H2.out.2.2.1 H2.out.2.2.2.1 H2.out.2.2.2.2.1 HZ.out H2.out.2.2.2.2.2.1 H2.out.2.2.2.2.2.2 hfl _ ?_
      assumption

end Go.Proofs.YbulkeekaGreatFmt
