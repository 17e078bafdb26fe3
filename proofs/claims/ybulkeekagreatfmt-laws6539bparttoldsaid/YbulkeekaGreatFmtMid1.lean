/-
  THE WALK of LawS6539BPart from the children on, where there is a root node.
-/
import Derived.Test.YbulkeekaGreatFmtPar
import Derived.Deep.RegionLaw
namespace Go.Proofs.YbulkeekaGreatFmt
open Go.RowKit Go.Maps Go.Sort
set_option linter.unusedSimpArgs false
set_option linter.unusedVariables false
attribute [local go_sem] neqNil26 neqTx neqF

theorem info58 : (Ybaz.prog.info? 58).map (fun i => (i.zero, i.size, i.bytes)) = some (some (.agg #[.int .u32 0, .slice none 0 0, .slice none 0 0, .int .u64 0, .pointer none]), 5, 72) := by kernel_rfl

theorem Kids.but {S : Nat → Prop} {w w' : World} {tb mb gc nn : Nat} {kb : List (Nat × Nat)} {D : DataW Unit} (h : Kids w tb mb gc nn kb D) (P : But S w w') (hs : ∀ k, (k = gc ∨ k = mb ∨ ∃ p ∈ kb, k = p.1 ∨ k = p.2) → ¬ S k) : Kids w' tb mb gc nn kb D := by
  refine ⟨h.C.but P (hs _ (Or.inl rfl)), h.M.but P (hs _ (Or.inr (Or.inl rfl))), fun i hi => ?_⟩
  obtain ⟨k1, k2⟩ := h.K i hi
  exact ⟨k1.but P (hs _ (Or.inr (Or.inr ⟨_, List.getElem_mem hi, Or.inl rfl⟩))), (P.block _ (Array.getElem?_eq_some_iff.1 k2).1 (hs _ (Or.inr (Or.inr ⟨_, List.getElem_mem hi, Or.inr rfl⟩)))).trans k2⟩

/-- the inodes so far -/
structure InSt (wk wr : World) (gi n : Nat) (es es1 : List Ino) : Prop where
  I : Blk wr gi (inoCells (es1 ++ List.replicate (n - es1.length) inoZ)) 58
  R : ∀ e ∈ es1, Rd wr e.ka (u8s e.key) ∧ Rd wr e.va (u8s e.val)
  B : ∀ e ∈ es1, (∀ ad, e.ka = some ad → wk.heap.size ≤ ad.block ∧ ad.block ≠ gi ∧ ad.block < wr.heap.size) ∧ (∀ ad, e.va = some ad → wk.heap.size ≤ ad.block ∧ ad.block ≠ gi ∧ ad.block < wr.heap.size)
  E : ∀ i (hi : i < es.length) (hi' : i < es1.length), es1[i].fl = mask es[i].fl ∧ es1[i].key = es[i].key ∧ es1[i].val = es[i].val
  P : But (fun _ => False) wk wr

/-- one inode more -/
theorem InSt.push {wk wr v : World} {gi : Nat} {es es1 : List Ino} (h : InSt wk wr gi es.length es es1) (L : Below wr.heap.size wr v) (hg : wk.heap.size ≤ gi) (kk : Nat) (hkk : kk = es1.length) (hlt : kk < es.length) (e : Ino) (he : e.fl = mask es[kk].fl ∧ e.key = es[kk].key ∧ e.val = es[kk].val) (rk : Rd v e.ka (u8s e.key)) (rv : Rd v e.va (u8s e.val)) (bk : ∀ ad, e.ka = some ad → wr.heap.size ≤ ad.block ∧ ad.block < v.heap.size) (bv : ∀ ad, e.va = some ad → wr.heap.size ≤ ad.block ∧ ad.block < v.heap.size) :
    InSt wk (((((v.setCell ⟨gi, kk * 5, none⟩ (.int .u32 e.fl)).setCell ⟨gi, kk * 5 + 1, none⟩ (.slice e.ka e.key.length e.kc)).setCell ⟨gi, kk * 5 + 2, none⟩ (.slice e.va e.val.length e.vc)).setCell ⟨gi, kk * 5 + 3, none⟩ (.int .u64 0)).setCell ⟨gi, kk * 5 + 4, none⟩ (.pointer none)) gi es.length es (es1 ++ [e]) := by
  have glt := h.I.lt
  have sL := L.size
  have PS : But (fun k => k = gi) v (((((v.setCell ⟨gi, kk * 5, none⟩ (.int .u32 e.fl)).setCell ⟨gi, kk * 5 + 1, none⟩ (.slice e.ka e.key.length e.kc)).setCell ⟨gi, kk * 5 + 2, none⟩ (.slice e.va e.val.length e.vc)).setCell ⟨gi, kk * 5 + 3, none⟩ (.int .u64 0)).setCell ⟨gi, kk * 5 + 4, none⟩ (.pointer none)) :=
    (((((But.refl (fun k => k = gi) v).setCell (p := ⟨gi, kk * 5, none⟩) (Or.inr rfl) _).setCell (p := ⟨gi, kk * 5 + 1, none⟩) (Or.inr rfl) _).setCell (p := ⟨gi, kk * 5 + 2, none⟩) (Or.inr rfl) _).setCell (p := ⟨gi, kk * 5 + 3, none⟩) (Or.inr rfl) _).setCell (p := ⟨gi, kk * 5 + 4, none⟩) (Or.inr rfl) _
  have sS := PS.size
  refine ⟨?_, fun e' he' => ?_, fun e' he' => ?_, fun i hi hi' => ?_, ?_⟩
  · have b1 := (((((h.I.below L glt).set (kk * 5) (.int .u32 e.fl)).set (kk * 5 + 1) (.slice e.ka e.key.length e.kc)).set (kk * 5 + 2) (.slice e.va e.val.length e.vc)).set (kk * 5 + 3) (.int .u64 0)).set (kk * 5 + 4) (.pointer none)
    rw [ino_set _ kk e (by rw [List.length_append, List.length_replicate]; omega)] at b1
    have e2 : (es1 ++ List.replicate (es.length - es1.length) inoZ).set kk e = es1 ++ [e] ++ List.replicate (es.length - (es1 ++ [e]).length) inoZ := by
      rw [show es.length - es1.length = (es.length - (es1.length + 1)) + 1 by omega, List.replicate_succ, List.set_append_right _ _ (by omega), hkk, Nat.sub_self, List.set_cons_zero, List.length_append, List.length_singleton, List.append_assoc]
      rfl
    rw [e2] at b1
    exact b1
  · rcases List.mem_append.1 he' with h1 | h1
    · obtain ⟨q1, q2⟩ := h.R e' h1
      obtain ⟨q3, q4⟩ := h.B e' h1
      exact ⟨(q1.below L (Nat.le_refl _)).but PS (fun ad ha => (q3 ad ha).2.1), (q2.below L (Nat.le_refl _)).but PS (fun ad ha => (q4 ad ha).2.1)⟩
    · obtain rfl := List.mem_singleton.1 h1
      exact ⟨rk.but PS (fun ad ha h9 => by have h2 := (bk ad ha).1; have h3 : ad.block = gi := h9; omega), rv.but PS (fun ad ha h9 => by have h2 := (bv ad ha).1; have h3 : ad.block = gi := h9; omega)⟩
  · have sP := h.P.size
    rcases List.mem_append.1 he' with h1 | h1
    · obtain ⟨q3, q4⟩ := h.B e' h1
      exact ⟨fun ad ha => ⟨(q3 ad ha).1, (q3 ad ha).2.1, by have := (q3 ad ha).2.2; omega⟩, fun ad ha => ⟨(q4 ad ha).1, (q4 ad ha).2.1, by have := (q4 ad ha).2.2; omega⟩⟩
    · obtain rfl := List.mem_singleton.1 h1
      exact ⟨fun ad ha => by have := bk ad ha; exact ⟨by omega, by omega, by omega⟩, fun ad ha => by have := bv ad ha; exact ⟨by omega, by omega, by omega⟩⟩
  · by_cases h2 : i < es1.length
    · rw [List.getElem_append_left h2]
      exact h.E i hi h2
    · rw [List.length_append, List.length_singleton] at hi'
      obtain rfl : i = es1.length := by omega
      subst hkk
      rw [List.getElem_append_right (Nat.le_refl _)]
      simp only [Nat.sub_self, List.getElem_cons_zero]
      exact he
  · exact (h.P.trans (But.of_below' L)).trans2 PS (fun i hi h9 => by have h3 : i = gi := h9; omega)

set_option maxRecDepth 1000000 in
set_option maxHeartbeats 20000000 in
theorem midB1 (w0 wk : World) (nodeID seq oldRoot ov ps : Nat) (ea ia na : Option Addr) (ec il ic nl nc : Nat) (es : List Ino) (freed : List Nat) (fa fva : Option Addr) (fc fvc tb bb rb mb gc nn : Nat) (kb : List (Nat × Nat)) (D : DataW Unit)
    (c3 c4 c8 c10 c11 c12 c13 c14 c15 c16 c17 c18 c19 c20 c21 c22 c25 c26 c30 c31 c32 c33 c34 c35 c36 c37 c38 c39 c40 c41 c42 c43 c44 c45 c46 c47 c48 c49 c50 c51 c52 c53 c54 c55 c56 c57 c58 c59 c60 c61 c62 c63 c64 c65 c66 c67 c68 c69 c70 c71 c72 c73 c74 c75 c76 c77 c78 c79 c80 c81 c82 c83 c84 c85 c86 c87 c88 c89 c90 c91 c92 c93 c94 c95 c96 c97 c98 c99 c100 c101 c102 c103 c104 c105 c106 c107 c108 c109 c110 c111 c112 c113 c114 c115 c116 c117 c118 c119 c120 c121 c122 c123 c124 c125 c126 c127 c128 c129 c130 c131 c132 c133 c134 c135 c136 c137 c138 c139 c140 c141 c142 c143 c144 c145 c146 c147 c148 c149 c150 c151 c152 c153 c154 c155 c156 c157 c158 c159 c160 c161 c162 c163 c164 c165 c166 c167 c168 c169 c170 c171 c172 c173 c174 c175 c176 c177 c178 c179 c180 c181 c182 c183 c184 c185 c186 c187 c188 c189 c190 c191 c192 c193 c194 c195 c196 c197 c198 c199 c200 c201 c202 c203 c204 c205 c206 c207 c208 c209 c210 c211 c212 c213 c214 c215 c216 c217 c218 c219 c220 c221 c222 c223 c224 c225 c226 c227 c228 c229 c230 c231 c232 c233 c234 c235 c236 c237 c238 c239 c240 c241 c242 c243 c244 c245 c246 c247 c248 c249 c250 c251 c252 c253 c254 c255 c256 c257 c258 c259 c260 c261 c262 c263 c264 c265 c266 c267 c268 c269 c270 c271 c272 c273 c274 c275 c276 c277 c278 c279 c280 c281 c282 c283 c284 c285 c286 c287 c288 c289 c290 c291 c292 c293 c294 c295 c296 c297 c298 c299 c300 c301 c302 c303 c304 c305 c306 c307 c308 c309 c310 c311 c312 c313 c314 c315 c316 c317 c318 c319 c320 c321 c322 c323 c324 c325 c326 c327 c328 c329 c330 c331 c332 c333 c334 c335 c336 c337 c338 c339 c340 c341 c342 c343 c344 c345 c346 c347 c348 c349 c350 c351 c352 c353 c354 c355 c356 c357 c358 c359 c360 c361 c362 c363 c364 c365 c366 c367 c368 c369 c370 c371 c372 c373 c374 c375 c376 c377 c378 c379 c380 c381 c382 c383 c384 c385 c386 c387 c388 c389 c390 c391 c392 c393 c394 c395 c396 c397 c398 c399 c400 c401 c402 c403 c404 c405 c406 c407 c408 c409 c410 c411 c412 c413 c414 c415 c416 c417 c418 c419 c420 c421 c422 c423 c424 c425 c426 c427 c428 c429 c430 c431 c432 c433 c434 c435 c436 c437 c438 c439 c440 c441 c442 c443 c444 c445 c446 c447 c448 c449 c450 c451 c452 c453 c454 c455 c456 c457 c458 c459 c460 c461 c462 c463 c464 c465 c466 c467 c468 c469 c470 c471 c472 c473 c474 c475 c476 c477 c478 c479 c480 c481 c482 : Value)
    (hbase : Below w0.heap.size w0 wk) (KS : Kids wk tb mb gc nn kb D) (hnn : nn ≤ 65536) (hkn : kb.length ≤ 65536) (T : TxF wk tb ps rb (.slice fva freed.length fvc) freed) (B : Blk wk bb (bktC tb oldRoot seq (.slice na nl nc) (.pointer none) mb) 54) {Lr : List Value} {tr : TypeId} (hr : Blk wk rb Lr tr) (hrb : rb ≠ bb) (hbt : bb ≠ tb) (hfb : ∀ ad, fva = some ad → ad.block ≠ bb ∧ ad.block < wk.heap.size) (hkb : ∀ k, (k = gc ∨ k = mb ∨ ∃ p ∈ kb, k = p.1 ∨ k = p.2) → k ≠ bb ∧ k ≠ tb ∧ (∀ ad, fva = some ad → ad.block ≠ k))
    (hlow : w0.heap.size ≤ bb ∧ w0.heap.size ≤ tb ∧ ∀ ad, fva = some ad → w0.heap.size ≤ ad.block) (E : Elms w0 ea es) (F : Rd w0 fa (u64s freed)) (hfl : freed.length ≤ 1048576) (hn : es.length ≤ 65536) (hsz : 16 + sizes es ≤ 1048576) (hps : 4 * (16 + sizes es) ≤ ps) (hps2 : ps < 4294967296) (hof : ∀ e ∈ es, e.fl < 4294967296) (h0 : ∀ e ∈ es, (e.ka = none → e.key.length = 0 ∧ e.kc = 0) ∧ (e.va = none → e.val.length = 0 ∧ e.vc = 0)) (hid : nodeID < 18446744073709551616) (hov : ov < 8)
    (K : Act → World → Prop) (hK : ∀ a w, Code.wp Ybaz.prog (pick Ybaz.f3.body 31).2 (bodyPost Ybaz.prog Ybaz.f3 (Owes w0)) a w → K a w) :
    Code.wp Ybaz.prog (pick Ybaz.f3.body 31).1 (Exit.then K (bodyPost Ybaz.prog Ybaz.f3 (Owes w0))) ⟨#[.bool true, .slice ea es.length ec, .int .u64 (nodeID : Nat), c3, c4, .int .u64 (seq : Nat), .int .u64 (oldRoot : Nat), .slice ia il ic, c8, .slice fa freed.length fc, c10, c11, c12, c13, c14, c15, c16, c17, c18, c19, c20, c21, c22, .int .u32 (ov : Nat), .int .u32 (ps : Nat), c25, c26, .pointer (some ⟨tb, 0, none⟩), .pointer (some ⟨bb, 0, none⟩), .slice (some ⟨gc, 0, none⟩) kb.length kb.length, c30, c31, c32, c33, c34, c35, c36, c37, c38, c39, c40, c41, c42, c43, c44, c45, c46, c47, c48, c49, c50, c51, c52, c53, c54, c55, c56, c57, c58, c59, c60, c61, c62, c63, c64, c65, c66, c67, c68, c69, c70, c71, c72, c73, c74, c75, c76, c77, c78, c79, c80, c81, c82, c83, c84, c85, c86, c87, c88, c89, c90, c91, c92, c93, c94, c95, c96, c97, c98, c99, c100, c101, c102, c103, c104, c105, c106, c107, c108, c109, c110, c111, c112, c113, c114, c115, c116, c117, c118, c119, c120, c121, c122, c123, c124, c125, c126, c127, c128, c129, c130, c131, c132, c133, c134, c135, c136, c137, c138, c139, c140, c141, c142, c143, c144, c145, c146, c147, c148, c149, c150, c151, c152, c153, c154, c155, c156, c157, c158, c159, c160, c161, c162, c163, c164, c165, c166, c167, c168, c169, c170, c171, c172, c173, c174, c175, c176, c177, c178, c179, c180, c181, c182, c183, c184, c185, c186, c187, c188, c189, c190, c191, c192, c193, c194, c195, c196, c197, c198, c199, c200, c201, c202, c203, c204, c205, c206, c207, c208, c209, c210, c211, c212, c213, c214, c215, c216, c217, c218, c219, c220, c221, c222, c223, c224, c225, c226, c227, c228, c229, c230, c231, c232, c233, c234, c235, c236, c237, c238, c239, c240, c241, c242, c243, c244, c245, c246, c247, c248, c249, c250, c251, c252, c253, c254, c255, c256, c257, c258, c259, c260, c261, c262, c263, c264, c265, c266, c267, c268, c269, c270, c271, c272, c273, c274, c275, c276, c277, c278, c279, c280, c281, c282, c283, c284, c285, c286, c287, c288, c289, c290, c291, c292, c293, c294, c295, c296, c297, c298, c299, c300, c301, c302, c303, c304, c305, c306, c307, c308, c309, c310, c311, c312, c313, c314, c315, c316, c317, c318, c319, c320, c321, c322, c323, c324, c325, c326, c327, c328, c329, c330, c331, c332, c333, c334, c335, c336, c337, c338, c339, c340, c341, c342, c343, c344, c345, c346, c347, c348, c349, c350, c351, c352, c353, c354, c355, c356, c357, c358, c359, c360, c361, c362, c363, c364, c365, c366, c367, c368, c369, c370, c371, c372, c373, c374, c375, c376, c377, c378, c379, c380, c381, c382, c383, c384, c385, c386, c387, c388, c389, c390, c391, c392, c393, c394, c395, c396, c397, c398, c399, c400, c401, c402, c403, c404, c405, c406, c407, c408, c409, c410, c411, c412, c413, c414, c415, c416, c417, c418, c419, c420, c421, c422, c423, c424, c425, c426, c427, c428, c429, c430, c431, c432, c433, c434, c435, c436, c437, c438, c439, c440, c441, c442, c443, c444, c445, c446, c447, c448, c449, c450, c451, c452, c453, c454, c455, c456, c457, c458, c459, c460, c461, c462, c463, c464, c465, c466, c467, c468, c469, c470, c471, c472, c473, c474, c475, c476, c477, c478, c479, c480, c481, c482], []⟩ wk := by
  conv => arg 2; whnf
  obtain ⟨t58, i58, z58, s58, b58⟩ := info_parts info58
  have HH := hide (And.intro hbase (And.intro KS (And.intro T (And.intro B (And.intro hr (And.intro E F))))))
  have HO := hide (And.intro hof h0)
  have HF := hide (And.intro hfb hkb)
  clear hbase KS T B hr E F hof h0 hfb hkb
  go_wp2_with fail
  conv => arg 2; whnf
  go_wp2_with (at_make; refine wpList_make_full _ rfl (.tmp 157) (.tmp 157) 56 rfl wk.heap.size 58 t58 (.agg #[.int .u32 0, .slice none 0 0, .slice none 0 0, .int .u64 0, .pointer none]) 5 Ybaz.underlying56 i58 z58 s58 _ _ _ _ es.length rfl rfl rfl rfl (by rw [b58]; omega) (by unfold maxLen; omega) (Nat.le_refl _) ?_)
  intro w1 hown1 hgrow1
  have I1 : Blk w1 wk.heap.size (inoCells (List.replicate es.length inoZ)) 58 := by
    have h9 := blk_of_made5 hown1
    rw [← made_inodes]
    exact h9
  have S1 : Hid (InSt wk w1 wk.heap.size es.length es []) := ⟨by simpa using I1, fun e h => by simp at h, fun e h => by simp at h, fun i hi hi' => by simp at hi', But.of_grown hgrow1 (fun _ h => by cases h)⟩
  clear hown1 hgrow1 I1
  obtain ⟨gi, egi⟩ : ∃ gi, gi = wk.heap.size := ⟨_, rfl⟩
  rw [← egi] at S1 ⊢
  have HGI := hide egi
  clear egi
  go_wp2_with fail
  go_loopw [161] (fun iv wr => ∃ es1 : List Ino, es1.length ≤ es.length ∧ iv = .int .i64 (es1.length : Int) ∧ Hid (InSt wk wr gi es.length es es1)) (fun iv _ => es.length - (intOf iv).toNat)
  case atStart => exact ⟨[], Nat.zero_le _, rfl, S1.out⟩
  case round =>
    obtain ⟨es1, he1, rfl, HI⟩ := hrel
    clear S1
    obtain ⟨kk, hkk⟩ : ∃ kk, kk = es1.length := ⟨_, rfl⟩
    rw [← hkk] at he1 ⊢
    by_cases hlt : kk < es.length
    · have LW : Below w0.heap.size w0 wr := HH.out.1.trans (HI.out.P.below (B := w0.heap.size) (fun _ h => h.elim) HH.out.1.size)
      have EE := HH.out.2.2.2.2.2.1.below LW (Nat.le_refl _)
      obtain ⟨a, e1, k0, k1', k2'⟩ := EE.c kk hlt
      subst e1
      have k1 : wr.cell? { block := (a.add (kk * 3)).block, off := (a.add (kk * 3)).off + 1 } = some (.slice es[kk].ka es[kk].key.length es[kk].kc) := k1'
      have k2 : wr.cell? { block := (a.add (kk * 3)).block, off := (a.add (kk * 3)).off + 2 } = some (.slice es[kk].va es[kk].val.length es[kk].vc) := k2'
      have eM := mask_bits es[kk].fl (HO.out.1 _ (List.getElem_mem hlt))
      have HKK := hide hkk
      clear k1' k2' hkk
      have GC : ∀ j, j < 5 → wr.cell? ⟨gi, kk * 5 + j, none⟩ = inoZ.cells[j]? := by
        intro j hj
        rw [HI.out.I.cell', HKK.out]
        have hl : es1.length < (es1 ++ List.replicate (es.length - es1.length) inoZ).length := by
          rw [List.length_append, List.length_replicate]
          have := HKK.out
          omega
        rw [inoCells_get _ es1.length j hl hj]
        congr 2
        rw [List.getElem_append_right (Nat.le_refl _)]
        simp
      have GF : ∀ j, wr.frozen? ⟨gi, j, none⟩ = false := fun j => HI.out.I.frozen j
      have glt : gi < wr.heap.size := HI.out.I.lt
      have hsz2 := (sizes_le es kk hlt).1
      have hsz3 : es[kk].size = 16 + es[kk].key.length + es[kk].val.length := rfl
      have hmem := List.getElem_mem hlt
      have eR := EE.R _ hmem
      have CC : Hid (∀ (src : Option Addr) (sc : Nat) (xs : List Nat), Rd wr src (u8s xs) → (src = none → xs.length = 0 ∧ sc = 0) → xs.length ≤ 140737488355328 → ∀ v, Hid (Below wr.heap.size wr v) → Calls Ybaz.prog 5 #[.slice src xs.length sc] v fun e v' => ∃ a1 c1, e = .returned (.slice a1 xs.length c1) ∧ v'.cell? (a.add (kk * 3)) = some (.int .u32 es[kk].fl) ∧ v'.cell? { block := (a.add (kk * 3)).block, off := (a.add (kk * 3)).off + 1 } = some (.slice es[kk].ka es[kk].key.length es[kk].kc) ∧ v'.cell? { block := (a.add (kk * 3)).block, off := (a.add (kk * 3)).off + 2 } = some (.slice es[kk].va es[kk].val.length es[kk].vc) ∧ v'.cell? ⟨gi, kk * 5, none⟩ = some (.int .u32 0) ∧ v'.cell? ⟨gi, kk * 5 + 1, none⟩ = some (.slice none 0 0) ∧ v'.cell? ⟨gi, kk * 5 + 2, none⟩ = some (.slice none 0 0) ∧ v'.cell? ⟨gi, kk * 5 + 3, none⟩ = some (.int .u64 0) ∧ v'.cell? ⟨gi, kk * 5 + 4, none⟩ = some (.pointer none) ∧ v'.frozen? ⟨gi, kk * 5, none⟩ = false ∧ v'.frozen? ⟨gi, kk * 5 + 1, none⟩ = false ∧ v'.frozen? ⟨gi, kk * 5 + 2, none⟩ = false ∧ v'.frozen? ⟨gi, kk * 5 + 3, none⟩ = false ∧ v'.frozen? ⟨gi, kk * 5 + 4, none⟩ = false ∧ Hid (Below wr.heap.size wr v') ∧ Hid (Cln v v' src a1 c1 xs)) := by
        intro src sc xs r0 r1 r2 v HB
        refine (clone_any v src sc xs (r0.below HB.out (Nat.le_refl _)) r1 r2).mono ?_
        rintro e v' ⟨a1, c1, rfl, C⟩
        have L : Below wr.heap.size wr v' := HB.out.trans (C.L.mono HB.out.size)
        have IB := HI.out.I.below L glt
        have gg : ∀ j, j < 5 → v'.cell? ⟨gi, kk * 5 + j, none⟩ = inoZ.cells[j]? := fun j hj => by rw [← GC j hj, IB.cell', HI.out.I.cell']
        exact ⟨a1, c1, rfl, (L.cell (World.block_lt_of_cell? _ _ k0)).trans k0, (L.cell (World.block_lt_of_cell? _ _ k1)).trans k1, (L.cell (World.block_lt_of_cell? _ _ k2)).trans k2, gg 0 (by omega), gg 1 (by omega), gg 2 (by omega), gg 3 (by omega), gg 4 (by omega), IB.frozen _, IB.frozen _, IB.frozen _, IB.frozen _, IB.frozen _, L, C⟩
      have CK := hide (CC.out es[kk].ka es[kk].kc es[kk].key eR.1 (HO.out.2 _ hmem).1 (by omega))
      have CV := hide (CC.out es[kk].va es[kk].vc es[kk].val eR.2 (HO.out.2 _ hmem).2 (by omega))
      have HB : Hid (Below wr.heap.size wr wr.drew) := (Below.refl _ _).drew
      have hne2 : gi ≠ (a.add (kk * 3)).block := by
        obtain ⟨a', e9, q0, _⟩ := HH.out.2.2.2.2.2.1.c kk hlt
        cases e9
        have h1 := World.block_lt_of_cell? _ _ q0
        have h2 := HH.out.1.size
        have h3 := HGI.out
        omega
      have HEE := hide EE
      clear CC GC GF eR hsz2 hsz3 EE
      go_upto_region 37 with (fail)
      go_region_held3 (fun w' => w'.cell? (a.add (kk * 3)) = some (.int .u32 es[kk].fl) ∧ w'.cell? { block := (a.add (kk * 3)).block, off := (a.add (kk * 3)).off + 1 } = some (.slice es[kk].ka es[kk].key.length es[kk].kc) ∧ w'.cell? { block := (a.add (kk * 3)).block, off := (a.add (kk * 3)).off + 2 } = some (.slice es[kk].va es[kk].val.length es[kk].vc)) (go_keep) ((go_at_call 5; first | (refine (CK.out _ HB).mono ?_; rintro e v1 ⟨a1, c1, rfl, k0, k1, k2, g0, g1, g2, g3, g4, f0, f1, f2, f3, f4, HB, HKC⟩) | (refine (CV.out _ HB).mono ?_; rintro e v2 ⟨a2, c2, rfl, k0, k1, k2, g0, g1, g2, g3, g4, f0, f1, f2, f3, f4, HB, HVC⟩)))
      have hgw : wk.heap.size ≤ gi := by have := HGI.out; omega
      have hB1 : wr.heap.size ≤ v1.heap.size := HKC.out.L.size
      have hB2 : v1.heap.size ≤ v2.heap.size := HVC.out.L.size
      have NX : Hid (InSt wk _ gi es.length es (es1 ++ [⟨mask es[kk].fl, a1, c1, es[kk].key, a2, c2, es[kk].val⟩])) := HI.out.push HB.out hgw kk HKK.out hlt ⟨mask es[kk].fl, a1, c1, es[kk].key, a2, c2, es[kk].val⟩ ⟨rfl, rfl, rfl⟩ (HKC.out.R.below HVC.out.L (Nat.le_refl _)) HVC.out.R (fun ad e => ⟨(HKC.out.n ad e).1, Nat.lt_of_lt_of_le (HKC.out.n ad e).2 hB2⟩) (fun ad e => ⟨Nat.le_trans hB1 (HVC.out.n ad e).1, (HVC.out.n ad e).2⟩)
      clear hB1 hB2 hgw
      go_wp2_with fail
      exact ⟨⟨es1 ++ [⟨mask es[kk].fl, a1, c1, es[kk].key, a2, c2, es[kk].val⟩], by rw [List.length_append, List.length_singleton, ← HKK.out]; exact hlt, congrArg (Value.int .i64) (by rw [List.length_append, List.length_singleton, ← HKK.out]; omega), NX⟩, by simp [intOf]; omega⟩
    · have hB := HH.out.2.2.2.1.but HI.out.P (fun h => h)
      have c5 : (wr.alloc (.cells #[.int .u64 nodeID, .int .u32 ov, .bool true, .slice (some ⟨gi, 0, none⟩) es.length es.length, .bool false] 60)).cell? ⟨bb, 5, none⟩ = some (.pointer none) := (hB.alloc _).cell (j := 5) rfl
      have f5 : (wr.alloc (.cells #[.int .u64 nodeID, .int .u32 ov, .bool true, .slice (some ⟨gi, 0, none⟩) es.length es.length, .bool false] 60)).frozen? ⟨bb, 5, none⟩ = false := (hB.alloc _).frozen 5
      clear hB
      go_wp2_with fail
      clear c5 f5
      have hlen : es1.length = es.length := by omega
      have hPair : Pair es es1 := ⟨hlen, HI.out.E⟩
      have P := HI.out.P
      have hgi := HGI.out
      have lb := HH.out.2.2.2.1.lt
      have lt1 := HH.out.2.2.1.B.lt
      have sP := P.size
      have PA : But (fun k => k = bb) wr ((wr.alloc (.cells #[.int .u64 nodeID, .int .u32 ov, .bool true, .slice (some ⟨gi, 0, none⟩) es.length es.length, .bool false] 60)).setCell ⟨bb, 5, none⟩ (.pointer (some ⟨wr.heap.size, 0, none⟩))) := ((But.refl (fun k => k = bb) wr).alloc _).setCell (p := ⟨bb, 5, none⟩) (Or.inr rfl) _
      have B3 : Blk ((wr.alloc (.cells #[.int .u64 nodeID, .int .u32 ov, .bool true, .slice (some ⟨gi, 0, none⟩) es.length es.length, .bool false] 60)).setCell ⟨bb, 5, none⟩ (.pointer (some ⟨wr.heap.size, 0, none⟩))) bb (bktC tb oldRoot seq (.slice na nl nc) (.pointer (some ⟨wr.heap.size, 0, none⟩)) mb) 54 := ((HH.out.2.2.2.1.but P (fun h => h)).alloc _).set 5 (.pointer (some ⟨wr.heap.size, 0, none⟩))
      have N3 : Nod ((wr.alloc (.cells #[.int .u64 nodeID, .int .u32 ov, .bool true, .slice (some ⟨gi, 0, none⟩) es.length es.length, .bool false] 60)).setCell ⟨bb, 5, none⟩ (.pointer (some ⟨wr.heap.size, 0, none⟩))) wr.heap.size nodeID ov gi es1 := by
        refine ⟨?_, ?_, fun e he => ⟨(HI.out.R e he).1.but PA (fun ad ha h => by have := ((HI.out.B e he).1 ad ha).1; omega), (HI.out.R e he).2.but PA (fun ad ha h => by have := ((HI.out.B e he).2 ad ha).1; omega)⟩⟩
        · rw [hlen]
          exact (Blk.new wr [.int .u64 nodeID, .int .u32 ov, .bool true, .slice (some ⟨gi, 0, none⟩) es.length es.length, .bool false] 60).other (p := ⟨bb, 5, none⟩) (by show wr.heap.size ≠ bb; omega) _
        · have h9 := HI.out.I
          rw [hlen, Nat.sub_self, List.replicate_zero, List.append_nil] at h9
          exact h9.but PA (by show ¬ gi = bb; omega)
      have T3 : TxF ((wr.alloc (.cells #[.int .u64 nodeID, .int .u32 ov, .bool true, .slice (some ⟨gi, 0, none⟩) es.length es.length, .bool false] 60)).setCell ⟨bb, 5, none⟩ (.pointer (some ⟨wr.heap.size, 0, none⟩))) tb ps rb (.slice fva freed.length fvc) freed := by
        refine ⟨(HH.out.2.2.1.B.but P (fun h => h)).but PA (fun h => hbt h.symm), owns_but (owns_but HH.out.2.2.1.o P (fun _ _ h => h)) PA (fun k hk h => ?_), HH.out.2.2.1.n⟩
        cases fva with
        | none => simp [Value.ownBlock] at hk
        | some ad =>
          have h9 := (HF.out.1 ad rfl).1
          obtain ⟨x1, y1, f1, _, _, _, _, g4⟩ := owns_form HH.out.2.2.1.o
          simp only [Value.slice.injEq] at f1
          obtain ⟨rfl, _, rfl⟩ := f1
          have h8 := (g4 ad rfl).2.2.2
          rw [h8] at hk
          cases hk
          exact h9 h
      have K3 := (HH.out.2.1.but P (fun _ _ h => h)).but PA (fun k hk h => (HF.out.2 k hk).1 h)
      have hr3 := (HH.out.2.2.2.2.1.but P (fun h => h)).but PA hrb
      have hown : ∀ k, (Value.slice fva freed.length fvc).ownBlock = some k → k ≠ bb ∧ k < wk.heap.size := by
        intro k hk
        cases fva with
        | none => simp [Value.ownBlock] at hk
        | some ad =>
          have h9 := HF.out.1 ad rfl
          obtain ⟨x1, y1, f1, _, _, _, _, g4⟩ := owns_form HH.out.2.2.1.o
          simp only [Value.slice.injEq] at f1
          obtain ⟨rfl, _, rfl⟩ := f1
          have h8 := (g4 ad rfl).2.2.2
          rw [h8] at hk
          cases hk
          exact h9
      have s3 : wr.heap.size ≤ ((wr.alloc (.cells #[.int .u64 nodeID, .int .u32 ov, .bool true, .slice (some ⟨gi, 0, none⟩) es.length es.length, .bool false] 60)).setCell ⟨bb, 5, none⟩ (.pointer (some ⟨wr.heap.size, 0, none⟩))).heap.size := PA.size
      have hSS : ∀ k, (k = bb ∨ k = tb ∨ (Value.slice fva freed.length fvc).ownBlock = some k) → k < wk.heap.size := by
        rintro k (h | h | h)
        · omega
        · omega
        · exact (hown k h).2
      have P03 : But (fun _ => False) w0 ((wr.alloc (.cells #[.int .u64 nodeID, .int .u32 ov, .bool true, .slice (some ⟨gi, 0, none⟩) es.length es.length, .bool false] 60)).setCell ⟨bb, 5, none⟩ (.pointer (some ⟨wr.heap.size, 0, none⟩))) ∨ True := Or.inr trivial
      obtain ⟨w3, hw3⟩ : ∃ w3, w3 = ((wr.alloc (.cells #[.int .u64 nodeID, .int .u32 ov, .bool true, .slice (some ⟨gi, 0, none⟩) es.length es.length, .bool false] 60)).setCell ⟨bb, 5, none⟩ (.pointer (some ⟨wr.heap.size, 0, none⟩))) := ⟨_, rfl⟩
      obtain ⟨nb, hnb⟩ : ∃ nb, nb = wr.heap.size := ⟨_, rfl⟩
      rw [← hw3] at PA B3 N3 T3 K3 hr3 s3 ⊢
      rw [← hnb] at B3 N3 ⊢
      have hK3 := K3.M.size
      have hsz1 := hPair.sizes
      refine (spill_root bb tb oldRoot seq mb nn (.slice na nl nc) D ptrR w3 B3 K3.M.o (by omega) (by omega) K3.look N3 T3 hr3 hrb hbt (fun h => (hown bb h).1 rfl) hid hov (by omega) (by omega) (by omega) (by omega) hps2 hPair.fl (fun k hk => ⟨by have := hSS k hk; omega, by have := hSS k hk; omega, fun e he => ⟨fun ad ha => by have h1 := ((HI.out.B e he).1 ad ha).1; have := hSS k hk; omega, fun ad ha => by have h1 := ((HI.out.B e he).2 ad ha).1; have := hSS k hk; omega⟩⟩)
        (fun e he => ⟨fun ad ha => by have h1 := ((HI.out.B e he).1 ad ha).2.2; omega, fun ad ha => by have h1 := ((HI.out.B e he).2 ad ha).2.2; omega⟩)).mono ?_
      rintro e ws ⟨rfl, SP⟩
      have hownA : ∀ k, (Value.slice fva freed.length fvc).ownBlock = some k → ∃ ad, fva = some ad ∧ ad.block = k := by
        intro k hk
        cases fva with
        | none => simp [Value.ownBlock] at hk
        | some ad =>
          obtain ⟨x1, y1, f1, _, _, _, _, g4⟩ := owns_form HH.out.2.2.1.o
          simp only [Value.slice.injEq] at f1
          obtain ⟨rfl, _, rfl⟩ := f1
          have h8 := (g4 ad rfl).2.2.2
          rw [h8] at hk
          exact ⟨ad, rfl, by simpa using hk⟩
      have L5 : Below w0.heap.size w0 ws := by
        have l1 := HH.out.1.trans (P.below (B := w0.heap.size) (fun _ h => h.elim) HH.out.1.size)
        have l2 := l1.trans (PA.below (B := w0.heap.size) (fun k h => by have := hlow.1; omega) l1.size)
        refine l2.trans (SP.P.below (B := w0.heap.size) (fun k h => ?_) l2.size)
        rcases h with h | h | h
        · have := hlow.1; omega
        · have := hlow.2.1; omega
        · obtain ⟨ad, e9, h9⟩ := hownA k h
          have := hlow.2.2 ad e9
          omega
      obtain ⟨fv5, T5, F5⟩ := SP.T
      obtain ⟨g, B5, G5, hg⟩ := SP.B
      have K5 : Hid (Kids ws tb mb gc nn kb D) := K3.but SP.P (fun k hk h => by
        rcases h with h | h | h
        · exact (HF.out.2 k hk).1 h
        · exact (HF.out.2 k hk).2.1 h
        · obtain ⟨ad, e9, h9⟩ := hownA k h
          exact (HF.out.2 k hk).2.2 ad e9 h9)
      have N5 : Nod ws nb nodeID ov gi es1 := N3.but SP.P (fun h => by have := hSS _ h; omega) (fun h => by have := hSS _ h; omega) (fun e he => ⟨fun ad ha h => by have h1 := ((HI.out.B e he).1 ad ha).1; have := hSS _ h; omega, fun ad ha h => by have h1 := ((HI.out.B e he).2 ad ha).1; have := hSS _ h; omega⟩)
      obtain ⟨fa5, fc5, rfl, y1, y2, y3, y4, y5⟩ := owns_form T5.o
      clear y1 y2 y3 y4 y5
      rw [hPair.el] at B5 G5
      have H5 := hide (And.intro L5 (And.intro T5 (And.intro B5 (And.intro G5 (And.intro N5 hPair)))))
      clear hown hownA hSS hK3 hsz1 SP T5 F5 B5 G5 hg K3 N3 T3 B3 PA hr3 s3 P03 L5 N5 hPair P hw3 hnb sP lb lt1 hgi hlen
      go_wp2_with fail
      go_loopw [202] (fun iv wr => ∃ i : Nat, i ≤ kb.length ∧ iv = .int .i64 (i : Int) ∧ wr = ws) (fun iv _ => kb.length - (intOf iv).toNat)
      case atStart => exact ⟨0, Nat.zero_le _, rfl, rfl⟩
      case round =>
        obtain ⟨i, hi, rfl, hw⟩ := hrel
        have hw' := hw.symm
        clear hw
        subst hw'
        by_cases hlt : i < kb.length
        · have cg : ws.cell? ⟨gc, i, none⟩ = some (.pointer (some ⟨kb[i].1, 0, none⟩)) := K5.out.C.cell (by simp [List.getElem?_eq_getElem hlt])
          obtain ⟨kB, kM⟩ := K5.out.K i hlt
          obtain ⟨i1, hi1⟩ : ∃ i1 : Nat, i1 = i + 1 := ⟨_, rfl⟩
          rw [← hi1] at kB
          have ri : (i : Int) + 1 = (i1 : Int) := by omega
          have d1 := kB.cell (j := 1) rfl
          have d2 := kB.cell (j := 2) rfl
          have d3 := kB.cell (j := 3) rfl
          have d4 := kB.cell (j := 4) rfl
          have d5 := kB.cell (j := 5) rfl
          have d6 := kB.cell (j := 6) rfl
          have d7 := kB.cell (j := 7) rfl
          have dl := len_empty kM 3
          have HI1 := hide hi1
          clear kB kM hi1
          go_wp2_with fail
          exact ⟨⟨i + 1, by omega, by rw [HI1.out], trivial⟩, by simp [intOf]; have := HI1.out; omega⟩
        · have d0 := H5.out.2.2.1.cell (j := 0) rfl
          have d1 := H5.out.2.2.1.cell (j := 1) rfl
          have d7 := H5.out.2.2.1.cell (j := 7) rfl
          have t3 := H5.out.2.1.B.cell (j := 3) rfl
          go_upto_region 54 with (fail)
          have hm9 : 16 + 16 * es.length + datas (es.map Ino.mel) ≤ 2000000 := by
            have h1 := sizes_datas es1
            rw [H5.out.2.2.2.2.2.el, H5.out.2.2.2.2.2.sizes, H5.out.2.2.2.2.2.n] at h1
            omega
          refine tailB1 w0 ws nodeID seq ov ea fa fa5 ec fc fc5 freed _ _ es es1 tb bb rb ps mb nb gi g _ _ _ _ _ _ _ _ _ _ _ _ _ _ _ _ _ _ _ _ _ _ _ _ _ _ _ _ _ _ _ _ _ _ _ _ _ _ _ _ _ _ _ _ _ _ _ _ _ _ _ _ _ _ _ _ _ _ _ _ _ _ _ _ _ _ _ _ _ _ _ _ _ _ _ _ _ _ _ _ _ _ _ _ _ _ _ _ _ _ _ _ _ _ _ _ _ _ _ _ _ _ _ _ _ _ _ _ _ _ _ _ _ _ _ _ _ _ _ _ _ _ _ _ _ _ _ _ _ _ _ _ _ _ _ _ _ _ _ _ _ _ _ _ _ _ _ _ _ _ _ _ _ _ _ _ _ _ _ _ _ _ _ _ _ _ _ _ _ _ _ _ _ _ _ _ _ _ _ _ _ _ _ _ _ _ _ _ _ _ _ _ _ _ _ _ _ _ _ _ _ _ _ _ _ _ _ _ _ _ _ _ _ _ _ _ _ _ _ _ _ _ _ _ _ _ _ _ _ _ _ _ _ _ _ _ _ _ _ _ _ _ _ _ _ _ _ _ _ _ _ _ _ _ _ _ _ _ _ _ _ _ _ _ _ _ _ _ _ _ _ _ _ _ _ _ _ _ _ _ _ _ _ _ _ _ _ _ _ _ _ _ _ _ _ _ _ _ _ _ _ _ _ _ _ _ _ _ _ _ _ _ _ _ _ _ _ _ _ _ _ _ _ _ _ _ _ _ _ _ _ _ _ _ _ _ _ _ _ _ _ _ _ _ _ _ _ _ _ _ _ _ _ _ _ _ _ _ _ _ _ _ _ _ _ _ _ _ _ _ _ _ _ _ _ _ _ _ _ _ _ _ _ _ _ _ _ _ _ _ _ _ _ _ _ _ _ _ _ _ _ _ _ _ _ _ _ _ _ _ _ _ _ _ _ _ _ _ _ _ _ _ _ _ _ _ _ _ _ _ _ _ _ _ _ _ _ _ _ _ _ _ _ _ _ _ _ _ _ _ _ _ _ _ _ _ _ _ _ _ _ _ _ _ _ _ _ _ _ _ _ _ _ _ H5.out.1 rfl H5.out.2.1 H5.out.2.2.1 H5.out.2.2.2.1 rfl H5.out.2.2.2.2.1 H5.out.2.2.2.2.2 (HH.out.2.2.2.2.2.1.below H5.out.1 (Nat.le_refl _)) (HH.out.2.2.2.2.2.2.below H5.out.1 (Nat.le_refl _)) hfl hn hm9 HO.out.1 hid hov _ ?_
          assumption

end Go.Proofs.YbulkeekaGreatFmt
