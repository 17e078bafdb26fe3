/-
  THE WALK of LawS6539BPart.
-/
import Derived.Test.YbulkeekaGreatFmtMid1
import Derived.Test.YbulkeekaGreatFmtMod
import Derived.Deep.DeepCutAuto
import Derived.Deep.CutRange
namespace Go.Proofs.YbulkeekaGreatFmt
open Go.RowKit Go.Maps Go.Sort
set_option linter.unusedSimpArgs false
set_option linter.unusedVariables false

theorem fill64 (xs : List Nat) (k : Nat) (h : k < xs.length) : (u64s (xs.take k) ++ List.replicate (xs.length - k) (Value.int .u64 0)).set k (.int .u64 ((xs[k] : Nat) : Int)) = u64s (xs.take (k + 1)) ++ List.replicate (xs.length - (k + 1)) (.int .u64 0) := by
  have e : xs.length - k = (xs.length - (k + 1)) + 1 := by omega
  have hl : (u64s (xs.take k)).length = k := by simp; omega
  rw [e, List.replicate_succ, List.set_append_right _ _ (by omega), hl, Nat.sub_self, List.set_cons_zero, List.take_add_one, List.getElem?_eq_getElem h]
  show _ = List.map _ (xs.take k ++ [xs[k]]) ++ _
  rw [List.map_append, List.append_assoc]
  rfl

/-- the children so far: their slice, the map, their buckets -/
structure KSt (w9 wr : World) (tb mb gc n : Nat) (kb : List (Nat × Nat)) (D : DataW Unit) : Prop where
  C : Blk wr gc (ptrs kb ++ List.replicate (n - kb.length) (.pointer none)) 40
  M : KMap wr mb kb.length D (fun b => b ∈ kb.map Prod.fst)
  K : ∀ i (hi : i < kb.length), Blk wr kb[i].1 (bktC tb (i + 1) i (.slice none 0 0) (.pointer none) kb[i].2) 54 ∧ wr.heap[kb[i].2]? = some (.map #[] 0) ∧ w9.heap.size ≤ kb[i].1 ∧ w9.heap.size ≤ kb[i].2
  P : But (fun k => k = gc ∨ k = mb) w9 wr

theorem fillP (kb : List (Nat × Nat)) (n : Nat) (p : Nat × Nat) (h : kb.length < n) : (ptrs kb ++ List.replicate (n - kb.length) (Value.pointer none)).set kb.length (.pointer (some ⟨p.1, 0, none⟩)) = ptrs (kb ++ [p]) ++ List.replicate (n - (kb ++ [p]).length) (.pointer none) := by
  have e : n - kb.length = (n - (kb.length + 1)) + 1 := by omega
  have hl : (ptrs kb).length = kb.length := by simp
  rw [e, List.replicate_succ, List.set_append_right _ _ (by omega), hl, Nat.sub_self, List.set_cons_zero, List.length_append, List.length_singleton]
  show _ = List.map _ (kb ++ [p]) ++ _
  rw [List.map_append, List.append_assoc]
  rfl

/-- one child more -/
theorem KSt.step {w9 wr w1 : World} {tb mb gc n : Nat} {kb : List (Nat × Nat)} {D : DataW Unit} (h : KSt w9 wr tb mb gc n kb D) (hlt : kb.length < n) (hn : n ≤ 65536) (hgm : gc ≠ mb) (hg9 : gc < w9.heap.size) (hm9 : mb < w9.heap.size)
    (m1 : w1.heap[wr.heap.size + 1]? = some (.map #[] 0)) (B1 : Blk w1 (wr.heap.size + 2) (bktC tb (kb.length + 1) kb.length (.slice none 0 0) (.pointer none) (wr.heap.size + 1)) 54) (L1 : Below wr.heap.size wr w1) (s : List UInt8) (hs : s.length ≤ maxLen) :
    ∃ w2 D', (Instr.mapUpdate 52 (.map (some mb)) (encStr s) (.pointer (some ⟨wr.heap.size + 2, 0, none⟩))).run Ybaz.prog (w1.setCell ⟨gc, kb.length, none⟩ (.pointer (some ⟨wr.heap.size + 2, 0, none⟩))) = .ok () w2 ∧
      Hid (KSt w9 w2 tb mb gc n (kb ++ [(wr.heap.size + 2, wr.heap.size + 1)]) D') := by
  have s9 := h.P.size
  have PL : But (fun _ => False) wr w1 := But.of_below' L1
  have PS : But (fun k => k = gc) w1 (w1.setCell ⟨gc, kb.length, none⟩ (.pointer (some ⟨wr.heap.size + 2, 0, none⟩))) := (But.refl (fun k => k = gc) w1).setCell (p := ⟨gc, kb.length, none⟩) (Or.inr rfl) _
  have M1 : KMap (w1.setCell ⟨gc, kb.length, none⟩ (.pointer (some ⟨wr.heap.size + 2, 0, none⟩))) mb kb.length D (fun b => b ∈ (kb ++ [(wr.heap.size + 2, wr.heap.size + 1)]).map Prod.fst) := ((h.M.but PL (fun h => h)).but PS (fun h => hgm h.symm)).mono (fun b hb => by rw [List.map_append]; exact List.mem_append_left _ hb)
  obtain ⟨w2, D', hrun, M2, P2⟩ := M1.put (by omega) s hs (wr.heap.size + 2) (by simp)
  refine ⟨w2, D', hrun, ?_, ?_, fun i hi => ?_, ?_⟩
  · have c1 := ((h.C.below L1 h.C.lt).set kb.length (.pointer (some ⟨wr.heap.size + 2, 0, none⟩))).but P2 hgm
    rw [fillP kb n (wr.heap.size + 2, wr.heap.size + 1) hlt] at c1
    exact c1
  · rw [List.length_append, List.length_singleton]
    exact M2
  · by_cases hi2 : i < kb.length
    · obtain ⟨k1, k2, k3, k4⟩ := h.K i hi2
      rw [List.getElem_append_left hi2]
      refine ⟨((k1.below L1 k1.lt).but PS (by show ¬ _ = gc; omega)).but P2 (by show ¬ _ = mb; omega), ?_, k3, k4⟩
      have q1 := (L1.block _ (Array.getElem?_eq_some_iff.1 k2).1).trans k2
      have q2 := (PS.block _ (Array.getElem?_eq_some_iff.1 q1).1 (by show ¬ _ = gc; omega)).trans q1
      exact (P2.block _ (Array.getElem?_eq_some_iff.1 q2).1 (by show ¬ _ = mb; omega)).trans q2
    · simp at hi
      obtain rfl : i = kb.length := by omega
      rw [List.getElem_append_right (Nat.le_refl _)]
      simp only [Nat.sub_self, List.getElem_cons_zero]
      refine ⟨(B1.but PS (by show ¬ _ = gc; omega)).but P2 (by show ¬ _ = mb; omega), ?_, by omega, by omega⟩
      have q2 := (PS.block _ (Array.getElem?_eq_some_iff.1 m1).1 (by show ¬ _ = gc; omega)).trans m1
      exact (P2.block _ (Array.getElem?_eq_some_iff.1 q2).1 (by show ¬ _ = mb; omega)).trans q2
  · exact ((h.P.trans2 PL (fun _ _ h => h.elim)).trans2 PS (fun _ _ h => Or.inl h)).trans2 P2 (fun _ _ h => Or.inr h)

/-- a transaction's cells before its root is set -/
def tx0 (ps : Nat) (fv : Value) : List Value :=
  [.pointer none, .bool true, .bool false, .int .u32 ps, .int .u64 0, .int .u64 0, .int .u64 0, .int .u64 0, .int .u64 0, .pointer none, .pointer none, fv, .slice none 0 0, .slice none 0 0, .map none, .map none, .nilIface, .slice none 0 0, .bool false]
theorem info40 : (Ybaz.prog.info? 40).map (fun i => (i.zero, i.size, i.bytes)) = some (some (.pointer none), 1, 8) := by kernel_rfl

set_option maxRecDepth 1000000 in
set_option maxHeartbeats 20000000 in
theorem lawB_ok (hasRoot : Bool) (ea : Option Addr) (ec : Nat) (es : List Ino) (nodeID ovf pex seq oldRoot : Nat) (ia : Option Addr) (ic : Nat) (inl : List Nat) (ca : Option Addr) (cc : Nat) (names : List (List UInt8)) (fa : Option Addr) (fc : Nat) (freed : List Nat) (w : World)
    (hE : Elms w ea es) (hI : Rd w ia (u8s inl)) (hI0 : ia = none → inl.length = 0 ∧ ic = 0) (hC : Rd w ca (names.map encStr)) (hF : Rd w fa (u64s freed))
    (hfl : ∀ e ∈ es, e.fl < 4294967296) (hkl : ∀ e ∈ es, e.key.length ≤ 140737488355328 ∧ e.val.length ≤ 140737488355328 ∧ (e.ka = none → e.key.length = 0 ∧ e.kc = 0) ∧ (e.va = none → e.val.length = 0 ∧ e.vc = 0)) (hin : inl.length ≤ 140737488355328) (hnl : ∀ s ∈ names, s.length ≤ maxLen)
    (h1 : nodeID < 18446744073709551616) (h2 : ovf < 4294967296) (h3 : pex < 65536) (h4 : seq < 18446744073709551616) (h5 : oldRoot < 18446744073709551616)
    (hn1 : es.length ≤ 65536) (hn2 : names.length ≤ 65536) (hn3 : freed.length ≤ 1048576) :
    Calls Ybaz.prog 3 #[.bool hasRoot, .slice ea es.length ec, .int .u64 nodeID, .int .u32 ovf, .int .u16 pex, .int .u64 seq, .int .u64 oldRoot, .slice ia inl.length ic, .slice ca names.length cc, .slice fa freed.length fc] w fun e w' => e = .returned (.bool true) ∧ Below w.heap.size w w' := by
  obtain ⟨t32, i32, z32, s32, b32⟩ := info_parts info32
  obtain ⟨t40, i40, z40, s40, b40⟩ := info_parts info40
  have HE := hide (And.intro hE (And.intro hfl hkl))
  have HI := hide (And.intro hI hI0)
  have HC := hide (And.intro hC hnl)
  have HF := hide hF
  clear hE hfl hkl hI hI0 hC hnl hF
  go_enter Ybaz.func3, Ybaz.ntmps3
  go_wp2_with fail
  go_loopw [21, 59] (fun tv iv wr => ∃ (i q : Nat), i ≤ es.length ∧ tv = .int .i64 ((16 + sizes (es.take i) : Nat) : Int) ∧ iv = .int .i64 (i : Int) ∧ 16 + sizes (es.take i) ≤ 1048576 ∧ wr = w.drewN q) (fun _ iv _ => es.length - (intOf iv).toNat)
  case atStart => exact ⟨0, 0, Nat.zero_le _, rfl, rfl, by simp [sizes], rfl⟩
  case round =>
    obtain ⟨i, q, hi, rfl, rfl, hsz, rfl⟩ := hrel
    by_cases hlt : i < es.length
    · obtain ⟨a, e1, k0, k1', k2'⟩ := HE.out.1.c i hlt
      subst e1
      have k1 : w.cell? { block := (a.add (i * 3)).block, off := (a.add (i * 3)).off + 1 } = some (.slice es[i].ka es[i].key.length es[i].kc) := k1'
      have k2 : w.cell? { block := (a.add (i * 3)).block, off := (a.add (i * 3)).off + 2 } = some (.slice es[i].va es[i].val.length es[i].vc) := k2'
      have b1 := (HE.out.2.2 es[i] (List.getElem_mem hlt)).1
      have b2 := (HE.out.2.2 es[i] (List.getElem_mem hlt)).2.1
      have z2 := (sizes_le es i hlt).2
      have z3 : es[i].size = 16 + es[i].key.length + es[i].val.length := rfl
      have HZ := hide (And.intro z2 z3)
      clear k1' k2' z2 z3
      go_wp2_with fail
      go_quiet (fail)
      by_cases hbig : 1048576 < 16 + sizes (es.take i) + (16 + es[i].key.length + es[i].val.length)
      · go_wp2_with fail
        go_ret
        exact ⟨rfl, belowDN (Below.refl _ _) _⟩
      · go_wp2_with fail
        go_roundw
        case rel => exact ⟨i + 1, _, by omega, congrArg (Value.int .i64) (by have := HZ.out; omega), by go_num, by have := HZ.out; omega, rfl⟩
        case measure => simp [intOf]; omega
    · have hT : Hid (16 + sizes (es.take i) = 16 + sizes es) := by show _ = _; rw [List.take_of_length_le (by omega)]
      obtain ⟨tot, htot⟩ : ∃ tot : Nat, tot = 16 + sizes es := ⟨_, rfl⟩
      obtain ⟨ps, hps⟩ : ∃ ps : Nat, ps = 4 * tot + pex := ⟨_, rfl⟩
      obtain ⟨ov, hov⟩ : ∃ ov : Nat, ov = ovf % 8 := ⟨_, rfl⟩
      rw [hT.out, ← htot] at hsz ⊢
      have r1 : 4 * (tot : Int) + (pex : Int) = (ps : Int) := by omega
      have r2 : (ovf : Int) % 8 = (ov : Int) := by omega
      have hps2 : ps < 4294967296 := by omega
      have hov2 : ov < 8 := by omega
      have HP := hide (And.intro htot (And.intro hps hov))
      clear hT htot hps hov
      go_wp2_with (at_make; refine wpList_make_full _ rfl (.tmp 90) (.tmp 90) 31 rfl w.heap.size 32 t32 (.int .u64 0) 1 Ybaz.underlying31 i32 z32 s32 _ _ _ _ freed.length rfl rfl rfl rfl (by rw [b32]; omega) (by unfold maxLen; omega) (Nat.le_refl _) ?_)
      intro w1 hown1 hgrow1
      have HB1 : Hid (Blk w1 w.heap.size (List.replicate freed.length (.int .u64 0)) 32 ∧ But (fun _ => False) w w1) := ⟨by simpa [toList_madeCells_one] using blk_of_made hown1 rfl, ((But.refl (fun _ => False) w).trans (show But (fun _ => False) w (w.drewN q) from ⟨rfl, rfl, rfl, Nat.le_refl _, fun _ _ _ => rfl⟩)).trans (But.of_grown hgrow1 (fun _ h => by cases h))⟩
      clear hown1 hgrow1
      go_wp2_with fail
      clear r1 r2
      go_loopw [94] (fun iv wr => ∃ k : Nat, k ≤ freed.length ∧ iv = .int .i64 k ∧ Hid (Blk wr w.heap.size (u64s (freed.take k) ++ List.replicate (freed.length - k) (.int .u64 0)) 32 ∧ But (fun _ => False) w wr)) (fun iv _ => freed.length - (intOf iv).toNat)
      case atStart => exact ⟨0, Nat.zero_le _, rfl, HB1.out⟩
      case round =>
        obtain ⟨k, hk, rfl, HW⟩ := hrel
        clear HB1
        by_cases hlt2 : k < freed.length
        · have O5 := HF.out.but HW.out.2 (fun _ _ h => h)
          obtain ⟨oad, rfl, cA⟩ := O5 k (.int .u64 ((freed[k] : Nat) : Int)) (by simp [List.getElem?_eq_getElem hlt2])
          have cB : wr.cell? ⟨w.heap.size, k, none⟩ = some (.int .u64 0) := HW.out.1.cell (by
            have hl' : (u64s (freed.take k)).length = k := by simp; omega
            rw [List.getElem?_append_right (by omega), hl', Nat.sub_self, List.getElem?_replicate, if_pos (by omega)])
          have fB := HW.out.1.frozen k
          have NW : Hid (Blk (wr.setCell ⟨w.heap.size, k, none⟩ (.int .u64 ((freed[k] : Nat) : Int))) w.heap.size (u64s (freed.take (k + 1)) ++ List.replicate (freed.length - (k + 1)) (.int .u64 0)) 32 ∧ But (fun _ => False) w (wr.setCell ⟨w.heap.size, k, none⟩ (.int .u64 ((freed[k] : Nat) : Int)))) := by
            refine ⟨?_, HW.out.2.setCell (p := ⟨w.heap.size, k, none⟩) (Or.inl (Nat.le_refl _)) _⟩
            have := HW.out.1.set k (.int .u64 ((freed[k] : Nat) : Int))
            rwa [fill64 freed k hlt2] at this
          clear O5
          go_wp2_with fail
          go_roundw
          case rel => exact ⟨k + 1, by omega, by go_num, NW.out⟩
          case measure => simp [intOf]; omega
        · have HW2 : Hid (Blk wr w.heap.size (u64s freed) 32 ∧ But (fun _ => False) w wr) := by
            have := HW.out
            rw [List.take_of_length_le (by omega), show freed.length - k = 0 by omega] at this
            rw [List.replicate_zero, List.append_nil] at this
            exact this
          clear HW
          go_wp2_with fail
          obtain ⟨fv, hfv⟩ : ∃ fv, fv = Value.slice (some ⟨w.heap.size, 0, none⟩) freed.length freed.length := ⟨_, rfl⟩
          change Calls _ _ _ (wr.alloc (.cells (tx0 ps (.slice (some ⟨w.heap.size, 0, none⟩) freed.length freed.length)).toArray 47)) _
          have B3 := Blk.new wr (tx0 ps (.slice (some ⟨w.heap.size, 0, none⟩) freed.length freed.length)) 47
          have P3 : But (fun _ => False) w (wr.alloc (.cells (tx0 ps (.slice (some ⟨w.heap.size, 0, none⟩) freed.length freed.length)).toArray 47)) := HW2.out.2.alloc _
          have G3 := HW2.out.1.alloc (.cells (tx0 ps (.slice (some ⟨w.heap.size, 0, none⟩) freed.length freed.length)).toArray 47)
          have z3 : (wr.alloc (.cells (tx0 ps (.slice (some ⟨w.heap.size, 0, none⟩) freed.length freed.length)).toArray 47)).heap.size = wr.heap.size + 1 := by simp
          have htb := HW2.out.1.lt
          obtain ⟨tb, etb⟩ : ∃ tb, tb = wr.heap.size := ⟨_, rfl⟩
          rw [← etb] at B3 z3 htb ⊢
          obtain ⟨w3, ew3⟩ : ∃ w3, w3 = wr.alloc (.cells (tx0 ps (.slice (some ⟨w.heap.size, 0, none⟩) freed.length freed.length)).toArray 47) := ⟨_, rfl⟩
          rw [← ew3] at B3 P3 G3 z3 ⊢
          have H3 := hide (And.intro B3 (And.intro P3 (And.intro G3 z3)))
          have HTB : Hid (w.heap.size < tb) := htb
          clear B3 P3 G3 z3 etb ew3 htb HW2 hfv fv
          refine (newBucket_any tb 0 0 w3).mono ?_
          rintro e w4 ⟨rfl, m4, B4, L4, z4⟩
          have T4 := H3.out.1.below L4 H3.out.1.lt
          have c10 := T4.cell (j := 10) rfl
          have f10 := T4.frozen 10
          obtain ⟨rb, erb⟩ : ∃ rb, rb = w3.heap.size + 2 := ⟨_, rfl⟩
          rw [← erb] at B4 ⊢
          have P5 : But (fun k => k = tb) w4 (w4.setCell ⟨tb, 10, none⟩ (.pointer (some ⟨rb, 0, none⟩))) := (But.refl (fun k => k = tb) w4).setCell (p := ⟨tb, 10, none⟩) (Or.inr rfl) _
          have T5 : Blk (w4.setCell ⟨tb, 10, none⟩ (.pointer (some ⟨rb, 0, none⟩))) tb (txC ps rb (.slice (some ⟨w.heap.size, 0, none⟩) freed.length freed.length)) 47 := T4.set 10 (.pointer (some ⟨rb, 0, none⟩))
          have hrt : rb ≠ tb := by have := H3.out.1.lt; omega
          have B5 := B4.but P5 hrt
          have G5 := (H3.out.2.2.1.below L4 H3.out.2.2.1.lt).but P5 (fun h => by have := HTB.out; omega)
          have P05 : But (fun _ => False) w (w4.setCell ⟨tb, 10, none⟩ (.pointer (some ⟨rb, 0, none⟩))) := (H3.out.2.1.trans (But.of_below' L4)).trans2 P5 (fun i hi h => by have := HTB.out; omega)
          have H5 := hide (And.intro T5 (And.intro B5 (And.intro G5 (And.intro P05 hrt))))
          clear m4 B4 L4 z4 T4 P5 T5 B5 G5 P05 hrt erb
          go_wp2_with fail
          clear c10 f10
          generalize hw5 : w4.setCell ⟨tb, 10, none⟩ (.pointer (some ⟨rb, 0, none⟩)) = w5 at *
          clear hw5
          refine (newBucket_any tb oldRoot seq w5).mono ?_
          rintro e w6 ⟨rfl, m6, B6, L6, z6⟩
          obtain ⟨bb, ebb⟩ : ∃ bb, bb = w5.heap.size + 2 := ⟨_, rfl⟩
          obtain ⟨mb, emb⟩ : ∃ mb, mb = w5.heap.size + 1 := ⟨_, rfl⟩
          rw [← ebb, ← emb] at B6
          rw [← emb] at m6
          rw [← ebb]
          have T6 := H5.out.1.below L6 H5.out.1.lt
          have R6 := H5.out.2.1.below L6 H5.out.2.1.lt
          have G6 := H5.out.2.2.1.below L6 H5.out.2.2.1.lt
          have P06 : But (fun _ => False) w w6 := H5.out.2.2.2.1.trans (But.of_below' L6)
          have lt1 := H5.out.1.lt
          have lt2 := H5.out.2.1.lt
          have lt3 := H5.out.2.2.1.lt
          have HN6 : Hid (bb ≠ tb ∧ rb ≠ bb ∧ rb ≠ tb ∧ mb ≠ tb ∧ mb ≠ bb ∧ bb ≠ w.heap.size ∧ mb ≠ w.heap.size ∧ w.heap.size < tb ∧ w.heap.size ≤ bb ∧ w.heap.size ≤ mb ∧ bb < w6.heap.size ∧ mb < w6.heap.size ∧ mb ≠ rb) := by
            have := HTB.out
            have := H5.out.2.2.2.2
            refine ⟨by omega, by omega, by omega, by omega, by omega, by omega, by omega, by omega, by omega, by omega, by omega, by omega, by omega⟩
          have H6 := hide (And.intro m6 (And.intro B6 (And.intro T6 (And.intro R6 (And.intro G6 P06)))))
          clear m6 B6 L6 z6 T6 R6 G6 P06 lt1 lt2 lt3 ebb emb H5 H3
          go_wp2_with fail
          refine (clone_any w6 ia ic inl (HI.out.1.but H6.out.2.2.2.2.2 (fun _ _ h => h)) HI.out.2 hin).mono ?_
          rintro e w7 ⟨na, nc, rfl, C7⟩
          have B7 := H6.out.2.1.below C7.L H6.out.2.1.lt
          have c4 := B7.cell (j := 4) rfl
          have f4 := B7.frozen 4
          have H7 := hide C7
          clear C7 B7
          go_wp2_with (at_make; refine wpList_make_full _ rfl (.tmp 127) (.tmp 127) 55 rfl w.heap.size 40 t40 (.pointer none) 1 Ybaz.underlying55 i40 z40 s40 _ _ _ _ names.length rfl rfl rfl rfl (by rw [b40]; omega) (by unfold maxLen; omega) (by have := H6.out.2.2.2.2.2.size; have := H7.out.L.size; simp; omega) ?_)
          intro w9 hown9 hgrow9
          obtain ⟨gc, egc⟩ : ∃ gc, gc = w7.heap.size := ⟨_, rfl⟩
          rw [← egc] at hown9 ⊢
          have C9 : Blk w9 gc (List.replicate names.length (.pointer none)) 40 := by simpa [toList_madeCells_one] using blk_of_made hown9 rfl
          have P9 : But (fun k => k = bb) w7 w9 := ((But.refl (fun k => k = bb) w7).setCell (p := ⟨bb, 4, none⟩) (Or.inr rfl) _).trans (But.of_grown hgrow9 (fun _ h => by cases h))
          have B9 : Blk w9 bb (bktC tb oldRoot seq (.slice na inl.length nc) (.pointer none) mb) 54 := ((H6.out.2.1.below H7.out.L H6.out.2.1.lt).set 4 (.slice na inl.length nc)).but (But.of_grown (S := fun _ => False) hgrow9 (fun _ h => by cases h)) (fun h => h)
          have hN6 := HN6.out
          have s67 := H7.out.L.size
          have m9 : w9.heap[mb]? = some (.map #[] 0) := (P9.block mb (by omega) (fun h => hN6.2.2.2.2.1 h)).trans ((H7.out.L.block mb (by omega)).trans H6.out.1)
          have T9 := (H6.out.2.2.1.below H7.out.L H6.out.2.2.1.lt).but P9 (fun h => hN6.1 h.symm)
          have R9 := (H6.out.2.2.2.1.below H7.out.L H6.out.2.2.2.1.lt).but P9 hN6.2.1
          have G9 := (H6.out.2.2.2.2.1.below H7.out.L H6.out.2.2.2.2.1.lt).but P9 (fun h => hN6.2.2.2.2.2.1 h.symm)
          have I9 : Rd w9 na (u8s inl) := H7.out.R.but P9 (fun ad e h => by have := (H7.out.n ad e).1; omega)
          have P09 : But (fun _ => False) w w9 := (H6.out.2.2.2.2.2.trans (But.of_below' H7.out.L)).trans2 P9 (fun i hi h => by omega)
          have hgc9 := C9.lt
          have HGC : Hid (gc ≠ mb ∧ gc ≠ bb ∧ gc ≠ tb ∧ gc ≠ w.heap.size ∧ gc ≠ rb ∧ gc < w9.heap.size ∧ mb < w9.heap.size ∧ w.heap.size ≤ gc) := by
            have q1 := H6.out.2.2.1.lt
            have q2 := H6.out.2.2.2.1.lt
            have q3 := H6.out.2.2.2.2.1.lt
            have q4 := P9.size
            refine ⟨by omega, by omega, by omega, by omega, by omega, by omega, by omega, by omega⟩
          have HNA : Hid (∀ ad, na = some ad → ad.block ≠ gc ∧ ad.block ≠ mb) := fun ad e => by have h1 := H7.out.n ad e; omega
          have K9' : KSt w9 w9 tb mb gc names.length [] (.map []) := ⟨by simpa using C9, kmap_new m9 _, fun i hi => by simp at hi, But.refl _ _⟩
          have H9 := hide (And.intro B9 (And.intro T9 (And.intro R9 (And.intro G9 (And.intro I9 (And.intro P09 K9'))))))
          clear hown9 hgrow9 C9 P9 B9 hN6 s67 m9 T9 R9 G9 I9 P09 hgc9 K9' egc c4 f4
          go_wp2_with fail
          go_loopw [131] (fun iv wr => ∃ (kb : List (Nat × Nat)) (D : DataW Unit), kb.length ≤ names.length ∧ iv = .int .i64 (kb.length : Int) ∧ Hid (KSt w9 wr tb mb gc names.length kb D)) (fun iv _ => names.length - (intOf iv).toNat)
          case atStart => exact ⟨[], .map [], Nat.zero_le _, rfl, H9.out.2.2.2.2.2.2⟩
          case round =>
            obtain ⟨kb, D, hkb, rfl, HK⟩ := hrel
            obtain ⟨kk, hkk⟩ : ∃ kk, kk = kb.length := ⟨_, rfl⟩
            rw [← hkk] at hkb ⊢
            by_cases hlt3 : kk < names.length
            · obtain ⟨k1, hk1⟩ : ∃ k1 : Nat, k1 = kk + 1 := ⟨_, rfl⟩
              have rk : (kk : Int) + 1 = (k1 : Int) := by omega
              have hP0 : But (fun _ => False) w wr := H9.out.2.2.2.2.2.1.trans2 HK.out.P (fun i hi h => by have := HGC.out; have := HN6.out; omega)
              obtain ⟨cad, rfl, cN⟩ := (HC.out.1.but hP0 (fun _ _ h => h)) kk (encStr names[kk]) (by simp [List.getElem?_eq_getElem hlt3])
              obtain ⟨sx, hsx⟩ : ∃ sx, encStr names[kk] = .string sx := ⟨_, rfl⟩
              rw [hsx] at cN
              have HSX := hide (And.intro hsx (And.intro hk1 hkk))
              clear hsx hk1 hkk
              go_wp2_with fail
              clear cN
              refine (newBucket_any tb k1 kk wr).mono ?_
              rintro e v1 ⟨rfl, m1, B1, L1, z1⟩
              have B1' : Blk v1 (wr.heap.size + 2) (bktC tb (kb.length + 1) kb.length (.slice none 0 0) (.pointer none) (wr.heap.size + 1)) 54 := by rw [← HSX.out.2.2, ← HSX.out.2.1]; exact B1
              obtain ⟨v2, D', hrun, NX⟩ := HK.out.step (by rw [← HSX.out.2.2]; exact hlt3) hn2 HGC.out.1 HGC.out.2.2.2.2.2.1 HGC.out.2.2.2.2.2.2.1 m1 B1' L1 names[kk] (HC.out.2 _ (List.getElem_mem hlt3))
              rw [← HSX.out.2.2, HSX.out.1] at hrun
              have hC1 := HK.out.C.below L1 HK.out.C.lt
              have cc1 : v1.cell? ⟨gc, kk, none⟩ = some (.pointer none) := hC1.cell (by
                have hl' : (ptrs kb).length = kk := by rw [HSX.out.2.2]; simp
                rw [List.getElem?_append_right (by omega), hl', Nat.sub_self, List.getElem?_replicate, if_pos (by rw [← HSX.out.2.2]; omega)])
              have ff1 := hC1.frozen kk
              have hB1 := (H9.out.1.but HK.out.P (fun h => h.elim (fun h => HGC.out.2.1 h.symm) (fun h => HN6.out.2.2.2.2.1 h.symm)))
              have cb6 : (v1.setCell ⟨gc, kk, none⟩ (.pointer (some ⟨wr.heap.size + 2, 0, none⟩))).cell? ⟨bb, 6, none⟩ = some (.map (some mb)) := ((hB1.below L1 hB1.lt).other (p := ⟨gc, kk, none⟩) (fun h => HGC.out.2.1 h.symm) _).cell (j := 6) rfl
              clear m1 B1 L1 z1 B1' hC1 hB1
              go_wp2_with fail
              go_roundw
              case rel => exact ⟨kb ++ [(wr.heap.size + 2, wr.heap.size + 1)], D', by have h1 := HSX.out.2.2; rw [List.length_append, List.length_singleton]; omega, congrArg (Value.int .i64) (by have h1 := HSX.out.2; rw [List.length_append, List.length_singleton]; omega), NX.out⟩
              case measure => simp [intOf]; omega
            · obtain ⟨wk, hwk⟩ : ∃ wk, wk = wr := ⟨_, rfl⟩
              subst hwk
              have HKN : Hid (kb.length = names.length) := by show _ = _; omega
              have PK : But (fun _ => False) w wk := H9.out.2.2.2.2.2.1.trans2 HK.out.P (fun i hi h => by have := HGC.out; have := HN6.out; omega)
              have KD : Hid (Kids wk tb mb gc kb.length kb D) := by
                refine ⟨?_, HK.out.M, fun i hi => ⟨(HK.out.K i hi).1, (HK.out.K i hi).2.1⟩⟩
                have h9 := HK.out.C
                rw [show names.length - kb.length = 0 by have := HKN.out; omega, List.replicate_zero, List.append_nil] at h9
                exact h9
              have TT : Hid (TxF wk tb ps rb (.slice (some ⟨w.heap.size, 0, none⟩) freed.length freed.length) freed) := by
                have hg := H9.out.2.2.2.1.but HK.out.P (fun h => h.elim (fun h => HGC.out.2.2.2.1 h.symm) (fun h => HN6.out.2.2.2.2.2.2.1 h.symm))
                refine ⟨H9.out.2.1.but HK.out.P (fun h => h.elim (fun h => HGC.out.2.2.1 h.symm) (fun h => HN6.out.2.2.2.1 h.symm)), ?_, fun k hk => ?_⟩
                · exact hg.owns (Nat.zero_le _) (by simp) (by unfold maxLen; omega)
                · simp [Value.ownBlock] at hk
                  have := HN6.out
                  omega
              have BB : Hid (Blk wk bb (bktC tb oldRoot seq (.slice na inl.length nc) (.pointer none) mb) 54) := H9.out.1.but HK.out.P (fun h => h.elim (fun h => HGC.out.2.1 h.symm) (fun h => HN6.out.2.2.2.2.1 h.symm))
              have II : Hid (Rd wk na (u8s inl)) := H9.out.2.2.2.2.1.but HK.out.P (fun ad e h => h.elim (HNA.out ad e).1 (HNA.out ad e).2)
              have HPK := hide PK
              clear PK
              go_upto_region 31 with (fail)
              rw [← HKN.out]
              cases hasRoot with
              | false =>
                refine midB0 w wk nodeID seq oldRoot ov ps ea ia na es.length ec ic nc inl freed fa (some ⟨w.heap.size, 0, none⟩) fc freed.length tb bb rb mb gc kb.length kb D _ _ _ _ _ _ _ _ _ _ _ _ _ _ _ _ _ _ _ _ _ _ _ _ _ _ _ _ _ _ _ _ _ _ _ _ _ _ _ _ _ _ _ _ _ _ _ _ _ _ _ _ _ _ _ _ _ _ _ _ _ _ _ _ _ _ _ _ _ _ _ _ _ _ _ _ _ _ _ _ _ _ _ _ _ _ _ _ _ _ _ _ _ _ _ _ _ _ _ _ _ _ _ _ _ _ _ _ _ _ _ _ _ _ _ _ _ _ _ _ _ _ _ _ _ _ _ _ _ _ _ _ _ _ _ _ _ _ _ _ _ _ _ _ _ _ _ _ _ _ _ _ _ _ _ _ _ _ _ _ _ _ _ _ _ _ _ _ _ _ _ _ _ _ _ _ _ _ _ _ _ _ _ _ _ _ _ _ _ _ _ _ _ _ _ _ _ _ _ _ _ _ _ _ _ _ _ _ _ _ _ _ _ _ _ _ _ _ _ _ _ _ _ _ _ _ _ _ _ _ _ _ _ _ _ _ _ _ _ _ _ _ _ _ _ _ _ _ _ _ _ _ _ _ _ _ _ _ _ _ _ _ _ _ _ _ _ _ _ _ _ _ _ _ _ _ _ _ _ _ _ _ _ _ _ _ _ _ _ _ _ _ _ _ _ _ _ _ _ _ _ _ _ _ _ _ _ _ _ _ _ _ _ _ _ _ _ _ _ _ _ _ _ _ _ _ _ _ _ _ _ _ _ _ _ _ _ _ _ _ _ _ _ _ _ _ _ _ _ _ _ _ _ _ _ _ _ _ _ _ _ _ _ _ _ _ _ _ _ _ _ _ _ _ _ _ _ _ _ _ _ _ _ _ _ _ _ _ _ _ _ _ _ _ _ _ _ _ _ _ _ _ _ _ _ _ _ _ _ _ _ _ _ _ _ _ _ _ _ _ _ _ _ _ _ _ _ _ _ _ _ _ _ _ _ _ _ _ _ _ _ _ _ _ _ _ _ _ _ _ _ _ _ _ _ _ _ _ _ _ _ _ _ _ _ _ _ _ _ _ _ (HPK.out.below (fun _ h => h.elim) (Nat.le_refl _)) KD.out (by have := HKN.out; omega) (by have := HKN.out; omega) TT.out BB.out II.out H7.out.z (HI.out.1.but HPK.out (fun _ _ h => h)) (HF.out.but HPK.out (fun _ _ h => h)) hn3 _ ?_
                assumption
              | true =>
                have RR := H9.out.2.2.1.but HK.out.P (fun h => h.elim (fun h => HGC.out.2.2.2.2.1 h.symm) (fun h => HN6.out.2.2.2.2.2.2.2.2.2.2.2.2 h.symm))
                have l1 := H9.out.1.lt
                have l2 := H9.out.2.1.lt
                have l3 := H9.out.2.2.2.1.lt
                have l4 := TT.out.B.lt
                have hN := HN6.out
                have hG := HGC.out
                refine midB1 w wk nodeID seq oldRoot ov ps ea ia na ec inl.length ic inl.length nc es freed fa (some ⟨w.heap.size, 0, none⟩) fc freed.length tb bb rb mb gc kb.length kb D _ _ _ _ _ _ _ _ _ _ _ _ _ _ _ _ _ _ _ _ _ _ _ _ _ _ _ _ _ _ _ _ _ _ _ _ _ _ _ _ _ _ _ _ _ _ _ _ _ _ _ _ _ _ _ _ _ _ _ _ _ _ _ _ _ _ _ _ _ _ _ _ _ _ _ _ _ _ _ _ _ _ _ _ _ _ _ _ _ _ _ _ _ _ _ _ _ _ _ _ _ _ _ _ _ _ _ _ _ _ _ _ _ _ _ _ _ _ _ _ _ _ _ _ _ _ _ _ _ _ _ _ _ _ _ _ _ _ _ _ _ _ _ _ _ _ _ _ _ _ _ _ _ _ _ _ _ _ _ _ _ _ _ _ _ _ _ _ _ _ _ _ _ _ _ _ _ _ _ _ _ _ _ _ _ _ _ _ _ _ _ _ _ _ _ _ _ _ _ _ _ _ _ _ _ _ _ _ _ _ _ _ _ _ _ _ _ _ _ _ _ _ _ _ _ _ _ _ _ _ _ _ _ _ _ _ _ _ _ _ _ _ _ _ _ _ _ _ _ _ _ _ _ _ _ _ _ _ _ _ _ _ _ _ _ _ _ _ _ _ _ _ _ _ _ _ _ _ _ _ _ _ _ _ _ _ _ _ _ _ _ _ _ _ _ _ _ _ _ _ _ _ _ _ _ _ _ _ _ _ _ _ _ _ _ _ _ _ _ _ _ _ _ _ _ _ _ _ _ _ _ _ _ _ _ _ _ _ _ _ _ _ _ _ _ _ _ _ _ _ _ _ _ _ _ _ _ _ _ _ _ _ _ _ _ _ _ _ _ _ _ _ _ _ _ _ _ _ _ _ _ _ _ _ _ _ _ _ _ _ _ _ _ _ _ _ _ _ _ _ _ _ _ _ _ _ _ _ _ _ _ _ _ _ _ _ _ _ _ _ _ _ _ _ _ _ _ _ _ _ _ _ _ _ _ _ _ _ _ _ _ _ _ _ _ _ _ _ _ _ _ _ _ _ _ _ _ _ _ _ _ _ _ _ _ _ _ _ _ _ _ (HPK.out.below (fun _ h => h.elim) (Nat.le_refl _)) KD.out (by have := HKN.out; omega) (by have := HKN.out; omega) TT.out BB.out RR hN.2.1 hN.1 ?_ ?_ ?_ HE.out.1 HF.out hn3 hn1 (by have := HP.out; omega) (by have := HP.out; omega) hps2 HE.out.2.1 (fun e he => (HE.out.2.2 e he).2.2) h1 hov2 _ ?_
                · intro ad e
                  cases e
                  exact ⟨fun h => hN.2.2.2.2.2.1 h.symm, by show w.heap.size < wk.heap.size; omega⟩
                · intro k hk
                  have hk' : k ≠ bb ∧ k ≠ tb ∧ w.heap.size ≠ k := by
                    rcases hk with rfl | rfl | ⟨p, hp, h⟩
                    · refine ⟨by omega, by omega, by omega⟩
                    · refine ⟨by omega, by omega, by omega⟩
                    · obtain ⟨i, hi, rfl⟩ := List.getElem_of_mem hp
                      have k3 := (HK.out.K i hi).2.2
                      rcases h with rfl | rfl
                      · refine ⟨by omega, by omega, by omega⟩
                      · refine ⟨by omega, by omega, by omega⟩
                  exact ⟨hk'.1, hk'.2.1, fun ad e => by cases e; exact hk'.2.2⟩
                · exact ⟨by omega, by omega, fun ad e => by cases e; exact Nat.le_refl _⟩
                · assumption

end Go.Proofs.YbulkeekaGreatFmt
