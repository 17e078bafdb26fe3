/-
  THE WALK of (*Bucket).spill at a bucket with a leaf as its root node, which is to be stored inline.
-/
import Derived.Test.YbulkeekaGreatFmtSpill
namespace Go.Proofs.YbulkeekaGreatFmt
open Go.RowKit Go.Maps Go.Sort
set_option linter.unusedSimpArgs false
set_option linter.unusedVariables false

/-- what spill leaves -/
structure Spilt (w w' : World) (bb tb seq mb nb ps rb : Nat) (fv : Value) (xs ys : List Nat) (img : List Nat) : Prop where
  T : ∃ fv', TxF w' tb ps rb fv' (xs ++ ys) ∧ Fresh w fv fv'
  B : ∃ g, Blk w' bb (bktC tb 0 seq (.slice (some ⟨g, 0, none⟩) img.length img.length) (.pointer (some ⟨nb, 0, none⟩)) mb) 54 ∧ Blk w' g (u8s img) 5 ∧ w.heap.size ≤ g
  P : But (fun k => k = bb ∨ k = tb ∨ fv.ownBlock = some k) w w'

theorem encFrom_length : ∀ (es : List El) (i : Nat) (L : List Nat) (d : Nat), 16 + 16 * (i + es.length) ≤ d → d + datas es ≤ L.length → (encFrom i es L d).length = L.length
  | [], i, L, d, _, _ => rfl
  | e :: es, i, L, d, h1, h2 => by
    have h3 : datas (e :: es) = (e.2.1.length + e.2.2.length) + datas es := by unfold datas; rw [List.map_cons, List.sum_cons]
    rw [h3] at h2
    simp only [List.length_cons] at h1
    have hs : (encStep L i d e).length = L.length := by
      unfold encStep
      exact put_len2 (put_len2 (put_len2 (put_len2 (put_len2 (put_len2 rfl (by rw [le_length]; omega)) (by rw [le_length]; omega)) (by rw [le_length]; omega)) (by rw [le_length]; omega)) (by omega)) (by omega)
    rw [encFrom, encFrom_length es (i + 1) _ _ (by omega) (by rw [hs]; omega), hs]

theorem imgOf_length (els : List El) : (imgOf els).length = 16 + 16 * els.length + datas els := by
  unfold imgOf
  have hh : (hdr (List.replicate (16 + 16 * els.length + datas els) 0) 0 2 (els.length % 65536) 0).length = 16 + 16 * els.length + datas els := by
    unfold hdr
    exact put_len2 (put_len2 (put_len2 (put_len2 (by simp) (by rw [le_length]; omega)) (by rw [le_length]; omega)) (by rw [le_length]; omega)) (by rw [le_length]; omega)
  rw [encFrom_length els 0 _ _ (by omega) (by rw [hh]; omega), hh]

set_option maxRecDepth 100000 in
set_option maxHeartbeats 4000000 in
theorem spill_root (bb tb root seq mb nn : Nat) (inl : Value) {ps rb nb id ov gi : Nat} {fv : Value} {xs : List Nat} {es : List Ino} (D : DataW Unit) (R : Value → Option (DataW Unit × List MemPlace)) (w : World) (h : Blk w bb (bktC tb root seq inl (.pointer (some ⟨nb, 0, none⟩)) mb) 54) (hown : w.ownsMap Ybaz.prog 9 R mb nn D) (hD : Maps.size D ≤ 70000) (hss : (strKeys D).length ≤ 70000)
    (hk : ∀ w', Below w.heap.size w w' → ∀ s ∈ strKeys D, ∃ v, (Instr.lookup 52 (.map (some mb)) (encStr s) false).run Ybaz.prog w' = .ok v w' ∧ Kid w tb v)
    (hN : Nod w nb id ov gi es) (hX : TxF w tb ps rb fv xs) {Lr : List Value} {tr : TypeId} (hr : Blk w rb Lr tr) (hrb : rb ≠ bb) (hbt : bb ≠ tb) (hfb : fv.ownBlock ≠ some bb) (hid : id < 18446744073709551616) (hov : ov < 8) (hxl : xs.length ≤ 2000000)
    (hn : es.length ≤ 65536) (hsz : sizes es ≤ 3000000) (hps : 4 * (16 + sizes es) ≤ ps) (hps2 : ps < 4294967296) (hfl : ∀ e ∈ es, e.fl < 4294967296 ∧ e.fl &&& 1 = 0)
    (hS : ∀ k, (k = bb ∨ k = tb ∨ fv.ownBlock = some k) → k ≠ nb ∧ k ≠ gi ∧ ∀ e ∈ es, (∀ ad, e.ka = some ad → ad.block ≠ k) ∧ (∀ ad, e.va = some ad → ad.block ≠ k)) (hlt9 : ∀ e ∈ es, (∀ ad, e.ka = some ad → ad.block < w.heap.size) ∧ (∀ ad, e.va = some ad → ad.block < w.heap.size)) :
    Calls Ybaz.prog 6 #[.pointer (some ⟨bb, 0, none⟩)] w fun e w' => e = .returned .nilIface ∧ Spilt w w' bb tb seq mb nb ps rb fv xs (if id = 0 then [] else frs id (ov + 1)) (imgOf (es.map Ino.el)) := by
  obtain ⟨ys, hys⟩ : ∃ ys : List Nat, ys = if id = 0 then [] else frs id (ov + 1) := ⟨_, rfl⟩
  rw [← hys]
  have HYS := hide hys
  clear hys
  have HZ := hide (And.intro hN (And.intro hX (And.intro hr (And.intro hfl (And.intro hS hlt9)))))
  clear hN hX hr hfl hS hlt9
  have c6 := h.cell (j := 6) rfl
  have HH := hide (And.intro h (And.intro hown hk))
  clear h hown hk
  go_enter Ybaz.func6, Ybaz.ntmps6
  go_wp2_with fail
  refine (keysC _ w).mono ?_
  rintro e w1 ⟨rfl, rfl⟩
  go_wp2_with fail
  refine (sortedC mb nn D R w HH.out.2.1 hD).mono ?_
  rintro e w2 ⟨v, ss, rfl, hS, hrow, hnil, hb⟩
  have L2 : Below w.heap.size w w2 := ((Below.refl w.heap.size w).alloc (Nat.le_refl _) (.cells #[.map (some mb)] 52)).trans (hb.mono (by simp))
  obtain ⟨a, c, rfl, y1, y2, hr, y3, y4⟩ := owns_form hrow
  clear y1 y2 y3 y4
  have hlen : ss.length ≤ 70000 := by rw [hS.length_eq]; exact hss
  have HS : Hid (∀ s ∈ ss.mergeSort (fun x y => decide (x ≤ y)), s ∈ strKeys D) := fun s hs => hS.mem_iff.1 ((List.mergeSort_perm ss _).mem_iff.1 hs)
  have H2 := hide (And.intro L2 hr)
  clear hS hrow hnil hb L2 hr
  obtain ⟨zs, hzs⟩ : ∃ zs, zs = ss.mergeSort (fun x y => decide (x ≤ y)) := ⟨_, rfl⟩
  have hzl : zs.length = ss.length := by rw [hzs, List.length_mergeSort]
  rw [← hzs] at HS H2
  rw [← hzl] at hlen ⊢
  clear hzs hzl
  go_wp2_with fail
  go_loopw [19] (fun iv wr => ∃ i : Nat, i ≤ zs.length ∧ iv = .int .i64 (i : Int) ∧ Hid (Below w2.heap.size w2 wr)) (fun iv _ => zs.length - (intOf iv).toNat)
  case atStart => exact ⟨0, Nat.zero_le _, rfl, Below.refl _ _⟩
  case round =>
    obtain ⟨i, hi, rfl, HW⟩ := hrel
    clear c6
    have LW : Below w.heap.size w wr := H2.out.1.trans (HW.out.mono H2.out.1.size)
    have hB := HH.out.1.below LW HH.out.1.lt
    have c5 := hB.cell (j := 5) rfl
    have c6 := hB.cell (j := 6) rfl
    clear hB
    by_cases hlt : i < zs.length
    · obtain ⟨ad, rfl, cS⟩ := (H2.out.2.below HW.out (Nat.le_refl _)) i (encStr zs[i]) (by simp [List.getElem?_eq_getElem hlt])
      obtain ⟨v, hrun, hK⟩ := HH.out.2.2 wr LW zs[i] (HS.out _ (List.getElem_mem hlt))
      obtain ⟨cb, cr, cs, cm, rfl, k1, k2⟩ := hK.below LW (Nat.le_refl _)
      have HKK := hide (And.intro k1 (And.intro k2 LW))
      clear k1 k2 hK LW
      have hst : ∃ sx, encStr zs[i] = .string sx := ⟨_, rfl⟩
      obtain ⟨sx, hsx⟩ := hst
      rw [hsx] at cS hrun
      clear hsx
      go_wp2_with fail
      refine (spill_child cb tb cr cs cm _ wr HKK.out.1 HKK.out.2.1).mono ?_
      rintro e w5 ⟨rfl, L5⟩
      have H5 : Hid (Blk w5 cb (bktC tb cr cs (.slice none 0 0) (.pointer none) cm) 54 ∧ Below w2.heap.size w2 w5) := ⟨HKK.out.1.below L5 HKK.out.1.lt, HW.out.trans (L5.mono HW.out.size)⟩
      clear L5
      go_wp2_with fail
      refine (changed_no cb tb cr cs cm _ w5 H5.out.1).mono ?_
      rintro e w6 ⟨rfl, hw6⟩
      have hw6' := hw6.symm
      clear hw6
      subst hw6'
      go_wp2_with fail
      go_roundw
      case rel => exact ⟨i + 1, by omega, by go_num, H5.out.2⟩
      case measure => simp [intOf]; omega
    · have hB3 := HH.out.1.below LW HH.out.1.lt
      have N3 := HZ.out.1.below LW
      have T3 := HZ.out.2.1.B.below LW HZ.out.2.1.B.lt
      have R3 := HZ.out.2.2.1.below LW HZ.out.2.2.1.lt
      have H3 := hide (And.intro LW (And.intro hB3 (And.intro N3 (And.intro T3 R3))))
      clear LW hB3 N3 T3 R3
      go_wp2_with fail
      refine (rebalance_leaf bb tb root seq mb inl H3.out.2.1 H3.out.2.2.1).mono ?_
      rintro e wx ⟨rfl, hwx⟩
      have hwx' := hwx.symm
      clear hwx
      subst hwx'
      go_wp2_with fail
      refine (inlinable_yes bb tb root seq mb ps rb inl fv H3.out.2.1 H3.out.2.2.2.1 H3.out.2.2.2.2 H3.out.2.2.1 hrb hn hsz hps hps2 HZ.out.2.2.2.1).mono ?_
      rintro e w7 ⟨rfl, L7⟩
      have L07 : Below w.heap.size w w7 := H3.out.1.trans (L7.mono H3.out.1.size)
      have B7 := HH.out.1.below L07 HH.out.1.lt
      have N7 := HZ.out.1.below L07
      have T7 : TxF w7 tb ps rb fv xs := ⟨HZ.out.2.1.B.below L07 HZ.out.2.1.B.lt, owns_but HZ.out.2.1.o (But.of_below' (S := fun _ => False) L07) (fun _ _ h => h), HZ.out.2.1.n⟩
      have d1 := B7.cell (j := 1) rfl
      have H7 := hide (And.intro L07 (And.intro B7 (And.intro N7 T7)))
      clear L7 L07 B7 N7 T7 c5 c6
      go_wp2_with fail
      clear d1
      refine (freeNode_any H7.out.2.2.2 H7.out.2.2.1 hid hov hxl (fun h => (HZ.out.2.2.2.2.1 tb (Or.inr (Or.inl rfl))).1 h.symm) (fun h => (HZ.out.2.2.2.2.1 nb (Or.inr (Or.inr h))).1 rfl)).mono ?_
      rintro e w8 ⟨rfl, fv8, T8, P8, F8⟩
      rw [← HYS.out] at T8
      have B8 := H7.out.2.1.but P8 (fun h => h.elim hbt hfb)
      have N8 := H7.out.2.2.1.but P8 (fun h => h.elim (fun h => (HZ.out.2.2.2.2.1 tb (Or.inr (Or.inl rfl))).1 h.symm) (fun h => (HZ.out.2.2.2.2.1 nb (Or.inr (Or.inr h))).1 rfl)) (fun h => h.elim (fun h => (HZ.out.2.2.2.2.1 tb (Or.inr (Or.inl rfl))).2.1 h.symm) (fun h => (HZ.out.2.2.2.2.1 gi (Or.inr (Or.inr h))).2.1 rfl))
        (fun e he => ⟨fun ad ha h => h.elim (fun h => ((HZ.out.2.2.2.2.1 tb (Or.inr (Or.inl rfl))).2.2 e he).1 ad ha h) (fun h => ((HZ.out.2.2.2.2.1 _ (Or.inr (Or.inr h))).2.2 e he).1 ad ha rfl), fun ad ha h => h.elim (fun h => ((HZ.out.2.2.2.2.1 tb (Or.inr (Or.inl rfl))).2.2 e he).2 ad ha h) (fun h => ((HZ.out.2.2.2.2.1 _ (Or.inr (Or.inr h))).2.2 e he).2 ad ha rfl)⟩)
      have c2 := B8.cell (j := 2) rfl
      have f2 := B8.frozen 2
      have H8 := hide (And.intro B8 (And.intro N8 (And.intro T8 (And.intro P8 F8))))
      clear B8 N8 T8 P8 F8
      go_wp2_with fail
      clear c2 f2
      have P9 : But (fun k => k = bb) w8 (w8.setCell ⟨bb, 2, none⟩ (.int .u64 0)) := (But.refl (fun k => k = bb) w8).setCell (p := ⟨bb, 2, none⟩) (Or.inr rfl) _
      have B9 : Blk (w8.setCell ⟨bb, 2, none⟩ (.int .u64 0)) bb (bktC tb 0 seq inl (.pointer (some ⟨nb, 0, none⟩)) mb) 54 := H8.out.1.set 2 (.int .u64 0)
      have N9 := H8.out.2.1.but P9 (fun h => (HZ.out.2.2.2.2.1 bb (Or.inl rfl)).1 h.symm) (fun h => (HZ.out.2.2.2.2.1 bb (Or.inl rfl)).2.1 h.symm) (fun e he => ⟨fun ad ha h => ((HZ.out.2.2.2.2.1 bb (Or.inl rfl)).2.2 e he).1 ad ha h, fun ad ha h => ((HZ.out.2.2.2.2.1 bb (Or.inl rfl)).2.2 e he).2 ad ha h⟩)
      have hfv8 : ∀ k, fv8.ownBlock = some k → k ≠ bb := by
        intro k hk
        rcases H8.out.2.2.2.2 with h | ⟨g, h1, h2⟩
        · intro hkb; rw [hkb] at hk; exact hfb (h ▸ hk)
        · rw [h1] at hk; cases hk
          have := H7.out.2.1.lt
          omega
      have T9 : TxF (w8.setCell ⟨bb, 2, none⟩ (.int .u64 0)) tb ps rb fv8 (xs ++ ys) := ⟨H8.out.2.2.1.B.but P9 (fun h => hbt h.symm), owns_but H8.out.2.2.1.o P9 (fun k hk => hfv8 k hk), H8.out.2.2.1.n⟩
      have hsz9 : w.heap.size ≤ (w8.setCell ⟨bb, 2, none⟩ (.int .u64 0)).heap.size := Nat.le_trans H7.out.1.size (Nat.le_trans H8.out.2.2.2.1.size P9.size)
      have H9 := hide (And.intro P9 (And.intro B9 (And.intro N9 (And.intro T9 (And.intro hfv8 hsz9)))))
      clear P9 B9 N9 T9 hfv8 hsz9
      generalize hw9 : w8.setCell ⟨bb, 2, none⟩ (.int .u64 0) = w9 at *
      refine (image_any H9.out.2.2.1 hn hsz (fun e he => (HZ.out.2.2.2.1 e he).1) (fun e he => ⟨fun ad ha => Nat.lt_of_lt_of_le ((HZ.out.2.2.2.2.2 e he).1 ad ha) H9.out.2.2.2.2.2, fun ad ha => Nat.lt_of_lt_of_le ((HZ.out.2.2.2.2.2 e he).2 ad ha) H9.out.2.2.2.2.2⟩)).mono ?_
      rintro e w10 ⟨g, rfl, hg, I10, L10⟩
      obtain ⟨T, hT⟩ : ∃ T : Nat, T = 16 + sizes es := ⟨_, rfl⟩
      rw [← hT]
      have hTi : (imgOf (es.map Ino.el)).length = T := by
        have h1 := imgOf_length (es.map Ino.el)
        have h2 := sizes_datas es
        rw [List.length_map] at h1
        omega
      have B10 := H9.out.2.1.below L10 H9.out.2.1.lt
      have c4 := B10.cell (j := 4) rfl
      have f4 := B10.frozen 4
      have HF : Hid (Spilt w (w10.setCell ⟨bb, 4, none⟩ (.slice (some ⟨g, 0, none⟩) T T)) bb tb seq mb nb ps rb fv xs ys (imgOf (es.map Ino.el))) := by
        have P11 : But (fun k => k = bb) w10 (w10.setCell ⟨bb, 4, none⟩ (.slice (some ⟨g, 0, none⟩) T T)) := (But.refl (fun k => k = bb) w10).setCell (p := ⟨bb, 4, none⟩) (Or.inr rfl) _
        have PB : But (fun _ => False) w9 w10 := But.of_below' L10
        have hbb := HH.out.1.lt
        refine ⟨⟨fv8, ⟨(H9.out.2.2.2.1.B.below L10 H9.out.2.2.2.1.B.lt).but P11 (fun h => hbt h.symm), owns_but (owns_but H9.out.2.2.2.1.o PB (fun _ _ h => h)) P11 (fun k hk => H9.out.2.2.2.2.1 k hk), H9.out.2.2.2.1.n⟩, ?_⟩, ⟨g, ?_, I10.but P11 (fun h => by have := H9.out.2.2.2.2.2; omega), Nat.le_trans H9.out.2.2.2.2.2 hg⟩, ?_⟩
        · rcases H8.out.2.2.2.2 with h | ⟨g', h1, h2⟩
          · exact Or.inl h
          · exact Or.inr ⟨g', h1, Nat.le_trans H7.out.1.size h2⟩
        · rw [hTi]
          exact B10.set 4 (.slice (some ⟨g, 0, none⟩) T T)
        · refine ((((But.of_below' (S := fun k => k = bb ∨ k = tb ∨ fv.ownBlock = some k) H7.out.1).trans2 H8.out.2.2.2.1 (fun i _ h => Or.inr h)).trans2 H9.out.1 (fun i _ h => Or.inl h)).trans2 PB (fun _ _ h => h.elim)).trans2 P11 (fun i _ h => Or.inl h)
      have HT := hide hT
      clear hT hTi I10 L10 B10 hg
      go_wp2_with fail
      go_ret
      exact ⟨rfl, HF.out⟩

end Go.Proofs.YbulkeekaGreatFmt
