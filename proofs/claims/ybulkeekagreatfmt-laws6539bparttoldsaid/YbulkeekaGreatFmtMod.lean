/-
  THE WALKS of zzs6539bput32, zzs6539bimage: the law's own image.
-/
import Derived.Test.YbulkeekaGreatFmtImg
import Derived.Laws.BitsAllLaws
namespace Go.Proofs.YbulkeekaGreatFmt
open Go.RowKit
set_option linter.unusedSimpArgs false
set_option linter.unusedVariables false

theorem le4 (v : Nat) : le 4 v = [v % 256, v / 256 % 256, v / 65536 % 256, v / 16777216 % 256] := by
  simp [le, Lib.leBytes, Nat.toUInt8, UInt8.toNat_ofNat', Nat.div_div_eq_div_mul]

set_option maxHeartbeats 1000000 in
theorem mput_any {w : World} {g : Nat} {L : List Nat} (h : Blk w g (u8s L) 5) (o v : Nat) (hv : v < 4294967296) (ho : o + 4 ≤ L.length) (hL : L.length ≤ 4000000) :
    Calls Ybaz.prog 19 #[.slice (some ⟨g, 0, none⟩) L.length L.length, .int .i64 o, .int .u32 v] w fun e w' => e = .returned (.tuple #[]) ∧ Blk w' g (u8s (put L o (le 4 v))) 5 ∧ But (fun k => k = g) w w' := by
  have c0 := row_cell h o (by omega)
  have c1 := row_cell h (o + 1) (by omega)
  have c2 := row_cell h (o + 2) (by omega)
  have c3 := row_cell h (o + 3) (by omega)
  have f0 := h.frozen o
  have f1 := h.frozen (o + 1)
  have f2 := h.frozen (o + 2)
  have f3 := h.frozen (o + 3)
  have HH := hide h
  clear h
  go_enter Ybaz.func19, Ybaz.ntmps19
  go_wp2_with fail
  go_end0
  have e0 : (v : Int) % 256 = ((v % 256 : Nat) : Int) := by omega
  have e1 : (v : Int) / 256 % 256 = ((v / 256 % 256 : Nat) : Int) := by omega
  have e2 : (v : Int) / 65536 % 256 = ((v / 65536 % 256 : Nat) : Int) := by omega
  have e3 : (v : Int) / 16777216 = ((v / 16777216 % 256 : Nat) : Int) := by omega
  rw [e0, e1, e2, e3]
  have hs : (u8s (le 4 v)) = [.int .u8 ((v % 256 : Nat) : Int), .int .u8 ((v / 256 % 256 : Nat) : Int), .int .u8 ((v / 65536 % 256 : Nat) : Int), .int .u8 ((v / 16777216 % 256 : Nat) : Int)] := by rw [le4]; rfl
  have hb := Blk.setCells (le 4 v) o w L HH.out (by rw [le_length]; omega)
  have hp := But.setCells (S := fun k => k = g) (a := w) (g := g) (Or.inr rfl) (u8s (le 4 v)) o w (But.refl _ w)
  rw [hs] at hb hp
  exact ⟨rfl, hb, hp⟩

theorem mput_T {w : World} {g : Nat} {L : List Nat} (h : Blk w g (u8s L) 5) (T o v : Nat) (hT : L.length = T) (hv : v < 4294967296) (ho : o + 4 ≤ T) (hL : T ≤ 4000000) :
    Calls Ybaz.prog 19 #[.slice (some ⟨g, 0, none⟩) T T, .int .i64 o, .int .u32 v] w fun e w' => e = .returned (.tuple #[]) ∧ Blk w' g (u8s (put L o (le 4 v))) 5 ∧ But (fun k => k = g) w w' := by
  subst hT
  exact mput_any h o v hv ho hL

theorem put_snoc : ∀ (bs : List Nat) (L : List Nat) (o b : Nat), o + bs.length < L.length → put L o (bs ++ [b]) = (put L o bs).set (o + bs.length) b
  | [], L, o, b, h => by
    simp at h
    rw [List.nil_append, put_cons L o b [] h, put_nil, put_nil, List.length_nil, Nat.add_zero]
  | c :: bs, L, o, b, h => by
    simp at h
    rw [List.cons_append, put_cons L o c (bs ++ [b]) (by omega), put_cons L o c bs (by omega), put_snoc bs (L.set o c) (o + 1) b (by simp; omega), List.length_cons, show o + 1 + bs.length = o + (bs.length + 1) by omega]

theorem put_take (L : List Nat) (o : Nat) (bs : List Nat) (k : Nat) (hk : k < bs.length) (h : o + bs.length ≤ L.length) : put L o (bs.take (k + 1)) = (put L o (bs.take k)).set (o + k) bs[k] := by
  have hl : (bs.take k).length = k := by simp; omega
  rw [List.take_add_one, List.getElem?_eq_getElem hk, Option.toList_some, put_snoc _ _ _ _ (by omega), hl]

theorem hdr_zero (T ct : Nat) (hT : 16 ≤ T) : hdr (List.replicate T 0) 0 2 ct 0 = (((List.replicate T 0).set 8 2).set 10 (ct % 256)).set 11 (ct / 256 % 256) := by
  obtain ⟨m, rfl⟩ : ∃ m, T = 16 + m := ⟨T - 16, by omega⟩
  rw [← List.replicate_append_replicate]
  have h8 : le 8 0 = [0, 0, 0, 0, 0, 0, 0, 0] := by decide
  have h4 : le 4 0 = [0, 0, 0, 0] := by decide
  have h2 : le 2 2 = [2, 0] := by decide
  have hc : le 2 ct = [ct % 256, ct / 256 % 256] := by simp [le, Lib.leBytes, Nat.toUInt8, UInt8.toNat_ofNat']
  have h16 : List.replicate 16 0 = [0, 0, 0, 0, 0, 0, 0, 0, 0, 0, 0, 0, 0, 0, 0, 0] := rfl
  unfold hdr
  rw [h8, h4, h2, hc, h16]
  simp [put]

/-- the flags without their lowest bit -/
def mask (f : Nat) : Nat := f &&& 4294967294
theorem mask_lt (f : Nat) : mask f < 4294967296 := Nat.lt_of_le_of_lt Nat.and_le_right (by decide)
theorem mask_bits (a : Nat) (ha : a < 4294967296) : bits .andNot .u32 (a : Int) 1 = ((mask a : Nat) : Int) := u32_andNot_nat a 1 ha (by decide)
def Ino.mel (e : Ino) : El := (mask e.fl, e.key, e.val)

/-- the law's own elements, as they came in: three cells each -/
structure Elms (w : World) (ea : Option Addr) (es : List Ino) : Prop where
  c : ∀ i (hi : i < es.length), ∃ a, ea = some a ∧ w.cell? (a.add (i * 3)) = some (.int .u32 es[i].fl) ∧ w.cell? ((a.add (i * 3)).add 1) = some (.slice es[i].ka es[i].key.length es[i].kc) ∧ w.cell? ((a.add (i * 3)).add 2) = some (.slice es[i].va es[i].val.length es[i].vc)
  R : ∀ e ∈ es, Rd w e.ka (u8s e.key) ∧ Rd w e.va (u8s e.val)

theorem Elms.below {w w' : World} {B : Nat} {ea : Option Addr} {es : List Ino} (h : Elms w ea es) (P : Below B w w') (hB : w.heap.size ≤ B) : Elms w' ea es := by
  refine ⟨fun i hi => ?_, fun e he => ⟨(h.R e he).1.below P hB, (h.R e he).2.below P hB⟩⟩
  obtain ⟨a, e1, h1, h2, h3⟩ := h.c i hi
  exact ⟨a, e1, (P.cell (Nat.lt_of_lt_of_le (World.block_lt_of_cell? w _ h1) hB)).trans h1, (P.cell (Nat.lt_of_lt_of_le (World.block_lt_of_cell? w _ h2) hB)).trans h2, (P.cell (Nat.lt_of_lt_of_le (World.block_lt_of_cell? w _ h3) hB)).trans h3⟩

theorem datas_take (es : List El) (i : Nat) (hi : i < es.length) : datas (es.take (i + 1)) = datas (es.take i) + (es[i].2.1.length + es[i].2.2.length) ∧ datas (es.take (i + 1)) ≤ datas es := by
  have h1 : datas (es.take (i + 1)) = datas (es.take i) + (es[i].2.1.length + es[i].2.2.length) := by
    unfold datas
    rw [List.take_add_one, List.getElem?_eq_getElem hi, Option.toList_some, List.map_append, List.sum_append, List.map_singleton, List.sum_singleton]
  refine ⟨h1, ?_⟩
  unfold datas
  have : es = es.take (i + 1) ++ es.drop (i + 1) := (List.take_append_drop _ _).symm
  conv => rhs; rw [this]
  rw [List.map_append, List.sum_append]
  omega

set_option maxRecDepth 100000 in
set_option maxHeartbeats 8000000 in
theorem mimg_any {w : World} {ea : Option Addr} {ec : Nat} {es : List Ino} (h : Elms w ea es) (hn : es.length ≤ 65536) (hfl : ∀ e ∈ es, e.fl < 4294967296) (hT : 16 + 16 * es.length + datas (es.map Ino.mel) ≤ 4000000) :
    Calls Ybaz.prog 8 #[.slice ea es.length ec] w fun e w' => ∃ g, e = .returned (.slice (some ⟨g, 0, none⟩) (16 + 16 * es.length + datas (es.map Ino.mel)) (16 + 16 * es.length + datas (es.map Ino.mel))) ∧ w.heap.size ≤ g ∧ Blk w' g (u8s (imgOf (es.map Ino.mel))) 5 ∧ Below w.heap.size w w' := by
  obtain ⟨t5, i5, z5, s5, b5⟩ := info_parts info5
  have HH := hide (And.intro h hfl)
  clear h hfl
  obtain ⟨T, hTT⟩ : ∃ T : Nat, T = 16 + 16 * es.length + datas (es.map Ino.mel) := ⟨_, rfl⟩
  rw [← hTT] at hT ⊢
  have HT := hide hTT
  have hT16 : 16 + 16 * es.length ≤ T := by omega
  clear hTT
  go_enter Ybaz.func8, Ybaz.ntmps8
  go_wp2_with fail
  go_loopw [4, 20] (fun tv iv wr => ∃ (i q : Nat), i ≤ es.length ∧ tv = .int .i64 ((16 + 16 * es.length + datas ((es.map Ino.mel).take i) : Nat) : Int) ∧ iv = .int .i64 (i : Int) ∧ wr = w.drewN q) (fun _ iv _ => es.length - (intOf iv).toNat)
  case atStart => exact ⟨0, 0, Nat.zero_le _, by congr 1, rfl, rfl⟩
  case round =>
    obtain ⟨i, q, hi, rfl, rfl, rfl⟩ := hrel
    by_cases hlt : i < es.length
    · obtain ⟨a, e1, h1, h2, h3⟩ := HH.out.1.c i hlt
      subst e1
      have k1 : w.cell? { block := (a.add (i * 3)).block, off := (a.add (i * 3)).off + 1 } = some (.slice es[i].ka es[i].key.length es[i].kc) := h2
      have k2 : w.cell? { block := (a.add (i * 3)).block, off := (a.add (i * 3)).off + 2 } = some (.slice es[i].va es[i].val.length es[i].vc) := h3
      clear h2 h3
      obtain ⟨z1, z2⟩ := datas_take (es.map Ino.mel) i (by simpa using hlt)
      have z3 : (es.map Ino.mel)[i]'(by simpa using hlt) = es[i].mel := by simp
      rw [z3] at z1
      have z4 : datas ((es.map Ino.mel).take (i + 1)) = datas ((es.map Ino.mel).take i) + (es[i].key.length + es[i].val.length) := z1
      have HZ := hide z4
      have z5 := HT.out
      have b1 : datas ((es.map Ino.mel).take i) ≤ 4000000 := by omega
      have b2 : es[i].key.length ≤ 4000000 := by omega
      have b3 : es[i].val.length ≤ 4000000 := by omega
      clear z1 z2 z3 z4 z5
      go_wp2_with fail
      go_quiet (fail)
      go_wp2_with fail
      go_roundw
      case rel => exact ⟨i + 1, _, by omega, congrArg (Value.int .i64) (by have := HZ.out; omega), by go_num, rfl⟩
      case measure => simp [intOf]; omega
    · have HTi : Hid (((16 + 16 * es.length + datas ((es.map Ino.mel).take i) : Nat) : Int) = (T : Int)) := by
        show _ = _
        rw [List.take_of_length_le (by simp; omega), HT.out]
      rw [HTi.out]
      clear HTi
      go_wp2_with (at_make; refine wpList_make_full _ rfl (.tmp 39) (.tmp 39) 26 rfl w.heap.size 5 t5 (.int .u8 0) 1 Ybaz.underlying26 i5 z5 s5 _ _ _ _ T rfl rfl rfl rfl (by rw [b5]; omega) (by unfold maxLen; omega) (Nat.le_refl _) ?_)
      intro w2 hown2 hgrow2
      have B2 : Blk w2 w.heap.size (u8s (List.replicate T 0)) 5 := by simpa [toList_madeCells_one] using blk_of_made hown2 rfl
      have L2 : Below w.heap.size w w2 := (belowDN (Below.refl w.heap.size w) q).trans ((But.of_grown (S := fun _ => False) hgrow2 (fun _ h => by cases h)).below (fun _ h => h.elim) (Nat.le_refl _))
      obtain ⟨g, hg⟩ : ∃ g, g = w.heap.size := ⟨_, rfl⟩
      rw [← hg] at B2 ⊢
      have zc : ∀ j, j < T → w2.cell? ⟨g, j, none⟩ = some (.int .u8 0) := fun j hj => B2.cell (by
        rw [List.getElem?_map, List.getElem?_replicate, if_pos hj]
        rfl)
      have c8 := zc 8 (by omega)
      have c10 := zc 10 (by omega)
      have c11 := zc 11 (by omega)
      clear zc
      obtain ⟨ct, hct⟩ : ∃ ct : Nat, ct = es.length % 65536 := ⟨_, rfl⟩
      have f8 := B2.frozen 8
      have f10 := B2.frozen 10
      have f11 := B2.frozen 11
      have H2 := hide (And.intro B2 L2)
      have b8 : (8 : Int) < (T : Int) := by omega
      have b10 : (10 : Int) < (T : Int) := by omega
      have b11 : (11 : Int) < (T : Int) := by omega
      clear hown2 hgrow2 B2 L2
      have HG := hide (And.intro hg hct)
      have H3 : Hid (∀ w3, w3 = ((w2.setCell ⟨g, 8, none⟩ (.int .u8 2)).setCell ⟨g, 10, none⟩ (.int .u8 ((es.length : Int) % 256))).setCell ⟨g, 11, none⟩ (.int .u8 ((es.length : Int) / 256 % 256)) → Blk w3 g (u8s (hdr (List.replicate T 0) 0 2 ct 0)) 5 ∧ Below w.heap.size w w3) := by
        rintro w3 rfl
        refine ⟨?_, ?_⟩
        · have h1 := ((H2.out.1.set 8 (.int .u8 ((2 : Nat) : Int))).set 10 (.int .u8 ((ct % 256 : Nat) : Int))).set 11 (.int .u8 ((ct / 256 % 256 : Nat) : Int))
          rw [← List.map_set, ← List.map_set, ← List.map_set, ← hdr_zero T ct (by omega)] at h1
          rw [show ((ct % 256 : Nat) : Int) = (es.length : Int) % 256 by omega, show ((ct / 256 % 256 : Nat) : Int) = (es.length : Int) / 256 % 256 by omega] at h1
          exact h1
        · have hp : But (fun k => k = g) w2 (((w2.setCell ⟨g, 8, none⟩ (.int .u8 2)).setCell ⟨g, 10, none⟩ (.int .u8 ((es.length : Int) % 256))).setCell ⟨g, 11, none⟩ (.int .u8 ((es.length : Int) / 256 % 256))) := (((But.refl (fun k => k = g) w2).setCell (p := ⟨g, 8, none⟩) (Or.inr rfl) _).setCell (p := ⟨g, 10, none⟩) (Or.inr rfl) _).setCell (p := ⟨g, 11, none⟩) (Or.inr rfl) _
          exact H2.out.2.trans (hp.below (fun k hk => by omega) H2.out.2.size)
      clear hg hct
      go_wp2_with fail
      have H4 := hide (H3.out _ rfl)
      clear H3 H2 c8 c10 c11 f8 f10 f11 b8 b10 b11
      go_loopw [7, 57] (fun dv iv wr => ∃ (i d : Nat) (L2 : List Nat), i ≤ es.length ∧ dv = .int .i64 (d : Int) ∧ iv = .int .i64 (i : Int) ∧ 16 + 16 * es.length ≤ d ∧ Hid (d + datas ((es.drop i).map Ino.mel) = T) ∧ Hid (Blk wr g (u8s L2) 5 ∧ L2.length = T ∧ Below w.heap.size w wr ∧ encFrom i ((es.drop i).map Ino.mel) L2 d = imgOf (es.map Ino.mel))) (fun _ iv _ => es.length - (intOf iv).toNat)
      case atStart =>
        refine ⟨0, 16 + 16 * es.length, _, Nat.zero_le _, by congr 1, rfl, Nat.le_refl _, by rw [List.drop_zero]; exact HT.out.symm, H4.out.1, ?_, H4.out.2, ?_⟩
        · unfold hdr
          exact put_len2 (put_len2 (put_len2 (put_len2 (by simp) (by rw [le_length]; omega)) (by rw [le_length]; omega)) (by rw [le_length]; omega)) (by rw [le_length]; omega)
        · unfold imgOf
          rw [List.drop_zero, List.length_map, ← HT.out, HG.out.2]
      case round =>
        obtain ⟨i2, d, L2, hi2, rfl, rfl, hd, HD, HW⟩ := hrel
        clear H4
        by_cases hlt2 : i2 < es.length
        · have hdrop : es.drop i2 = es[i2] :: es.drop (i2 + 1) := List.drop_eq_getElem_cons hlt2
          obtain ⟨e, he⟩ : ∃ e, e = es[i2] := ⟨_, rfl⟩
          rw [← he] at hdrop
          have hmem : e ∈ es := by rw [he]; exact List.getElem_mem hlt2
          have hD2 := HD.out
          have hW4 := HW.out.2.2.2
          rw [hdrop, List.map_cons] at hD2 hW4
          have hD3 : d + (e.key.length + e.val.length) + datas ((es.drop (i2 + 1)).map Ino.mel) = T := by
            have h9 : datas (e.mel :: (es.drop (i2 + 1)).map Ino.mel) = (e.key.length + e.val.length) + datas ((es.drop (i2 + 1)).map Ino.mel) := by unfold datas; rw [List.map_cons, List.sum_cons]; rfl
            rw [h9] at hD2
            omega
          have hW5 : encFrom (i2 + 1) ((es.drop (i2 + 1)).map Ino.mel) (encStep L2 i2 d e.mel) (d + e.key.length + e.val.length) = imgOf (es.map Ino.mel) := hW4
          have HGG := hide (And.intro hD3 hW5)
          have hdl : d + e.key.length + e.val.length ≤ T := by omega
          clear hD2 hW4 hD3 hW5
          have N := HH.out.1.below HW.out.2.2.1 (Nat.le_refl _)
          obtain ⟨a, e1, h1, h2, h3⟩ := N.c i2 hlt2
          subst e1
          rw [← he] at h1 h2 h3
          have k1 : wr.cell? { block := (a.add (i2 * 3)).block, off := (a.add (i2 * 3)).off + 1 } = some (.slice e.ka e.key.length e.kc) := h2
          have k2 : wr.cell? { block := (a.add (i2 * 3)).block, off := (a.add (i2 * 3)).off + 2 } = some (.slice e.va e.val.length e.vc) := h3
          have hgb := HW.out.1.lt
          have hfl := HH.out.2 e hmem
          have eM := mask_bits e.fl hfl
          have HE1 : Hid (Blk (wr.alloc (.cells #[.int .u32 e.fl, .slice e.ka e.key.length e.kc, .slice e.va e.val.length e.vc] 30)) wr.heap.size [.int .u32 e.fl, .slice e.ka e.key.length e.kc, .slice e.va e.val.length e.vc] 30) := Blk.new wr [.int .u32 e.fl, .slice e.ka e.key.length e.kc, .slice e.va e.val.length e.vc] 30
          have HB1 : Hid (Blk (wr.alloc (.cells #[.int .u32 e.fl, .slice e.ka e.key.length e.kc, .slice e.va e.val.length e.vc] 30)) g (u8s L2) 5) := HW.out.1.alloc _
          have HN1 : Hid (Below w.heap.size w (wr.alloc (.cells #[.int .u32 e.fl, .slice e.ka e.key.length e.kc, .slice e.va e.val.length e.vc] 30))) := HW.out.2.2.1.alloc HW.out.2.2.1.size _
          obtain ⟨o, ho⟩ : ∃ o : Nat, o = 16 + i2 * 16 := ⟨_, rfl⟩
          have r1 : (16 : Int) + 16 * (i2 : Int) = (o : Int) := by omega
          have hod : o + 16 ≤ d := by omega
          have hgw : w.heap.size ≤ g := by rw [HG.out.1]; exact Nat.le_refl _
          have HO := hide ho
          have HRK : Hid (Rd w e.ka (u8s e.key) ∧ Rd w e.va (u8s e.val)) := HH.out.1.R e hmem
          clear ho N h2 h3
          have HEq := hide he
          clear he hdrop
          obtain ⟨x, hx⟩ : ∃ x : Nat, x = d - o := ⟨_, rfl⟩
          obtain ⟨o4, ho4⟩ : ∃ z : Nat, z = o + 4 := ⟨_, rfl⟩
          obtain ⟨o8, ho8⟩ : ∃ z : Nat, z = o + 8 := ⟨_, rfl⟩
          obtain ⟨o12, ho12⟩ : ∃ z : Nat, z = o + 12 := ⟨_, rfl⟩
          have r2 : (d : Int) - (o : Int) = (x : Int) := by omega
          have r3 : (o : Int) + 4 = (o4 : Int) := by omega
          have r4 : (o : Int) + 8 = (o8 : Int) := by omega
          have r5 : (o : Int) + 12 = (o12 : Int) := by omega
          have hx2 : x < 4000000 := by omega
          have t0 : o + 4 ≤ T := by omega
          have t4 : o4 + 4 ≤ T := by omega
          have t8 : o8 + 4 ≤ T := by omega
          have t12 : o12 + 4 ≤ T := by omega
          have HXX := hide (And.intro hx (And.intro ho4 (And.intro ho8 ho12)))
          clear hx ho4 ho8 ho12
          have hkl : e.key.length ≤ 4000000 := by omega
          have hvl : e.val.length ≤ 4000000 := by omega
          have hmk := mask_lt e.fl
          go_wp2_with fail
          generalize hw1 : wr.alloc (.cells #[.int .u32 e.fl, .slice e.ka e.key.length e.kc, .slice e.va e.val.length e.vc] 30) = v1 at *
          generalize hhb : wr.heap.size = hb at *
          have hne : hb ≠ g := by omega
          have HM0 : Hid (L2.length = T) := HW.out.2.1
          have HV1 := HN1
          clear hw1 hhb hgb h1 k1 k2 r1 eM
          refine (mput_T HB1.out T o (mask e.fl) HM0.out (by omega) (by omega) hT).mono ?_
          rintro e' v2 ⟨rfl, B, P⟩
          obtain ⟨M1, hM1⟩ : ∃ M, M = put L2 o (le 4 (mask e.fl)) := ⟨_, rfl⟩
          rw [← hM1] at B
          have HM1 : Hid (M1.length = T ∧ M1 = put L2 o (le 4 (mask e.fl))) := ⟨by rw [hM1]; exact put_len2 HM0.out (by rw [le_length]; omega), hM1⟩
          have HB2 : Hid (Blk v2 g (u8s M1) 5) := B
          have HE2 : Hid (Blk v2 hb [.int .u32 e.fl, .slice e.ka e.key.length e.kc, .slice e.va e.val.length e.vc] 30) := HE1.out.but P hne
          have HV2 : Hid (Below w.heap.size w v2) := HV1.out.trans (P.below (fun k hk => by omega) HV1.out.size)
          clear hM1 B P
          have k0 := HE2.out.cell (j := 0) rfl
          have k1 := HE2.out.cell (j := 1) rfl
          have k2 := HE2.out.cell (j := 2) rfl
          go_wp2_with fail
          clear k0 k1 k2
          refine (mput_T HB2.out T o4 x HM1.out.1 (by omega) (by omega) hT).mono ?_
          rintro e' v3 ⟨rfl, B, P⟩
          obtain ⟨M2, hM2⟩ : ∃ M, M = put M1 o4 (le 4 x) := ⟨_, rfl⟩
          rw [← hM2] at B
          have HM2 : Hid (M2.length = T ∧ M2 = put M1 o4 (le 4 x)) := ⟨by rw [hM2]; exact put_len2 HM1.out.1 (by rw [le_length]; omega), hM2⟩
          have HB3 : Hid (Blk v3 g (u8s M2) 5) := B
          have HE3 : Hid (Blk v3 hb [.int .u32 e.fl, .slice e.ka e.key.length e.kc, .slice e.va e.val.length e.vc] 30) := HE2.out.but P hne
          have HV3 : Hid (Below w.heap.size w v3) := HV2.out.trans (P.below (fun k hk => by omega) HV2.out.size)
          clear hM2 B P
          have k0 := HE3.out.cell (j := 0) rfl
          have k1 := HE3.out.cell (j := 1) rfl
          have k2 := HE3.out.cell (j := 2) rfl
          go_wp2_with fail
          clear k0 k1 k2
          refine (mput_T HB3.out T o8 e.key.length HM2.out.1 (by omega) (by omega) hT).mono ?_
          rintro e' v4 ⟨rfl, B, P⟩
          obtain ⟨M3, hM3⟩ : ∃ M, M = put M2 o8 (le 4 e.key.length) := ⟨_, rfl⟩
          rw [← hM3] at B
          have HM3 : Hid (M3.length = T ∧ M3 = put M2 o8 (le 4 e.key.length)) := ⟨by rw [hM3]; exact put_len2 HM2.out.1 (by rw [le_length]; omega), hM3⟩
          have HB4 : Hid (Blk v4 g (u8s M3) 5) := B
          have HE4 : Hid (Blk v4 hb [.int .u32 e.fl, .slice e.ka e.key.length e.kc, .slice e.va e.val.length e.vc] 30) := HE3.out.but P hne
          have HV4 : Hid (Below w.heap.size w v4) := HV3.out.trans (P.below (fun k hk => by omega) HV3.out.size)
          clear hM3 B P
          have k0 := HE4.out.cell (j := 0) rfl
          have k1 := HE4.out.cell (j := 1) rfl
          have k2 := HE4.out.cell (j := 2) rfl
          go_wp2_with fail
          clear k0 k1 k2
          refine (mput_T HB4.out T o12 e.val.length HM3.out.1 (by omega) (by omega) hT).mono ?_
          rintro e' v5 ⟨rfl, B, P⟩
          obtain ⟨M4, hM4⟩ : ∃ M, M = put M3 o12 (le 4 e.val.length) := ⟨_, rfl⟩
          rw [← hM4] at B
          have HM4 : Hid (M4.length = T ∧ M4 = put M3 o12 (le 4 e.val.length)) := ⟨by rw [hM4]; exact put_len2 HM3.out.1 (by rw [le_length]; omega), hM4⟩
          have HB5 : Hid (Blk v5 g (u8s M4) 5) := B
          have HE5 : Hid (Blk v5 hb [.int .u32 e.fl, .slice e.ka e.key.length e.kc, .slice e.va e.val.length e.vc] 30) := HE4.out.but P hne
          have HV5 : Hid (Below w.heap.size w v5) := HV4.out.trans (P.below (fun k hk => by omega) HV4.out.size)
          clear hM4 B P
          have k0 := HE5.out.cell (j := 0) rfl
          have k1 := HE5.out.cell (j := 1) rfl
          have k2 := HE5.out.cell (j := 2) rfl
          go_wp2_with fail
          clear k0 k1 k2
          go_loopw [7, 11] (fun pv kv wr => ∃ k : Nat, k ≤ e.key.length ∧ pv = .int .i64 ((d + k : Nat) : Int) ∧ kv = .int .i64 (k : Int) ∧ Hid (Blk wr g (u8s (put M4 d (e.key.take k))) 5 ∧ Blk wr hb [.int .u32 e.fl, .slice e.ka e.key.length e.kc, .slice e.va e.val.length e.vc] 30 ∧ Below w.heap.size w wr)) (fun _ kv _ => e.key.length - (intOf kv).toNat)
          case atStart => exact ⟨0, Nat.zero_le _, rfl, rfl, by rw [List.take_zero, put_nil]; exact HB5.out, HE5.out, HV5.out⟩
          case round =>
            obtain ⟨k, hk, rfl, rfl, HI⟩ := hrel
            have j1 := HI.out.2.1.cell (j := 1) rfl
            by_cases hkl2 : k < e.key.length
            · obtain ⟨p, hp⟩ : ∃ p : Nat, p = d + k := ⟨_, rfl⟩
              rw [← hp]
              obtain ⟨ad, e9, cK⟩ := (HRK.out.1.below HI.out.2.2 (Nat.le_refl _)) k (.int .u8 ((e.key[k] : Nat) : Int)) (by simp [List.getElem?_eq_getElem hkl2])
              rw [e9] at j1
              have hpl : p < (put M4 d (e.key.take k)).length := by rw [put_len2 HM4.out.1 (by simp; omega)]; omega
              have c9 := row_cell HI.out.1 p hpl
              have f9 := HI.out.1.frozen p
              have q1 : (p : Int) < (T : Int) := by omega
              have hp2 : p ≤ 4000000 := by omega
              have NW : Hid (Blk (wr.setCell ⟨g, p, none⟩ (.int .u8 ((e.key[k] : Nat) : Int))) g (u8s (put M4 d (e.key.take (k + 1)))) 5 ∧ Blk (wr.setCell ⟨g, p, none⟩ (.int .u8 ((e.key[k] : Nat) : Int))) hb [.int .u32 e.fl, .slice e.ka e.key.length e.kc, .slice e.va e.val.length e.vc] 30 ∧ Below w.heap.size w (wr.setCell ⟨g, p, none⟩ (.int .u8 ((e.key[k] : Nat) : Int)))) := by
                refine ⟨?_, HI.out.2.1.other hne _, HI.out.2.2.trans (((But.refl (fun k => k = g) wr).setCell (p := ⟨g, p, none⟩) (Or.inr rfl) _).below (fun k hk => by omega) HI.out.2.2.size)⟩
                have h8 := HI.out.1.set p (.int .u8 ((e.key[k] : Nat) : Int))
                rw [← List.map_set, hp, ← put_take M4 d e.key k hkl2 (by rw [HM4.out.1]; omega), ← hp] at h8
                exact h8
              have HP := hide hp
              clear hp
              go_wp2_with fail
              go_roundw
              case rel => exact ⟨k + 1, by omega, congrArg (Value.int .i64) (by have := HP.out; omega), by go_num, NW.out⟩
              case measure => simp [intOf]; omega
            · obtain ⟨d5, hd5⟩ : ∃ z : Nat, z = d + e.key.length := ⟨_, rfl⟩
              obtain ⟨M5, hM5⟩ : ∃ M, M = put M4 d e.key := ⟨_, rfl⟩
              have HB6 : Hid (Blk wr g (u8s M5) 5) := by
                have h8 := HI.out.1
                rw [List.take_of_length_le (by omega), ← hM5] at h8
                exact h8
              have HE6 : Hid (Blk wr hb [.int .u32 e.fl, .slice e.ka e.key.length e.kc, .slice e.va e.val.length e.vc] 30) := HI.out.2.1
              have HV6 : Hid (Below w.heap.size w wr) := HI.out.2.2
              have HM5 : Hid (M5.length = T ∧ M5 = put M4 d e.key) := ⟨by rw [hM5]; exact put_len2 HM4.out.1 (by omega), hM5⟩
              rw [show d + k = d5 by omega]
              have HD5 : Hid (d5 = d + e.key.length) := hd5
              have hle5 : d5 + e.val.length ≤ T := by omega
              clear hd5 hM5 HI
              go_wp2_with fail
              clear j1 hkl2
              go_loopw [7, 12] (fun pv kv wr => ∃ k : Nat, k ≤ e.val.length ∧ pv = .int .i64 ((d5 + k : Nat) : Int) ∧ kv = .int .i64 (k : Int) ∧ Hid (Blk wr g (u8s (put M5 d5 (e.val.take k))) 5 ∧ Blk wr hb [.int .u32 e.fl, .slice e.ka e.key.length e.kc, .slice e.va e.val.length e.vc] 30 ∧ Below w.heap.size w wr)) (fun _ kv _ => e.val.length - (intOf kv).toNat)
              case atStart => exact ⟨0, Nat.zero_le _, rfl, rfl, by rw [List.take_zero, put_nil]; exact HB6.out, HE6.out, HV6.out⟩
              case round =>
                obtain ⟨k, hk, rfl, rfl, HI⟩ := hrel
                have j1 := HI.out.2.1.cell (j := 2) rfl
                by_cases hkl2 : k < e.val.length
                · obtain ⟨p, hp⟩ : ∃ p : Nat, p = d5 + k := ⟨_, rfl⟩
                  rw [← hp]
                  obtain ⟨ad, e9, cK⟩ := (HRK.out.2.below HI.out.2.2 (Nat.le_refl _)) k (.int .u8 ((e.val[k] : Nat) : Int)) (by simp [List.getElem?_eq_getElem hkl2])
                  rw [e9] at j1
                  have hpl : p < (put M5 d5 (e.val.take k)).length := by rw [put_len2 HM5.out.1 (by simp; omega)]; omega
                  have c9 := row_cell HI.out.1 p hpl
                  have f9 := HI.out.1.frozen p
                  have q1 : (p : Int) < (T : Int) := by omega
                  have hp2 : p ≤ 4000000 := by omega
                  have NW : Hid (Blk (wr.setCell ⟨g, p, none⟩ (.int .u8 ((e.val[k] : Nat) : Int))) g (u8s (put M5 d5 (e.val.take (k + 1)))) 5 ∧ Blk (wr.setCell ⟨g, p, none⟩ (.int .u8 ((e.val[k] : Nat) : Int))) hb [.int .u32 e.fl, .slice e.ka e.key.length e.kc, .slice e.va e.val.length e.vc] 30 ∧ Below w.heap.size w (wr.setCell ⟨g, p, none⟩ (.int .u8 ((e.val[k] : Nat) : Int)))) := by
                    refine ⟨?_, HI.out.2.1.other hne _, HI.out.2.2.trans (((But.refl (fun k => k = g) wr).setCell (p := ⟨g, p, none⟩) (Or.inr rfl) _).below (fun k hk => by omega) HI.out.2.2.size)⟩
                    have h8 := HI.out.1.set p (.int .u8 ((e.val[k] : Nat) : Int))
                    rw [← List.map_set, hp, ← put_take M5 d5 e.val k hkl2 (by rw [HM5.out.1]; omega), ← hp] at h8
                    exact h8
                  have HP := hide hp
                  clear hp
                  go_wp2_with fail
                  go_roundw
                  case rel => exact ⟨k + 1, by omega, congrArg (Value.int .i64) (by have := HP.out; omega), by go_num, NW.out⟩
                  case measure => simp [intOf]; omega
                · obtain ⟨d6, hd6⟩ : ∃ z : Nat, z = d5 + e.val.length := ⟨_, rfl⟩
                  obtain ⟨M6, hM6⟩ : ∃ M, M = put M5 d5 e.val := ⟨_, rfl⟩
                  have HB7 : Hid (Blk wr g (u8s M6) 5) := by
                    have h8 := HI.out.1
                    rw [List.take_of_length_le (by omega), ← hM6] at h8
                    exact h8
                  have HE7 : Hid (Blk wr hb [.int .u32 e.fl, .slice e.ka e.key.length e.kc, .slice e.va e.val.length e.vc] 30) := HI.out.2.1
                  have HV7 : Hid (Below w.heap.size w wr) := HI.out.2.2
                  have HM6 : Hid (M6.length = T ∧ M6 = put M5 d5 e.val) := ⟨by rw [hM6]; exact put_len2 HM5.out.1 (by omega), hM6⟩
                  rw [show d5 + k = d6 by omega]
                  have HD6 : Hid (d6 = d5 + e.val.length) := hd6
                  have hle6 : d6 ≤ T := by omega
                  clear hd6 hM6 HI
                  go_wp2_with fail
                  clear j1 hkl2
                  go_roundw
                  case rel =>
                    have hM : M6 = encStep L2 i2 d e.mel := by
                      have g1 := HO.out
                      have g2 := HXX.out
                      rw [HM6.out.2, HM5.out.2, HM4.out.2, HM3.out.2, HM2.out.2, HM1.out.2, HD5.out, g2.2.2.2, g2.2.2.1, g2.2.1, g2.1, g1]
                      rfl
                    refine ⟨i2 + 1, d6, M6, by omega, rfl, by go_num, by have g1 := HD5.out; have g2 := HD6.out; omega, ?_, HB7.out, HM6.out.1, HV7.out, ?_⟩
                    · have g1 := HD5.out
                      have g2 := HD6.out
                      have g3 := HGG.out.1
                      show _ = _
                      omega
                    · rw [hM, HD6.out, HD5.out]
                      exact HGG.out.2
                  case measure => simp [intOf]; omega
        · have h9 := HW.out.2.2.2
          rw [List.drop_of_length_le (by omega), List.map_nil, encFrom] at h9
          have HF : Hid (Blk wr g (u8s (imgOf (es.map Ino.mel))) 5 ∧ Below w.heap.size w wr) := ⟨by rw [← h9]; exact HW.out.1, HW.out.2.2.1⟩
          clear h9
          go_wp2_with fail
          go_ret
          exact ⟨g, rfl, by rw [HG.out.1]; exact Nat.le_refl _, HF.out.1, HF.out.2⟩

end Go.Proofs.YbulkeekaGreatFmt
