/-
  THE WALK of (*node).encode at a leaf.
-/
import Derived.Test.YbulkeekaGreatFmtNode
import Derived.Deep.RegionLaw
namespace Go.Proofs.YbulkeekaGreatFmt
open Go.RowKit
set_option linter.unusedSimpArgs false
set_option linter.unusedVariables false

/-- flags, key, value -/
abbrev El := Nat × List Nat × List Nat
def Ino.el (e : Ino) : El := (e.fl, e.key, e.val)

/-- one element laid: its sixteen bytes at its place, its key and its value from d on -/
def encStep (L : List Nat) (i d : Nat) (e : El) : List Nat :=
  put (put (put (put (put (put L (16 + i * 16) (le 4 e.1)) (16 + i * 16 + 4) (le 4 (d - (16 + i * 16)))) (16 + i * 16 + 8) (le 4 e.2.1.length)) (16 + i * 16 + 12) (le 4 e.2.2.length)) d e.2.1) (d + e.2.1.length) e.2.2
/-- all elements laid, from number i on -/
def encFrom : Nat → List El → List Nat → Nat → List Nat
  | _, [], L, _ => L
  | i, e :: es, L, d => encFrom (i + 1) es (encStep L i d e) (d + e.2.1.length + e.2.2.length)
/-- what keys and values take -/
def datas (es : List El) : Nat := (es.map (fun e => e.2.1.length + e.2.2.length)).sum

theorem size5 : (Ybaz.prog.info? 5).map (·.size) = some 1 := by kernel_rfl
theorem u8s_one (xs : List Nat) : ∀ v ∈ u8s xs, v.oneCell' = true := by
  intro v hv
  obtain ⟨x, _, rfl⟩ := List.mem_map.1 hv
  rfl

/-- 'copy(b[o:], src)': all of src, into a row known whole -/
theorem copyAt_run {w : World} {g o n c m sc : Nat} {L bs : List Nat} {sa : Option Addr} {ty : TypeId} (h : Blk w g (u8s L) 5) (hs : Rd w sa (u8s bs)) (hm : bs.length = m) (hn : m ≤ n) (ho : o + m ≤ L.length) :
    ∃ w', (Builtin.copy_ #[26, 26] ty #[.slice (some ⟨g, o, none⟩) n c, .slice sa m sc]).run Ybaz.prog w = .ok (goInt m) w' ∧ Blk w' g (u8s (put L o bs)) 5 ∧ But (fun k => k = g) w w' := by
  by_cases h0 : m = 0
  · subst h0
    obtain rfl := List.eq_nil_of_length_eq_zero hm
    exact ⟨w, run_copy_none (P := Ybaz.prog) w 26 26 ty 5 _ _ n c 0 sc Ybaz.underlying26 size5 (by simp), by rw [put_nil]; exact h, But.refl _ _⟩
  · obtain ⟨a, rfl, _⟩ := hs 0 (.int .u8 ((bs[0]'(by omega) : Nat) : Int)) (by simp [List.getElem?_eq_getElem (show 0 < bs.length by omega)])
    have hr := run_copy_row (P := Ybaz.prog) w 26 26 ty 5 g o n c a m sc (u8s L).toArray 5 (u8s bs) Ybaz.underlying26 size5 h (by rw [List.length_map, hm]; exact (Nat.min_eq_left hn).symm) (fun j v hv => by obtain ⟨a', e', h'⟩ := hs j v hv; cases e'; exact h') (by simp; omega) (u8s_one bs)
    rw [show goInt (u8s bs).length = goInt m by rw [List.length_map, hm]] at hr
    refine ⟨_, hr, ?_, (But.refl (fun k => k = g) w).setRow (Or.inr rfl) _⟩
    have := setRow_heap w g _ ((u8s L).toArray.toList.take o ++ u8s bs ++ (u8s L).toArray.toList.drop (o + (u8s bs).length)).toArray 5 (0, 0) h
    simpa [Blk, put] using this

/-- copy as one step of a region that draws its order -/
theorem step_copy_by {P : Program} {w : World} {ops : Array Oper} {o : Oper} {a : Act} {K : Act → World → Prop} {Q : Exit → Act → World → Prop} {E : Prop} (hgd : o.guard = none) (s x : Operand) (t : TypeId)
    (ho : o.op = .call { callee := .builtin .copy, args := #[s, x], argTypes := #[t, t] }) (v u : Value) (hs : a.eval s = v) (hx : a.eval x = u) {v' : Value} {w' : World}
    (hrun : (Builtin.copy_ #[t, t] o.type #[v, u]).run P w = .ok v' w') (h : K (a.put o.dst v') w') :
    if Region.wanted o (yielded ops a.tmps) = true then Oper.wp P o a w K Q else E := by
  have hw : Region.wanted o (yielded ops a.tmps) = true := by simp [Region.wanted, hgd]
  rw [if_pos hw]
  unfold Oper.wp execOp
  simp only [ho, resolve, invoke, builtin, Sem.run_bind, Sem.run_pure, Result.andThen_ok, List.map_toArray, List.map_cons, List.map_nil, hs, hx, hrun]
  exact h

theorem put_len2 {L : List Nat} {o : Nat} {bs : List Nat} {T : Nat} (h : L.length = T) (ho : o + bs.length ≤ T) : (put L o bs).length = T := by rw [put_length _ _ _ (by omega)]; exact h

set_option maxRecDepth 100000 in
set_option maxHeartbeats 8000000 in
theorem enc_any {w : World} {nb id ov gi : Nat} {es : List Ino} (h : Nod w nb id ov gi es) {g : Nat} {L : List Nat} (hB : Blk w g (u8s L) 5) (T pid pov : Nat) (hT : L.length = T) (hT2 : 16 + 16 * es.length + datas (es.map Ino.el) = T) (hT3 : T ≤ 4000000) (hn : es.length ≤ 65536) (hid : pid < 18446744073709551616) (hov : pov < 4294967296)
    (hfl : ∀ e ∈ es, e.fl < 4294967296) (hnb : nb ≠ g) (hgi : gi ≠ g) (hkv : ∀ e ∈ es, (∀ ad, e.ka = some ad → ad.block ≠ g) ∧ (∀ ad, e.va = some ad → ad.block ≠ g)) :
    Calls Ybaz.prog 36 #[.pointer (some ⟨nb, 0, none⟩), .slice (some ⟨g, 0, none⟩) T T, .int .u64 pid, .int .u32 pov] w fun e w' => e = .returned (.tuple #[]) ∧ Blk w' g (u8s (encFrom 0 (es.map Ino.el) (hdr L pid 2 (es.length % 65536) pov) (16 + 16 * es.length))) 5 ∧ But (fun k => k = g) w w' := by
  have c2 := h.B.cell (j := 2) rfl
  have c3 := h.B.cell (j := 3) rfl
  have HH := hide h
  have HB := hide hB
  have HK := hide (And.intro hfl hkv)
  obtain ⟨ct, hct⟩ : ∃ ct : Nat, ct = es.length % 65536 := ⟨_, rfl⟩
  have eC : IntKind.u16.wrap ((es.length : Nat) : Int) = (ct : Int) := by rw [IntKind.wrap_u16]; omega
  have hct2 : ct < 65536 := by omega
  rw [← hct]
  clear h hB hfl hkv hct
  have HT := hide (And.intro hT hT2)
  obtain ⟨FIN, hFIN⟩ : ∃ FIN, FIN = encFrom 0 (es.map Ino.el) (hdr L pid 2 ct pov) (16 + 16 * es.length) := ⟨_, rfl⟩
  rw [← hFIN]
  have HFIN := hide hFIN
  have hT4 : 16 + 16 * es.length ≤ T := by omega
  clear hFIN hT2
  go_enter Ybaz.func36, Ybaz.ntmps36
  go_wp2_with fail
  subst hT
  refine (hdr_any HB.out pid 2 ct pov hid (by omega) hct2 hov (by omega) (by omega)).mono ?_
  rintro e w1 ⟨rfl, B1, P1⟩
  have N1 : Nod w1 nb id ov gi es := HH.out.but P1 hnb hgi HK.out.2
  have c3 := N1.B.cell (j := 3) rfl
  have HL1 : (hdr L pid 2 ct pov).length = L.length := by
    unfold hdr
    exact put_len2 (put_len2 (put_len2 (put_len2 rfl (by rw [le_length]; omega)) (by rw [le_length]; omega)) (by rw [le_length]; omega)) (by rw [le_length]; omega)
  have H1 := hide (And.intro B1 (And.intro P1 HL1))
  clear B1 P1 N1 HL1
  go_wp2_with fail
  go_loopw [9, 42] (fun dv iv wr => ∃ (i d : Nat) (L2 : List Nat), i ≤ es.length ∧ dv = .int .i64 (d : Int) ∧ iv = .int .i64 (i : Int) ∧ 16 + 16 * es.length ≤ d ∧ Hid (d + datas ((es.drop i).map Ino.el) = L.length) ∧ Hid (Blk wr g (u8s L2) 5 ∧ L2.length = L.length ∧ But (fun k => k = g) w wr ∧ encFrom i ((es.drop i).map Ino.el) L2 d = FIN)) (fun _ iv _ => es.length - (intOf iv).toNat)
  case atStart => exact ⟨0, 16 + 16 * es.length, _, Nat.zero_le _, by congr 1; omega, rfl, Nat.le_refl _, by rw [List.drop_zero]; exact HT.out.2, H1.out.1, H1.out.2.2, H1.out.2.1, by rw [List.drop_zero]; exact HFIN.out.symm⟩
  case round =>
    obtain ⟨i, d, L2, hi, rfl, rfl, hd, HD, HW⟩ := hrel
    clear H1 c3
    by_cases hlt : i < es.length
    · have hdrop : es.drop i = es[i] :: es.drop (i + 1) := List.drop_eq_getElem_cons hlt
      obtain ⟨e, he⟩ : ∃ e, e = es[i] := ⟨_, rfl⟩
      rw [← he] at hdrop
      have hmem : e ∈ es := by rw [he]; exact List.getElem_mem hlt
      have hD2 := HD.out
      have hW4 := HW.out.2.2.2
      rw [hdrop, List.map_cons] at hD2 hW4
      have hD3 : d + (e.key.length + e.val.length) + datas ((es.drop (i + 1)).map Ino.el) = L.length := by
        have h9 : datas (e.el :: (es.drop (i + 1)).map Ino.el) = (e.key.length + e.val.length) + datas ((es.drop (i + 1)).map Ino.el) := by unfold datas; rw [List.map_cons, List.sum_cons]; rfl
        rw [h9] at hD2
        omega
      have hW5 : encFrom (i + 1) ((es.drop (i + 1)).map Ino.el) (encStep L2 i d e.el) (d + e.key.length + e.val.length) = FIN := hW4
      have HG := hide (And.intro hD3 hW5)
      have hdl : d + e.key.length + e.val.length ≤ L.length := by omega
      clear hD2 hW4 hD3 hW5
      have N := HH.out.but HW.out.2.2.1 hnb hgi HK.out.2
      have d0 : wr.cell? ⟨gi, i * 5, none⟩ = some (.int .u32 e.fl) := by rw [he]; exact N.cell i 0 hlt rfl (by omega)
      have d1 : wr.cell? ⟨gi, i * 5 + 1, none⟩ = some (.slice e.ka e.key.length e.kc) := by rw [he]; exact N.cell i 1 hlt rfl (by omega)
      have d2 : wr.cell? ⟨gi, i * 5 + 2, none⟩ = some (.slice e.va e.val.length e.vc) := by rw [he]; exact N.cell i 2 hlt rfl (by omega)
      have d3 : wr.cell? ⟨gi, i * 5 + 3, none⟩ = some (.int .u64 0) := N.cell i 3 hlt rfl (by omega)
      have d4 : wr.cell? ⟨gi, i * 5 + 4, none⟩ = some (.pointer none) := N.cell i 4 hlt rfl (by omega)
      have hgb := HW.out.1.lt
      have HE1 : Hid (Blk (wr.alloc (.cells #[.int .u32 e.fl, .slice e.ka e.key.length e.kc, .slice e.va e.val.length e.vc, .int .u64 0, .pointer none] 58)) wr.heap.size [.int .u32 e.fl, .slice e.ka e.key.length e.kc, .slice e.va e.val.length e.vc, .int .u64 0, .pointer none] 58) := Blk.new wr [.int .u32 e.fl, .slice e.ka e.key.length e.kc, .slice e.va e.val.length e.vc, .int .u64 0, .pointer none] 58
      have HB1 : Hid (Blk (wr.alloc (.cells #[.int .u32 e.fl, .slice e.ka e.key.length e.kc, .slice e.va e.val.length e.vc, .int .u64 0, .pointer none] 58)) g (u8s L2) 5) := HW.out.1.alloc _
      have HN1 : Hid (But (fun k => k = g) w (wr.alloc (.cells #[.int .u32 e.fl, .slice e.ka e.key.length e.kc, .slice e.va e.val.length e.vc, .int .u64 0, .pointer none] 58))) := HW.out.2.2.1.alloc _
      have cl : (wr.alloc (.cells #[.int .u32 e.fl, .slice e.ka e.key.length e.kc, .slice e.va e.val.length e.vc, .int .u64 0, .pointer none] 58)).cell? ⟨nb, 2, none⟩ = some (.bool true) := (N.B.alloc _).cell (j := 2) rfl
      obtain ⟨o, ho⟩ : ∃ o : Nat, o = 16 + i * 16 := ⟨_, rfl⟩
      obtain ⟨o2, ho2⟩ : ∃ o2 : Nat, o2 = o + 16 := ⟨_, rfl⟩
      obtain ⟨cp, hcp⟩ : ∃ cp : Nat, cp = L.length - o := ⟨_, rfl⟩
      have r1 : (16 : Int) + (i : Int) * 16 = (o : Int) := by omega
      have r2 : (o : Int) + 16 = (o2 : Int) := by omega
      have r3 : o2 - o = 16 := by omega
      have r4 : L.length - o = cp := by omega
      have r5 : (o : Int) ≤ (o2 : Int) := by omega
      have r6 : (o2 : Int) ≤ (L.length : Int) := by omega
      have r7 : ¬ L.length = o := by omega
      have HO := hide (And.intro ho (And.intro ho2 hcp))
      have hcp16 : 16 ≤ cp := by omega
      have hod : o + 16 ≤ d := by omega
      clear ho ho2 hcp N
      have HEq := hide he
      clear he hdrop
      go_upto_region 11 with (fail)
      generalize hw1 : wr.alloc (.cells #[.int .u32 e.fl, .slice e.ka e.key.length e.kc, .slice e.va e.val.length e.vc, .int .u64 0, .pointer none] 58) = v1 at *
      generalize hhb : wr.heap.size = hb at *
      have hne : hb ≠ g := by omega
      obtain ⟨x, hx⟩ : ∃ x : Nat, x = d - o := ⟨_, rfl⟩
      have r8 : IntKind.i64.wrap ((d : Int) - (o : Int)) = (x : Int) := by rw [IntKind.wrap_i64]; omega
      have r9 : IntKind.u32.wrap ((x : Nat) : Int) = (x : Int) := by rw [IntKind.wrap_u32]; omega
      have r10 : IntKind.u32.wrap ((e.key.length : Nat) : Int) = (e.key.length : Int) := by rw [IntKind.wrap_u32]; omega
      have r11 : IntKind.u32.wrap ((e.val.length : Nat) : Int) = (e.val.length : Int) := by rw [IntKind.wrap_u32]; omega
      have hx2 : x < 4294967296 := by omega
      have HX := hide hx
      clear hw1 hhb hgb hx d0 d1 d2 d3 d4 r1 r2 r3 r4 r5 r6 r7 cl
      have e4 : (4 : Int) ≤ (cp : Int) := by omega
      have e8 : (8 : Int) ≤ (cp : Int) := by omega
      have e12 : (12 : Int) ≤ (cp : Int) := by omega
      have e16 : (16 : Int) ≤ (cp : Int) := by omega
      have n4 : ¬ cp = 4 := by omega
      have n8 : ¬ cp = 8 := by omega
      have n12 : ¬ cp = 12 := by omega
      have hfl := HK.out.1 e hmem
      have hoL : o + 16 ≤ L.length := by omega
      have HV1 := HN1
      have HM0 : Hid (L2.length = L.length) := HW.out.2.1
      obtain ⟨M1, hM1⟩ : ∃ M, M = put L2 o (le 4 e.fl) := ⟨_, rfl⟩
      have HM1 : Hid (M1.length = L.length ∧ M1 = put L2 o (le 4 e.fl)) := ⟨by rw [hM1]; exact put_len2 HM0.out (by rw [le_length]; omega), hM1⟩
      clear hM1
      have k0 := HE1.out.cell (j := 0) rfl
      have k1 := HE1.out.cell (j := 1) rfl
      have k2 := HE1.out.cell (j := 2) rfl
      have C1 : Hid (Calls Ybaz.prog 64 #[.agg #[], .slice (some ⟨g, o, none⟩) 4 cp, .int .u32 e.fl] v1.drew fun e' w' => e' = .returned (.tuple #[]) ∧ (w'.cell? ⟨hb, 0, none⟩ = some (.int .u32 e.fl) ∧ w'.cell? ⟨hb, 1, none⟩ = some (.slice e.ka e.key.length e.kc) ∧ w'.cell? ⟨hb, 2, none⟩ = some (.slice e.va e.val.length e.vc)) ∧
          Hid (Blk w' g (u8s M1) 5 ∧ But (fun k => k = g) w w' ∧ Blk w' hb [.int .u32 e.fl, .slice e.ka e.key.length e.kc, .slice e.va e.val.length e.vc, .int .u64 0, .pointer none] 58)) := by
        refine (put32_any (w := v1.drew) (L := L2) HB1.out o 4 cp e.fl (by omega) (by omega) (by rw [HM0.out]; omega)).mono ?_
        rintro e' w' ⟨rfl, B, P⟩
        rw [← HM1.out.2] at B
        have H' : Blk w' hb [.int .u32 e.fl, .slice e.ka e.key.length e.kc, .slice e.va e.val.length e.vc, .int .u64 0, .pointer none] 58 := HE1.out.drew.but P hne
        exact ⟨rfl, ⟨H'.cell (j := 0) rfl, H'.cell (j := 1) rfl, H'.cell (j := 2) rfl⟩, B, HV1.out.drew.trans P, H'⟩
      go_region_held3 (fun w' => w'.cell? ⟨hb, 0, none⟩ = some (.int .u32 e.fl) ∧ w'.cell? ⟨hb, 1, none⟩ = some (.slice e.ka e.key.length e.kc) ∧ w'.cell? ⟨hb, 2, none⟩ = some (.slice e.va e.val.length e.vc)) (go_keep) ((go_at_call 64; refine C1.out.mono ?_; rintro e' v2 ⟨rfl, ⟨k0, k1, k2⟩, HQ1⟩))
      have HB2 : Hid (Blk v2 g (u8s M1) 5) := HQ1.out.1
      have HV2 : Hid (But (fun k => k = g) w v2) := HQ1.out.2.1
      have HE2 : Hid (Blk v2 hb [.int .u32 e.fl, .slice e.ka e.key.length e.kc, .slice e.va e.val.length e.vc, .int .u64 0, .pointer none] 58) := HQ1.out.2.2
      clear k0 k1 k2 C1 HQ1
      go_upto_region 12 with (fail)
      obtain ⟨M2, hM2⟩ : ∃ M, M = put M1 (o + 4) (le 4 x) := ⟨_, rfl⟩
      have HM2 : Hid (M2.length = L.length ∧ M2 = put M1 (o + 4) (le 4 x)) := ⟨by rw [hM2]; exact put_len2 HM1.out.1 (by rw [le_length]; omega), hM2⟩
      clear hM2
      have k0 := HE2.out.cell (j := 0) rfl
      have k1 := HE2.out.cell (j := 1) rfl
      have k2 := HE2.out.cell (j := 2) rfl
      have C2 : Hid (Calls Ybaz.prog 64 #[.agg #[], .slice (some ⟨g, o + 4, none⟩) 4 (cp - 4), .int .u32 x] v2.drew fun e' w' => e' = .returned (.tuple #[]) ∧ (w'.cell? ⟨hb, 0, none⟩ = some (.int .u32 e.fl) ∧ w'.cell? ⟨hb, 1, none⟩ = some (.slice e.ka e.key.length e.kc) ∧ w'.cell? ⟨hb, 2, none⟩ = some (.slice e.va e.val.length e.vc)) ∧
          Hid (Blk w' g (u8s M2) 5 ∧ But (fun k => k = g) w w' ∧ Blk w' hb [.int .u32 e.fl, .slice e.ka e.key.length e.kc, .slice e.va e.val.length e.vc, .int .u64 0, .pointer none] 58)) := by
        refine (put32_any (w := v2.drew) (L := M1) HB2.out (o + 4) 4 (cp - 4) x (by omega) (by omega) (by rw [HM1.out.1]; omega)).mono ?_
        rintro e' w' ⟨rfl, B, P⟩
        rw [← HM2.out.2] at B
        have H' : Blk w' hb [.int .u32 e.fl, .slice e.ka e.key.length e.kc, .slice e.va e.val.length e.vc, .int .u64 0, .pointer none] 58 := HE2.out.drew.but P hne
        exact ⟨rfl, ⟨H'.cell (j := 0) rfl, H'.cell (j := 1) rfl, H'.cell (j := 2) rfl⟩, B, HV2.out.drew.trans P, H'⟩
      go_region_held3 (fun w' => w'.cell? ⟨hb, 0, none⟩ = some (.int .u32 e.fl) ∧ w'.cell? ⟨hb, 1, none⟩ = some (.slice e.ka e.key.length e.kc) ∧ w'.cell? ⟨hb, 2, none⟩ = some (.slice e.va e.val.length e.vc)) (go_keep) ((go_at_call 64; refine C2.out.mono ?_; rintro e' v3 ⟨rfl, ⟨k0, k1, k2⟩, HQ2⟩))
      have HB3 : Hid (Blk v3 g (u8s M2) 5) := HQ2.out.1
      have HV3 : Hid (But (fun k => k = g) w v3) := HQ2.out.2.1
      have HE3 : Hid (Blk v3 hb [.int .u32 e.fl, .slice e.ka e.key.length e.kc, .slice e.va e.val.length e.vc, .int .u64 0, .pointer none] 58) := HQ2.out.2.2
      clear k0 k1 k2 C2 HQ2
      go_upto_region 13 with (fail)
      obtain ⟨M3, hM3⟩ : ∃ M, M = put M2 (o + 8) (le 4 e.key.length) := ⟨_, rfl⟩
      have HM3 : Hid (M3.length = L.length ∧ M3 = put M2 (o + 8) (le 4 e.key.length)) := ⟨by rw [hM3]; exact put_len2 HM2.out.1 (by rw [le_length]; omega), hM3⟩
      clear hM3
      have k0 := HE3.out.cell (j := 0) rfl
      have k1 := HE3.out.cell (j := 1) rfl
      have k2 := HE3.out.cell (j := 2) rfl
      have C3 : Hid (Calls Ybaz.prog 64 #[.agg #[], .slice (some ⟨g, o + 8, none⟩) 4 (cp - 8), .int .u32 e.key.length] v3.drew fun e' w' => e' = .returned (.tuple #[]) ∧ (w'.cell? ⟨hb, 0, none⟩ = some (.int .u32 e.fl) ∧ w'.cell? ⟨hb, 1, none⟩ = some (.slice e.ka e.key.length e.kc) ∧ w'.cell? ⟨hb, 2, none⟩ = some (.slice e.va e.val.length e.vc)) ∧
          Hid (Blk w' g (u8s M3) 5 ∧ But (fun k => k = g) w w' ∧ Blk w' hb [.int .u32 e.fl, .slice e.ka e.key.length e.kc, .slice e.va e.val.length e.vc, .int .u64 0, .pointer none] 58)) := by
        refine (put32_any (w := v3.drew) (L := M2) HB3.out (o + 8) 4 (cp - 8) e.key.length (by omega) (by omega) (by rw [HM2.out.1]; omega)).mono ?_
        rintro e' w' ⟨rfl, B, P⟩
        rw [← HM3.out.2] at B
        have H' : Blk w' hb [.int .u32 e.fl, .slice e.ka e.key.length e.kc, .slice e.va e.val.length e.vc, .int .u64 0, .pointer none] 58 := HE3.out.drew.but P hne
        exact ⟨rfl, ⟨H'.cell (j := 0) rfl, H'.cell (j := 1) rfl, H'.cell (j := 2) rfl⟩, B, HV3.out.drew.trans P, H'⟩
      go_region_held3 (fun w' => w'.cell? ⟨hb, 0, none⟩ = some (.int .u32 e.fl) ∧ w'.cell? ⟨hb, 1, none⟩ = some (.slice e.ka e.key.length e.kc) ∧ w'.cell? ⟨hb, 2, none⟩ = some (.slice e.va e.val.length e.vc)) (go_keep) ((go_at_call 64; refine C3.out.mono ?_; rintro e' v4 ⟨rfl, ⟨k0, k1, k2⟩, HQ3⟩))
      have HB4 : Hid (Blk v4 g (u8s M3) 5) := HQ3.out.1
      have HV4 : Hid (But (fun k => k = g) w v4) := HQ3.out.2.1
      have HE4 : Hid (Blk v4 hb [.int .u32 e.fl, .slice e.ka e.key.length e.kc, .slice e.va e.val.length e.vc, .int .u64 0, .pointer none] 58) := HQ3.out.2.2
      clear k0 k1 k2 C3 HQ3
      go_upto_region 14 with (fail)
      obtain ⟨M4, hM4⟩ : ∃ M, M = put M3 (o + 12) (le 4 e.val.length) := ⟨_, rfl⟩
      have HM4 : Hid (M4.length = L.length ∧ M4 = put M3 (o + 12) (le 4 e.val.length)) := ⟨by rw [hM4]; exact put_len2 HM3.out.1 (by rw [le_length]; omega), hM4⟩
      clear hM4
      have k0 := HE4.out.cell (j := 0) rfl
      have k1 := HE4.out.cell (j := 1) rfl
      have k2 := HE4.out.cell (j := 2) rfl
      have C4 : Hid (Calls Ybaz.prog 64 #[.agg #[], .slice (some ⟨g, o + 12, none⟩) 4 (cp - 12), .int .u32 e.val.length] v4.drew fun e' w' => e' = .returned (.tuple #[]) ∧ (w'.cell? ⟨hb, 0, none⟩ = some (.int .u32 e.fl) ∧ w'.cell? ⟨hb, 1, none⟩ = some (.slice e.ka e.key.length e.kc) ∧ w'.cell? ⟨hb, 2, none⟩ = some (.slice e.va e.val.length e.vc)) ∧
          Hid (Blk w' g (u8s M4) 5 ∧ But (fun k => k = g) w w' ∧ Blk w' hb [.int .u32 e.fl, .slice e.ka e.key.length e.kc, .slice e.va e.val.length e.vc, .int .u64 0, .pointer none] 58)) := by
        refine (put32_any (w := v4.drew) (L := M3) HB4.out (o + 12) 4 (cp - 12) e.val.length (by omega) (by omega) (by rw [HM3.out.1]; omega)).mono ?_
        rintro e' w' ⟨rfl, B, P⟩
        rw [← HM4.out.2] at B
        have H' : Blk w' hb [.int .u32 e.fl, .slice e.ka e.key.length e.kc, .slice e.va e.val.length e.vc, .int .u64 0, .pointer none] 58 := HE4.out.drew.but P hne
        exact ⟨rfl, ⟨H'.cell (j := 0) rfl, H'.cell (j := 1) rfl, H'.cell (j := 2) rfl⟩, B, HV4.out.drew.trans P, H'⟩
      go_region_held3 (fun w' => w'.cell? ⟨hb, 0, none⟩ = some (.int .u32 e.fl) ∧ w'.cell? ⟨hb, 1, none⟩ = some (.slice e.ka e.key.length e.kc) ∧ w'.cell? ⟨hb, 2, none⟩ = some (.slice e.va e.val.length e.vc)) (go_keep) ((go_at_call 64; refine C4.out.mono ?_; rintro e' v5 ⟨rfl, ⟨k0, k1, k2⟩, HQ4⟩))
      have HB5 : Hid (Blk v5 g (u8s M4) 5) := HQ4.out.1
      have HV5 : Hid (But (fun k => k = g) w v5) := HQ4.out.2.1
      have HE5 : Hid (Blk v5 hb [.int .u32 e.fl, .slice e.ka e.key.length e.kc, .slice e.va e.val.length e.vc, .int .u64 0, .pointer none] 58) := HQ4.out.2.2
      clear k0 k1 k2 C4 HQ4
      go_upto_region 18 with (fail)
      obtain ⟨M5, hM5⟩ : ∃ M, M = put M4 d e.key := ⟨_, rfl⟩
      have HM5 : Hid (M5.length = L.length ∧ M5 = put M4 d e.key) := ⟨by rw [hM5]; exact put_len2 HM4.out.1 (by omega), hM5⟩
      clear hM5
      have k1 := HE5.out.cell (j := 1) rfl
      obtain ⟨dd5, v6, hob5, hrun5, HC5⟩ : ∃ dd v', (if L.length = d then some (⟨g, 0, none⟩ : Addr) else some ⟨g, d, none⟩) = some ⟨g, dd, none⟩ ∧ (Builtin.copy_ #[26, 26] 3 #[.slice (some ⟨g, dd, none⟩) (L.length - d) (L.length - d), .slice e.ka e.key.length e.kc]).run Ybaz.prog v5.drew = .ok (goInt e.key.length) v' ∧ Hid (Blk v' g (u8s M5) 5 ∧ But (fun k => k = g) w v' ∧ Blk v' hb [.int .u32 e.fl, .slice e.ka e.key.length e.kc, .slice e.va e.val.length e.vc, .int .u64 0, .pointer none] 58) := by
        have hR : Rd v5.drew e.ka (u8s e.key) := (HH.out.R e hmem).1.but HV5.out.drew (HK.out.2 e hmem).1
        by_cases hde : L.length = d
        · have hz : e.key = [] := List.eq_nil_of_length_eq_zero (by omega)
          obtain ⟨v', h1, h2, h3⟩ := copyAt_run (o := 0) (n := L.length - d) (c := L.length - d) (sc := e.kc) (ty := 3) (HB5.out.drew) hR rfl (by omega) (by rw [HM4.out.1]; omega)
          refine ⟨0, v', by rw [if_pos hde], h1, ?_, HV5.out.drew.trans h3, HE5.out.drew.but h3 hne⟩
          rw [HM5.out.2]
          rw [hz, put_nil] at h2 ⊢
          exact h2
        · obtain ⟨v', h1, h2, h3⟩ := copyAt_run (o := d) (n := L.length - d) (c := L.length - d) (sc := e.kc) (ty := 3) (HB5.out.drew) hR rfl (by omega) (by rw [HM4.out.1]; omega)
          refine ⟨d, v', by rw [if_neg hde], h1, ?_, HV5.out.drew.trans h3, HE5.out.drew.but h3 hne⟩
          rw [HM5.out.2]
          exact h2
      have q5 : d ≤ L.length := by omega
      obtain ⟨d5, hd5⟩ : ∃ z : Nat, z = d + e.key.length := ⟨_, rfl⟩
      have s5 : IntKind.i64.wrap ((d : Int) + (e.key.length : Int)) = (d5 : Int) := by rw [IntKind.wrap_i64]; omega
      have Hd5 := hide hd5
      have hle5 : d5 + e.val.length ≤ L.length := by omega
      clear hd5
      go_region_law (refine step_copy_by (by rfl) (.tmp 114) (.tmp 116) 26 (by rfl) _ _ (by rfl) (by rfl) hrun5 ?_)
      clear hob5 hrun5 k1 q5 s5
      have HB6 : Hid (Blk v6 g (u8s M5) 5) := HC5.out.1
      have HV6 : Hid (But (fun k => k = g) w v6) := HC5.out.2.1
      have HE6 : Hid (Blk v6 hb [.int .u32 e.fl, .slice e.ka e.key.length e.kc, .slice e.va e.val.length e.vc, .int .u64 0, .pointer none] 58) := HC5.out.2.2
      clear HC5
      go_upto_region 19 with (fail)
      obtain ⟨M6, hM6⟩ : ∃ M, M = put M5 d5 e.val := ⟨_, rfl⟩
      have HM6 : Hid (M6.length = L.length ∧ M6 = put M5 d5 e.val) := ⟨by rw [hM6]; exact put_len2 HM5.out.1 (by omega), hM6⟩
      clear hM6
      have k1 := HE6.out.cell (j := 2) rfl
      obtain ⟨dd6, v7, hob6, hrun6, HC6⟩ : ∃ dd v', (if L.length = d5 then some (⟨g, 0, none⟩ : Addr) else some ⟨g, d5, none⟩) = some ⟨g, dd, none⟩ ∧ (Builtin.copy_ #[26, 26] 3 #[.slice (some ⟨g, dd, none⟩) (L.length - d5) (L.length - d5), .slice e.va e.val.length e.vc]).run Ybaz.prog v6.drew = .ok (goInt e.val.length) v' ∧ Hid (Blk v' g (u8s M6) 5 ∧ But (fun k => k = g) w v' ∧ Blk v' hb [.int .u32 e.fl, .slice e.ka e.key.length e.kc, .slice e.va e.val.length e.vc, .int .u64 0, .pointer none] 58) := by
        have hR : Rd v6.drew e.va (u8s e.val) := (HH.out.R e hmem).2.but HV6.out.drew (HK.out.2 e hmem).2
        by_cases hde : L.length = d5
        · have hz : e.val = [] := List.eq_nil_of_length_eq_zero (by omega)
          obtain ⟨v', h1, h2, h3⟩ := copyAt_run (o := 0) (n := L.length - d5) (c := L.length - d5) (sc := e.vc) (ty := 3) (HB6.out.drew) hR rfl (by omega) (by rw [HM5.out.1]; omega)
          refine ⟨0, v', by rw [if_pos hde], h1, ?_, HV6.out.drew.trans h3, HE6.out.drew.but h3 hne⟩
          rw [HM6.out.2]
          rw [hz, put_nil] at h2 ⊢
          exact h2
        · obtain ⟨v', h1, h2, h3⟩ := copyAt_run (o := d5) (n := L.length - d5) (c := L.length - d5) (sc := e.vc) (ty := 3) (HB6.out.drew) hR rfl (by omega) (by rw [HM5.out.1]; omega)
          refine ⟨d5, v', by rw [if_neg hde], h1, ?_, HV6.out.drew.trans h3, HE6.out.drew.but h3 hne⟩
          rw [HM6.out.2]
          exact h2
      have q6 : d5 ≤ L.length := by omega
      obtain ⟨d6, hd6⟩ : ∃ z : Nat, z = d5 + e.val.length := ⟨_, rfl⟩
      have s6 : IntKind.i64.wrap ((d5 : Int) + (e.val.length : Int)) = (d6 : Int) := by rw [IntKind.wrap_i64]; omega
      have Hd6 := hide hd6
      have hle6 : d6 ≤ L.length := by omega
      clear hd6
      go_region_law (refine step_copy_by (by rfl) (.tmp 122) (.tmp 124) 26 (by rfl) _ _ (by rfl) (by rfl) hrun6 ?_)
      clear hob6 hrun6 k1 q6 s6
      have HB7 : Hid (Blk v7 g (u8s M6) 5) := HC6.out.1
      have HV7 : Hid (But (fun k => k = g) w v7) := HC6.out.2.1
      have HE7 : Hid (Blk v7 hb [.int .u32 e.fl, .slice e.ka e.key.length e.kc, .slice e.va e.val.length e.vc, .int .u64 0, .pointer none] 58) := HC6.out.2.2
      clear HC6
      go_wp2_with fail
      go_roundw
      case rel =>
        have hM : M6 = encStep L2 i d e.el := by
          have h1 := HO.out.1
          rw [HM6.out.2, HM5.out.2, HM4.out.2, HM3.out.2, HM2.out.2, HM1.out.2, Hd5.out, HX.out, h1]
          rfl
        refine ⟨i + 1, d6, M6, by omega, rfl, by go_num, by have h1 := Hd5.out; have h2 := Hd6.out; omega, ?_, HB7.out, HM6.out.1, HV7.out, ?_⟩
        · have h1 := Hd5.out
          have h2 := Hd6.out
          have h3 := HG.out.1
          show _ = _
          omega
        · rw [hM, Hd6.out, Hd5.out]
          exact HG.out.2
      case measure => simp [intOf]; omega
    · go_wp2_with fail
      go_end0
      have h9 := HW.out.2.2.2
      rw [List.drop_of_length_le (by omega), List.map_nil, encFrom] at h9
      exact ⟨rfl, by rw [← h9]; exact HW.out.1, HW.out.2.2.1⟩

end Go.Proofs.YbulkeekaGreatFmt
