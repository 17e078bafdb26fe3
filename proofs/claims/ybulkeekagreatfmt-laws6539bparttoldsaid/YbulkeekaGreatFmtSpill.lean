/-
  THE WALKS of (*Tx).freeNode, and of (*Bucket).spill at a bucket that holds nothing new.
-/
import Derived.Test.YbulkeekaGreatFmtFree
import Derived.Test.YbulkeekaGreatFmtIter
import Derived.Lib.SmallJoins
namespace Go.Proofs.YbulkeekaGreatFmt
open Go.RowKit Go.Maps Go.Sort
set_option linter.unusedSimpArgs false
set_option linter.unusedVariables false

theorem keysC (mb : Option Nat) (W : World) : Calls Ybaz.prog 10 #[.map mb] W fun e w' => e = .returned (.func (.func 22) #[] #[.pointer (some ⟨W.heap.size, 0, none⟩)]) ∧ w' = W.alloc (.cells #[.map mb] 52) := callsIn_wide.1 (Ybaz.maps_Keys_10 mb W)

theorem sortedC (b nn : Nat) (D0 : DataW Unit) (R : Value → Option (DataW Unit × List MemPlace)) (w : World) (hown : w.ownsMap Ybaz.prog 9 R b nn D0) (hmax : Maps.size D0 ≤ 70000) :
    Calls Ybaz.prog 9 #[.func (.func 22) #[] #[.pointer (some ⟨w.heap.size, 0, none⟩)]] (w.alloc (.cells #[.map (some b)] 52)) fun e w' => ∃ (v : Value) (ss : List (List UInt8)), e = .returned v ∧ ss.Perm (strKeys D0) ∧
      w'.ownsRow (w.alloc (.cells #[.map (some b)] 52)).heap.size 9 1 v ss.length ((ss.mergeSort (fun x y => decide (x ≤ y))).map encStr) ∧ (v = .slice none 0 0 ↔ ss = []) ∧ Below (w.alloc (.cells #[.map (some b)] 52)).heap.size (w.alloc (.cells #[.map (some b)] 52)) w' :=
  callsIn_wide.1 (Ybaz.slices_Sorted_keys_9_10 b nn D0 R w hown (by unfold maxLen; omega) (by omega))

set_option maxRecDepth 100000 in
set_option maxHeartbeats 2000000 in
theorem freeNode_any {w : World} {tb ps rb : Nat} {fv : Value} {xs : List Nat} (h : TxF w tb ps rb fv xs) {nb id ov gi : Nat} {es : List Ino} (hN : Nod w nb id ov gi es) (hid : id < 18446744073709551616) (hov : ov < 8) (hl : xs.length ≤ 2000000) (h1 : nb ≠ tb) (h2 : fv.ownBlock ≠ some nb) :
    Calls Ybaz.prog 16 #[.pointer (some ⟨tb, 0, none⟩), .pointer (some ⟨nb, 0, none⟩)] w fun e w' => e = .returned (.tuple #[]) ∧ ∃ fv', TxF w' tb ps rb fv' (xs ++ if id = 0 then [] else frs id (ov + 1)) ∧ But (fun k => k = tb ∨ fv.ownBlock = some k) w w' ∧ Fresh w fv fv' := by
  have c0 := hN.B.cell (j := 0) rfl
  have c1 := hN.B.cell (j := 1) rfl
  by_cases h0 : id = 0
  · subst h0
    have HH := hide h
    clear h hN
    go_enter Ybaz.func16, Ybaz.ntmps16
    go_wp2_with fail
    go_end0
    exact ⟨rfl, fv, by simpa using HH.out, But.refl _ _, Or.inl rfl⟩
  · have hD : TxF w.drew tb ps rb fv xs := ⟨h.B, h.o, h.n⟩
    have HC : Hid (Calls Ybaz.prog 35 #[.pointer (some ⟨tb, 0, none⟩), .int .u64 id, .int .u32 ov] w.drew fun e w' => e = .returned (.tuple #[]) ∧ (w'.cell? ⟨nb, 0, none⟩ = some (.int .u64 id) ∧ w'.cell? ⟨nb, 1, none⟩ = some (.int .u32 ov)) ∧ Hid (∃ fv', TxF w' tb ps rb fv' (xs ++ frs id (ov + 1)) ∧ But (fun k => k = tb ∨ fv.ownBlock = some k) w w' ∧ Fresh w fv fv')) := by
      refine (free_any hD id ov hid hov hl).mono ?_
      rintro e w' ⟨rfl, fv', t1, t2, t3⟩
      have P : But (fun k => k = tb ∨ fv.ownBlock = some k) w w' := ((But.refl _ w).drew).trans t2
      have B' := hN.B.but P (fun h => h.elim h1 h2)
      exact ⟨rfl, ⟨B'.cell (j := 0) rfl, B'.cell (j := 1) rfl⟩, fv', t1, P, t3⟩
    have hz : ¬ (id : Int) = 0 := by omega
    have hzb : ((id : Int) == 0) = false := beq_eq_false_iff_ne.2 hz
    clear h hN hD
    go_enter Ybaz.func16, Ybaz.ntmps16
    go_wp2_with fail
    go_region_held3 (fun w' => w'.cell? ⟨nb, 0, none⟩ = some (.int .u64 id) ∧ w'.cell? ⟨nb, 1, none⟩ = some (.int .u32 ov)) (go_keep) ((go_at_call 35; refine HC.out.mono ?_; rintro e w9 ⟨rfl, ⟨k0, k1⟩, HQ⟩))
    go_wp2_with fail
    go_end0
    exact ⟨rfl, HQ.out⟩

def noR : Value → Option (DataW Unit × List MemPlace) := fun _ => none

set_option maxRecDepth 100000 in
set_option maxHeartbeats 2000000 in
theorem spill_child (bb tb root seq mb : Nat) (inl : Value) (w : World) (h : Blk w bb (bktC tb root seq inl (.pointer none) mb) 54) (hm : w.heap[mb]? = some (.map #[] 0)) :
    Calls Ybaz.prog 6 #[.pointer (some ⟨bb, 0, none⟩)] w fun e w' => e = .returned .nilIface ∧ Below w.heap.size w w' := by
  have c6 := h.cell (j := 6) rfl
  have hown : w.ownsMap Ybaz.prog 9 noR mb 0 (.map []) := Joins.ownsMap_empty hm
  have HH := hide (And.intro h hown)
  clear h hm hown
  go_enter Ybaz.func6, Ybaz.ntmps6
  go_wp2_with fail
  refine (keysC _ w).mono ?_
  rintro e w1 ⟨rfl, rfl⟩
  go_wp2_with fail
  refine (sortedC mb 0 (.map []) noR w HH.out.2 (by simp [Maps.size])).mono ?_
  rintro e w2 ⟨v, ss, rfl, hS, hrow, hnil, hb⟩
  have hss : ss = [] := by simpa [strKeys] using hS
  obtain rfl := hnil.2 hss
  have L2 : Below w.heap.size w w2 := ((Below.refl w.heap.size w).alloc (Nat.le_refl _) (.cells #[.map (some mb)] 52)).trans (hb.mono (by simp))
  have c5 := (HH.out.1.below L2 HH.out.1.lt).cell (j := 5) rfl
  have H2 := hide L2
  clear hS hrow hnil hb L2 hss
  go_wp2_with fail
  go_loopw [19] (fun v wr => v = .int .i64 0 ∧ wr = w2) (fun _ _ => 0)
  case atStart => exact ⟨rfl, rfl⟩
  case round =>
    obtain ⟨rfl, hw⟩ := hrel
    have hw' := hw.symm
    clear hw
    subst hw'
    go_wp2_with fail
    go_ret
    exact ⟨rfl, H2.out⟩

/-- a child: a bucket that holds nothing new -/
def Kid (w : World) (tb : Nat) (v : Value) : Prop := ∃ cb root seq mb', v = .pointer (some ⟨cb, 0, none⟩) ∧ Blk w cb (bktC tb root seq (.slice none 0 0) (.pointer none) mb') 54 ∧ w.heap[mb']? = some (.map #[] 0)

theorem Kid.below {w w' : World} {tb : Nat} {v : Value} {B : Nat} (h : Kid w tb v) (P : Below B w w') (hB : w.heap.size ≤ B) : Kid w' tb v := by
  obtain ⟨cb, root, seq, mb', e, h1, h2⟩ := h
  exact ⟨cb, root, seq, mb', e, h1.below P (Nat.lt_of_lt_of_le h1.lt hB), (P.block mb' (Nat.lt_of_lt_of_le (Array.getElem?_eq_some_iff.1 h2).1 hB)).trans h2⟩

set_option maxRecDepth 100000 in
set_option maxHeartbeats 4000000 in
theorem spill_nil (bb tb root seq mb nn : Nat) (inl : Value) (D : DataW Unit) (R : Value → Option (DataW Unit × List MemPlace)) (w : World) (h : Blk w bb (bktC tb root seq inl (.pointer none) mb) 54) (hown : w.ownsMap Ybaz.prog 9 R mb nn D) (hD : Maps.size D ≤ 70000) (hss : (strKeys D).length ≤ 70000)
    (hk : ∀ w', Below w.heap.size w w' → ∀ s ∈ strKeys D, ∃ v, (Instr.lookup 52 (.map (some mb)) (encStr s) false).run Ybaz.prog w' = .ok v w' ∧ Kid w tb v) :
    Calls Ybaz.prog 6 #[.pointer (some ⟨bb, 0, none⟩)] w fun e w' => e = .returned .nilIface ∧ Below w.heap.size w w' := by
  have c6 := h.cell (j := 6) rfl
  have HH := hide (And.intro h (And.intro hown hk))
  clear h hown hk
  go_enter Ybaz.func6, Ybaz.ntmps6
  go_wp2_with fail
  refine (keysC _ w).mono ?_
  rintro e w1 ⟨rfl, rfl⟩
  go_wp2_with fail
  refine (sortedC mb nn D R w HH.out.2.1 hD).mono ?_
  rintro e w2 ⟨v, ss, rfl, hS, hrow, hnil, hb⟩
  have L2 : Below w.heap.size w w2 := ((Below.refl w.heap.size w).alloc (Nat.le_refl _) (.cells #[.map (some mb)] 52)).trans (hb.mono (by simp))
  obtain ⟨a, c, rfl, y1, y2, hr, y3, y4⟩ := owns_form hrow
  clear y1 y2 y3 y4
  have hlen : ss.length ≤ 70000 := by rw [hS.length_eq]; exact hss
  have HS : Hid (∀ s ∈ ss.mergeSort (fun x y => decide (x ≤ y)), s ∈ strKeys D) := fun s hs => hS.mem_iff.1 ((List.mergeSort_perm ss _).mem_iff.1 hs)
  have H2 := hide (And.intro L2 hr)
  clear hS hrow hnil hb L2 hr
  obtain ⟨zs, hzs⟩ : ∃ zs, zs = ss.mergeSort (fun x y => decide (x ≤ y)) := ⟨_, rfl⟩
  have hzl : zs.length = ss.length := by rw [hzs, List.length_mergeSort]
  rw [← hzs] at HS H2
  rw [← hzl] at hlen ⊢
  clear hzs hzl
  go_wp2_with fail
  go_loopw [19] (fun iv wr => ∃ i : Nat, i ≤ zs.length ∧ iv = .int .i64 (i : Int) ∧ Hid (Below w2.heap.size w2 wr)) (fun iv _ => zs.length - (intOf iv).toNat)
  case atStart => exact ⟨0, Nat.zero_le _, rfl, Below.refl _ _⟩
  case round =>
    obtain ⟨i, hi, rfl, HW⟩ := hrel
    clear c6
    have LW : Below w.heap.size w wr := H2.out.1.trans (HW.out.mono H2.out.1.size)
    have hB := HH.out.1.below LW HH.out.1.lt
    have c5 := hB.cell (j := 5) rfl
    have c6 := hB.cell (j := 6) rfl
    clear hB
    by_cases hlt : i < zs.length
    · obtain ⟨ad, rfl, cS⟩ := (H2.out.2.below HW.out (Nat.le_refl _)) i (encStr zs[i]) (by simp [List.getElem?_eq_getElem hlt])
      obtain ⟨v, hrun, hK⟩ := HH.out.2.2 wr LW zs[i] (HS.out _ (List.getElem_mem hlt))
      obtain ⟨cb, cr, cs, cm, rfl, k1, k2⟩ := hK.below LW (Nat.le_refl _)
      have HKK := hide (And.intro k1 (And.intro k2 LW))
      clear k1 k2 hK LW
      have hst : ∃ sx, encStr zs[i] = .string sx := ⟨_, rfl⟩
      obtain ⟨sx, hsx⟩ := hst
      rw [hsx] at cS hrun
      clear hsx
      go_wp2_with fail
      refine (spill_child cb tb cr cs cm _ wr HKK.out.1 HKK.out.2.1).mono ?_
      rintro e w5 ⟨rfl, L5⟩
      have H5 : Hid (Blk w5 cb (bktC tb cr cs (.slice none 0 0) (.pointer none) cm) 54 ∧ Below w2.heap.size w2 w5) := ⟨HKK.out.1.below L5 HKK.out.1.lt, HW.out.trans (L5.mono HW.out.size)⟩
      clear L5
      go_wp2_with fail
      refine (changed_no cb tb cr cs cm _ w5 H5.out.1).mono ?_
      rintro e w6 ⟨rfl, hw6⟩
      have hw6' := hw6.symm
      clear hw6
      subst hw6'
      go_wp2_with fail
      go_roundw
      case rel => exact ⟨i + 1, by omega, by go_num, H5.out.2⟩
      case measure => simp [intOf]; omega
    · go_wp2_with fail
      go_ret
      exact ⟨rfl, LW⟩

end Go.Proofs.YbulkeekaGreatFmt
