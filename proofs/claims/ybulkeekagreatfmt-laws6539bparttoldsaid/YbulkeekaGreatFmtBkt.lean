/-
  BUCKETS AND TRANSACTIONS IN MEMORY; THE WALKS of newBucket, changed, mergeUnder, rebalance, inlinable, free, freeNode.
-/
import Derived.Test.YbulkeekaGreatFmtImg
import Derived.Carry
import Derived.LaidEql
import Derived.Laws.BitsAllLaws
namespace Go.Proofs.YbulkeekaGreatFmt
open Go.RowKit
set_option linter.unusedSimpArgs false
set_option linter.unusedVariables false

/-- a bucket's eight cells -/
def bktC (tb root seq : Nat) (inl rn : Value) (mb : Nat) : List Value :=
  [.float .f64 4602678819172646912, .pointer (some ⟨tb, 0, none⟩), .int .u64 root, .int .u64 seq, inl, rn, .map (some mb), .bool false]

set_option maxHeartbeats 1000000 in
theorem newBucket_any (tb root seq : Nat) (w : World) :
    Calls Ybaz.prog 4 #[.pointer (some ⟨tb, 0, none⟩), .agg #[.int .u64 root, .int .u64 seq]] w fun e w' => e = .returned (.pointer (some ⟨w.heap.size + 2, 0, none⟩)) ∧ w'.heap[w.heap.size + 1]? = some (.map #[] 0) ∧ Blk w' (w.heap.size + 2) (bktC tb root seq (.slice none 0 0) (.pointer none) (w.heap.size + 1)) 54 ∧ Below w.heap.size w w' ∧ w'.heap.size = w.heap.size + 3 := by
  have hm : ∀ w : World, (Instr.makeMap 52 none).run Ybaz.prog w = .ok (.map (some w.heap.size)) (w.alloc (.map #[] 0)) := fun w => run_makeMap 52 w
  go_enter Ybaz.func4, Ybaz.ntmps4
  go_wp2_with fail
  go_ret
  have h1 : (((w.alloc (.cells #[.int .u64 root, .int .u64 seq] 35)).alloc (.map #[] 0)).alloc (.cells (bktC tb root seq (.slice none 0 0) (.pointer none) (w.heap.size + 1)).toArray 54)).heap.size = w.heap.size + 3 := by simp
  have h2 := Blk.new ((w.alloc (.cells #[.int .u64 root, .int .u64 seq] 35)).alloc (.map #[] 0)) (bktC tb root seq (.slice none 0 0) (.pointer none) (w.heap.size + 1)) 54
  have h3 : ((w.alloc (.cells #[.int .u64 root, .int .u64 seq] 35)).alloc (.map #[] 0)).heap.size = w.heap.size + 2 := by simp
  rw [h3] at h2
  have h4 : (((w.alloc (.cells #[.int .u64 root, .int .u64 seq] 35)).alloc (.map #[] 0)).alloc (.cells (bktC tb root seq (.slice none 0 0) (.pointer none) (w.heap.size + 1)).toArray 54)).heap[w.heap.size + 1]? = some (.map #[] 0) := by
    rw [Below.heap_alloc _ _ _ (by rw [h3]; omega)]
    have := heap_alloc_new (w.alloc (.cells #[.int .u64 root, .int .u64 seq] 35)) (.map #[] 0)
    simpa using this
  have h5 : Below w.heap.size w (((w.alloc (.cells #[.int .u64 root, .int .u64 seq] 35)).alloc (.map #[] 0)).alloc (.cells (bktC tb root seq (.slice none 0 0) (.pointer none) (w.heap.size + 1)).toArray 54)) := (((But.refl (fun _ => False) w).alloc _).alloc _ |>.alloc _).below (fun _ h => h.elim) (Nat.le_refl _)
  exact ⟨by simp, h4, h2, h5, h1⟩

set_option maxHeartbeats 1000000 in
theorem changed_no (bb tb root seq mb : Nat) (inl : Value) (w : World) (h : Blk w bb (bktC tb root seq inl (.pointer none) mb) 54) :
    Calls Ybaz.prog 11 #[.pointer (some ⟨bb, 0, none⟩)] w fun e w' => e = .returned (.bool false) ∧ w' = w := by
  have c5 := h.cell (j := 5) rfl
  have c7 := h.cell (j := 7) rfl
  clear h
  go_enter Ybaz.func11, Ybaz.ntmps11
  go_wp2_with fail
  go_ret
  exact ⟨rfl, rfl⟩

set_option maxHeartbeats 1000000 in
theorem mergeUnder_leaf (bv : Value) {w : World} {nb id ov gi : Nat} {es : List Ino} (h : Nod w nb id ov gi es) :
    Calls Ybaz.prog 32 #[bv, .pointer (some ⟨nb, 0, none⟩)] w fun e w' => e = .returned .nilIface ∧ w' = w := by
  have c2 := h.B.cell (j := 2) rfl
  clear h
  go_enter Ybaz.func32, Ybaz.ntmps32
  go_wp2_with fail
  go_ret
  exact ⟨rfl, rfl⟩

set_option maxHeartbeats 1000000 in
theorem rebalance_leaf (bb tb root seq mb : Nat) (inl : Value) {w : World} {nb id ov gi : Nat} {es : List Ino} (hb : Blk w bb (bktC tb root seq inl (.pointer (some ⟨nb, 0, none⟩)) mb) 54) (h : Nod w nb id ov gi es) :
    Calls Ybaz.prog 14 #[.pointer (some ⟨bb, 0, none⟩)] w fun e w' => e = .returned .nilIface ∧ w' = w := by
  have c5 := hb.cell (j := 5) rfl
  have c2 := h.B.cell (j := 2) rfl
  have HH := hide h
  clear h hb
  go_enter Ybaz.func14, Ybaz.ntmps14
  go_wp2_with fail
  refine (mergeUnder_leaf _ HH.out).mono ?_
  rintro e w1 ⟨rfl, hw⟩
  have hw' := hw.symm
  clear hw
  subst hw'
  go_wp2_with fail
  go_loopw [4] (fun v wr => v = .pointer (some ⟨nb, 0, none⟩) ∧ wr = w) (fun _ _ => 0)
  case atStart => exact ⟨rfl, rfl⟩
  case round =>
    obtain ⟨rfl, hw⟩ := hrel
    have hw' := hw.symm
    clear hw
    subst hw'
    go_wp2_with fail
    go_ret
    exact ⟨rfl, rfl⟩

theorem sizeB : (Ybaz.prog.info? 54).map (·.size) = some 8 := by kernel_rfl
theorem sizeT : (Ybaz.prog.info? 47).map (·.size) = some 19 := by kernel_rfl
theorem sizeN : (Ybaz.prog.info? 60).map (·.size) = some 5 := by kernel_rfl

/-- two pointers at different blocks -/
theorem eql_other {t te : TypeId} {n : Nat} (ht : Ybaz.prog.underlying t = some (.pointer te)) (hs : (Ybaz.prog.info? te).map (·.size) = some (n + 1)) {w : World} {a b : Nat} {La Lb : List Value} {ta tb : TypeId} (hne : a ≠ b) (ha : Blk w a La ta) (hb : Blk w b Lb tb) :
    (binOp .eql t (.pointer (some ⟨a, 0, none⟩)) (.pointer (some ⟨b, 0, none⟩))).run Ybaz.prog w = .ok (.bool false) w := by
  obtain ⟨j, hj, hn⟩ := Option.map_eq_some_iff.1 hs
  have hsz : j.size ≠ 0 := by omega
  have h9 : (⟨a, 0, none⟩ : Addr) ≠ ⟨b, 0, none⟩ := fun h => hne (congrArg Addr.block h)
  have h : ∀ d : Nat, (Op.equalIn (d + 1) t (.pointer (some ⟨a, 0, none⟩)) (.pointer (some ⟨b, 0, none⟩))).run Ybaz.prog w = .ok false w := fun d => by
    simp [Op.equalIn, run_underlying ht, typeInfo, sizeOf, hj, hsz, run_sameAddr_other w h9 ha hb]
  simp only [binOp]
  simp [Op.equal, Op.maxDepth, h 9999]
theorem neq_same {t te : TypeId} {n : Nat} (ht : Ybaz.prog.underlying t = some (.pointer te)) (hs : (Ybaz.prog.info? te).map (·.size) = some (n + 1)) (w : World) (a : Addr) :
    (binOp .neq t (.pointer (some a)) (.pointer (some a))).run Ybaz.prog w = .ok (.bool false) w := by
  obtain ⟨j, hj, hn⟩ := Option.map_eq_some_iff.1 hs
  have hsz : j.size ≠ 0 := by omega
  have h : ∀ d : Nat, (Op.equalIn (d + 1) t (.pointer (some a)) (.pointer (some a))).run Ybaz.prog w = .ok true w := fun d => by
    simp [Op.equalIn, run_underlying ht, typeInfo, sizeOf, hj, hsz, run_sameAddr_same]
  simp only [binOp]
  simp [Op.equal, Op.maxDepth, h 9999]

/-- a transaction's nineteen cells -/
def txC (ps rb : Nat) (fv : Value) : List Value :=
  [.pointer none, .bool true, .bool false, .int .u32 ps, .int .u64 0, .int .u64 0, .int .u64 0, .int .u64 0, .int .u64 0, .pointer none, .pointer (some ⟨rb, 0, none⟩), fv, .slice none 0 0, .slice none 0 0, .map none, .map none, .nilIface, .slice none 0 0, .bool false]

theorem and_one (f : Nat) (h : f < 4294967296) (h1 : f &&& 1 = 0) : bits .and .u32 (f : Int) 1 = 0 := by
  have := u32_and_nat f 1 h (by decide)
  rw [h1] at this
  exact this

set_option maxRecDepth 100000 in
set_option maxHeartbeats 2000000 in
theorem inlinable_yes (bb tb root seq mb ps rb : Nat) (inl fv : Value) {w : World} {nb id ov gi : Nat} {es : List Ino} (hb : Blk w bb (bktC tb root seq inl (.pointer (some ⟨nb, 0, none⟩)) mb) 54) (ht : Blk w tb (txC ps rb fv) 47) {Lr : List Value} {tr : TypeId} (hr : Blk w rb Lr tr) (h : Nod w nb id ov gi es)
    (hne : rb ≠ bb) (hn : es.length ≤ 65536) (hs : sizes es ≤ 3000000) (hps : 4 * (16 + sizes es) ≤ ps) (hps2 : ps < 4294967296) (hfl : ∀ e ∈ es, e.fl < 4294967296 ∧ e.fl &&& 1 = 0) :
    Calls Ybaz.prog 15 #[.pointer (some ⟨bb, 0, none⟩), .pointer (some ⟨nb, 0, none⟩)] w fun e w' => e = .returned (.bool true) ∧ Below w.heap.size w w' := by
  have c1 := hb.cell (j := 1) rfl
  have c10 := ht.cell (j := 10) rfl
  have c2 := h.B.cell (j := 2) rfl
  have c3 := h.B.cell (j := 3) rfl
  have HH := hide (And.intro h (And.intro hb (And.intro ht hfl)))
  clear h hb ht hfl
  have eP := eql_other (w := w) Ybaz.underlying40 sizeB (fun h => hne h.symm) HH.out.2.1 hr
  clear hr
  go_enter Ybaz.func15, Ybaz.ntmps15
  go_wp2_with fail
  clear eP
  go_loopw [28] (fun iv wr => ∃ i : Nat, i ≤ es.length ∧ iv = .int .i64 (i : Int) ∧ Hid (Below w.heap.size w wr)) (fun iv _ => es.length - (intOf iv).toNat)
  case atStart => exact ⟨0, Nat.zero_le _, rfl, Below.refl _ _⟩
  case round =>
    obtain ⟨i, hi, rfl, HW⟩ := hrel
    clear c1 c10 c2 c3
    by_cases hlt : i < es.length
    · have N := HH.out.1.below HW.out
      have d0 : wr.cell? ⟨gi, i * 5, none⟩ = some (.int .u32 es[i].fl) := N.cell i 0 hlt rfl (by omega)
      have d1 := N.cell i 1 hlt rfl (by omega)
      have d2 := N.cell i 2 hlt rfl (by omega)
      have d3 := N.cell i 3 hlt rfl (by omega)
      have d4 := N.cell i 4 hlt rfl (by omega)
      have hf := HH.out.2.2.2 es[i] (List.getElem_mem hlt)
      have eA := and_one es[i].fl hf.1 hf.2
      have L1 : Hid (Below w.heap.size w (wr.alloc (.cells #[.int .u32 es[i].fl, .slice es[i].ka es[i].key.length es[i].kc, .slice es[i].va es[i].val.length es[i].vc, .int .u64 0, .pointer none] 58))) := HW.out.alloc HW.out.size _
      clear N hf
      go_wp2_with fail
      go_roundw
      case rel => exact ⟨i + 1, by omega, by go_num, L1.out⟩
      case measure => simp [intOf]; omega
    · have hB2 := HH.out.2.1.below HW.out HH.out.2.1.lt
      have hT2 := HH.out.2.2.1.below HW.out HH.out.2.2.1.lt
      have c1 := hB2.cell (j := 1) rfl
      have c3 := hT2.cell (j := 3) rfl
      have HC : Hid (Calls Ybaz.prog 34 #[.pointer (some ⟨nb, 0, none⟩)] wr.drew fun e w' => e = .returned (.int .i64 ((16 + sizes es : Nat) : Int)) ∧ (w'.cell? ⟨bb, 1, none⟩ = some (.pointer (some ⟨tb, 0, none⟩)) ∧ w'.cell? ⟨tb, 3, none⟩ = some (.int .u32 ps)) ∧ Hid (Below w.heap.size w w')) := by
        have N : Nod wr.drew nb id ov gi es := HH.out.1.below (HW.out.trans ⟨rfl, rfl, rfl, Nat.le_refl _, fun _ _ => rfl⟩)
        refine (size_any N hn (by omega)).mono ?_
        rintro e w' ⟨rfl, L⟩
        have L' : Below wr.heap.size wr w' := (show Below wr.heap.size wr wr.drew from ⟨rfl, rfl, rfl, Nat.le_refl _, fun _ _ => rfl⟩).trans L
        exact ⟨rfl, ⟨(hB2.below L' hB2.lt).cell (j := 1) rfl, (hT2.below L' hT2.lt).cell (j := 3) rfl⟩, HW.out.trans (L'.mono HW.out.size)⟩
      clear hB2 hT2
      have e1 : IntKind.i64.wrap ((ps : Nat) : Int) = (ps : Int) := by rw [IntKind.wrap_i64]; omega
      have e2 : IntKind.i64.wrap ((ps : Int) / 4) = (ps : Int) / 4 := by rw [IntKind.wrap_i64]; omega
      have e3 : ((16 + sizes es : Nat) : Int) ≤ (ps : Int) / 4 := by omega
      go_upto_region 9 with (fail)
      go_region_held3 (fun w' => w'.cell? ⟨bb, 1, none⟩ = some (.pointer (some ⟨tb, 0, none⟩)) ∧ w'.cell? ⟨tb, 3, none⟩ = some (.int .u32 ps)) (go_keep) ((go_at_call 34; refine HC.out.mono ?_; rintro e w9 ⟨rfl, ⟨k1, k3⟩, HQ⟩))
      go_wp2_with fail
      go_ret
      exact ⟨congrArg (fun z => Ending.returned (Value.bool z)) (decide_eq_true (by omega)), HQ.out⟩

theorem info32 : (Ybaz.prog.info? 32).map (fun i => (i.zero, i.size, i.bytes)) = some (some (.int .u64 0), 1, 8) := by kernel_rfl

abbrev u64s (xs : List Nat) : List Value := xs.map (fun (b : Nat) => Value.int .u64 (b : Int))

/-- one page more is freed -/
theorem pushF {w : World} {tb ps rb : Nat} {fv : Value} {xs : List Nat} (ht : Blk w tb (txC ps rb fv) 47) (ho : w.ownsRow 0 32 1 fv xs.length (u64s xs)) (hne : ∀ k, fv.ownBlock = some k → k ≠ tb) (x : Nat) (hl : xs.length ≤ 3000000) :
    ∃ v' w', (Builtin.append_ #[31, 31] 31 #[fv, .slice (some ⟨w.heap.size, 0, none⟩) 1 1]).run Ybaz.prog (w.alloc (.cells #[.int .u64 (x : Int)] 32)) = .ok v' w' ∧
      Hid (Blk w' tb (txC ps rb fv) 47 ∧ Blk (w'.setCell ⟨tb, 11, none⟩ v') tb (txC ps rb v') 47 ∧ (w'.setCell ⟨tb, 11, none⟩ v').ownsRow 0 32 1 v' (xs ++ [x]).length (u64s (xs ++ [x])) ∧ (∀ k, v'.ownBlock = some k → k ≠ tb) ∧ But (fun k => k = tb ∨ fv.ownBlock = some k) w (w'.setCell ⟨tb, 11, none⟩ v') ∧ (v'.ownBlock = fv.ownBlock ∨ ∃ g, v'.ownBlock = some g ∧ w.heap.size ≤ g)) := by
  obtain ⟨ti, hi, hz0, hz1, hz2⟩ := info_parts info32
  have ho0 : (w.alloc (.cells #[.int .u64 (x : Int)] 32)).ownsRow 0 32 1 fv xs.length (u64s xs) := owns_but ho ((But.refl (fun _ => False) w).alloc _) (fun _ _ h => h)
  obtain ⟨v1, w1, hrun, ho1, hg1, hat⟩ := append_run (P := Ybaz.prog) (w := w.alloc (.cells #[.int .u64 (x : Int)] 32)) (T := 31) (ty := 31) (c := 1) (m := 1) (ao := some ⟨w.heap.size, 0, none⟩) (news := [.int .u64 (x : Int)]) Ybaz.underlying31 hi hz0 hz1 hz2 rfl ho0 rfl
    (fun j u hu => ⟨_, rfl, by
      have := (Blk.new w [.int .u64 (x : Int)] 32).cell hu
      rw [Addr.add_lit, Nat.zero_add]; exact this⟩)
    (fun h => by cases h) (by simp [Value.oneCell']) (by unfold maxLen; omega) (by omega)
  have P : But (fun k => fv.ownBlock = some k) w w1 := ((But.refl _ w).alloc _).trans (But.of_grown hg1 (fun k hk => hk))
  have T1 : Blk w1 tb (txC ps rb fv) 47 := ht.but P (fun h => hne tb h rfl)
  have V : v1.ownBlock = fv.ownBlock ∨ ∃ g, v1.ownBlock = some g ∧ w.heap.size ≤ g := by
    rcases hat with h | h
    · exact Or.inl h
    · exact Or.inr ⟨_, h, by simp⟩
  have V' : ∀ k, v1.ownBlock = some k → k ≠ tb := by
    intro k hk
    rcases V with h | ⟨g, h1, h2⟩
    · exact hne k (h ▸ hk)
    · rw [h1] at hk; cases hk
      have := ht.lt
      omega
  have Q : But (fun k => k = tb) w1 (w1.setCell ⟨tb, 11, none⟩ v1) := (But.refl (fun k => k = tb) w1).setCell (p := ⟨tb, 11, none⟩) (Or.inr rfl) v1
  refine ⟨v1, w1, hrun, T1, T1.set 11 v1, ?_, V', ?_, V⟩
  · have h9 := owns_but ho1 Q (fun k hk => V' k hk)
    simpa using h9
  · exact ⟨Q.os.trans P.os, Q.tape.trans P.tape, Q.output.trans P.output, Nat.le_trans P.size Q.size, fun i hi hS => (Q.block i (Nat.lt_of_lt_of_le hi P.size) (fun h => hS (Or.inl h))).trans (P.block i hi (fun h => hS (Or.inr h)))⟩

end Go.Proofs.YbulkeekaGreatFmt
