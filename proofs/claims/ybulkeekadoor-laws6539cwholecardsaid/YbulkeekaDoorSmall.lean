/-
  The law's small helpers: zzs6539chex, bytes.Clone, bytes.Equal, errors.New.
-/
import Derived.Test.YbulkeekaDoorRec
import Derived.Laws.BytesString
import Derived.Deep.RegionLaw
namespace Go.Proofs.YbulkeekaDoor
open Go.RowKit
set_option linter.unusedSimpArgs false
set_option linter.unusedVariables false
attribute [local go_sem ↓] Go.wp_at_zero Go.wp_at_succ

/-- a slice value that owns bytes, in memory that is new since 'w' -/
structure Own (w w' : World) (v : Value) (xs : List Int) : Prop where
  o : w'.ownsRow 0 5 1 v xs.length (xs.map (Value.int .u8))
  n : ∀ k, v.ownBlock = some k → w.heap.size ≤ k

def strOf (xs : List Int) : ByteArray := xs.foldl (fun r n => r.push (UInt8.ofNat n.toNat)) ByteArray.empty

theorem conv_run (w : World) (ao : Option Addr) (n c : Nat) (xs : List Int) (hr : Rd w ao (xs.map (Value.int .u8))) (hn : xs.length = n) (h0 : ao = none → n = 0 ∧ c = 0) :
    (convert 22 9 (.slice ao n c)).run Ybad.prog w = .ok (.string (strOf xs)) w := by
  rw [run_convert_bytes_string w 22 9 5 ao n c Ybad.underlying22 Ybad.underlying5 Ybad.underlying9]
  cases ao with
  | none =>
    obtain ⟨rfl, rfl⟩ := h0 rfl
    obtain rfl := List.eq_nil_of_length_eq_zero hn
    rfl
  | some ad =>
    refine run_bytesToString w ad n c xs ?_
    have := run_loadCells_list (P := Ybad.prog) w ad (xs.map (Value.int .u8)) (fun j v hv => by obtain ⟨a, e, h⟩ := hr j v hv; cases e; exact h)
    simpa [hn] using this

set_option maxHeartbeats 400000 in
theorem equal_any (w : World) (ao bo : Option Addr) (n c m d : Nat) (xs : List Int) (h1 : (convert 22 9 (.slice ao n c)).run Ybad.prog w = .ok (.string (strOf xs)) w) (h2 : (convert 22 9 (.slice bo m d)).run Ybad.prog w = .ok (.string (strOf xs)) w) :
    Calls Ybad.prog 9 #[.slice ao n c, .slice bo m d] w fun e w' => e = .returned (.bool true) ∧ w' = w := by
  go_enter Ybad.func9, Ybad.ntmps9
  go_wp2
  go_ret
  exact ⟨by simp, rfl⟩

set_option maxHeartbeats 400000 in
theorem errNew_any (w : World) (s : ByteArray) : Calls Ybad.prog 5 #[.string s] w fun e w' => e = .returned (.iface 37 (.pointer (some ⟨w.heap.size, 0, none⟩))) ∧ w' = w.alloc (.cells #[.string s] 39) := by
  go_enter Ybad.func5, Ybad.ntmps5
  go_wp2
  go_ret
  exact ⟨rfl, rfl⟩

theorem eqNil (w : World) (a : Option Addr) (n c : Nat) : (binOp .eql 22 (.slice a n c) (.slice none 0 0)).run Ybad.prog w = .ok (.bool a.isNone) w := Lib.run_eql_slice_nil w 22 5 a n c 0 0 Ybad.underlying22
attribute [local go_sem] eqNil

set_option maxHeartbeats 1000000 in
theorem clone_any (w : World) (ao : Option Addr) (n c : Nat) (xs : List Int) (hr : Rd w ao (xs.map (Value.int .u8))) (hn : xs.length = n) (h0 : ao = none → n = 0 ∧ c = 0) (hb : n ≤ 1048576) :
    Calls Ybad.prog 4 #[.slice ao n c] w fun e w' => ∃ v, e = .returned v ∧ Own w w' v xs ∧ Below w.heap.size w w' := by
  obtain ⟨ti, hi, hz0, hz1, hz2⟩ := info_parts info5
  cases ao with
  | none =>
    obtain ⟨rfl, rfl⟩ := h0 rfl
    obtain rfl := List.eq_nil_of_length_eq_zero hn
    go_enter Ybad.func4, Ybad.ntmps4
    go_wp2
    go_ret
    exact ⟨_, rfl, ⟨World.ownsRow_nil _ _ _ _, fun k h => by cases h⟩, Below.refl _ _⟩
  | some ad =>
    have own0 : (w.alloc (.cells #[] 5)).ownsRow 0 5 1 (.slice (some ⟨w.heap.size, 0, none⟩) 0 0) 0 [] := World.ownsRow_made w #[] 0 (Nat.zero_le _) (by unfold maxLen; omega) rfl
    obtain ⟨v', w1, hrun, ho1, hg1, hat⟩ := append_run (P := Ybad.prog) (T := 22) (ty := 22) (c := c) Ybad.underlying22 hi hz0 hz1 hz2 rfl own0 (by simpa using hn) (hr.below ((Below.refl w.heap.size w).alloc (Nat.le_refl _) _) (Nat.le_refl _)) h0 (ints_one _ xs) (by unfold maxLen; simp; omega) (by simp; omega)
    have L1 : Below w.heap.size w w1 := ((Below.refl w.heap.size w).alloc (Nat.le_refl _) (.cells #[] 5)).grown hg1 (by simp) (fun k hk => by simp [Value.ownBlock] at hk; omega)
    have HF : Hid (Own w w1 v' xs ∧ Below w.heap.size w w1) := by
      refine ⟨⟨by simpa [hn] using ho1, fun k hk => ?_⟩, L1⟩
      rcases hat with h | h
      · rw [h] at hk; simp [Value.ownBlock] at hk; omega
      · rw [h] at hk; simp at hk; omega
    clear own0 ho1 hg1 hat L1 hr hi
    go_enter Ybad.func4, Ybad.ntmps4
    go_wp2_with (at_builtin; refine wpList_append_by rfl (.tmp 5) (.tmp 6) 22 rfl _ _ rfl rfl hrun ?_)
    go_ret
    exact ⟨_, rfl, HF.out.1, HF.out.2⟩

theorem and15_all : ((List.range 256).all fun k => bits .and .u8 ((k : Nat) : Int) 15 == ((k : Nat) : Int) % 16) = true := by decide +kernel
theorem and15 (b : Int) (h0 : 0 ≤ b) (h1 : b < 256) : bits .and .u8 b 15 = b % 16 := by
  obtain ⟨k, rfl⟩ := Int.eq_ofNat_of_zero_le h0
  have := List.all_eq_true.1 and15_all k (List.mem_range.2 (by omega))
  simpa using this

set_option maxRecDepth 100000 in
set_option maxHeartbeats 2000000 in
theorem hexTable_any (w : World) (v0 : Value) (D xs : List Int) (so : Option Addr) (n c : Nat) (ho : w.ownsRow 0 5 1 v0 D.length (D.map (Value.int .u8))) (hx : Rd w so (xs.map (Value.int .u8))) (hn : xs.length = n) (hb : n ≤ 1048576) (hD : D.length ≤ 4000000)
    (hbx : ∀ x ∈ xs, 0 ≤ x ∧ x < 256) (hap : ∀ ad, so = some ad → v0.ownBlock ≠ some ad.block ∧ ad.block < w.heap.size) :
    Calls Ybad.prog 8 #[v0, .slice so n c] w fun e w' => ∃ v, e = .returned v ∧ w'.ownsRow 0 5 1 v (D ++ hexs xs).length ((D ++ hexs xs).map (Value.int .u8)) ∧ But (fun k => v0.ownBlock = some k) w w' ∧ (v.ownBlock = v0.ownBlock ∨ ∃ g, v.ownBlock = some g ∧ w.heap.size ≤ g) := by
  obtain ⟨ti, hi, hz0, hz1, hz2⟩ := info_parts info5
  obtain ⟨ao0, cap0, e0, _⟩ := owns_form ho
  have HH : Hid (w.ownsRow 0 5 1 v0 D.length (D.map (Value.int .u8)) ∧ Rd w so (xs.map (Value.int .u8)) ∧ Ybad.prog.info? 5 = some ti) := ⟨ho, hx, hi⟩
  obtain ⟨ob, hob⟩ : ∃ ob, ob = v0.ownBlock := ⟨_, rfl⟩
  rw [← hob] at hap ⊢
  have HO : Hid (ob = v0.ownBlock) := hob
  clear ho hx hi hob
  subst e0
  go_enter Ybad.func8, Ybad.ntmps8
  go_wp2
  go_loopw [0, 5] (fun v i wr => ∃ k : Nat, k ≤ n ∧ i = .int .i64 (k : Int) ∧ wr.ownsRow 0 5 1 v (D ++ hexs (xs.take k)).length ((D ++ hexs (xs.take k)).map (Value.int .u8)) ∧ But (fun k => ob = some k) w wr ∧ (v.ownBlock = ob ∨ ∃ g, v.ownBlock = some g ∧ w.heap.size ≤ g)) (fun _ i _ => n - (intOf i).toNat)
  case atStart => exact ⟨0, Nat.zero_le _, rfl, by simpa [hexs] using HH.out.1, But.refl _ _, Or.inl HO.out.symm⟩
  case round =>
    obtain ⟨k, hk, rfl, hr, hs, hvo⟩ := hrel
    by_cases hlt : k < n
    · have hkx : k < xs.length := by omega
      obtain ⟨b, hbk⟩ : ∃ b, xs[k]? = some b := ⟨_, List.getElem?_eq_getElem hkx⟩
      have hbd := hbx b (List.mem_of_getElem? hbk)
      obtain ⟨ad, rfl, cx⟩ := (HH.out.2.1.but hs (fun a e => by have := hap a e; exact this.1)) k (.int .u8 b) (by simp [hbk])
      have hl2 : (D ++ hexs (xs.take k)).length = D.length + 2 * k := by rw [List.length_append, hexs_length, List.length_take]; omega
      obtain ⟨v1, w1, hrun, ho1, hg1, hat⟩ := append_run (P := Ybad.prog) (w := (wr.alloc (.cells #[.int .u8 (dig (b / 16)), .int .u8 (dig (b % 16))] 5)).drew) (T := 22) (ty := 22) (c := 2) (m := 2) (ao := some ⟨wr.heap.size, 0, none⟩) (news := [Value.int .u8 (dig (b / 16)), .int .u8 (dig (b % 16))]) Ybad.underlying22 HH.out.2.2 hz0 hz1 hz2 rfl (hr.alloc _).drew rfl
        (fun j u hu => ⟨_, rfl, by
          have := (Blk.new wr [Value.int .u8 (dig (b / 16)), .int .u8 (dig (b % 16))] 5).cell hu
          rw [Addr.add_lit, Nat.zero_add]; exact this⟩)
        (fun h => by cases h) (by intro u hu; simp at hu; rcases hu with rfl | rfl <;> rfl) (by unfold maxLen; omega) (by omega)
      have P1 : But (fun k => ob = some k) w w1 := by
        have Q : But (fun k => ob = some k) w (wr.alloc (.cells #[.int .u8 (dig (b / 16)), .int .u8 (dig (b % 16))] 5)).drew := (hs.alloc _).drew
        refine Q.trans2 (But.of_grown (S := fun k => u0.ownBlock = some k) hg1 (fun k hk => hk)) (fun i hi h => ?_)
        rcases hvo with h1 | ⟨g, h1, h2⟩
        · rw [← h1]; exact h
        · rw [h1] at h; cases h; omega
      have V1 : v1.ownBlock = ob ∨ ∃ g, v1.ownBlock = some g ∧ w.heap.size ≤ g := by
        rcases hat with h1 | h1
        · rw [h1]; exact hvo
        · refine Or.inr ⟨_, h1, ?_⟩
          have := hs.size; simp; omega
      have e1 : xs.take (k + 1) = xs.take k ++ [b] := by
        rw [List.take_succ_eq_append_getElem hkx]
        have : xs[k] = b := by rw [List.getElem?_eq_getElem hkx] at hbk; exact Option.some.inj hbk
        rw [this]
      have e2 : D ++ hexs (xs.take (k + 1)) = (D ++ hexs (xs.take k)) ++ [dig (b / 16), dig (b % 16)] := by
        rw [e1, hexs_append, List.append_assoc]; simp [hexs]
      have HX : Hid (w1.ownsRow 0 5 1 v1 (D ++ hexs (xs.take (k + 1))).length ((D ++ hexs (xs.take (k + 1))).map (Value.int .u8)) ∧ But (fun k => ob = some k) w w1 ∧ (v1.ownBlock = ob ∨ ∃ g, v1.ownBlock = some g ∧ w.heap.size ≤ g)) := by
        refine ⟨?_, P1, V1⟩
        rw [e2]
        rw [List.length_append, List.map_append]
        exact ho1
      have d0 : 0 ≤ b / 16 := by omega
      have d1 : b / 16 < 16 := by omega
      have d2 : 0 ≤ b % 16 := by omega
      have d3 : b % 16 < 16 := by omega
      have x1 := hexAt (b / 16) d0 d1
      have x2 := hexAt (b % 16) d2 d3
      have x3 := and15 b hbd.1 hbd.2
      clear e1 e2 V1 P1 ho1 hg1 hat hr hs hvo hl2
      go_wp2_with fail
      go_region_held3 (fun w' => True) (trivial) (refine step_append_by (by rfl) (.tmp 17) (.tmp 24) 22 (by rfl) _ _ (by rfl) (by rfl) hrun ?_)
      all_goals go_wp2_with fail
      all_goals exact ⟨⟨k + 1, by omega, by go_num, HX.out.1, HX.out.2.1, HX.out.2.2⟩, by simp [intOf]; omega⟩
    · obtain rfl : k = n := by omega
      rw [List.take_of_length_le (Nat.le_of_eq hn)] at hr
      have HX := hide (And.intro hr (And.intro hs hvo))
      clear hr hs hvo
      go_wp2_with fail
      go_ret
      exact ⟨_, rfl, HX.out.1, HX.out.2.1, HX.out.2.2⟩

end Go.Proofs.YbulkeekaDoor
