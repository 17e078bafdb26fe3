/-
  THE WALKS of slices.Clone and slices.Equal at this dump's types.
-/
import Derived.Test.YbulkeekoFmtDecC

namespace Go.Proofs.YbulkeekoFmt
open Go.RowKit
set_option linter.unusedSimpArgs false
set_option linter.unusedVariables false

theorem Rd.lt_of {w : World} {ao : Option Addr} {xs : List Value} (h : Rd w ao xs) (h0 : xs.length ≠ 0) {ad : Addr} (e : ao = some ad) : ad.block < w.heap.size := by
  cases xs with
  | nil => exact absurd rfl h0
  | cons x xs =>
    obtain ⟨a, e', hc⟩ := h 0 x rfl
    rw [e] at e'; cases e'
    have := World.block_lt_of_cell? w _ hc
    rwa [addr_block] at this

/-- a slice value that owns its row, in memory that is new since 'w' -/
structure Own (w w' : World) (e : TypeId) (v : Value) (xs : List Value) : Prop where
  o : w'.ownsRow 0 e 1 v xs.length xs
  n : ∀ k, v.ownBlock = some k → w.heap.size ≤ k

theorem info5 : (Ybaf.prog.info? 5).map (fun i => (i.zero, i.size, i.bytes)) = some (some (.int .u8 0), 1, 1) := by kernel_rfl
theorem info3 : (Ybaf.prog.info? 3).map (fun i => (i.zero, i.size, i.bytes)) = some (some (.int .i64 0), 1, 8) := by kernel_rfl
theorem info40 : (Ybaf.prog.info? 40).map (fun i => (i.zero, i.size, i.bytes)) = some (some (.int .u16 0), 1, 2) := by kernel_rfl
theorem eqNil22 (w : World) (a : Option Addr) (n c : Nat) : (binOp .eql 22 (.slice a n c) (.slice none 0 0)).run Ybaf.prog w = .ok (.bool a.isNone) w := Lib.run_eql_slice_nil w 22 5 a n c 0 0 Ybaf.underlying22
theorem eqNil36 (w : World) (a : Option Addr) (n c : Nat) : (binOp .eql 36 (.slice a n c) (.slice none 0 0)).run Ybaf.prog w = .ok (.bool a.isNone) w := Lib.run_eql_slice_nil w 36 3 a n c 0 0 Ybaf.underlying36
theorem eqNil37 (w : World) (a : Option Addr) (n c : Nat) : (binOp .eql 37 (.slice a n c) (.slice none 0 0)).run Ybaf.prog w = .ok (.bool a.isNone) w := Lib.run_eql_slice_nil w 37 40 a n c 0 0 Ybaf.underlying37
theorem eqNil38 (w : World) (a : Option Addr) (n c : Nat) : (binOp .eql 38 (.slice a n c) (.slice none 0 0)).run Ybaf.prog w = .ok (.bool a.isNone) w := Lib.run_eql_slice_nil w 38 40 a n c 0 0 Ybaf.underlying38
attribute [local go_sem] eqNil22 eqNil36 eqNil37 eqNil38

set_option maxHeartbeats 1000000 in
theorem clone5_any (w : World) (ao : Option Addr) (n c : Nat) (xs : List Value) (hr : Rd w ao xs) (hone : ∀ u ∈ xs, u.oneCell' = true) (hn : xs.length = n) (h0 : ao = none → n = 0 ∧ c = 0) (hb : n ≤ 1048576) :
    Calls Ybaf.prog 5 #[.slice ao n c] w fun e w' => ∃ v, e = .returned v ∧ Own w w' 5 v xs ∧ Below w.heap.size w w' := by
  obtain ⟨ti, hi, hz0, hz1, hz2⟩ := info_parts info5
  cases ao with
  | none =>
    obtain ⟨rfl, rfl⟩ := h0 rfl
    obtain rfl := List.eq_nil_of_length_eq_zero hn
    go_enter Ybaf.func5, Ybaf.ntmps5
    go_wp2
    go_ret
    exact ⟨_, rfl, ⟨World.ownsRow_nil _ _ _ _, fun k h => by cases h⟩, Below.refl _ _⟩
  | some ad =>
    have own0 : (w.alloc (.cells #[] 5)).ownsRow 0 5 1 (.slice (some ⟨w.heap.size, 0, none⟩) 0 0) 0 [] := World.ownsRow_made w #[] 0 (Nat.zero_le _) (by unfold maxLen; omega) rfl
    obtain ⟨v', w1, hrun, ho1, hg1, hat⟩ := append_run (P := Ybaf.prog) (T := 22) (ty := 22) (c := c) Ybaf.underlying22 hi hz0 hz1 hz2 rfl own0 (by simpa using hn) (hr.below ((Below.refl w.heap.size w).alloc (Nat.le_refl _) _) (Nat.le_refl _)) h0 hone (by unfold maxLen; simp; omega) (by simp; omega)
    have L1 : Below w.heap.size w w1 := ((Below.refl w.heap.size w).alloc (Nat.le_refl _) (.cells #[] 5)).grown hg1 (by simp) (fun k hk => by simp [Value.ownBlock] at hk; omega)
    have HF : Hid (Own w w1 5 v' xs ∧ Below w.heap.size w w1) := by
      refine ⟨⟨by simpa [hn] using ho1, fun k hk => ?_⟩, L1⟩
      rcases hat with h | h
      · rw [h] at hk; simp [Value.ownBlock] at hk; omega
      · rw [h] at hk; simp at hk; omega
    clear own0 ho1 hg1 hat L1 hr hi hone
    go_enter Ybaf.func5, Ybaf.ntmps5
    go_wp2_with (at_builtin; refine wpList_append_by rfl (.tmp 5) (.tmp 6) 22 rfl _ _ rfl rfl hrun ?_)
    go_ret
    exact ⟨_, rfl, HF.out.1, HF.out.2⟩

set_option maxHeartbeats 1000000 in
theorem equal7_true (w : World) (ao bo : Option Addr) (n c d : Nat) (xs : List Value) (hx : ∀ v ∈ xs, ∃ x, v = .int .u8 x) (hr : Rd w ao xs) (hs : Rd w bo xs) (hn : xs.length = n) (hb : n ≤ 9000000) :
    Calls Ybaf.prog 7 #[.slice ao n c, .slice bo n d] w fun e w' => e = .returned (.bool true) ∧ ∃ q, w' = w.drewN q := by
  have HH := hide (And.intro hx (And.intro hr hs))
  clear hx hr hs
  go_enter Ybaf.func7, Ybaf.ntmps7
  go_wp2
  go_loopw [13] (fun i wr => ∃ k q : Nat, k ≤ n ∧ i = .int .i64 k ∧ wr = w.drewN q) (fun i _ => n - (intOf i).toNat)
  case atStart => exact ⟨0, 0, Nat.zero_le _, rfl, rfl⟩
  case round =>
    obtain ⟨k, q, hk, rfl, rfl⟩ := hrel
    by_cases hlt : k < n
    · have hk' : k < xs.length := by omega
      obtain ⟨x, ex⟩ := HH.out.1 _ (List.getElem_mem hk')
      have g1 : xs[k]? = some (.int .u8 x) := by rw [List.getElem?_eq_getElem hk', ex]
      obtain ⟨ad, rfl, ca⟩ := HH.out.2.1 k _ g1
      obtain ⟨bd, rfl, cb⟩ := HH.out.2.2 k _ g1
      clear g1 ex
      go_wp2_with fail
      go_quiet (fail)
      go_wp2_with fail
      go_roundw
      case rel => exact ⟨k + 1, _, by omega, by go_num, rfl⟩
      case measure => simp [intOf]; omega
    · obtain rfl : k = n := by omega
      go_wp2_with fail
      go_ret
      exact ⟨rfl, _, rfl⟩

set_option maxHeartbeats 1000000 in
theorem clone8_any (w : World) (ao : Option Addr) (n c : Nat) (xs : List Value) (hr : Rd w ao xs) (hone : ∀ u ∈ xs, u.oneCell' = true) (hn : xs.length = n) (h0 : ao = none → n = 0 ∧ c = 0) (hb : n ≤ 1048576) :
    Calls Ybaf.prog 8 #[.slice ao n c] w fun e w' => ∃ v, e = .returned v ∧ Own w w' 40 v xs ∧ Below w.heap.size w w' := by
  obtain ⟨ti, hi, hz0, hz1, hz2⟩ := info_parts info40
  cases ao with
  | none =>
    obtain ⟨rfl, rfl⟩ := h0 rfl
    obtain rfl := List.eq_nil_of_length_eq_zero hn
    go_enter Ybaf.func8, Ybaf.ntmps8
    go_wp2
    go_ret
    exact ⟨_, rfl, ⟨World.ownsRow_nil _ _ _ _, fun k h => by cases h⟩, Below.refl _ _⟩
  | some ad =>
    have own0 : (w.alloc (.cells #[] 40)).ownsRow 0 40 1 (.slice (some ⟨w.heap.size, 0, none⟩) 0 0) 0 [] := World.ownsRow_made w #[] 0 (Nat.zero_le _) (by unfold maxLen; omega) rfl
    obtain ⟨v', w1, hrun, ho1, hg1, hat⟩ := append_run (P := Ybaf.prog) (T := 38) (ty := 38) (c := c) Ybaf.underlying38 hi hz0 hz1 hz2 rfl own0 (by simpa using hn) (hr.below ((Below.refl w.heap.size w).alloc (Nat.le_refl _) _) (Nat.le_refl _)) h0 hone (by unfold maxLen; simp; omega) (by simp; omega)
    have L1 : Below w.heap.size w w1 := ((Below.refl w.heap.size w).alloc (Nat.le_refl _) (.cells #[] 40)).grown hg1 (by simp) (fun k hk => by simp [Value.ownBlock] at hk; omega)
    have HF : Hid (Own w w1 40 v' xs ∧ Below w.heap.size w w1) := by
      refine ⟨⟨by simpa [hn] using ho1, fun k hk => ?_⟩, L1⟩
      rcases hat with h | h
      · rw [h] at hk; simp [Value.ownBlock] at hk; omega
      · rw [h] at hk; simp at hk; omega
    clear own0 ho1 hg1 hat L1 hr hi hone
    go_enter Ybaf.func8, Ybaf.ntmps8
    go_wp2_with (at_builtin; refine wpList_append_by rfl (.tmp 5) (.tmp 6) 38 rfl _ _ rfl rfl hrun ?_)
    go_ret
    exact ⟨_, rfl, HF.out.1, HF.out.2⟩

set_option maxHeartbeats 1000000 in
theorem clone9_any (w : World) (ao : Option Addr) (n c : Nat) (xs : List Value) (hr : Rd w ao xs) (hone : ∀ u ∈ xs, u.oneCell' = true) (hn : xs.length = n) (h0 : ao = none → n = 0 ∧ c = 0) (hb : n ≤ 1048576) :
    Calls Ybaf.prog 9 #[.slice ao n c] w fun e w' => ∃ v, e = .returned v ∧ Own w w' 40 v xs ∧ Below w.heap.size w w' := by
  obtain ⟨ti, hi, hz0, hz1, hz2⟩ := info_parts info40
  cases ao with
  | none =>
    obtain ⟨rfl, rfl⟩ := h0 rfl
    obtain rfl := List.eq_nil_of_length_eq_zero hn
    go_enter Ybaf.func9, Ybaf.ntmps9
    go_wp2
    go_ret
    exact ⟨_, rfl, ⟨World.ownsRow_nil _ _ _ _, fun k h => by cases h⟩, Below.refl _ _⟩
  | some ad =>
    have own0 : (w.alloc (.cells #[] 40)).ownsRow 0 40 1 (.slice (some ⟨w.heap.size, 0, none⟩) 0 0) 0 [] := World.ownsRow_made w #[] 0 (Nat.zero_le _) (by unfold maxLen; omega) rfl
    obtain ⟨v', w1, hrun, ho1, hg1, hat⟩ := append_run (P := Ybaf.prog) (T := 37) (ty := 37) (c := c) Ybaf.underlying37 hi hz0 hz1 hz2 rfl own0 (by simpa using hn) (hr.below ((Below.refl w.heap.size w).alloc (Nat.le_refl _) _) (Nat.le_refl _)) h0 hone (by unfold maxLen; simp; omega) (by simp; omega)
    have L1 : Below w.heap.size w w1 := ((Below.refl w.heap.size w).alloc (Nat.le_refl _) (.cells #[] 40)).grown hg1 (by simp) (fun k hk => by simp [Value.ownBlock] at hk; omega)
    have HF : Hid (Own w w1 40 v' xs ∧ Below w.heap.size w w1) := by
      refine ⟨⟨by simpa [hn] using ho1, fun k hk => ?_⟩, L1⟩
      rcases hat with h | h
      · rw [h] at hk; simp [Value.ownBlock] at hk; omega
      · rw [h] at hk; simp at hk; omega
    clear own0 ho1 hg1 hat L1 hr hi hone
    go_enter Ybaf.func9, Ybaf.ntmps9
    go_wp2_with (at_builtin; refine wpList_append_by rfl (.tmp 5) (.tmp 6) 37 rfl _ _ rfl rfl hrun ?_)
    go_ret
    exact ⟨_, rfl, HF.out.1, HF.out.2⟩

set_option maxHeartbeats 1000000 in
theorem clone10_any (w : World) (ao : Option Addr) (n c : Nat) (xs : List Value) (hr : Rd w ao xs) (hone : ∀ u ∈ xs, u.oneCell' = true) (hn : xs.length = n) (h0 : ao = none → n = 0 ∧ c = 0) (hb : n ≤ 1048576) :
    Calls Ybaf.prog 10 #[.slice ao n c] w fun e w' => ∃ v, e = .returned v ∧ Own w w' 3 v xs ∧ Below w.heap.size w w' := by
  obtain ⟨ti, hi, hz0, hz1, hz2⟩ := info_parts info3
  cases ao with
  | none =>
    obtain ⟨rfl, rfl⟩ := h0 rfl
    obtain rfl := List.eq_nil_of_length_eq_zero hn
    go_enter Ybaf.func10, Ybaf.ntmps10
    go_wp2
    go_ret
    exact ⟨_, rfl, ⟨World.ownsRow_nil _ _ _ _, fun k h => by cases h⟩, Below.refl _ _⟩
  | some ad =>
    have own0 : (w.alloc (.cells #[] 3)).ownsRow 0 3 1 (.slice (some ⟨w.heap.size, 0, none⟩) 0 0) 0 [] := World.ownsRow_made w #[] 0 (Nat.zero_le _) (by unfold maxLen; omega) rfl
    obtain ⟨v', w1, hrun, ho1, hg1, hat⟩ := append_run (P := Ybaf.prog) (T := 36) (ty := 36) (c := c) Ybaf.underlying36 hi hz0 hz1 hz2 rfl own0 (by simpa using hn) (hr.below ((Below.refl w.heap.size w).alloc (Nat.le_refl _) _) (Nat.le_refl _)) h0 hone (by unfold maxLen; simp; omega) (by simp; omega)
    have L1 : Below w.heap.size w w1 := ((Below.refl w.heap.size w).alloc (Nat.le_refl _) (.cells #[] 3)).grown hg1 (by simp) (fun k hk => by simp [Value.ownBlock] at hk; omega)
    have HF : Hid (Own w w1 3 v' xs ∧ Below w.heap.size w w1) := by
      refine ⟨⟨by simpa [hn] using ho1, fun k hk => ?_⟩, L1⟩
      rcases hat with h | h
      · rw [h] at hk; simp [Value.ownBlock] at hk; omega
      · rw [h] at hk; simp at hk; omega
    clear own0 ho1 hg1 hat L1 hr hi hone
    go_enter Ybaf.func10, Ybaf.ntmps10
    go_wp2_with (at_builtin; refine wpList_append_by rfl (.tmp 5) (.tmp 6) 36 rfl _ _ rfl rfl hrun ?_)
    go_ret
    exact ⟨_, rfl, HF.out.1, HF.out.2⟩

set_option maxHeartbeats 1000000 in
theorem equal14_true (w : World) (ao bo : Option Addr) (n c d : Nat) (xs : List Value) (hx : ∀ v ∈ xs, ∃ x, v = .int .u16 x) (hr : Rd w ao xs) (hs : Rd w bo xs) (hn : xs.length = n) (hb : n ≤ 9000000) :
    Calls Ybaf.prog 14 #[.slice ao n c, .slice bo n d] w fun e w' => e = .returned (.bool true) ∧ ∃ q, w' = w.drewN q := by
  have HH := hide (And.intro hx (And.intro hr hs))
  clear hx hr hs
  go_enter Ybaf.func14, Ybaf.ntmps14
  go_wp2
  go_loopw [13] (fun i wr => ∃ k q : Nat, k ≤ n ∧ i = .int .i64 k ∧ wr = w.drewN q) (fun i _ => n - (intOf i).toNat)
  case atStart => exact ⟨0, 0, Nat.zero_le _, rfl, rfl⟩
  case round =>
    obtain ⟨k, q, hk, rfl, rfl⟩ := hrel
    by_cases hlt : k < n
    · have hk' : k < xs.length := by omega
      obtain ⟨x, ex⟩ := HH.out.1 _ (List.getElem_mem hk')
      have g1 : xs[k]? = some (.int .u16 x) := by rw [List.getElem?_eq_getElem hk', ex]
      obtain ⟨ad, rfl, ca⟩ := HH.out.2.1 k _ g1
      obtain ⟨bd, rfl, cb⟩ := HH.out.2.2 k _ g1
      clear g1 ex
      go_wp2_with fail
      go_quiet (fail)
      go_wp2_with fail
      go_roundw
      case rel => exact ⟨k + 1, _, by omega, by go_num, rfl⟩
      case measure => simp [intOf]; omega
    · obtain rfl : k = n := by omega
      go_wp2_with fail
      go_ret
      exact ⟨rfl, _, rfl⟩

set_option maxHeartbeats 1000000 in
theorem equal15_true (w : World) (ao bo : Option Addr) (n c d : Nat) (xs : List Value) (hx : ∀ v ∈ xs, ∃ x, v = .int .i64 x) (hr : Rd w ao xs) (hs : Rd w bo xs) (hn : xs.length = n) (hb : n ≤ 9000000) :
    Calls Ybaf.prog 15 #[.slice ao n c, .slice bo n d] w fun e w' => e = .returned (.bool true) ∧ ∃ q, w' = w.drewN q := by
  have HH := hide (And.intro hx (And.intro hr hs))
  clear hx hr hs
  go_enter Ybaf.func15, Ybaf.ntmps15
  go_wp2
  go_loopw [13] (fun i wr => ∃ k q : Nat, k ≤ n ∧ i = .int .i64 k ∧ wr = w.drewN q) (fun i _ => n - (intOf i).toNat)
  case atStart => exact ⟨0, 0, Nat.zero_le _, rfl, rfl⟩
  case round =>
    obtain ⟨k, q, hk, rfl, rfl⟩ := hrel
    by_cases hlt : k < n
    · have hk' : k < xs.length := by omega
      obtain ⟨x, ex⟩ := HH.out.1 _ (List.getElem_mem hk')
      have g1 : xs[k]? = some (.int .i64 x) := by rw [List.getElem?_eq_getElem hk', ex]
      obtain ⟨ad, rfl, ca⟩ := HH.out.2.1 k _ g1
      obtain ⟨bd, rfl, cb⟩ := HH.out.2.2 k _ g1
      clear g1 ex
      go_wp2_with fail
      go_quiet (fail)
      go_wp2_with fail
      go_roundw
      case rel => exact ⟨k + 1, _, by omega, by go_num, rfl⟩
      case measure => simp [intOf]; omega
    · obtain rfl : k = n := by omega
      go_wp2_with fail
      go_ret
      exact ⟨rfl, _, rfl⟩

set_option maxHeartbeats 1000000 in
theorem equal16_true (w : World) (ao bo : Option Addr) (n c d : Nat) (xs : List Value) (hx : ∀ v ∈ xs, ∃ x, v = .int .u16 x) (hr : Rd w ao xs) (hs : Rd w bo xs) (hn : xs.length = n) (hb : n ≤ 9000000) :
    Calls Ybaf.prog 16 #[.slice ao n c, .slice bo n d] w fun e w' => e = .returned (.bool true) ∧ ∃ q, w' = w.drewN q := by
  have HH := hide (And.intro hx (And.intro hr hs))
  clear hx hr hs
  go_enter Ybaf.func16, Ybaf.ntmps16
  go_wp2
  go_loopw [13] (fun i wr => ∃ k q : Nat, k ≤ n ∧ i = .int .i64 k ∧ wr = w.drewN q) (fun i _ => n - (intOf i).toNat)
  case atStart => exact ⟨0, 0, Nat.zero_le _, rfl, rfl⟩
  case round =>
    obtain ⟨k, q, hk, rfl, rfl⟩ := hrel
    by_cases hlt : k < n
    · have hk' : k < xs.length := by omega
      obtain ⟨x, ex⟩ := HH.out.1 _ (List.getElem_mem hk')
      have g1 : xs[k]? = some (.int .u16 x) := by rw [List.getElem?_eq_getElem hk', ex]
      obtain ⟨ad, rfl, ca⟩ := HH.out.2.1 k _ g1
      obtain ⟨bd, rfl, cb⟩ := HH.out.2.2 k _ g1
      clear g1 ex
      go_wp2_with fail
      go_quiet (fail)
      go_wp2_with fail
      go_roundw
      case rel => exact ⟨k + 1, _, by omega, by go_num, rfl⟩
      case measure => simp [intOf]; omega
    · obtain rfl : k = n := by omega
      go_wp2_with fail
      go_ret
      exact ⟨rfl, _, rfl⟩

end Go.Proofs.YbulkeekoFmt
