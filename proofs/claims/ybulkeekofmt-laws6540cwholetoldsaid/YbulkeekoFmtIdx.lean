/-
  THE WALKS of the decoder at a place of the stream: bits, at, index.
-/
import Derived.Test.YbulkeekoFmtDecC
import Derived.Test.YbulkeekoFmtPlainC
import Derived.Test.YbulkeekoFmtShelf
import Derived.Lib.ItoaNum
namespace Go.Proofs.YbulkeekoFmt
open Go.RowKit Go.Extern.Stop Go.Stop Go.Extern
set_option linter.unusedSimpArgs false
set_option linter.unusedVariables false

theorem rdAt_add (rd : Int) (a b : Nat) : rdAt (rdAt rd a) b = rdAt rd (a + b) := by unfold rdAt wrap64; omega

/-- a decoder whose first c bits are read -/
structure DecAt (w : World) (db rb : Nat) (rest : List Nat) (rd : Int) (last u c : Nat) (so : Option Addr) (cc : Nat) : Prop where
  B : Blk w db (dC so (rest.length - needB u c) cc (rdAt rd (needB u c)) (lastAt last rest (needB u c)) (u + 8 * needB u c - c)) 26
  le : rest.length - needB u c ≤ cc
  R : Rd w so ((rest.drop (needB u c)).map (fun (b : Nat) => Value.int .u8 (b : Int)))
  n : ∀ ad, so = some ad → rest.length - needB u c = 0 ∨ ad.block = rb
  z : so = none → rest.length - needB u c = 0 ∧ cc = 0
  m : needB u c ≤ rest.length

theorem DecAt.but {w w' : World} {db rb : Nat} {rest : List Nat} {rd : Int} {last u c : Nat} {so : Option Addr} {cc : Nat} {S : Nat → Prop} (h : DecAt w db rb rest rd last u c so cc) (P : But S w w') (h1 : ¬ S db) (h2 : ¬ S rb) : DecAt w' db rb rest rd last u c so cc := by
  refine ⟨h.B.but P h1, h.le, ?_, h.n, h.z, h.m⟩
  by_cases h0 : rest.length - needB u c = 0
  · rw [List.drop_of_length_le (by omega)]; exact Rd.nil _ _
  · exact h.R.but P (fun ad e => by rw [(h.n ad e).resolve_left h0]; exact h2)

theorem DecAt.below {w w' : World} {db rb : Nat} {rest : List Nat} {rd : Int} {last u c : Nat} {so : Option Addr} {cc : Nat} (h : DecAt w db rb rest rd last u c so cc) (P : Below w.heap.size w w') : DecAt w' db rb rest rd last u c so cc :=
  h.but (But.of_below' (S := fun _ => False) P) (fun h => h) (fun h => h)

/-- a decoder that has come to its end inside a number -/
def Drained (w : World) (db : Nat) (rest : List Nat) (rd : Int) (last u c : Nat) : Prop :=
  ∃ so cc, Blk w db (dC so 0 cc (rdAt rd rest.length) (lastAt last rest rest.length) (u + 8 * rest.length - c)) 26

/-- what bits answers and leaves, at a place of the stream -/
def BitsAt (w w' : World) (db rb : Nat) (rest : List Nat) (rd : Int) (last u c k : Nat) (e : Ending) : Prop :=
  But (fun g => g = db) w w' ∧
  ((c + k ≤ u + 8 * rest.length ∧ e = .returned (.tuple #[.int .i64 (snum last u rest c k), .nilIface]) ∧ ∃ so cc, DecAt w' db rb rest rd last u (c + k) so cc) ∨
   (u + 8 * rest.length < c + k ∧ (∃ a, e = .returned (.tuple #[.int .i64 0, .iface 73 (.pointer (some a))])) ∧ Drained w' db rest rd last u c))

theorem bitsAt_any (F : Interp) (db rb : Nat) (rest : List Nat) (rd : Int) (last u c k : Nat) (so : Option Addr) (cc : Nat) (w : World) (hF : F.answers w.tape) (hrb : rb ≠ db) (h : DecAt w db rb rest rd last u c so cc) (hl : last < 256) (hu : u ≤ 7) (hw : k ≤ 32) (hb : ∀ b ∈ rest, b < 256) (hr : rest.length ≤ 1048576) :
    Calls Ybaf.prog 6 #[.pointer (some ⟨db, 0, none⟩), .int .i64 k] w fun e w' => BitsAt w w' db rb rest rd last u c k e := by
  have hlen : (rest.drop (needB u c)).length = rest.length - needB u c := by simp
  have hm := h.m
  have hl' : lastAt last rest (needB u c) < 256 := by
    unfold lastAt
    split
    · exact hl
    · rename_i h0
      rw [List.getD_eq_getElem?_getD, List.getElem?_eq_getElem (by omega), Option.getD_some]
      exact hb _ (List.getElem_mem _)
  have hR : Rnd w w db rb (rest.drop (needB u c)) (rdAt rd (needB u c)) (lastAt last rest (needB u c)) (u + 8 * needB u c - c) 0 so cc := by
    refine ⟨?_, by rw [hlen]; exact h.le, h.R, fun ad e => by rw [hlen]; exact h.n ad e, fun e => by rw [hlen]; exact h.z e, But.refl _ _⟩
    rw [hlen, rdAt_add, lastAt_add]
    exact h.B
  refine (bits_any F db rb (rest.drop (needB u c)) (rdAt rd (needB u c)) (lastAt last rest (needB u c)) (u + 8 * needB u c - c) k so cc w hF hrb hR hl' (left_le u c hu) hw (fun b hb' => hb b (List.mem_of_mem_drop hb')) (by rw [hlen]; omega)).mono ?_
  rintro e w' ⟨so', cc', hz, ⟨h1, he, h2, h3, h4, h5, h6⟩ | ⟨h1, he, h2, h5⟩⟩
  · refine ⟨h5, Or.inl ?_⟩
    have hadd := needB_add u c k hu
    rw [hlen] at h1 h2 h3 h6
    refine ⟨(needB_total u (c + k) rest.length).1 (by omega), by rw [he, snum_from _ _ _ _ _ hu], so', cc', ?_⟩
    have e1 : rest.length - needB u c - needB (u + 8 * needB u c - c) k = rest.length - needB u (c + k) := by omega
    rw [rdAt_add, lastAt_add, ← hadd, left_add u c k hu, e1] at h2
    rw [e1] at h3 h6
    rw [List.drop_drop, ← hadd] at h4
    exact ⟨h2, h3, h4, h6, fun e => ⟨by have := hz e; omega, hz e⟩, by omega⟩
  · refine ⟨h5, Or.inr ?_⟩
    rw [hlen] at h1 h2
    have hadd := needB_add u c k hu
    have hge := needB_ge u c
    refine ⟨?_, he, so', cc', ?_⟩
    · have := mt (needB_total u (c + k) rest.length).2 (by omega); omega
    · rw [rdAt_add, lastAt_add, show needB u c + (rest.length - needB u c) = rest.length by omega, show u + 8 * needB u c - c + 8 * (rest.length - needB u c) = u + 8 * rest.length - c by omega] at h2
      exact h2

set_option maxHeartbeats 400000 in
theorem at_any (db : Nat) (so : Option Addr) (n c : Nat) (rd : Int) (last un : Nat) (w : World) (h : Blk w db (dC so n c rd last un) 26) :
    Calls Ybaf.prog 19 #[.pointer (some ⟨db, 0, none⟩)] w fun e w' => (∃ x : Int, e = .returned (.int .i64 x)) ∧ w' = w := by
  have c1 := h.cell (j := 1) rfl
  have c3 := h.cell (j := 3) rfl
  clear h
  by_cases h0 : 0 < un
  · go_enter Ybaf.func19, Ybaf.ntmps19
    go_wp2
    all_goals go_ret
    all_goals exact ⟨⟨_, rfl⟩, rfl⟩
  · go_enter Ybaf.func19, Ybaf.ntmps19
    go_wp2
    all_goals go_ret
    all_goals exact ⟨⟨_, rfl⟩, rfl⟩

/-- what index answers and leaves -/
def IdxAt (w w' : World) (db rb : Nat) (rest : List Nat) (rd : Int) (last u m L : Nat) (e : Ending) : Prop :=
  But (fun g => g = db) w w' ∧
  ((L ≤ u + 8 * rest.length ∧ (∃ so cc, DecAt w' db rb rest rd last u L so cc) ∧
      ((snum last u rest 0 L < m ∧ e = .returned (.tuple #[.int .i64 (snum last u rest 0 L), .nilIface])) ∨ (m ≤ snum last u rest 0 L ∧ ∃ a, e = .returned (.tuple #[.int .i64 0, .iface 73 (.pointer (some a))])))) ∨
   (u + 8 * rest.length < L ∧ (∃ a, e = .returned (.tuple #[.int .i64 0, .iface 73 (.pointer (some a))])) ∧ Drained w' db rest rd last u 0))

theorem bitLen_le (x : Nat) (h : x < 1048576) : Lib.bitLen x ≤ 20 := by
  by_cases h0 : x = 0
  · subst h0; decide
  · have := Lib.bitLenAux_bounds 64 x (by omega) h0
    have h2 : 2 ^ (Lib.bitLenAux 64 x - 1) < 2 ^ 20 := by omega
    have := (Nat.pow_lt_pow_iff_right (by decide : 1 < 2)).1 h2
    unfold Lib.bitLen; omega

set_option maxRecDepth 100000 in
set_option maxHeartbeats 2000000 in
theorem index_any (F : Interp) (db rb : Nat) (rest : List Nat) (rd : Int) (last u m : Nat) (so : Option Addr) (cc : Nat) (what : ByteArray) (w : World) (hF : F.answers w.tape) (hrb : rb ≠ db) (h : DecAt w db rb rest rd last u 0 so cc) (hl : last < 256) (hu : u ≤ 7) (hm0 : 1 ≤ m) (hm : m ≤ 1048576) (hb : ∀ b ∈ rest, b < 256) (hr : rest.length ≤ 1048576) :
    Calls Ybaf.prog 20 #[.pointer (some ⟨db, 0, none⟩), .int .i64 m, .string what] w fun e w' => IdxAt w w' db rb rest rd last u m (Lib.bitLen (m - 1)) e := by
  have hL := bitLen_le (m - 1) (by omega)
  obtain ⟨L, eL⟩ : ∃ L, L = Lib.bitLen (m - 1) := ⟨_, rfl⟩
  rw [← eL] at hL ⊢
  have HH := hide (And.intro h eL)
  clear h eL
  go_enter Ybaf.func20, Ybaf.ntmps20
  go_wp2_with fail
  refine (at_any db _ _ _ _ _ _ w HH.out.1.B).mono ?_
  rintro e w1 ⟨⟨x, rfl⟩, rfl⟩
  go_wp2_with fail
  refine (Ybaf.bits_Len ((m : Int) - 1) w1 (by omega) (by omega)).mono ?_
  rintro e w1 ⟨rfl, rfl⟩
  rw [show ((m : Int) - 1).toNat = m - 1 by omega, ← HH.out.2]
  go_wp2_with fail
  refine (bitsAt_any F db rb rest rd last u 0 L so cc w1 hF hrb HH.out.1 hl hu (by omega) hb hr).mono ?_
  rintro e w2 ⟨P2, hB⟩
  rw [Nat.zero_add] at hB
  rcases hB with ⟨h1, rfl, so2, cc2, D2⟩ | ⟨h1, ⟨a, rfl⟩, D2⟩
  · by_cases hs : snum last u rest 0 L < m
    · have HX := hide (And.intro P2 D2)
      clear P2 D2
      go_wp2_with fail
      go_ret2
      exact ⟨HX.out.1, Or.inl ⟨h1, ⟨so2, cc2, HX.out.2⟩, Or.inl ⟨hs, rfl⟩⟩⟩
    · have hF2 : F.answers w2.tape := by rw [P2.tape]; exact hF
      have HX := hide (And.intro P2 D2)
      clear P2 D2
      go_wp2_with fail
      refine (errI F _ x what (snum last u rest 0 L : Nat) m w2.heap.size _ (by exact hF2) (by simp [World.cell?_alloc_new]) (by simp [World.cell?_alloc_new]) (by simp [World.cell?_alloc_new])).mono ?_
      rintro e w3 ⟨a, rfl, hb3⟩
      have L3 : Below w2.heap.size w2 w3 := ((Below.refl w2.heap.size w2).alloc (Nat.le_refl _) _).trans (hb3.mono (by simp))
      have HY : Hid (But (fun g => g = db) w1 w3 ∧ DecAt w3 db rb rest rd last u L so2 cc2) := ⟨HX.out.1.trans (But.of_below' L3), HX.out.2.below L3⟩
      clear hb3 L3
      go_wp2_with fail
      go_ret2
      exact ⟨HY.out.1, Or.inl ⟨h1, ⟨so2, cc2, HY.out.2⟩, Or.inr ⟨by omega, a, rfl⟩⟩⟩
  · have HX := hide (And.intro P2 D2)
    clear P2 D2
    go_wp2_with fail
    go_ret2
    exact ⟨HX.out.1, Or.inr ⟨h1, ⟨a, rfl⟩, HX.out.2⟩⟩

end Go.Proofs.YbulkeekoFmt
