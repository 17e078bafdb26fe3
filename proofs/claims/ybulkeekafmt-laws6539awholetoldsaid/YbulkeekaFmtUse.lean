/-
  THE WALK of (*stateWalk).use.
-/
import Derived.Test.YbulkeekaFmtFmt
import Derived.Test.YbulkeekaFmtFrame
import Derived.Test.YbulkeekaFmtPlain
import Derived.WalkSpells
import Derived.WalkLawsBesides
namespace Go.Proofs.YbulkeekaFmt
open Go.RowKit Go.Extern.Stop Go.Stop Go.Extern

/-- the cells of the walk's struct -/
def stw (ub n : Nat) (R : Int) : List Value :=
  [.slice none 0 0, .pointer none, .nilFunc, .bool false, .slice (some ⟨ub, 0, none⟩) n n, .int .u64 R, .bool false, .slice none 0 0, .bool false, .int .i64 0, .int .i64 0, .int .i64 0]

def errIs (v : Value) (h : Bool) : Prop := (v = .nilIface ∧ h = false) ∨ ∃ a, v = .iface 42 (.pointer (some a)) ∧ h = true

set_option maxHeartbeats 1000000 in
theorem use_any (F : Interp) (U : List Bool) (ub sp id ov : Nat) (R : Int) (w : World) (hF : F.answers w.tape) (hU : Blk w ub (U.map Value.bool) 4) (hS : Blk w sp (stw ub U.length R) 31) (hne : ub ≠ sp)
    (h1 : id + ov < U.length) (h2 : U.length ≤ 65536) (r0 : 0 ≤ R) (r1 : R < 18446744073709551616) :
    Calls Ybaf.prog 4 #[.pointer (some ⟨sp, 0, none⟩), .int .u64 id, .int .u32 ov] w fun e w' => ∃ v, e = .returned v ∧ errIs v (hitN U id (id + ov) (id + ov + 1)) ∧
      Blk w' ub ((markN U id (id + ov) (id + ov + 1)).map Value.bool) 4 ∧ Blk w' sp (stw ub U.length (reach R (cntN U id (id + ov) (id + ov + 1)))) 31 ∧ But (fun g => g = ub ∨ g = sp) w w' := by
  go_enter Ybaf.func4, Ybaf.ntmps4
  go_wp2
  go_loopw [7, 12] (fun tw i wr => ∃ k : Nat, k ≤ ov + 1 ∧ i = .int .u64 k ∧ errIs tw (hitN U id (id + ov) (id + k)) ∧
      Blk wr ub ((markN U id (id + ov) (id + k)).map Value.bool) 4 ∧ Blk wr sp (stw ub U.length (reach R (cntN U id (id + ov) (id + k)))) 31 ∧ But (fun g => g = ub ∨ g = sp) w wr)
    (fun _ i _ => ov + 1 - (intOf i).toNat)
  case atStart =>
    exact ⟨0, Nat.zero_le _, rfl, Or.inl ⟨rfl, hitN_start _ _ _ _ (Nat.le_refl _)⟩, by simpa [markN_start] using hU, by simpa [cntN_start, reach_zero R r0 r1] using hS, But.refl _ _⟩
  case round =>
    obtain ⟨k, hk, rfl, ht, hu, hs, hb⟩ := hrel
    by_cases hlt : k < ov + 1
    · have c4 := hs.cell (j := 4) rfl
      have c5 := hs.cell (j := 5) rfl
      have f5 := hs.frozen 5
      have fu := hu.frozen (id + k)
      have hx : id + k < U.length := by omega
      have hFr : F.answers wr.tape := by rw [hb.tape]; exact hF
      cases hv : U[id + k] with
      | true =>
        have hv' : U[id + k]? = some true := by rw [List.getElem?_eq_getElem hx, hv]
        have cu : wr.cell? ⟨ub, id + k, none⟩ = some (.bool true) := hu.cell (by simp [markN_here, hv'])
        have Hm := markN_hit U id (id + ov) (id + k) hv'
        have Hc := cntN_hit U id (id + ov) (id + k) hv'
        have Hh := hitN_hit U id (id + ov) (id + k) hv' (by omega)
        have HR : Hid (Blk wr ub ((markN U id (id + ov) (id + (k + 1))).map Value.bool) 4 ∧ Blk wr sp (stw ub U.length (reach R (cntN U id (id + ov) (id + (k + 1))))) 31 ∧ hitN U id (id + ov) (id + (k + 1)) = true) := by
          rw [← Nat.add_assoc, Hm, Hc, Hh]; exact ⟨hu, hs, rfl⟩
        clear Hm Hc Hh hv hv' hu hs hU hS
        rcases ht with ⟨rfl, hh⟩ | ⟨a, rfl, hh⟩
        · have HH : Hid (hitN U id (id + ov) (id + k) = false) := hh
          clear hh
          go_wp2_with (go_at_call 5; refine (errTwice_any F _ _ hFr).mono ?_; rintro e w1 ⟨a, rfl, hb1⟩)
          go_roundw
          case rel =>
            have hb2 : But (fun g => g = ub ∨ g = sp) wr w1 := But.of_below' hb1
            exact ⟨k + 1, by omega, by go_num, Or.inr ⟨a, rfl, HR.out.2.2⟩, HR.out.1.below hb1 HR.out.1.lt, HR.out.2.1.below hb1 HR.out.2.1.lt, hb.trans hb2⟩
          case measure => simp [intOf]; omega
        · clear hh
          go_wp2_with (go_at_call 5; refine (errTwice_any F _ _ hFr).mono ?_; rintro e w1 ⟨a, rfl, hb1⟩)
          go_roundw
          case rel => exact ⟨k + 1, by omega, by go_num, Or.inr ⟨a, rfl, HR.out.2.2⟩, HR.out.1, HR.out.2.1, hb⟩
          case measure => simp [intOf]; omega
      | false =>
        have hv' : U[id + k]? = some false := by rw [List.getElem?_eq_getElem hx, hv]
        have cu : wr.cell? ⟨ub, id + k, none⟩ = some (.bool false) := hu.cell (by simp [markN_here, hv'])
        have Hm := markN_miss U id (id + ov) (id + k) hx (by omega)
        have Hc := cntN_miss U id (id + ov) (id + k) hv' (by omega)
        have Hh := hitN_miss U id (id + ov) (id + k) hv'
        have HR : Hid (Blk ((wr.setCell ⟨ub, id + k, none⟩ (.bool true)).setCell ⟨sp, 5, none⟩ (.int .u64 (reach R (cntN U id (id + ov) (id + k) + 1)))) ub ((markN U id (id + ov) (id + (k + 1))).map Value.bool) 4 ∧
            Blk ((wr.setCell ⟨ub, id + k, none⟩ (.bool true)).setCell ⟨sp, 5, none⟩ (.int .u64 (reach R (cntN U id (id + ov) (id + k) + 1)))) sp (stw ub U.length (reach R (cntN U id (id + ov) (id + (k + 1))))) 31 ∧
            errIs u7 (hitN U id (id + ov) (id + (k + 1))) ∧ But (fun g => g = ub ∨ g = sp) w ((wr.setCell ⟨ub, id + k, none⟩ (.bool true)).setCell ⟨sp, 5, none⟩ (.int .u64 (reach R (cntN U id (id + ov) (id + k) + 1))))) := by
          rw [← Nat.add_assoc, Hm, Hc, Hh, List.map_set]
          refine ⟨(hu.set _ _).other hne _, ?_, ht, (hb.setCell (Or.inr (Or.inl rfl)) _).setCell (Or.inr (Or.inr rfl)) _⟩
          exact (hs.other (p := ⟨ub, id + k, none⟩) (Ne.symm hne) _).set 5 _
        have HS := reach_succ R (cntN U id (id + ov) (id + k))
        clear Hm Hc Hh hv hv' hu hs hU hS
        go_wp2_with fail
        go_roundw
        case rel => exact ⟨k + 1, by omega, by go_num, HR.out.2.2.1, HR.out.1, HR.out.2.1, HR.out.2.2.2⟩
        case measure => simp [intOf]; omega
    · obtain rfl : k = ov + 1 := by omega
      go_wp2_with fail
      go_ret
      exact ⟨_, rfl, by simpa [Nat.add_assoc] using ht, by simpa [Nat.add_assoc] using hu, by simpa [Nat.add_assoc] using hs, hb⟩

end Go.Proofs.YbulkeekaFmt
