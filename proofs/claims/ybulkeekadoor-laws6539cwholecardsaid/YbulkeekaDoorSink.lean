/-
  THE STATE of a bufio.Writer over the law's sink, and the walks of the sink's Write, of Available, Buffered and Flush.
-/
import Derived.Test.YbulkeekaDoorRows
import Derived.Test.YbulkeekaDoorFrame
import Derived.WalkSpells
import Derived.WalkLawsBesides
import Derived.Deep.QuietTactic
import Derived.BigQuiet
import Derived.Deep.RegionHeld3
import Derived.Deep.DrawnRows
namespace Go.Proofs.YbulkeekaDoor
open Go.RowKit
set_option linter.unusedSimpArgs false
set_option linter.unusedVariables false

/-- the error value: the sentinel, or nil -/
def errv (sa : Addr) (er : Bool) : Value := if er then .iface 37 (.pointer (some sa)) else .nilIface

def wCells (rb bb : Nat) (sa : Addr) (er : Bool) (n : Nat) : List Value :=
  [errv sa er, .slice (some ⟨bb, 0, none⟩) 65536 65536, .int .i64 n, .iface 27 (.pointer (some ⟨rb, 0, none⟩))]
def rCells (sv : Value) (sa : Addr) (fail : Bool) : List Value := [sv, .bool fail, .iface 37 (.pointer (some sa))]

theorem info5 : (Ybad.prog.info? 5).map (fun i => (i.zero, i.size, i.bytes)) = some (some (.int .u8 0), 1, 1) := by kernel_rfl
theorem size5 : (Ybad.prog.info? 5).map (·.size) = some 1 := by kernel_rfl

theorem meth27 (a : Addr) (w : World) : (method 187 27 (.pointer (some a)) "Write").run Ybad.prog w = .ok (33, .pointer (some a)) w := by kernel_rfl
theorem meth42 (a : Addr) (w : World) : (method 187 42 (.pointer (some a)) "Write").run Ybad.prog w = .ok (35, .pointer (some a)) w := by kernel_rfl
theorem meth55 (a : Addr) (w : World) : (method 187 55 (.pointer (some a)) "Write").run Ybad.prog w = .ok (36, .pointer (some a)) w := by kernel_rfl

/-- the sink's own state: its struct, and the bytes that it holds -/
structure Sk (w : World) (rb : Nat) (sa : Addr) (fail : Bool) (S : List Int) (sv : Value) : Prop where
  r : Blk w rb (rCells sv sa fail) 29
  s : w.ownsRow 0 5 1 sv S.length (S.map (Value.int .u8))
  n : sv.ownBlock ≠ some rb

theorem Sk.but {w w' : World} {rb : Nat} {sa : Addr} {fail : Bool} {S : List Int} {sv : Value} {T : Nat → Prop} (h : Sk w rb sa fail S sv) (hb : But T w w') (h1 : ¬ T rb) (h2 : ∀ k, sv.ownBlock = some k → ¬ T k) : Sk w' rb sa fail S sv :=
  ⟨h.r.but hb h1, owns_but h.s hb h2, h.n⟩

set_option maxHeartbeats 1000000 in
theorem sink_fail (rb : Nat) (sa : Addr) (sv : Value) (p : Value) (w : World) (hr : Blk w rb (rCells sv sa true) 29) :
    Calls Ybad.prog 33 #[.pointer (some ⟨rb, 0, none⟩), p] w fun e w' => e = .returned (.tuple #[.int .i64 0, .iface 37 (.pointer (some sa))]) ∧ ∃ q, w' = w.drewN q := by
  have c1 := hr.cell (j := 1) rfl
  have c2 := hr.cell (j := 2) rfl
  go_enter Ybad.func33, Ybad.ntmps33
  go_wp2
  go_quiet (fail)
  go_wp2
  go_ret2
  exact ⟨rfl, _, rfl⟩

set_option maxRecDepth 100000 in
set_option maxHeartbeats 1000000 in
theorem sink_ok (rb : Nat) (sa : Addr) (sv : Value) (S xs : List Int) (ao : Option Addr) (m c : Nat) (w : World) (h : Sk w rb sa false S sv) (hx : Rd w ao (xs.map (Value.int .u8))) (hm : xs.length = m) (hn : ao = none → m = 0 ∧ c = 0) (hb : S.length + m ≤ 10000000) :
    Calls Ybad.prog 33 #[.pointer (some ⟨rb, 0, none⟩), .slice ao m c] w fun e w' => e = .returned (.tuple #[.int .i64 m, .nilIface]) ∧ ∃ sv', Sk w' rb sa false (S ++ xs) sv' ∧
      But (fun k => k = rb ∨ sv.ownBlock = some k) w w' ∧ (sv'.ownBlock = sv.ownBlock ∨ sv'.ownBlock = some w.heap.size) := by
  obtain ⟨ti, hi, hz0, hz1, hz2⟩ := info_parts info5
  obtain ⟨hr, hs, hne⟩ := h
  have c1 := hr.cell (j := 1) rfl
  have c0 := hr.cell (j := 0) rfl
  have f0 := hr.frozen 0
  obtain ⟨v', w1, hrun, ho1, hg1, hat⟩ := append_run (P := Ybad.prog) (T := 22) (ty := 22) (c := c) Ybad.underlying22 hi hz0 hz1 hz2 rfl hs (by simpa using hm) hx hn (ints_one _ xs) (by unfold maxLen; simp; omega) (by simp; omega)
  have P1 : But (fun k => k = rb ∨ sv.ownBlock = some k) w w1 := But.of_grown hg1 (fun k hk => Or.inr hk)
  have R1 : Blk w1 rb (rCells sv sa false) 29 := hr.but (But.of_grown (S := fun k => sv.ownBlock = some k) hg1 (fun k hk => hk)) hne
  have g0 := R1.frozen 0
  have d0 := R1.cell (j := 0) rfl
  obtain ⟨ao', cap', e', _⟩ := owns_form ho1
  obtain ⟨ao0, cap0, e0, _⟩ := owns_form hs
  have hvb : v'.ownBlock ≠ some rb := by
    rcases hat with h | h
    · rw [h]; exact hne
    · rw [h]; have := hr.lt; simp; omega
  have R2 := R1.set 0 v'
  have O2 := owns_but ho1 ((But.refl (fun k => k = rb) w1).setCell (p := ⟨rb, 0, none⟩) (Or.inr rfl) v') (fun k hk h => hvb (h ▸ hk))
  have P2 := P1.setCell (p := ⟨rb, 0, none⟩) (Or.inr (Or.inl rfl)) v'
  have HF : Hid (∃ sv', Sk (w1.setCell ⟨rb, 0, none⟩ v') rb sa false (S ++ xs) sv' ∧ But (fun k => k = rb ∨ sv.ownBlock = some k) w (w1.setCell ⟨rb, 0, none⟩ v') ∧ (sv'.ownBlock = sv.ownBlock ∨ sv'.ownBlock = some w.heap.size)) :=
    ⟨v', ⟨R2, by simpa [hm] using O2, hvb⟩, P2, hat⟩
  clear R2 O2 P2 hvb hat P1 R1 ho1 hg1 hr hs hne hx hi hz0 hz1 hz2 hn
  subst e'
  subst e0
  subst hm
  go_enter Ybad.func33, Ybad.ntmps33
  go_wp2_with (at_builtin; refine wpList_append_by rfl (.tmp 18) (.tmp 19) 22 rfl _ _ rfl rfl hrun ?_)
  go_ret2
  exact ⟨rfl, HF.out⟩

end Go.Proofs.YbulkeekaDoor
