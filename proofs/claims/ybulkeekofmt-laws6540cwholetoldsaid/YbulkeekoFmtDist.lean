/-
  THE WALK of (*sliceReader).distinctRow.
-/
import Derived.Test.YbulkeekoFmtRow
import Derived.Test.YbulkeekoFmtBit
import Derived.Deep.DeepCutAuto
namespace Go.Proofs.YbulkeekoFmt
open Go.RowKit Go.Extern.Stop Go.Stop Go.Extern
set_option linter.unusedSimpArgs false
set_option linter.unusedVariables false

def whatS : ByteArray := ⟨#[97, 32, 114, 111, 119, 32, 116, 104, 97, 116, 32, 115, 116, 97, 114, 116, 115, 32, 97, 116, 32, 112, 108, 97, 99, 101]⟩

theorem DecAt.dN {w : World} {db rb : Nat} {rest : List Nat} {rd : Int} {last u c : Nat} {so : Option Addr} {cc : Nat} (h : DecAt w db rb rest rd last u c so cc) : DecAt w.drew db rb rest rd last u c so cc :=
  h.but (S := fun _ => False) (But.refl _ w).drew (fun h => h) (fun h => h)

set_option maxRecDepth 100000 in
set_option maxHeartbeats 4000000 in
theorem dist_refused (sb db rb : Nat) (R : Int) (ord : List Nat) (oa : Option Addr) (oc : Nat) (held : List Nat) (ends nth : List Int) (hv ev nv : Value) (rest : List Nat) (rd : Int) (last u : Nat) (so : Option Addr) (cc : Nat) (w : World)
    (s : Sr w sb db rb R ord oa oc held ends nth hv ev nv) (d : DecAt w db rb rest rd last u 0 so cc) (Q : World → Prop)
    (hc : Calls Ybaf.prog 20 #[.pointer (some ⟨db, 0, none⟩), .int .i64 ord.length, .string whatS] w.drew fun e w' => (∃ a, e = .returned (.tuple #[.int .i64 0, .iface 73 (.pointer (some a))])) ∧ But (fun g => g = db) w.drew w' ∧ Q w') :
    Calls Ybaf.prog 11 #[.pointer (some ⟨sb, 0, none⟩)] w fun e w' => (∃ a, e = .returned (.iface 73 (.pointer (some a)))) ∧ But (fun g => g = db) w w' ∧ Q w' := by
  have c0 := s.S.cell (j := 0) rfl
  have c9 := s.S.cell (j := 9) rfl
  have HE : Hid (Calls Ybaf.prog 20 #[.pointer (some ⟨db, 0, none⟩), .int .i64 ord.length, .string whatS] w.drew fun e w' => ∃ a, e = .returned (.tuple #[.int .i64 0, .iface 73 (.pointer (some a))]) ∧ w'.cell? ⟨sb, 0, none⟩ = some (.pointer (some ⟨db, 0, none⟩)) ∧ w'.cell? ⟨sb, 9, none⟩ = some (.slice oa ord.length oc) ∧ Hid (But (fun g => g = db) w w' ∧ Q w')) := by
    refine hc.mono ?_
    rintro e w' ⟨⟨a, he⟩, P, hq⟩
    have P' : But (fun g => g = db) w w' := ((But.refl (fun g => g = db) w).drew).trans P
    have := s.S.but P' s.d1
    exact ⟨a, he, this.cell (j := 0) rfl, this.cell (j := 9) rfl, P', hq⟩
  have HD := hide d.B
  clear s d hc
  go_enter Ybaf.func11, Ybaf.ntmps11
  go_wp2_with fail
  refine (at_any db _ _ _ _ _ _ w HD.out).mono ?_
  rintro e w ⟨⟨at_, rfl⟩, rfl⟩
  go_wp2_with fail
  go_region_held3 (fun w' => w'.cell? ⟨sb, 0, none⟩ = some (.pointer (some ⟨db, 0, none⟩)) ∧ w'.cell? ⟨sb, 9, none⟩ = some (.slice oa ord.length oc)) (go_keep) ((go_at_call 20; refine HE.out.mono ?_; rintro e w1 ⟨a, rfl, k0, k9, HQ⟩))
  go_wp2_with fail
  go_ret
  exact ⟨⟨a, rfl⟩, HQ.out⟩

end Go.Proofs.YbulkeekoFmt
