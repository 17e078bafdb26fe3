/-
  CLOSED FACTS FOR THE WALK OVER fmt's STOPPED FRONTS at this dump, and the walk of (*decoder).errorf.
-/
import Derived.Test.YbulkeekoFmtRows
import Derived.Test.YbulkeekoFmtFrame
import Derived.Stop.CallBack
import Derived.Stop.IfaceNil
import Derived.WalkKit
import Derived.WalkSpells
namespace Go.Proofs.YbulkeekoFmt
open Go.RowKit Go.Extern.Stop Go.Stop Go.Extern

theorem call26 (args : Array Value) (w : World) : (callFunc 26 args).run Ybaf.prog w = ((FmtStop.sprintf #[9, 68] #[9] args).run Ybaf.prog w).andThen fun v w' => .ok (.value v) w' :=
  run_callFunc_extern Ybaf.func26 (by kernel_rfl) (by kernel_rfl) (by kernel_rfl) (by kernel_rfl) args w
theorem call27 (args : Array Value) (w : World) : (callFunc 27 args).run Ybaf.prog w = ((FmtStop.errorf #[9, 68] #[28] args).run Ybaf.prog w).andThen fun v w' => .ok (.value v) w' :=
  run_callFunc_extern Ybaf.func27 (by kernel_rfl) (by kernel_rfl) (by kernel_rfl) (by kernel_rfl) args w
theorem guard (name : String) (w : World) : (FmtStop.guard name).run Ybaf.prog w = .ok () w := by kernel_rfl
/-- "byte %d: %s" -/
theorem fmtB : FmtStop.printed? ⟨#[98, 121, 116, 101, 32, 37, 100, 58, 32, 37, 115]⟩ 2 = some [(0, 100, false), (1, 115, false)] := by kernel_rfl
theorem fmtBr (w : World) : (FmtDoors.printed ⟨#[98, 121, 116, 101, 32, 37, 100, 58, 32, 37, 115]⟩ 2).run Ybaf.prog w = .ok [(0, 100, false), (1, 115, false)] w := by kernel_rfl
/-- "the state ends %d bytes early" -/
theorem fmtE : FmtStop.printed? ⟨#[116, 104, 101, 32, 115, 116, 97, 116, 101, 32, 101, 110, 100, 115, 32, 37, 100, 32, 98, 121, 116, 101, 115, 32, 101, 97, 114, 108, 121]⟩ 1 = some [(0, 100, false)] := by kernel_rfl
theorem fmtEr (w : World) : (FmtDoors.printed ⟨#[116, 104, 101, 32, 115, 116, 97, 116, 101, 32, 101, 110, 100, 115, 32, 37, 100, 32, 98, 121, 116, 101, 115, 32, 101, 97, 114, 108, 121]⟩ 1).run Ybaf.prog w = .ok [(0, 100, false)] w := by kernel_rfl
/-- "%s %d of %d" -/
theorem fmtI : FmtStop.printed? ⟨#[37, 115, 32, 37, 100, 32, 111, 102, 32, 37, 100]⟩ 3 = some [(0, 115, false), (1, 100, false), (2, 100, false)] := by kernel_rfl
/-- "a row longer than the set of %d replicas" -/
theorem fmtR : FmtStop.printed? ⟨#[97, 32, 114, 111, 119, 32, 108, 111, 110, 103, 101, 114, 32, 116, 104, 97, 110, 32, 116, 104, 101, 32, 115, 101, 116, 32, 111, 102, 32, 37, 100, 32, 114, 101, 112, 108, 105, 99, 97, 115]⟩ 1 = some [(0, 100, false)] := by kernel_rfl
def shape3 : List UInt8 := [5, 3, 0, 0, 0, 0, 0, 0, 0, 105, 110, 116]
def shape9 : List UInt8 := [12, 6, 0, 0, 0, 0, 0, 0, 0, 115, 116, 114, 105, 110, 103]
theorem op3 (name : String) (x : Int) (w : World) : (FmtStop.operand name false 100 false (.iface 3 (.int .i64 x))).run Ybaf.prog w = .ok (shape3, Go.Extern.Stop.digits 8 (x % 2 ^ 64).toNat) w := by kernel_rfl
theorem op3t (name : String) (x : Int) (w : World) : (FmtStop.operand name true 100 false (.iface 3 (.int .i64 x))).run Ybaf.prog w = .ok (shape3, Go.Extern.Stop.digits 8 (x % 2 ^ 64).toNat) w := by kernel_rfl
theorem op9 (name : String) (x : ByteArray) (w : World) : (FmtStop.operand name false 115 false (.iface 9 (.string x))).run Ybaf.prog w = .ok (shape9, FmtStop.pack x.data.toList) w := by kernel_rfl
theorem op9t (name : String) (x : ByteArray) (w : World) : (FmtStop.operand name true 115 false (.iface 9 (.string x))).run Ybaf.prog w = .ok (shape9, FmtStop.pack x.data.toList) w := by kernel_rfl
theorem ptr73 (w : World) : (FmtStop.ptrTo "errors.errorString").run Ybaf.prog w = .ok 73 w := by kernel_rfl
theorem elem73 (w : World) : (elemOf 73).run Ybaf.prog w = .ok 75 w := by kernel_rfl
attribute [local go_sem] call27 guard fmtB fmtBr fmtE fmtEr fmtI fmtR op3 op3t op9 op9t ptr73 elem73

set_option maxHeartbeats 400000 in
theorem Errorf_any (F : Interp) (at_ : Int) (s : ByteArray) (b : Nat) (w : World) (hF : F.answers w.tape) (c0 : w.cell? ⟨b, 0, none⟩ = some (.iface 3 (.int .i64 at_))) (c1 : w.cell? ⟨b, 1, none⟩ = some (.iface 9 (.string s))) :
    Calls Ybaf.prog 25 #[.string ⟨#[98, 121, 116, 101, 32, 37, 100, 58, 32, 37, 115]⟩, .slice (some ⟨b, 0, none⟩) 2 2] w fun e w' => ∃ a, e = .returned (.iface 73 (.pointer (some a))) ∧ Below w.heap.size w w' := by
  have hF' := answers_open hF
  go_enter Ybaf.func25, Ybaf.ntmps25
  go_wp2
  go_ret
  exact ⟨_, rfl, ((Below.refl _ _).drew).alloc (Nat.le_refl _) _⟩

set_option maxHeartbeats 400000 in
theorem errorf_any (F : Interp) (d args : Value) (at_ : Int) (f s : ByteArray) (w : World) (hF : F.answers w.tape) (hs : (callFunc 26 #[.string f, args]).run Ybaf.prog w = .ok (.value (.string s)) w.drew) :
    Calls Ybaf.prog 22 #[d, .int .i64 at_, .string f, args] w fun e w' => ∃ a, e = .returned (.iface 73 (.pointer (some a))) ∧ Below w.heap.size w w' := by
  go_enter Ybaf.func22, Ybaf.ntmps22
  go_wp2_with fail
  refine (Errorf_any F at_ s w.heap.size _ (by exact hF) (by simp [World.cell?_alloc_new]) (by simp [World.cell?_alloc_new])).mono ?_
  rintro e w2 ⟨a, rfl, hb⟩
  go_wp2_with fail
  go_ret
  exact ⟨_, rfl, (((Below.refl w.heap.size w).alloc (Nat.le_refl _) _).drew).trans (hb.mono (by simp))⟩

section
attribute [local go_sem] call26

theorem spE (F : Interp) (x : Int) (b : Nat) (w : World) (hF : F.answers w.tape) (c0 : w.cell? ⟨b, 0, none⟩ = some (.iface 3 (.int .i64 x))) :
    ∃ s, (callFunc 26 #[.string ⟨#[116, 104, 101, 32, 115, 116, 97, 116, 101, 32, 101, 110, 100, 115, 32, 37, 100, 32, 98, 121, 116, 101, 115, 32, 101, 97, 114, 108, 121]⟩, .slice (some ⟨b, 0, none⟩) 1 1]).run Ybaf.prog w = .ok (.value (.string s)) w.drew := by
  have hF' := answers_open hF
  obtain ⟨r, hr⟩ : ∃ r, (callFunc 26 #[.string ⟨#[116, 104, 101, 32, 115, 116, 97, 116, 101, 32, 101, 110, 100, 115, 32, 37, 100, 32, 98, 121, 116, 101, 115, 32, 101, 97, 114, 108, 121]⟩, .slice (some ⟨b, 0, none⟩) 1 1]).run Ybaf.prog w = r := ⟨_, rfl⟩
  rw [hr]
  simp [go_sem, *] at hr
  exact ⟨_, hr.symm⟩

theorem spR (F : Interp) (x : Int) (b : Nat) (w : World) (hF : F.answers w.tape) (c0 : w.cell? ⟨b, 0, none⟩ = some (.iface 3 (.int .i64 x))) :
    ∃ s, (callFunc 26 #[.string ⟨#[97, 32, 114, 111, 119, 32, 108, 111, 110, 103, 101, 114, 32, 116, 104, 97, 110, 32, 116, 104, 101, 32, 115, 101, 116, 32, 111, 102, 32, 37, 100, 32, 114, 101, 112, 108, 105, 99, 97, 115]⟩, .slice (some ⟨b, 0, none⟩) 1 1]).run Ybaf.prog w = .ok (.value (.string s)) w.drew := by
  have hF' := answers_open hF
  obtain ⟨r, hr⟩ : ∃ r, (callFunc 26 #[.string ⟨#[97, 32, 114, 111, 119, 32, 108, 111, 110, 103, 101, 114, 32, 116, 104, 97, 110, 32, 116, 104, 101, 32, 115, 101, 116, 32, 111, 102, 32, 37, 100, 32, 114, 101, 112, 108, 105, 99, 97, 115]⟩, .slice (some ⟨b, 0, none⟩) 1 1]).run Ybaf.prog w = r := ⟨_, rfl⟩
  rw [hr]
  simp [go_sem, *] at hr
  exact ⟨_, hr.symm⟩

theorem spI (F : Interp) (t : ByteArray) (x y : Int) (b : Nat) (w : World) (hF : F.answers w.tape) (c0 : w.cell? ⟨b, 0, none⟩ = some (.iface 9 (.string t))) (c1 : w.cell? ⟨b, 1, none⟩ = some (.iface 3 (.int .i64 x))) (c2 : w.cell? ⟨b, 2, none⟩ = some (.iface 3 (.int .i64 y))) :
    ∃ s, (callFunc 26 #[.string ⟨#[37, 115, 32, 37, 100, 32, 111, 102, 32, 37, 100]⟩, .slice (some ⟨b, 0, none⟩) 3 3]).run Ybaf.prog w = .ok (.value (.string s)) w.drew := by
  have hF' := answers_open hF
  obtain ⟨r, hr⟩ : ∃ r, (callFunc 26 #[.string ⟨#[37, 115, 32, 37, 100, 32, 111, 102, 32, 37, 100]⟩, .slice (some ⟨b, 0, none⟩) 3 3]).run Ybaf.prog w = r := ⟨_, rfl⟩
  rw [hr]
  simp [go_sem, *] at hr
  exact ⟨_, hr.symm⟩

end

theorem errE (F : Interp) (d : Value) (at_ : Int) (x : Int) (b : Nat) (w : World) (hF : F.answers w.tape) (c0 : w.cell? ⟨b, 0, none⟩ = some (.iface 3 (.int .i64 x))) :
    Calls Ybaf.prog 22 #[d, .int .i64 at_, .string ⟨#[116, 104, 101, 32, 115, 116, 97, 116, 101, 32, 101, 110, 100, 115, 32, 37, 100, 32, 98, 121, 116, 101, 115, 32, 101, 97, 114, 108, 121]⟩, .slice (some ⟨b, 0, none⟩) 1 1] w fun e w' => ∃ a, e = .returned (.iface 73 (.pointer (some a))) ∧ Below w.heap.size w w' := by
  obtain ⟨s, hs⟩ := spE F x b w hF c0
  exact errorf_any F d _ at_ _ s w hF hs

theorem errR (F : Interp) (d : Value) (at_ : Int) (x : Int) (b : Nat) (w : World) (hF : F.answers w.tape) (c0 : w.cell? ⟨b, 0, none⟩ = some (.iface 3 (.int .i64 x))) :
    Calls Ybaf.prog 22 #[d, .int .i64 at_, .string ⟨#[97, 32, 114, 111, 119, 32, 108, 111, 110, 103, 101, 114, 32, 116, 104, 97, 110, 32, 116, 104, 101, 32, 115, 101, 116, 32, 111, 102, 32, 37, 100, 32, 114, 101, 112, 108, 105, 99, 97, 115]⟩, .slice (some ⟨b, 0, none⟩) 1 1] w fun e w' => ∃ a, e = .returned (.iface 73 (.pointer (some a))) ∧ Below w.heap.size w w' := by
  obtain ⟨s, hs⟩ := spR F x b w hF c0
  exact errorf_any F d _ at_ _ s w hF hs

theorem errI (F : Interp) (d : Value) (at_ : Int) (t : ByteArray) (x y : Int) (b : Nat) (w : World) (hF : F.answers w.tape) (c0 : w.cell? ⟨b, 0, none⟩ = some (.iface 9 (.string t))) (c1 : w.cell? ⟨b, 1, none⟩ = some (.iface 3 (.int .i64 x))) (c2 : w.cell? ⟨b, 2, none⟩ = some (.iface 3 (.int .i64 y))) :
    Calls Ybaf.prog 22 #[d, .int .i64 at_, .string ⟨#[37, 115, 32, 37, 100, 32, 111, 102, 32, 37, 100]⟩, .slice (some ⟨b, 0, none⟩) 3 3] w fun e w' => ∃ a, e = .returned (.iface 73 (.pointer (some a))) ∧ Below w.heap.size w w' := by
  obtain ⟨s, hs⟩ := spI F t x y b w hF c0 c1 c2
  exact errorf_any F d _ at_ _ s w hF hs

end Go.Proofs.YbulkeekoFmt
