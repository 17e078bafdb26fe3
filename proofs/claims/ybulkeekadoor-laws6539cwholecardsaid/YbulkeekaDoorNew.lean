/-
  dump.NewWriter over the law's sink.
-/
import Derived.Test.YbulkeekaDoorSmall
namespace Go.Proofs.YbulkeekaDoor
open Go.RowKit
set_option linter.unusedSimpArgs false
set_option linter.unusedVariables false

/-- the encoder's cells as they are made: behind a name, so that a walk leaves them whole -/
def eMade (wb : Nat) : Array Value := (eCells wb .nilIface (List.replicate 1024 0)).toArray

theorem build58 (wb : Nat) (w : World) : (Instr.build 58 #[(0, .iface 42 (.pointer (some ⟨wb, 0, none⟩)))]).run Ybad.prog w = .ok (.agg (eMade wb)) w := by kernel_rfl
theorem box58 (wb : Nat) (w : World) : (Instr.box 58 (.agg (eMade wb))).run Ybad.prog w = .ok (.pointer (some ⟨w.heap.size, 0, none⟩)) (w.alloc (.cells (eMade wb) 58)) := by
  rfl

theorem wpList_build58 {w : World} {ops : Array Oper} {rest : List Oper} {o : Oper} {a : Act} {Q : Exit → Act → World → Prop} (hgd : o.guard = none) (x : Operand) (ho : o.op = .build 58 #[(0, x)]) (wb : Nat) (hx : a.eval x = .iface 42 (.pointer (some ⟨wb, 0, none⟩)))
    (h : wpList Ybad.prog ops Q rest (a.put o.dst (.agg (eMade wb))) w) : wpList Ybad.prog ops Q (o :: rest) a w := by
  refine wpList_plain hgd fun K hK => ?_
  unfold Oper.wp execOp
  simp only [ho, List.map_toArray, List.map_cons, List.map_nil, hx, Sem.run_bind, build58, Sem.run_pure, Result.andThen_ok]
  exact hK _ _ h

theorem wpList_box58 {w : World} {ops : Array Oper} {rest : List Oper} {o : Oper} {a : Act} {Q : Exit → Act → World → Prop} (hgd : o.guard = none) (x : Operand) (ho : o.op = .box 58 x) (wb : Nat) (hx : a.eval x = .agg (eMade wb))
    (h : wpList Ybad.prog ops Q rest (a.put o.dst (.pointer (some ⟨w.heap.size, 0, none⟩))) (w.alloc (.cells (eMade wb) 58))) : wpList Ybad.prog ops Q (o :: rest) a w := by
  refine wpList_plain hgd fun K hK => ?_
  unfold Oper.wp execOp
  simp only [ho, hx, Sem.run_bind, box58, Sem.run_pure, Result.andThen_ok]
  exact hK _ _ h

set_option maxHeartbeats 400000 in
theorem newEncoder_any (wb : Nat) (w : World) : Calls Ybad.prog 12 #[.iface 42 (.pointer (some ⟨wb, 0, none⟩))] w fun e w' => e = .returned (.iface 55 (.pointer (some ⟨w.heap.size, 0, none⟩))) ∧ w' = w.alloc (.cells (eMade wb) 58) := by
  go_enter Ybad.func12, Ybad.ntmps12
  go_wp2_with (first | (refine wpList_build58 rfl (.tmp 3) rfl wb rfl ?_) | (refine wpList_box58 rfl (.tmp 4) rfl wb rfl ?_))
  go_ret
  exact ⟨rfl, rfl⟩

theorem assert27 (a : Addr) (w : World) : (Instr.typeAssert (.iface 27 (.pointer (some a))) 41 42 true).run Ybad.prog w = .ok (.tuple #[.pointer none, .bool false]) w := by kernel_rfl
attribute [local go_sem] assert27

theorem made_row {w1 : World} {base g n : Nat} {z : Int} (h : w1.ownsRow base 5 1 (.slice (some ⟨g, 0, none⟩) n n) n (madeCells (Value.int .u8 z).cells (n * 1)).toList) : Blk w1 g (List.replicate n (.int .u8 z)) 5 := by
  have := blk_of_made h rfl
  rw [Nat.mul_one] at this
  rwa [show (Value.int .u8 z).cells = #[.int .u8 z] from rfl, toList_madeCells_one] at this

set_option maxRecDepth 100000 in
set_option maxHeartbeats 1000000 in
theorem newSize_any (rb : Nat) (sa : Addr) (fail : Bool) (w : World) (hr : Blk w rb (rCells (.slice none 0 0) sa fail) 29) :
    Calls Ybad.prog 11 #[.iface 27 (.pointer (some ⟨rb, 0, none⟩)), .int .i64 65536] w fun e w' => ∃ wb bb, e = .returned (.pointer (some ⟨wb, 0, none⟩)) ∧ BW w' rb wb bb sa fail [] [] false (.slice none 0 0) ∧
      Below w.heap.size w w' ∧ w.heap.size ≤ wb ∧ w.heap.size ≤ bb ∧ wb < w'.heap.size ∧ bb < w'.heap.size := by
  obtain ⟨ti, hi, hz0, hz1, hz2⟩ := info_parts info5
  have HR := hide hr
  clear hr
  go_enter Ybad.func11, Ybad.ntmps11
  go_wp2_with (at_make; refine wpList_make_full _ rfl (.tmp 25) (.tmp 25) 22 rfl w.heap.size 5 ti (.int .u8 0) 1 Ybad.underlying22 hi hz0 hz1 _ _ _ _ 65536 rfl rfl rfl rfl (by rw [hz2]; decide) (by unfold maxLen; decide) (Nat.le_refl _) ?_)
  intro w1 hown1 hgrow1
  have B1 : Blk w1 w.heap.size (List.replicate 65536 (.int .u8 0)) 5 := made_row hown1
  have L1 : Below w.heap.size w w1 := (Below.refl _ _).grown hgrow1 (Nat.le_refl _) (fun _ h => by cases h)
  have H1 := hide (And.intro B1 L1)
  clear B1 L1 hown1 hgrow1 hi
  go_wp2_with fail
  go_ret
  have R1 : Blk w1 rb (rCells (.slice none 0 0) sa fail) 29 := HR.out.below H1.out.2 HR.out.lt
  have hw := H1.out.2.size
  have hrl := HR.out.lt
  have hbl := H1.out.1.lt
  refine ⟨w1.heap.size, w.heap.size, rfl, ⟨Blk.new w1 (wCells rb w.heap.size sa false 0) 54, ⟨List.replicate 65536 0, by rw [List.nil_append, List.length_replicate], ?_⟩, ⟨R1.alloc _, World.ownsRow_nil _ _ _ _, by simp [Value.ownBlock]⟩, ?_, ?_, ?_, by simp [Value.ownBlock], by simp [Value.ownBlock]⟩, H1.out.2.alloc hw _, hw, Nat.le_refl _, by simp, by simp; omega⟩
  · rw [List.nil_append, List.map_replicate]; exact H1.out.1.alloc _
  · omega
  · omega
  · omega

set_option maxRecDepth 100000 in
set_option maxHeartbeats 1000000 in
/-- what a new Writer is: the writer's, the encoder's and the dump's blocks, over a sink that holds nothing -/
theorem newWriter_any (rb : Nat) (sa : Addr) (fail : Bool) (w : World) (hr : Blk w rb (rCells (.slice none 0 0) sa fail) 29) :
    Calls Ybad.prog 6 #[.iface 27 (.pointer (some ⟨rb, 0, none⟩))] w fun e w' => ∃ wb bb eb db, e = .returned (.pointer (some ⟨db, 0, none⟩)) ∧ EW w' rb wb bb eb sa fail [] [] false (.slice none 0 0) false ∧
      Blk w' db (dCells wb eb) 46 ∧ db ≠ eb ∧ ¬ Mine rb wb bb (.slice none 0 0) db ∧ Below w.heap.size w w' ∧ w.heap.size ≤ wb ∧ w.heap.size ≤ bb ∧ w.heap.size ≤ eb ∧ w.heap.size ≤ db := by
  have HR := hide hr
  clear hr
  go_enter Ybad.func6, Ybad.ntmps6
  go_wp2_with fail
  refine (newSize_any rb sa fail w HR.out).mono ?_
  rintro e w1 ⟨wb, bb, rfl, h1, L1, a1, a2, a3, a4⟩
  have H1 := hide (And.intro h1 L1)
  clear h1 L1
  go_wp2_with (go_at_call 12; refine (newEncoder_any wb _).mono ?_; rintro e w2 ⟨rfl, rfl⟩)
  go_ret
  have hrl := HR.out.lt
  have hw1 := H1.out.2.size
  have P : But (fun k => k = w1.heap.size) w1 ((w1.alloc (.cells (eMade wb) 58)).alloc (.cells (dCells wb w1.heap.size).toArray 46)) := ((But.refl _ w1).alloc _).alloc _
  have hm : ¬ Mine rb wb bb (.slice none 0 0) w1.heap.size := by
    rintro (h | h | h | h)
    · omega
    · omega
    · omega
    · simp [Value.ownBlock] at h
  have hm2 : ¬ Mine rb wb bb (.slice none 0 0) (w1.heap.size + 1) := by
    rintro (h | h | h | h)
    · omega
    · omega
    · omega
    · simp [Value.ownBlock] at h
  refine ⟨wb, bb, w1.heap.size, w1.heap.size + 1, rfl, ⟨H1.out.1.but_e hm P, ⟨List.replicate 1024 0, List.length_replicate, (Blk.new w1 _ 58).alloc _⟩, hm, fun h => by cases h⟩, ?_, by omega, hm2, ((H1.out.2.alloc hw1 _).alloc (by simp; omega) _), a1, a2, hw1, by omega⟩
  have := Blk.new (w1.alloc (.cells (eMade wb) 58)) (dCells wb w1.heap.size) 46
  rw [World.size_alloc] at this
  exact this

end Go.Proofs.YbulkeekaDoor
