/-
  THE ROW's STEP: as YbulkeekoFmtOpen, over DecC: closed facts, and how arguments are opened and read back.
-/
import Derived.Test.YbulkeekoFmtCards
import Derived.Test.YbulkeekoFmtRow
import Derived.ProofKit
import Derived.OpenShut
import Derived.Carry
import Derived.Stop.JoinedAt
import Derived.Stop.JoinedTold
import Derived.SevenToldRow
import Derived.SizedLaws
namespace Go.Proofs.YbulkeekoFmt
open Go.ChangeShapes Go.WideShapes Go.ChangeAt Go.RowKit
open Go.Extern.Stop Go.Stop Go.Extern

theorem own : ownKnob Ybaf.prog.godebug = none := by kernel_rfl
theorem laidOut : laidOutB Ybaf.pinned.checked.prog = true := by kernel_rfl
theorem stops : Ybaf.pinned.checked.prog.stops = ["fmt.Sprintf", "fmt.errorf"] := by kernel_rfl
theorem stopKnobs : Ybaf.pinned.checked.prog.stopKnobs = [] := by kernel_rfl
theorem quiet (os : Os) : Stop.quiet Ybaf.pinned.checked.prog os := by
  intro k hk
  rw [stopKnobs] at hk
  cases hk
theorem cells5 : Ybaf.prog.cellsOf 5 = 1 := by kernel_rfl

/-- below the heap's old size nothing has turned: so all arguments read as they did, through the same places -/
theorem below_trodAll {H : Type} {enc : TypeId × Value → H} {P : Program} (hl : laidOutB P = true) {W W' : World} (hb : Below W.heap.size W W') :
    ∀ (ts : List TypeId) {vs : List Value} {ds : List (DataW H)} {ps : List MemPlace}, (∀ t ∈ ts, P.readableRec t = true ∧ t < P.types.size) → DataW.TrodAll enc P W 0 (fun _ => true) true ts vs ds ps →
      (∀ x ∈ ps, x.block < W.heap.size) → DataW.TrodAll enc P W' 0 (fun b => decide (b < W.heap.size)) true ts vs ds ps
  | [], vs, ds, ps, _, h, _ => by
    obtain ⟨rfl, rfl, rfl⟩ := trodAll_nil h
    exact h
  | t :: ts, vs, ds, ps, hr, h, hlt => by
    obtain ⟨v, vs', d, ds', p, q, rfl, rfl, rfl, h1, h2⟩ := trodAll_cons h
    exact trodAll_cons_mk (Below.trod hl (hr t (by simp)).1 (hr t (by simp)).2 h1 hb (fun x hx => hlt x (by simp [hx]))) (below_trodAll hl hb ts (fun u hu => hr u (by simp [hu])) h2 (fun x hx => hlt x (by simp [hx])))

/-- a slice of bytes that came in, opened -/
theorem open_bytes {H : Type} {enc : TypeId × Value → H} {W : World} {fuel : Nat} {a0 : Option Addr} {len cap : Nat} {x : DataW H × List MemPlace} (hf : DataW.trod enc Ybaf.prog W 0 (fun _ => true) true fuel 22 [.slice a0 len cap] = some x) :
    ∃ xs : List Nat, Rd W a0 (xs.map (fun (b : Nat) => Value.int .u8 (b : Int))) ∧ xs.length = len ∧ len ≤ cap ∧ (a0 = none → len = 0 ∧ cap = 0) ∧ (∀ y ∈ xs, y < 256) ∧ (len = 0 ∨ ∃ elems spare, x.1 = .slice elems spare ∧ elems.length = len) := by
  rcases open_ints Ybaf.underlying22 Ybaf.underlying5 cells5 hf with ⟨hcs, _⟩ | ⟨a, len', cap', zs, hcs, _, hl, _, hz, hx, hc, hw⟩
  · simp at hcs
    obtain ⟨rfl, rfl, rfl⟩ := hcs
    exact ⟨[], Rd.nil _ _, rfl, Nat.le_refl _, fun _ => ⟨rfl, rfl⟩, (fun y h => by simp at h), Or.inl rfl⟩
  · simp at hcs
    obtain ⟨rfl, rfl, rfl⟩ := hcs
    simp at hz
    refine ⟨(zs.take len).map Int.toNat, fun j u hu => ⟨a, rfl, ?_⟩, by simp; omega, hl, (fun h => by cases h), fun y hy => ?_, Or.inr ⟨_, _, congrArg Prod.fst hx, by simp [lits]; omega⟩⟩
    · rw [List.map_map, List.getElem?_map] at hu
      obtain ⟨y, hy, rfl⟩ := Option.map_eq_some_iff.1 hu
      have hj : j < len := by
        have := (List.getElem?_eq_some_iff.1 hy).1
        simp at this; omega
      rw [hc j (by omega)]
      rw [List.getElem?_take_of_lt hj] at hy
      have := bounds_u8 (hw y (List.mem_of_getElem? hy))
      simp only [List.getD_eq_getElem?_getD, hy, Option.getD_some, Function.comp_apply]
      rw [Int.toNat_of_nonneg this.1]
    · obtain ⟨z, hz', rfl⟩ := List.mem_map.1 hy
      have := bounds_u8 (hw z (List.mem_of_mem_take hz'))
      omega

theorem cells39 : Ybaf.prog.cellsOf 39 = 1 := by kernel_rfl
theorem cells3 : Ybaf.prog.cellsOf 3 = 1 := by kernel_rfl

/-- a slice of words that came in, opened -/
theorem open_words {H : Type} {enc : TypeId × Value → H} {W : World} {fuel : Nat} {a0 : Option Addr} {len cap : Nat} {x : DataW H × List MemPlace} (hf : DataW.trod enc Ybaf.prog W 0 (fun _ => true) true fuel 35 [.slice a0 len cap] = some x) :
    ∃ xs : List Nat, Rd W a0 (u16s xs) ∧ xs.length = len ∧ len ≤ cap ∧ (a0 = none → len = 0 ∧ cap = 0) ∧ (len = 0 ∨ ∃ elems spare, x.1 = .slice elems spare ∧ elems.length = len) := by
  rcases open_ints Ybaf.underlying35 Ybaf.underlying39 cells39 hf with ⟨hcs, _⟩ | ⟨a, len', cap', zs, hcs, _, hl, _, hz, hx, hc, hw⟩
  · simp at hcs
    obtain ⟨rfl, rfl, rfl⟩ := hcs
    exact ⟨[], Rd.nil _ _, rfl, Nat.le_refl _, fun _ => ⟨rfl, rfl⟩, Or.inl rfl⟩
  · simp at hcs
    obtain ⟨rfl, rfl, rfl⟩ := hcs
    simp at hz
    refine ⟨(zs.take len).map Int.toNat, fun j u hu => ⟨a, rfl, ?_⟩, by simp; omega, hl, (fun h => by cases h), Or.inr ⟨_, _, congrArg Prod.fst hx, by simp [lits]; omega⟩⟩
    have hu' : (((zs.take len).map Int.toNat).map (fun (b : Nat) => Value.int .u16 (b : Int)))[j]? = some u := hu
    rw [List.map_map, List.getElem?_map] at hu'
    obtain ⟨y, hy, rfl⟩ := Option.map_eq_some_iff.1 hu'
    have hj : j < len := by
      have := (List.getElem?_eq_some_iff.1 hy).1
      simp at this; omega
    rw [hc j (by omega)]
    rw [List.getElem?_take_of_lt hj] at hy
    have := bounds_u16 (hw y (List.mem_of_getElem? hy))
    simp only [List.getD_eq_getElem?_getD, hy, Option.getD_some, Function.comp_apply]
    rw [Int.toNat_of_nonneg this.1]

/-- a slice of ints that came in, opened -/
theorem open_i64s {H : Type} {enc : TypeId × Value → H} {W : World} {fuel : Nat} {a0 : Option Addr} {len cap : Nat} {x : DataW H × List MemPlace} (hf : DataW.trod enc Ybaf.prog W 0 (fun _ => true) true fuel 36 [.slice a0 len cap] = some x) :
    ∃ xs : List Int, Rd W a0 (i64s xs) ∧ xs.length = len ∧ len ≤ cap ∧ (a0 = none → len = 0 ∧ cap = 0) ∧ (len = 0 ∨ ∃ elems spare, x.1 = .slice elems spare ∧ elems.length = len) := by
  rcases open_ints Ybaf.underlying36 Ybaf.underlying3 cells3 hf with ⟨hcs, _⟩ | ⟨a, len', cap', zs, hcs, _, hl, _, hz, hx, hc, hw⟩
  · simp at hcs
    obtain ⟨rfl, rfl, rfl⟩ := hcs
    exact ⟨[], Rd.nil _ _, rfl, Nat.le_refl _, fun _ => ⟨rfl, rfl⟩, Or.inl rfl⟩
  · simp at hcs
    obtain ⟨rfl, rfl, rfl⟩ := hcs
    simp at hz
    refine ⟨zs.take len, fun j u hu => ⟨a, rfl, ?_⟩, by simp; omega, hl, (fun h => by cases h), Or.inr ⟨_, _, congrArg Prod.fst hx, by simp [lits]; omega⟩⟩
    have hu' : ((zs.take len).map (Value.int .i64))[j]? = some u := hu
    rw [List.getElem?_map] at hu'
    obtain ⟨y, hy, rfl⟩ := Option.map_eq_some_iff.1 hu'
    have hj : j < len := by
      have := (List.getElem?_eq_some_iff.1 hy).1
      simp at this; omega
    rw [hc j (by omega)]
    rw [List.getElem?_take_of_lt hj] at hy
    simp only [List.getD_eq_getElem?_getD, hy, Option.getD_some]

end Go.Proofs.YbulkeekoFmt
