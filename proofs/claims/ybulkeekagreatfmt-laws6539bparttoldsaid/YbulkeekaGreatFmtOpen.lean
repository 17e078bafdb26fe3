/-
  THE ROW's STEP: closed facts, and how arguments are opened and read back.
-/
import Derived.Test.YbulkeekaGreatFmtMod
import Derived.Test.YbulkeekaGreatFmtBkt
import Derived.Test.YbulkeekaGreatFmtCards
import Derived.Test.YbulkeekaGreatFmtTie
import Derived.ProofKit
import Derived.LaidMore
import Derived.OpenShut
import Derived.OpenVars
import Derived.Carry
import Derived.Stop.JoinedAt
import Derived.Stop.JoinedTold
import Derived.SevenToldRow
import Derived.SevenTiedAt
import Derived.SizedLaws
import Derived.SliceStrings
import Derived.Deep.Slices
import Derived.Deep.Strs
import Derived.Deep.DeepWitnessRef
import Derived.Sort.EncStr
namespace Go.Proofs.YbulkeekaGreatFmt
open Go.ChangeShapes Go.WideShapes Go.ChangeAt Go.RowKit Go.Deep Go.Sort
open Go.Extern.Stop Go.Stop Go.Extern
set_option linter.unusedSimpArgs false

theorem own : ownKnob Ybaz.prog.godebug = none := by kernel_rfl
theorem laidOut : laidOutB Ybaz.pinned.checked.prog = true := by kernel_rfl
theorem stops : Ybaz.pinned.checked.prog.stops = Rows.lawS6539BPartRow.stops := by kernel_rfl
theorem stopKnobs : Ybaz.pinned.checked.prog.stopKnobs = [] := by kernel_rfl
theorem quiet (os : Os) : Stop.quiet Ybaz.pinned.checked.prog os := by
  intro k hk
  rw [stopKnobs] at hk
  cases hk
theorem cells5 : Ybaz.prog.cellsOf 5 = 1 := by kernel_rfl
theorem cells9 : Ybaz.prog.cellsOf 9 = 1 := by kernel_rfl
theorem cells23 : Ybaz.prog.cellsOf 23 = 1 := by kernel_rfl
theorem cells24 : Ybaz.prog.cellsOf 24 = 1 := by kernel_rfl
theorem cells26 : Ybaz.prog.cellsOf 26 = 1 := by kernel_rfl
theorem cells30 : Ybaz.prog.cellsOf 30 = 3 := by kernel_rfl
theorem bytes5 : 1 ≤ Ybaz.prog.bytesOf 5 := of_decide_eq_true (by kernel_rfl)
theorem bytes9 : 1 ≤ Ybaz.prog.bytesOf 9 := of_decide_eq_true (by kernel_rfl)
theorem bytes23 : 1 ≤ Ybaz.prog.bytesOf 23 := of_decide_eq_true (by kernel_rfl)
theorem bytes30 : 1 ≤ Ybaz.prog.bytesOf 30 := of_decide_eq_true (by kernel_rfl)

/-- below the heap's old size nothing has turned: so all arguments read as they did, through the same places -/
theorem below_trodAll {H : Type} {enc : TypeId × Value → H} {P : Program} (hl : laidOutB P = true) {W W' : World} (hb : Below W.heap.size W W') :
    ∀ (ts : List TypeId) {vs : List Value} {ds : List (DataW H)} {ps : List MemPlace}, (∀ t ∈ ts, P.readableRec t = true ∧ t < P.types.size) → DataW.TrodAll enc P W 0 (fun _ => true) true ts vs ds ps →
      (∀ x ∈ ps, x.block < W.heap.size) → DataW.TrodAll enc P W' 0 (fun b => decide (b < W.heap.size)) true ts vs ds ps
  | [], vs, ds, ps, _, h, _ => by
    obtain ⟨rfl, rfl, rfl⟩ := trodAll_nil h
    exact h
  | t :: ts, vs, ds, ps, hr, h, hlt => by
    obtain ⟨v, vs', d, ds', p, q, rfl, rfl, rfl, h1, h2⟩ := trodAll_cons h
    exact trodAll_cons_mk (Below.trod hl (hr t (by simp)).1 (hr t (by simp)).2 h1 hb (fun x hx => hlt x (by simp [hx]))) (below_trodAll hl hb ts (fun u hu => hr u (by simp [hu])) h2 (fun x hx => hlt x (by simp [hx])))

/-- an element's weights are among the slice's -/
theorem weights_mem_all {H : Type} {P : Program} {e : TypeId} {d : DataW H} {n : Nat} (hn : n ∈ d.weights P e) : ∀ {l : List (DataW H)}, d ∈ l → n ∈ DataW.weightsAll P e l
  | [], h => by cases h
  | x :: l, h => by
    simp only [DataW.weightsAll, List.mem_append]
    rcases List.mem_cons.1 h with rfl | h
    · exact Or.inl hn
    · exact Or.inr (weights_mem_all hn h)

/-- what the reach says of a slice's length -/
theorem slice_bound {H : Type} {t e : TypeId} {len : Nat} {d : DataW H} (hw : ∀ n ∈ d.weights Ybaz.prog t, n ≤ reachBytes) (hu : Ybaz.prog.underlying t = some (.slice e)) (hb : 1 ≤ Ybaz.prog.bytesOf e)
    (h : len = 0 ∨ ∃ elems spare, d = .slice elems spare ∧ elems.length = len) : len ≤ 140737488355328 := by
  rcases h with rfl | ⟨elems, spare, rfl, rfl⟩
  · omega
  · have h1 := hw ((elems.length + spare.length) * Ybaz.prog.bytesOf e) (by simp [DataW.weights, hu])
    have h2 : (elems.length + spare.length) * 1 ≤ (elems.length + spare.length) * Ybaz.prog.bytesOf e := Nat.mul_le_mul_left _ hb
    have h3 : reachBytes = 140737488351232 := rfl
    omega

/-- a slice of bytes that came in, opened -/
theorem open_bytes {H : Type} {enc : TypeId × Value → H} {W : World} {fuel : Nat} {v : Value} {x : DataW H × List MemPlace} (hf : DataW.trod enc Ybaz.prog W 0 (fun _ => true) true fuel 26 [v] = some x) :
    ∃ (a0 : Option Addr) (cap : Nat) (xs : List Nat), v = .slice a0 xs.length cap ∧ Rd W a0 (u8s xs) ∧ (a0 = none → xs.length = 0 ∧ cap = 0) ∧ (xs.length = 0 ∨ ∃ elems spare, x.1 = .slice elems spare ∧ elems.length = xs.length) := by
  rcases open_ints Ybaz.underlying26 Ybaz.underlying5 cells5 hf with ⟨hcs, _⟩ | ⟨a, len, cap, zs, hcs, _, hl, _, hz, hx, hc, hw⟩
  · simp at hcs
    subst hcs
    exact ⟨none, 0, [], rfl, Rd.nil _ _, fun _ => ⟨rfl, rfl⟩, Or.inl rfl⟩
  · simp at hcs
    subst hcs
    simp at hz
    have hlen : ((zs.take len).map Int.toNat).length = len := by simp; omega
    refine ⟨some a, cap, (zs.take len).map Int.toNat, by rw [hlen], fun j u hu => ⟨a, rfl, ?_⟩, (fun h => by cases h), Or.inr ⟨_, _, congrArg Prod.fst hx, by rw [hlen]; simp [lits]; omega⟩⟩
    have hu' : (((zs.take len).map Int.toNat).map (fun (b : Nat) => Value.int .u8 (b : Int)))[j]? = some u := hu
    rw [List.map_map, List.getElem?_map] at hu'
    obtain ⟨y, hy, rfl⟩ := Option.map_eq_some_iff.1 hu'
    have hj : j < len := by
      have := (List.getElem?_eq_some_iff.1 hy).1
      simp at this; omega
    rw [hc j (by omega)]
    rw [List.getElem?_take_of_lt hj] at hy
    have := bounds_u8 (hw y (List.mem_of_getElem? hy))
    simp only [List.getD_eq_getElem?_getD, hy, Option.getD_some, Function.comp_apply]
    rw [Int.toNat_of_nonneg this.1]

/-- a slice of u64 that came in, opened -/
theorem open_u64s {H : Type} {enc : TypeId × Value → H} {W : World} {fuel : Nat} {v : Value} {x : DataW H × List MemPlace} (hf : DataW.trod enc Ybaz.prog W 0 (fun _ => true) true fuel 28 [v] = some x) :
    ∃ (a0 : Option Addr) (cap : Nat) (xs : List Nat), v = .slice a0 xs.length cap ∧ Rd W a0 (u64s xs) ∧ (xs.length = 0 ∨ ∃ elems spare, x.1 = .slice elems spare ∧ elems.length = xs.length) := by
  rcases open_ints Ybaz.underlying28 Ybaz.underlying23 cells23 hf with ⟨hcs, _⟩ | ⟨a, len, cap, zs, hcs, _, hl, _, hz, hx, hc, hw⟩
  · simp at hcs
    subst hcs
    exact ⟨none, 0, [], rfl, Rd.nil _ _, Or.inl rfl⟩
  · simp at hcs
    subst hcs
    simp at hz
    have hlen : ((zs.take len).map Int.toNat).length = len := by simp; omega
    refine ⟨some a, cap, (zs.take len).map Int.toNat, by rw [hlen], fun j u hu => ⟨a, rfl, ?_⟩, Or.inr ⟨_, _, congrArg Prod.fst hx, by rw [hlen]; simp [lits]; omega⟩⟩
    have hu' : (((zs.take len).map Int.toNat).map (fun (b : Nat) => Value.int .u64 (b : Int)))[j]? = some u := hu
    rw [List.map_map, List.getElem?_map] at hu'
    obtain ⟨y, hy, rfl⟩ := Option.map_eq_some_iff.1 hu'
    have hj : j < len := by
      have := (List.getElem?_eq_some_iff.1 hy).1
      simp at this; omega
    rw [hc j (by omega)]
    rw [List.getElem?_take_of_lt hj] at hy
    have := bounds_u64 (hw y (List.mem_of_getElem? hy))
    simp only [List.getD_eq_getElem?_getD, hy, Option.getD_some, Function.comp_apply]
    rw [Int.toNat_of_nonneg this.1]

/-- the names that came in, opened -/
theorem open_names {H : Type} {enc : TypeId × Value → H} {W : World} {fuel : Nat} {v : Value} {x : DataW H × List MemPlace} (hf : DataW.trod enc Ybaz.prog W 0 (fun _ => true) true fuel 27 [v] = some x) :
    ∃ (a0 : Option Addr) (cap : Nat) (xs : List (List UInt8)), v = .slice a0 xs.length cap ∧ Rd W a0 (xs.map encStr) ∧ (∀ s ∈ xs, s.length ≤ maxLen) ∧ (xs.length = 0 ∨ ∃ elems spare, x.1 = .slice elems spare ∧ elems.length = xs.length) := by
  rcases open_strings Ybaz.underlying27 Ybaz.underlying9 cells9 hf with ⟨hcs, _⟩ | ⟨a, len, cap, ss, hcs, _, hl, _, hz, hx, hc, hw⟩
  · simp at hcs
    subst hcs
    exact ⟨none, 0, [], rfl, Rd.nil _ _, (fun s h => by cases h), Or.inl rfl⟩
  · simp at hcs
    subst hcs
    simp at hz
    have hlen : ((ss.take len).map (fun s => s.data.toList)).length = len := by simp; omega
    refine ⟨some a, cap, (ss.take len).map (fun s => s.data.toList), by rw [hlen], fun j u hu => ⟨a, rfl, ?_⟩, fun s hs => ?_, Or.inr ⟨_, _, congrArg Prod.fst hx, by rw [hlen]; simp [strs]; omega⟩⟩
    · rw [List.map_map, List.getElem?_map] at hu
      obtain ⟨y, hy, rfl⟩ := Option.map_eq_some_iff.1 hu
      have hj : j < len := by
        have := (List.getElem?_eq_some_iff.1 hy).1
        simp at this; omega
      rw [hc j (by omega)]
      rw [List.getElem?_take_of_lt hj] at hy
      simp only [List.getD_eq_getElem?_getD, hy, Option.getD_some, Function.comp_apply]
    · obtain ⟨z, hz', rfl⟩ := List.mem_map.1 hs
      exact hw z (List.mem_of_mem_take hz')

theorem len3 {α : Type} : ∀ {l : List α}, l.length = 3 → ∃ x y z, l = [x, y, z]
  | [x, y, z], _ => ⟨x, y, z, rfl⟩

/-- the elements that came in, opened -/
theorem open_elems {H : Type} {enc : TypeId × Value → H} {W : World} {fuel : Nat} {v : Value} {x : DataW H × List MemPlace} (hf : DataW.trod enc Ybaz.prog W 0 (fun _ => true) true fuel 22 [v] = some x) (hwt : ∀ n ∈ x.1.weights Ybaz.prog 22, n ≤ reachBytes) :
    ∃ (a0 : Option Addr) (cap : Nat) (es : List Ino), v = .slice a0 es.length cap ∧ Elms W a0 es ∧ (∀ e ∈ es, e.fl < 4294967296) ∧ (∀ e ∈ es, e.key.length ≤ 140737488355328 ∧ e.val.length ≤ 140737488355328 ∧ (e.ka = none → e.key.length = 0 ∧ e.kc = 0) ∧ (e.va = none → e.val.length = 0 ∧ e.vc = 0)) ∧
      (es.length = 0 ∨ ∃ elems spare, x.1 = .slice elems spare ∧ elems.length = es.length) := by
  rcases open_slice Ybaz.underlying22 hf with ⟨hcs, _⟩ | ⟨a, len, cap, m, n, D, Pl, hcs, _, hl, _, hm, rfl, hel⟩
  · simp at hcs
    subst hcs
    exact ⟨none, 0, [], rfl, ⟨fun i hi => by simp at hi, fun e he => by cases he⟩, (fun e he => by cases he), (fun e he => by cases he), Or.inl rfl⟩
  · simp at hcs
    subst hcs
    simp at hm
    subst hm
    have each : ∀ i, i < len → ∃ e : Ino, (W.cell? (a.add (i * 3)) = some (.int .u32 e.fl) ∧ W.cell? ((a.add (i * 3)).add 1) = some (.slice e.ka e.key.length e.kc) ∧ W.cell? ((a.add (i * 3)).add 2) = some (.slice e.va e.val.length e.vc)) ∧ (Rd W e.ka (u8s e.key) ∧ Rd W e.va (u8s e.val)) ∧
        e.fl < 4294967296 ∧ (e.key.length ≤ 140737488355328 ∧ e.val.length ≤ 140737488355328 ∧ (e.ka = none → e.key.length = 0 ∧ e.kc = 0) ∧ (e.va = none → e.val.length = 0 ∧ e.vc = 0)) := by
      intro i hi
      obtain ⟨cs', h1, h2⟩ := hel i (by omega)
      have hD : ∀ n ∈ (D i).weights Ybaz.prog 30, n ≤ reachBytes := fun n hn => hwt n (by
        simp only [DataW.weights, Ybaz.underlying22, List.mem_cons, List.mem_append]
        exact Or.inr (Or.inl (weights_mem_all hn (List.mem_map.2 ⟨i, List.mem_range.2 hi, rfl⟩))))
      obtain ⟨y0, y1, y2, n', e1, hlen, t0, t1, t2⟩ := trod_struct3 Ybaz.underlying30 h2
      rw [cells30] at h1 hlen
      obtain ⟨_, _, hcell⟩ := World.cells?_some h1
      obtain ⟨c0, c1, c2, rfl⟩ := len3 hlen
      have q0 := hcell 0 (by omega)
      have q1 := hcell 1 (by omega)
      have q2 := hcell 2 (by omega)
      simp [cells24, cells26] at t0 t1 t2
      obtain ⟨f, hf0, _, wf⟩ := DataW.trod_int Ybaz.underlying24 t0
      simp at hf0
      subst hf0
      obtain ⟨ka, kc, key, rfl, k1, k2, k3⟩ := open_bytes t1
      obtain ⟨va, vc, val, rfl, u1, u2, u3⟩ := open_bytes t2
      have bf := bounds_u32 wf
      have e1' : D i = .agg [y0.1, y1.1, y2.1] := congrArg Prod.fst e1
      have w1 : ∀ n ∈ y1.1.weights Ybaz.prog 26, n ≤ reachBytes := fun n hn => hD n (by
        rw [e1']
        simp only [DataW.weights, Ybaz.underlying30]
        exact DataW.weights_mem_each (j := 1) rfl rfl n hn)
      have w2 : ∀ n ∈ y2.1.weights Ybaz.prog 26, n ≤ reachBytes := fun n hn => hD n (by
        rw [e1']
        simp only [DataW.weights, Ybaz.underlying30]
        exact DataW.weights_mem_each (j := 2) rfl rfl n hn)
      refine ⟨⟨f.toNat, ka, kc, key, va, vc, val⟩, ⟨?_, q1, q2⟩, ⟨k1, u1⟩, by show f.toNat < _; omega, slice_bound w1 Ybaz.underlying26 bytes5 k3, slice_bound w2 Ybaz.underlying26 bytes5 u3, k2, u2⟩
      show W.cell? (a.add (i * 3)) = some (.int .u32 ((f.toNat : Nat) : Int))
      rw [Int.toNat_of_nonneg bf.1]
      simpa [Addr.add] using q0
    have _ : Inhabited Ino := ⟨⟨0, none, 0, [], none, 0, []⟩⟩
    obtain ⟨E, hE⟩ := choose_lt each
    have hget : ∀ e ∈ (List.range len).map E, ∃ i, i < len ∧ e = E i := fun e he => by
      obtain ⟨i, hi, rfl⟩ := List.mem_map.1 he
      exact ⟨i, List.mem_range.1 hi, rfl⟩
    have hlen : ((List.range len).map E).length = len := by simp
    refine ⟨some a, m, (List.range len).map E, by rw [hlen], ⟨fun i hi => ?_, fun e he => ?_⟩, fun e he => ?_, fun e he => ?_, Or.inr ⟨_, _, rfl, by simp⟩⟩
    · rw [hlen] at hi
      have := (hE i hi).1
      simp only [List.getElem_map, List.getElem_range]
      exact ⟨a, rfl, this⟩
    · obtain ⟨i, hi, rfl⟩ := hget e he
      exact (hE i hi).2.1
    · obtain ⟨i, hi, rfl⟩ := hget e he
      exact (hE i hi).2.2.1
    · obtain ⟨i, hi, rfl⟩ := hget e he
      exact (hE i hi).2.2.2

end Go.Proofs.YbulkeekaGreatFmt
