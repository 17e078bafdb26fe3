/-
  WHAT LawS6540CWhole's WALK LEANS ON: its own model's loops as plain laws; the reader as it is laid; the row that it expects.
-/
import Derived.Test.YbulkeekoFmtDistAll
namespace Go.Proofs.YbulkeekoFmt
open Go.RowKit Go.Extern.Stop Go.Stop Go.Extern
set_option linter.unusedSimpArgs false
set_option linter.unusedVariables false

theorem bitLen_of (m i : Nat) (h0 : 1 ≤ m) (hm : m ≤ 1048576) (h1 : m ≤ 2 ^ i) (h2 : i = 0 ∨ 2 ^ (i - 1) < m) : i = Lib.bitLen (m - 1) := by
  by_cases hz : m - 1 = 0
  · have : m = 1 := by omega
    subst this
    rcases h2 with rfl | h2
    · decide
    · have := Nat.two_pow_pos (i - 1); omega
  · obtain ⟨a, b, c⟩ := Lib.bitLenAux_bounds 64 (m - 1) (by omega) hz
    have e : Lib.bitLen (m - 1) = Lib.bitLenAux 64 (m - 1) := rfl
    rw [e]
    generalize Lib.bitLenAux 64 (m - 1) = x at *
    have g1 : x - 1 < i := (Nat.pow_lt_pow_iff_right (by decide : 1 < 2)).1 (Nat.lt_of_le_of_lt b (by omega))
    rcases h2 with rfl | h2
    · omega
    · have g2 : i - 1 < x := (Nat.pow_lt_pow_iff_right (by decide : 1 < 2)).1 (Nat.lt_of_le_of_lt (by omega : 2 ^ (i - 1) ≤ m - 1) c)
      omega

/-- the row that the model lays, in memory that is new since w9 -/
structure Exp (w9 wr : World) (v : Value) (h : List Nat) : Prop where
  o : wr.ownsRow 0 40 1 v h.length (u16s h)
  n : ∀ k, v.ownBlock = some k → w9.heap.size ≤ k
  L : Below w9.heap.size w9 wr

/-- an append of one, in a plain region -/
theorem push_run0 {w : World} {T e : TypeId} {ti : TypeInfo} {z x : Value} {bytes : Nat} (ht : Ybaf.prog.underlying T = some (.slice e)) (hi : Ybaf.prog.info? e = some ti) (hz0 : ti.zero = some z) (hz1 : ti.size = 1) (hz2 : ti.bytes = bytes) (hzs : z.cells.size = 1) (hby : bytes ≤ 8)
    {v : Value} {xs : List Value} (ho : w.ownsRow 0 e 1 v xs.length xs) (hx : x.oneCell' = true) (hl : xs.length ≤ 3000000) :
    ∃ v' w', (Builtin.append_ #[T, T] T #[v, .slice (some ⟨w.heap.size, 0, none⟩) 1 1]).run Ybaf.prog (w.alloc (.cells #[x] e)) = .ok v' w' ∧ w'.ownsRow 0 e 1 v' (xs ++ [x]).length (xs ++ [x]) ∧ But (fun k => v.ownBlock = some k) w w' ∧ (v'.ownBlock = v.ownBlock ∨ ∃ g, v'.ownBlock = some g ∧ w.heap.size ≤ g) := by
  have ho' : (w.alloc (.cells #[x] e)).ownsRow 0 e 1 v xs.length xs := owns_but ho ((But.refl (fun _ => False) w).alloc _) (fun _ _ h => h)
  obtain ⟨v1, w1, hrun, ho1, hg1, hat⟩ := append_run (P := Ybaf.prog) (w := w.alloc (.cells #[x] e)) (T := T) (ty := T) (c := 1) (m := 1) (ao := some ⟨w.heap.size, 0, none⟩) (news := [x]) ht hi hz0 hz1 hz2 hzs ho' rfl
    (fun j u hu => ⟨_, rfl, by
      have := (Blk.new w [x] e).cell hu
      rw [Addr.add_lit, Nat.zero_add]; exact this⟩)
    (fun h => by cases h) (by simpa using hx) (by unfold maxLen; omega) (by have : (xs.length + 1) * bytes ≤ 3000001 * 8 := Nat.mul_le_mul (by omega) hby; omega)
  refine ⟨v1, w1, hrun, by simpa using ho1, ((But.refl _ w).alloc _).trans (But.of_grown hg1 (fun k hk => hk)), ?_⟩
  rcases hat with h | h
  · exact Or.inl h
  · exact Or.inr ⟨_, h, by simp⟩

theorem Exp.push {w9 wr : World} {v : Value} {h : List Nat} (E : Exp w9 wr v h) (x : Nat) (hl : h.length ≤ 3000000) :
    ∃ v' w', (Builtin.append_ #[37, 37] 37 #[v, .slice (some ⟨wr.heap.size, 0, none⟩) 1 1]).run Ybaf.prog (wr.alloc (.cells #[.int .u16 (x : Int)] 40)) = .ok v' w' ∧ Hid (Exp w9 w' v' (h ++ [x])) := by
  obtain ⟨ti, hi, hz0, hz1, hz2⟩ := info_parts info40
  have ho : wr.ownsRow 0 40 1 v (u16s h).length (u16s h) := by simpa using E.o
  obtain ⟨v', w', hrun, ho', P, V⟩ := push_run0 (x := .int .u16 (x : Int)) Ybaf.underlying37 hi hz0 hz1 hz2 rfl (by decide) ho rfl (by simpa using hl)
  refine ⟨v', w', hrun, by simpa using ho', fun k hk => ?_, E.L.trans (P.below (fun k hk => E.n k hk) E.L.size)⟩
  rcases V with e | ⟨g, e, hg⟩
  · exact E.n k (e ▸ hk)
  · rw [e] at hk; cases hk
    have := E.L.size; omega

/-- the like for a row of ints -/
structure ExpI (w9 wr : World) (v : Value) (h : List Int) : Prop where
  o : wr.ownsRow 0 3 1 v h.length (i64s h)
  n : ∀ k, v.ownBlock = some k → w9.heap.size ≤ k
  L : Below w9.heap.size w9 wr

theorem ExpI.push {w9 wr : World} {v : Value} {h : List Int} (E : ExpI w9 wr v h) (x : Int) (hl : h.length ≤ 3000000) :
    ∃ v' w', (Builtin.append_ #[36, 36] 36 #[v, .slice (some ⟨wr.heap.size, 0, none⟩) 1 1]).run Ybaf.prog (wr.alloc (.cells #[.int .i64 x] 3)) = .ok v' w' ∧ Hid (ExpI w9 w' v' (h ++ [x]) ∧ But (fun k => v.ownBlock = some k) wr w' ∧ Fresh wr v v') := by
  obtain ⟨ti, hi, hz0, hz1, hz2⟩ := info_parts info3
  have ho : wr.ownsRow 0 3 1 v (i64s h).length (i64s h) := by simpa using E.o
  obtain ⟨v', w', hrun, ho', P, V⟩ := push_run0 (x := .int .i64 x) Ybaf.underlying36 hi hz0 hz1 hz2 rfl (by decide) ho rfl (by simpa using hl)
  refine ⟨v', w', hrun, ⟨by simpa using ho', fun k hk => ?_, E.L.trans (P.below (fun k hk => E.n k hk) E.L.size)⟩, P, V⟩
  rcases V with e | ⟨g, e, hg⟩
  · exact E.n k (e ▸ hk)
  · rw [e] at hk; cases hk
    have := E.L.size; omega

/-- the reader as it is laid -/
theorem mkSr {w5 w6 w7 w8 : World} {oa : Option Addr} {oc rb : Nat} {ord rest held : List Nat} {ends nth : List Int} {hv ev nv : Value} (R rd : Int) (last u : Nat)
    (hO : Rd w5 oa (u16s ord)) (hO0 : 1 ≤ ord.length) (hOc : ord.length ≤ oc) (hR : Rd w5 (some ⟨rb, 0, none⟩) (u8s rest)) (hrb : rb < w5.heap.size)
    (o6 : Own w5 w6 40 hv (u16s held)) (L6 : Below w5.heap.size w5 w6) (o7 : Own w6 w7 3 ev (i64s ends)) (L7 : Below w6.heap.size w6 w7) (o8 : Own w7 w8 3 nv (i64s nth)) (L8 : Below w7.heap.size w7 w8)
    (hrd0 : -9223372036854775808 ≤ rd) (hrd1 : rd < 9223372036854775808) :
    Hid (Sr ((w8.alloc (.cells (dC (some ⟨rb, 0, none⟩) rest.length rest.length rd last u).toArray 26)).alloc (.cells (srC w8.heap.size R (.slice oa ord.length oc) hv ev nv).toArray 51)) (w8.heap.size + 1) w8.heap.size rb R ord oa oc held ends nth hv ev nv ∧
    DecAt ((w8.alloc (.cells (dC (some ⟨rb, 0, none⟩) rest.length rest.length rd last u).toArray 26)).alloc (.cells (srC w8.heap.size R (.slice oa ord.length oc) hv ev nv).toArray 51)) w8.heap.size rb rest rd last u 0 (some ⟨rb, 0, none⟩) rest.length ∧
    Below w5.heap.size w5 ((w8.alloc (.cells (dC (some ⟨rb, 0, none⟩) rest.length rest.length rd last u).toArray 26)).alloc (.cells (srC w8.heap.size R (.slice oa ord.length oc) hv ev nv).toArray 51)) ∧ rb ≠ w8.heap.size ∧
    (∀ k, Own3 (w8.heap.size + 1) w8.heap.size hv ev nv k → w5.heap.size ≤ k)) := by
  have s5 := L6.size
  have s6 := L7.size
  have s7 := L8.size
  have PB : But (fun _ => False) w8 ((w8.alloc (.cells (dC (some ⟨rb, 0, none⟩) rest.length rest.length rd last u).toArray 26)).alloc (.cells (srC w8.heap.size R (.slice oa ord.length oc) hv ev nv).toArray 51)) := ((But.refl _ w8).alloc _).alloc _
  have P8 : But (fun _ => False) w7 w8 := But.of_below' L8
  have P7 : But (fun _ => False) w6 w7 := But.of_below' L7
  have P6 : But (fun _ => False) w5 w6 := But.of_below' L6
  have PA := ((P6.trans P7).trans P8).trans PB
  have hsz : ((w8.alloc (.cells (dC (some ⟨rb, 0, none⟩) rest.length rest.length rd last u).toArray 26)).alloc (.cells (srC w8.heap.size R (.slice oa ord.length oc) hv ev nv).toArray 51)).heap.size = w8.heap.size + 2 := by simp
  have k6 : ∀ k, hv.ownBlock = some k → w5.heap.size ≤ k ∧ k < w6.heap.size := fun k h => ⟨o6.n k h, (o6.o.lt k h).2⟩
  have k7 : ∀ k, ev.ownBlock = some k → w6.heap.size ≤ k ∧ k < w7.heap.size := fun k h => ⟨o7.n k h, (o7.o.lt k h).2⟩
  have k8 : ∀ k, nv.ownBlock = some k → w7.heap.size ≤ k ∧ k < w8.heap.size := fun k h => ⟨o8.n k h, (o8.o.lt k h).2⟩
  have B1 := Blk.new (w8.alloc (.cells (dC (some ⟨rb, 0, none⟩) rest.length rest.length rd last u).toArray 26)) (srC w8.heap.size R (.slice oa ord.length oc) hv ev nv) 51
  rw [show (w8.alloc (.cells (dC (some ⟨rb, 0, none⟩) rest.length rest.length rd last u).toArray 26)).heap.size = w8.heap.size + 1 by simp] at B1
  refine ⟨⟨B1, ?_, ?_, ?_, hO.but PA (fun _ _ h => h), hOc, by omega, by omega, fun k h => ?_, fun k h => ?_, fun k h => ?_, fun ad e => ?_, by rw [hsz]; omega⟩, ⟨?_, by simp [needB], ?_, fun ad e => Or.inr (by cases e; rfl), fun e => (by cases e), by simp [needB]⟩, ?_, by omega, ?_⟩
  · have := owns_but o6.o ((P7.trans P8).trans PB) (fun _ _ h => h)
    simpa using this
  · have := owns_but o7.o (P8.trans PB) (fun _ _ h => h)
    simpa using this
  · have := owns_but o8.o PB (fun _ _ h => h)
    simpa using this
  · have := k6 k h
    exact ⟨by omega, by omega, by omega, fun h => by have := k7 k h; omega, fun h => by have := k8 k h; omega⟩
  · have := k7 k h
    exact ⟨by omega, by omega, by omega, fun h => by have := k8 k h; omega⟩
  · have := k8 k h
    exact ⟨by omega, by omega, by omega⟩
  · have hlt := hO.lt_of (by rw [List.length_map]; omega) e
    exact ⟨by omega, by omega, fun h => by have := k6 _ h; omega, fun h => by have := k7 _ h; omega, fun h => by have := k8 _ h; omega, by rw [hsz]; omega⟩
  · have := (Blk.new w8 (dC (some ⟨rb, 0, none⟩) rest.length rest.length rd last u) 26).alloc (.cells (srC w8.heap.size R (.slice oa ord.length oc) hv ev nv).toArray 51)
    have hn : needB u 0 = 0 := by simp [needB]
    rw [hn, rdAt_zero rd hrd0 hrd1]
    simpa [lastAt] using this
  · have hn : needB u 0 = 0 := by simp [needB]
    rw [hn, List.drop_zero]
    exact hR.but PA (fun _ _ h => h)
  · exact PA.below (fun _ h => h.elim) (Nat.le_refl _)
  · rintro k (h | h | h | h | h)
    · omega
    · omega
    · exact (k6 k h).1
    · have := k7 k h; omega
    · have := k8 k h; omega

end Go.Proofs.YbulkeekoFmt
