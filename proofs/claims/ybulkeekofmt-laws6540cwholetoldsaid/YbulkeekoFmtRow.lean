/-
  THE WALK of (*sliceReader).distinctRow.
-/
import Derived.Test.YbulkeekoFmtIdx
import Derived.Test.YbulkeekoFmtLibC
namespace Go.Proofs.YbulkeekoFmt
open Go.RowKit Go.Extern.Stop Go.Stop Go.Extern
set_option linter.unusedSimpArgs false
set_option linter.unusedVariables false

abbrev u16s (xs : List Nat) : List Value := xs.map (fun (b : Nat) => Value.int .u16 (b : Int))
abbrev i64s (xs : List Int) : List Value := xs.map (Value.int .i64)

/-- the cells of a slice reader -/
def srC (db : Nat) (R : Int) (ov hv ev nv : Value) : List Value :=
  [.pointer (some ⟨db, 0, none⟩), .int .i64 3, .int .i64 R, .int .i64 11, .int .i64 0, .int .i64 0, .int .i64 0, .slice none 0 0, .pointer none, ov, hv, ev, nv]

/-- a slice reader: its own rows, apart from each other and from all else -/
structure Sr (w : World) (sb db rb : Nat) (R : Int) (ord : List Nat) (oa : Option Addr) (oc : Nat) (held : List Nat) (ends nth : List Int) (hv ev nv : Value) : Prop where
  S : Blk w sb (srC db R (.slice oa ord.length oc) hv ev nv) 51
  h : w.ownsRow 0 40 1 hv held.length (u16s held)
  e : w.ownsRow 0 3 1 ev ends.length (i64s ends)
  n : w.ownsRow 0 3 1 nv nth.length (i64s nth)
  o : Rd w oa (u16s ord)
  oc : ord.length ≤ oc
  d1 : sb ≠ db
  d2 : rb ≠ sb
  h1 : ∀ k, hv.ownBlock = some k → k ≠ sb ∧ k ≠ db ∧ k ≠ rb ∧ ev.ownBlock ≠ some k ∧ nv.ownBlock ≠ some k
  e1 : ∀ k, ev.ownBlock = some k → k ≠ sb ∧ k ≠ db ∧ k ≠ rb ∧ nv.ownBlock ≠ some k
  n1 : ∀ k, nv.ownBlock = some k → k ≠ sb ∧ k ≠ db ∧ k ≠ rb
  oa1 : ∀ ad, oa = some ad → ad.block ≠ sb ∧ ad.block ≠ db ∧ hv.ownBlock ≠ some ad.block ∧ ev.ownBlock ≠ some ad.block ∧ nv.ownBlock ≠ some ad.block ∧ ad.block < w.heap.size
  lt : rb < w.heap.size ∧ db < w.heap.size

/-- what may be written -/
def Own3 (sb db : Nat) (hv ev nv : Value) (k : Nat) : Prop := k = sb ∨ k = db ∨ hv.ownBlock = some k ∨ ev.ownBlock = some k ∨ nv.ownBlock = some k

/-- what the decoder's own writes leave -/
theorem Sr.dec {w w' : World} {sb db rb : Nat} {R : Int} {ord : List Nat} {oa : Option Addr} {oc : Nat} {held : List Nat} {ends nth : List Int} {hv ev nv : Value} (s : Sr w sb db rb R ord oa oc held ends nth hv ev nv) (P : But (fun g => g = db) w w') : Sr w' sb db rb R ord oa oc held ends nth hv ev nv := by
  refine ⟨s.S.but P s.d1, owns_but s.h P (fun k hk => (s.h1 k hk).2.1), owns_but s.e P (fun k hk => (s.e1 k hk).2.1), owns_but s.n P (fun k hk => (s.n1 k hk).2.1), s.o.but P (fun ad e => (s.oa1 ad e).2.1), s.oc, s.d1, s.d2, s.h1, s.e1, s.n1, fun ad e => ?_, ⟨Nat.lt_of_lt_of_le s.lt.1 P.size, Nat.lt_of_lt_of_le s.lt.2 P.size⟩⟩
  obtain ⟨a, b, c, d, f, g⟩ := s.oa1 ad e
  exact ⟨a, b, c, d, f, Nat.lt_of_lt_of_le g P.size⟩

/-- one value laid behind an owned row, in a fresh row of one -/
theorem push_run {w : World} {T e : TypeId} {ti : TypeInfo} {z x : Value} {bytes : Nat} (ht : Ybaf.prog.underlying T = some (.slice e)) (hi : Ybaf.prog.info? e = some ti) (hz0 : ti.zero = some z) (hz1 : ti.size = 1) (hz2 : ti.bytes = bytes) (hzs : z.cells.size = 1) (hby : bytes ≤ 8)
    {v : Value} {xs : List Value} (ho : w.ownsRow 0 e 1 v xs.length xs) (hx : x.oneCell' = true) (hl : xs.length ≤ 3000000) :
    ∃ v' w', (Builtin.append_ #[T, T] T #[v, .slice (some ⟨w.heap.size, 0, none⟩) 1 1]).run Ybaf.prog (w.alloc (.cells #[x] e)).drew = .ok v' w' ∧ w'.ownsRow 0 e 1 v' (xs ++ [x]).length (xs ++ [x]) ∧ But (fun k => v.ownBlock = some k) w w' ∧ (v'.ownBlock = v.ownBlock ∨ ∃ g, v'.ownBlock = some g ∧ w.heap.size ≤ g) := by
  have ho' : (w.alloc (.cells #[x] e)).drew.ownsRow 0 e 1 v xs.length xs := owns_but ho (((But.refl (fun _ => False) w).alloc _).drew) (fun _ _ h => h)
  obtain ⟨v1, w1, hrun, ho1, hg1, hat⟩ := append_run (P := Ybaf.prog) (w := (w.alloc (.cells #[x] e)).drew) (T := T) (ty := T) (c := 1) (m := 1) (ao := some ⟨w.heap.size, 0, none⟩) (news := [x]) ht hi hz0 hz1 hz2 hzs ho' rfl
    (fun j u hu => ⟨_, rfl, by
      have := (Blk.new w [x] e).cell hu
      rw [Addr.add_lit, Nat.zero_add]; exact this⟩)
    (fun h => by cases h) (by simpa using hx) (by unfold maxLen; omega) (by have : (xs.length + 1) * bytes ≤ 3000001 * 8 := Nat.mul_le_mul (by omega) hby; omega)
  refine ⟨v1, w1, hrun, by simpa using ho1, (((But.refl _ w).alloc _).drew).trans (But.of_grown hg1 (fun k hk => hk)), ?_⟩
  rcases hat with h | h
  · exact Or.inl h
  · exact Or.inr ⟨_, h, by simp [World.drew]⟩

theorem But.trans2 {S S1 : Nat → Prop} {a b c : World} (h : But S a b) (k : But S1 b c) (hs : ∀ i, i < a.heap.size → S1 i → S i) : But S a c :=
  ⟨k.os.trans h.os, k.tape.trans h.tape, k.output.trans h.output, Nat.le_trans h.size k.size, fun i hi hS => (k.block i (Nat.lt_of_lt_of_le hi h.size) (fun h1 => hS (hs i hi h1))).trans (h.block i hi hS)⟩

/-- the value is what it was, or lies in memory that is new since w -/
def Fresh (w : World) (v0 v : Value) : Prop := v.ownBlock = v0.ownBlock ∨ ∃ g, v.ownBlock = some g ∧ w.heap.size ≤ g
theorem Fresh.refl (w : World) (v : Value) : Fresh w v v := Or.inl rfl
theorem Fresh.trans {w w1 : World} {v0 v v' : Value} (h : Fresh w v0 v) (k : Fresh w1 v v') (hs : w.heap.size ≤ w1.heap.size) : Fresh w v0 v' := by
  rcases k with k | ⟨g, k1, k2⟩
  · rcases h with h | ⟨g, h1, h2⟩
    · exact Or.inl (k.trans h)
    · exact Or.inr ⟨g, k.trans h1, h2⟩
  · exact Or.inr ⟨g, k1, by omega⟩
theorem Fresh.old {w : World} {v0 v : Value} (h : Fresh w v0 v) {k : Nat} (hk : k < w.heap.size) (e : v.ownBlock = some k) : v0.ownBlock = some k := by
  rcases h with h | ⟨g, h1, h2⟩
  · rw [← h]; exact e
  · rw [h1] at e; cases e; omega

/-- one symbol more is held -/
theorem Sr.pushH {w : World} {sb db rb : Nat} {R : Int} {ord : List Nat} {oa : Option Addr} {oc : Nat} {held : List Nat} {ends nth : List Int} {hv ev nv : Value} (s : Sr w sb db rb R ord oa oc held ends nth hv ev nv) (x : Nat) (hl : held.length ≤ 3000000) :
    ∃ v' w', (Builtin.append_ #[37, 37] 37 #[hv, .slice (some ⟨w.heap.size, 0, none⟩) 1 1]).run Ybaf.prog (w.alloc (.cells #[.int .u16 (x : Int)] 40)).drew = .ok v' w' ∧
      Hid (Blk w' sb (srC db R (.slice oa ord.length oc) hv ev nv) 51 ∧ Rd w' oa (u16s ord) ∧
        Sr (w'.setCell ⟨sb, 10, none⟩ v') sb db rb R ord oa oc (held ++ [x]) ends nth v' ev nv ∧ But (fun k => k = sb ∨ hv.ownBlock = some k) w (w'.setCell ⟨sb, 10, none⟩ v') ∧ Fresh w hv v') := by
  obtain ⟨ti, hi, hz0, hz1, hz2⟩ := info_parts info40
  have ho : w.ownsRow 0 40 1 hv (u16s held).length (u16s held) := by simpa using s.h
  obtain ⟨v', w', hrun, ho', P, V⟩ := push_run (x := .int .u16 (x : Int)) Ybaf.underlying37 hi hz0 hz1 hz2 rfl (by decide) ho rfl (by simpa using hl)
  have S' : Blk w' sb (srC db R (.slice oa ord.length oc) hv ev nv) 51 := s.S.but P (fun h => (s.h1 sb h).1 rfl)
  have O' : Rd w' oa (u16s ord) := s.o.but P (fun ad e h => (s.oa1 ad e).2.2.1 h)
  have hsb : sb < w.heap.size := s.S.lt
  have V' : ∀ k, v'.ownBlock = some k → k ≠ sb ∧ k ≠ db ∧ k ≠ rb ∧ ev.ownBlock ≠ some k ∧ nv.ownBlock ≠ some k := by
    intro k hk
    rcases V with h | ⟨g, h1, h2⟩
    · exact s.h1 k (h ▸ hk)
    · rw [h1] at hk; cases hk
      refine ⟨by omega, by have := s.lt.2; omega, by have := s.lt.1; omega, fun h => ?_, fun h => ?_⟩
      · have := (s.e.lt k h).2; omega
      · have := (s.n.lt k h).2; omega
  have Q : But (fun k => k = sb) w' (w'.setCell ⟨sb, 10, none⟩ v') := (But.refl (fun k => k = sb) w').setCell (p := ⟨sb, 10, none⟩) (Or.inr rfl) v'
  refine ⟨v', w', hrun, S', O', ⟨S'.set 10 v', ?_, ?_, ?_, O'.but Q (fun ad e => (s.oa1 ad e).1), s.oc, s.d1, s.d2, V', s.e1, s.n1, fun ad e => ?_, ?_⟩, ?_, V⟩
  · have := owns_but ho' Q (fun k hk => (V' k hk).1)
    simpa using this
  · exact owns_but (owns_but s.e P (fun k hk h => (s.h1 k h).2.2.2.1 hk)) Q (fun k hk => (s.e1 k hk).1)
  · exact owns_but (owns_but s.n P (fun k hk h => (s.h1 k h).2.2.2.2 hk)) Q (fun k hk => (s.n1 k hk).1)
  · obtain ⟨a, b, c, d, f, g⟩ := s.oa1 ad e
    refine ⟨a, b, fun h => ?_, d, f, Nat.lt_of_lt_of_le g (Nat.le_trans P.size Q.size)⟩
    rcases V with h1 | ⟨g', h1, h2⟩
    · exact c (h1 ▸ h)
    · rw [h1] at h; cases h; omega
  · exact ⟨Nat.lt_of_lt_of_le s.lt.1 (Nat.le_trans P.size Q.size), Nat.lt_of_lt_of_le s.lt.2 (Nat.le_trans P.size Q.size)⟩
  · exact (P.mono (fun k _ h => Or.inr h)).trans2 Q (fun k _ h => Or.inl h)

/-- one number more in nth -/
theorem Sr.pushN {w : World} {sb db rb : Nat} {R : Int} {ord : List Nat} {oa : Option Addr} {oc : Nat} {held : List Nat} {ends nth : List Int} {hv ev nv : Value} (s : Sr w sb db rb R ord oa oc held ends nth hv ev nv) (x : Int) (hl : nth.length ≤ 3000000) :
    ∃ v' w', (Builtin.append_ #[36, 36] 36 #[nv, .slice (some ⟨w.heap.size, 0, none⟩) 1 1]).run Ybaf.prog (w.alloc (.cells #[.int .i64 x] 3)).drew = .ok v' w' ∧
      Hid (Blk w' sb (srC db R (.slice oa ord.length oc) hv ev nv) 51 ∧
        Sr (w'.setCell ⟨sb, 12, none⟩ v') sb db rb R ord oa oc held ends (nth ++ [x]) hv ev v' ∧ But (fun k => k = sb ∨ nv.ownBlock = some k) w (w'.setCell ⟨sb, 12, none⟩ v') ∧ Fresh w nv v') := by
  obtain ⟨ti, hi, hz0, hz1, hz2⟩ := info_parts info3
  have ho : w.ownsRow 0 3 1 nv (i64s nth).length (i64s nth) := by simpa using s.n
  obtain ⟨v', w', hrun, ho', P, V⟩ := push_run (x := .int .i64 x) Ybaf.underlying36 hi hz0 hz1 hz2 rfl (by decide) ho rfl (by simpa using hl)
  have S' : Blk w' sb (srC db R (.slice oa ord.length oc) hv ev nv) 51 := s.S.but P (fun h => (s.n1 sb h).1 rfl)
  have O' : Rd w' oa (u16s ord) := s.o.but P (fun ad e h => (s.oa1 ad e).2.2.2.2.1 h)
  have hsb : sb < w.heap.size := s.S.lt
  have V' : ∀ k, v'.ownBlock = some k → k ≠ sb ∧ k ≠ db ∧ k ≠ rb ∧ hv.ownBlock ≠ some k ∧ ev.ownBlock ≠ some k := by
    intro k hk
    rcases V with h | ⟨g, h1, h2⟩
    · have hk' := h ▸ hk
      exact ⟨(s.n1 k hk').1, (s.n1 k hk').2.1, (s.n1 k hk').2.2, fun h => (s.h1 k h).2.2.2.2 hk', fun h => (s.e1 k h).2.2.2 hk'⟩
    · rw [h1] at hk; cases hk
      refine ⟨by omega, by have := s.lt.2; omega, by have := s.lt.1; omega, fun h => ?_, fun h => ?_⟩
      · have := (s.h.lt k h).2; omega
      · have := (s.e.lt k h).2; omega
  have Q : But (fun k => k = sb) w' (w'.setCell ⟨sb, 12, none⟩ v') := (But.refl (fun k => k = sb) w').setCell (p := ⟨sb, 12, none⟩) (Or.inr rfl) v'
  refine ⟨v', w', hrun, S', ⟨S'.set 12 v', ?_, ?_, ?_, O'.but Q (fun ad e => (s.oa1 ad e).1), s.oc, s.d1, s.d2, fun k hk => ?_, fun k hk => ?_, fun k hk => ⟨(V' k hk).1, (V' k hk).2.1, (V' k hk).2.2.1⟩, fun ad e => ?_, ?_⟩, ?_, V⟩
  · exact owns_but (owns_but s.h P (fun k hk h => (s.h1 k hk).2.2.2.2 h)) Q (fun k hk => (s.h1 k hk).1)
  · exact owns_but (owns_but s.e P (fun k hk h => (s.e1 k hk).2.2.2 h)) Q (fun k hk => (s.e1 k hk).1)
  · have := owns_but ho' Q (fun k hk => (V' k hk).1)
    simpa using this
  · obtain ⟨a, b, c, d, f⟩ := s.h1 k hk
    exact ⟨a, b, c, d, fun h => (V' k h).2.2.2.1 hk⟩
  · obtain ⟨a, b, c, d⟩ := s.e1 k hk
    exact ⟨a, b, c, fun h => (V' k h).2.2.2.2 hk⟩
  · obtain ⟨a, b, c, d, f, g⟩ := s.oa1 ad e
    refine ⟨a, b, c, d, fun h => ?_, Nat.lt_of_lt_of_le g (Nat.le_trans P.size Q.size)⟩
    rcases V with h1 | ⟨g', h1, h2⟩
    · exact f (h1 ▸ h)
    · rw [h1] at h; cases h; omega
  · exact ⟨Nat.lt_of_lt_of_le s.lt.1 (Nat.le_trans P.size Q.size), Nat.lt_of_lt_of_le s.lt.2 (Nat.le_trans P.size Q.size)⟩
  · exact (P.mono (fun k _ h => Or.inr h)).trans2 Q (fun k _ h => Or.inl h)

/-- one number more in ends -/
theorem Sr.pushE {w : World} {sb db rb : Nat} {R : Int} {ord : List Nat} {oa : Option Addr} {oc : Nat} {held : List Nat} {ends nth : List Int} {hv ev nv : Value} (s : Sr w sb db rb R ord oa oc held ends nth hv ev nv) (x : Int) (hl : ends.length ≤ 3000000) :
    ∃ v' w', (Builtin.append_ #[36, 36] 36 #[ev, .slice (some ⟨w.heap.size, 0, none⟩) 1 1]).run Ybaf.prog (w.alloc (.cells #[.int .i64 x] 3)).drew = .ok v' w' ∧
      Hid (Blk w' sb (srC db R (.slice oa ord.length oc) hv ev nv) 51 ∧
        Sr (w'.setCell ⟨sb, 11, none⟩ v') sb db rb R ord oa oc held (ends ++ [x]) nth hv v' nv ∧ But (fun k => k = sb ∨ ev.ownBlock = some k) w (w'.setCell ⟨sb, 11, none⟩ v') ∧ Fresh w ev v') := by
  obtain ⟨ti, hi, hz0, hz1, hz2⟩ := info_parts info3
  have ho : w.ownsRow 0 3 1 ev (i64s ends).length (i64s ends) := by simpa using s.e
  obtain ⟨v', w', hrun, ho', P, V⟩ := push_run (x := .int .i64 x) Ybaf.underlying36 hi hz0 hz1 hz2 rfl (by decide) ho rfl (by simpa using hl)
  have S' : Blk w' sb (srC db R (.slice oa ord.length oc) hv ev nv) 51 := s.S.but P (fun h => (s.e1 sb h).1 rfl)
  have O' : Rd w' oa (u16s ord) := s.o.but P (fun ad e h => (s.oa1 ad e).2.2.2.1 h)
  have hsb : sb < w.heap.size := s.S.lt
  have V' : ∀ k, v'.ownBlock = some k → k ≠ sb ∧ k ≠ db ∧ k ≠ rb ∧ hv.ownBlock ≠ some k ∧ nv.ownBlock ≠ some k := by
    intro k hk
    rcases V with h | ⟨g, h1, h2⟩
    · have hk' := h ▸ hk
      exact ⟨(s.e1 k hk').1, (s.e1 k hk').2.1, (s.e1 k hk').2.2.1, fun h => (s.h1 k h).2.2.2.1 hk', (s.e1 k hk').2.2.2⟩
    · rw [h1] at hk; cases hk
      refine ⟨by omega, by have := s.lt.2; omega, by have := s.lt.1; omega, fun h => ?_, fun h => ?_⟩
      · have := (s.h.lt k h).2; omega
      · have := (s.n.lt k h).2; omega
  have Q : But (fun k => k = sb) w' (w'.setCell ⟨sb, 11, none⟩ v') := (But.refl (fun k => k = sb) w').setCell (p := ⟨sb, 11, none⟩) (Or.inr rfl) v'
  refine ⟨v', w', hrun, S', ⟨S'.set 11 v', ?_, ?_, ?_, O'.but Q (fun ad e => (s.oa1 ad e).1), s.oc, s.d1, s.d2, fun k hk => ?_, fun k hk => ⟨(V' k hk).1, (V' k hk).2.1, (V' k hk).2.2.1, (V' k hk).2.2.2.2⟩, s.n1, fun ad e => ?_, ?_⟩, ?_, V⟩
  · exact owns_but (owns_but s.h P (fun k hk h => (s.h1 k hk).2.2.2.1 h)) Q (fun k hk => (s.h1 k hk).1)
  · have := owns_but ho' Q (fun k hk => (V' k hk).1)
    simpa using this
  · exact owns_but (owns_but s.n P (fun k hk h => (s.e1 k h).2.2.2 hk)) Q (fun k hk => (s.n1 k hk).1)
  · obtain ⟨a, b, c, d, f⟩ := s.h1 k hk
    exact ⟨a, b, c, fun h => (V' k h).2.2.2.1 hk, f⟩
  · obtain ⟨a, b, c, d, f, g⟩ := s.oa1 ad e
    refine ⟨a, b, c, fun h => ?_, f, Nat.lt_of_lt_of_le g (Nat.le_trans P.size Q.size)⟩
    rcases V with h1 | ⟨g', h1, h2⟩
    · exact d (h1 ▸ h)
    · rw [h1] at h; cases h; omega
  · exact ⟨Nat.lt_of_lt_of_le s.lt.1 (Nat.le_trans P.size Q.size), Nat.lt_of_lt_of_le s.lt.2 (Nat.le_trans P.size Q.size)⟩
  · exact (P.mono (fun k _ h => Or.inr h)).trans2 Q (fun k _ h => Or.inl h)

end Go.Proofs.YbulkeekoFmt
