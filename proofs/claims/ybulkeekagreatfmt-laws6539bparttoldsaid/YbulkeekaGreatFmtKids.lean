/-
  THE MAP OF NESTED BUCKETS: what a lookup gives; one bucket more.
-/
import Derived.Test.YbulkeekaGreatFmtSpill2
namespace Go.Proofs.YbulkeekaGreatFmt
open Go.RowKit Go.Maps Go.Sort
set_option linter.unusedSimpArgs false
set_option linter.unusedVariables false

/-- a pointer read as its block's number -/
def ptrR : Value → Option (DataW Unit × List MemPlace)
  | .pointer none => some (.nil, [])
  | .pointer (some ⟨b, 0, none⟩) => some (.lit (.int .u64 b), [])
  | _ => none

theorem ptrR_inv {v : Value} {b : Int} {ps : List MemPlace} (h : ptrR v = some (.lit (.int .u64 b), ps)) : ∃ n : Nat, v = .pointer (some ⟨n, 0, none⟩) ∧ b = n := by
  unfold ptrR at h
  split at h
  · simp at h
  · rename_i n
    simp at h
    exact ⟨n, rfl, h.1.symm⟩
  · cases h

/-- the map's pointers are the good blocks' -/
structure KMap (w : World) (mb nn : Nat) (D : DataW Unit) (good : Nat → Prop) : Prop where
  o : w.ownsMap Ybaz.prog 9 ptrR mb nn D
  m : IsMap D
  g : ∀ kl, has D kl = true → ∃ b : Nat, good b ∧ ∀ z, D.atKey kl z = .lit (.int .u64 b)

theorem K9 : Keyed Ybaz.prog 9 := string_keyed Ybaz.underlying9

theorem KMap.has_of {w : World} {mb nn : Nat} {D : DataW Unit} {good : Nat → Prop} (h : KMap w mb nn D good) {s : List UInt8} (hs : s ∈ strKeys D) : has D (.string s) = true ∧ s.length ≤ maxLen := by
  obtain ⟨es, rfl, hko⟩ := h.o.keysOf
  refine ⟨?_, strKeys_le h.o Ybaz.underlying9 s hs⟩
  obtain ⟨p, hp, rfl⟩ := List.mem_map.1 hs
  obtain ⟨v, hv⟩ := hko p hp
  obtain ⟨y, _, hy, hl⟩ := Maps.keyOf_str Ybaz.underlying9 hv
  rw [has_eq, List.any_eq_true]
  refine ⟨p, hp, ?_⟩
  rw [hy]
  simp [strOf, Lit.sameKey]

theorem key_str (s : List UInt8) (hs : s.length ≤ maxLen) : keyOf Ybaz.prog 9 (encStr s) = some (.string s) := by
  simp [encStr, keyOf, Ybaz.underlying9, mapKey]
  exact hs

theorem KMap.lookup {w : World} {mb nn : Nat} {D : DataW Unit} {good : Nat → Prop} (h : KMap w mb nn D good) {s : List UInt8} (hs : s ∈ strKeys D) :
    ∃ b : Nat, good b ∧ (Instr.lookup 52 (.map (some mb)) (encStr s) false).run Ybaz.prog w = .ok (.pointer (some ⟨b, 0, none⟩)) w := by
  obtain ⟨h1, h2⟩ := h.has_of hs
  obtain ⟨b, hb, hat⟩ := h.g _ h1
  obtain ⟨v, ps, hrun, hv⟩ := h.o.lookup K9 Ybaz.underlying52 (z := .pointer none) (Ybaz.zeroValue40 w) (zd := .nil) (zp := []) rfl (key_str s h2)
  rw [hat] at hv
  obtain ⟨n, rfl, hn⟩ := ptrR_inv hv
  obtain rfl : b = n := by omega
  exact ⟨b, hb, hrun⟩

theorem KMap.mono {w : World} {mb nn : Nat} {D : DataW Unit} {good good' : Nat → Prop} (h : KMap w mb nn D good) (hg : ∀ b, good b → good' b) : KMap w mb nn D good' :=
  ⟨h.o, h.m, fun kl hk => by obtain ⟨b, h1, h2⟩ := h.g kl hk; exact ⟨b, hg b h1, h2⟩⟩

theorem KMap.but {S : Nat → Prop} {w w' : World} {mb nn : Nat} {D : DataW Unit} {good : Nat → Prop} (h : KMap w mb nn D good) (P : But S w w') (hs : ¬ S mb) : KMap w' mb nn D good := by
  refine ⟨?_, h.m, h.g⟩
  obtain ⟨es, clock, hb, r⟩ := h.o
  exact ⟨es, clock, (P.block mb (Array.getElem?_eq_some_iff.1 hb).1 hs).trans hb, r⟩

theorem KMap.put {w : World} {mb nn : Nat} {D : DataW Unit} {good : Nat → Prop} (h : KMap w mb nn D good) (hn : nn < 100000) (s : List UInt8) (hs : s.length ≤ maxLen) (b : Nat) (hb : good b) :
    ∃ w' D', (Instr.mapUpdate 52 (.map (some mb)) (encStr s) (.pointer (some ⟨b, 0, none⟩))).run Ybaz.prog w = .ok () w' ∧ KMap w' mb (nn + 1) D' good ∧ But (fun k => k = mb) w w' := by
  obtain ⟨w', hrun, ho, hg⟩ := h.o.update K9 Ybaz.underlying52 (by unfold maxLen; omega) (key_str s hs) (val := .pointer (some ⟨b, 0, none⟩)) (d := .lit (.int .u64 b)) (ps := []) rfl
  refine ⟨w', _, hrun, ⟨ho, h.m.put _ _, fun kl hk => ?_⟩, But.of_grown hg (fun k hk => by cases hk; rfl)⟩
  have hkl : WideAt.IsKeyLit (.string s) := K9.key (key_str s hs)
  by_cases he : kl = .string s
  · subst he
    exact ⟨b, hb, fun z => atKey_put_same h.m hkl _ z⟩
  · rw [has_put_other he] at hk
    obtain ⟨b', h1, h2⟩ := h.g kl hk
    exact ⟨b', h1, fun z => by rw [atKey_put_other he]; exact h2 z⟩

theorem kmap_new {w : World} {mb : Nat} (h : w.heap[mb]? = some (.map #[] 0)) (good : Nat → Prop) : KMap w mb 0 (.map []) good :=
  ⟨Joins.ownsMap_empty h, isMap_empty, fun kl hk => by simp [has_eq] at hk⟩

theorem KMap.size {w : World} {mb nn : Nat} {D : DataW Unit} {good : Nat → Prop} (h : KMap w mb nn D good) : Maps.size D ≤ nn ∧ (strKeys D).length ≤ nn := by
  have h1 := h.o.size_le
  obtain ⟨es, rfl⟩ := h.m
  exact ⟨h1, by simpa [strKeys, size_eq] using h1⟩

end Go.Proofs.YbulkeekaGreatFmt
