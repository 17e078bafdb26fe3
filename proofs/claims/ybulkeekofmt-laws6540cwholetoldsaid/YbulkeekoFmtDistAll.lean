/-
  WHAT distinctRow COMPUTES, whatever the stream.
-/
import Derived.Test.YbulkeekoFmtDist2
namespace Go.Proofs.YbulkeekoFmt
open Go.RowKit Go.Extern.Stop Go.Stop Go.Extern
set_option linter.unusedSimpArgs false
set_option linter.unusedVariables false

/-- what is held, whether it is refused, whether the stream ended, and the place in it -/
def mdl (ord rest : List Nat) (last u : Nat) (R : Int) (held : List Nat) (L head : Nat) : List Nat × Bool × Bool × Nat :=
  if u + 8 * rest.length < L then (held, true, true, 0)
  else if h : head < ord.length then chunks (sbit last u rest) R (u + 8 * rest.length) (ord.drop (head + 1)).length (ord.drop (head + 1)) L 1 (held ++ [ord[head]])
  else (held, true, false, L)

set_option maxRecDepth 100000 in
theorem dist_any (F : Interp) (sb db rb : Nat) (R : Int) (ord : List Nat) (oa : Option Addr) (oc : Nat) (held : List Nat) (ends nth : List Int) (hv ev nv : Value) (rest : List Nat) (rd : Int) (last u : Nat) (so : Option Addr) (cc : Nat) (w : World) (hF : F.answers w.tape)
    (s : Sr w sb db rb R ord oa oc held ends nth hv ev nv) (d : DecAt w db rb rest rd last u 0 so cc) (hrb : rb ≠ db) (hl : last < 256) (hu : u ≤ 7) (hb : ∀ b ∈ rest, b < 256) (hr : rest.length ≤ 1048576) (hm0 : 1 ≤ ord.length) (hm : ord.length ≤ 1048576) (hheld : held.length ≤ 1048576) (hends : ends.length ≤ 1048576) (hnth : nth.length ≤ 1048576) :
    Calls Ybaf.prog 11 #[.pointer (some ⟨sb, 0, none⟩)] w fun e w' => Post w w' sb db rb R ord oa oc ends nth hv ev nv rest rd last u (mdl ord rest last u R held (Lib.bitLen (ord.length - 1)) (snum last u rest 0 (Lib.bitLen (ord.length - 1)))) e := by
  have hI := index_any F db rb rest rd last u ord.length so cc whatS w.drew hF hrb d.dN hl hu hm0 hm hb hr
  generalize Lib.bitLen (ord.length - 1) = L at *
  unfold mdl
  have hsm : ∀ w', But (fun g => g = db) w w' → But (Own3 sb db hv ev nv) w w' := fun w' P => P.mono (fun i _ h => Or.inr (Or.inl h))
  by_cases h1 : u + 8 * rest.length < L
  · rw [if_pos h1]
    refine (dist_refused sb db rb R ord oa oc held ends nth hv ev nv rest rd last u so cc w s d (fun w' => Drained w' db rest rd last u 0) (hI.mono ?_)).mono ?_
    · rintro e w' ⟨P, ⟨h, _⟩ | ⟨_, ha, D⟩⟩
      · omega
      · exact ⟨ha, P, D⟩
    · rintro e w' ⟨ha, P, D⟩
      exact ⟨hsm w' P, ⟨_, _, _, s.dec P⟩, fun _ => D, (fun h => by cases h), fun _ => ha, (fun h => by cases h)⟩
  · rw [if_neg h1]
    by_cases h2 : snum last u rest 0 L < ord.length
    · rw [dif_pos h2]
      refine dist_ok F sb db rb R ord oa oc held ends nth hv ev nv rest rd last u so cc w hF s d hrb hl hu hb hr hm L _ h2 hheld hends hnth (hI.mono ?_)
      rintro e w' ⟨P, ⟨h, D, ⟨_, he⟩ | ⟨h3, _⟩⟩ | ⟨h, _⟩⟩
      · exact ⟨he, P, D⟩
      · omega
      · omega
    · rw [dif_neg h2]
      refine (dist_refused sb db rb R ord oa oc held ends nth hv ev nv rest rd last u so cc w s d (fun w' => ∃ so cc, DecAt w' db rb rest rd last u L so cc) (hI.mono ?_)).mono ?_
      · rintro e w' ⟨P, ⟨h, D, ⟨h3, _⟩ | ⟨_, ha⟩⟩ | ⟨h, _⟩⟩
        · omega
        · exact ⟨ha, P, D⟩
        · omega
      · rintro e w' ⟨ha, P, D⟩
        exact ⟨hsm w' P, ⟨_, _, _, s.dec P⟩, (fun h => by cases h), fun _ => D, fun _ => ha, (fun h => by cases h)⟩

end Go.Proofs.YbulkeekoFmt
