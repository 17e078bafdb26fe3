/-
  THE PLAIN FUNCTIONS of seat b6539aF: what 'use' does to the list of used pages: no Go in sight.
-/
import Derived.WalkKit
namespace Go.Proofs.YbulkeekaFmt

def inR (a b j : Nat) : Bool := decide (a ≤ j) && decide (j ≤ b)
def cntN (U : List Bool) (a b : Nat) : Nat → Nat
  | 0 => 0
  | k + 1 => cntN U a b k + (if inR a b k && !(U.getD k false) then 1 else 0)
def hitN (U : List Bool) (a b : Nat) : Nat → Bool
  | 0 => false
  | k + 1 => hitN U a b k || (inR a b k && U.getD k false)
def markN (U : List Bool) (a b k : Nat) : List Bool := U.mapIdx fun j x => x || (inR a b j && decide (j < k))
def reach (R : Int) (c : Nat) : Int := (R + c) % 18446744073709551616

theorem reach_zero (R : Int) (h0 : 0 ≤ R) (h1 : R < 18446744073709551616) : reach R 0 = R := by unfold reach; omega
theorem reach_succ (R : Int) (c : Nat) : IntKind.u64.wrap (reach R c + 1) = reach R (c + 1) := by
  simp only [reach, IntKind.wrap, IntKind.signed, IntKind.bits]; simp; omega
theorem reach_bd (R : Int) (c : Nat) : 0 ≤ reach R c ∧ reach R c < 18446744073709551616 := by unfold reach; omega

theorem cntN_start (U : List Bool) (a b : Nat) : ∀ k, k ≤ a → cntN U a b k = 0
  | 0, _ => rfl
  | k + 1, h => by simp [cntN, cntN_start U a b k (by omega), inR, show ¬ a ≤ k by omega]
theorem hitN_start (U : List Bool) (a b : Nat) : ∀ k, k ≤ a → hitN U a b k = false
  | 0, _ => rfl
  | k + 1, h => by simp [hitN, hitN_start U a b k (by omega), inR, show ¬ a ≤ k by omega]
theorem cntN_end (U : List Bool) (a b : Nat) : ∀ d, cntN U a b (b + 1 + d) = cntN U a b (b + 1)
  | 0 => rfl
  | d + 1 => by
    rw [show b + 1 + (d + 1) = (b + 1 + d) + 1 by omega, cntN, cntN_end U a b d]
    simp [inR, show ¬ b + 1 + d ≤ b by omega]
theorem hitN_end (U : List Bool) (a b : Nat) : ∀ d, hitN U a b (b + 1 + d) = hitN U a b (b + 1)
  | 0 => rfl
  | d + 1 => by
    rw [show b + 1 + (d + 1) = (b + 1 + d) + 1 by omega, hitN, hitN_end U a b d]
    simp [inR, show ¬ b + 1 + d ≤ b by omega]

theorem markN_length (U : List Bool) (a b k : Nat) : (markN U a b k).length = U.length := by simp [markN]
theorem markN_at (U : List Bool) (a b k j : Nat) : (markN U a b k)[j]? = (U[j]?).map fun x => x || (inR a b j && decide (j < k)) := by simp [markN]
theorem markN_start (U : List Bool) (a b : Nat) : markN U a b a = U := by
  apply List.ext_getElem?
  intro j
  rw [markN_at]
  by_cases h : a ≤ j
  · simp [show ¬ j < a by omega]
  · simp [inR, h]
theorem markN_hit (U : List Bool) (a b k : Nat) (h : U[k]? = some true) : markN U a b (k + 1) = markN U a b k := by
  apply List.ext_getElem?
  intro j
  rw [markN_at, markN_at]
  by_cases e : j = k
  · subst e; simp [h]
  · have : (decide (j < k + 1)) = decide (j < k) := by by_cases g : j < k <;> simp [g] <;> omega
    rw [this]
theorem markN_miss (U : List Bool) (a b k : Nat) (h : k < U.length) (hr : a ≤ k ∧ k ≤ b) : markN U a b (k + 1) = (markN U a b k).set k true := by
  apply List.ext_getElem?
  intro j
  rw [List.getElem?_set, markN_at, markN_at, markN_length]
  by_cases e : k = j
  · subst e; simp [h, inR, hr.1, hr.2]
  · have : (decide (j < k + 1)) = decide (j < k) := by by_cases g : j < k <;> simp [g] <;> omega
    rw [this]; simp [e]
theorem cntN_hit (U : List Bool) (a b k : Nat) (h : U[k]? = some true) : cntN U a b (k + 1) = cntN U a b k := by
  simp [cntN, h]
theorem hitN_hit (U : List Bool) (a b k : Nat) (h : U[k]? = some true) (hr : a ≤ k ∧ k ≤ b) : hitN U a b (k + 1) = true := by
  simp [hitN, h, inR, hr.1, hr.2]
theorem cntN_miss (U : List Bool) (a b k : Nat) (h : U[k]? = some false) (hr : a ≤ k ∧ k ≤ b) : cntN U a b (k + 1) = cntN U a b k + 1 := by
  simp [cntN, h, inR, hr.1, hr.2]
theorem hitN_miss (U : List Bool) (a b k : Nat) (h : U[k]? = some false) : hitN U a b (k + 1) = hitN U a b k := by
  simp [hitN, h]
theorem markN_here (U : List Bool) (a b k : Nat) : (markN U a b k)[k]? = U[k]? := by
  rw [markN_at]; simp

end Go.Proofs.YbulkeekaFmt
