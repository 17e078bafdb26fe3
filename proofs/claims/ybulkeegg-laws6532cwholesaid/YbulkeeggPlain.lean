/-
  THE PLAIN LAWS of seat b6532a: no Go function in sight. Rounding half up twice over, and the quotient n / 10000 in float64 for n from 0 to 10000.
-/
import Derived.WalkLawsBesides
namespace Go.Proofs.Ybulkeegg

/-- the bits of float64(n) / 10000 -/
def tenk (n : Int) : Nat := (FloatKind.f64.format.div (FloatKind.f64.nearest n) 4666723172467343360).getD 0

def tenkOk (k : Nat) : Bool :=
  match FloatKind.f64.format.div (FloatKind.f64.nearest (k : Int)) 4666723172467343360 with
  | some r => FloatKind.f64.format.order r r == some .eq
  | .none => false

def allTo (p : Nat → Bool) : Nat → Bool
  | 0 => true
  | n + 1 => p n && allTo p n

theorem allTo_of {p : Nat → Bool} {n : Nat} (h : allTo p n = true) : ∀ k, k < n → p k = true := by
  induction n with
  | zero => intro k hk; omega
  | succ n ih =>
    intro k hk
    simp only [allTo, Bool.and_eq_true] at h
    by_cases e : k = n
    · rw [e]; exact h.1
    · exact ih h.2 k (by omega)

theorem tenk_all : allTo tenkOk 10001 = true := by decide +kernel

theorem tenk_quo (n : Int) (h0 : 0 ≤ n) (h1 : n ≤ 10000) :
    floatBits .quo .f64 (floatOfInt .f64 n) 4666723172467343360 = some (tenk n) ∧ (FloatKind.f64.format.order (tenk n) (tenk n) == some .eq) = true := by
  obtain ⟨k, rfl⟩ := Int.eq_ofNat_of_zero_le h0
  have h := allTo_of tenk_all k (by omega)
  unfold tenkOk at h
  unfold floatBits floatOfInt tenk
  simp only
  split at h
  · rename_i r hr
    simp only [hr, Option.getD_some]
    exact ⟨trivial, h⟩
  · cases h

theorem div_unique (a d q : Int) (hd : 0 < d) (h1 : q * d ≤ a) (h2 : a < (q + 1) * d) : a / d = q := by
  have h3 : q ≤ a / d := (Int.le_ediv_iff_mul_le hd).2 h1
  have h4 : a / d < q + 1 := (Int.ediv_lt_iff_lt_mul hd).2 h2
  omega

/-- rounding half up by the remainder is rounding by adding a half -/
theorem round_up (n d : Int) (hd : 0 < d) (h : d ≤ 2 * (n % d)) : (2 * n + d) / (2 * d) = n / d + 1 := by
  have e := Int.mul_ediv_add_emod n d
  have r1 := Int.emod_lt_of_pos n hd
  apply div_unique _ _ _ (by omega)
  · have : (n / d + 1) * (2 * d) = 2 * (d * (n / d)) + 2 * d := by rw [Int.add_mul, Int.mul_comm (n / d), Int.one_mul, Int.mul_assoc]
    omega
  · have : (n / d + 1 + 1) * (2 * d) = 2 * (d * (n / d)) + 4 * d := by rw [Int.add_mul, Int.add_mul, Int.mul_comm (n / d), Int.one_mul, Int.mul_assoc]; omega
    omega

theorem round_down (n d : Int) (hd : 0 < d) (h : 2 * (n % d) < d) : (2 * n + d) / (2 * d) = n / d := by
  have e := Int.mul_ediv_add_emod n d
  have r1 := Int.emod_nonneg n (by omega : d ≠ 0)
  apply div_unique _ _ _ (by omega)
  · have : (n / d) * (2 * d) = 2 * (d * (n / d)) := by rw [Int.mul_comm (n / d), Int.mul_assoc]
    omega
  · have : (n / d + 1) * (2 * d) = 2 * (d * (n / d)) + 2 * d := by rw [Int.add_mul, Int.mul_comm (n / d), Int.one_mul, Int.mul_assoc]
    omega

theorem round_le (n d : Int) (hd : 0 < d) (h0 : 0 ≤ n) (h : n ≤ 10000 * d) : 0 ≤ (2 * n + d) / (2 * d) ∧ (2 * n + d) / (2 * d) ≤ 10000 := by
  refine ⟨Int.ediv_nonneg (by omega) (by omega), ?_⟩
  have : (2 * n + d) / (2 * d) < 10001 := (Int.ediv_lt_iff_lt_mul (by omega)).2 (by omega)
  omega

end Go.Proofs.Ybulkeegg
