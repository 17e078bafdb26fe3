/-
  THE WALKS of seat b6532a: similarity, jaccard.
-/
import Derived.Test.YbulkeeggRows
import Derived.Test.YbulkeeggPlain
import Derived.WalkKit
import Derived.WalkSpells
import Derived.WalkLawsBesides
namespace Go.Proofs.Ybulkeegg
open Go.RowKit

/-- what 'similarity' scales to: rounded half up -/
def scaled (n d : Int) : Int := (2 * n * 10000 + d) / (2 * d)

theorem scaled_eq (n d : Int) : scaled n d = (2 * (n * 10000) + d) / (2 * d) := by
  unfold scaled; rw [Int.mul_assoc]

theorem scaled_bd (n d : Int) (h0 : 0 ≤ n) (h1 : n ≤ d) (h2 : 1 ≤ d) : 0 ≤ scaled n d ∧ scaled n d ≤ 10000 := by
  rw [scaled_eq]; exact round_le (n * 10000) d (by omega) (by omega) (by omega)

set_option maxHeartbeats 400000 in
theorem similarity_any (n d : Int) (w : World) (h0 : 0 ≤ n) (h1 : n ≤ d) (h2 : 1 ≤ d) (h3 : d ≤ 10000000000000) :
    Calls Yba.prog 5 #[.int .i64 n, .int .i64 d] w fun e w' => e = .returned (.float .f64 (tenk (scaled n d))) ∧ w' = w := by
  have hb := scaled_bd n d h0 h1 h2
  have hq := fun w => run_float_arith (P := Yba.prog) w .quo 23 .f64 _ _ _ (tenk_quo _ hb.1 hb.2).1
  unfold scaled at hq ⊢
  clear hb
  go_enter Yba.func5, Yba.ntmps5
  go_wp2
  go_ret
  exact ⟨rfl, rfl⟩

set_option maxHeartbeats 400000 in
theorem jaccard_zero (n : Int) (w : World) :
    Calls Yba.prog 4 #[.int .i64 n, .int .i64 0, .int .i64 0] w fun e w' => e = .returned (.float .f64 4607182418800017408) ∧ w' = w := by
  go_enter Yba.func4, Yba.ntmps4
  go_wp2
  go_ret
  exact ⟨rfl, rfl⟩

set_option maxHeartbeats 400000 in
theorem jaccard_any (n a b : Int) (w : World) (h0 : 0 ≤ n) (ha : n ≤ a) (hb : n ≤ b) (hab : 1 ≤ a + b) (ha2 : a ≤ 1099511627776) (hb2 : b ≤ 1099511627776) :
    Calls Yba.prog 4 #[.int .i64 n, .int .i64 a, .int .i64 b] w fun e w' => e = .returned (.float .f64 (tenk (scaled n (a + b - n)))) ∧ w' = w := by
  by_cases h : a = 0
  · subst h
    have hbz : (b == 0) = false := beq_eq_false_iff_ne.2 (by omega)
    go_enter Yba.func4, Yba.ntmps4
    go_wp2_with (go_at_call 5; refine (similarity_any _ _ _ (by omega) (by omega) (by omega) (by omega)).mono ?_; rintro e w' ⟨rfl, rfl⟩)
    go_ret
    exact ⟨by simp, rfl⟩
  · have haz : (a == 0) = false := beq_eq_false_iff_ne.2 (by omega)
    go_enter Yba.func4, Yba.ntmps4
    go_wp2_with (go_at_call 5; refine (similarity_any _ _ _ (by omega) (by omega) (by omega) (by omega)).mono ?_; rintro e w' ⟨rfl, rfl⟩)
    go_ret
    exact ⟨by simp, rfl⟩

theorem jaccard_left (b : Int) (w : World) (h1 : 1 ≤ b) (h2 : b ≤ 1099511627776) :
    Calls Yba.prog 4 #[.int .i64 0, .int .i64 0, .int .i64 b] w fun e w' => e = .returned (.float .f64 (tenk 0)) ∧ w' = w := by
  have h : scaled 0 (0 + b - 0) = 0 := by
    rw [scaled_eq]
    exact div_unique _ _ _ (by omega) (by omega) (by omega)
  have c := jaccard_any 0 0 b w (by omega) (by omega) (by omega) (by omega) (by omega) (by omega)
  rw [h] at c
  exact c

end Go.Proofs.Ybulkeegg
