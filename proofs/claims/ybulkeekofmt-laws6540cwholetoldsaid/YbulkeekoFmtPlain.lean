/-
  THE PLAIN LAWS: the stream of bits that a decoder still holds, and the number that its first bits make. No Go in sight.
-/
import Derived.Laws.BitsAllLaws
namespace Go.Proofs.YbulkeekoFmt
open Go

/-- bit i of the stream: first the low u bits of last, the highest first, then the bytes of rest -/
def sbit (last u : Nat) (rest : List Nat) (i : Nat) : Nat :=
  if i < u then last / 2 ^ (u - 1 - i) % 2 else rest.getD ((i - u) / 8) 0 / 2 ^ (7 - (i - u) % 8) % 2

/-- the number of w bits from bit c on -/
def snum (last u : Nat) (rest : List Nat) (c : Nat) : Nat → Nat
  | 0 => 0
  | t + 1 => 2 * snum last u rest c t + sbit last u rest (c + t)

/-- the bytes taken, laid behind x -/
def acc (x : Nat) (xs : List Nat) : Nat := xs.foldl (fun x b => x * 256 + b) x

theorem sbit_le (last u : Nat) (rest : List Nat) (i : Nat) : sbit last u rest i ≤ 1 := by
  unfold sbit; split <;> omega

theorem snum_lt (last u : Nat) (rest : List Nat) (c t : Nat) : snum last u rest c t < 2 ^ t := by
  induction t with
  | zero => simp [snum]
  | succ t ih =>
    have := sbit_le last u rest (c + t)
    simp only [snum, Nat.pow_succ]; omega

theorem acc_snoc (x : Nat) (xs : List Nat) (b : Nat) : acc x (xs ++ [b]) = acc x xs * 256 + b := by simp [acc]

theorem acc_take (x : Nat) (xs : List Nat) (k : Nat) (h : k < xs.length) : acc x (xs.take (k + 1)) = acc x (xs.take k) * 256 + xs.getD k 0 := by
  rw [List.take_add_one, List.getElem?_eq_getElem h]
  simp only [Option.toList_some, acc_snoc, List.getD_eq_getElem?_getD, List.getElem?_eq_getElem h, Option.getD_some]

theorem acc_lt (xs : List Nat) : ∀ (x u : Nat), x < 2 ^ u → (∀ b ∈ xs, b < 256) → acc x xs < 2 ^ (u + 8 * xs.length) := by
  induction xs with
  | nil => intro x u hx _; simpa [acc] using hx
  | cons b xs ih =>
    intro x u hx hb
    have h2 := hb b (by simp)
    have h1 := ih (x * 256 + b) (u + 8) (by
      rw [Nat.pow_add]
      simp only [show 2 ^ 8 = 256 from rfl]
      generalize 2 ^ u = p at *
      omega) (fun c hc => hb c (by simp [hc]))
    rw [show u + 8 * (b :: xs).length = u + 8 + 8 * xs.length by simp; omega]
    exact h1

/-- what the bytes j, j+1, .. leave above them -/
theorem acc_div (x : Nat) (xs : List Nat) (hb : ∀ b ∈ xs, b < 256) (k m : Nat) (h : k + m = xs.length) : acc x xs / 2 ^ (8 * m) = acc x (xs.take k) := by
  induction m generalizing k with
  | zero => simp; rw [List.take_of_length_le (by omega)]
  | succ m ih =>
    have h1 := ih (k + 1) (by omega)
    have hk : k < xs.length := by omega
    rw [acc_take x xs k hk] at h1
    have hg : xs.getD k 0 < 256 := by
      rw [List.getD_eq_getElem?_getD, List.getElem?_eq_getElem hk]
      exact hb _ (List.getElem_mem hk)
    rw [Nat.mul_add, Nat.pow_add, ← Nat.div_div_eq_div_mul, h1]
    simp only [show 2 ^ (8 * 1) = 256 from rfl]
    omega

theorem mod_div_mod (a u i : Nat) (h : i < u) : a % 2 ^ u / 2 ^ i % 2 = a / 2 ^ i % 2 := by
  have h1 := Nat.testBit_mod_two_pow a u i
  rw [Nat.testBit_eq_decide_div_mod_eq, Nat.testBit_eq_decide_div_mod_eq] at h1
  simp only [h, decide_true, Bool.true_and, decide_eq_decide] at h1
  omega

theorem byte_bit (A b s : Nat) (hs : s ≤ 7) : (A * 256 + b) / 2 ^ s % 2 = b / 2 ^ s % 2 := by
  obtain rfl | rfl | rfl | rfl | rfl | rfl | rfl | rfl : s = 0 ∨ s = 1 ∨ s = 2 ∨ s = 3 ∨ s = 4 ∨ s = 5 ∨ s = 6 ∨ s = 7 := by omega
  all_goals simp only [Nat.reducePow]
  all_goals omega

theorem acc_bit (last u : Nat) (rest : List Nat) (need : Nat) (hn : need ≤ rest.length) (hb : ∀ b ∈ rest, b < 256) (t : Nat) (ht : t < u + 8 * need) :
    acc (last % 2 ^ u) (rest.take need) / 2 ^ (u + 8 * need - 1 - t) % 2 = sbit last u rest t := by
  have hb' : ∀ b ∈ rest.take need, b < 256 := fun b h => hb b (List.mem_of_mem_take h)
  have hl : (rest.take need).length = need := by simp; omega
  unfold sbit
  split
  · rename_i h
    rw [show u + 8 * need - 1 - t = 8 * need + (u - 1 - t) by omega, Nat.pow_add, ← Nat.div_div_eq_div_mul, acc_div _ _ hb' 0 need (by omega)]
    exact mod_div_mod last u (u - 1 - t) (by omega)
  · rename_i h
    have hq : (t - u) / 8 < need := by omega
    have h1 := acc_div (last % 2 ^ u) _ hb' ((t - u) / 8 + 1) (need - 1 - (t - u) / 8) (by omega)
    rw [show u + 8 * need - 1 - t = 8 * (need - 1 - (t - u) / 8) + (7 - (t - u) % 8) by omega, Nat.pow_add, ← Nat.div_div_eq_div_mul, h1, acc_take _ _ _ (by omega), byte_bit _ _ _ (by omega)]
    simp [List.getD_eq_getElem?_getD, List.getElem?_take_of_lt hq]

theorem snum_acc (last u : Nat) (rest : List Nat) (need : Nat) (hn : need ≤ rest.length) (hb : ∀ b ∈ rest, b < 256) (t : Nat) (ht : t ≤ u + 8 * need) :
    snum last u rest 0 t = acc (last % 2 ^ u) (rest.take need) / 2 ^ (u + 8 * need - t) := by
  induction t with
  | zero =>
    have hl : (rest.take need).length = need := by simp; omega
    have := acc_lt (rest.take need) (last % 2 ^ u) u (Nat.mod_lt _ (Nat.two_pow_pos u)) (fun b h => hb b (List.mem_of_mem_take h))
    rw [hl] at this
    simp only [snum, Nat.sub_zero]
    exact (Nat.div_eq_of_lt this).symm
  | succ t ih =>
    have h1 := acc_bit last u rest need hn hb t (by omega)
    rw [snum, ih (by omega), Nat.zero_add, ← h1, show u + 8 * need - t = (u + 8 * need - 1 - t) + 1 by omega, show u + 8 * need - (t + 1) = u + 8 * need - 1 - t by omega, Nat.pow_succ, ← Nat.div_div_eq_div_mul]
    omega

/-- how many bytes bits(width) takes -/
def needB (u width : Nat) : Nat := (width - u + 7) / 8

theorem needB_ge (u width : Nat) : width ≤ u + 8 * needB u width := by unfold needB; omega
theorem needB_lt (u width k : Nat) (h : k < needB u width) : u + 8 * k < width := by unfold needB at h; omega

/-- the byte read last, behind k bytes -/
def lastAt (last : Nat) (rest : List Nat) (k : Nat) : Nat := if k = 0 then last else rest.getD (k - 1) 0

theorem lastAt_succ (last : Nat) (rest : List Nat) (k : Nat) : lastAt last rest (k + 1) = rest.getD k 0 := by simp [lastAt]

end Go.Proofs.YbulkeekoFmt
