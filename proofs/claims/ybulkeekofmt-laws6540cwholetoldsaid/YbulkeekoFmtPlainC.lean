/-
  THE PLAIN LAWS of LawS6540CWhole: the stream from a later place on; what a distinct row holds. No Go in sight.
-/
import Derived.Test.YbulkeekoFmtPlain
namespace Go.Proofs.YbulkeekoFmt
open Go

/-- the stream from bit c on is the stream of what is left -/
theorem sbit_from (last u : Nat) (rest : List Nat) (c i : Nat) (hu : u ≤ 7) :
    sbit (lastAt last rest (needB u c)) (u + 8 * needB u c - c) (rest.drop (needB u c)) i = sbit last u rest (c + i) := by
  have hge := needB_ge u c
  have h7 : u + 8 * needB u c - c ≤ 7 := by unfold needB; omega
  by_cases h0 : needB u c = 0
  · have hcu : c ≤ u := by unfold needB at h0; omega
    rw [h0]
    simp only [sbit, lastAt, if_true, Nat.mul_zero, Nat.add_zero, List.drop_zero]
    by_cases h : i < u - c
    · rw [if_pos h, if_pos (by omega), show u - c - 1 - i = u - 1 - (c + i) by omega]
    · rw [if_neg h, if_neg (by omega), show i - (u - c) = c + i - u by omega]
  · unfold sbit
    by_cases h : i < u + 8 * needB u c - c
    · rw [if_pos h, if_neg (by unfold needB at *; omega), show (c + i - u) / 8 = needB u c - 1 by omega, show 7 - (c + i - u) % 8 = u + 8 * needB u c - c - 1 - i by omega]
      simp only [lastAt, if_neg h0]
    · rw [if_neg h, if_neg (by omega), show (c + i - u) / 8 = needB u c + (i - (u + 8 * needB u c - c)) / 8 by omega, show (c + i - u) % 8 = (i - (u + 8 * needB u c - c)) % 8 by omega]
      simp only [List.getD_eq_getElem?_getD, List.getElem?_drop]

theorem snum_from (last u : Nat) (rest : List Nat) (c t : Nat) (hu : u ≤ 7) :
    snum (lastAt last rest (needB u c)) (u + 8 * needB u c - c) (rest.drop (needB u c)) 0 t = snum last u rest c t := by
  induction t with
  | zero => rfl
  | succ t ih => rw [snum, snum, ih, Nat.zero_add, sbit_from _ _ _ _ _ hu]

theorem needB_add (u c k : Nat) (hu : u ≤ 7) : needB u (c + k) = needB u c + needB (u + 8 * needB u c - c) k := by unfold needB; omega
theorem left_add (u c k : Nat) (hu : u ≤ 7) : u + 8 * needB u c - c + 8 * needB (u + 8 * needB u c - c) k - k = u + 8 * needB u (c + k) - (c + k) := by
  have := needB_add u c k hu
  have := needB_ge u c
  omega
theorem left_le (u c : Nat) (hu : u ≤ 7) : u + 8 * needB u c - c ≤ 7 := by unfold needB; omega
theorem lastAt_add (last : Nat) (rest : List Nat) (a b : Nat) : lastAt (lastAt last rest a) (rest.drop a) b = lastAt last rest (a + b) := by
  unfold lastAt
  by_cases hb : b = 0
  · subst hb; simp
  · rw [if_neg hb, if_neg (by omega)]
    simp only [List.getD_eq_getElem?_getD, List.getElem?_drop]
    rw [show a + (b - 1) = a + b - 1 by omega]
theorem needB_total (u c len : Nat) : needB u c ≤ len ↔ c ≤ u + 8 * len := by unfold needB; omega

/-- the bits from c on, a's worth of them and then b's -/
theorem snum_split (last u : Nat) (rest : List Nat) (c a b : Nat) : snum last u rest c (a + b) = snum last u rest c a * 2 ^ b + snum last u rest (c + a) b := by
  induction b with
  | zero => simp [snum]
  | succ b ih =>
    rw [← Nat.add_assoc, snum, ih, snum, Nat.pow_succ, show c + a + b = c + (a + b) by omega, ← Nat.mul_assoc]
    generalize snum last u rest c a * 2 ^ b = z
    omega

/-- the first bit that is set among the w from c on lies at w - (its length) -/
theorem snum_first (last u : Nat) (rest : List Nat) (c w l : Nat) (h1 : 2 ^ l ≤ snum last u rest c w) (h2 : snum last u rest c w < 2 ^ (l + 1)) :
    ∃ p, p + l + 1 = w ∧ (∀ j, j < p → sbit last u rest (c + j) = 0) ∧ sbit last u rest (c + p) = 1 ∧ snum last u rest c w % 2 ^ l = snum last u rest (c + p + 1) l := by
  have hw : l < w := by
    have := snum_lt last u rest c w
    exact (Nat.pow_lt_pow_iff_right (by decide)).1 (Nat.lt_of_le_of_lt h1 this)
  obtain ⟨p, rfl⟩ : ∃ p, w = p + (1 + l) := ⟨w - l - 1, by omega⟩
  have e1 := snum_split last u rest c p (1 + l)
  have hl := snum_lt last u rest (c + p) (1 + l)
  rw [Nat.add_comm 1 l] at *
  have hz : snum last u rest c p = 0 := by
    by_cases h0 : snum last u rest c p = 0
    · exact h0
    · have : 2 ^ (l + 1) ≤ snum last u rest c p * 2 ^ (l + 1) := Nat.le_mul_of_pos_left _ (by omega)
      omega
  rw [hz, Nat.zero_mul, Nat.zero_add] at e1
  have e2 := snum_split last u rest (c + p) 1 l
  rw [Nat.add_comm 1 l] at e2
  have hl2 := snum_lt last u rest (c + p + 1) l
  have hb := sbit_le last u rest (c + p)
  have e3 : snum last u rest (c + p) 1 = sbit last u rest (c + p) := by simp [snum]
  rw [e3] at e2
  have hb1 : sbit last u rest (c + p) = 1 := by
    by_cases h0 : sbit last u rest (c + p) = 0
    · rw [h0, Nat.zero_mul, Nat.zero_add] at e2; omega
    · omega
  refine ⟨p, by omega, ?_, hb1, ?_⟩
  · intro j hj
    obtain ⟨d, rfl⟩ : ∃ d, p = j + (1 + d) := ⟨p - j - 1, by omega⟩
    have f1 := snum_split last u rest c j (1 + d)
    have f2 := snum_split last u rest (c + j) 1 d
    have f3 : snum last u rest (c + j) 1 = sbit last u rest (c + j) := by simp [snum]
    have hz' : snum last u rest (c + j) (1 + d) = 0 := by omega
    rw [f2, f3] at hz'
    have hp := Nat.two_pow_pos d
    have hm : sbit last u rest (c + j) * 2 ^ d = 0 := by omega
    rcases Nat.mul_eq_zero.1 hm with h | h
    · exact h
    · omega
  · rw [e1, e2, hb1, Nat.one_mul, Nat.add_mod_left, Nat.mod_eq_of_lt hl2]

theorem snum_zero (last u : Nat) (rest : List Nat) (c w : Nat) (h : snum last u rest c w = 0) : ∀ j, j < w → sbit last u rest (c + j) = 0 := by
  induction w with
  | zero => intro j hj; omega
  | succ w ih =>
    intro j hj
    rw [snum] at h
    by_cases hjw : j = w
    · subst hjw; omega
    · exact ih (by omega) j (by omega)

/-- one chunk's symbols, kept by their bits; 'true': more than the replicas -/
def scan (b : Nat → Nat) (R : Int) : List Nat → Nat → Nat → List Nat → List Nat × Nat × Bool
  | [], _, n, held => (held, n, false)
  | x :: xs, j, n, held => if b j = 1 then (if (n : Int) + 1 > R then (held, n + 1, true) else scan b R xs (j + 1) (n + 1) (held ++ [x])) else scan b R xs (j + 1) n held

theorem scan_skip (b : Nat → Nat) (R : Int) (n : Nat) (held : List Nat) : ∀ (p : Nat) (xs : List Nat) (j : Nat), p ≤ xs.length → (∀ i, i < p → b (j + i) = 0) → scan b R xs j n held = scan b R (xs.drop p) (j + p) n held
  | 0, xs, j, _, _ => by simp
  | p + 1, [], j, h, _ => by simp at h
  | p + 1, x :: xs, j, h, hz => by
    have h0 := hz 0 (by omega)
    rw [Nat.add_zero] at h0
    rw [scan, h0, if_neg (by decide), scan_skip b R n held p xs (j + 1) (by simpa using h) (fun i hi => by have := hz (i + 1) (by omega); rwa [show j + (i + 1) = j + 1 + i by omega] at this)]
    rw [List.drop_succ_cons, show j + 1 + p = j + (p + 1) by omega]

theorem scan_none (b : Nat → Nat) (R : Int) (n : Nat) (held : List Nat) (xs : List Nat) (j : Nat) (hz : ∀ i, i < xs.length → b (j + i) = 0) : scan b R xs j n held = (held, n, false) := by
  rw [scan_skip b R n held xs.length xs j (Nat.le_refl _) hz, List.drop_length, scan]

/-- the next symbol that is kept -/
theorem scan_hit (b : Nat → Nat) (R : Int) (n : Nat) (held : List Nat) (xs : List Nat) (j p : Nat) (hp : p < xs.length) (hz : ∀ i, i < p → b (j + i) = 0) (h1 : b (j + p) = 1) :
    scan b R xs j n held = if (n : Int) + 1 > R then (held, n + 1, true) else scan b R (xs.drop (p + 1)) (j + p + 1) (n + 1) (held ++ [xs[p]]) := by
  rw [scan_skip b R n held p xs j (by omega) hz, List.drop_eq_getElem_cons hp, scan, if_pos h1]

/-- the chunks of sixteen: what is held, whether it is refused, whether the stream ended, and the place in it -/
def chunks (b : Nat → Nat) (R : Int) (total : Nat) : Nat → List Nat → Nat → Nat → List Nat → List Nat × Bool × Bool × Nat
  | 0, _, c, _, held => (held, false, false, c)
  | f + 1, later, c, n, held =>
    if later = [] then (held, false, false, c)
    else if c + min later.length 16 > total then (held, true, true, c)
    else match scan (fun j => b (c + j)) R (later.take (min later.length 16)) 0 n held with
      | (h', _, true) => (h', true, false, c + min later.length 16)
      | (h', n', false) => chunks b R total f (later.drop (min later.length 16)) (c + min later.length 16) n' h'

theorem chunks_fuel (b : Nat → Nat) (R : Int) (total : Nat) : ∀ (f g : Nat) (lt : List Nat) (c n : Nat) (held : List Nat), lt.length ≤ f → lt.length ≤ g → chunks b R total f lt c n held = chunks b R total g lt c n held
  | 0, 0, lt, c, n, held, _, _ => rfl
  | 0, g + 1, lt, c, n, held, h, _ => by
    obtain rfl := List.eq_nil_of_length_eq_zero (Nat.le_zero.1 h)
    simp [chunks]
  | f + 1, 0, lt, c, n, held, _, h => by
    obtain rfl := List.eq_nil_of_length_eq_zero (Nat.le_zero.1 h)
    simp [chunks]
  | f + 1, g + 1, lt, c, n, held, hf, hg => by
    rw [chunks, chunks]
    by_cases h0 : lt = []
    · rw [if_pos h0, if_pos h0]
    · rw [if_neg h0, if_neg h0]
      by_cases h1 : c + min lt.length 16 > total
      · rw [if_pos h1, if_pos h1]
      · rw [if_neg h1, if_neg h1]
        have hp : 0 < lt.length := List.length_pos_iff.2 h0
        have hd : (lt.drop (min lt.length 16)).length ≤ lt.length - 1 := by rw [List.length_drop]; omega
        rcases scan (fun j => b (c + j)) R (lt.take (min lt.length 16)) 0 n held with ⟨h', n', _ | _⟩
        · exact chunks_fuel b R total f g _ _ _ _ (by omega) (by omega)
        · rfl

end Go.Proofs.YbulkeekoFmt
