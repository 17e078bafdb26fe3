/-
  THE WALKS of zzs6540cbit and zzs6540cnum.
-/
import Derived.Test.YbulkeekoFmtLibC
import Derived.Test.YbulkeekoFmtPlainC
namespace Go.Proofs.YbulkeekoFmt
open Go.RowKit
set_option linter.unusedSimpArgs false
set_option linter.unusedVariables false

abbrev u8s (xs : List Nat) : List Value := xs.map (fun (b : Nat) => Value.int .u8 (b : Int))

theorem i64_or_nat (a b : Nat) (ha : a < 4611686018427387904) (hb : b < 4611686018427387904) : bits .or .i64 (a : Int) (b : Int) = ((a ||| b : Nat) : Int) := by
  have hx : a ||| b < 2 ^ 62 := Nat.or_lt_two_pow (by omega) (by omega)
  show IntKind.i64.wrap ((BitVec.ofInt 64 (a : Int) ||| BitVec.ofInt 64 (b : Int)).toNat : Int) = _
  rw [BitVec.toNat_or, ofInt_u64 a (by omega), ofInt_u64 b (by omega), IntKind.wrap_i64]
  omega
theorem i64_and_nat (a b : Nat) (ha : a < 4611686018427387904) (hb : b < 4611686018427387904) : bits .and .i64 (a : Int) (b : Int) = ((a &&& b : Nat) : Int) := by
  have hx : a &&& b < 2 ^ 62 := Nat.and_lt_two_pow _ (by omega)
  show IntKind.i64.wrap ((BitVec.ofInt 64 (a : Int) &&& BitVec.ofInt 64 (b : Int)).toNat : Int) = _
  rw [BitVec.toNat_and, ofInt_u64 a (by omega), ofInt_u64 b (by omega), IntKind.wrap_i64]
  omega

theorem bitI_all : ((List.range 256).all fun l => (List.range 8).all fun m => bits .and .i64 (((l : Nat) : Int) / 2 ^ m) 1 == ((l / 2 ^ m % 2 : Nat) : Int)) = true := by decide +kernel
theorem bitI (l m : Nat) (hl : l < 256) (hm : m ≤ 7) : bits .and .i64 (((l : Nat) : Int) / 2 ^ m) 1 = ((l / 2 ^ m % 2 : Nat) : Int) := by
  have h1 := List.all_eq_true.1 bitI_all l (List.mem_range.2 hl)
  have h2 := List.all_eq_true.1 h1 m (List.mem_range.2 (by omega))
  simpa using h2

theorem bitW (l m : Nat) (hl : l < 256) (hm : m ≤ 7) : bits .and .i64 (wrap64 (((l : Nat) : Int) / 2 ^ m)) 1 = ((l / 2 ^ m % 2 : Nat) : Int) := by
  rw [show wrap64 (((l : Nat) : Int) / 2 ^ m) = ((l : Nat) : Int) / 2 ^ m from ?_, bitI l m hl hm]
  have h1 : ((l : Nat) : Int) / 2 ^ m = ((l / 2 ^ m : Nat) : Int) := by simp
  have h2 : l / 2 ^ m ≤ l := Nat.div_le_self _ _
  rw [h1]
  generalize l / 2 ^ m = z at *
  unfold wrap64
  omega

set_option maxHeartbeats 1000000 in
theorem bit_any (last u : Nat) (ra : Option Addr) (n c : Nat) (rest : List Nat) (i : Nat) (w : World) (hl : last < 256) (hu : u ≤ 7) (hr : Rd w ra (u8s rest)) (hn : rest.length = n) (hb : ∀ b ∈ rest, b < 256) (hN : n ≤ 1048576) (hi : i < u + 8 * n) :
    Calls Ybaf.prog 13 #[.int .u8 last, .int .i64 u, .slice ra n c, .int .i64 i] w fun e w' => e = .returned (.int .i64 (sbit last u rest i)) ∧ w' = w := by
  by_cases h : i < u
  · obtain ⟨m, hm⟩ : ∃ m : Nat, m + i + 1 = u := ⟨u - 1 - i, by omega⟩
    have em : (u : Int) - 1 - (i : Int) = (m : Int) := by omega
    have e1 : Hid _ := hide (bitW last m hl (by omega))
    have HS : Hid (sbit last u rest i = last / 2 ^ m % 2) := by show _ = _; unfold sbit; rw [if_pos h, show u - 1 - i = m by omega]
    clear hr hb
    go_enter Ybaf.func13, Ybaf.ntmps13
    go_wp2
    go_ret
    exact ⟨by rw [HS.out]; exact congrArg (fun z => Ending.returned (Value.int .i64 z)) e1.out, rfl⟩
  · obtain ⟨d, hd⟩ : ∃ d : Nat, i = u + d := ⟨i - u, by omega⟩
    have hq : d / 8 < rest.length := by omega
    obtain ⟨ad, rfl, cA⟩ := hr (d / 8) (.int .u8 ((rest[d / 8] : Nat) : Int)) (by simp [List.getElem?_eq_getElem hq])
    obtain ⟨m, hm⟩ : ∃ m : Nat, m + d % 8 = 7 := ⟨7 - d % 8, by omega⟩
    have em : 7 - (d : Int) % 8 = (m : Int) := by omega
    have ed : (i : Int) - (u : Int) = (d : Int) := by omega
    have eq : (d : Int) / 8 = ((d / 8 : Nat) : Int) := by omega
    have e1 : Hid _ := hide (bitW rest[d / 8] (7 - d % 8) (hb _ (List.getElem_mem hq)) (by omega))
    have HS : Hid (sbit last u rest i = rest[d / 8] / 2 ^ (7 - d % 8) % 2) := by
      show _ = _
      unfold sbit
      rw [if_neg h, show (i - u) / 8 = d / 8 by omega, show 7 - (i - u) % 8 = 7 - d % 8 by omega, List.getD_eq_getElem?_getD, List.getElem?_eq_getElem hq, Option.getD_some]
    clear hr hb
    go_enter Ybaf.func13, Ybaf.ntmps13
    go_wp2
    go_ret
    exact ⟨by rw [HS.out]; exact congrArg (fun z => Ending.returned (Value.int .i64 z)) e1.out, rfl⟩

theorem orI (x b : Nat) (hx : x < 1099511627776) (hb : b < 2) : bits .or .i64 ((x : Int) * 2) (b : Int) = ((2 * x + b : Nat) : Int) := by
  rw [show (x : Int) * 2 = ((2 * x : Nat) : Int) by omega, i64_or_nat _ _ (by omega) (by omega)]
  have := Nat.two_pow_add_eq_or_of_lt (i := 1) (b := b) (by omega) x
  rw [show 2 ^ 1 * x = 2 * x by omega] at this
  rw [this]

set_option maxHeartbeats 1000000 in
theorem num_any (last u : Nat) (ra : Option Addr) (n cc : Nat) (rest : List Nat) (c k : Nat) (w : World) (hl : last < 256) (hu : u ≤ 7) (hr : Rd w ra (u8s rest)) (hn : rest.length = n) (hb : ∀ b ∈ rest, b < 256) (hN : n ≤ 1048576) (hk : k ≤ 32) (hi : c + k ≤ u + 8 * n) :
    Calls Ybaf.prog 12 #[.int .u8 last, .int .i64 u, .slice ra n cc, .int .i64 c, .int .i64 k] w fun e w' => e = .returned (.int .i64 (snum last u rest c k)) ∧ w' = w := by
  have HH := hide (And.intro hr hb)
  clear hr hb
  go_enter Ybaf.func12, Ybaf.ntmps12
  go_wp2
  go_loopw [11, 12] (fun v t wr => ∃ j : Nat, j ≤ k ∧ v = .int .i64 (snum last u rest c j : Nat) ∧ t = .int .i64 (j : Int) ∧ wr = w) (fun _ t _ => k - (intOf t).toNat)
  case atStart => exact ⟨0, Nat.zero_le _, rfl, rfl, rfl⟩
  case round =>
    obtain ⟨j, hj, rfl, rfl, rfl⟩ := hrel
    by_cases hlt : j < k
    · have h1 := snum_lt last u rest c j
      have h2 : (2 : Nat) ^ j ≤ 4294967296 := Nat.pow_le_pow_right (n := 2) (j := 32) (by decide) (by omega)
      have h3 : snum last u rest c j < 4294967296 := by omega
      clear h1 h2
      have h4 := sbit_le last u rest (c + j)
      go_wp2_with fail
      refine (bit_any last u ra n cc rest (c + j) _ hl hu HH.out.1 hn HH.out.2 hN (by omega)).mono ?_
      rintro e w1 ⟨rfl, rfl⟩
      go_wp2_with fail
      rw [orI _ _ (by omega) (by omega)]
      exact ⟨⟨j + 1, by omega, by rw [snum], by go_num, trivial⟩, by simp [intOf]; omega⟩
    · obtain rfl : k = j := by omega
      go_wp2_with fail
      go_ret
      exact ⟨rfl, rfl⟩

end Go.Proofs.YbulkeekoFmt
