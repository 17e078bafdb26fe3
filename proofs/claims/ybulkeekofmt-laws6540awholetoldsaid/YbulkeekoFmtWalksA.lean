/-
  THE WALK of LawS6540AWhole.
-/
import Derived.Test.YbulkeekoFmtLib
import Derived.Deep.DeepCutAuto
namespace Go.Proofs.YbulkeekoFmt
open Go.RowKit Go.Extern.Stop Go.Stop Go.Extern
set_option linter.unusedSimpArgs false
set_option linter.unusedVariables false

set_option maxRecDepth 100000 in
set_option maxHeartbeats 1000000 in
theorem lawA_long (ra : Option Addr) (n c : Nat) (rd : Int) (last u0 w0 : Int) (w : World) (h : 1048576 < n) :
    Calls Ybaf.prog 3 #[.slice ra n c, .int .i64 rd, .int .u8 last, .int .u8 u0, .int .u8 w0] w fun e w' => e = .returned (.bool true) ∧ Below w.heap.size w w' := by
  have t1 : decide ((1048576 : Int) < (n : Int)) = true := by simp; omega
  go_enter Ybaf.func3, Ybaf.ntmps3
  go_wp2
  go_ret
  exact ⟨rfl, Below.refl _ _⟩

theorem belowDN {B : Nat} {a w : World} (h : Below B a w) (n : Nat) : Below B a (w.drewN n) := h.trans ⟨rfl, rfl, rfl, Nat.le_refl _, fun _ _ => rfl⟩

abbrev u8s (xs : List Nat) : List Value := xs.map (fun (b : Nat) => Value.int .u8 (b : Int))

theorem u8s_one (xs : List Nat) : ∀ v ∈ u8s xs, v.oneCell' = true := by
  intro v hv
  obtain ⟨b, _, rfl⟩ := List.mem_map.1 hv
  rfl
theorem u8s_int (xs : List Nat) : ∀ v ∈ u8s xs, ∃ x, v = .int .u8 x := by
  intro v hv
  obtain ⟨b, _, rfl⟩ := List.mem_map.1 hv
  exact ⟨_, rfl⟩

theorem wI (x : Int) : IntKind.i64.wrap x = wrap64 x := Go.IntWalk.i64_left x

theorem bit_all : ((List.range 256).all fun l => (List.range 8).all fun m => bits .and .u8 (((l : Nat) : Int) / 2 ^ m) 1 == ((l / 2 ^ m % 2 : Nat) : Int)) = true := by decide +kernel
theorem bit8 (l m : Nat) (hl : l < 256) (hm : m ≤ 7) : bits .and .u8 (((l : Nat) : Int) / 2 ^ m) 1 = ((l / 2 ^ m % 2 : Nat) : Int) := by
  have h1 := List.all_eq_true.1 bit_all l (List.mem_range.2 hl)
  have h2 := List.all_eq_true.1 h1 m (List.mem_range.2 (by omega))
  simpa using h2

theorem orB (x b : Nat) (hx : x < 1099511627776) (hb : b < 2) : bits .or .u64 (IntKind.u64.wrap ((x : Int) * 2)) (IntKind.u64.wrap (b : Int)) = ((2 * x + b : Nat) : Int) := by
  have h1 : IntKind.u64.wrap ((x : Int) * 2) = ((2 * x : Nat) : Int) := by simp only [IntKind.wrap, IntKind.signed, IntKind.bits]; simp; omega
  have h2 : IntKind.u64.wrap (b : Int) = ((b : Nat) : Int) := by simp only [IntKind.wrap, IntKind.signed, IntKind.bits]; simp; omega
  rw [h1, h2, Go.u64_or_nat _ _ (by omega) (by omega)]
  have := Nat.two_pow_add_eq_or_of_lt (i := 1) (b := b) (by omega) x
  rw [show 2 ^ 1 * x = 2 * x by omega] at this
  rw [this]

/-- one more bit of the stream, as the law lays it -/
theorem stepX (last u : Nat) (rest : List Nat) (t l m : Nat) (ht : t < 32) (hl : l < 256) (hm : m ≤ 7) (hs : sbit last u rest t = l / 2 ^ m % 2) :
    bits .or .u64 (IntKind.u64.wrap ((snum last u rest 0 t : Int) * 2)) (IntKind.u64.wrap (bits .and .u8 (((l : Nat) : Int) / 2 ^ m) 1)) = ((snum last u rest 0 (t + 1) : Nat) : Int) := by
  have h1 := snum_lt last u rest 0 t
  have h2 : (2 : Nat) ^ t ≤ 2 ^ 32 := Nat.pow_le_pow_right (by decide) (by omega)
  have h3 : (2 : Nat) ^ 32 = 4294967296 := by decide
  rw [bit8 l m hl hm, orB _ _ (by omega) (by omega), snum, Nat.zero_add, hs]

set_option maxRecDepth 100000 in
set_option maxHeartbeats 20000000 in
theorem lawA_short (F : Interp) (ra : Option Addr) (n c : Nat) (rest : List Nat) (rd : Int) (last u0 w0 : Nat) (w : World) (hF : F.answers w.tape) (hn1 : n ≤ 1048576) (hr : Rd w ra (u8s rest)) (hn : rest.length = n) (hc : n ≤ c) (h0 : ra = none → n = 0 ∧ c = 0) (hb : ∀ b ∈ rest, b < 256)
    (hl : last < 256) (hu0 : u0 < 256) (hw0 : w0 < 256) (hrd0 : -9223372036854775808 ≤ rd) (hrd1 : rd < 9223372036854775808) (hnd0 : rest.length < needB (u0 % 8) (w0 % 33)) :
    Calls Ybaf.prog 3 #[.slice ra n c, .int .i64 rd, .int .u8 last, .int .u8 u0, .int .u8 w0] w fun e w' => e = .returned (.bool true) ∧ Below w.heap.size w w' := by
  have t1 : decide ((1048576 : Int) < (n : Int)) = false := by simp; omega
  obtain ⟨u, hU⟩ : ∃ u : Nat, u = u0 % 8 := ⟨_, rfl⟩
  obtain ⟨width, hW⟩ : ∃ width : Nat, width = w0 % 33 := ⟨_, rfl⟩
  have hu : u ≤ 7 := by omega
  have hw : width ≤ 32 := by omega
  have eU : ((u0 : Nat) : Int) % 8 = (u : Int) := by omega
  have eW : ((w0 : Nat) : Int) % 33 = (width : Int) := by omega
  have HK := hide (And.intro hr (And.intro h0 (And.intro hb hF)))
  have HN : Hid (rest.length < needB u width) := by rw [hU, hW]; exact hnd0
  clear hnd0
  clear hr h0 hb hF hU hW
  go_enter Ybaf.func3, Ybaf.ntmps3
  go_wp2_with fail
  refine (clone5_any w ra n c _ HK.out.1 (u8s_one _) (by simpa using hn) HK.out.2.1 hn1).mono ?_
  rintro e w1 ⟨ov, rfl, o1, L1⟩
  obtain ⟨oa, oc, rfl, c1, c2, r1, n1, b1⟩ := owns_form o1.o
  simp only [List.length_map] at c1 n1 ⊢
  rw [hn] at c1 n1 ⊢
  have H1 := hide (And.intro o1 (And.intro L1 (And.intro c1 (And.intro r1 (And.intro n1 b1)))))
  clear o1 L1 c1 c2 r1 n1 b1
  go_wp2_with fail
  have B2 := Blk.new w1 (dC ra n c rd last u) 26
  have L2 : Below w.heap.size w (w1.alloc (.cells (dC ra n c rd last u).toArray 26)) := H1.out.2.1.alloc H1.out.2.1.size _
  have R2 : Rnd (w1.alloc (.cells (dC ra n c rd last u).toArray 26)) (w1.alloc (.cells (dC ra n c rd last u).toArray 26)) w1.heap.size rest rd last u 0 ra c := by
    refine ⟨?_, by omega, HK.out.1.below L2 (Nat.le_refl _), fun ad e => ?_, fun e => ?_, But.refl _ _⟩
    · rw [rdAt_zero rd hrd0 hrd1]
      simpa [lastAt, hn] using B2
    · by_cases h0 : rest.length = 0
      · exact Or.inl (by omega)
      · right
        have hl := HK.out.1.lt_of (by simpa using h0) e
        have := H1.out.2.1.size
        omega
    · have := HK.out.2.1 e; omega
  have F2 : F.answers (w1.alloc (.cells (dC ra n c rd last u).toArray 26)).tape := by
    have : w1.tape = w.tape := H1.out.2.1.tape
    show F.answers w1.tape
    rw [this]; exact HK.out.2.2.2
  have O2 : Rd (w1.alloc (.cells (dC ra n c rd last u).toArray 26)) oa (u8s rest) := H1.out.2.2.2.1.below ((Below.refl w1.heap.size w1).alloc (Nat.le_refl _) _) (Nat.le_refl _)
  have s1 := H1.out.2.1.size
  have H2 := hide (And.intro L2 (And.intro R2 (And.intro F2 O2)))
  clear B2 L2 R2 F2 O2
  rw [show (#[Value.slice ra n c, .int .i64 rd, .int .u8 last, .int .i64 u] : Array Value) = (dC ra n c rd last u).toArray from rfl]
  generalize hdb : w1.heap.size = db at *
  generalize w1.alloc (.cells (dC ra n c rd last u).toArray 26) = w2 at *
  refine (bits_any F db rest rd last u width ra c w2 H2.out.2.2.1 H2.out.2.1 hl hu hw HK.out.2.2.1 (by omega)).mono ?_
  rintro e w3 ⟨so, sc, hsc, hB⟩
  have KEEP : But (fun g => g = db) w2 w3 → Hid (Below w.heap.size w w3 ∧ Rd w3 ra (u8s rest) ∧ Rd w3 oa (u8s rest)) := by
    intro P
    refine ⟨H2.out.1.trans (P.below (fun k hk => by omega) H2.out.1.size), ?_, ?_⟩
    · by_cases h0 : rest.length = 0
      · obtain rfl := List.eq_nil_of_length_eq_zero h0; exact Rd.nil _ _
      · exact H2.out.2.1.R.but P (fun ad e h => by have := HK.out.1.lt_of (by simpa using h0) e; omega)
    · by_cases h0 : rest.length = 0
      · obtain rfl := List.eq_nil_of_length_eq_zero h0; exact Rd.nil _ _
      · exact H2.out.2.2.2.but P (fun ad e h => by have := H1.out.2.2.2.1.lt_of (by simpa using h0) e; omega)
  obtain ⟨hnd, ⟨a, rfl⟩, B3, P3⟩ : rest.length < needB u width ∧ (∃ a, e = .returned (.tuple #[.int .i64 0, .iface 73 (.pointer (some a))])) ∧ Blk w3 db (dC so 0 sc (rdAt rd rest.length) (lastAt last rest rest.length) (u + 8 * rest.length)) 26 ∧ But (fun g => g = db) w2 w3 := by
    rcases hB with ⟨hnd, _⟩ | h
    · exact absurd HN.out (by omega)
    · exact h
  have K3 := KEEP P3
  clear KEEP
  have c0 := B3.cell (j := 0) rfl
  have c1 := B3.cell (j := 1) rfl
  have c2 := B3.cell (j := 2) rfl
  have c3 := B3.cell (j := 3) rfl
  rw [hn] at c1 c2 c3
  have hwu : u < width := by unfold needB at hnd; omega
  have t5 : decide ((n : Int) < ((width : Int) - (u : Int) + 7) / 8) = true := by unfold needB at hnd; simp; omega
  have c3' : w3.cell? ⟨db, 3, none⟩ = some (.int .i64 ((u : Int) + 8 * (n : Int))) := by rw [c3]; simp
  unfold rdAt at c1
  clear c3 B3 P3
  have t6 : decide ((n : Int) < 0) = false := by simp
  rcases Nat.eq_zero_or_pos n with hz | hp
  · have c2' : w3.cell? ⟨db, 2, none⟩ = some (.int .u8 (last : Int)) := by rw [c2, hz]; simp [lastAt]
    have t7 : ¬ 0 < n := by omega
    have c1' : w3.cell? ⟨db, 1, none⟩ = some (.int .i64 (rd + (n : Int))) := by rw [c1, show wrap64 (rd + (n : Int)) = rd + (n : Int) by unfold wrap64; omega]
    clear c2 hz c1
    go_wp2_with fail
    refine (equal7_true w3 ra oa n c oc (u8s rest) (u8s_int _) K3.out.2.1 K3.out.2.2 (by simpa using hn) (by omega)).mono ?_
    rintro e w4 ⟨rfl, q, rfl⟩
    go_wp2_with fail
    go_ret
    exact ⟨rfl, belowDN K3.out.1 q⟩
  · have hm : n - 1 < rest.length := by omega
    have c2' : w3.cell? ⟨db, 2, none⟩ = some (.int .u8 ((rest[n - 1] : Nat) : Int)) := by rw [c2]; unfold lastAt; rw [if_neg (by omega), List.getD_eq_getElem?_getD, List.getElem?_eq_getElem hm]; rfl
    have t7 : decide ((0 : Int) < (n : Int)) = true := by simp; omega
    clear c2
    obtain ⟨oad, rfl, cO⟩ := K3.out.2.2 (n - 1) (.int .u8 ((rest[n - 1] : Nat) : Int)) (by simp [List.getElem?_eq_getElem hm])
    go_wp2_with fail
    refine (equal7_true w3 ra (some oad) n c oc (u8s rest) (u8s_int _) K3.out.2.1 K3.out.2.2 (by simpa using hn) (by omega)).mono ?_
    rintro e w4 ⟨rfl, q, rfl⟩
    go_wp2_with fail
    go_ret
    exact ⟨rfl, belowDN K3.out.1 q⟩

end Go.Proofs.YbulkeekoFmt
