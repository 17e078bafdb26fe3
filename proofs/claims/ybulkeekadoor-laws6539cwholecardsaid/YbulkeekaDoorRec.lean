/-
  (*dump.Writer).WriteRecord, over the law's sink.
-/
import Derived.Test.YbulkeekaDoorHex
namespace Go.Proofs.YbulkeekaDoor
open Go.RowKit
set_option linter.unusedSimpArgs false
set_option linter.unusedVariables false
attribute [local go_sem] meth27 meth42 meth55
attribute [local go_sem ↓] Go.wp_at_zero Go.wp_at_succ

/-- WriteString, whatever the state -/
theorem bstr_any (rb wb bb : Nat) (sa : Addr) (fail : Bool) (T B S : List Int) (er : Bool) (sv : Value) (s : ByteArray) (m : Nat) (w : World) (h : BW w rb wb bb sa fail B S er sv) (g : Good fail T B S er)
    (hm : s.size = m) (h1 : 0 < m) (h2 : m ≤ 1024) (hT : T.length ≤ 9000000) :
    Calls Ybad.prog 14 #[.pointer (some ⟨wb, 0, none⟩), .string s] w fun e w' => ∃ (nn : Int) (B' S' : List Int) (er' : Bool) (sv' : Value), 0 ≤ nn ∧ nn ≤ 1024 ∧ e = .returned (.tuple #[.int .i64 nn, errv sa er']) ∧
      BW w' rb wb bb sa fail B' S' er' sv' ∧ Good fail (T ++ nums s) B' S' er' ∧ Step w w' rb wb bb sv sv' := by
  cases er with
  | false => exact str_any rb wb bb sa fail T B S sv s m w h g hm h1 h2 hT
  | true =>
    refine (str_err rb wb bb sa fail B S sv s w h).mono ?_
    rintro e w' ⟨rfl, q, rfl⟩
    exact ⟨0, B, S, true, sv, by decide, by decide, rfl, h.drewN q, g.err _, (Step.refl _ _ _ _ _).drewN q⟩

theorem EW.next {w w' : World} {rb wb bb eb : Nat} {sa : Addr} {fail : Bool} {T B S B' S' xs : List Int} {er er' : Bool} {sv sv' : Value} {ee : Bool} (h : EW w rb wb bb eb sa fail B S er sv ee) (g : Good fail T B S er)
    (h' : BW w' rb wb bb sa fail B' S' er' sv') (g' : Good fail (T ++ xs) B' S' er') (s : Step w w' rb wb bb sv sv') : EW w' rb wb bb eb sa fail B' S' er' sv' ee := by
  obtain ⟨O, hO, hE⟩ := h.e
  refine ⟨h', ⟨O, hO, hE.but s.b h.m⟩, s.noMine h.m hE.lt, fun he => ?_⟩
  have e1 := h.x he
  have e2 := Good.er h.bw g
  have e3 := Good.er h' g'
  rw [e1] at e2
  rw [e3]
  simp only [erOf, Bool.true_eq, Bool.and_eq_true, decide_eq_true_eq, List.length_append] at e2 ⊢
  exact ⟨e2.1, by omega⟩

theorem Step2.mine {w w' : World} {rb wb bb eb : Nat} {sv sv' : Value} (h : Step2 w w' rb wb bb eb sv sv') {i : Nat} (hi : i < w.heap.size) (hn : ¬ Mine rb wb bb sv i) : ¬ Mine rb wb bb sv' i := by
  rintro (h1 | h1 | h1 | h1)
  · exact hn (Or.inl h1)
  · exact hn (Or.inr (Or.inl h1))
  · exact hn (Or.inr (Or.inr (Or.inl h1)))
  · rcases h.v with h2 | ⟨g, h2, h3⟩
    · exact hn (Or.inr (Or.inr (Or.inr (h2 ▸ h1))))
    · rw [h2] at h1; cases h1; omega

set_option maxRecDepth 100000 in
set_option maxHeartbeats 1000000 in
theorem hexw_none (rb wb bb eb : Nat) (sa : Addr) (fail : Bool) (T B S : List Int) (er : Bool) (sv : Value) (ee : Bool) (ao : Option Addr) (c : Nat) (w : World) (h : EW w rb wb bb eb sa fail B S er sv ee) (g : Good fail T B S er) :
    Calls Ybad.prog 36 #[.pointer (some ⟨eb, 0, none⟩), .slice ao 0 c] w fun e w' => ∃ (v : Value) (B' S' : List Int) (er' : Bool) (sv' : Value) (ee' : Bool), e = .returned v ∧
      EW w' rb wb bb eb sa fail B' S' er' sv' ee' ∧ Good fail (T ++ hexs []) B' S' er' ∧ Step2 w w' rb wb bb eb sv sv' := by
  have HH := hide (And.intro h g)
  obtain ⟨O, hO, hE⟩ := h.e
  have c1 := hE.cell (j := 1) rfl
  clear h g hE hO
  go_enter Ybad.func36, Ybad.ntmps36
  go_wp2
  go_loopg [1, 4] 0 (fun gk p s4 wr => p = .slice ao 0 c ∧ s4 = .int .i64 0 ∧ wr = w)
  case atStart => exact ⟨rfl, rfl, rfl⟩
  case round =>
    obtain ⟨rfl, rfl, rfl⟩ := hrel
    go_wp2_with fail
    go_quiet (fail)
    go_wp2
    go_ret2
    exact ⟨_, B, S, er, sv, ee, rfl, ⟨HH.out.1.bw.drewN _, HH.out.1.e, HH.out.1.m, HH.out.1.x⟩, by simpa [hexs] using HH.out.2, (Step2.refl _ _ _ _ _ _).drewN _⟩

/-- the encoder's Write, of whatever bytes -/
theorem hexw_all (rb wb bb eb : Nat) (sa : Addr) (fail : Bool) (T B S : List Int) (er : Bool) (sv : Value) (ee : Bool) (xs : List Int) (ao : Option Addr) (n c : Nat) (w : World) (h : EW w rb wb bb eb sa fail B S er sv ee) (g : Good fail T B S er)
    (hx : Rd w ao (xs.map (Value.int .u8))) (hn : xs.length = n) (hn2 : n ≤ 1048576) (hc : n ≤ c) (hb : ∀ x ∈ xs, 0 ≤ x ∧ x < 256) (hap : xs ≠ [] → ∀ ad, ao = some ad → ¬ Mine rb wb bb sv ad.block ∧ ad.block ≠ eb ∧ ad.block < w.heap.size) (hT : T.length + 2 * n ≤ 9000000) :
    Calls Ybad.prog 36 #[.pointer (some ⟨eb, 0, none⟩), .slice ao n c] w fun e w' => ∃ (v : Value) (B' S' : List Int) (er' : Bool) (sv' : Value) (ee' : Bool), e = .returned v ∧
      EW w' rb wb bb eb sa fail B' S' er' sv' ee' ∧ Good fail (T ++ hexs xs) B' S' er' ∧ Step2 w w' rb wb bb eb sv sv' := by
  by_cases h0 : xs = []
  · subst h0
    obtain rfl : n = 0 := by simpa using hn.symm
    exact hexw_none rb wb bb eb sa fail T B S er sv ee ao c w h g
  · exact hexw_any rb wb bb eb sa fail T B S er sv ee xs ao n c w h g hx hn hn2 hc hb (hap h0) hT

/-- an argument that the writer's operations do not touch -/
structure Far (w : World) (rb wb bb eb : Nat) (sv : Value) (ao : Option Addr) (xs : List Int) : Prop where
  r : Rd w ao (xs.map (Value.int .u8))
  a : xs ≠ [] → ∀ ad, ao = some ad → ¬ Mine rb wb bb sv ad.block ∧ ad.block ≠ eb ∧ ad.block < w.heap.size

theorem Far.next {w w' : World} {rb wb bb eb : Nat} {sv sv' : Value} {ao : Option Addr} {xs : List Int} (h : Far w rb wb bb eb sv ao xs) (s : Step2 w w' rb wb bb eb sv sv') : Far w' rb wb bb eb sv' ao xs := by
  refine ⟨?_, fun h0 ad e => ⟨s.mine (h.a h0 ad e).2.2 (h.a h0 ad e).1, (h.a h0 ad e).2.1, Nat.lt_of_lt_of_le (h.a h0 ad e).2.2 s.b.size⟩⟩
  by_cases h0 : xs = []
  · subst h0; exact Rd.nil _ _
  · exact h.r.but s.b (fun ad e => by rintro (h1 | h1); exact (h.a h0 ad e).1 h1; exact (h.a h0 ad e).2.1 h1)

def dCells (wb eb : Nat) : List Value := [.pointer (some ⟨wb, 0, none⟩), .iface 55 (.pointer (some ⟨eb, 0, none⟩))]

theorem blk_next {w w' : World} {rb wb bb eb db : Nat} {sv sv' : Value} {L : List Value} {t : TypeId} (h : Blk w db L t) (s : Step2 w w' rb wb bb eb sv sv') (h1 : ¬ Mine rb wb bb sv db) (h2 : db ≠ eb) : Blk w' db L t :=
  h.but s.b (by rintro (h | h); exact h1 h; exact h2 h)

def recOf (key value : List Int) : List Int := [32] ++ hexs key ++ [10, 32] ++ hexs value ++ [10]

set_option maxRecDepth 100000 in
set_option maxHeartbeats 2000000 in
theorem record_any (rb wb bb eb db : Nat) (sa : Addr) (fail : Bool) (B S : List Int) (er : Bool) (sv : Value) (ee : Bool) (key value : List Int) (ka va : Option Addr) (kn kc vn vc : Nat) (w : World) (h : EW w rb wb bb eb sa fail B S er sv ee) (g : Good fail [] B S er)
    (hd : Blk w db (dCells wb eb) 46) (hd1 : ¬ Mine rb wb bb sv db) (hd2 : db ≠ eb)
    (hk : Far w rb wb bb eb sv ka key) (hkn : key.length = kn) (hkb : kn ≤ 1048576) (hkc : kn ≤ kc) (hkx : ∀ x ∈ key, 0 ≤ x ∧ x < 256)
    (hv : Far w rb wb bb eb sv va value) (hvn : value.length = vn) (hvb : vn ≤ 1048576) (hvc : vn ≤ vc) (hvx : ∀ x ∈ value, 0 ≤ x ∧ x < 256) :
    Calls Ybad.prog 7 #[.pointer (some ⟨db, 0, none⟩), .slice ka kn kc, .slice va vn vc] w fun e w' => ∃ (B' S' : List Int) (er' : Bool) (sv' : Value) (ee' : Bool), e = .returned (errv sa er') ∧
      EW w' rb wb bb eb sa fail B' S' er' sv' ee' ∧ Good fail (recOf key value) B' S' er' ∧ Step2 w w' rb wb bb eb sv sv' := by
  have c0 := hd.cell (j := 0) rfl
  have c1 := hd.cell (j := 1) rfl
  have hkl := hexs_length key
  have hvl := hexs_length value
  have HH : Hid (EW w rb wb bb eb sa fail B S er sv ee ∧ Good fail [] B S er ∧ Blk w db (dCells wb eb) 46 ∧ Far w rb wb bb eb sv ka key ∧ Far w rb wb bb eb sv va value) := ⟨h, g, hd, hk, hv⟩
  clear h g hd hk hv
  go_enter Ybad.func7, Ybad.ntmps7
  go_wp2_with fail
  -- the blank
  refine (byte_any rb wb bb sa fail [] B S er sv 32 _ HH.out.1.bw HH.out.2.1 (by simp)).mono ?_
  rintro e w1 ⟨B1, S1, er1, sv1, rfl, h1, g1, s1⟩
  have E1 := HH.out.1.next HH.out.2.1 h1 g1 s1
  have D1 := blk_next HH.out.2.2.1 (s1.two eb) hd1 hd2
  have m1 := (s1.two eb).mine HH.out.2.2.1.lt hd1
  have d0 := D1.cell (j := 0) rfl
  have d1 := D1.cell (j := 1) rfl
  have H1 := hide (And.intro E1 (And.intro g1 (And.intro D1 (And.intro (s1.two eb) (And.intro (HH.out.2.2.2.1.next (s1.two eb)) (HH.out.2.2.2.2.next (s1.two eb)))))))
  clear h1 g1 s1 E1 D1
  go_wp2_with fail
  -- the key
  refine (hexw_all rb wb bb eb sa fail ([] ++ [32]) B1 S1 er1 sv1 ee key ka kn kc _ H1.out.1 H1.out.2.1 H1.out.2.2.2.2.1.r hkn hkb hkc hkx H1.out.2.2.2.2.1.a (by simp; omega)).mono ?_
  rintro e w2 ⟨v2, B2, S2, er2, sv2, ee2, rfl, E2, g2, s2⟩
  have D2 := blk_next H1.out.2.2.1 s2 m1 hd2
  have m2 := s2.mine H1.out.2.2.1.lt m1
  have f0 := D2.cell (j := 0) rfl
  have f1 := D2.cell (j := 1) rfl
  have H2 := hide (And.intro E2 (And.intro g2 (And.intro D2 (And.intro (H1.out.2.2.2.1.trans s2) (H1.out.2.2.2.2.2.next s2)))))
  clear E2 g2 D2 s2 d0 d1 H1
  go_wp2_with fail
  -- the line's end and a blank
  refine (bstr_any rb wb bb sa fail ([] ++ [32] ++ hexs key) B2 S2 er2 sv2 _ 2 _ H2.out.1.bw H2.out.2.1 rfl (by decide) (by decide) (by simp; omega)).mono ?_
  rintro e w3 ⟨n3, B3, S3, er3, sv3, _, _, rfl, h3, g3, s3⟩
  have E3 := H2.out.1.next H2.out.2.1 h3 g3 s3
  have D3 := blk_next H2.out.2.2.1 (s3.two eb) m2 hd2
  have m3 := (s3.two eb).mine H2.out.2.2.1.lt m2
  have k0 := D3.cell (j := 0) rfl
  have k1 := D3.cell (j := 1) rfl
  have H3 := hide (And.intro E3 (And.intro g3 (And.intro D3 (And.intro (H2.out.2.2.2.1.trans (s3.two eb)) (H2.out.2.2.2.2.next (s3.two eb))))))
  clear E3 g3 D3 s3 f0 f1 H2 h3
  go_wp2_with fail
  -- the value
  refine (hexw_all rb wb bb eb sa fail ([] ++ [32] ++ hexs key ++ nums ⟨#[10, 32]⟩) B3 S3 er3 sv3 ee2 value va vn vc _ H3.out.1 H3.out.2.1 H3.out.2.2.2.2.r hvn hvb hvc hvx H3.out.2.2.2.2.a (by simp [nums]; omega)).mono ?_
  rintro e w4 ⟨v4, B4, S4, er4, sv4, ee4, rfl, E4, g4, s4⟩
  have D4 := blk_next H3.out.2.2.1 s4 m3 hd2
  have l0 := D4.cell (j := 0) rfl
  have H4 := hide (And.intro E4 (And.intro g4 (H3.out.2.2.2.1.trans s4)))
  clear E4 g4 s4 D4 k0 k1 H3
  go_wp2_with fail
  -- the line's end
  refine (byte_any rb wb bb sa fail ([] ++ [32] ++ hexs key ++ nums ⟨#[10, 32]⟩ ++ hexs value) B4 S4 er4 sv4 10 _ H4.out.1.bw H4.out.2.1 (by simp [nums]; omega)).mono ?_
  rintro e w5 ⟨B5, S5, er5, sv5, rfl, h5, g5, s5⟩
  have H5 := hide (And.intro (H4.out.1.next H4.out.2.1 h5 g5 s5) (And.intro g5 (H4.out.2.2.trans (s5.two eb))))
  clear h5 g5 s5 l0 H4
  go_wp2_with fail
  go_ret
  refine ⟨B5, S5, er5, sv5, ee4, rfl, H5.out.1, ?_, H5.out.2.2⟩
  exact H5.out.2.1

end Go.Proofs.YbulkeekaDoor
