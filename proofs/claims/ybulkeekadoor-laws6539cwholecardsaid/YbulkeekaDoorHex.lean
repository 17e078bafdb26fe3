/-
  encoding/hex.Encode into the encoder's own array; (*encoder).Write.
-/
import Derived.Test.YbulkeekaDoorStr
namespace Go.Proofs.YbulkeekaDoor
open Go.RowKit
set_option linter.unusedSimpArgs false
set_option linter.unusedVariables false
attribute [local go_sem] meth27 meth42 meth55
attribute [local go_sem ↓] Go.wp_at_zero Go.wp_at_succ

theorem ret_int {k : IntKind} {a b : Int} (h : a = b) : Ending.returned (.int k a) = .returned (.int k b) := by rw [h]

def dig (d : Int) : Int := if d < 10 then 48 + d else 87 + d
def hexs (xs : List Int) : List Int := xs.flatMap fun b => [dig (b / 16), dig (b % 16)]
theorem hexs_length (xs : List Int) : (hexs xs).length = 2 * xs.length := by
  induction xs with
  | nil => rfl
  | cons x xs ih => simp only [hexs, List.flatMap_cons, List.length_append, List.length_cons, List.length_nil] at *; omega
theorem hexs_append (xs ys : List Int) : hexs (xs ++ ys) = hexs xs ++ hexs ys := by simp [hexs]

theorem hexAt (d : Int) (h0 : 0 ≤ d) (h1 : d < 16) (hp : d.toNat < (⟨#[48, 49, 50, 51, 52, 53, 54, 55, 56, 57, 97, 98, 99, 100, 101, 102]⟩ : ByteArray).size) :
    (((⟨#[48, 49, 50, 51, 52, 53, 54, 55, 56, 57, 97, 98, 99, 100, 101, 102]⟩ : ByteArray)[d.toNat]'hp).toNat : Int) = dig d := by
  obtain ⟨k, rfl⟩ := Int.eq_ofNat_of_zero_le h0
  have hk : k < 16 := by omega
  have : k = 0 ∨ k = 1 ∨ k = 2 ∨ k = 3 ∨ k = 4 ∨ k = 5 ∨ k = 6 ∨ k = 7 ∨ k = 8 ∨ k = 9 ∨ k = 10 ∨ k = 11 ∨ k = 12 ∨ k = 13 ∨ k = 14 ∨ k = 15 := by omega
  rcases this with rfl | rfl | rfl | rfl | rfl | rfl | rfl | rfl | rfl | rfl | rfl | rfl | rfl | rfl | rfl | rfl <;> rfl

theorem hexs_step (xs O : List Int) (k : Nat) (b : Int) (h : xs[k]? = some b) (hO : O.length = 1024) (hk : k < 512) :
    (((hexs (xs.take k) ++ O.drop (2 * k)).set (2 * k) (dig (b / 16))).set (2 * k + 1) (dig (b % 16))) = hexs (xs.take (k + 1)) ++ O.drop (2 * (k + 1)) := by
  have hkx : k < xs.length := (List.getElem?_eq_some_iff.1 h).1
  have e1 : xs.take (k + 1) = xs.take k ++ [b] := by
    rw [List.take_succ_eq_append_getElem hkx]
    have : xs[k] = b := by rw [List.getElem?_eq_getElem hkx] at h; exact Option.some.inj h
    rw [this]
  have hl : (hexs (xs.take k)).length = 2 * k := by rw [hexs_length, List.length_take]; omega
  have e2 : O.drop (2 * k) = O[2 * k]'(by omega) :: O[2 * k + 1]'(by omega) :: O.drop (2 * (k + 1)) := by
    rw [List.drop_eq_getElem_cons (by omega), List.drop_eq_getElem_cons (by omega)]; rfl
  rw [e1, hexs_append, e2]
  rw [List.set_append_right _ _ (by omega), List.set_append_right _ _ (by omega), hl]
  simp [hexs]

/-- the encoder's struct: the writer, the error, the array -/
def eCells (wb : Nat) (ev : Value) (O : List Int) : List Value := .iface 42 (.pointer (some ⟨wb, 0, none⟩)) :: ev :: O.map (Value.int .u8)

set_option maxHeartbeats 1000000 in
theorem encode_any (wb eb : Nat) (ev : Value) (O xs : List Int) (ad : Addr) (n c : Nat) (w : World) (hE : Blk w eb (eCells wb ev O) 58) (hO : O.length = 1024) (hx : Rd w (some ad) (xs.map (Value.int .u8))) (hn : xs.length = n) (hn2 : n ≤ 512)
    (hb : ∀ x ∈ xs, 0 ≤ x ∧ x < 256) (hne : ad.block ≠ eb) :
    Calls Ybad.prog 37 #[.slice (some ⟨eb, 2, none⟩) 1024 1024, .slice (some ad) n c] w fun e w' => e = .returned (.int .i64 (2 * n : Nat)) ∧ Blk w' eb (eCells wb ev (hexs xs ++ O.drop (2 * n))) 58 ∧ But (fun k => k = eb) w w' := by
  go_enter Ybad.func37, Ybad.ntmps37
  go_wp2
  go_loopw [5, 10] (fun j i wr => ∃ k : Nat, k ≤ n ∧ j = .int .i64 ((2 * k : Nat) : Int) ∧ i = .int .i64 (k : Int) ∧ Blk wr eb (eCells wb ev (hexs (xs.take k) ++ O.drop (2 * k))) 58 ∧ But (fun k => k = eb) w wr) (fun _ i _ => n - (intOf i).toNat)
  case atStart => exact ⟨0, Nat.zero_le _, rfl, rfl, by simpa [hexs] using hE, But.refl _ _⟩
  case round =>
    obtain ⟨k, hk, rfl, rfl, hr, hs⟩ := hrel
    by_cases hlt : k < n
    · have hkx : k < xs.length := by omega
      obtain ⟨b, hbk⟩ : ∃ b, xs[k]? = some b := ⟨_, List.getElem?_eq_getElem hkx⟩
      have hbd := hb b (List.mem_of_getElem? hbk)
      obtain ⟨ad', ea, cx⟩ := (hx.but hs (fun a e => by cases e; exact hne)) k (.int .u8 b) (by simp [hbk])
      cases ea
      have f0 := hr.frozen (2 + 2 * k)
      have f1 := hr.frozen (2 + (2 * k + 1))
      have hL : (eCells wb ev (hexs (xs.take k) ++ O.drop (2 * k))).length = 1026 := by simp [eCells, hexs_length, hO]; omega
      obtain ⟨x0, c0⟩ : ∃ x, wr.cell? ⟨eb, 2 + 2 * k, none⟩ = some x := by rw [hr.cell']; exact ⟨_, List.getElem?_eq_getElem (by omega)⟩
      obtain ⟨x1, c1⟩ : ∃ x, wr.cell? ⟨eb, 2 + (2 * k + 1), none⟩ = some x := by rw [hr.cell']; exact ⟨_, List.getElem?_eq_getElem (by omega)⟩
      have HR : Hid (Blk ((wr.setCell ⟨eb, 2 + 2 * k, none⟩ (.int .u8 (dig (b / 16)))).setCell ⟨eb, 2 + (2 * k + 1), none⟩ (.int .u8 (dig (b % 16)))) eb (eCells wb ev (hexs (xs.take (k + 1)) ++ O.drop (2 * (k + 1)))) 58 ∧ But (fun k => k = eb) w ((wr.setCell ⟨eb, 2 + 2 * k, none⟩ (.int .u8 (dig (b / 16)))).setCell ⟨eb, 2 + (2 * k + 1), none⟩ (.int .u8 (dig (b % 16))))) := by
        refine ⟨?_, (hs.setCell (Or.inr rfl) _).setCell (Or.inr rfl) _⟩
        have := (hr.set (2 + 2 * k) (.int .u8 (dig (b / 16)))).set (2 + (2 * k + 1)) (.int .u8 (dig (b % 16)))
        rw [← hexs_step xs O k b hbk hO (by omega)]
        rw [show 2 + 2 * k = (2 * k) + 1 + 1 by omega, show 2 + (2 * k + 1) = (2 * k + 1) + 1 + 1 by omega] at this ⊢
        simpa [eCells, List.map_set] using this
      have d0 : 0 ≤ b / 16 := by omega
      have d1 : b / 16 < 16 := by omega
      have d2 : 0 ≤ b % 16 := by omega
      have d3 : b % 16 < 16 := by omega
      clear hr hs hL
      go_wp2
      go_roundw
      case rel =>
        rw [hexAt (b / 16) d0 d1, hexAt (b % 16) d2 d3]
        exact ⟨k + 1, by omega, by go_num, by go_num, HR.out.1, HR.out.2⟩
      case measure => simp [intOf]; omega
    · obtain rfl : k = n := by omega
      go_wp2
      go_ret
      refine ⟨?_, ?_, hs⟩
      · exact ret_int (by omega)
      · rw [List.take_of_length_le (Nat.le_of_eq hn)] at hr; exact hr

/-- (*bufio.Writer).Write, whatever the state -/
theorem bwrite_any (rb wb bb : Nat) (sa : Addr) (fail : Bool) (T B S : List Int) (er : Bool) (sv : Value) (xs : List Int) (ab ao m c : Nat) (w : World) (h : BW w rb wb bb sa fail B S er sv) (g : Good fail T B S er)
    (hx : Rd w (some ⟨ab, ao, none⟩) (xs.map (Value.int .u8))) (hm : xs.length = m) (h1 : 0 < m) (h2 : m ≤ 1024) (hc : m ≤ c) (hc2 : c ≤ 65536) (hap : ¬ Mine rb wb bb sv ab) (hT : T.length ≤ 9000000) :
    Calls Ybad.prog 35 #[.pointer (some ⟨wb, 0, none⟩), .slice (some ⟨ab, ao, none⟩) m c] w fun e w' => ∃ (nn : Int) (B' S' : List Int) (er' : Bool) (sv' : Value), 0 ≤ nn ∧ nn ≤ 1024 ∧ e = .returned (.tuple #[.int .i64 nn, errv sa er']) ∧
      BW w' rb wb bb sa fail B' S' er' sv' ∧ Good fail (T ++ xs) B' S' er' ∧ Step w w' rb wb bb sv sv' := by
  cases er with
  | false => exact write_any rb wb bb sa fail T B S sv xs ab ao m c w h g hx hm h1 h2 hc hc2 hap hT
  | true =>
    refine (write_err rb wb bb sa fail B S sv _ m c w h).mono ?_
    rintro e w' ⟨rfl, q, rfl⟩
    exact ⟨0, B, S, true, sv, by decide, by decide, rfl, h.drewN q, g.err xs, (Step.refl _ _ _ _ _).drewN q⟩

/-- the error is settled by what has been written in all -/
def erOf (fail : Bool) (T : List Int) : Bool := fail && decide (65536 < T.length)

theorem Good.er {w : World} {rb wb bb : Nat} {sa : Addr} {fail : Bool} {T B S : List Int} {er : Bool} {sv : Value} (h : BW w rb wb bb sa fail B S er sv) (g : Good fail T B S er) : er = erOf fail T := by
  rcases g with ⟨rfl, rfl, h3, _⟩ | ⟨rfl, h2, h3, _⟩
  · simp [erOf, h3]
  · cases fail with
    | false => rfl
    | true =>
      have := h3 rfl
      subst this
      have hl := h.len
      simp only [List.nil_append] at h2
      subst h2
      simp [erOf]; omega

theorem bwrite_t (rb wb bb : Nat) (sa : Addr) (fail : Bool) (T B S : List Int) (er : Bool) (sv : Value) (xs : List Int) (ab ao m c : Nat) (w : World) (h : BW w rb wb bb sa fail B S er sv) (g : Good fail T B S er)
    (hx : Rd w (some ⟨ab, ao, none⟩) (xs.map (Value.int .u8))) (hm : xs.length = m) (h1 : 0 < m) (h2 : m ≤ 1024) (hc : m ≤ c) (hc2 : c ≤ 65536) (hap : ¬ Mine rb wb bb sv ab) (hT : T.length ≤ 9000000) (hE : erOf fail (T ++ xs) = true) :
    Calls Ybad.prog 35 #[.pointer (some ⟨wb, 0, none⟩), .slice (some ⟨ab, ao, none⟩) m c] w fun e w' => ∃ (nn : Int) (B' S' : List Int) (sv' : Value), 0 ≤ nn ∧ nn ≤ 1024 ∧ e = .returned (.tuple #[.int .i64 nn, .iface 37 (.pointer (some sa))]) ∧
      BW w' rb wb bb sa fail B' S' true sv' ∧ Good fail (T ++ xs) B' S' true ∧ Step w w' rb wb bb sv sv' := by
  refine (bwrite_any rb wb bb sa fail T B S er sv xs ab ao m c w h g hx hm h1 h2 hc hc2 hap hT).mono ?_
  rintro e w' ⟨nn, B', S', er', sv', n0, n1, rfl, h3, g3, s3⟩
  have he := Good.er h3 g3
  rw [hE] at he
  subst he
  exact ⟨nn, B', S', sv', n0, n1, rfl, h3, g3, s3⟩

theorem bwrite_f (rb wb bb : Nat) (sa : Addr) (fail : Bool) (T B S : List Int) (er : Bool) (sv : Value) (xs : List Int) (ab ao m c : Nat) (w : World) (h : BW w rb wb bb sa fail B S er sv) (g : Good fail T B S er)
    (hx : Rd w (some ⟨ab, ao, none⟩) (xs.map (Value.int .u8))) (hm : xs.length = m) (h1 : 0 < m) (h2 : m ≤ 1024) (hc : m ≤ c) (hc2 : c ≤ 65536) (hap : ¬ Mine rb wb bb sv ab) (hT : T.length ≤ 9000000) (hE : erOf fail (T ++ xs) = false) :
    Calls Ybad.prog 35 #[.pointer (some ⟨wb, 0, none⟩), .slice (some ⟨ab, ao, none⟩) m c] w fun e w' => ∃ (nn : Int) (B' S' : List Int) (sv' : Value), 0 ≤ nn ∧ nn ≤ 1024 ∧ e = .returned (.tuple #[.int .i64 nn, .nilIface]) ∧
      BW w' rb wb bb sa fail B' S' false sv' ∧ Good fail (T ++ xs) B' S' false ∧ Step w w' rb wb bb sv sv' := by
  refine (bwrite_any rb wb bb sa fail T B S er sv xs ab ao m c w h g hx hm h1 h2 hc hc2 hap hT).mono ?_
  rintro e w' ⟨nn, B', S', er', sv', n0, n1, rfl, h3, g3, s3⟩
  have he := Good.er h3 g3
  rw [hE] at he
  subst he
  exact ⟨nn, B', S', sv', n0, n1, rfl, h3, g3, s3⟩

/-- the encoder's state beside the writer's -/
structure EW (w : World) (rb wb bb eb : Nat) (sa : Addr) (fail : Bool) (B S : List Int) (er : Bool) (sv : Value) (ee : Bool) : Prop where
  bw : BW w rb wb bb sa fail B S er sv
  e : ∃ O : List Int, O.length = 1024 ∧ Blk w eb (eCells wb (errv sa ee) O) 58
  m : ¬ Mine rb wb bb sv eb
  x : ee = true → er = true

/-- the blocks that the encoder's operation may write -/
structure Step2 (w w' : World) (rb wb bb eb : Nat) (sv sv' : Value) : Prop where
  b : But (fun k => Mine rb wb bb sv k ∨ k = eb) w w'
  v : sv'.ownBlock = sv.ownBlock ∨ ∃ g, sv'.ownBlock = some g ∧ w.heap.size ≤ g

theorem Step2.refl (w : World) (rb wb bb eb : Nat) (sv : Value) : Step2 w w rb wb bb eb sv sv := ⟨But.refl _ _, Or.inl rfl⟩
theorem Step.two {w w' : World} {rb wb bb : Nat} {sv sv' : Value} (h : Step w w' rb wb bb sv sv') (eb : Nat) : Step2 w w' rb wb bb eb sv sv' := ⟨h.b.mono (fun _ _ h => Or.inl h), h.v⟩
theorem Step2.of_e {w w' : World} (rb wb bb : Nat) {eb : Nat} (sv : Value) (h : But (fun k => k = eb) w w') : Step2 w w' rb wb bb eb sv sv := ⟨h.mono (fun _ _ h => Or.inr h), Or.inl rfl⟩

theorem Step2.trans {w w1 w2 : World} {rb wb bb eb : Nat} {sv sv1 sv2 : Value} (h : Step2 w w1 rb wb bb eb sv sv1) (k : Step2 w1 w2 rb wb bb eb sv1 sv2) : Step2 w w2 rb wb bb eb sv sv2 := by
  refine ⟨h.b.trans2 k.b ?_, ?_⟩
  · rintro i hi (hm | hm)
    · rcases hm with h1 | h1 | h1 | h1
      · exact Or.inl (Or.inl h1)
      · exact Or.inl (Or.inr (Or.inl h1))
      · exact Or.inl (Or.inr (Or.inr (Or.inl h1)))
      · rcases h.v with h2 | ⟨g, h2, h3⟩
        · exact Or.inl (Or.inr (Or.inr (Or.inr (h2 ▸ h1))))
        · rw [h2] at h1; cases h1; omega
    · exact Or.inr hm
  · rcases k.v with h2 | ⟨g, h2, h3⟩
    · rw [h2]; exact h.v
    · exact Or.inr ⟨g, h2, Nat.le_trans h.b.size h3⟩

theorem Step2.drewN {w w' : World} {rb wb bb eb : Nat} {sv sv' : Value} (h : Step2 w w' rb wb bb eb sv sv') (q : Nat) : Step2 w (w'.drewN q) rb wb bb eb sv sv' :=
  ⟨⟨h.b.os, h.b.tape, h.b.output, h.b.size, h.b.block⟩, h.v⟩

theorem BW.but_e {w w' : World} {rb wb bb eb : Nat} {sa : Addr} {fail : Bool} {B S : List Int} {er : Bool} {sv : Value} (h : BW w rb wb bb sa fail B S er sv) (hm : ¬ Mine rb wb bb sv eb) (P : But (fun k => k = eb) w w') : BW w' rb wb bb sa fail B S er sv := by
  refine ⟨h.hw.but P (fun e => hm (Or.inr (Or.inl e.symm))), ?_, h.sk.but P (fun e => hm (Or.inl e.symm)) (fun k hk e => hm (Or.inr (Or.inr (Or.inr (e ▸ hk))))), h.n1, h.n2, h.n3, h.n4, h.n5⟩
  obtain ⟨r, e1, e2⟩ := h.hb
  exact ⟨r, e1, e2.but P (fun e => hm (Or.inr (Or.inr (Or.inl e.symm))))⟩

theorem Step.noMine {w w' : World} {rb wb bb eb : Nat} {sv sv' : Value} (h : Step w w' rb wb bb sv sv') (hm : ¬ Mine rb wb bb sv eb) (hl : eb < w.heap.size) : ¬ Mine rb wb bb sv' eb := fun h1 => hm (h.mine eb hl h1)


theorem hex_end {w2 w3 : World} {rb wb bb eb : Nat} {sa : Addr} {fail : Bool} {B3 S3 O2 : List Int} {er3 : Bool} {sv' sv3 ev : Value} (E2 : Blk w2 eb (eCells wb ev O2) 58) (hO : O2.length = 1024) (h3 : BW w3 rb wb bb sa fail B3 S3 er3 sv3)
    (s3 : Step (w2.drewN 1) w3 rb wb bb sv' sv3) (hnm : ¬ Mine rb wb bb sv' eb) :
    EW (w3.setCell ⟨eb, 1, none⟩ (errv sa er3)) rb wb bb eb sa fail B3 S3 er3 sv3 er3 ∧ Step2 w2 (w3.setCell ⟨eb, 1, none⟩ (errv sa er3)) rb wb bb eb sv' sv3 := by
  have E2' : Blk (w2.drewN 1) eb (eCells wb ev O2) 58 := E2
  have E3 := E2'.but s3.b hnm
  have hm3 := s3.noMine hnm E2'.lt
  have P : But (fun k => k = eb) w3 (w3.setCell ⟨eb, 1, none⟩ (errv sa er3)) := (But.refl (fun k => k = eb) w3).setCell (p := ⟨eb, 1, none⟩) (Or.inr rfl) _
  refine ⟨⟨h3.but_e hm3 P, ⟨O2, hO, E3.set 1 (errv sa er3)⟩, hm3, fun h => h⟩, ?_⟩
  exact ((Step2.refl w2 rb wb bb eb sv').drewN 1).trans ((s3.two eb).trans (Step2.of_e rb wb bb sv3 P))

theorem slice_eq {a : Option Addr} {l l' c c' : Nat} (h1 : l = l') (h2 : c = c') : Value.slice a l c = .slice a l' c' := by rw [h1, h2]

theorem add_add' (a : Addr) (i j : Nat) : (a.add i).add j = a.add (i + j) := by
  unfold Addr.add
  by_cases hi : i = 0 <;> by_cases hj : j = 0 <;> simp [hi, hj, Nat.add_assoc]

theorem Rd.later {w : World} {ad : Addr} {xs : List Int} {k j : Nat} (h : Rd w (some ad) ((xs.drop k).map (Value.int .u8))) : Rd w (some (ad.add j)) ((xs.drop (k + j)).map (Value.int .u8)) := fun i u hu => by
  refine ⟨_, rfl, ?_⟩
  rw [add_add']
  have hu' : ((xs.drop k).map (Value.int .u8))[j + i]? = some u := by
    rw [← hu]; simp [Nat.add_assoc]
  obtain ⟨ad', e, hc⟩ := h _ u hu'
  cases e; exact hc

theorem hexs_take (xs : List Int) (k j : Nat) : hexs (xs.take k) ++ hexs ((xs.drop k).take j) = hexs (xs.take (k + j)) := by
  rw [← hexs_append, List.take_add]

set_option maxRecDepth 100000 in
set_option maxHeartbeats 4000000 in
theorem hexw_any (rb wb bb eb : Nat) (sa : Addr) (fail : Bool) (T B S : List Int) (er : Bool) (sv : Value) (ee : Bool) (xs : List Int) (ao : Option Addr) (n c : Nat) (w : World) (h : EW w rb wb bb eb sa fail B S er sv ee) (g : Good fail T B S er)
    (hx : Rd w ao (xs.map (Value.int .u8))) (hn : xs.length = n) (hn2 : n ≤ 1048576) (hc : n ≤ c) (hb : ∀ x ∈ xs, 0 ≤ x ∧ x < 256) (hap : ∀ ad, ao = some ad → ¬ Mine rb wb bb sv ad.block ∧ ad.block ≠ eb ∧ ad.block < w.heap.size) (hT : T.length + 2 * n ≤ 9000000) :
    Calls Ybad.prog 36 #[.pointer (some ⟨eb, 0, none⟩), .slice ao n c] w fun e w' => ∃ (v : Value) (B' S' : List Int) (er' : Bool) (sv' : Value) (ee' : Bool), e = .returned v ∧
      EW w' rb wb bb eb sa fail B' S' er' sv' ee' ∧ Good fail (T ++ hexs xs) B' S' er' ∧ Step2 w w' rb wb bb eb sv sv' := by
  have HH : Hid (EW w rb wb bb eb sa fail B S er sv ee ∧ Good fail T B S er ∧ Rd w ao (xs.map (Value.int .u8))) := ⟨h, g, hx⟩
  clear h g hx
  go_enter Ybad.func36, Ybad.ntmps36
  go_wp2
  go_loopg [1, 4] n (fun gk p s4 wr => ∃ (k : Nat) (aok : Option Addr) (nn : Int) (B' S' : List Int) (er' : Bool) (sv' : Value) (ee' : Bool), k ≤ n ∧ gk = n - k ∧ p = .slice aok (n - k) (c - k) ∧ s4 = .int .i64 nn ∧ 0 ≤ nn ∧ nn ≤ 512 * k ∧
      EW wr rb wb bb eb sa fail B' S' er' sv' ee' ∧ Good fail (T ++ hexs (xs.take k)) B' S' er' ∧ Step2 w wr rb wb bb eb sv sv' ∧ Rd w aok ((xs.drop k).map (Value.int .u8)) ∧ (∀ ad, aok = some ad → ¬ Mine rb wb bb sv ad.block ∧ ad.block ≠ eb ∧ ad.block < w.heap.size))
  case atStart => exact ⟨0, ao, 0, B, S, er, sv, ee, Nat.zero_le _, rfl, rfl, rfl, by decide, by decide, HH.out.1, by simpa [hexs] using HH.out.2.1, Step2.refl _ _ _ _ _ _, HH.out.2.2, hap⟩
  case round =>
    obtain ⟨k, aok, nn, B', S', er', sv', ee', hk, rfl, rfl, rfl, hn0, hn1, he, hg, hs, hr, ha⟩ := hrel
    obtain ⟨O, hO, hE⟩ := he.e
    have c1 := hE.cell (j := 1) rfl
    by_cases hgo : k < n ∧ ee' = false
    · obtain ⟨hkn, rfl⟩ := hgo
      simp only [errv, Bool.false_eq_true, if_false] at c1
      have HB : Hid (EW wr rb wb bb eb sa fail B' S' er' sv' false ∧ Good fail (T ++ hexs (xs.take k)) B' S' er' ∧ Step2 w wr rb wb bb eb sv sv' ∧ Rd w aok ((xs.drop k).map (Value.int .u8)) ∧ Blk wr eb (eCells wb (errv sa false) O) 58) := ⟨he, hg, hs, hr, hE⟩
      have t0 : (0 : Int) < ((n - k : Nat) : Int) := by omega
      clear he hg hs hr hE
      obtain ⟨ad, rfl⟩ : ∃ ad, aok = some ad := by
        obtain ⟨ad, e, _⟩ := HB.out.2.2.2.1 0 _ (List.getElem?_eq_getElem (by simp; omega))
        exact ⟨ad, e⟩
      by_cases hch : n - k < 512
      · have t1 : ((n - k : Nat) : Int) < 512 := by omega
        have hj1 : 0 < (n - k) := by omega
        have hj2 : (n - k) ≤ 512 := by omega
        have hj3 : (n - k) ≤ n - k := by omega
        have hj4 : (n - k) ≤ c - k := by omega
        have i0 : (0 : Int) ≤ ((n - k : Nat) : Int) := by omega
        have i1 : ((n - k : Nat) : Int) ≤ ((c - k : Nat) : Int) := by omega
        have i2 : ((n - k : Nat) : Int) ≤ ((n - k : Nat) : Int) := by omega
        have i3 : 2 * ((n - k : Nat) : Int) ≤ (1024 : Int) := by omega
        have i4 : (0 : Int) ≤ 2 * ((n - k : Nat) : Int) := by omega
        have i5 : (2 * ((n - k : Nat) : Int)).toNat = 2 * (n - k) := by omega
        have hcl : ((xs.drop k).take (n - k)).length = (n - k) := by rw [List.length_take, List.length_drop, hn]; omega
        have hrd : Rd wr (some ad) (((xs.drop k).take (n - k)).map (Value.int .u8)) := by
          refine (Rd.but (fun i u hu => ?_) HB.out.2.2.1.b (fun a e => ?_) : Rd wr (some ad) _)
          · rw [List.map_take, List.getElem?_take] at hu
            split at hu
            · exact HB.out.2.2.2.1 i u hu
            · cases hu
          · cases e; rintro (hm | hm)
            · exact (ha ad rfl).1 hm
            · exact (ha ad rfl).2.1 hm
        have hbx : ∀ x ∈ (xs.drop k).take (n - k), 0 ≤ x ∧ x < 256 := fun x hx => hb x (List.mem_of_mem_drop (List.mem_of_mem_take hx))
        have HR := hide hrd
        have hne : ad.block ≠ eb := (ha ad rfl).2.1
        clear hrd
        go_wp2_with fail
        go_region_held3 (fun w' => True) (trivial)
          (first | (go_at_call 37; refine (encode_any wb eb (errv sa false) O ((xs.drop k).take (n - k)) ad (n - k) (c - k) _ (by exact HB.out.2.2.2.2) hO (by exact HR.out) hcl hj2 hbx hne).mono ?_; rintro e w2 ⟨rfl, E2, P2⟩))
        go_wp2_with fail
        have E2k := E2
        have B2 : BW w2 rb wb bb sa fail B' S' er' sv' := (HB.out.1.bw.drewN 1).but_e HB.out.1.m P2
        have hhl : (hexs ((xs.drop k).take (n - k))).length = 2 * (n - k) := by rw [hexs_length, hcl]
        have R2 : Rd w2 (some ⟨eb, 2, none⟩) ((hexs ((xs.drop k).take (n - k))).map (Value.int .u8)) := by
          have := Rd.of_blk E2 2 (2 * (n - k))
          simpa [eCells, List.map_append, ← hhl] using this
        have x0 := E2.cell (j := 0) rfl
        have x1 := E2.cell (j := 1) rfl
        have xf := E2.frozen 1
        have H2 : Hid (BW w2 rb wb bb sa fail B' S' er' sv' ∧ Rd w2 (some ⟨eb, 2, none⟩) ((hexs ((xs.drop k).take (n - k))).map (Value.int .u8)) ∧ Blk w2 eb (eCells wb (errv sa false) (hexs ((xs.drop k).take (n - k)) ++ O.drop (2 * (n - k)))) 58 ∧ Step2 wr w2 rb wb bb eb sv' sv') :=
          ⟨B2, R2, E2, ((Step2.refl wr rb wb bb eb sv').drewN 1).trans (Step2.of_e rb wb bb sv' P2)⟩
        have hT2 : (T ++ hexs (xs.take k)).length ≤ 9000000 := by simp [hexs_length]; omega
        have hnm : ¬ Mine rb wb bb sv' eb := HB.out.1.m
        have heb : eb < w2.heap.size := E2.lt
        clear E2 E2k B2 R2 P2
        cases hE : erOf fail (T ++ hexs (xs.take k) ++ hexs ((xs.drop k).take (n - k))) with
        | true =>
          have HE : Hid (erOf fail (T ++ hexs (xs.take k) ++ hexs ((xs.drop k).take (n - k))) = true) := hE
          clear hE
          go_region_held3 (fun w' => w'.cell? ⟨eb, 0, none⟩ = some (.iface 42 (.pointer (some ⟨wb, 0, none⟩)))) (simp [*, go_sem, World.cell?_alloc_some, World.cell?_setCell_far])
            (first | (go_at_call 35; refine (bwrite_t rb wb bb sa fail (T ++ hexs (xs.take k)) B' S' er' sv' (hexs ((xs.drop k).take (n - k))) eb 2 (2 * (n - k)) 1024 _ (by exact H2.out.1.drewN 1) HB.out.2.1 (by exact H2.out.2.1) hhl (by omega) (by omega) (by omega) (by omega) hnm hT2 HE.out).mono ?_; rintro e w3 ⟨n3, B3, S3, sv3, n30, n31, rfl, h3, g3, s3⟩; have y0 := s3.b.cell (p := ⟨eb, 0, none⟩) hnm x0; have y1 := s3.b.cell (p := ⟨eb, 1, none⟩) hnm x1; have yf : w3.frozen? ⟨eb, 1, none⟩ = false := ((show Blk w2.drew eb _ 58 from H2.out.2.2.1).but s3.b hnm).frozen 1; have H3 := hide (And.intro h3 (And.intro g3 s3)); clear h3 g3 s3))
          have X := hex_end (er3 := true) H2.out.2.2.1 (by have g1 := hhl; have g2 := hO; rw [List.length_append, List.length_drop]; omega) H3.out.1 H3.out.2.2 hnm
          have HX : Hid (EW (w3.setCell ⟨eb, 1, none⟩ (errv sa true)) rb wb bb eb sa fail B3 S3 true sv3 true ∧ Good fail (T ++ hexs (xs.take (k + (n - k)))) B3 S3 true ∧ Step2 w (w3.setCell ⟨eb, 1, none⟩ (errv sa true)) rb wb bb eb sv sv3) :=
            ⟨X.1, by have := H3.out.2.1; rwa [List.append_assoc, hexs_take] at this, HB.out.2.2.1.trans (H2.out.2.2.2.trans X.2)⟩
          clear X
          go_wp2_with fail
          · have hce : c - k = (n - k) := by assumption
            go_roundg (n - (k + (n - k)))
            case measure => omega
            case rel =>
              refine ⟨k + (n - k), some ad, nn + n3 / 2, B3, S3, true, sv3, true, by omega, rfl, slice_eq (by omega) (by omega), rfl, by omega, by omega, HX.out.1, HX.out.2.1, HX.out.2.2, ?_, ha⟩
              rw [List.drop_eq_nil_of_le (by omega)]; exact Rd.nil _ _
          · go_roundg (n - (k + (n - k)))
            case measure => omega
            case rel =>
              refine ⟨k + (n - k), some (ad.add (n - k)), nn + n3 / 2, B3, S3, true, sv3, true, by omega, rfl, slice_eq (by omega) (by omega), rfl, by omega, by omega, HX.out.1, HX.out.2.1, HX.out.2.2, HB.out.2.2.2.1.later, fun a e => ?_⟩
              cases e; rw [addr_block]; exact ha ad rfl
        | false =>
          have HE : Hid (erOf fail (T ++ hexs (xs.take k) ++ hexs ((xs.drop k).take (n - k))) = false) := hE
          clear hE
          go_region_held3 (fun w' => w'.cell? ⟨eb, 0, none⟩ = some (.iface 42 (.pointer (some ⟨wb, 0, none⟩)))) (simp [*, go_sem, World.cell?_alloc_some, World.cell?_setCell_far])
            (first | (go_at_call 35; refine (bwrite_f rb wb bb sa fail (T ++ hexs (xs.take k)) B' S' er' sv' (hexs ((xs.drop k).take (n - k))) eb 2 (2 * (n - k)) 1024 _ (by exact H2.out.1.drewN 1) HB.out.2.1 (by exact H2.out.2.1) hhl (by omega) (by omega) (by omega) (by omega) hnm hT2 HE.out).mono ?_; rintro e w3 ⟨n3, B3, S3, sv3, n30, n31, rfl, h3, g3, s3⟩; have y0 := s3.b.cell (p := ⟨eb, 0, none⟩) hnm x0; have y1 := s3.b.cell (p := ⟨eb, 1, none⟩) hnm x1; have yf : w3.frozen? ⟨eb, 1, none⟩ = false := ((show Blk w2.drew eb _ 58 from H2.out.2.2.1).but s3.b hnm).frozen 1; have H3 := hide (And.intro h3 (And.intro g3 s3)); clear h3 g3 s3))
          have X := hex_end (er3 := false) H2.out.2.2.1 (by have g1 := hhl; have g2 := hO; rw [List.length_append, List.length_drop]; omega) H3.out.1 H3.out.2.2 hnm
          have HX : Hid (EW (w3.setCell ⟨eb, 1, none⟩ (errv sa false)) rb wb bb eb sa fail B3 S3 false sv3 false ∧ Good fail (T ++ hexs (xs.take (k + (n - k)))) B3 S3 false ∧ Step2 w (w3.setCell ⟨eb, 1, none⟩ (errv sa false)) rb wb bb eb sv sv3) :=
            ⟨X.1, by have := H3.out.2.1; rwa [List.append_assoc, hexs_take] at this, HB.out.2.2.1.trans (H2.out.2.2.2.trans X.2)⟩
          clear X
          go_wp2_with fail
          · have hce : c - k = (n - k) := by assumption
            go_roundg (n - (k + (n - k)))
            case measure => omega
            case rel =>
              refine ⟨k + (n - k), some ad, nn + n3 / 2, B3, S3, false, sv3, false, by omega, rfl, slice_eq (by omega) (by omega), rfl, by omega, by omega, HX.out.1, HX.out.2.1, HX.out.2.2, ?_, ha⟩
              rw [List.drop_eq_nil_of_le (by omega)]; exact Rd.nil _ _
          · go_roundg (n - (k + (n - k)))
            case measure => omega
            case rel =>
              refine ⟨k + (n - k), some (ad.add (n - k)), nn + n3 / 2, B3, S3, false, sv3, false, by omega, rfl, slice_eq (by omega) (by omega), rfl, by omega, by omega, HX.out.1, HX.out.2.1, HX.out.2.2, HB.out.2.2.2.1.later, fun a e => ?_⟩
              cases e; rw [addr_block]; exact ha ad rfl
      · have t1 : ¬ ((n - k : Nat) : Int) < 512 := by omega
        have hj1 : 0 < 512 := by omega
        have hj2 : 512 ≤ 512 := by omega
        have hj3 : 512 ≤ n - k := by omega
        have hj4 : 512 ≤ c - k := by omega
        have i0 : (0 : Int) ≤ (512 : Int) := by omega
        have i1 : (512 : Int) ≤ ((c - k : Nat) : Int) := by omega
        have i2 : (512 : Int) ≤ ((n - k : Nat) : Int) := by omega
        have i3 : 2 * (512 : Int) ≤ (1024 : Int) := by omega
        have i4 : (0 : Int) ≤ 2 * (512 : Int) := by omega
        have i5 : (2 * (512 : Int)).toNat = 2 * 512 := by omega
        have hcl : ((xs.drop k).take 512).length = 512 := by rw [List.length_take, List.length_drop, hn]; omega
        have hrd : Rd wr (some ad) (((xs.drop k).take 512).map (Value.int .u8)) := by
          refine (Rd.but (fun i u hu => ?_) HB.out.2.2.1.b (fun a e => ?_) : Rd wr (some ad) _)
          · rw [List.map_take, List.getElem?_take] at hu
            split at hu
            · exact HB.out.2.2.2.1 i u hu
            · cases hu
          · cases e; rintro (hm | hm)
            · exact (ha ad rfl).1 hm
            · exact (ha ad rfl).2.1 hm
        have hbx : ∀ x ∈ (xs.drop k).take 512, 0 ≤ x ∧ x < 256 := fun x hx => hb x (List.mem_of_mem_drop (List.mem_of_mem_take hx))
        have HR := hide hrd
        have hne : ad.block ≠ eb := (ha ad rfl).2.1
        clear hrd
        go_wp2_with fail
        go_region_held3 (fun w' => True) (trivial)
          (first | (go_at_call 37; refine (encode_any wb eb (errv sa false) O ((xs.drop k).take 512) ad 512 (c - k) _ (by exact HB.out.2.2.2.2) hO (by exact HR.out) hcl hj2 hbx hne).mono ?_; rintro e w2 ⟨rfl, E2, P2⟩))
        go_wp2_with fail
        have E2k := E2
        have B2 : BW w2 rb wb bb sa fail B' S' er' sv' := (HB.out.1.bw.drewN 1).but_e HB.out.1.m P2
        have hhl : (hexs ((xs.drop k).take 512)).length = 2 * 512 := by rw [hexs_length, hcl]
        have R2 : Rd w2 (some ⟨eb, 2, none⟩) ((hexs ((xs.drop k).take 512)).map (Value.int .u8)) := by
          have := Rd.of_blk E2 2 (2 * 512)
          simpa [eCells, List.map_append, ← hhl] using this
        have x0 := E2.cell (j := 0) rfl
        have x1 := E2.cell (j := 1) rfl
        have xf := E2.frozen 1
        have H2 : Hid (BW w2 rb wb bb sa fail B' S' er' sv' ∧ Rd w2 (some ⟨eb, 2, none⟩) ((hexs ((xs.drop k).take 512)).map (Value.int .u8)) ∧ Blk w2 eb (eCells wb (errv sa false) (hexs ((xs.drop k).take 512) ++ O.drop (2 * 512))) 58 ∧ Step2 wr w2 rb wb bb eb sv' sv') :=
          ⟨B2, R2, E2, ((Step2.refl wr rb wb bb eb sv').drewN 1).trans (Step2.of_e rb wb bb sv' P2)⟩
        have hT2 : (T ++ hexs (xs.take k)).length ≤ 9000000 := by simp [hexs_length]; omega
        have hnm : ¬ Mine rb wb bb sv' eb := HB.out.1.m
        have heb : eb < w2.heap.size := E2.lt
        clear E2 E2k B2 R2 P2
        cases hE : erOf fail (T ++ hexs (xs.take k) ++ hexs ((xs.drop k).take 512)) with
        | true =>
          have HE : Hid (erOf fail (T ++ hexs (xs.take k) ++ hexs ((xs.drop k).take 512)) = true) := hE
          clear hE
          go_region_held3 (fun w' => w'.cell? ⟨eb, 0, none⟩ = some (.iface 42 (.pointer (some ⟨wb, 0, none⟩)))) (simp [*, go_sem, World.cell?_alloc_some, World.cell?_setCell_far])
            (first | (go_at_call 35; refine (bwrite_t rb wb bb sa fail (T ++ hexs (xs.take k)) B' S' er' sv' (hexs ((xs.drop k).take 512)) eb 2 (2 * 512) 1024 _ (by exact H2.out.1.drewN 1) HB.out.2.1 (by exact H2.out.2.1) hhl (by omega) (by omega) (by omega) (by omega) hnm hT2 HE.out).mono ?_; rintro e w3 ⟨n3, B3, S3, sv3, n30, n31, rfl, h3, g3, s3⟩; have y0 := s3.b.cell (p := ⟨eb, 0, none⟩) hnm x0; have y1 := s3.b.cell (p := ⟨eb, 1, none⟩) hnm x1; have yf : w3.frozen? ⟨eb, 1, none⟩ = false := ((show Blk w2.drew eb _ 58 from H2.out.2.2.1).but s3.b hnm).frozen 1; have H3 := hide (And.intro h3 (And.intro g3 s3)); clear h3 g3 s3))
          have X := hex_end (er3 := true) H2.out.2.2.1 (by have g1 := hhl; have g2 := hO; rw [List.length_append, List.length_drop]; omega) H3.out.1 H3.out.2.2 hnm
          have HX : Hid (EW (w3.setCell ⟨eb, 1, none⟩ (errv sa true)) rb wb bb eb sa fail B3 S3 true sv3 true ∧ Good fail (T ++ hexs (xs.take (k + 512))) B3 S3 true ∧ Step2 w (w3.setCell ⟨eb, 1, none⟩ (errv sa true)) rb wb bb eb sv sv3) :=
            ⟨X.1, by have := H3.out.2.1; rwa [List.append_assoc, hexs_take] at this, HB.out.2.2.1.trans (H2.out.2.2.2.trans X.2)⟩
          clear X
          go_wp2_with fail
          · have hce : c - k = 512 := by assumption
            go_roundg (n - (k + 512))
            case measure => omega
            case rel =>
              refine ⟨k + 512, some ad, nn + n3 / 2, B3, S3, true, sv3, true, by omega, rfl, slice_eq (by omega) (by omega), rfl, by omega, by omega, HX.out.1, HX.out.2.1, HX.out.2.2, ?_, ha⟩
              rw [List.drop_eq_nil_of_le (by omega)]; exact Rd.nil _ _
          · go_roundg (n - (k + 512))
            case measure => omega
            case rel =>
              refine ⟨k + 512, some (ad.add 512), nn + n3 / 2, B3, S3, true, sv3, true, by omega, rfl, slice_eq (by omega) (by omega), rfl, by omega, by omega, HX.out.1, HX.out.2.1, HX.out.2.2, HB.out.2.2.2.1.later, fun a e => ?_⟩
              cases e; rw [addr_block]; exact ha ad rfl
        | false =>
          have HE : Hid (erOf fail (T ++ hexs (xs.take k) ++ hexs ((xs.drop k).take 512)) = false) := hE
          clear hE
          go_region_held3 (fun w' => w'.cell? ⟨eb, 0, none⟩ = some (.iface 42 (.pointer (some ⟨wb, 0, none⟩)))) (simp [*, go_sem, World.cell?_alloc_some, World.cell?_setCell_far])
            (first | (go_at_call 35; refine (bwrite_f rb wb bb sa fail (T ++ hexs (xs.take k)) B' S' er' sv' (hexs ((xs.drop k).take 512)) eb 2 (2 * 512) 1024 _ (by exact H2.out.1.drewN 1) HB.out.2.1 (by exact H2.out.2.1) hhl (by omega) (by omega) (by omega) (by omega) hnm hT2 HE.out).mono ?_; rintro e w3 ⟨n3, B3, S3, sv3, n30, n31, rfl, h3, g3, s3⟩; have y0 := s3.b.cell (p := ⟨eb, 0, none⟩) hnm x0; have y1 := s3.b.cell (p := ⟨eb, 1, none⟩) hnm x1; have yf : w3.frozen? ⟨eb, 1, none⟩ = false := ((show Blk w2.drew eb _ 58 from H2.out.2.2.1).but s3.b hnm).frozen 1; have H3 := hide (And.intro h3 (And.intro g3 s3)); clear h3 g3 s3))
          have X := hex_end (er3 := false) H2.out.2.2.1 (by have g1 := hhl; have g2 := hO; rw [List.length_append, List.length_drop]; omega) H3.out.1 H3.out.2.2 hnm
          have HX : Hid (EW (w3.setCell ⟨eb, 1, none⟩ (errv sa false)) rb wb bb eb sa fail B3 S3 false sv3 false ∧ Good fail (T ++ hexs (xs.take (k + 512))) B3 S3 false ∧ Step2 w (w3.setCell ⟨eb, 1, none⟩ (errv sa false)) rb wb bb eb sv sv3) :=
            ⟨X.1, by have := H3.out.2.1; rwa [List.append_assoc, hexs_take] at this, HB.out.2.2.1.trans (H2.out.2.2.2.trans X.2)⟩
          clear X
          go_wp2_with fail
          · have hce : c - k = 512 := by assumption
            go_roundg (n - (k + 512))
            case measure => omega
            case rel =>
              refine ⟨k + 512, some ad, nn + n3 / 2, B3, S3, false, sv3, false, by omega, rfl, slice_eq (by omega) (by omega), rfl, by omega, by omega, HX.out.1, HX.out.2.1, HX.out.2.2, ?_, ha⟩
              rw [List.drop_eq_nil_of_le (by omega)]; exact Rd.nil _ _
          · go_roundg (n - (k + 512))
            case measure => omega
            case rel =>
              refine ⟨k + 512, some (ad.add 512), nn + n3 / 2, B3, S3, false, sv3, false, by omega, rfl, slice_eq (by omega) (by omega), rfl, by omega, by omega, HX.out.1, HX.out.2.1, HX.out.2.2, HB.out.2.2.2.1.later, fun a e => ?_⟩
              cases e; rw [addr_block]; exact ha ad rfl
    · have HB : Hid (EW wr rb wb bb eb sa fail B' S' er' sv' ee' ∧ Good fail (T ++ hexs xs) B' S' er' ∧ Step2 w wr rb wb bb eb sv sv') := by
        refine ⟨he, ?_, hs⟩
        by_cases hkn : k < n
        · have hee : ee' = true := by cases ee' with | true => rfl | false => exact absurd ⟨hkn, rfl⟩ hgo
          have her := he.x hee
          subst her
          have := hg.err (hexs (xs.drop k))
          rwa [List.append_assoc, ← hexs_append, List.take_append_drop] at this
        · rw [List.take_of_length_le (by omega)] at hg; exact hg
      clear he hg hs hr hE
      by_cases hkn : k < n
      · obtain rfl : ee' = true := by cases ee' with | true => rfl | false => exact absurd ⟨hkn, rfl⟩ hgo
        simp only [errv, if_true] at c1
        have t0 : (0 : Int) < ((n - k : Nat) : Int) := by omega
        clear hgo
        go_wp2_with fail
        go_quiet (fail)
        go_wp2
        go_ret2
        exact ⟨_, B', S', er', sv', true, rfl, ⟨HB.out.1.bw.drewN _, HB.out.1.e, HB.out.1.m, HB.out.1.x⟩, HB.out.2.1, HB.out.2.2.drewN _⟩
      · have t0 : ¬ (0 : Int) < ((n - k : Nat) : Int) := by omega
        clear hgo
        go_wp2_with fail
        go_quiet (fail)
        go_wp2
        go_ret2
        exact ⟨_, B', S', er', sv', ee', rfl, ⟨HB.out.1.bw.drewN _, HB.out.1.e, HB.out.1.m, HB.out.1.x⟩, HB.out.2.1, HB.out.2.2.drewN _⟩

end Go.Proofs.YbulkeekaDoor
