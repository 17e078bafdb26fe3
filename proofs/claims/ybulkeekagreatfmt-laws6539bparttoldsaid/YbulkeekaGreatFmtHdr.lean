/-
  THE WALK of (pageHeader).encode.
-/
import Derived.Test.YbulkeekaGreatFmtPut
import Derived.Deep.DeepCutAuto
namespace Go.Proofs.YbulkeekaGreatFmt
open Go.RowKit
set_option linter.unusedSimpArgs false
set_option linter.unusedVariables false

theorem hide {p : Prop} (h : p) : Hid p := h

/-- the header's sixteen bytes -/
def hdr (L : List Nat) (id fl ct ov : Nat) : List Nat := put (put (put (put L 0 (le 8 id)) 8 (le 2 fl)) 10 (le 2 ct)) 12 (le 4 ov)

set_option maxRecDepth 100000 in
set_option maxHeartbeats 4000000 in
theorem hdr_any {w : World} {g : Nat} {L : List Nat} (h : Blk w g (u8s L) 5) (id fl ct ov : Nat) (h1 : id < 18446744073709551616) (h2 : fl < 65536) (h3 : ct < 65536) (h4 : ov < 4294967296) (hl : 16 ≤ L.length) (hL : L.length ≤ 9000000) :
    Calls Ybaz.prog 63 #[.agg #[.int .u64 id, .int .u16 fl, .int .u16 ct, .int .u32 ov], .slice (some ⟨g, 0, none⟩) L.length L.length] w fun e w' => e = .returned (.tuple #[]) ∧ Blk w' g (u8s (hdr L id fl ct ov)) 5 ∧ But (fun k => k = g) w w' := by
  have hg := h.lt
  have HB : Hid (Blk (w.alloc (.cells #[.int .u64 id, .int .u16 fl, .int .u16 ct, .int .u32 ov] 134)) g (u8s L) 5) := h.alloc _
  have HP : Hid (But (fun k => k = g) w (w.alloc (.cells #[.int .u64 id, .int .u16 fl, .int .u16 ct, .int .u32 ov] 134))) := (But.refl _ w).alloc _
  have HH : Hid (Blk (w.alloc (.cells #[.int .u64 id, .int .u16 fl, .int .u16 ct, .int .u32 ov] 134)) w.heap.size [.int .u64 id, .int .u16 fl, .int .u16 ct, .int .u32 ov] 134) := Blk.new w [.int .u64 id, .int .u16 fl, .int .u16 ct, .int .u32 ov] 134
  clear h
  go_enter Ybaz.func63, Ybaz.ntmps63
  go_upto_region 1 with (fail)
  generalize hw1 : w.alloc (.cells #[.int .u64 id, .int .u16 fl, .int .u16 ct, .int .u32 ov] 134) = w1 at *
  generalize hhb : w.heap.size = hb at *
  have hne : hb ≠ g := by omega
  clear hw1 hhb hg
  have e8 : (8 : Int) ≤ (L.length : Int) := by omega
  have e10 : (10 : Int) ≤ (L.length : Int) := by omega
  have e12 : (12 : Int) ≤ (L.length : Int) := by omega
  have e16 : (16 : Int) ≤ (L.length : Int) := by omega
  have n8 : ¬ L.length = 8 := by omega
  have n10 : ¬ L.length = 10 := by omega
  have n12 : ¬ L.length = 12 := by omega
  have HB1 := HB
  have HH1 := HH
  have d0 := HH1.out.cell (j := 0) rfl
  have d1 := HH1.out.cell (j := 1) rfl
  have d2 := HH1.out.cell (j := 2) rfl
  have d3 := HH1.out.cell (j := 3) rfl
  have C1 : Hid (Calls Ybaz.prog 59 #[.agg #[], .slice (some ⟨g, 0, none⟩) 8 (L.length - 0), .int .u64 id] w1.drew fun e w' => e = .returned (.tuple #[]) ∧ (w'.cell? ⟨hb, 0, none⟩ = some (.int .u64 id) ∧ w'.cell? ⟨hb, 1, none⟩ = some (.int .u16 fl) ∧ w'.cell? ⟨hb, 2, none⟩ = some (.int .u16 ct) ∧ w'.cell? ⟨hb, 3, none⟩ = some (.int .u32 ov)) ∧
      Hid (Blk w' g (u8s (put L 0 (le 8 id))) 5 ∧ But (fun k => k = g) w1 w' ∧ Blk w' hb [.int .u64 id, .int .u16 fl, .int .u16 ct, .int .u32 ov] 134)) := by
    refine (put64_any (w := w1.drew) (L := L) HB1.out 0 8 (L.length - 0) id (by omega) (by omega) (by omega)).mono ?_
    rintro e w' ⟨rfl, B, P⟩
    have H' : Blk w' hb [.int .u64 id, .int .u16 fl, .int .u16 ct, .int .u32 ov] 134 := HH1.out.drew.but P hne
    exact ⟨rfl, ⟨H'.cell (j := 0) rfl, H'.cell (j := 1) rfl, H'.cell (j := 2) rfl, H'.cell (j := 3) rfl⟩, B, ((But.refl (fun k => k = g) w1).drew).trans P, H'⟩
  go_region_held3 (fun w' => w'.cell? ⟨hb, 0, none⟩ = some (.int .u64 id) ∧ w'.cell? ⟨hb, 1, none⟩ = some (.int .u16 fl) ∧ w'.cell? ⟨hb, 2, none⟩ = some (.int .u16 ct) ∧ w'.cell? ⟨hb, 3, none⟩ = some (.int .u32 ov)) (go_keep) ((go_at_call 59; refine C1.out.mono ?_; rintro e w2 ⟨rfl, ⟨k0, k1, k2, k3⟩, HQ1⟩))
  have HB2 : Hid (Blk w2 g (u8s (put L 0 (le 8 id))) 5) := HQ1.out.1
  have HH2 : Hid (Blk w2 hb [.int .u64 id, .int .u16 fl, .int .u16 ct, .int .u32 ov] 134) := HQ1.out.2.2
  clear d0 d1 d2 d3 k0 k1 k2 k3 C1
  go_upto_region 2 with (fail)
  have d0 := HH2.out.cell (j := 0) rfl
  have d1 := HH2.out.cell (j := 1) rfl
  have d2 := HH2.out.cell (j := 2) rfl
  have d3 := HH2.out.cell (j := 3) rfl
  have C2 : Hid (Calls Ybaz.prog 94 #[.agg #[], .slice (some ⟨g, 8, none⟩) 2 (L.length - 8), .int .u16 fl] w2.drew fun e w' => e = .returned (.tuple #[]) ∧ (w'.cell? ⟨hb, 0, none⟩ = some (.int .u64 id) ∧ w'.cell? ⟨hb, 1, none⟩ = some (.int .u16 fl) ∧ w'.cell? ⟨hb, 2, none⟩ = some (.int .u16 ct) ∧ w'.cell? ⟨hb, 3, none⟩ = some (.int .u32 ov)) ∧
      Hid (Blk w' g (u8s (put (put L 0 (le 8 id)) 8 (le 2 fl))) 5 ∧ But (fun k => k = g) w2 w' ∧ Blk w' hb [.int .u64 id, .int .u16 fl, .int .u16 ct, .int .u32 ov] 134)) := by
    refine (put16_any (w := w2.drew) (L := put L 0 (le 8 id)) HB2.out 8 2 (L.length - 8) fl (by omega) (by omega) (by rw [put_length _ _ _ (by rw [le_length]; omega)]; omega)).mono ?_
    rintro e w' ⟨rfl, B, P⟩
    have H' : Blk w' hb [.int .u64 id, .int .u16 fl, .int .u16 ct, .int .u32 ov] 134 := HH2.out.drew.but P hne
    exact ⟨rfl, ⟨H'.cell (j := 0) rfl, H'.cell (j := 1) rfl, H'.cell (j := 2) rfl, H'.cell (j := 3) rfl⟩, B, ((But.refl (fun k => k = g) w2).drew).trans P, H'⟩
  go_region_held3 (fun w' => w'.cell? ⟨hb, 0, none⟩ = some (.int .u64 id) ∧ w'.cell? ⟨hb, 1, none⟩ = some (.int .u16 fl) ∧ w'.cell? ⟨hb, 2, none⟩ = some (.int .u16 ct) ∧ w'.cell? ⟨hb, 3, none⟩ = some (.int .u32 ov)) (go_keep) ((go_at_call 94; refine C2.out.mono ?_; rintro e w3 ⟨rfl, ⟨k0, k1, k2, k3⟩, HQ2⟩))
  have HB3 : Hid (Blk w3 g (u8s (put (put L 0 (le 8 id)) 8 (le 2 fl))) 5) := HQ2.out.1
  have HH3 : Hid (Blk w3 hb [.int .u64 id, .int .u16 fl, .int .u16 ct, .int .u32 ov] 134) := HQ2.out.2.2
  clear d0 d1 d2 d3 k0 k1 k2 k3 C2
  go_upto_region 3 with (fail)
  have d0 := HH3.out.cell (j := 0) rfl
  have d1 := HH3.out.cell (j := 1) rfl
  have d2 := HH3.out.cell (j := 2) rfl
  have d3 := HH3.out.cell (j := 3) rfl
  have C3 : Hid (Calls Ybaz.prog 94 #[.agg #[], .slice (some ⟨g, 10, none⟩) 2 (L.length - 10), .int .u16 ct] w3.drew fun e w' => e = .returned (.tuple #[]) ∧ (w'.cell? ⟨hb, 0, none⟩ = some (.int .u64 id) ∧ w'.cell? ⟨hb, 1, none⟩ = some (.int .u16 fl) ∧ w'.cell? ⟨hb, 2, none⟩ = some (.int .u16 ct) ∧ w'.cell? ⟨hb, 3, none⟩ = some (.int .u32 ov)) ∧
      Hid (Blk w' g (u8s (put (put (put L 0 (le 8 id)) 8 (le 2 fl)) 10 (le 2 ct))) 5 ∧ But (fun k => k = g) w3 w' ∧ Blk w' hb [.int .u64 id, .int .u16 fl, .int .u16 ct, .int .u32 ov] 134)) := by
    refine (put16_any (w := w3.drew) (L := put (put L 0 (le 8 id)) 8 (le 2 fl)) HB3.out 10 2 (L.length - 10) ct (by omega) (by omega) (by rw [put_length _ _ _ (by rw [le_length, put_length _ _ _ (by rw [le_length]; omega)]; omega), put_length _ _ _ (by rw [le_length]; omega)]; omega)).mono ?_
    rintro e w' ⟨rfl, B, P⟩
    have H' : Blk w' hb [.int .u64 id, .int .u16 fl, .int .u16 ct, .int .u32 ov] 134 := HH3.out.drew.but P hne
    exact ⟨rfl, ⟨H'.cell (j := 0) rfl, H'.cell (j := 1) rfl, H'.cell (j := 2) rfl, H'.cell (j := 3) rfl⟩, B, ((But.refl (fun k => k = g) w3).drew).trans P, H'⟩
  go_region_held3 (fun w' => w'.cell? ⟨hb, 0, none⟩ = some (.int .u64 id) ∧ w'.cell? ⟨hb, 1, none⟩ = some (.int .u16 fl) ∧ w'.cell? ⟨hb, 2, none⟩ = some (.int .u16 ct) ∧ w'.cell? ⟨hb, 3, none⟩ = some (.int .u32 ov)) (go_keep) ((go_at_call 94; refine C3.out.mono ?_; rintro e w4 ⟨rfl, ⟨k0, k1, k2, k3⟩, HQ3⟩))
  have HB4 : Hid (Blk w4 g (u8s (put (put (put L 0 (le 8 id)) 8 (le 2 fl)) 10 (le 2 ct))) 5) := HQ3.out.1
  have HH4 : Hid (Blk w4 hb [.int .u64 id, .int .u16 fl, .int .u16 ct, .int .u32 ov] 134) := HQ3.out.2.2
  clear d0 d1 d2 d3 k0 k1 k2 k3 C3
  go_upto_region 4 with (fail)
  have d0 := HH4.out.cell (j := 0) rfl
  have d1 := HH4.out.cell (j := 1) rfl
  have d2 := HH4.out.cell (j := 2) rfl
  have d3 := HH4.out.cell (j := 3) rfl
  have C4 : Hid (Calls Ybaz.prog 64 #[.agg #[], .slice (some ⟨g, 12, none⟩) 4 (L.length - 12), .int .u32 ov] w4.drew fun e w' => e = .returned (.tuple #[]) ∧ (w'.cell? ⟨hb, 0, none⟩ = some (.int .u64 id) ∧ w'.cell? ⟨hb, 1, none⟩ = some (.int .u16 fl) ∧ w'.cell? ⟨hb, 2, none⟩ = some (.int .u16 ct) ∧ w'.cell? ⟨hb, 3, none⟩ = some (.int .u32 ov)) ∧
      Hid (Blk w' g (u8s (put (put (put (put L 0 (le 8 id)) 8 (le 2 fl)) 10 (le 2 ct)) 12 (le 4 ov))) 5 ∧ But (fun k => k = g) w4 w' ∧ Blk w' hb [.int .u64 id, .int .u16 fl, .int .u16 ct, .int .u32 ov] 134)) := by
    refine (put32_any (w := w4.drew) (L := put (put (put L 0 (le 8 id)) 8 (le 2 fl)) 10 (le 2 ct)) HB4.out 12 4 (L.length - 12) ov (by omega) (by omega) (by rw [put_length _ _ _ (by rw [le_length, put_length _ _ _ (by rw [le_length, put_length _ _ _ (by rw [le_length]; omega)]; omega), put_length _ _ _ (by rw [le_length]; omega)]; omega), put_length _ _ _ (by rw [le_length, put_length _ _ _ (by rw [le_length]; omega)]; omega), put_length _ _ _ (by rw [le_length]; omega)]; omega)).mono ?_
    rintro e w' ⟨rfl, B, P⟩
    have H' : Blk w' hb [.int .u64 id, .int .u16 fl, .int .u16 ct, .int .u32 ov] 134 := HH4.out.drew.but P hne
    exact ⟨rfl, ⟨H'.cell (j := 0) rfl, H'.cell (j := 1) rfl, H'.cell (j := 2) rfl, H'.cell (j := 3) rfl⟩, B, ((But.refl (fun k => k = g) w4).drew).trans P, H'⟩
  go_region_held3 (fun w' => w'.cell? ⟨hb, 0, none⟩ = some (.int .u64 id) ∧ w'.cell? ⟨hb, 1, none⟩ = some (.int .u16 fl) ∧ w'.cell? ⟨hb, 2, none⟩ = some (.int .u16 ct) ∧ w'.cell? ⟨hb, 3, none⟩ = some (.int .u32 ov)) (go_keep) ((go_at_call 64; refine C4.out.mono ?_; rintro e w5 ⟨rfl, ⟨k0, k1, k2, k3⟩, HQ4⟩))
  go_wp2_with fail
  go_end0
  exact ⟨rfl, HQ4.out.1, (((HP.out.trans HQ1.out.2.1).trans HQ2.out.2.1).trans HQ3.out.2.1).trans HQ4.out.2.1⟩

end Go.Proofs.YbulkeekaGreatFmt
