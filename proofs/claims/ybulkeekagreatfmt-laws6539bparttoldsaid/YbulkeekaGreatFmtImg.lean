/-
  THE WALK of (*node).image at a leaf.
-/
import Derived.Test.YbulkeekaGreatFmtEnc
namespace Go.Proofs.YbulkeekaGreatFmt
open Go.RowKit
set_option linter.unusedSimpArgs false
set_option linter.unusedVariables false

theorem info5 : (Ybaz.prog.info? 5).map (fun i => (i.zero, i.size, i.bytes)) = some (some (.int .u8 0), 1, 1) := by kernel_rfl

/-- a leaf's page image -/
def imgOf (els : List El) : List Nat := encFrom 0 els (hdr (List.replicate (16 + 16 * els.length + datas els) 0) 0 2 (els.length % 65536) 0) (16 + 16 * els.length)

theorem sizes_datas (es : List Ino) : sizes es = 16 * es.length + datas (es.map Ino.el) := by
  induction es with
  | nil => rfl
  | cons e es ih =>
    have h1 : sizes (e :: es) = e.size + sizes es := by unfold sizes; rw [List.map_cons, List.sum_cons]
    have h2 : datas ((e :: es).map Ino.el) = (e.key.length + e.val.length) + datas (es.map Ino.el) := by unfold datas; rw [List.map_cons, List.map_cons, List.sum_cons]; rfl
    have h3 : e.size = 16 + e.key.length + e.val.length := rfl
    rw [h1, h2, List.length_cons, ih]
    omega

set_option maxRecDepth 100000 in
set_option maxHeartbeats 2000000 in
theorem image_any {w : World} {nb id ov gi : Nat} {es : List Ino} (h : Nod w nb id ov gi es) (hn : es.length ≤ 65536) (hs : sizes es ≤ 3000000) (hfl : ∀ e ∈ es, e.fl < 4294967296) (hkv : ∀ e ∈ es, (∀ ad, e.ka = some ad → ad.block < w.heap.size) ∧ (∀ ad, e.va = some ad → ad.block < w.heap.size)) :
    Calls Ybaz.prog 17 #[.pointer (some ⟨nb, 0, none⟩)] w fun e w' => ∃ g, e = .returned (.slice (some ⟨g, 0, none⟩) (16 + sizes es) (16 + sizes es)) ∧ w.heap.size ≤ g ∧ Blk w' g (u8s (imgOf (es.map Ino.el))) 5 ∧ Below w.heap.size w w' := by
  obtain ⟨t5, i5, z5, s5, b5⟩ := info_parts info5
  have HH := hide (And.intro h (And.intro hfl hkv))
  clear h hfl hkv
  obtain ⟨T, hT⟩ : ∃ T : Nat, T = 16 + sizes es := ⟨_, rfl⟩
  have HT := hide hT
  have hT2 : T ≤ 4000000 := by omega
  rw [← hT]
  clear hT
  go_enter Ybaz.func17, Ybaz.ntmps17
  go_wp2_with fail
  refine (size_any HH.out.1 hn (by omega)).mono ?_
  rintro e w1 ⟨rfl, L1⟩
  rw [← HT.out]
  have H1 := hide L1
  clear L1
  go_wp2_with (at_make; refine wpList_make_full _ rfl (.tmp 5) (.tmp 5) 26 rfl w.heap.size 5 t5 (.int .u8 0) 1 Ybaz.underlying26 i5 z5 s5 _ _ _ _ T rfl rfl rfl rfl (by rw [b5]; omega) (by unfold maxLen; omega) H1.out.size ?_)
  intro w2 hown2 hgrow2
  have B2 : Blk w2 w1.heap.size (u8s (List.replicate T 0)) 5 := by simpa [toList_madeCells_one] using blk_of_made hown2 rfl
  have L2 : Below w1.heap.size w1 w2 := (But.of_grown (S := fun _ => False) hgrow2 (fun _ h => by cases h)).below (fun _ h => h.elim) (Nat.le_refl _)
  have N2 : Nod w2 nb id ov gi es := (HH.out.1.below H1.out).below L2
  have s1 := H1.out.size
  have hb1 := HH.out.1.B.lt
  have hb2 := HH.out.1.I.lt
  have H2 := hide (And.intro B2 (And.intro L2 N2))
  clear hown2 hgrow2 B2 L2 N2
  go_wp2_with fail
  refine (enc_any H2.out.2.2 H2.out.1 T 0 0 (by simp) (by have h1 := HT.out; have h2 := sizes_datas es; omega) hT2 hn (by omega) (by omega) HH.out.2.1 (by omega) (by omega) (fun e he => ⟨fun ad ha => by have := (HH.out.2.2 e he).1 ad ha; omega, fun ad ha => by have := (HH.out.2.2 e he).2 ad ha; omega⟩)).mono ?_
  rintro e w3 ⟨rfl, B3, P3⟩
  have H3 : Hid (Blk w3 w1.heap.size (u8s (imgOf (es.map Ino.el))) 5 ∧ Below w.heap.size w w3) := by
    refine ⟨?_, (H1.out.trans (H2.out.2.1.mono s1)).trans (P3.below (fun k hk => by omega) (Nat.le_trans s1 H2.out.2.1.size))⟩
    unfold imgOf
    rw [List.length_map, show 16 + 16 * es.length + datas (es.map Ino.el) = T by have h1 := HT.out; have h2 := sizes_datas es; omega]
    exact B3
  clear B3 P3
  go_wp2_with fail
  go_ret
  exact ⟨w1.heap.size, rfl, s1, H3.out.1, H3.out.2⟩

end Go.Proofs.YbulkeekaGreatFmt
