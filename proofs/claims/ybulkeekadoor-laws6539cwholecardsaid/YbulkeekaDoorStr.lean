/-
  (*bufio.Writer).WriteString over the law's sink, of a short string.
-/
import Derived.Test.YbulkeekaDoorWrite
namespace Go.Proofs.YbulkeekaDoor
open Go.RowKit
set_option linter.unusedSimpArgs false
set_option linter.unusedVariables false
attribute [local go_sem] meth27 meth42 meth55
attribute [local go_sem ↓] Go.wp_at_zero Go.wp_at_succ

/-- the bytes of a string, as numbers -/
def nums (s : ByteArray) : List Int := s.data.toList.map fun b => (b.toNat : Int)
theorem nums_length (s : ByteArray) : (nums s).length = s.size := by simp [nums]
theorem nums_drop (s : ByteArray) (k : Nat) : nums (s.extract k s.size) = (nums s).drop k := by
  unfold nums
  rw [← List.map_drop]
  congr 1
  have : (s.extract k s.size).data = s.data.extract k s.size := by simp [ByteArray.data_extract]
  rw [this, Array.toList_extract]
  simp [List.extract]
  exact List.take_of_length_le (by simp)

theorem run_copy_str_row {P : Program} (w : World) (dT sT ty elem : TypeId) (g o dLen dCap k : Nat) (s : ByteArray) (cur : Array Value) (t : TypeId)
    (hu : P.underlying dT = some (.slice elem)) (hs : (P.info? elem).map (·.size) = some 1) (hg : w.heap[g]? = some (.cells cur t (0, 0))) (hk : Nat.min s.size dLen = k) (hfit : o + k ≤ cur.size) :
    (Builtin.copy_ #[dT, sT] ty #[.slice (some ⟨g, o, none⟩) dLen dCap, .string s]).run P w =
      .ok (goInt k) (w.setRow g (cur.toList.take o ++ ((nums s).take k).map (Value.int .u8) ++ cur.toList.drop (o + k)).toArray) := by
  have hks : k ≤ s.size := by rw [← hk]; exact Nat.min_le_left _ _
  have hlen : (((nums s).take k).map (Value.int .u8)).length = k := by simp [nums_length]; omega
  have hst := run_storeCells_at P g o t (((nums s).take k).map (Value.int .u8)) 0 cur w hg (by rw [hlen]; simpa using hfit) (ints_one _ _)
  have htk : List.take k (List.map (fun b : UInt8 => Value.int IntKind.u8 (b.toNat : Int)) s.data.toList) = ((nums s).take k).map (Value.int .u8) := by
    simp [nums, List.map_take]; rfl
  rw [hlen] at hst
  simp only [Nat.add_zero] at hst
  cases hq : P.info? elem with
  | none => simp [hq] at hs
  | some i =>
    simp [Builtin.copy_, run_underlying hu, Builtin.lenOf, Builtin.firstCells, sizeOf, typeInfo, hq, hk]
    rw [htk, hst]
    simp [Result.andThen]

theorem copy_str_into {w : World} {rb wb bb : Nat} {sa : Addr} {fail : Bool} {B S : List Int} {sv : Value} (h : BW w rb wb bb sa fail B S false sv) (s : ByteArray) (k : Nat) (hk : Nat.min s.size (65536 - B.length) = k) :
    ∃ w1, (Builtin.copy_ #[22, 9] 3 #[.slice (some ⟨bb, B.length, none⟩) (65536 - B.length) (65536 - B.length), .string s]).run Ybad.prog w = .ok (.int .i64 (k : Int)) w1 ∧ But (fun i => i = bb) w w1 ∧
      ∀ rest : List Int, (B ++ rest).length = 65536 → Blk w bb ((B ++ rest).map (Value.int .u8)) 5 → ∃ rest', (B ++ (nums s).take k ++ rest').length = 65536 ∧ Blk w1 bb ((B ++ (nums s).take k ++ rest').map (Value.int .u8)) 5 := by
  obtain ⟨rest, e1, e2⟩ := h.hb
  have hkm : k ≤ s.size := by rw [← hk]; exact Nat.min_le_left _ _
  have hkr : k ≤ 65536 - B.length := by rw [← hk]; exact Nat.min_le_right _ _
  have hrl : B.length + rest.length = 65536 := by simpa using e1
  have hr := run_copy_str_row (P := Ybad.prog) w 22 9 3 5 bb B.length (65536 - B.length) (65536 - B.length) k s ((B ++ rest).map (Value.int .u8)).toArray 5 Ybad.underlying22 size5 e2 hk (by simp; omega)
  refine ⟨_, by rw [hr]; rfl, (But.refl (fun i => i = bb) w).setRow (Or.inr rfl) _, fun rest0 e3 e4 => ?_⟩
  refine ⟨rest.drop k, by simp [nums_length]; omega, ?_⟩
  unfold Blk
  rw [setRow_heap w bb _ _ 5 (0, 0) e2]
  congr 2
  simp [List.take_append_of_le_length, List.drop_append]

set_option maxRecDepth 100000 in
set_option maxHeartbeats 1000000 in
theorem str_err (rb wb bb : Nat) (sa : Addr) (fail : Bool) (B S : List Int) (sv : Value) (s : ByteArray) (w : World) (h : BW w rb wb bb sa fail B S true sv) :
    Calls Ybad.prog 14 #[.pointer (some ⟨wb, 0, none⟩), .string s] w fun e w' => e = .returned (.tuple #[.int .i64 0, .iface 37 (.pointer (some sa))]) ∧ ∃ q, w' = w.drewN q := by
  have HH : Hid (BW w rb wb bb sa fail B S true sv) := h
  clear h
  go_enter Ybad.func14, Ybad.ntmps14
  go_wp2
  go_loopg [1, 6, 7, 8] 0 (fun k p sw tr nn wr => p = .string s ∧ sw = .nilIface ∧ tr = .bool true ∧ nn = .int .i64 0 ∧ ∃ q, wr = w.drewN q)
  case atStart => exact ⟨rfl, rfl, rfl, rfl, 0, rfl⟩
  case round =>
    obtain ⟨rfl, rfl, rfl, rfl, q, rfl⟩ := hrel
    have c0 := HH.out.hw.cell (j := 0) rfl
    simp only [errv, if_true] at c0
    go_wp2_with (go_at_call 16; refine (available_any rb wb bb sa fail B S true sv _ (HH.out.drewN q)).mono ?_; rintro e w1 ⟨rfl, q1, rfl⟩)
    all_goals go_quiet (fail)
    all_goals go_wp2
    all_goals (go_ret2; exact ⟨rfl, _, drewN2 _ _ _⟩)

theorem run_copy_str_none (w : World) (s : ByteArray) (d : Option Addr) : (Builtin.copy_ #[22, 9] 3 #[.slice d 0 0, .string s]).run Ybad.prog w = .ok (.int .i64 0) w := by
  obtain ⟨ti, hi, hz0, hz1, hz2⟩ := info_parts info5
  cases d <;> simp [Builtin.copy_, run_underlying Ybad.underlying22, Builtin.lenOf, Builtin.firstCells, sizeOf, typeInfo, hi, storeCells] <;> rfl

/-- what holds at the head of WriteString's loop: nothing has been done, or the buffer was filled and flushed -/
def SRel (w : World) (rb wb bb : Nat) (sa : Addr) (fail : Bool) (B S : List Int) (sv : Value) (s : ByteArray) (m : Nat) (gk : Nat) (p sw tr nn : Value) (wr : World) : Prop :=
  sw = .nilIface ∧ tr = .bool true ∧ (
  (gk = 1 ∧ p = .string s ∧ nn = .int .i64 0 ∧ BW wr rb wb bb sa fail B S false sv ∧ Step w wr rb wb bb sv sv) ∨
  (gk = 0 ∧ ∃ k : Nat, k < s.size ∧ p = .string (s.extract k s.size) ∧ nn = .int .i64 (k : Int) ∧ 65536 < B.length + s.size ∧
    ((fail = true ∧ ∃ B', BW wr rb wb bb sa fail B' S true sv ∧ Step w wr rb wb bb sv sv) ∨
     (fail = false ∧ B.length + k = 65536 ∧ ∃ sv', BW wr rb wb bb sa fail [] (S ++ (B ++ (nums s).take k)) false sv' ∧ Step w wr rb wb bb sv sv'))))

set_option maxRecDepth 100000 in
set_option maxHeartbeats 2000000 in
theorem str_any (rb wb bb : Nat) (sa : Addr) (fail : Bool) (T B S : List Int) (sv : Value) (s : ByteArray) (m : Nat) (w : World) (h : BW w rb wb bb sa fail B S false sv) (g : Good fail T B S false)
    (hm : s.size = m) (h1 : 0 < m) (h2 : m ≤ 1024) (hT : T.length ≤ 9000000) :
    Calls Ybad.prog 14 #[.pointer (some ⟨wb, 0, none⟩), .string s] w fun e w' => ∃ (nn : Int) (B' S' : List Int) (er' : Bool) (sv' : Value), 0 ≤ nn ∧ nn ≤ 1024 ∧ e = .returned (.tuple #[.int .i64 nn, errv sa er']) ∧
      BW w' rb wb bb sa fail B' S' er' sv' ∧ Good fail (T ++ (nums s)) B' S' er' ∧ Step w w' rb wb bb sv sv' := by
  have HH : Hid (BW w rb wb bb sa fail B S false sv ∧ Good fail T B S false ∧ (nums s).length = s.size) := ⟨h, g, nums_length s⟩
  subst hm
  clear h g
  go_enter Ybad.func14, Ybad.ntmps14
  go_wp2
  go_loopg [1, 6, 7, 8] 1 (fun gk p sw tr nn wr => SRel w rb wb bb sa fail B S sv s s.size gk p sw tr nn wr)
  case atStart => exact ⟨rfl, rfl, Or.inl ⟨rfl, rfl, rfl, HH.out.1, Step.refl _ _ _ _ _⟩⟩
  case round =>
    obtain ⟨rfl, rfl, hrel⟩ := hrel
    rcases hrel with ⟨rfl, rfl, rfl, hb, hs⟩ | ⟨rfl, k, hk, rfl, rfl, hov, hcase⟩
    · have hl := hb.len
      have HB : Hid (BW wr rb wb bb sa fail B S false sv ∧ Step w wr rb wb bb sv sv) := ⟨hb, hs⟩
      have c0 := hb.hw.cell (j := 0) rfl
      simp only [errv, Bool.false_eq_true, if_false] at c0
      have c1 := hb.hw.cell (j := 1) rfl
      have c2 := hb.hw.cell (j := 2) rfl
      have f2 := hb.hw.frozen 2
      have hn3' : ¬ bb = wb := fun e => hb.n3 e.symm
      clear hb hs
      by_cases hfit : s.size ≤ 65536 - B.length
      · -- it fits
        have t1 : decide (65536 - (B.length : Int) < (s.size : Int)) = false := by simp; omega
        have hb0 : (0 : Int) ≤ (B.length : Int) := by omega
        have hb1 : (B.length : Int) ≤ 65536 := by omega
        have hb2 : ¬ 65536 = B.length := by omega
        go_wp2_with (go_at_call 16; refine (available_any rb wb bb sa fail B S false sv _ HB.out.1).mono ?_; rintro e w1 ⟨rfl, q1, rfl⟩)
        obtain ⟨w2, hcopy, P2, L2⟩ := copy_str_into (HB.out.1.drewN (q1 + 1)) s s.size (Nat.min_eq_left hfit)
        have k1 := P2.cell (p := ⟨wb, 1, none⟩) (fun e => hn3' e.symm) c1
        have k2 := P2.cell (p := ⟨wb, 2, none⟩) (fun e => hn3' e.symm) c2
        have kf2 : w2.frozen? ⟨wb, 2, none⟩ = false := ((HB.out.1.drewN (q1 + 1)).hw.but P2 (fun e => hn3' e.symm)).frozen 2
        have X := (HB.out.1.drewN (q1 + 1)).lay (w1 := w2) (nums s) [] (by rw [List.take_of_length_le (Nat.le_of_eq HH.out.2.2)] at L2; exact L2) P2 ((B.length : Int) + (s.size : Int)) (by simp [HH.out.2.2])
        have HX : Hid (BW (w2.setCell ⟨wb, 2, none⟩ (.int .i64 ((B.length : Int) + (s.size : Int)))) rb wb bb sa fail (B ++ (nums s)) S false sv ∧ Step w (w2.setCell ⟨wb, 2, none⟩ (.int .i64 ((B.length : Int) + (s.size : Int)))) rb wb bb sv sv) :=
          ⟨X.1, (HB.out.2.drewN (q1 + 1)).trans X.2⟩
        clear X P2 L2
        go_region_held3 (fun w' => w'.cell? ⟨wb, 1, none⟩ = some (.slice (some ⟨bb, 0, none⟩) 65536 65536) ∧ w'.cell? ⟨wb, 2, none⟩ = some (.int .i64 (B.length : Int))) (go_keep) (fail)
        go_wp2
        go_ret2
        exact ⟨(s.size : Int), B ++ (nums s), S, false, sv, by omega, by omega, rfl, HX.out.1, HH.out.2.1.fits (nums s) (by rw [HH.out.2.2]; omega), HX.out.2⟩
      · -- the buffer is filled up and flushed
        obtain ⟨k, hk⟩ : ∃ k, B.length + k = 65536 := ⟨65536 - B.length, by omega⟩
        have hkm : k < s.size := by omega
        have HK : Hid (B.length + k = 65536) := hk
        have t1 : decide (65536 - (B.length : Int) < (s.size : Int)) = true := by simp; omega
        have hb0 : (0 : Int) ≤ (B.length : Int) := by omega
        have hb1 : (B.length : Int) ≤ 65536 := by omega
        have hk0 : (0 : Int) ≤ (k : Int) := by omega
        have hk1 : (k : Int) ≤ (s.size : Int) := by omega
        have hk2 : (k : Int) ≤ (s.size : Int) := by omega
        have t2 : ((B.length : Int) == 0) = false := beq_eq_false_iff_ne.2 (by omega)
        have hkk : k = Nat.min s.size (65536 - B.length) := by have := Nat.min_eq_right (a := s.size) (b := 65536 - B.length) (by omega); exact (show k = 65536 - B.length by omega).trans this.symm
        clear hk
        by_cases hb2 : 65536 = B.length
        · have hB : B.length = 65536 := hb2.symm
          have HBl : Hid (B.length = 65536) := hB
          have d2 : wr.cell? ⟨wb, 2, none⟩ = some (.int .i64 65536) := by rw [c2, hB]; rfl
          have A16 : Calls Ybad.prog 16 #[.pointer (some ⟨wb, 0, none⟩)] wr fun e w' => e = .returned (.int .i64 0) ∧ ∃ q, w' = wr.drewN q := by
            have := available_any rb wb bb sa fail B S false sv wr HB.out.1
            rw [hB] at this; exact this
          have A17 : ∀ q, Calls Ybad.prog 17 #[.pointer (some ⟨wb, 0, none⟩)] (wr.drewN q) fun e w' => e = .returned (.int .i64 65536) ∧ w' = wr.drewN q := by
            intro q
            have := buffered_any rb wb bb sa fail B S false sv _ (HB.out.1.drewN q)
            rw [hB] at this; exact this
          have hcopy : ∀ w0 : World, (Builtin.copy_ #[22, 9] 3 #[.slice (some ⟨bb, 0, none⟩) 0 0, .string s]).run Ybad.prog w0 = .ok (.int .i64 0) w0 := fun w0 => run_copy_str_none w0 s _
          have H16 := hide A16
          have H17 := hide A17
          have hm0 : (0 : Int) < (s.size : Int) := by omega
          clear A16 A17 hB hb2 c2 t1 t2 hkk hb0 hb1 hl hfit
          go_wp2_with (first
            | (go_at_call 16; refine H16.out.mono ?_; rintro e w1 ⟨rfl, q1, rfl⟩)
            | (go_at_call 17; refine (H17.out _).mono ?_; rintro e w1 ⟨rfl, rfl⟩))
          go_region_held3 (fun w' => w'.cell? ⟨wb, 1, none⟩ = some (.slice (some ⟨bb, 0, none⟩) 65536 65536) ∧ w'.cell? ⟨wb, 2, none⟩ = some (.int .i64 65536)) (go_keep) (fail)
          go_wp2_with fail
          have X := (HB.out.1.drewN (q1 + 1)).field 2 (.int .i64 65536) B false (by rw [HBl.out]; rfl) (HB.out.1.drewN (q1 + 1)).hb
          refine (flush_both rb wb bb sa fail B S sv _ X.1 (by rw [HBl.out]; decide) (by have := HH.out.2.1.len; omega)).mono ?_
          rintro e w3 ⟨rfl, sv', hcase, s3⟩
          have HX : Hid (Step w w3 rb wb bb sv sv' ∧ ((fail = true ∧ sv' = sv ∧ BW w3 rb wb bb sa fail B S true sv) ∨ (fail = false ∧ BW w3 rb wb bb sa fail [] (S ++ B) false sv'))) := ⟨(HB.out.2.drewN (q1 + 1)).trans (X.2.trans s3), hcase⟩
          clear X hcase s3
          go_wp2_with fail
          go_roundg 0
          case measure => omega
          case rel =>
            refine ⟨rfl, rfl, Or.inr ⟨rfl, 0, h1, by simp, rfl, by rw [HBl.out]; omega, ?_⟩⟩
            obtain ⟨s4, hcase⟩ := HX.out
            rcases hcase with ⟨hf, rfl, h3⟩ | ⟨hf, h3⟩
            · exact Or.inl ⟨hf, _, h3, s4⟩
            · exact Or.inr ⟨hf, HBl.out, sv', by simpa using h3, s4⟩
        · go_wp2_with (first
            | (go_at_call 16; refine (available_any rb wb bb sa fail B S false sv _ HB.out.1).mono ?_; rintro e w1 ⟨rfl, q1, rfl⟩)
            | (go_at_call 17; refine (buffered_any rb wb bb sa fail B S false sv _ (HB.out.1.drewN _)).mono ?_; rintro e w1 ⟨rfl, rfl⟩))
          obtain ⟨w2, hcopy, P2, L2⟩ := copy_str_into (HB.out.1.drewN (q1 + 1)) s k hkk.symm
          have k1 := P2.cell (p := ⟨wb, 1, none⟩) (fun e => hn3' e.symm) c1
          have k2 := P2.cell (p := ⟨wb, 2, none⟩) (fun e => hn3' e.symm) c2
          have kf2 : w2.frozen? ⟨wb, 2, none⟩ = false := ((HB.out.1.drewN (q1 + 1)).hw.but P2 (fun e => hn3' e.symm)).frozen 2
          have hlen : (B ++ (nums s).take k).length = 65536 := by rw [List.length_append, List.length_take, HH.out.2.2, Nat.min_eq_left (Nat.le_of_lt hkm)]; exact HK.out
          have X := (HB.out.1.drewN (q1 + 1)).lay (w1 := w2) ((nums s).take k) [] L2 P2 ((B.length : Int) + (k : Int)) (by rw [hlen]; have := HK.out; omega)
          have HX : Hid (BW (w2.setCell ⟨wb, 2, none⟩ (.int .i64 ((B.length : Int) + (k : Int)))) rb wb bb sa fail (B ++ (nums s).take k) S false sv ∧ Step w (w2.setCell ⟨wb, 2, none⟩ (.int .i64 ((B.length : Int) + (k : Int)))) rb wb bb sv sv ∧ (B ++ (nums s).take k).length = 65536) :=
            ⟨X.1, (HB.out.2.drewN (q1 + 1)).trans X.2, hlen⟩
          clear X P2 L2 hlen hkk
          go_region_held3 (fun w' => w'.cell? ⟨wb, 1, none⟩ = some (.slice (some ⟨bb, 0, none⟩) 65536 65536) ∧ w'.cell? ⟨wb, 2, none⟩ = some (.int .i64 (B.length : Int))) (go_keep) (fail)
          go_wp2_with (go_at_call 15; refine (flush_both rb wb bb sa fail (B ++ (nums s).take k) S sv _ HX.out.1 (by rw [HX.out.2.2]; decide) (by rw [HX.out.2.2]; have := HH.out.2.1.len; omega)).mono ?_; rintro e w3 ⟨rfl, sv', hcase, s3⟩)
          go_roundg 0
          case measure => omega
          case rel =>
            refine ⟨rfl, rfl, Or.inr ⟨rfl, k, hkm, rfl, rfl, by omega, ?_⟩⟩
            rcases hcase with ⟨hf, rfl, h3⟩ | ⟨hf, h3⟩
            · exact Or.inl ⟨hf, _, h3, HX.out.2.1.trans s3⟩
            · exact Or.inr ⟨hf, HK.out, sv', h3, HX.out.2.1.trans s3⟩
    · rcases hcase with ⟨rfl, B', hb, hs⟩ | ⟨rfl, hkl, sv', hb, hs⟩
      · -- the sink has refused
        have HB : Hid (BW wr rb wb bb sa true B' S true sv ∧ Step w wr rb wb bb sv sv) := ⟨hb, hs⟩
        have c0 := hb.hw.cell (j := 0) rfl
        simp only [errv, if_true] at c0
        clear hb hs
        go_wp2_with (go_at_call 16; refine (available_any rb wb bb sa true B' S true sv _ HB.out.1).mono ?_; rintro e w1 ⟨rfl, q1, rfl⟩)
        all_goals go_quiet (fail)
        all_goals go_wp2
        all_goals
          go_ret2
          exact ⟨(k : Int), B', S, true, sv, by omega, by omega, rfl, (HB.out.1.drewN _).drewN _, HH.out.2.1.refused B' (nums s) (by rw [HH.out.2.2]; omega), (HB.out.2.drewN _).drewN _⟩
      · -- the buffer is empty again
        have HB : Hid (BW wr rb wb bb sa false [] (S ++ (B ++ (nums s).take k)) false sv' ∧ Step w wr rb wb bb sv sv' ∧ B.length + k = 65536) := ⟨hb, hs, hkl⟩
        have c0 := hb.hw.cell (j := 0) rfl
        simp only [errv, Bool.false_eq_true, if_false] at c0
        have c1 := hb.hw.cell (j := 1) rfl
        have c2 : wr.cell? ⟨wb, 2, none⟩ = some (.int .i64 0) := hb.hw.cell (j := 2) rfl
        have hn3' : ¬ bb = wb := fun e => hb.n3 e.symm
        have t1 : decide ((65536 : Int) < ((s.size - k : Nat) : Int)) = false := by simp; omega
        clear hb hs hkl
        go_wp2_with (go_at_call 16; refine (available_any rb wb bb sa false [] _ false sv' _ HB.out.1).mono ?_; rintro e w1 ⟨rfl, q1, rfl⟩)
        have hdl : ((nums s).drop k).length = s.size - k := by rw [List.length_drop, HH.out.2.2]
        have hsz : (s.extract k s.size).size = s.size - k := by rw [← nums_length, nums_drop]; exact hdl
        obtain ⟨w2, hcopy, P2, L2⟩ := copy_str_into (HB.out.1.drewN (q1 + 1)) (s.extract k s.size) (s.size - k) (by rw [hsz]; exact Nat.min_eq_left (by simp; omega))
        rw [nums_drop] at L2
        simp only [List.length_nil, Nat.sub_zero] at hcopy
        have k1 := P2.cell (p := ⟨wb, 1, none⟩) (fun e => hn3' e.symm) c1
        have k2 := P2.cell (p := ⟨wb, 2, none⟩) (fun e => hn3' e.symm) c2
        have kf2 : w2.frozen? ⟨wb, 2, none⟩ = false := ((HB.out.1.drewN (q1 + 1)).hw.but P2 (fun e => hn3' e.symm)).frozen 2
        have X := (HB.out.1.drewN (q1 + 1)).lay (w1 := w2) ((nums s).drop k) [] (by rw [List.take_of_length_le (Nat.le_of_eq hdl)] at L2; exact L2) P2 ((s.size - k : Nat) : Int) (by rw [List.nil_append, hdl])
        have HX : Hid (BW (w2.setCell ⟨wb, 2, none⟩ (.int .i64 ((s.size - k : Nat) : Int))) rb wb bb sa false ((nums s).drop k) (S ++ (B ++ (nums s).take k)) false sv' ∧ Step w (w2.setCell ⟨wb, 2, none⟩ (.int .i64 ((s.size - k : Nat) : Int))) rb wb bb sv sv') :=
          ⟨by simpa using X.1, (HB.out.2.1.drewN (q1 + 1)).trans X.2⟩
        have HG : Hid (Good false (T ++ (nums s)) ((nums s).drop k) (S ++ (B ++ (nums s).take k)) false) := by
          have := HH.out.2.1.flushed ((nums s).take k) ((nums s).drop k) (by rw [List.take_append_drop]; intro h0; have := HH.out.2.2; rw [h0] at this; simp at this; omega)
            (by rw [List.length_take, HH.out.2.2, Nat.min_eq_left (Nat.le_of_lt hk)]; exact HB.out.2.2) (by intro h0; rw [h0] at hdl; simp at hdl; omega)
          rwa [List.take_append_drop] at this
        clear X P2 L2 hdl
        go_region_held3 (fun w' => w'.cell? ⟨wb, 1, none⟩ = some (.slice (some ⟨bb, 0, none⟩) 65536 65536) ∧ w'.cell? ⟨wb, 2, none⟩ = some (.int .i64 0)) (go_keep) (fail)
        go_wp2
        go_ret2
        exact ⟨_, (nums s).drop k, _, false, sv', by omega, by omega, rfl, HX.out.1, HG.out, HX.out.2⟩


end Go.Proofs.YbulkeekaDoor
