/-
  THE WALKS of the decoder: need, skip, bits.
-/
import Derived.Test.YbulkeekoFmtFmt
import Derived.Test.YbulkeekoFmtPlain
import Derived.WalkLawsBesides
import Derived.Deep.RegionHeld3
import Derived.Deep.RegionLaw
import Derived.Great.Walk
namespace Go.Proofs.YbulkeekoFmt
open Go.RowKit Go.Extern.Stop Go.Stop Go.Extern
set_option linter.unusedSimpArgs false
set_option linter.unusedVariables false

theorem hide {p : Prop} (h : p) : Hid p := h

/-- the cells of a decoder -/
def dC (so : Option Addr) (n c : Nat) (rd : Int) (last un : Nat) : List Value := [.slice so n c, .int .i64 rd, .int .u8 last, .int .i64 un]

set_option maxHeartbeats 400000 in
theorem need_ok (db : Nat) (so : Option Addr) (n c : Nat) (rd : Int) (last un : Nat) (w : World) (h : Blk w db (dC so n c rd last un) 26) (hn : 1 ≤ n) (hm : n ≤ 1048576) :
    Calls Ybaf.prog 17 #[.pointer (some ⟨db, 0, none⟩), .int .i64 1] w fun e w' => e = .returned .nilIface ∧ w' = w := by
  have c0 := h.cell (j := 0) rfl
  have t1 : decide ((n : Int) < 1) = false := by simp; omega
  clear h
  go_enter Ybaf.func17, Ybaf.ntmps17
  go_wp2
  go_ret
  exact ⟨rfl, rfl⟩

set_option maxHeartbeats 1000000 in
theorem need_short (F : Interp) (db : Nat) (so : Option Addr) (c : Nat) (rd : Int) (last un : Nat) (w : World) (hF : F.answers w.tape) (h : Blk w db (dC so 0 c rd last un) 26) :
    Calls Ybaf.prog 17 #[.pointer (some ⟨db, 0, none⟩), .int .i64 1] w fun e w' => ∃ a, e = .returned (.iface 73 (.pointer (some a))) ∧ Below w.heap.size w w' := by
  have c0 := h.cell (j := 0) rfl
  have c1 := h.cell (j := 1) rfl
  have HE : Hid (∀ x : Int, Calls Ybaf.prog 22 #[.pointer (some ⟨db, 0, none⟩), .int .i64 rd, .string ⟨#[116, 104, 101, 32, 115, 116, 97, 116, 101, 32, 101, 110, 100, 115, 32, 37, 100, 32, 98, 121, 116, 101, 115, 32, 101, 97, 114, 108, 121]⟩, .slice (some ⟨w.heap.size, 0, none⟩) 1 1] ((w.alloc (.cells #[.iface 3 (.int .i64 x)] 20)).drew)
      fun e w1 => ∃ a, e = .returned (.iface 73 (.pointer (some a))) ∧ Below w.heap.size w w1 ∧ w1.cell? ⟨db, 0, none⟩ = some (.slice so 0 c) ∧ w1.cell? ⟨db, 1, none⟩ = some (.int .i64 rd)) := by
    intro x
    refine (errE F (.pointer (some ⟨db, 0, none⟩)) rd x w.heap.size ((w.alloc (.cells #[.iface 3 (.int .i64 x)] 20)).drew) (by exact hF) (by simp [World.cell?_alloc_new])).mono ?_
    rintro e w1 ⟨a, he, hb⟩
    have h1 := (h.alloc (.cells #[.iface 3 (.int .i64 x)] 20)).drew.below hb ((h.alloc _).drew.lt)
    exact ⟨a, he, ((Below.refl w.heap.size w).alloc (Nat.le_refl _) _).drew.trans (hb.mono (by simp)), h1.cell (j := 0) rfl, h1.cell (j := 1) rfl⟩
  clear h
  go_enter Ybaf.func17, Ybaf.ntmps17
  go_wp2_with fail
  go_region_held3 (fun w' => w'.cell? ⟨db, 0, none⟩ = some (.slice so 0 c) ∧ w'.cell? ⟨db, 1, none⟩ = some (.int .i64 rd)) (go_keep)
    ((go_at_call 22; refine (HE.out _).mono ?_; rintro e w1 ⟨a, rfl, hb, k0, k1⟩))
  all_goals go_wp2_with fail
  all_goals go_ret
  all_goals exact ⟨_, rfl, hb⟩

theorem Rd.later {w : World} {ad : Addr} {xs : List Value} (h : Rd w (some ad) xs) (j : Nat) : Rd w (some (ad.add j)) (xs.drop j) := fun i u hu => by
  rw [List.getElem?_drop] at hu
  obtain ⟨a, e, hc⟩ := h (j + i) u hu
  cases e
  refine ⟨_, rfl, ?_⟩
  rw [Addr.add_add]; exact hc

def Skipped (w w' : World) (db : Nat) (ad : Addr) (n c : Nat) (rd : Int) (last un : Nat) : Prop :=
  ∃ ad', (n - 1 = 0 ∨ ad' = ad.add 1) ∧ ad'.block = ad.block ∧ Blk w' db (dC (some ad') (n - 1) (c - 1) (wrap64 (rd + 1)) last un) 26 ∧ But (fun g => g = db) w w'

set_option maxHeartbeats 400000 in
theorem skip_any (db : Nat) (ad : Addr) (n c : Nat) (rd : Int) (last un : Nat) (w : World) (h : Blk w db (dC (some ad) n c rd last un) 26) (hn : 1 ≤ n) (hc : n ≤ c) (hm : n ≤ 1048576) :
    Calls Ybaf.prog 18 #[.pointer (some ⟨db, 0, none⟩), .int .i64 1] w fun e w' => e = .returned (.tuple #[]) ∧ Skipped w w' db ad n c rd last un := by
  have c0 := h.cell (j := 0) rfl
  have c1 := h.cell (j := 1) rfl
  have f0 := h.frozen 0
  have f1 := h.frozen 1
  have H : Hid (∀ v x, Blk ((w.setCell ⟨db, 0, none⟩ v).setCell ⟨db, 1, none⟩ x) db [v, x, .int .u8 last, .int .i64 un] 26 ∧ But (fun g => g = db) w ((w.setCell ⟨db, 0, none⟩ v).setCell ⟨db, 1, none⟩ x)) :=
    fun v x => ⟨(h.set 0 v).set 1 x, (((But.refl (fun g => g = db) w).setCell (p := ⟨db, 0, none⟩) (Or.inr rfl) v).setCell (p := ⟨db, 1, none⟩) (Or.inr rfl) x)⟩
  clear h
  go_enter Ybaf.func18, Ybaf.ntmps18
  go_wp2
  · go_end0
    exact ⟨rfl, ad, Or.inl (by omega), rfl, H.out _ _⟩
  · go_end0
    exact ⟨rfl, _, Or.inr rfl, rfl, H.out _ _⟩

/-- the offset read to, behind k bytes -/
def rdAt (rd : Int) (k : Nat) : Int := wrap64 (rd + k)
theorem rdAt_zero (rd : Int) (h0 : -9223372036854775808 ≤ rd) (h1 : rd < 9223372036854775808) : rdAt rd 0 = rd := by
  unfold rdAt wrap64; simp; omega
theorem rdAt_succ (rd : Int) (k : Nat) : wrap64 (rdAt rd k + 1) = rdAt rd (k + 1) := by
  unfold rdAt wrap64; simp; omega

/-- a decoder over the bytes rest, k of them read -/
structure Dec (w : World) (db : Nat) (rest : List Nat) (rd : Int) (last u k : Nat) : Prop where
  h : ∃ so c, Blk w db (dC so (rest.length - k) c (rdAt rd k) (lastAt last rest k) (u + 8 * k)) 26 ∧ rest.length - k ≤ c ∧ Rd w so ((rest.drop k).map (fun (b : Nat) => Value.int .u8 (b : Int))) ∧ (∀ ad, so = some ad → ad.block ≠ db) ∧ (so = none → rest.length - k = 0)

theorem mask_all : ((List.range 256).all fun l => (List.range 8).all fun u => bits .and .u64 ((l : Nat) : Int) (IntKind.u64.wrap (IntKind.u64.wrap (2 ^ u) - 1)) == ((l % 2 ^ u : Nat) : Int)) = true := by decide +kernel
theorem mask (l u : Nat) (hl : l < 256) (hu : u ≤ 7) : bits .and .u64 ((l : Nat) : Int) (IntKind.u64.wrap (IntKind.u64.wrap (2 ^ u) - 1)) = ((l % 2 ^ u : Nat) : Int) := by
  have h1 := List.all_eq_true.1 mask_all l (List.mem_range.2 hl)
  have h2 := List.all_eq_true.1 h1 u (List.mem_range.2 (by omega))
  simpa using h2

theorem orX (x b : Nat) (hx : x < 1099511627776) (hb : b < 256) : bits .or .u64 (IntKind.u64.wrap ((x : Int) * 256)) (IntKind.u64.wrap (b : Int)) = ((x * 256 + b : Nat) : Int) := by
  have h1 : IntKind.u64.wrap ((x : Int) * 256) = ((x * 256 : Nat) : Int) := by simp only [IntKind.wrap, IntKind.signed, IntKind.bits]; simp; omega
  have h2 : IntKind.u64.wrap (b : Int) = ((b : Nat) : Int) := by simp only [IntKind.wrap, IntKind.signed, IntKind.bits]; simp; omega
  rw [h1, h2, Go.u64_or_nat _ _ (by omega) (by omega)]
  have := Nat.two_pow_add_eq_or_of_lt (i := 8) (b := b) (by omega) x
  rw [show 2 ^ 8 * x = x * 256 by omega] at this
  rw [this]

theorem acc_bound (last u : Nat) (rest : List Nat) (k : Nat) (hu : u ≤ 7) (hk : k ≤ 4) (hkr : k ≤ rest.length) (hb : ∀ b ∈ rest, b < 256) : acc (last % 2 ^ u) (rest.take k) < 549755813888 := by
  have h := acc_lt (rest.take k) (last % 2 ^ u) u (Nat.mod_lt _ (Nat.two_pow_pos u)) (fun b h => hb b (List.mem_of_mem_take h))
  have h2 : (2 : Nat) ^ (u + 8 * (rest.take k).length) ≤ 2 ^ 39 := Nat.pow_le_pow_right (by decide) (by simp; omega)
  have h3 : (2 : Nat) ^ 39 = 549755813888 := by decide
  omega

/-- what a round holds -/
structure Rnd (w wr : World) (db rb : Nat) (rest : List Nat) (rd : Int) (last u k : Nat) (so : Option Addr) (c : Nat) : Prop where
  B : Blk wr db (dC so (rest.length - k) c (rdAt rd k) (lastAt last rest k) (u + 8 * k)) 26
  le : rest.length - k ≤ c
  R : Rd wr so ((rest.drop k).map (fun (b : Nat) => Value.int .u8 (b : Int)))
  n : ∀ ad, so = some ad → rest.length - k = 0 ∨ ad.block = rb
  z : so = none → rest.length - k = 0 ∧ c = 0
  P : But (fun g => g = db) w wr

/-- what bits answers and leaves -/
def Bits (w w' : World) (db rb : Nat) (rest : List Nat) (rd : Int) (last u width : Nat) (e : Ending) : Prop :=
  ∃ so c, (so = none → c = 0) ∧ (
  (needB u width ≤ rest.length ∧ e = .returned (.tuple #[.int .i64 (snum last u rest 0 width), .nilIface]) ∧
    Blk w' db (dC so (rest.length - needB u width) c (rdAt rd (needB u width)) (lastAt last rest (needB u width)) (u + 8 * needB u width - width)) 26 ∧ rest.length - needB u width ≤ c ∧
    Rd w' so ((rest.drop (needB u width)).map (fun (b : Nat) => Value.int .u8 (b : Int))) ∧ But (fun g => g = db) w w' ∧ (∀ ad, so = some ad → rest.length - needB u width = 0 ∨ ad.block = rb)) ∨
  (rest.length < needB u width ∧ (∃ a, e = .returned (.tuple #[.int .i64 0, .iface 73 (.pointer (some a))])) ∧
    Blk w' db (dC so 0 c (rdAt rd rest.length) (lastAt last rest rest.length) (u + 8 * rest.length)) 26 ∧ But (fun g => g = db) w w'))

theorem Rnd.kept {w wr w' : World} {db rb : Nat} {rest : List Nat} {rd : Int} {last u k : Nat} {so : Option Addr} {c : Nat} (h : Rnd w wr db rb rest rd last u k so c) (hrb : rb ≠ db) (P : But (fun g => g = db) wr w') : Rd w' so ((rest.drop k).map (fun (b : Nat) => Value.int .u8 (b : Int))) := by
  by_cases h0 : rest.length - k = 0
  · rw [List.drop_of_length_le (by omega)]; exact Rd.nil _ _
  · exact h.R.but P (fun ad e => by rw [(h.n ad e).resolve_left h0]; exact hrb)

theorem Rnd.drewN {w wr : World} {db rb : Nat} {rest : List Nat} {rd : Int} {last u k : Nat} {so : Option Addr} {c : Nat} (h : Rnd w wr db rb rest rd last u k so c) (q : Nat) : Rnd w (wr.drewN q) db rb rest rd last u k so c :=
  ⟨h.B, h.le, h.R, h.n, h.z, ⟨h.P.os, h.P.tape, h.P.output, h.P.size, h.P.block⟩⟩

set_option maxRecDepth 100000 in
set_option maxHeartbeats 2000000 in
theorem bits_any (F : Interp) (db rb : Nat) (rest : List Nat) (rd : Int) (last u width : Nat) (so0 : Option Addr) (c0 : Nat) (w : World) (hF : F.answers w.tape) (hrb : rb ≠ db) (h : Rnd w w db rb rest rd last u 0 so0 c0) (hl : last < 256) (hu : u ≤ 7) (hw : width ≤ 32) (hb : ∀ b ∈ rest, b < 256) (hr : rest.length ≤ 1048576) :
    Calls Ybaf.prog 6 #[.pointer (some ⟨db, 0, none⟩), .int .i64 width] w fun e w' => Bits w w' db rb rest rd last u width e := by
  have c2 := h.B.cell (j := 2) rfl
  have c3 := h.B.cell (j := 3) rfl
  simp only [Nat.mul_zero, Nat.add_zero] at c3
  simp only [lastAt, if_true] at c2
  have H0 := hide h
  clear h
  go_enter Ybaf.func6, Ybaf.ntmps6
  go_wp2_with fail
  go_quiet (fail)
  rw [mask last u hl hu]
  clear c2 c3
  go_wp2_with fail
  go_loopg [6] (needB u width) (fun gk x wr => ∃ k so c, k ≤ needB u width ∧ k ≤ rest.length ∧ gk = needB u width - k ∧ x = .int .u64 (acc (last % 2 ^ u) (rest.take k) : Nat) ∧ Rnd w wr db rb rest rd last u k so c)
  case atStart => exact ⟨0, so0, c0, Nat.zero_le _, Nat.zero_le _, rfl, by simp [acc], H0.out.drewN _⟩
  case round =>
    obtain ⟨k, so, c, hk, hkr, rfl, rfl, hR⟩ := hrel
    have c0 := hR.B.cell (j := 0) rfl
    have c1 := hR.B.cell (j := 1) rfl
    have c2 := hR.B.cell (j := 2) rfl
    have c3 := hR.B.cell (j := 3) rfl
    by_cases hlt : k < needB u width
    · have hx := needB_lt u width k hlt
      by_cases hxk : k < rest.length
      rotate_left
      · obtain rfl : k = rest.length := by omega
        have hFr : F.answers wr.tape := by rw [hR.P.tape]; exact hF
        have HR := hide hR
        clear hR c0 c1 c2
        go_wp2_with fail
        refine (need_short F db so c _ _ _ wr hFr (by have := HR.out.B; rwa [Nat.sub_self] at this)).mono ?_
        rintro e w1 ⟨a, rfl, hb1⟩
        have HY : Hid (Blk w1 db (dC so 0 c (rdAt rd rest.length) (lastAt last rest rest.length) (u + 8 * rest.length)) 26 ∧ But (fun g => g = db) w w1) := by
          have := HR.out.B
          rw [Nat.sub_self] at this
          exact ⟨this.below hb1 this.lt, HR.out.P.trans (But.of_below' hb1)⟩
        clear hb1
        go_wp2_with fail
        go_ret2
        exact ⟨so, c, fun e => (HR.out.z e).2, Or.inr ⟨hlt, ⟨a, rfl⟩, HY.out.1, HY.out.2⟩⟩
      cases so with
      | none => have := hR.z rfl; omega
      | some ad =>
        have hd : rest.length - k ≥ 1 := by omega
        have cA : wr.cell? ad = some (.int .u8 ((rest[k] : Nat) : Int)) := by
          obtain ⟨a, e, hc⟩ := hR.R 0 (.int .u8 ((rest[k] : Nat) : Int)) (by simp [List.getElem?_eq_getElem hxk])
          cases e; exact hc
        have f2 := hR.B.frozen 2
        have f3 := hR.B.frozen 3
        have hbk : ad.block = rb := (hR.n ad rfl).resolve_left (by omega)
        have hne : ¬ ad.block = db := by rw [hbk]; exact hrb
        have HBK := hide hbk
        clear hbk
        have HR := hide hR
        clear hR
        go_wp2_with fail
        refine (need_ok db (some ad) _ c _ _ _ wr HR.out.B (by omega) (by omega)).mono ?_
        rintro e wr ⟨rfl, rfl⟩
        go_wp2_with fail
        have XB : Blk (wr.setCell ⟨db, 2, none⟩ (.int .u8 ((rest[k] : Nat) : Int))) db (dC (some ad) (rest.length - k) c (rdAt rd k) rest[k] (u + 8 * k)) 26 := HR.out.B.set 2 _
        have XR : Rd (wr.setCell ⟨db, 2, none⟩ (.int .u8 ((rest[k] : Nat) : Int))) (some ad) ((rest.drop k).map (fun (b : Nat) => Value.int .u8 (b : Int))) :=
          HR.out.R.but ((But.refl (fun g => g = db) wr).setCell (p := ⟨db, 2, none⟩) (Or.inr rfl) _) (fun a e => by cases e; exact hne)
        have XP : But (fun g => g = db) w (wr.setCell ⟨db, 2, none⟩ (.int .u8 ((rest[k] : Nat) : Int))) := HR.out.P.setCell (p := ⟨db, 2, none⟩) (Or.inr rfl) _
        generalize wr.setCell ⟨db, 2, none⟩ (.int .u8 ((rest[k] : Nat) : Int)) = wA at *
        clear c0 c1 c2 c3 f2 f3 cA
        have c2 := XB.cell (j := 2) rfl
        have c3 := XB.cell (j := 3) rfl
        have f3 := XB.frozen 3
        have HX := hide (And.intro XB (And.intro XR XP))
        clear XB XR XP
        go_region
        rw [orX _ _ (by have := acc_bound last u rest k hu (by omega) (by omega) hb; omega) (hb _ (List.getElem_mem hxk))]
        have YB : Blk (wA.setCell ⟨db, 3, none⟩ (.int .i64 ((u : Int) + 8 * (k : Int) + 8))).drew db (dC (some ad) (rest.length - k) c (rdAt rd k) rest[k] (u + 8 * (k + 1))) 26 := by
          have := (HX.out.1.set 3 (.int .i64 ((u : Int) + 8 * (k : Int) + 8))).drew
          simp only [dC, List.set_cons_succ, List.set_cons_zero] at this ⊢
          rw [show ((u + 8 * (k + 1) : Nat) : Int) = (u : Int) + 8 * (k : Int) + 8 by omega]
          exact this
        have YP : But (fun g => g = db) wA (wA.setCell ⟨db, 3, none⟩ (.int .i64 ((u : Int) + 8 * (k : Int) + 8))).drew := ((But.refl (fun g => g = db) wA).setCell (p := ⟨db, 3, none⟩) (Or.inr rfl) _).drew
        generalize (wA.setCell ⟨db, 3, none⟩ (.int .i64 ((u : Int) + 8 * (k : Int) + 8))).drew = wB at *
        clear c2 c3 f3
        have HY := hide (And.intro YB YP)
        clear YB YP
        go_wp2_with fail
        refine (skip_any db ad _ c _ _ _ wB HY.out.1 (by omega) HR.out.le (by omega)).mono ?_
        rintro e wC ⟨rfl, ad', ha, hbl, ZB, ZP⟩
        have NR : Hid (Rnd w wC db rb rest rd last u (k + 1) (some ad') (c - 1)) := by
          have hC := HR.out.le
          have PAC := HY.out.2.trans ZP
          refine ⟨?_, by omega, ?_, fun a e => by cases e; rw [hbl]; exact Or.inr HBK.out, fun e => (by cases e), HX.out.2.2.trans PAC⟩
          · rw [rdAt_succ] at ZB
            rw [lastAt_succ, List.getD_eq_getElem?_getD, List.getElem?_eq_getElem hxk, Option.getD_some, show rest.length - (k + 1) = rest.length - k - 1 by omega]
            exact ZB
          · rcases ha with h0 | rfl
            · rw [List.drop_of_length_le (by omega)]; exact Rd.nil _ _
            · have := (HX.out.2.1.but PAC (fun a e => by cases e; exact hne)).later 1
              rw [← List.map_drop, List.drop_drop] at this
              exact this
        clear ha hbl ZB ZP
        go_wp2_with fail
        go_roundg (needB u width - (k + 1))
        case measure => omega
        case rel =>
          refine ⟨k + 1, some ad', c - 1, by omega, by omega, rfl, ?_, NR.out⟩
          rw [acc_take _ _ _ hxk, List.getD_eq_getElem?_getD, List.getElem?_eq_getElem hxk, Option.getD_some]
          simp
    · obtain rfl : k = needB u width := by omega
      have hge := needB_ge u width
      have hlt4 : needB u width ≤ 4 := by unfold needB; omega
      have f3 := hR.B.frozen 3
      have hsn := snum_acc last u rest (needB u width) hkr hb width hge
      have hsl := snum_lt last u rest 0 width
      have hse : (2 : Nat) ^ width ≤ 4294967296 := Nat.pow_le_pow_right (n := 2) (j := 32) (by decide) hw
      have HR := hide hR
      clear hR c0 c1 c2
      go_wp2_with fail
      go_ret2
      have e1 : wrap64 ((acc (last % 2 ^ u) (rest.take (needB u width)) : Nat) / 2 ^ (u + 8 * needB u width - width)) = ((snum last u rest 0 width : Nat) : Int) := by
        rw [hsn]
        have e2 : ((acc (last % 2 ^ u) (rest.take (needB u width)) : Nat) : Int) / 2 ^ (u + 8 * needB u width - width) = ((acc (last % 2 ^ u) (rest.take (needB u width)) / 2 ^ (u + 8 * needB u width - width) : Nat) : Int) := by simp
        rw [e2, ← hsn]
        unfold wrap64
        omega
      refine ⟨so, c, fun e => (HR.out.z e).2, Or.inl ⟨hkr, ?_, ?_, HR.out.le, HR.out.kept hrb ((But.refl (fun g => g = db) wr).setCell (p := ⟨db, 3, none⟩) (Or.inr rfl) _), HR.out.P.setCell (p := ⟨db, 3, none⟩) (Or.inr rfl) _, HR.out.n⟩⟩
      · simp [e1]
      · have := HR.out.B.set 3 (.int .i64 ((u : Int) + 8 * (needB u width : Int) - (width : Int)))
        simp only [dC, List.set_cons_succ, List.set_cons_zero] at this ⊢
        rw [show ((u + 8 * needB u width - width : Nat) : Int) = (u : Int) + 8 * (needB u width : Int) - (width : Int) by omega]
        exact this

end Go.Proofs.YbulkeekoFmt
