import Derived.Test.Qxb6609229aLab
import Derived.RegionTactic
import Derived.BigRegion
import Derived.ChangeAlike
namespace Go.Proofs.Qxb6609229a
open Go.ChangeShapes Go.WideShapes Go.ChangeAt Go.RowKit
set_option maxRecDepth 100000

theorem info29 : (Try.prog.info? 29).map (fun i => (i.zero, i.size, i.bytes)) = some (some (.agg #[.string ⟨#[]⟩, .bool false]), 2, 24) := by kernel_rfl

theorem mk2 (n : Nat) (hn : n ≤ 65536) (w : World) : (Instr.makeSlice 25 (.int .i64 (n : Int)) (.int .i64 (n : Int))).run Try.prog w = .ok (.slice (some ⟨w.heap.size, 0, none⟩) n n) (w.alloc (.cells (madeCells #[.string ⟨#[]⟩, .bool false] (n * 2)) 29)) := by
  obtain ⟨i, hi, hz, hs, hb⟩ := info_parts info29
  have hr := run_make (P := Try.prog) w 25 29 i _ Try.underlying25 hi hz .i64 .i64 n n (by omega) (Int.le_refl _) (by rw [hb]; omega) (by omega)
  simp only [Int.toNat_natCast, hs] at hr
  exact hr

/-- What has been turned so far. -/
def Ev (w wr : World) (n k : Nat) (S : Nat → ByteArray) (B : Nat → Bool) : Prop :=
  (∃ f, wr.rowIs w.heap.size 29 (n * 2) f ∧ ∀ i, i < k → f (i * 2) = .string (S i) ∧ f (i * 2 + 1) = .bool (B i)) ∧ Below w.heap.size w wr
theorem ev_start (w : World) (n : Nat) (S : Nat → ByteArray) (B : Nat → Bool) : Ev w (w.alloc (.cells (madeCells #[.string ⟨#[]⟩, .bool false] (n * 2)) 29)) n 0 S B := by
  have h := World.rowIs_alloc w (madeCells #[.string ⟨#[]⟩, .bool false] (n * 2)) 29 (fun i => (madeCells #[.string ⟨#[]⟩, .bool false] (n * 2)).getD i undef) (fun i hi => by simp [hi])
  rw [size_madeCells] at h
  exact ⟨⟨_, h, fun i hi => absurd hi (Nat.not_lt_zero _)⟩, (Below.refl _ _).alloc (Nat.le_refl _) _⟩
theorem Ev.next {w wr : World} {n k : Nat} {S : Nat → ByteArray} {B : Nat → Bool} (h : Ev w wr n k S B) :
    Ev w ((wr.setCell ⟨w.heap.size, k * 2, none⟩ (.string (S k))).setCell ⟨w.heap.size, k * 2 + 1, none⟩ (.bool (B k))) n (k + 1) S B := by
  obtain ⟨⟨f, h1, h2⟩, hB⟩ := h
  refine ⟨⟨_, (h1.set (k * 2) _).set (k * 2 + 1) _, fun i hi => ?_⟩, (hB.setCell (Nat.le_refl _) _).setCell (Nat.le_refl _) _⟩
  by_cases e : i = k
  · subst e
    exact ⟨by rw [if_neg (by omega), if_pos rfl], by rw [if_pos rfl]⟩
  · have := h2 i (by omega)
    exact ⟨by rw [if_neg (by omega), if_neg (by omega)]; exact this.1, by rw [if_neg (by omega), if_neg (by omega)]; exact this.2⟩
theorem Ev.drewN {w wr : World} {n k : Nat} {S : Nat → ByteArray} {B : Nat → Bool} (h : Ev w wr n k S B) : Ev w wr.drew n k S B := ⟨h.1, h.2.drew⟩

set_option maxHeartbeats 2000000 in
theorem f7_row (b off n c : Nat) (S : Nat → ByteArray) (B : Nat → Bool) (w : World) (hn : n ≤ 65536) (h : LabAt w b off n S B) :
    Calls Try.prog 7 #[.slice (some ⟨b, off, none⟩) n c] w fun e w' => e = .returned (.slice (some ⟨w.heap.size, 0, none⟩) n n) ∧ Hid (Ev w w' n n S B) := by
  obtain ⟨hb, hc0, hc1⟩ := h
  have hnil := fun (w : World) => Lib.run_eql_slice_nil (P := Try.prog) w 22 38 (some ⟨b, off, none⟩) n c 0 0 Try.underlying22
  have hmk := mk2 n hn
  go_enter Try.func7, Try.ntmps7
  go_wp2_with fail
  clear hmk hnil
  go_loopw [4] (fun i wr => ∃ (k : Nat), k ≤ n ∧ i = .int .i64 k ∧ Ev w wr n k S B) (fun i _ => n - (intOf i).toNat)
  case atStart => exact ⟨0, by omega, rfl, ev_start w n S B⟩
  case round =>
    obtain ⟨k, hk, rfl, hev⟩ := hrel
    by_cases hlt : k < n
    · have h0 : wr.cell? ⟨b, off + k * 2, none⟩ = some (.string (S k)) := (hev.2.cell (by exact hb)).trans (hc0 k hlt)
      have h1 : wr.cell? ⟨b, off + k * 2 + 1, none⟩ = some (.bool (B k)) := (hev.2.cell (by exact hb)).trans (hc1 k hlt)
      have hne : ¬ b = w.heap.size := by omega
      have hev' := (show Hid (Ev w ((wr.setCell ⟨w.heap.size, k * 2, none⟩ (.string (S k))).setCell ⟨w.heap.size, k * 2 + 1, none⟩ (.bool (B k))) n (k + 1) S B) from hev.next)
      obtain ⟨⟨f, hf, _⟩, _⟩ := hev
      have q0 := hf.cell (i := k * 2) (by omega)
      have q1 := hf.cell (i := k * 2 + 1) (by omega)
      have q2 := hf.frozen (k * 2)
      have q3 := hf.frozen (k * 2 + 1)
      have i0 : (0 : Int) ≤ (k : Int) := Int.natCast_nonneg _
      have i1 : (k : Int) < (n : Int) := by omega
      clear hc0 hc1 hf
      go_wp2_with fail
      go_region
      go_wp2_with fail
      go_roundw
      case rel => exact ⟨k + 1, by omega, by go_num, Ev.drewN hev'.out⟩
      case measure => simp [intOf]; omega
    · obtain rfl : k = n := by omega
      clear hc0 hc1
      have Hev := (show Hid (Ev w wr k k S B) from hev)
      clear hev
      go_wp2_with fail
      go_ret
      exact ⟨rfl, Hev⟩

set_option maxHeartbeats 2000000 in
theorem f7_nil (w : World) : Calls Try.prog 7 #[.slice none 0 0] w fun e w' => e = .returned (.slice none 0 0) ∧ w' = w := by
  have hnil := fun (w : World) => Lib.run_eql_slice_nil (P := Try.prog) w 22 38 none 0 0 0 0 Try.underlying22
  go_enter Try.func7, Try.ntmps7
  go_wp2
  go_ret
  exact ⟨rfl, rfl⟩

set_option maxHeartbeats 2000000 in
theorem f7_zero (ad : Addr) (c : Nat) (w : World) : Calls Try.prog 7 #[.slice (some ad) 0 c] w fun e w' => e = .returned (.slice (some ⟨w.heap.size, 0, none⟩) 0 0) ∧ Below w.heap.size w w' := by
  have hnil := fun (w : World) => Lib.run_eql_slice_nil (P := Try.prog) w 22 38 (some ad) 0 c 0 0 Try.underlying22
  have hmk : ∀ w, (Instr.makeSlice 25 (.int .i64 0) (.int .i64 0)).run Try.prog w = .ok (.slice (some ⟨w.heap.size, 0, none⟩) 0 0) (w.alloc (.cells (madeCells #[.string ⟨#[]⟩, .bool false] (0 * 2)) 29)) := mk2 0 (by omega)
  go_enter Try.func7, Try.ntmps7
  go_wp2
  refine wp_loop_rounds 1 ?_
  rw [rounds_succ]
  go_wp2
  go_ret
  exact ⟨rfl, (Below.refl _ _).alloc (Nat.le_refl _) _⟩

theorem Ev.lab {w wr : World} {n : Nat} {S : Nat → ByteArray} {B : Nat → Bool} (h : Ev w wr n n S B) : LabAt wr w.heap.size 0 n S B := by
  obtain ⟨⟨f, h1, h2⟩, _⟩ := h
  exact ⟨h1.lt, fun i hi => by rw [Nat.zero_add, h1.cell (by omega), (h2 i hi).1], fun i hi => by rw [Nat.zero_add, h1.cell (by omega), (h2 i hi).2]⟩

/-! ### slices.Equal -/
set_option maxHeartbeats 2000000 in
theorem f16_same (b off c b' off' c' n : Nat) (S : Nat → ByteArray) (B : Nat → Bool) (w : World) (hn : n ≤ 65536) (h : LabAt w b off n S B) (h' : LabAt w b' off' n S B) :
    Calls Try.prog 16 #[.slice (some ⟨b, off, none⟩) n c, .slice (some ⟨b', off', none⟩) n c'] w fun e w' => e = .returned (.bool true) ∧ ∃ m, w' = w.drewN m := by
  obtain ⟨_, hc0, hc1⟩ := h
  obtain ⟨_, hd0, hd1⟩ := h'
  have hne : ((n : Int) != (n : Int)) = false := by simp
  go_enter Try.func16, Try.ntmps16
  go_wp2_with fail
  go_loopw [5, 13] (fun _ i wr => ∃ (k m : Nat), k ≤ n ∧ i = .int .i64 k ∧ wr = w.drewN m) (fun _ i _ => n - (intOf i).toNat)
  case atStart => exact ⟨0, 0, by omega, rfl, rfl⟩
  case round =>
    obtain ⟨k, m, hk, rfl, hwr⟩ := hrel
    have HW : Hid (wr = w.drewN m) := hwr
    clear hwr
    by_cases hlt : k < n
    · have p0 : wr.cell? ⟨b, off + k * 2, none⟩ = some (.string (S k)) := by rw [HW.out]; exact hc0 k hlt
      have p1 : wr.cell? ⟨b, off + k * 2 + 1, none⟩ = some (.bool (B k)) := by rw [HW.out]; exact hc1 k hlt
      have p2 : wr.cell? ⟨b', off' + k * 2, none⟩ = some (.string (S k)) := by rw [HW.out]; exact hd0 k hlt
      have p3 : wr.cell? ⟨b', off' + k * 2 + 1, none⟩ = some (.bool (B k)) := by rw [HW.out]; exact hd1 k hlt
      have i0 : (0 : Int) ≤ (k : Int) := Int.natCast_nonneg _
      have i1 : (k : Int) < (n : Int) := by omega
      clear hc0 hc1 hd0 hd1
      go_wp2_with fail
      go_quiet (fail)
      go_wp2_with fail
      go_roundw
      case rel => exact ⟨k + 1, m + nq, by omega, by go_num, by rw [HW.out, World.drewN_drewN]⟩
      case measure => simp [intOf]; omega
    · clear hc0 hc1 hd0 hd1
      go_wp2_with fail
      go_ret
      exact ⟨rfl, m, HW.out⟩

set_option maxHeartbeats 2000000 in
theorem f16_zero (ao ao' : Option Addr) (c c' : Nat) (w : World) :
    Calls Try.prog 16 #[.slice ao 0 c, .slice ao' 0 c'] w fun e w' => e = .returned (.bool true) ∧ ∃ m, w' = w.drewN m := by
  go_enter Try.func16, Try.ntmps16
  go_wp2_with fail
  refine wp_loop_rounds 1 ?_
  rw [rounds_succ]
  go_wp2_with fail
  go_ret
  exact ⟨rfl, 0, rfl⟩

/-- The last mark parts. -/
theorem f16_diff (b off c b' off' c' n : Nat) (S : Nat → ByteArray) (B B' : Nat → Bool) (w : World) (hn : n ≤ 65536) (hpos : 0 < n) (h : LabAt w b off n S B) (h' : LabAt w b' off' n S B') (he : ∀ i, i + 1 < n → B' i = B i) (hl : B' (n - 1) = !(B (n - 1))) :
    Calls Try.prog 16 #[.slice (some ⟨b, off, none⟩) n c, .slice (some ⟨b', off', none⟩) n c'] w fun e w' => e = .returned (.bool false) ∧ ∃ m, w' = w.drewN m := by
  obtain ⟨_, hc0, hc1⟩ := h
  obtain ⟨_, hd0, hd1⟩ := h'
  have He := (show Hid (∀ i, i + 1 < n → B' i = B i) from he)
  have Hl := (show Hid (B' (n - 1) = !(B (n - 1))) from hl)
  clear he hl
  have hne : ((n : Int) != (n : Int)) = false := by simp
  go_enter Try.func16, Try.ntmps16
  go_wp2_with fail
  go_loopw [5, 13] (fun _ i wr => ∃ (k m : Nat), k < n ∧ i = .int .i64 k ∧ wr = w.drewN m) (fun _ i _ => n - (intOf i).toNat)
  case atStart => exact ⟨0, 0, hpos, rfl, rfl⟩
  case round =>
    obtain ⟨k, m, hlt, rfl, hwr⟩ := hrel
    have HW : Hid (wr = w.drewN m) := hwr
    clear hwr
    have p0 : wr.cell? ⟨b, off + k * 2, none⟩ = some (.string (S k)) := by rw [HW.out]; exact hc0 k hlt
    have p1 : wr.cell? ⟨b, off + k * 2 + 1, none⟩ = some (.bool (B k)) := by rw [HW.out]; exact hc1 k hlt
    have p2 : wr.cell? ⟨b', off' + k * 2, none⟩ = some (.string (S k)) := by rw [HW.out]; exact hd0 k hlt
    have p3 : wr.cell? ⟨b', off' + k * 2 + 1, none⟩ = some (.bool (B' k)) := by rw [HW.out]; exact hd1 k hlt
    have i0 : (0 : Int) ≤ (k : Int) := Int.natCast_nonneg _
    have i1 : (k : Int) < (n : Int) := by omega
    clear hc0 hc1 hd0 hd1
    by_cases hk : k + 1 < n
    · rw [He.out k hk] at p3
      go_wp2_with fail
      go_quiet (fail)
      go_wp2_with fail
      go_roundw
      case rel => exact ⟨k + 1, m + nq, by omega, by go_num, by rw [HW.out, World.drewN_drewN]⟩
      case measure => simp [intOf]; omega
    · have e : k = n - 1 := by omega
      have q3 : B' k = !(B k) := by rw [e]; exact Hl.out
      rw [q3] at p3
      clear e q3
      cases hB : B k
      all_goals
        rw [hB] at p1 p3
        clear hB
        simp only [Bool.not_true, Bool.not_false] at p3
        go_wp2_with fail
        go_quiet (fail)
        go_wp2_with fail
        go_ret
        exact ⟨rfl, m + nq, by rw [HW.out, World.drewN_drewN]⟩

/-! ### hasPrefix -/
theorem f14_short (a0 a1 : Option Addr) (n0 n1 c0 c1 : Nat) (w : World) (h : n0 < n1) :
    Calls Try.prog 14 #[.slice a0 n0 c0, .slice a1 n1 c1] w fun e w' => e = .returned (.bool false) ∧ ∃ m, w' = w.drewN m := by
  have hg : ¬ ((n1 : Int) ≤ (n0 : Int)) := by omega
  go_enter Try.func14, Try.ntmps14
  go_wp2_with fail
  go_ret
  exact ⟨rfl, 0, rfl⟩

theorem f14_some (b off n0 c0 n1 c1 : Nat) (a1 : Option Addr) (r : Bool) (w : World) (h : n1 ≤ n0) (hc : n0 ≤ c0) (h16 : Calls Try.prog 16 #[.slice (some ⟨b, off, none⟩) n1 c0, .slice a1 n1 c1] w fun e w' => e = .returned (.bool r) ∧ ∃ m, w' = w.drewN m) :
    Calls Try.prog 14 #[.slice (some ⟨b, off, none⟩) n0 c0, .slice a1 n1 c1] w fun e w' => e = .returned (.bool r) ∧ ∃ m, w' = w.drewN m := by
  have hg : (n1 : Int) ≤ (n0 : Int) := by omega
  have hg2 : (n1 : Int) ≤ (c0 : Int) := by omega
  have H16 := (show Hid (Calls Try.prog 16 #[.slice (some ⟨b, off, none⟩) n1 c0, .slice a1 n1 c1] w fun e w' => e = .returned (.bool r) ∧ ∃ m, w' = w.drewN m) from h16)
  clear h16
  go_enter Try.func14, Try.ntmps14
  go_wp2_with fail
  refine H16.out.mono ?_
  rintro e w' ⟨rfl, m, rfl⟩
  go_wp2
  go_ret
  exact ⟨rfl, m, rfl⟩

theorem f14_none (n1 c1 : Nat) (a1 : Option Addr) (w : World) (h : n1 = 0) :
    Calls Try.prog 14 #[.slice none 0 0, .slice a1 n1 c1] w fun e w' => e = .returned (.bool true) ∧ ∃ m, w' = w.drewN m := by
  subst h
  go_enter Try.func14, Try.ntmps14
  go_wp2_with fail
  refine (f16_zero _ _ _ _ _).mono ?_
  rintro e w' ⟨rfl, m, rfl⟩
  go_wp2
  go_ret
  exact ⟨rfl, m, rfl⟩

theorem f8_any (a0 a1 : Option Addr) (n0 n1 c0 c1 : Nat) (r : Bool) (w : World) (h14 : Calls Try.prog 14 #[.slice a0 n0 c0, .slice a1 n1 c1] w fun e w' => e = .returned (.bool r) ∧ ∃ m, w' = w.drewN m) :
    Calls Try.prog 8 #[.slice a0 n0 c0, .slice a1 n1 c1] w fun e w' => e = .returned (.bool r) ∧ ∃ m, w' = w.drewN m := by
  have H14 := (show Hid (Calls Try.prog 14 #[.slice a0 n0 c0, .slice a1 n1 c1] w fun e w' => e = .returned (.bool r) ∧ ∃ m, w' = w.drewN m) from h14)
  clear h14
  go_enter Try.func8, Try.ntmps8
  go_wp2_with fail
  refine H14.out.mono ?_
  rintro e w' ⟨rfl, m, rfl⟩
  go_wp2
  go_ret
  exact ⟨rfl, m, rfl⟩
end Go.Proofs.Qxb6609229a
