import Derived.Test.Qxb6612437aCls
namespace Go.Proofs.Qxb6612437a
open Go.ChangeShapes Go.WideShapes Go.ChangeAt Go.RowKit
set_option maxRecDepth 100000

/-- What the first loop has filled so far. -/
def Fill (w wr : World) (n k : Nat) (S : Nat → ByteArray) (B : Nat → Bool) : Prop :=
  wr.rowIs w.heap.size 9 n (fun j => if j < k then .string (S j) else .string ⟨#[]⟩) ∧ wr.rowIs (w.heap.size + 1) 4 n (fun j => if j < k then .bool (B j) else .bool false) ∧ Below w.heap.size w wr

theorem fill_start (w : World) (n : Nat) (S : Nat → ByteArray) (B : Nat → Bool) : Fill w ((w.alloc (.cells (madeCells #[.string ⟨#[]⟩] n) 9)).alloc (.cells (madeCells #[.bool false] n) 4)) n 0 S B := by
  refine ⟨?_, ?_, ((Below.refl _ _).alloc (Nat.le_refl _) _).alloc (by simp) _⟩
  · exact ((World.rowIs_made w (.string ⟨#[]⟩) n 9).alloc _).congr (fun i _ => by simp)
  · have := World.rowIs_made (w.alloc (.cells (madeCells #[.string ⟨#[]⟩] n) 9)) (.bool false) n 4
    rw [World.size_alloc] at this
    exact this.congr (fun i _ => by simp)

theorem fill_next {w wr : World} {n k : Nat} {S : Nat → ByteArray} {B : Nat → Bool} (h : Fill w wr n k S B) :
    Fill w ((wr.setCell ⟨w.heap.size, k, none⟩ (.string (S k))).setCell ⟨w.heap.size + 1, k, none⟩ (.bool (B k))) n (k + 1) S B := by
  obtain ⟨h1, h2, h3⟩ := h
  refine ⟨?_, ?_, (h3.setCell (by simp) _).setCell (by simp) _⟩
  · refine ((h1.set k (.string (S k))).setOther (by simp) _).congr (fun j _ => ?_)
    by_cases e : j = k
    · subst e; simp
    · by_cases e2 : j < k
      · simp [e, e2, Nat.lt_succ_of_lt e2]
      · rw [if_neg e, if_neg e2, if_neg (by omega)]
  · refine ((h2.setOther (by simp) _).set k (.bool (B k))).congr (fun j _ => ?_)
    by_cases e : j = k
    · subst e; simp
    · by_cases e2 : j < k
      · simp [e, e2, Nat.lt_succ_of_lt e2]
      · rw [if_neg e, if_neg e2, if_neg (by omega)]

theorem fill_strs {w wr : World} {n : Nat} {S : Nat → ByteArray} {B : Nat → Bool} (h : Fill w wr n n S B) : Lst wr (some ⟨w.heap.size, 0, none⟩) n S :=
  .inr ⟨w.heap.size, 0, rfl, h.1.lt, fun i hi => by rw [Nat.zero_add, h.1.cell hi, if_pos hi]⟩
theorem fill_bools {w wr : World} {n : Nat} {S : Nat → ByteArray} {B : Nat → Bool} (h : Fill w wr n n S B) :
    n = 0 ∨ ∃ b off, (some ⟨w.heap.size + 1, 0, none⟩ : Option Addr) = some ⟨b, off, none⟩ ∧ b < wr.heap.size ∧ ∀ i, i < n → wr.cell? ⟨b, off + i, none⟩ = some (.bool (B i)) :=
  .inr ⟨w.heap.size + 1, 0, rfl, h.2.1.lt, fun i hi => by rw [Nat.zero_add, h.2.1.cell hi, if_pos hi]⟩

theorem Terms.below {w w' : World} {T n : Nat} {S : Nat → ByteArray} (h : Terms w T n S) (hb : Below w.heap.size w w') : Terms w' T n S := by
  obtain ⟨ao, c, hT, h⟩ := h
  refine ⟨ao, c, (hb.cell (World.block_lt_of_cell? w _ hT)).trans hT, ?_⟩
  rcases h with h | ⟨g, e, hg, h0, h1⟩
  · exact .inl h
  · exact .inr ⟨g, e, Nat.lt_of_lt_of_le hg hb.size, fun i hi => (hb.cell (by exact hg)).trans (h0 i hi), fun i hi => by
      obtain ⟨a, l, cp, h⟩ := h1 i hi
      exact ⟨a, l, cp, (hb.cell (by exact hg)).trans h⟩⟩

theorem terms_drewN {w : World} {T n m : Nat} {S : Nat → ByteArray} (h : Terms w T n S) : Terms (w.drewN m) T n S := h
theorem lst_drewN {w : World} {ao : Option Addr} {n m : Nat} {S : Nat → ByteArray} (h : Lst w ao n S) : Lst (w.drewN m) ao n S := h

/-- What the second loop has marked so far: from j on the names stand as they were. -/
def Mark (w4 wr : World) (n j : Nat) (S : Nat → ByteArray) : Prop :=
  (∃ xs, wr.ownsRow w4.heap.size 9 1 (.slice (some ⟨w4.heap.size, 0, none⟩) n n) n xs ∧ ∀ i, j ≤ i → i < n → xs[i]? = some (.string (S i))) ∧ Below w4.heap.size w4 wr

theorem mark_start {w4 w5 : World} {n : Nat} {S : Nat → ByteArray} (h : w5.ownsRow w4.heap.size 9 1 (.slice (some ⟨w4.heap.size, 0, none⟩) n n) n (strs S n)) (hb : Below w4.heap.size w4 w5) (m : Nat) : Mark w4 (w5.drewN m) n 0 S :=
  ⟨⟨strs S n, h, fun i _ hi => by simp [strs, hi]⟩, below_drewN hb m⟩
theorem Mark.cell {w4 wr : World} {n j : Nat} {S : Nat → ByteArray} (h : Mark w4 wr n j S) (hj : j < n) : wr.cell? ⟨w4.heap.size, j, none⟩ = some (.string (S j)) := by
  obtain ⟨⟨xs, ho, hx⟩, _⟩ := h
  rw [ho.cellAt j (by omega)]
  exact hx j (Nat.le_refl _) hj
theorem Mark.frozen {w4 wr : World} {n j : Nat} {S : Nat → ByteArray} (h : Mark w4 wr n j S) : wr.frozen? ⟨w4.heap.size, j, none⟩ = false := by
  obtain ⟨⟨xs, ho, hx⟩, _⟩ := h
  exact ho.frozenAt j
theorem Mark.next {w4 wr : World} {n j : Nat} {S : Nat → ByteArray} (h : Mark w4 wr n j S) (u : Value) : Mark w4 (wr.setCell ⟨w4.heap.size, j, none⟩ u) n (j + 1) S := by
  obtain ⟨⟨xs, ho, hx⟩, hb⟩ := h
  refine ⟨⟨_, (ho.stored j u).1, fun i hi hin => ?_⟩, hb.setCell (by simp) _⟩
  rw [List.getElem?_set_ne (by omega)]
  exact hx i (by omega) hin

set_option maxHeartbeats 4000000 in
theorem walk2_row (b off n c : Nat) (S : Nat → ByteArray) (B : Nat → Bool) (w : World) (hb : b < w.heap.size) (hc0 : ∀ i, i < n → w.cell? ⟨b, off + i * 2, none⟩ = some (.string (S i))) (hc1 : ∀ i, i < n → w.cell? ⟨b, off + i * 2 + 1, none⟩ = some (.bool (B i))) :
    Calls Try.prog 4 #[.slice (some ⟨b, off, none⟩) n c] w fun e w' => e = .returned (.bool true) ∧ Below w.heap.size w w' := by
  by_cases hn : (65536 : Int) < (n : Int)
  · go_enter Try.func4, Try.ntmps4
    go_wp2_with fail
    refine (f10_row b off n c S w hc0).mono ?_
    rintro e w' ⟨⟨r, rfl, _⟩, rfl⟩
    cases r
    all_goals
      go_wp2
      go_ret
      exact ⟨rfl, Below.refl _ _⟩
  have hn' : decide ((65536 : Int) < (n : Int)) = false := decide_eq_false hn
  have hmk1 := run_make_row' (P := Try.prog) 22 9 (.string ⟨#[]⟩) 16 Try.underlying22 Try.info9 rfl .i64 .i64 n (by omega) (by omega)
  have hmk2 := run_make_row' (P := Try.prog) 27 4 (.bool false) 1 Try.underlying27 Try.info4 rfl .i64 .i64 n (by omega) (by omega)
  go_enter Try.func4, Try.ntmps4
  go_wp2_with fail
  refine (f10_row b off n c S w hc0).mono ?_
  rintro e w' ⟨⟨r, rfl, hfit⟩, hw⟩
  subst hw
  cases r
  · go_wp2
    go_ret
    exact ⟨rfl, Below.refl _ _⟩
  have Hfit : Hid (∀ i, i < n → (S i).size ≤ 1048576) := hfit rfl
  clear hfit
  go_wp2_with fail
  refine (f11_row b off n c S _ (by omega) hc0).mono ?_
  rintro e w ⟨⟨z, rfl⟩, rfl⟩
  by_cases hz : (1048576 : Int) < z
  · go_wp2
    go_ret
    exact ⟨rfl, Below.refl _ _⟩
  have hz' : decide ((1048576 : Int) < z) = false := decide_eq_false hz
  go_wp2_with fail
  clear hmk1 hmk2
  go_loopw [5, 28] (fun _ i wr => ∃ (k : Nat), k ≤ n ∧ i = .int .i64 k ∧ Fill w wr n k S B) (fun _ i _ => n - (intOf i).toNat)
  case atStart => exact ⟨0, Nat.zero_le _, rfl, fill_start w n S B⟩
  case round =>
    obtain ⟨k, hk, rfl, hfill⟩ := hrel
    by_cases hlt : k < n
    · have h0 : wr.cell? ⟨b, off + k * 2, none⟩ = some (.string (S k)) := (hfill.2.2.cell (by exact hb)).trans (hc0 k hlt)
      have h1 : wr.cell? ⟨b, off + k * 2 + 1, none⟩ = some (.bool (B k)) := (hfill.2.2.cell (by exact hb)).trans (hc1 k hlt)
      have g1 := hfill.1.cell hlt
      have g2 := hfill.2.1.cell hlt
      have e1 := hfill.1.frozen k
      have e2 := hfill.2.1.frozen k
      have hne : ¬ b = w.heap.size := by omega
      clear hc0 hc1
      go_wp2_with fail
      go_roundw
      case rel => exact ⟨k + 1, by omega, by go_num, fill_next hfill⟩
      case measure => simp [intOf]; omega
    · obtain rfl : k = n := by omega
      clear hc0 hc1 hlt hk
      go_wp2_with fail
      refine (f7_any _ _ k k k S B wr (by omega) (fill_strs hfill) (fill_bools hfill)).mono ?_
      rintro e w4 ⟨rfl, hT4, hB34⟩
      have hB3 : Below w.heap.size w wr := hfill.2.2
      have hL4 : Lst w4 (some ⟨w.heap.size, 0, none⟩) k S := (fill_strs hfill).below hB34
      clear hfill
      obtain ⟨T, hTe⟩ : ∃ T, T = wr.heap.size + 1 := ⟨_, rfl⟩
      rw [← hTe] at hT4 ⊢
      have hB4 : Below w.heap.size w w4 := hB3.trans (hB34.mono hB3.size)
      clear hTe hB34 hB3
      go_wp2_with fail
      refine (f8_any _ k S w4 (by omega) hT4).mono ?_
      rintro e w5 ⟨rfl, hown5, hB45⟩
      go_wp2_with fail
      refine (f9_any _ _ k k k S w5 (by omega) (Lst.own hown5) (hL4.below hB45)).mono ?_
      rintro e w6 ⟨rfl, m, rfl⟩
      go_wp2_with fail
      have hM0 := mark_start hown5 hB45 m
      clear hown5 hB45
      obtain ⟨n, hne⟩ : ∃ n, n = k := ⟨_, rfl⟩
      subst hne
      go_loopw [8, 59] (fun _ i wr => ∃ (j : Nat), j ≤ n ∧ i = .int .i64 j ∧ Mark w4 wr n j S) (fun _ i _ => n - (intOf i).toNat)
      case atStart => exact ⟨0, Nat.zero_le _, rfl, hM0⟩
      case round =>
        obtain ⟨j, hj, rfl, hmark⟩ := hrel
        clear hM0
        by_cases hlt : j < n
        · have h0 := hmark.cell hlt
          have h1 := hmark.frozen (j := j)
          have hs := Hfit.out j hlt
          go_wp2_with fail
          go_roundw
          case rel => exact ⟨j + 1, by omega, by go_num, hmark.next _⟩
          case measure => simp [intOf]; omega
        · obtain ⟨wo, hwo⟩ : ∃ wo : World, wo = wr := ⟨_, rfl⟩
          subst hwo
          have hBo := hmark.2
          have hT5 := hT4.below hBo
          have hL5 := hL4.below hBo
          have hB5 : Below w.heap.size w wo := hB4.trans (hBo.mono hB4.size)
          clear hmark hBo hT4 hL4 hB4
          go_wp2_with fail
          clear hlt
          go_loopw [9, 73] (fun _ i wr => ∃ (k m : Nat), k ≤ n ∧ i = .int .i64 k ∧ wr = wo.drewN m) (fun _ i _ => n - (intOf i).toNat)
          case atStart => exact ⟨0, 0, Nat.zero_le _, rfl, rfl⟩
          case round =>
            obtain ⟨k, m, hk, rfl, hwr⟩ := hrel
            have hT6 : Terms wr T n S := by rw [hwr]; exact terms_drewN hT5
            have hL6 : Lst wr (some ⟨w.heap.size, 0, none⟩) n S := by rw [hwr]; exact lst_drewN hL5
            have HW : Hid (wr = wo.drewN m) := hwr
            clear hwr hT5 hL5
            by_cases hlt : k < n
            · rcases hL6 with h0 | ⟨b1, off1, e1, _, hcell⟩
              · omega
              cases e1
              have hck := hcell k hlt
              have hcz : wr.cell? ⟨w.heap.size, k, none⟩ = some (.string (S k)) := by rw [Nat.zero_add] at hck; exact hck
              clear hck hcell
              have i0 : (0 : Int) ≤ (k : Int) := Int.natCast_nonneg _
              have i1 : (k : Int) < (n : Int) := by omega
              go_wp2_with fail
              go_quiet ((go_at_call 12; refine Calls.quiet_of_same (f12_any T n k S _ ?_ hlt); exact terms_drewN hT6))
              go_wp2_with fail
              go_roundw
              case rel => exact ⟨k + 1, m + nq, by omega, by go_num, by rw [HW.out, World.drewN_drewN]⟩
              case measure => simp [intOf]; omega
            · have hB6 : Below w.heap.size w wr := by rw [HW.out]; exact below_drewN hB5 m
              clear HW
              go_wp2_with fail
              refine (f8_any _ n S wr (by omega) hT6).mono ?_
              rintro e w7 ⟨rfl, hown7, hB67⟩
              have hB7 : Below w.heap.size w w7 := hB6.trans (hB67.mono hB6.size)
              go_wp2_with fail
              refine (f9_any _ _ n n n S w7 (by omega) (Lst.own hown7) (hL6.below hB67)).mono ?_
              rintro e w8 ⟨rfl, m8, rfl⟩
              go_wp2
              go_ret
              exact ⟨rfl, below_drewN hB7 m8⟩

set_option maxHeartbeats 4000000 in
theorem walk2_zero (ao : Option Addr) (c : Nat) (w : World) :
    Calls Try.prog 4 #[.slice ao 0 c] w fun e w' => e = .returned (.bool true) ∧ Below w.heap.size w w' := by
  have hmk1 : ∀ w, (Instr.makeSlice 22 (.int .i64 0) (.int .i64 0)).run Try.prog w = .ok (.slice (some ⟨w.heap.size, 0, none⟩) 0 0) (w.alloc (.cells (madeCells #[.string ⟨#[]⟩] 0) 9)) := run_make_row' (P := Try.prog) 22 9 (.string ⟨#[]⟩) 16 Try.underlying22 Try.info9 rfl .i64 .i64 0 (by omega) (by omega)
  have hmk2 : ∀ w, (Instr.makeSlice 27 (.int .i64 0) (.int .i64 0)).run Try.prog w = .ok (.slice (some ⟨w.heap.size, 0, none⟩) 0 0) (w.alloc (.cells (madeCells #[.bool false] 0) 4)) := run_make_row' (P := Try.prog) 27 4 (.bool false) 1 Try.underlying27 Try.info4 rfl .i64 .i64 0 (by omega) (by omega)
  have hlst : ∀ (w : World) (ao : Option Addr), Lst w ao 0 (fun _ => ByteArray.empty) := fun _ _ => .inl rfl
  go_enter Try.func4, Try.ntmps4
  go_wp2_with fail
  refine (f10_any ao 0 c (fun _ => ByteArray.empty) (fun _ => false) w (.inl rfl)).mono ?_
  rintro e w' ⟨⟨r, rfl, hfit⟩, hw⟩
  subst hw
  cases r
  · go_wp2
    go_ret
    exact ⟨rfl, Below.refl _ _⟩
  clear hfit
  go_wp2_with fail
  refine (f11_any ao 0 c (fun _ => ByteArray.empty) (fun _ => false) _ (by omega) (.inl rfl)).mono ?_
  rintro e w ⟨⟨z, rfl⟩, rfl⟩
  by_cases hz : (1048576 : Int) < z
  · go_wp2
    go_ret
    exact ⟨rfl, Below.refl _ _⟩
  have hz' : decide ((1048576 : Int) < z) = false := decide_eq_false hz
  go_wp2_with fail
  clear hmk1 hmk2
  refine wp_loop_rounds 1 ?_
  rw [rounds_succ]
  go_wp2_with fail
  have hB3 : Below w.heap.size w ((w.alloc (.cells (madeCells #[.string ⟨#[]⟩] 0) 9)).alloc (.cells (madeCells #[.bool false] 0) 4)) := ((Below.refl _ _).alloc (Nat.le_refl _) _).alloc (by simp) _
  refine (f7_any _ _ 0 0 0 (fun _ => ByteArray.empty) (fun _ => false) _ (by omega) (hlst _ _) (.inl rfl)).mono ?_
  rintro e w4 ⟨rfl, hT4, hB34⟩
  obtain ⟨T, hTe⟩ : ∃ T, T = ((w.alloc (.cells (madeCells #[.string ⟨#[]⟩] 0) 9)).alloc (.cells (madeCells #[.bool false] 0) 4)).heap.size + 1 := ⟨_, rfl⟩
  rw [← hTe] at hT4 ⊢
  have hB4 : Below w.heap.size w w4 := hB3.trans (hB34.mono hB3.size)
  clear hTe hB34 hB3
  go_wp2_with fail
  refine (f8_any _ 0 _ w4 (by omega) hT4).mono ?_
  rintro e w5 ⟨rfl, hown5, hB45⟩
  have hB5 : Below w.heap.size w w5 := hB4.trans (hB45.mono hB4.size)
  have hT5 := hT4.below hB45
  clear hT4 hown5 hB45 hB4
  go_wp2_with fail
  refine (f9_any _ _ 0 0 0 _ w5 (by omega) (hlst _ _) (hlst _ _)).mono ?_
  rintro e w6 ⟨rfl, m, hw6⟩
  have hT6 : Terms w6 T 0 (fun _ => ByteArray.empty) := by rw [hw6]; exact terms_drewN hT5
  have hB6 : Below w.heap.size w w6 := by rw [hw6]; exact below_drewN hB5 m
  clear hw6 hT5 hB5
  go_wp2_with fail
  refine wp_loop_rounds 1 ?_
  rw [rounds_succ]
  go_wp2_with fail
  refine wp_loop_rounds 1 ?_
  rw [rounds_succ]
  go_wp2_with fail
  refine (f8_any _ 0 _ w6 (by omega) hT6).mono ?_
  rintro e w7 ⟨rfl, hown7, hB67⟩
  have hB7 : Below w.heap.size w w7 := hB6.trans (hB67.mono hB6.size)
  go_wp2_with fail
  refine (f9_any _ _ 0 0 0 _ w7 (by omega) (hlst _ _) (hlst _ _)).mono ?_
  rintro e w8 ⟨rfl, m8, rfl⟩
  go_wp2
  go_ret
  exact ⟨rfl, below_drewN hB7 m8⟩

theorem walk2_any (ao : Option Addr) (n c : Nat) (S : Nat → ByteArray) (B : Nat → Bool) (w : World) (h : Cls w ao n S B) :
    Calls Try.prog 4 #[.slice ao n c] w fun e w' => e = .returned (.bool true) ∧ Below w.heap.size w w' := by
  rcases h with rfl | ⟨b, off, rfl, hb, h0, h1⟩
  · exact walk2_zero ao c w
  · exact walk2_row b off n c S B w hb h0 h1

end Go.Proofs.Qxb6612437a
