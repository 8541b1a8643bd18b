import Derived.Test.Qxb6609229aJoin
namespace Go.Proofs.Qxb6609229a
open Go.ChangeShapes Go.WideShapes Go.ChangeAt Go.RowKit
set_option maxRecDepth 100000

set_option maxHeartbeats 4000000 in
theorem walk3_none (a0 a1 : Option Addr) (np nr c0 c1 : Nat) (S0 S1 : Nat → ByteArray) (B0 B1 : Nat → Bool) (w : World) (hz : ¬ ((0 : Int) < (np : Int))) (h0 : Came w a0 np c0 S0 B0) (h1 : Came w a1 nr c1 S1 B1) :
    Calls Try.prog 3 #[.slice a0 np c0, .slice a1 nr c1] w fun e w' => e = .returned (.bool true) ∧ Below w.heap.size w w' := by
  obtain ⟨i0, hi, hz0, hz1, hz2⟩ := info_parts info29
  have H0 : Hid (Came w a0 np c0 S0 B0) := h0
  have H1 : Hid (Came w a1 nr c1 S1 B1) := h1
  clear h0 h1
  obtain ⟨r, hr⟩ : ∃ r, ((nr : Int) == 0) = r := ⟨_, rfl⟩
  go_enter Try.func3, Try.ntmps3
  go_wp2_with fail
  refine (f5_any a0 a1 np nr c0 c1 S0 S1 B0 B1 w H0.out.lab H1.out.lab).mono ?_
  rintro e wq ⟨⟨r5, rfl⟩, hwq⟩
  rw [hwq]
  clear hwq wq
  cases r5
  · go_wp2
    go_ret
    exact ⟨rfl, Below.refl _ _⟩
  by_cases hnp : (65536 : Int) < ((np : Nat) : Int)
  · go_wp2
    go_ret
    exact ⟨rfl, Below.refl _ _⟩
  by_cases hnr : (65536 : Int) < (nr : Int)
  · go_wp2
    go_ret
    exact ⟨rfl, Below.refl _ _⟩
  go_wp2_with fail
  refine (f6_any a0 np c0 S0 B0 _ (by omega) H0.out.lab).mono ?_
  rintro e wq ⟨⟨z0, rfl⟩, hwq⟩
  rw [hwq]
  clear hwq wq
  go_wp2_with fail
  refine (f6_any a1 nr c1 S1 B1 _ (by omega) H1.out.lab).mono ?_
  rintro e wq ⟨⟨z1, rfl⟩, hwq⟩
  rw [hwq]
  clear hwq wq
  by_cases hzz : (1048576 : Int) < wrap64 (z0 + z1)
  · go_wp2
    go_ret
    exact ⟨rfl, Below.refl _ _⟩
  go_wp2_with (at_make; refine wpList_make_own _ rfl _ _ 25 rfl w.heap.size 29 i0 (.agg #[.string ⟨#[]⟩, .bool false]) 2 Try.underlying25 hi hz0 hz1 _ _ _ (np + nr) rfl rfl (by omega) (by rw [hz2]; omega) (by unfold maxLen; omega) (Nat.le_refl _) ?_; intro w1 hown1 hgrow1)
  clear hzz
  have HB1 : Hid (Below w.heap.size w w1) := (Below.refl _ _).grown hgrow1 (Nat.le_refl _) (by simp)
  clear hgrow1
  obtain ⟨W, hW⟩ : ∃ W, W = w.heap.size := ⟨_, rfl⟩
  rw [← hW] at hown1 ⊢
  have HWw : Hid (W = w.heap.size) := hW
  clear hW
  have HO1 : Hid (w1.ownsRow W 29 2 (.slice (some ⟨W, 0, none⟩) 0 (np + nr)) 0 []) := hown1
  clear hown1
  refine (f7_any a0 np c0 S0 B0 _ (by omega) (H0.out.below HB1.out)).mono ?_
  rintro e w2 ⟨⟨ao, rfl, ho2⟩, hB2⟩
  have hown2 := ownsRow_below HO1.out hB2
  have HB2 : Hid (Below w.heap.size w w2) := HB1.out.trans (hB2.mono HB1.out.size)
  have HO2 : Hid (Out w2 ao np S0 B0) := ho2
  clear HB1 HO1 ho2 hB2
  go_wp2_with (at_builtin; refine wpList_append_fits_any _ rfl _ _ 25 rfl W 29 i0 2 Try.underlying25 hi hz1 W 0 (np + nr) [] rfl hown2 ao np np (labs S0 B0 np) rfl (labs_length S0 B0 np) (out_none HO2.out) (out_cells HO2.out) (labs_one S0 B0 np) (by omega) ?_; intro w3 hown3 hgrow3)
  have HO3 : Hid (w3.ownsRow W 29 2 (.slice (some ⟨W, 0, none⟩) np (np + nr)) np (labs S0 B0 np)) := by
    simp only [Nat.zero_add, List.nil_append] at hown3
    exact hown3
  have HB3 : Hid (Below w.heap.size w w3) := HB2.out.grown hgrow3 HB2.out.size (fun k hk => by have := HWw.out; cases hk; omega)
  clear hown3 hgrow3 hown2 HB2 HO2
  refine (f7_any a1 nr c1 S1 B1 _ (by omega) (H1.out.below HB3.out)).mono ?_
  rintro e w4 ⟨⟨ao', rfl, ho4⟩, hB4⟩
  have hown4 := ownsRow_below HO3.out hB4
  have HB4 : Hid (Below w.heap.size w w4) := HB3.out.trans (hB4.mono HB3.out.size)
  have HO4 : Hid (Out w4 ao' nr S1 B1) := ho4
  clear HB3 HO3 ho4 hB4
  go_wp2_with (at_builtin; refine wpList_append_fits_any _ rfl _ _ 25 rfl W 29 i0 2 Try.underlying25 hi hz1 W np (np + nr) (labs S0 B0 np) rfl hown4 ao' nr nr (labs S1 B1 nr) rfl (labs_length S1 B1 nr) (out_none HO4.out) (out_cells HO4.out) (labs_one S1 B1 nr) (by omega) ?_; intro w5 hown5 hgrow5)
  have HL5 : Hid (LabAt w5 W 0 np S0 B0) := joined hown5
  have HB5 : Hid (Below w.heap.size w w5) := HB4.out.grown hgrow5 HB4.out.size (fun k hk => by have := HWw.out; cases hk; omega)
  clear hown5 hgrow5 hown4 HB4 HO4
  refine (f7_any a0 np c0 S0 B0 _ (by omega) (H0.out.below HB5.out)).mono ?_
  rintro e w6 ⟨⟨aoq, rfl, ho6⟩, hB6⟩
  have HL6 : Hid (LabAt w6 W 0 np S0 B0) := HL5.out.below hB6
  have HB6 : Hid (Below w.heap.size w w6) := HB5.out.trans (hB6.mono HB5.out.size)
  have HO6 : Hid (Out w6 aoq np S0 B0) := ho6
  clear HB5 HL5 ho6 hB6
  go_wp2_with fail
  refine (whole_q W np nr aoq S0 B0 w6 (by omega) HL6.out HO6.out).mono ?_
  rintro e w7 ⟨rfl, m7, hw7⟩
  have hB7 : Below w6.heap.size w6 w7 := by rw [hw7]; exact below_drewN (Below.refl _ _) m7
  have HL7 : Hid (LabAt w7 W 0 np S0 B0) := HL6.out.below hB7
  have HB7 : Hid (Below w.heap.size w w7) := HB6.out.trans (hB7.mono HB6.out.size)
  have HO7 : Hid (Out w7 aoq np S0 B0) := HO6.out.below hB7
  clear HB6 HL6 HO6 hw7 hB7
  go_wp2_with fail
  refine (q_whole W np nr aoq S0 B0 r w7 hr (by omega) HL7.out HO7.out).mono ?_
  rintro e w8 ⟨rfl, m8, hw8⟩
  have hB8 : Below w7.heap.size w7 w8 := by rw [hw8]; exact below_drewN (Below.refl _ _) m8
  have HL8 : Hid (LabAt w8 W 0 np S0 B0) := HL7.out.below hB8
  have HB8 : Hid (Below w.heap.size w w8) := HB7.out.trans (hB8.mono HB7.out.size)
  clear HB7 HL7 HO7 hw8 hB8
  go_wp2_with fail
  go_ret
  exact ⟨rfl, HB8.out⟩


set_option maxHeartbeats 4000000 in
theorem walk3_some (a0 a1 : Option Addr) (np nr c0 c1 : Nat) (S0 S1 : Nat → ByteArray) (B0 B1 : Nat → Bool) (w : World) (hz : (0 : Int) < (np : Int)) (h0 : Came w a0 np c0 S0 B0) (h1 : Came w a1 nr c1 S1 B1) :
    Calls Try.prog 3 #[.slice a0 np c0, .slice a1 nr c1] w fun e w' => e = .returned (.bool true) ∧ Below w.heap.size w w' := by
  obtain ⟨i0, hi, hz0, hz1, hz2⟩ := info_parts info29
  have H0 : Hid (Came w a0 np c0 S0 B0) := h0
  have H1 : Hid (Came w a1 nr c1 S1 B1) := h1
  clear h0 h1
  obtain ⟨r, hr⟩ : ∃ r, ((nr : Int) == 0) = r := ⟨_, rfl⟩
  go_enter Try.func3, Try.ntmps3
  go_wp2_with fail
  refine (f5_any a0 a1 np nr c0 c1 S0 S1 B0 B1 w H0.out.lab H1.out.lab).mono ?_
  rintro e wq ⟨⟨r5, rfl⟩, hwq⟩
  rw [hwq]
  clear hwq wq
  cases r5
  · go_wp2
    go_ret
    exact ⟨rfl, Below.refl _ _⟩
  by_cases hnp : (65536 : Int) < ((np : Nat) : Int)
  · go_wp2
    go_ret
    exact ⟨rfl, Below.refl _ _⟩
  by_cases hnr : (65536 : Int) < (nr : Int)
  · go_wp2
    go_ret
    exact ⟨rfl, Below.refl _ _⟩
  go_wp2_with fail
  refine (f6_any a0 np c0 S0 B0 _ (by omega) H0.out.lab).mono ?_
  rintro e wq ⟨⟨z0, rfl⟩, hwq⟩
  rw [hwq]
  clear hwq wq
  go_wp2_with fail
  refine (f6_any a1 nr c1 S1 B1 _ (by omega) H1.out.lab).mono ?_
  rintro e wq ⟨⟨z1, rfl⟩, hwq⟩
  rw [hwq]
  clear hwq wq
  by_cases hzz : (1048576 : Int) < wrap64 (z0 + z1)
  · go_wp2
    go_ret
    exact ⟨rfl, Below.refl _ _⟩
  go_wp2_with (at_make; refine wpList_make_own _ rfl _ _ 25 rfl w.heap.size 29 i0 (.agg #[.string ⟨#[]⟩, .bool false]) 2 Try.underlying25 hi hz0 hz1 _ _ _ (np + nr) rfl rfl (by omega) (by rw [hz2]; omega) (by unfold maxLen; omega) (Nat.le_refl _) ?_; intro w1 hown1 hgrow1)
  clear hzz
  have HB1 : Hid (Below w.heap.size w w1) := (Below.refl _ _).grown hgrow1 (Nat.le_refl _) (by simp)
  clear hgrow1
  obtain ⟨W, hW⟩ : ∃ W, W = w.heap.size := ⟨_, rfl⟩
  rw [← hW] at hown1 ⊢
  have HWw : Hid (W = w.heap.size) := hW
  clear hW
  have HO1 : Hid (w1.ownsRow W 29 2 (.slice (some ⟨W, 0, none⟩) 0 (np + nr)) 0 []) := hown1
  clear hown1
  refine (f7_any a0 np c0 S0 B0 _ (by omega) (H0.out.below HB1.out)).mono ?_
  rintro e w2 ⟨⟨ao, rfl, ho2⟩, hB2⟩
  have hown2 := ownsRow_below HO1.out hB2
  have HB2 : Hid (Below w.heap.size w w2) := HB1.out.trans (hB2.mono HB1.out.size)
  have HO2 : Hid (Out w2 ao np S0 B0) := ho2
  clear HB1 HO1 ho2 hB2
  go_wp2_with (at_builtin; refine wpList_append_fits_any _ rfl _ _ 25 rfl W 29 i0 2 Try.underlying25 hi hz1 W 0 (np + nr) [] rfl hown2 ao np np (labs S0 B0 np) rfl (labs_length S0 B0 np) (out_none HO2.out) (out_cells HO2.out) (labs_one S0 B0 np) (by omega) ?_; intro w3 hown3 hgrow3)
  have HO3 : Hid (w3.ownsRow W 29 2 (.slice (some ⟨W, 0, none⟩) np (np + nr)) np (labs S0 B0 np)) := by
    simp only [Nat.zero_add, List.nil_append] at hown3
    exact hown3
  have HB3 : Hid (Below w.heap.size w w3) := HB2.out.grown hgrow3 HB2.out.size (fun k hk => by have := HWw.out; cases hk; omega)
  clear hown3 hgrow3 hown2 HB2 HO2
  refine (f7_any a1 nr c1 S1 B1 _ (by omega) (H1.out.below HB3.out)).mono ?_
  rintro e w4 ⟨⟨ao', rfl, ho4⟩, hB4⟩
  have hown4 := ownsRow_below HO3.out hB4
  have HB4 : Hid (Below w.heap.size w w4) := HB3.out.trans (hB4.mono HB3.out.size)
  have HO4 : Hid (Out w4 ao' nr S1 B1) := ho4
  clear HB3 HO3 ho4 hB4
  go_wp2_with (at_builtin; refine wpList_append_fits_any _ rfl _ _ 25 rfl W 29 i0 2 Try.underlying25 hi hz1 W np (np + nr) (labs S0 B0 np) rfl hown4 ao' nr nr (labs S1 B1 nr) rfl (labs_length S1 B1 nr) (out_none HO4.out) (out_cells HO4.out) (labs_one S1 B1 nr) (by omega) ?_; intro w5 hown5 hgrow5)
  have HL5 : Hid (LabAt w5 W 0 np S0 B0) := joined hown5
  have HB5 : Hid (Below w.heap.size w w5) := HB4.out.grown hgrow5 HB4.out.size (fun k hk => by have := HWw.out; cases hk; omega)
  clear hown5 hgrow5 hown4 HB4 HO4
  refine (f7_any a0 np c0 S0 B0 _ (by omega) (H0.out.below HB5.out)).mono ?_
  rintro e w6 ⟨⟨aoq, rfl, ho6⟩, hB6⟩
  have HL6 : Hid (LabAt w6 W 0 np S0 B0) := HL5.out.below hB6
  have HB6 : Hid (Below w.heap.size w w6) := HB5.out.trans (hB6.mono HB5.out.size)
  have HO6 : Hid (Out w6 aoq np S0 B0) := ho6
  clear HB5 HL5 ho6 hB6
  go_wp2_with fail
  refine (whole_q W np nr aoq S0 B0 w6 (by omega) HL6.out HO6.out).mono ?_
  rintro e w7 ⟨rfl, m7, hw7⟩
  have hB7 : Below w6.heap.size w6 w7 := by rw [hw7]; exact below_drewN (Below.refl _ _) m7
  have HL7 : Hid (LabAt w7 W 0 np S0 B0) := HL6.out.below hB7
  have HB7 : Hid (Below w.heap.size w w7) := HB6.out.trans (hB7.mono HB6.out.size)
  have HO7 : Hid (Out w7 aoq np S0 B0) := HO6.out.below hB7
  clear HB6 HL6 HO6 hw7 hB7
  go_wp2_with fail
  refine (q_whole W np nr aoq S0 B0 r w7 hr (by omega) HL7.out HO7.out).mono ?_
  rintro e w8 ⟨rfl, m8, hw8⟩
  have hB8 : Below w7.heap.size w7 w8 := by rw [hw8]; exact below_drewN (Below.refl _ _) m8
  have HL8 : Hid (LabAt w8 W 0 np S0 B0) := HL7.out.below hB8
  have HB8 : Hid (Below w.heap.size w w8) := HB7.out.trans (hB8.mono HB7.out.size)
  clear HB7 HL7 HO7 hw8 hB8
  go_wp2_with fail
  refine (f7_pos a0 np c0 S0 B0 _ (by omega) (by omega) (H0.out.below HB8.out)).mono ?_
  rintro e w9 ⟨rfl, hev⟩
  have hB9 : Below w8.heap.size w8 w9 := hev.out.2
  have HL9 : Hid (LabAt w9 W 0 np S0 B0) := HL8.out.below hB9
  have HB9 : Hid (Below w.heap.size w w9) := HB8.out.trans (hB9.mono HB8.out.size)
  have HF : Hid (LabAt (w9.setCell ⟨w8.heap.size, (np - 1) * 2 + 1, none⟩ (.bool (!(B0 (np - 1))))) w8.heap.size 0 np S0 (fun i => if i = np - 1 then !(B0 (np - 1)) else B0 i)) := flip_lab hev.out (by omega)
  obtain ⟨⟨f, hf, hf2⟩, _⟩ := hev.out
  have q0 := hf.cell (i := (np - 1) * 2 + 1) (by omega)
  rw [(hf2 (np - 1) (by omega)).2] at q0
  have q1 := hf.frozen ((np - 1) * 2 + 1)
  clear hf hf2 hev hB9
  go_wp2_with fail
  have HW9 : Hid (LabAt (w9.setCell ⟨w8.heap.size, (np - 1) * 2 + 1, none⟩ (.bool (!(B0 (np - 1))))) W 0 np S0 B0) := HL9.out.store (Nat.ne_of_lt HL8.out.1)
  have HBF : Hid (Below w.heap.size w (w9.setCell ⟨w8.heap.size, (np - 1) * 2 + 1, none⟩ (.bool (!(B0 (np - 1)))))) := HB9.out.setCell HB8.out.size _
  refine (whole_flip W w8.heap.size np nr S0 B0 _ _ (by omega) (by omega) HW9.out HF.out (fun i hi => if_neg (by omega)) (if_pos rfl)).mono ?_
  rintro e w10 ⟨rfl, m10, hw10⟩
  have HBE : Hid (Below w.heap.size w w10) := by rw [hw10]; exact below_drewN HBF.out m10
  clear hw10
  go_wp2_with fail
  go_ret
  exact ⟨rfl, HBE.out⟩

theorem walk3_any (a0 a1 : Option Addr) (np nr c0 c1 : Nat) (S0 S1 : Nat → ByteArray) (B0 B1 : Nat → Bool) (w : World) (h0 : Came w a0 np c0 S0 B0) (h1 : Came w a1 nr c1 S1 B1) :
    Calls Try.prog 3 #[.slice a0 np c0, .slice a1 nr c1] w fun e w' => e = .returned (.bool true) ∧ Below w.heap.size w w' := by
  by_cases hz : (0 : Int) < (np : Int)
  · exact walk3_some a0 a1 np nr c0 c1 S0 S1 B0 B1 w hz h0 h1
  · exact walk3_none a0 a1 np nr c0 c1 S0 S1 B0 B1 w hz h0 h1

end Go.Proofs.Qxb6609229a
