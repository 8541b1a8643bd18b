import Derived.Test.Qxb6612653aSum
namespace Go.Proofs.Qxb6612653a
open Go.ChangeShapes Go.WideShapes Go.ChangeAt Go.RowKit
set_option maxRecDepth 100000

/-- The cloned table. -/
def T0 (w : World) (B : Nat) (rows : List (List Int)) : Prop := rows = [] ∨ TabAt w B 0 rows
theorem T0.below {w w' : World} {B : Nat} {rows : List (List Int)} (h : T0 w B rows) (hb : Below w.heap.size w w') : T0 w' B rows := by
  rcases h with h | h
  · exact .inl h
  · exact .inr (h.below hb)
theorem T0.tab {w : World} {B : Nat} {rows : List (List Int)} (h : T0 w B rows) : Tab w (some ⟨B, 0, none⟩) rows := by
  rcases h with h | h
  · exact .inl h
  · exact .inr ⟨B, 0, rfl, h⟩

set_option maxHeartbeats 4000000 in
theorem walk5_eq (ad : Addr) (c nb c2 : Nat) (ao2 : Option Addr) (rows : List (List Int)) (w : World) (hw : ∀ x, x ∈ rows.flatten → -2147483648 ≤ x ∧ x ≤ 2147483647) (ht : Tab w (some ad) rows) (hi : Ints w ao2 nb c2) :
    Calls Try.prog 5 #[.slice (some ad) rows.length c, .slice ao2 nb c2, .int .i64 rows.length] w fun e w' => e = .returned (.bool true) ∧ Below w.heap.size w w' := by
  have Hw := (show Hid (∀ x, x ∈ rows.flatten → -2147483648 ≤ x ∧ x ≤ 2147483647) from hw)
  clear hw
  go_enter Try.func5, Try.ntmps5
  go_wp2_with fail
  refine (f9_any (some ad) ao2 c nb c2 _ rows w ht).mono ?_
  rintro e w' ⟨⟨r, rfl⟩, hw'⟩
  subst hw'
  cases r
  · go_wp2
    go_ret
    exact ⟨rfl, Below.refl _ _⟩
  go_wp2_with fail
  refine (f10_any (some ad) ao2 c nb c2 rows _ ht).mono ?_
  rintro e w ⟨⟨r, rfl, hs⟩, rfl⟩
  cases r
  case true =>
    go_wp2
    go_ret
    exact ⟨rfl, Below.refl _ _⟩
  obtain ⟨hR, hn, hL⟩ := hs rfl
  have HLL : Hid (rows.flatten.length ≤ 262144) := hL
  clear hs hL
  go_wp2_with fail
  refine (f11_any (some ad) c rows _ hR ht).mono ?_
  rintro e w' ⟨⟨z, ev, rfl⟩, hw'⟩
  subst hw'
  cases ev
  · go_wp2
    go_ret
    exact ⟨rfl, Below.refl _ _⟩
  go_wp2_with fail
  refine (f12_any (some ad) c nb rows _ hR HLL.out Hw.out ht).mono ?_
  rintro e w ⟨⟨r, rfl, ho⟩, rfl⟩
  cases r
  · go_wp2
    go_ret
    exact ⟨rfl, Below.refl _ _⟩
  have Hok : Hid (Ok nb rows.flatten) := ho rfl
  clear ho Hw
  go_wp2_with fail
  refine (f13_any ad c rows _ hR HLL.out ht).mono ?_
  rintro e w1 ⟨rfl, ht1, hB1⟩
  have HT1 : Hid (T0 w1 w.heap.size rows) := ht1
  have hi1 := hi.below hB1
  clear ht ht1 hi
  obtain ⟨B, hB⟩ : ∃ B, B = w.heap.size := ⟨_, rfl⟩
  rw [← hB] at HT1 ⊢
  have HB : Hid (B = w.heap.size) := hB
  clear hB
  go_wp2_with fail
  refine (f14_any ao2 nb c2 _ hn hi1).mono ?_
  rintro e w2 ⟨⟨ao3, c3, rfl⟩, hB2⟩
  have HT2 : Hid (T0 w2 B rows) := HT1.out.below hB2
  have HB2 : Hid (Below w.heap.size w w2) := hB1.trans (hB2.mono hB1.size)
  clear HT1 hi1 hB1 hB2
  go_wp2_with fail
  refine (f15_any z _ _ _ _ _ _ w2).mono ?_
  rintro e w3 ⟨rfl, hp3, hB3⟩
  have HT3 : Hid (T0 w3 B rows) := HT2.out.below hB3
  have HB3 : Hid (Below w.heap.size w w3) := HB2.out.trans (hB3.mono HB2.out.size)
  clear HT2 HB2 hB3
  obtain ⟨P1, hP1⟩ : ∃ P1, P1 = w2.heap.size := ⟨_, rfl⟩
  rw [← hP1] at hp3 ⊢
  clear hP1
  have hS3 : Set w3 (some ⟨B, 0, none⟩) rows nb := ⟨hR, hn, HLL.out, Hok.out, HT3.out.tab⟩
  have HS3 : Hid (Set w3 (some ⟨B, 0, none⟩) rows nb) := hS3
  have HP3 : Hid (Placed w3 P1 (.slice (some ⟨B, 0, none⟩) rows.length rows.length) (.slice ao3 nb c3)) := hp3
  clear hS3 hp3
  go_wp2_with fail
  refine (f16_any P1 _ nb _ _ _ rows w3 HS3.out HP3.out).mono ?_
  rintro e w4 ⟨rfl, hd4⟩
  have HH4 : Hid (Held w4 w3.heap.size nb rows.flatten) := held_of hd4.out
  have HS4 : Hid (Set w4 (some ⟨B, 0, none⟩) rows nb) := HS3.out.below hd4.out.2
  have HT4 : Hid (T0 w4 B rows) := HT3.out.below hd4.out.2
  have HP4 : Hid (Placed w4 P1 (.slice (some ⟨B, 0, none⟩) rows.length rows.length) (.slice ao3 nb c3)) := HP3.out.below hd4.out.2
  have HB4 : Hid (Below w.heap.size w w4) := HB3.out.trans (hd4.out.2.mono HB3.out.size)
  clear hd4 HS3 HT3 HP3 HB3
  obtain ⟨g1, hg1⟩ : ∃ g1, g1 = w3.heap.size := ⟨_, rfl⟩
  rw [← hg1] at HH4 ⊢
  clear hg1
  go_wp2_with fail
  refine (f17_any P1 _ nb _ _ _ rows w4 HS4.out HP4.out).mono ?_
  rintro e w5 ⟨rfl, hd5⟩
  have HA5 : Hid (Held w5 w4.heap.size nb rows.flatten) := held_of hd5.out
  have HH5 : Hid (Held w5 g1 nb rows.flatten) := HH4.out.below hd5.out.2
  have HT5 : Hid (T0 w5 B rows) := HT4.out.below hd5.out.2
  have HB5 : Hid (Below w.heap.size w w5) := HB4.out.trans (hd5.out.2.mono HB4.out.size)
  clear hd5 HS4 HT4 HP4 HB4 HH4
  obtain ⟨g2, hg2⟩ : ∃ g2, g2 = w4.heap.size := ⟨_, rfl⟩
  rw [← hg2] at HA5 ⊢
  clear hg2
  have hk0 : (0 : Int) ≤ (rows.length : Int) := Int.natCast_nonneg _
  go_wp2_with fail
  refine (f15_any z _ _ _ _ _ _ w5).mono ?_
  rintro e w6 ⟨rfl, hp6, hB6⟩
  have hS6 : Hid (Set w6 (some ⟨B, 0, none⟩) (rows.take rows.length) nb) := ⟨by rw [List.length_take]; omega, hn, Nat.le_trans (flat_le rows rows.length).1 HLL.out, (ok_take Hok.out rows.length).1, by rw [List.take_length]; exact (HT5.out.below hB6).tab⟩
  have e6 : (rows.take rows.length).length = rows.length := by simp
  have HP6 : Hid (Placed w6 w5.heap.size (.slice (some ⟨B, 0, none⟩) (rows.take rows.length).length rows.length) (.slice ao3 nb c3)) := by rw [e6]; exact hp6
  clear e6 hp6
  have HT6 : Hid (T0 w6 B rows) := HT5.out.below hB6
  have HA6 : Hid (Held w6 g2 nb rows.flatten) := HA5.out.below hB6
  have HH6 : Hid (Held w6 g1 nb rows.flatten) := HH5.out.below hB6
  have HB6 : Hid (Below w.heap.size w w6) := HB5.out.trans (hB6.mono HB5.out.size)
  clear hB6 HT5 HA5 HH5 HB5
  obtain ⟨P2, hP2⟩ : ∃ P2, P2 = w5.heap.size := ⟨_, rfl⟩
  rw [← hP2] at HP6 ⊢
  clear hP2
  go_wp2_with fail
  refine (f16_any P2 _ nb _ _ _ (rows.take rows.length) w6 hS6.out HP6.out).mono ?_
  rintro e w7 ⟨rfl, hd7⟩
  have HC7 : Hid (Held w7 w6.heap.size nb (rows.take rows.length).flatten) := held_of hd7.out
  have HA7 : Hid (Held w7 g2 nb rows.flatten) := HA6.out.below hd7.out.2
  have HH7 : Hid (Held w7 g1 nb rows.flatten) := HH6.out.below hd7.out.2
  have HT7 : Hid (T0 w7 B rows) := HT6.out.below hd7.out.2
  have HB7 : Hid (Below w.heap.size w w7) := HB6.out.trans (hd7.out.2.mono HB6.out.size)
  clear hd7 hS6 HP6 HT6 HA6 HH6 HB6
  obtain ⟨g3, hg3⟩ : ∃ g3, g3 = w6.heap.size := ⟨_, rfl⟩
  rw [← hg3] at HC7 ⊢
  clear hg3
  go_wp2_with fail
  refine (f15_any z _ _ _ _ _ _ w7).mono ?_
  rintro e w8 ⟨rfl, hp8, hB8⟩
  have hS8 : Hid (Set w8 (some ⟨B, 0, none⟩) (rows.drop rows.length) nb) := ⟨by rw [List.length_drop]; omega, hn, Nat.le_trans (flat_le rows rows.length).2 HLL.out, (ok_take Hok.out rows.length).2, .inl (List.drop_length)⟩
  have e8 : (rows.drop rows.length).length = 0 := by simp
  have HP8 : Hid (Placed w8 w7.heap.size (.slice (some ⟨B, 0, none⟩) (rows.drop rows.length).length 0) (.slice ao3 nb c3)) := by rw [e8]; exact hp8
  clear e8 hp8
  have HT8 : Hid (T0 w8 B rows) := HT7.out.below hB8
  have HC8 : Hid (Held w8 g3 nb (rows.take rows.length).flatten) := HC7.out.below hB8
  have HA8 : Hid (Held w8 g2 nb rows.flatten) := HA7.out.below hB8
  have HH8 : Hid (Held w8 g1 nb rows.flatten) := HH7.out.below hB8
  have HB8 : Hid (Below w.heap.size w w8) := HB7.out.trans (hB8.mono HB7.out.size)
  clear hB8 HT7 HA7 HH7 HB7 HC7
  obtain ⟨P3, hP3⟩ : ∃ P3, P3 = w7.heap.size := ⟨_, rfl⟩
  rw [← hP3] at HP8 ⊢
  clear hP3
  go_wp2_with fail
  refine (f16_any P3 _ nb _ _ _ (rows.drop rows.length) w8 hS8.out HP8.out).mono ?_
  rintro e w9 ⟨rfl, hd9⟩
  have HD9 : Hid (Held w9 w8.heap.size nb (rows.drop rows.length).flatten) := held_of hd9.out
  have HC9 : Hid (Held w9 g3 nb (rows.take rows.length).flatten) := HC8.out.below hd9.out.2
  have HA9 : Hid (Held w9 g2 nb rows.flatten) := HA8.out.below hd9.out.2
  have HH9 : Hid (Held w9 g1 nb rows.flatten) := HH8.out.below hd9.out.2
  have HT9 : Hid (T0 w9 B rows) := HT8.out.below hd9.out.2
  have HB9 : Hid (Below w.heap.size w w9) := HB8.out.trans (hd9.out.2.mono HB8.out.size)
  clear hd9 hS8 HP8 HT8 HC8 HA8 HH8 HB8
  obtain ⟨g4, hg4⟩ : ∃ g4, g4 = w8.heap.size := ⟨_, rfl⟩
  rw [← hg4] at HD9 ⊢
  clear hg4
  go_wp2_with fail
  go_loopw [15, 16] (fun t i wr => ∃ (d m : Nat), d ≤ nb ∧ i = .int .i64 d ∧ t = .int .i64 (sumc rows.flatten d) ∧ wr = w9.drewN m) (fun _ i _ => nb - (intOf i).toNat)
  case atStart => exact ⟨0, 0, by omega, rfl, rfl, rfl⟩
  case round =>
    obtain ⟨d, m, hd, rfl, rfl, hwr⟩ := hrel
    have HW : Hid (wr = w9.drewN m) := hwr
    clear hwr
    have hsb : sumc rows.flatten d ≤ 262144 := Nat.le_trans (sumc_le _ _) HLL.out
    have Hs : Hid (sumc rows.flatten (d + 1) = sumc rows.flatten d + cnt rows.flatten d) := rfl
    by_cases hltd : d < nb
    · have ha : cnt (rows.take rows.length).flatten d ≤ 262144 := Nat.le_trans (cnt_le _ _) (Nat.le_trans (flat_le rows rows.length).1 HLL.out)
      have hb : cnt (rows.drop rows.length).flatten d ≤ 262144 := Nat.le_trans (cnt_le _ _) (Nat.le_trans (flat_le rows rows.length).2 HLL.out)
      have q1 : wr.cell? ⟨g1, d, none⟩ = some (.int .i64 ((cnt (rows.take rows.length).flatten d : Int) + (cnt (rows.drop rows.length).flatten d : Int))) := by rw [← cnt_two, HW.out]; exact HH9.out.2 d hltd
      have q2 : wr.cell? ⟨g2, d, none⟩ = some (.int .i64 ((cnt (rows.take rows.length).flatten d : Int) + (cnt (rows.drop rows.length).flatten d : Int))) := by rw [← cnt_two, HW.out]; exact HA9.out.2 d hltd
      have q3 : wr.cell? ⟨g3, d, none⟩ = some (.int .i64 (cnt (rows.take rows.length).flatten d)) := by rw [HW.out]; exact HC9.out.2 d hltd
      have q4 : wr.cell? ⟨g4, d, none⟩ = some (.int .i64 (cnt (rows.drop rows.length).flatten d)) := by rw [HW.out]; exact HD9.out.2 d hltd
      have Hc : Hid ((cnt rows.flatten d : Int) = (cnt (rows.take rows.length).flatten d : Int) + (cnt (rows.drop rows.length).flatten d : Int)) := cnt_two rows rows.length d
      obtain ⟨a, hae⟩ : ∃ a, a = cnt (rows.take rows.length).flatten d := ⟨_, rfl⟩
      obtain ⟨b, hbe⟩ : ∃ b, b = cnt (rows.drop rows.length).flatten d := ⟨_, rfl⟩
      obtain ⟨s, hse⟩ : ∃ s, s = sumc rows.flatten d := ⟨_, rfl⟩
      rw [← hae] at ha q1 q2 q3 Hc
      rw [← hbe] at hb q1 q2 q4 Hc
      rw [← hse] at hsb Hs ⊢
      clear hae hbe hse
      have i0 : (0 : Int) ≤ (d : Int) := Int.natCast_nonneg _
      have i1 : (d : Int) < (nb : Int) := by omega
      have hwp : IntKind.i64.wrap ((a : Int) + (b : Int)) = (a : Int) + (b : Int) := by rw [IntKind.wrap_i64]; omega
      go_wp2_with fail
      go_quiet (fail)
      go_wp2_with fail
      go_roundw
      case rel => exact ⟨d + 1, m + nq, by omega, by go_num, int_eq (by rw [Hs.out, Int.natCast_add, Hc.out]), by rw [HW.out, World.drewN_drewN]⟩
      case measure => simp [intOf]; omega
    · obtain rfl : d = nb := by omega
      have hsf := sumc_filled d rows.flatten Hok.out
      have hBr : Below w.heap.size w wr := by rw [HW.out]; exact below_drewN HB9.out m
      have hTr : Tab wr (some ⟨B, 0, none⟩) rows := by rw [HW.out]; exact HT9.out.tab
      have h18 := f18_any (some ⟨B, 0, none⟩) rows.length rows wr hR HLL.out hTr
      rw [← hsf] at h18
      clear hsf hTr
      go_wp2_with fail
      refine h18.mono ?_
      rintro e w10 ⟨rfl, rfl⟩
      go_wp2
      go_ret
      exact ⟨rfl, hBr⟩
end Go.Proofs.Qxb6612653a
