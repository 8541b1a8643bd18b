import Derived.Test.Qxb6612653aSumEq
namespace Go.Proofs.Qxb6612653a
open Go.ChangeShapes Go.WideShapes Go.ChangeAt Go.RowKit
set_option maxRecDepth 100000

theorem zero_cell {w : World} {g n : Nat} (h : Held w g n ([] : List (List Int)).flatten) : ∀ d, d < n → w.cell? ⟨g, d, none⟩ = some (.int .i64 0) := fun d hd => h.2 d hd

set_option maxHeartbeats 4000000 in
theorem walk5_nil (nb c2 : Nat) (ao2 : Option Addr) (w : World) (hi : Ints w ao2 nb c2) :
    Calls Try.prog 5 #[.slice none 0 0, .slice ao2 nb c2, .int .i64 0] w fun e w' => e = .returned (.bool true) ∧ Below w.heap.size w w' := by
  go_enter Try.func5, Try.ntmps5
  go_wp2_with fail
  refine (f9_zero none ao2 0 nb c2 0 w).mono ?_
  rintro e w' ⟨⟨r, rfl⟩, hw'⟩
  subst hw'
  cases r
  · go_wp2
    go_ret
    exact ⟨rfl, Below.refl _ _⟩
  go_wp2_with fail
  refine (f10_zero none ao2 0 nb c2 _).mono ?_
  rintro e w ⟨⟨r, rfl, hs⟩, rfl⟩
  cases r
  case true =>
    go_wp2
    go_ret
    exact ⟨rfl, Below.refl _ _⟩
  have hn : nb ≤ 65536 := (hs rfl).2.1
  clear hs
  go_wp2_with fail
  refine (f11_zero none 0 _).mono ?_
  rintro e w' ⟨⟨z, ev, rfl⟩, hw'⟩
  subst hw'
  cases ev
  · go_wp2
    go_ret
    exact ⟨rfl, Below.refl _ _⟩
  go_wp2_with fail
  refine (f12_zero none 0 nb _).mono ?_
  rintro e w ⟨⟨r, rfl, _⟩, rfl⟩
  cases r
  · go_wp2
    go_ret
    exact ⟨rfl, Below.refl _ _⟩
  go_wp2_with fail
  refine (f13_nil _).mono ?_
  rintro e w' ⟨rfl, hw'⟩
  subst hw'
  go_wp2_with fail
  refine (f14_any ao2 nb c2 _ hn hi).mono ?_
  rintro e w2 ⟨⟨ao3, c3, rfl⟩, hB2⟩
  have HB2 : Hid (Below w'.heap.size w' w2) := hB2
  clear hi hB2
  have hset : ∀ w : World, Hid (Set w none [] nb) := fun w => ⟨by simp, hn, by simp, ok_nil nb, .inl rfl⟩
  go_wp2_with fail
  refine (f15_any z _ _ _ _ _ _ w2).mono ?_
  rintro e w3 ⟨rfl, hp3, hB3⟩
  have HB3 : Hid (Below w'.heap.size w' w3) := HB2.out.trans (hB3.mono HB2.out.size)
  clear HB2 hB3
  obtain ⟨P1, hP1⟩ : ∃ P1, P1 = w2.heap.size := ⟨_, rfl⟩
  rw [← hP1] at hp3 ⊢
  clear hP1
  have HP3 : Hid (Placed w3 P1 (.slice none 0 0) (.slice ao3 nb c3)) := hp3
  clear hp3
  go_wp2_with fail
  refine (f16_any P1 0 nb c3 none ao3 [] w3 (hset w3).out HP3.out).mono ?_
  rintro e w4 ⟨rfl, hd4⟩
  have HH4 : Hid (Held w4 w3.heap.size nb ([] : List (List Int)).flatten) := held_of hd4.out
  have HP4 : Hid (Placed w4 P1 (.slice none 0 0) (.slice ao3 nb c3)) := HP3.out.below hd4.out.2
  have HB4 : Hid (Below w'.heap.size w' w4) := HB3.out.trans (hd4.out.2.mono HB3.out.size)
  clear hd4 HP3 HB3
  obtain ⟨g1, hg1⟩ : ∃ g1, g1 = w3.heap.size := ⟨_, rfl⟩
  rw [← hg1] at HH4 ⊢
  clear hg1
  go_wp2_with fail
  refine (f17_any P1 0 nb c3 none ao3 [] w4 (hset w4).out HP4.out).mono ?_
  rintro e w5 ⟨rfl, hd5⟩
  have HA5 : Hid (Held w5 w4.heap.size nb ([] : List (List Int)).flatten) := held_of hd5.out
  have HH5 : Hid (Held w5 g1 nb ([] : List (List Int)).flatten) := HH4.out.below hd5.out.2
  have HB5 : Hid (Below w'.heap.size w' w5) := HB4.out.trans (hd5.out.2.mono HB4.out.size)
  clear hd5 HP4 HB4 HH4
  obtain ⟨g2, hg2⟩ : ∃ g2, g2 = w4.heap.size := ⟨_, rfl⟩
  rw [← hg2] at HA5 ⊢
  clear hg2
  go_wp2_with fail
  refine (f15_any z _ _ _ _ _ _ w5).mono ?_
  rintro e w6 ⟨rfl, hp6, hB6⟩
  have HP6 : Hid (Placed w6 w5.heap.size (.slice none 0 0) (.slice ao3 nb c3)) := hp6
  have HA6 : Hid (Held w6 g2 nb ([] : List (List Int)).flatten) := HA5.out.below hB6
  have HH6 : Hid (Held w6 g1 nb ([] : List (List Int)).flatten) := HH5.out.below hB6
  have HB6 : Hid (Below w'.heap.size w' w6) := HB5.out.trans (hB6.mono HB5.out.size)
  clear hB6 HA5 HH5 HB5 hp6
  obtain ⟨P2, hP2⟩ : ∃ P2, P2 = w5.heap.size := ⟨_, rfl⟩
  rw [← hP2] at HP6 ⊢
  clear hP2
  go_wp2_with fail
  refine (f16_any P2 0 nb c3 none ao3 [] w6 (hset w6).out HP6.out).mono ?_
  rintro e w7 ⟨rfl, hd7⟩
  have HC7 : Hid (Held w7 w6.heap.size nb ([] : List (List Int)).flatten) := held_of hd7.out
  have HA7 : Hid (Held w7 g2 nb ([] : List (List Int)).flatten) := HA6.out.below hd7.out.2
  have HH7 : Hid (Held w7 g1 nb ([] : List (List Int)).flatten) := HH6.out.below hd7.out.2
  have HB7 : Hid (Below w'.heap.size w' w7) := HB6.out.trans (hd7.out.2.mono HB6.out.size)
  clear hd7 HP6 HA6 HH6 HB6
  obtain ⟨g3, hg3⟩ : ∃ g3, g3 = w6.heap.size := ⟨_, rfl⟩
  rw [← hg3] at HC7 ⊢
  clear hg3
  go_wp2_with fail
  refine (f15_any z _ _ _ _ _ _ w7).mono ?_
  rintro e w8 ⟨rfl, hp8, hB8⟩
  have HP8 : Hid (Placed w8 w7.heap.size (.slice none 0 0) (.slice ao3 nb c3)) := hp8
  have HC8 : Hid (Held w8 g3 nb ([] : List (List Int)).flatten) := HC7.out.below hB8
  have HA8 : Hid (Held w8 g2 nb ([] : List (List Int)).flatten) := HA7.out.below hB8
  have HH8 : Hid (Held w8 g1 nb ([] : List (List Int)).flatten) := HH7.out.below hB8
  have HB8 : Hid (Below w'.heap.size w' w8) := HB7.out.trans (hB8.mono HB7.out.size)
  clear hB8 HA7 HH7 HB7 HC7 hp8
  obtain ⟨P3, hP3⟩ : ∃ P3, P3 = w7.heap.size := ⟨_, rfl⟩
  rw [← hP3] at HP8 ⊢
  clear hP3
  go_wp2_with fail
  refine (f16_any P3 0 nb c3 none ao3 [] w8 (hset w8).out HP8.out).mono ?_
  rintro e w9 ⟨rfl, hd9⟩
  have HD9 : Hid (∀ d, d < nb → w9.cell? ⟨w8.heap.size, d, none⟩ = some (.int .i64 0)) := zero_cell (held_of hd9.out)
  have HC9 : Hid (∀ d, d < nb → w9.cell? ⟨g3, d, none⟩ = some (.int .i64 0)) := zero_cell (HC8.out.below hd9.out.2)
  have HA9 : Hid (∀ d, d < nb → w9.cell? ⟨g2, d, none⟩ = some (.int .i64 0)) := zero_cell (HA8.out.below hd9.out.2)
  have HH9 : Hid (∀ d, d < nb → w9.cell? ⟨g1, d, none⟩ = some (.int .i64 0)) := zero_cell (HH8.out.below hd9.out.2)
  have HB9 : Hid (Below w'.heap.size w' w9) := HB8.out.trans (hd9.out.2.mono HB8.out.size)
  clear hd9 HP8 HC8 HA8 HH8 HB8
  obtain ⟨g4, hg4⟩ : ∃ g4, g4 = w8.heap.size := ⟨_, rfl⟩
  rw [← hg4] at HD9 ⊢
  clear hg4
  go_wp2_with fail
  go_loopw [15, 16] (fun t i wr => ∃ (d m : Nat), d ≤ nb ∧ i = .int .i64 d ∧ t = .int .i64 0 ∧ wr = w9.drewN m) (fun _ i _ => nb - (intOf i).toNat)
  case atStart => exact ⟨0, 0, by omega, rfl, rfl, rfl⟩
  case round =>
    obtain ⟨d, m, hd, rfl, rfl, hwr⟩ := hrel
    have HW : Hid (wr = w9.drewN m) := hwr
    clear hwr
    by_cases hltd : d < nb
    · have q1 : wr.cell? ⟨g1, d, none⟩ = some (.int .i64 0) := by rw [HW.out]; exact HH9.out d hltd
      have q2 : wr.cell? ⟨g2, d, none⟩ = some (.int .i64 0) := by rw [HW.out]; exact HA9.out d hltd
      have q3 : wr.cell? ⟨g3, d, none⟩ = some (.int .i64 0) := by rw [HW.out]; exact HC9.out d hltd
      have q4 : wr.cell? ⟨g4, d, none⟩ = some (.int .i64 0) := by rw [HW.out]; exact HD9.out d hltd
      have i0 : (0 : Int) ≤ (d : Int) := Int.natCast_nonneg _
      have i1 : (d : Int) < (nb : Int) := by omega
      go_wp2_with fail
      go_quiet (fail)
      go_wp2_with fail
      go_roundw
      case rel => exact ⟨d + 1, m + nq, by omega, by go_num, rfl, by rw [HW.out, World.drewN_drewN]⟩
      case measure => simp [intOf]; omega
    · have hBr : Below w'.heap.size w' wr := by rw [HW.out]; exact below_drewN HB9.out m
      have h18 := f18_zero none 0 wr
      go_wp2_with fail
      refine h18.mono ?_
      rintro e w10 ⟨rfl, rfl⟩
      go_wp2
      go_ret
      exact ⟨rfl, hBr⟩

set_option maxHeartbeats 4000000 in
theorem walk5_out (ao ao2 : Option Addr) (c nb c2 : Nat) (cut : Int) (rows : List (List Int)) (w : World) (hcut : cut < 0 ∨ (rows.length : Int) < cut) (ht : Tab w ao rows) :
    Calls Try.prog 5 #[.slice ao rows.length c, .slice ao2 nb c2, .int .i64 cut] w fun e w' => e = .returned (.bool true) ∧ Below w.heap.size w w' := by
  rcases hcut with hcut | hcut
  · go_enter Try.func5, Try.ntmps5
    go_wp2_with fail
    refine (f9_any ao ao2 c nb c2 _ rows w ht).mono ?_
    rintro e w' ⟨⟨r, rfl⟩, hw'⟩
    subst hw'
    cases r
    · go_wp2
      go_ret
      exact ⟨rfl, Below.refl _ _⟩
    go_wp2_with fail
    refine (f10_any ao ao2 c nb c2 rows _ ht).mono ?_
    rintro e w ⟨⟨r, rfl, _⟩, rfl⟩
    cases r
    all_goals
      go_wp2
      go_ret
      exact ⟨rfl, Below.refl _ _⟩
  · by_cases hneg : cut < 0
    · omega
    go_enter Try.func5, Try.ntmps5
    go_wp2_with fail
    refine (f9_any ao ao2 c nb c2 _ rows w ht).mono ?_
    rintro e w' ⟨⟨r, rfl⟩, hw'⟩
    subst hw'
    cases r
    · go_wp2
      go_ret
      exact ⟨rfl, Below.refl _ _⟩
    go_wp2_with fail
    refine (f10_any ao ao2 c nb c2 rows _ ht).mono ?_
    rintro e w ⟨⟨r, rfl, _⟩, rfl⟩
    cases r
    all_goals
      go_wp2
      go_ret
      exact ⟨rfl, Below.refl _ _⟩

/-- A table as it came in. -/
def Came (w : World) (ao : Option Addr) (c : Nat) (rows : List (List Int)) : Prop := (ao = none ∧ rows = [] ∧ c = 0) ∨ ∃ ad, ao = some ad ∧ Tab w (some ad) rows

theorem walk5_any (ao ao2 : Option Addr) (c nb c2 : Nat) (cut : Int) (rows : List (List Int)) (w : World) (hw : ∀ x, x ∈ rows.flatten → -2147483648 ≤ x ∧ x ≤ 2147483647) (h : Came w ao c rows) (hi : Ints w ao2 nb c2) :
    Calls Try.prog 5 #[.slice ao rows.length c, .slice ao2 nb c2, .int .i64 cut] w fun e w' => e = .returned (.bool true) ∧ Below w.heap.size w w' := by
  have ht : Tab w ao rows := by
    rcases h with ⟨rfl, rfl, _⟩ | ⟨ad, rfl, h⟩
    · exact .inl rfl
    · exact h
  by_cases hcut : cut < 0 ∨ (rows.length : Int) < cut
  · exact walk5_out ao ao2 c nb c2 cut rows w hcut ht
  obtain ⟨k, rfl⟩ := Int.eq_ofNat_of_zero_le (show 0 ≤ cut by omega)
  rcases h with ⟨rfl, rfl, rfl⟩ | ⟨ad, rfl, h⟩
  · obtain rfl : k = 0 := by simp at hcut; omega
    exact walk5_nil nb c2 ao2 w hi
  · by_cases hk : k < rows.length
    · exact walk5_lt ad c nb c2 k ao2 rows w hk hw h hi
    · obtain rfl : k = rows.length := by omega
      exact walk5_eq ad c nb c2 ao2 rows w hw h hi

end Go.Proofs.Qxb6612653a
