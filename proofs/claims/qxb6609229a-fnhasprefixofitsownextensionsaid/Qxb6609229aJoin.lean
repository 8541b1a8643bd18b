import Derived.Test.Qxb6609229aEval
namespace Go.Proofs.Qxb6609229a
open Go.ChangeShapes Go.WideShapes Go.ChangeAt Go.RowKit
set_option maxRecDepth 100000

/-- Labels as they came in. -/
def Came (w : World) (ao : Option Addr) (n c : Nat) (S : Nat → ByteArray) (B : Nat → Bool) : Prop := (ao = none ∧ n = 0 ∧ c = 0) ∨ ∃ ad, ao = some ad ∧ Lab w (some ad) n S B
theorem Came.below {w w' : World} {ao : Option Addr} {n c : Nat} {S : Nat → ByteArray} {B : Nat → Bool} (h : Came w ao n c S B) (hb : Below w.heap.size w w') : Came w' ao n c S B := by
  rcases h with h | ⟨ad, e, h⟩
  · exact .inl h
  · exact .inr ⟨ad, e, h.below hb⟩
theorem Came.lab {w : World} {ao : Option Addr} {n c : Nat} {S : Nat → ByteArray} {B : Nat → Bool} (h : Came w ao n c S B) : Lab w ao n S B := by
  rcases h with ⟨_, h, _⟩ | ⟨ad, rfl, h⟩
  · exact .inl h
  · exact h

/-- Labels as they come out of the copy. -/
def Out (w : World) (ao : Option Addr) (n : Nat) (S : Nat → ByteArray) (B : Nat → Bool) : Prop := (ao = none ∧ n = 0) ∨ ∃ b, ao = some ⟨b, 0, none⟩ ∧ (n = 0 ∨ LabAt w b 0 n S B)
theorem Out.below {w w' : World} {ao : Option Addr} {n : Nat} {S : Nat → ByteArray} {B : Nat → Bool} (h : Out w ao n S B) (hb : Below w.heap.size w w') : Out w' ao n S B := by
  rcases h with h | ⟨b, e, h | h⟩
  · exact .inl h
  · exact .inr ⟨b, e, .inl h⟩
  · exact .inr ⟨b, e, .inr (h.below hb)⟩
theorem out_drewN {w : World} {ao : Option Addr} {n m : Nat} {S : Nat → ByteArray} {B : Nat → Bool} (h : Out w ao n S B) : Out (w.drewN m) ao n S B := h.below (below_drewN (Below.refl _ _) m)

/-- It answers such labels. -/
def Copied (w' : World) (n : Nat) (S : Nat → ByteArray) (B : Nat → Bool) (e : Ending) : Prop := ∃ ao, e = .returned (.slice ao n n) ∧ Out w' ao n S B

theorem f7_any (ao : Option Addr) (n c : Nat) (S : Nat → ByteArray) (B : Nat → Bool) (w : World) (hn : n ≤ 65536) (h : Came w ao n c S B) :
    Calls Try.prog 7 #[.slice ao n c] w fun e w' => Copied w' n S B e ∧ Below w.heap.size w w' := by
  rcases h with ⟨rfl, rfl, rfl⟩ | ⟨ad, rfl, rfl | ⟨b, off, e, h⟩⟩
  · exact (f7_nil w).mono fun e w' ⟨he, hw⟩ => by subst hw; exact ⟨⟨none, he, .inl ⟨rfl, rfl⟩⟩, Below.refl _ _⟩
  · exact (f7_zero ad c w).mono fun e w' ⟨he, hb⟩ => ⟨⟨_, he, .inr ⟨_, rfl, .inl rfl⟩⟩, hb⟩
  · cases e
    exact (f7_row b off n c S B w hn h).mono fun e w' ⟨he, hev⟩ => ⟨⟨_, he, .inr ⟨_, rfl, .inr hev.out.lab⟩⟩, hev.out.2⟩

/-! ### The cells of labels -/
def labs (S : Nat → ByteArray) (B : Nat → Bool) (n : Nat) : List Value := (List.range (n * 2)).map fun j => if j % 2 = 0 then .string (S (j / 2)) else .bool (B (j / 2))
theorem labs_length (S : Nat → ByteArray) (B : Nat → Bool) (n : Nat) : (labs S B n).length = n * 2 := by simp [labs]
theorem labs_get (S : Nat → ByteArray) (B : Nat → Bool) (n j : Nat) (h : j < n * 2) : (labs S B n)[j]? = some (if j % 2 = 0 then .string (S (j / 2)) else .bool (B (j / 2))) := by simp [labs, h]
theorem labs_one (S : Nat → ByteArray) (B : Nat → Bool) (n : Nat) : ∀ u ∈ labs S B n, u.oneCell' = true := by
  intro u hu
  obtain ⟨j, _, rfl⟩ := List.mem_map.1 hu
  split <;> rfl
theorem labs_cells {w : World} {b n : Nat} {S : Nat → ByteArray} {B : Nat → Bool} (h : LabAt w b 0 n S B) : ∀ j u, (labs S B n)[j]? = some u → w.cell? ((⟨b, 0, none⟩ : Addr).add j) = some u := by
  intro j u hu
  have hj : j < n * 2 := by have := (List.getElem?_eq_some_iff.1 hu).1; rwa [labs_length] at this
  rw [labs_get S B n j hj] at hu
  rw [Addr.add_lit, ← hu]
  by_cases e : j % 2 = 0
  · rw [if_pos e]
    have := h.2.1 (j / 2) (by omega)
    rwa [show j / 2 * 2 = j by omega] at this
  · rw [if_neg e]
    have := h.2.2 (j / 2) (by omega)
    rwa [Nat.add_assoc, show j / 2 * 2 + 1 = j by omega] at this
theorem out_none {w : World} {ao : Option Addr} {n : Nat} {S : Nat → ByteArray} {B : Nat → Bool} (h : Out w ao n S B) : ao = none → n = 0 ∧ n = 0 := by
  intro e
  rcases h with h | ⟨b, e2, _⟩
  · exact ⟨h.2, h.2⟩
  · rw [e] at e2; cases e2
theorem out_cells {w : World} {ao : Option Addr} {n : Nat} {S : Nat → ByteArray} {B : Nat → Bool} (h : Out w ao n S B) : ∀ ad, ao = some ad → ∀ j u, (labs S B n)[j]? = some u → w.cell? (ad.add j) = some u := by
  intro ad e j u hu
  rcases h with h | ⟨b, e2, h⟩
  · rw [h.1] at e; cases e
  · rw [e] at e2
    cases e2
    rcases h with rfl | h
    · simp [labs] at hu
    · exact labs_cells h j u hu

/-! ### Both lists joined -/
theorem ownsRow_below {w w' : World} {base : Nat} {e : TypeId} {size : Nat} {v : Value} {n : Nat} {xs : List Value} (h : w.ownsRow base e size v n xs) (hb : Below w.heap.size w w') : w'.ownsRow base e size v n xs := by
  obtain ⟨h1, h2⟩ := h
  refine ⟨h1, ?_⟩
  rcases h2 with h2 | ⟨g, cap, cur, hv, hg, hh, r⟩
  · exact .inl h2
  · exact .inr ⟨g, cap, cur, hv, hg, by rw [hb.block g (Array.getElem?_eq_some_iff.1 hh).1]; exact hh, r⟩
theorem joined {w : World} {W np nr c : Nat} {S0 S1 : Nat → ByteArray} {B0 B1 : Nat → Bool} (h : w.ownsRow W 29 2 (.slice (some ⟨W, 0, none⟩) (np + nr) c) (np + nr) (labs S0 B0 np ++ labs S1 B1 nr)) : LabAt w W 0 np S0 B0 := by
  refine ⟨(h.lt W rfl).2, fun i hi => ?_, fun i hi => ?_⟩
  · rw [Nat.zero_add, h.cellAt (i * 2) (by omega), List.getElem?_append_left (by rw [labs_length]; omega), labs_get S0 B0 np (i * 2) (by omega), if_pos (by omega), show i * 2 / 2 = i by omega]
  · rw [Nat.zero_add, h.cellAt (i * 2 + 1) (by omega), List.getElem?_append_left (by rw [labs_length]; omega), labs_get S0 B0 np (i * 2 + 1) (by omega), if_neg (by omega), show (i * 2 + 1) / 2 = i by omega]

/-! ### The three questions -/
theorem whole_q (W np nr : Nat) (aoq : Option Addr) (S : Nat → ByteArray) (B : Nat → Bool) (w : World) (hn : np ≤ 65536) (hW : LabAt w W 0 np S B) (hq : Out w aoq np S B) :
    Calls Try.prog 8 #[.slice (some ⟨W, 0, none⟩) (np + nr) (np + nr), .slice aoq np np] w fun e w' => e = .returned (.bool true) ∧ ∃ m, w' = w.drewN m := by
  refine f8_any _ _ _ _ _ _ true w (f14_some W 0 (np + nr) (np + nr) np np aoq true w (by omega) (Nat.le_refl _) ?_)
  rcases hq with ⟨rfl, rfl⟩ | ⟨b, rfl, rfl | h⟩
  · exact f16_zero _ _ _ _ w
  · exact f16_zero _ _ _ _ w
  · exact f16_same W 0 (np + nr) b 0 np np S B w hn hW h

theorem q_whole_yes (W np : Nat) (aoq : Option Addr) (S : Nat → ByteArray) (B : Nat → Bool) (w : World) (hn : np ≤ 65536) (hW : LabAt w W 0 np S B) (hq : Out w aoq np S B) :
    Calls Try.prog 8 #[.slice aoq np np, .slice (some ⟨W, 0, none⟩) np np] w fun e w' => e = .returned (.bool true) ∧ ∃ m, w' = w.drewN m := by
  refine f8_any _ _ _ _ _ _ true w ?_
  rcases hq with ⟨rfl, rfl⟩ | ⟨b, rfl, rfl | h⟩
  · exact f14_none 0 0 _ w rfl
  · exact f14_some b 0 0 0 0 0 _ true w (Nat.le_refl _) (Nat.le_refl _) (f16_zero _ _ _ _ w)
  · exact f14_some b 0 np np np np _ true w (Nat.le_refl _) (Nat.le_refl _) (f16_same b 0 np W 0 np np S B w hn h hW)

theorem q_whole_no (W np nr : Nat) (aoq : Option Addr) (w : World) (hr : 0 < nr) :
    Calls Try.prog 8 #[.slice aoq np np, .slice (some ⟨W, 0, none⟩) (np + nr) (np + nr)] w fun e w' => e = .returned (.bool false) ∧ ∃ m, w' = w.drewN m :=
  f8_any _ _ _ _ _ _ false w (f14_short _ _ _ _ _ _ w (by omega))

theorem whole_flip (W F np nr : Nat) (S : Nat → ByteArray) (B B' : Nat → Bool) (w : World) (hn : np ≤ 65536) (hpos : 0 < np) (hW : LabAt w W 0 np S B) (hF : LabAt w F 0 np S B') (he : ∀ i, i + 1 < np → B' i = B i) (hl : B' (np - 1) = !(B (np - 1))) :
    Calls Try.prog 8 #[.slice (some ⟨W, 0, none⟩) (np + nr) (np + nr), .slice (some ⟨F, 0, none⟩) np np] w fun e w' => e = .returned (.bool false) ∧ ∃ m, w' = w.drewN m :=
  f8_any _ _ _ _ _ _ false w (f14_some W 0 (np + nr) (np + nr) np np _ false w (by omega) (Nat.le_refl _) (f16_diff W 0 (np + nr) F 0 np np S B B' w hn hpos hW hF he hl))

/-- The copy whose last mark is turned. -/
theorem flip_lab {w wr : World} {n : Nat} {S : Nat → ByteArray} {B : Nat → Bool} (h : Ev w wr n n S B) (hpos : 0 < n) :
    LabAt (wr.setCell ⟨w.heap.size, (n - 1) * 2 + 1, none⟩ (.bool (!(B (n - 1))))) w.heap.size 0 n S (fun i => if i = n - 1 then !(B (n - 1)) else B i) := by
  obtain ⟨⟨f, h1, h2⟩, _⟩ := h
  have h3 := h1.set ((n - 1) * 2 + 1) (.bool (!(B (n - 1))))
  refine ⟨h3.lt, fun i hi => ?_, fun i hi => ?_⟩
  · rw [Nat.zero_add, h3.cell (by omega), if_neg (by omega), (h2 i hi).1]
  · rw [Nat.zero_add, h3.cell (by omega)]
    by_cases e : i = n - 1
    · subst e
      rw [if_pos rfl]
      simp
    · rw [if_neg (by omega), (h2 i hi).2]
      simp [e]


theorem q_whole (W np nr : Nat) (aoq : Option Addr) (S : Nat → ByteArray) (B : Nat → Bool) (r : Bool) (w : World) (hr : ((nr : Int) == 0) = r) (hn : np ≤ 65536) (hW : LabAt w W 0 np S B) (hq : Out w aoq np S B) :
    Calls Try.prog 8 #[.slice aoq np np, .slice (some ⟨W, 0, none⟩) (np + nr) (np + nr)] w fun e w' => e = .returned (.bool r) ∧ ∃ m, w' = w.drewN m := by
  by_cases h : nr = 0
  · subst h
    have : r = true := by rw [← hr]; rfl
    subst this
    exact q_whole_yes W np aoq S B w hn hW hq
  · have : r = false := by rw [← hr]; exact beq_eq_false_iff_ne.2 (by omega)
    subst this
    exact q_whole_no W np nr aoq w (by omega)

theorem f7_pos (ao : Option Addr) (n c : Nat) (S : Nat → ByteArray) (B : Nat → Bool) (w : World) (hn : n ≤ 65536) (hpos : 0 < n) (h : Came w ao n c S B) :
    Calls Try.prog 7 #[.slice ao n c] w fun e w' => e = .returned (.slice (some ⟨w.heap.size, 0, none⟩) n n) ∧ Hid (Ev w w' n n S B) := by
  rcases h with ⟨_, rfl, _⟩ | ⟨ad, rfl, rfl | ⟨b, off, e, h⟩⟩
  · omega
  · omega
  · cases e
    exact f7_row b off n c S B w hn h

theorem LabAt.store {w : World} {b off n g j : Nat} {S : Nat → ByteArray} {B : Nat → Bool} {v : Value} (h : LabAt w b off n S B) (hne : b ≠ g) : LabAt (w.setCell ⟨g, j, none⟩ v) b off n S B := by
  have e : ∀ o, (w.setCell ⟨g, j, none⟩ v).cell? ⟨b, o, none⟩ = w.cell? ⟨b, o, none⟩ := fun o => World.cell?_of_block (w := w) (Below.heap_setCell _ _ _ _ hne)
  exact ⟨by rw [World.size_setCell]; exact h.1, fun i hi => (e _).trans (h.2.1 i hi), fun i hi => (e _).trans (h.2.2 i hi)⟩

end Go.Proofs.Qxb6609229a
