import Derived.Test.Qxb6612653aHold
namespace Go.Proofs.Qxb6612653a
open Go.ChangeShapes Go.WideShapes Go.ChangeAt Go.RowKit
set_option maxRecDepth 100000

/-- Counts in memory. -/
def Held (w : World) (g n : Nat) (l : List Int) : Prop := g < w.heap.size ∧ ∀ d, d < n → w.cell? ⟨g, d, none⟩ = some (.int .i64 (cnt l d))
theorem held_of {w w' : World} {n : Nat} {l : List Int} (h : Hd w w' n l) : Held w' w.heap.size n l := ⟨h.1.lt, fun _ hd => h.1.cell hd⟩
theorem Held.below {w w' : World} {g n : Nat} {l : List Int} (h : Held w g n l) (hb : Below w.heap.size w w') : Held w' g n l :=
  ⟨Nat.lt_of_lt_of_le h.1 hb.size, fun d hd => (hb.cell (by exact h.1)).trans (h.2 d hd)⟩

/-- The devices, as they came in. -/
def Ints (w : World) (ao : Option Addr) (n c : Nat) : Prop :=
  (ao = none ∧ n = 0 ∧ c = 0) ∨ ∃ ad, ao = some ad ∧ (n = 0 ∨ ∃ (b off : Nat) (zs : Nat → Int), ad = ⟨b, off, none⟩ ∧ b < w.heap.size ∧ ∀ i, i < n → w.cell? ⟨b, off + i, none⟩ = some (.int .i64 (zs i)))
theorem Ints.below {w w' : World} {ao : Option Addr} {n c : Nat} (h : Ints w ao n c) (hb : Below w.heap.size w w') : Ints w' ao n c := by
  rcases h with h | ⟨ad, e, h | ⟨b, off, zs, e2, hl, hc⟩⟩
  · exact .inl h
  · exact .inr ⟨ad, e, .inl h⟩
  · exact .inr ⟨ad, e, .inr ⟨b, off, zs, e2, Nat.lt_of_lt_of_le hl hb.size, fun i hi => (hb.cell (by exact hl)).trans (hc i hi)⟩⟩

theorem f9_any (ao ao2 : Option Addr) (c nb c2 : Nat) (cut : Int) (rows : List (List Int)) (w : World) (h : Tab w ao rows) :
    Calls Try.prog 9 #[.slice ao rows.length c, .slice ao2 nb c2, .int .i64 cut] w fun e w' => ABool e ∧ w' = w := by
  rcases h with rfl | ⟨b, off, rfl, h⟩
  · exact f9_zero ao ao2 c nb c2 cut w
  · exact f9_row b off c nb c2 ao2 cut rows w h
theorem f10_any (ao ao2 : Option Addr) (c nb c2 : Nat) (rows : List (List Int)) (w : World) (h : Tab w ao rows) :
    Calls Try.prog 10 #[.slice ao rows.length c, .slice ao2 nb c2, .slice none 0 0] w fun e w' => Small nb rows e ∧ w' = w := by
  rcases h with rfl | ⟨b, off, rfl, h⟩
  · exact f10_zero ao ao2 c nb c2 w
  · exact f10_row b off c nb c2 ao2 rows w h
theorem f11_any (ao : Option Addr) (c : Nat) (rows : List (List Int)) (w : World) (hR : rows.length ≤ 65536) (h : Tab w ao rows) :
    Calls Try.prog 11 #[.slice ao rows.length c] w fun e w' => IntBool e ∧ w' = w := by
  rcases h with rfl | ⟨b, off, rfl, h⟩
  · exact f11_zero ao c w
  · exact f11_row b off c rows w hR h
theorem f12_any (ao : Option Addr) (c n : Nat) (rows : List (List Int)) (w : World) (hR : rows.length ≤ 65536) (hL : rows.flatten.length ≤ 262144) (hw : ∀ x, x ∈ rows.flatten → -2147483648 ≤ x ∧ x ≤ 2147483647) (h : Tab w ao rows) :
    Calls Try.prog 12 #[.slice ao rows.length c, .int .i64 n] w fun e w' => Valid n rows e ∧ w' = w := by
  rcases h with rfl | ⟨b, off, rfl, h⟩
  · exact f12_zero ao c n w
  · exact f12_row b off c n rows w hR hL hw h
theorem f18_any (ao : Option Addr) (c : Nat) (rows : List (List Int)) (w : World) (hR : rows.length ≤ 65536) (hL : rows.flatten.length ≤ 262144) (h : Tab w ao rows) :
    Calls Try.prog 18 #[.slice ao rows.length c] w fun e w' => e = .returned (.int .i64 (filled rows.flatten)) ∧ w' = w := by
  rcases h with rfl | ⟨b, off, rfl, h⟩
  · exact f18_zero ao c w
  · exact f18_row b off c rows w hR hL h
theorem f13_any (ad : Addr) (c : Nat) (rows : List (List Int)) (w : World) (hR : rows.length ≤ 65536) (hL : rows.flatten.length ≤ 262144) (h : Tab w (some ad) rows) :
    Calls Try.prog 13 #[.slice (some ad) rows.length c] w fun e w' => e = .returned (.slice (some ⟨w.heap.size, 0, none⟩) rows.length rows.length) ∧ (rows = [] ∨ TabAt w' w.heap.size 0 rows) ∧ Below w.heap.size w w' := by
  rcases h with rfl | ⟨b, off, e, h⟩
  · exact (f13_zero ad c w).mono fun e w' ⟨he, hb⟩ => ⟨he, .inl rfl, hb⟩
  · cases e
    exact (f13_row b off c rows w hR hL h).mono fun e w' ⟨he, ht, hb⟩ => ⟨he, .inr ht.out, hb⟩
theorem f14_any (ao : Option Addr) (n c : Nat) (w : World) (hn : n ≤ 65536) (h : Ints w ao n c) :
    Calls Try.prog 14 #[.slice ao n c] w fun e w' => ASlice n e ∧ Below w.heap.size w w' := by
  rcases h with ⟨rfl, rfl, rfl⟩ | ⟨ad, rfl, rfl | ⟨b, off, zs, rfl, hl, hc⟩⟩
  · exact f14_nil w
  · exact f14_zero ad c w
  · exact f14_row b off n c zs w hn hl hc

/-! ### A table cut in two -/
theorem row_take {rows : List (List Int)} {k r : Nat} (h : r < k) : row (rows.take k) r = row rows r := by
  unfold row
  rw [List.getD_eq_getElem?_getD, List.getD_eq_getElem?_getD, List.getElem?_take, if_pos h]
theorem row_drop {rows : List (List Int)} {k r : Nat} : row (rows.drop k) r = row rows (k + r) := by
  unfold row
  rw [List.getD_eq_getElem?_getD, List.getD_eq_getElem?_getD, List.getElem?_drop]
theorem tab_take {w : World} {b : Nat} {rows : List (List Int)} (h : TabAt w b 0 rows) (k : Nat) : TabAt w b 0 (rows.take k) := by
  refine ⟨h.1, fun r hr => ?_⟩
  have hr' : r < k ∧ r < rows.length := by rw [List.length_take] at hr; omega
  rw [row_take hr'.1]
  exact h.2 r hr'.2
theorem tab_drop {w : World} {b : Nat} {rows : List (List Int)} (h : TabAt w b 0 rows) (k : Nat) : TabAt w b k (rows.drop k) := by
  refine ⟨h.1, fun r hr => ?_⟩
  have hr' : r < rows.length - k := by simpa using hr
  rw [row_drop]
  have := h.2 (k + r) (by omega)
  rwa [Nat.zero_add] at this
theorem flat_le (rows : List (List Int)) (k : Nat) : (rows.take k).flatten.length ≤ rows.flatten.length ∧ (rows.drop k).flatten.length ≤ rows.flatten.length := by
  have : rows.flatten = (rows.take k).flatten ++ (rows.drop k).flatten := by rw [← List.flatten_append, List.take_append_drop]
  rw [this, List.length_append]
  omega
theorem ok_take {n : Nat} {rows : List (List Int)} (h : Ok n rows.flatten) (k : Nat) : Ok n (rows.take k).flatten ∧ Ok n (rows.drop k).flatten := by
  have e : rows.flatten = (rows.take k).flatten ++ (rows.drop k).flatten := by rw [← List.flatten_append, List.take_append_drop]
  rw [e] at h
  exact ⟨fun x hx => h x (List.mem_append.2 (.inl hx)), fun x hx => h x (List.mem_append.2 (.inr hx))⟩

theorem Set.below {w w' : World} {ao : Option Addr} {rows : List (List Int)} {n : Nat} (h : Set w ao rows n) (hb : Below w.heap.size w w') : Set w' ao rows n := ⟨h.rows_le, h.n_le, h.all_le, h.ok, h.tab.below hb⟩

theorem Placed.below {w w' : World} {pl : Nat} {a b : Value} (h : Placed w pl a b) (hb : Below w.heap.size w w') : Placed w' pl a b :=
  ⟨Nat.lt_of_lt_of_le h.1 hb.size, (hb.cell (by exact h.1)).trans h.2.1, (hb.cell (by exact h.1)).trans h.2.2⟩

/-- The numbers that the last loop compares. -/
theorem cnt_two (rows : List (List Int)) (k d : Nat) : (cnt rows.flatten d : Int) = (cnt (rows.take k).flatten d : Int) + (cnt (rows.drop k).flatten d : Int) := by
  rw [cnt_cut rows k d]; simp

end Go.Proofs.Qxb6612653a
