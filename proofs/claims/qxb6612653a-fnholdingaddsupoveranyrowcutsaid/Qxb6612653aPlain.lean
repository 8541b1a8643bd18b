namespace Go.Proofs.Qxb6612653a

/-- How often d stands in l. -/
def cnt (l : List Int) (d : Nat) : Nat := l.count (d : Int)
/-- The counts of all numbers below k. -/
def sumc (l : List Int) : Nat → Nat
  | 0 => 0
  | k + 1 => sumc l k + cnt l k
/-- How many are not -1. -/
def filled (l : List Int) : Nat := l.countP (fun x => x != -1)

theorem cnt_append (a b : List Int) (d : Nat) : cnt (a ++ b) d = cnt a d + cnt b d := List.count_append
theorem cnt_le (l : List Int) (d : Nat) : cnt l d ≤ l.length := List.count_le_length
theorem cnt_nil (d : Nat) : cnt [] d = 0 := rfl
theorem cnt_cons (x : Int) (l : List Int) (d : Nat) : cnt (x :: l) d = cnt l d + if x = (d : Int) then 1 else 0 := by
  unfold cnt
  rw [List.count_cons]
  by_cases h : x = (d : Int) <;> simp [h]
theorem cnt_snoc (l : List Int) (x : Int) (d : Nat) : cnt (l ++ [x]) d = cnt l d + if x = (d : Int) then 1 else 0 := by
  rw [cnt_append, cnt_cons, cnt_nil, Nat.zero_add]

theorem sumc_nil (k : Nat) : sumc [] k = 0 := by
  induction k with
  | zero => rfl
  | succ k ih => rw [sumc, ih, cnt_nil]
theorem sumc_cons (x : Int) (l : List Int) (k : Nat) : sumc (x :: l) k = sumc l k + if 0 ≤ x ∧ x < (k : Int) then 1 else 0 := by
  induction k with
  | zero => rw [if_neg (by omega)]; rfl
  | succ k ih =>
    rw [sumc, sumc, ih, cnt_cons]
    by_cases h1 : x = (k : Int)
    · rw [if_neg (by omega), if_pos h1, if_pos (by omega)]; omega
    · rw [if_neg h1]
      by_cases h2 : 0 ≤ x ∧ x < (k : Int)
      · rw [if_pos h2, if_pos (by omega)]; omega
      · rw [if_neg h2, if_neg (by omega)]; omega
theorem sumc_le (l : List Int) (k : Nat) : sumc l k ≤ l.length := by
  induction l with
  | nil => rw [sumc_nil]; exact Nat.zero_le _
  | cons x l ih =>
    rw [sumc_cons, List.length_cons]
    split <;> omega
theorem filled_nil : filled [] = 0 := rfl
theorem filled_cons (x : Int) (l : List Int) : filled (x :: l) = filled l + if x = -1 then 0 else 1 := by
  unfold filled
  rw [List.countP_cons]
  by_cases h : x = -1 <;> simp [h]
theorem filled_append (a b : List Int) : filled (a ++ b) = filled a + filled b := List.countP_append
theorem filled_snoc (l : List Int) (x : Int) : filled (l ++ [x]) = filled l + if x = -1 then 0 else 1 := by
  rw [filled_append, filled_cons, filled_nil, Nat.zero_add]
theorem filled_le (l : List Int) : filled l ≤ l.length := List.countP_le_length

/-- Every number is -1 or below n. -/
def Ok (n : Nat) (l : List Int) : Prop := ∀ x, x ∈ l → x = -1 ∨ (0 ≤ x ∧ x < (n : Int))

/-- THE PLAIN LAW: the counts add up to what is filled. -/
theorem sumc_filled (n : Nat) (l : List Int) (h : Ok n l) : sumc l n = filled l := by
  induction l with
  | nil => rw [sumc_nil, filled_nil]
  | cons x l ih =>
    rw [sumc_cons, filled_cons, ih (fun y hy => h y (List.mem_cons_of_mem _ hy))]
    rcases h x (List.mem_cons_self) with hx | hx
    · rw [if_neg (by omega), if_pos hx]
    · rw [if_pos hx, if_neg (by omega)]

/-- .. and over a cut of the rows. -/
theorem cnt_cut (rows : List (List Int)) (c : Nat) (d : Nat) : cnt rows.flatten d = cnt (rows.take c).flatten d + cnt (rows.drop c).flatten d := by
  rw [← cnt_append, ← List.flatten_append, List.take_append_drop]

/-! ### Prefixes of a table -/
/-- Row r. -/
def row (rows : List (List Int)) (r : Nat) : List Int := rows.getD r []
/-- What stands ahead of place p of row r. -/
def pre (rows : List (List Int)) (r p : Nat) : List Int := (rows.take r).flatten ++ (row rows r).take p

theorem pre_start (rows : List (List Int)) : pre rows 0 0 = [] := by simp [pre]
theorem take_succ (rows : List (List Int)) (r : Nat) (h : r < rows.length) : rows.take (r + 1) = rows.take r ++ [row rows r] := by
  rw [List.take_succ_eq_append_getElem h, row, List.getD_eq_getElem?_getD, List.getElem?_eq_getElem h]; rfl
theorem pre_row (rows : List (List Int)) (r : Nat) (h : r < rows.length) : pre rows r (row rows r).length = pre rows (r + 1) 0 := by
  unfold pre
  rw [List.take_length, take_succ rows r h, List.flatten_append]
  simp
theorem pre_next (rows : List (List Int)) (r p : Nat) (h : p < (row rows r).length) : pre rows r (p + 1) = pre rows r p ++ [(row rows r).getD p 0] := by
  unfold pre
  rw [List.take_succ_eq_append_getElem h, List.append_assoc, List.getD_eq_getElem?_getD, List.getElem?_eq_getElem h]; rfl
theorem pre_end (rows : List (List Int)) (r : Nat) (h : rows.length ≤ r) : pre rows r 0 = rows.flatten := by
  unfold pre
  rw [List.take_of_length_le h]; simp
theorem pre_zero (rows : List (List Int)) (r : Nat) : pre rows r 0 = (rows.take r).flatten := by simp [pre]
theorem pre_le (rows : List (List Int)) (r p : Nat) : (pre rows r p).length ≤ rows.flatten.length := by
  unfold pre
  rcases Nat.lt_or_ge r rows.length with h | h
  · have e : rows.flatten = (rows.take r).flatten ++ (row rows r ++ (rows.drop (r + 1)).flatten) := by
      have e1 : rows = rows.take r ++ (row rows r :: rows.drop (r + 1)) := by
        have := take_succ rows r h
        have h2 := List.take_append_drop (r + 1) rows
        rw [this] at h2
        rw [List.append_assoc] at h2
        exact h2.symm
      have e2 := congrArg List.flatten e1
      rw [List.flatten_append, List.flatten_cons] at e2
      exact e2
    rw [e]
    simp only [List.length_append]
    have := List.length_take_le p (row rows r)
    have := List.length_take_le' p (row rows r)
    omega
  · have : row rows r = [] := by unfold row; rw [List.getD_eq_getElem?_getD, List.getElem?_eq_none h]; rfl
    rw [this, List.take_of_length_le h]; simp
theorem mem_row {rows : List (List Int)} {r p : Nat} (hr : r < rows.length) (hp : p < (row rows r).length) : (row rows r).getD p 0 ∈ rows.flatten := by
  refine List.mem_flatten.2 ⟨row rows r, ?_, ?_⟩
  · unfold row; rw [List.getD_eq_getElem?_getD, List.getElem?_eq_getElem hr]; exact List.getElem_mem hr
  · rw [List.getD_eq_getElem?_getD, List.getElem?_eq_getElem hp]; exact List.getElem_mem hp

end Go.Proofs.Qxb6612653a
