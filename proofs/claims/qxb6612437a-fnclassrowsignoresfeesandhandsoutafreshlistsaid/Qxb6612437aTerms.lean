import Derived.Test.Qxb6612437aRowsOf
import Derived.Deep.AppendLies
import Derived.Deep.RegionLaw
namespace Go.Proofs.Qxb6612437a
open Go.ChangeShapes Go.WideShapes Go.ChangeAt Go.RowKit
set_option maxRecDepth 100000

def Named (S : Nat → ByteArray) (k : Nat) (xs : List Value) : Prop := (∀ i, i < k → xs[i * 2]? = some (.string (S i))) ∧ ∀ i, i < k → ∃ ao l cp, xs[i * 2 + 1]? = some (.slice ao l cp)

theorem block_two (w : World) (o : Obj) (cs : Array Value) (t : TypeId) : ((w.alloc o).alloc (.cells cs t)).drew.heap[w.heap.size + 1]? = some (.cells cs t (0, 0)) := by
  have := heap_alloc_new (w.alloc o) (.cells cs t)
  rw [World.size_alloc] at this
  exact this
theorem far_cell {w w1 : World} {o o' : Obj} {row : Option Nat} (hg : ((w.alloc o).alloc o').drew.grownBy w1 row) {a : Addr} {v : Value} (h : w.cell? a = some v) (hl : a.block < w.heap.size) (hne : row ≠ some a.block) : w1.cell? a = some v :=
  (hg.cell_far a (by show a.block < ((w.alloc o).alloc o').heap.size; rw [World.size_alloc, World.size_alloc]; omega) (Ne.symm hne)).trans
    ((World.cell?_alloc_lt (w.alloc o) o' a (by rw [World.size_alloc]; omega)).trans ((World.cell?_alloc_lt w o a hl).trans h))
theorem far_frozen {w w1 : World} {o o' : Obj} {row : Option Nat} (hg : ((w.alloc o).alloc o').drew.grownBy w1 row) {a : Addr} (h : w.frozen? a = false) (hl : a.block < w.heap.size) (hne : row ≠ some a.block) : w1.frozen? a = false :=
  (hg.frozen_far a (by show a.block < ((w.alloc o).alloc o').heap.size; rw [World.size_alloc, World.size_alloc]; omega) (Ne.symm hne)).trans
    ((World.frozen?_alloc_old (w.alloc o) o' a (by rw [World.size_alloc]; omega)).trans ((World.frozen?_alloc_old w o a (Nat.ne_of_lt hl)).trans h))

theorem cell2 {w : World} {a : Addr} {v : Value} (h : w.cell? a = some v) (hl : a.block < w.heap.size) : ∀ o o', ((w.alloc o).alloc o').cell? a = some v := fun o o' =>
  (World.cell?_alloc_lt (w.alloc o) o' a (by rw [World.size_alloc]; omega)).trans ((World.cell?_alloc_lt w o a hl).trans h)
theorem cell3 {w : World} {a : Addr} {v : Value} (h : w.cell? a = some v) (hl : a.block < w.heap.size) : ∀ o o' o'', (((w.alloc o).alloc o').alloc o'').cell? a = some v := fun o o' o'' =>
  (World.cell?_alloc_lt ((w.alloc o).alloc o') o'' a (by rw [World.size_alloc, World.size_alloc]; omega)).trans (cell2 h hl o o')

theorem Below_alloc2 {B : Nat} {w w' : World} (h : Below B w w') (hB : B ≤ w'.heap.size) (o o' : Obj) : Below B w ((w'.alloc o).alloc o').drew := ((h.alloc hB o).alloc (by rw [World.size_alloc]; omega) o').drew
theorem Below_alloc3 {B : Nat} {w w' : World} (h : Below B w w') (hB : B ≤ w'.heap.size) (o o' o'' : Obj) : Below B w (((w'.alloc o).alloc o').alloc o'').drew := (((h.alloc hB o).alloc (by rw [World.size_alloc]; omega) o').alloc (by rw [World.size_alloc, World.size_alloc]; omega) o'').drew
theorem block_three (w : World) (o o' : Obj) (cs : Array Value) (t : TypeId) : (((w.alloc o).alloc o').alloc (.cells cs t)).drew.heap[w.heap.size + 2]? = some (.cells cs t (0, 0)) := by
  have := heap_alloc_new ((w.alloc o).alloc o') (.cells cs t)
  rw [World.size_alloc, World.size_alloc] at this
  exact this
theorem far_cell3 {w w1 : World} {o o' o'' : Obj} {row : Option Nat} (hg : (((w.alloc o).alloc o').alloc o'').drew.grownBy w1 row) {a : Addr} {v : Value} (h : w.cell? a = some v) (hl : a.block < w.heap.size) (hne : row ≠ some a.block) : w1.cell? a = some v :=
  (hg.cell_far a (by show a.block < (((w.alloc o).alloc o').alloc o'').heap.size; rw [World.size_alloc, World.size_alloc, World.size_alloc]; omega) (Ne.symm hne)).trans (cell3 h hl o o' o'')
theorem far_frozen3 {w w1 : World} {o o' o'' : Obj} {row : Option Nat} (hg : (((w.alloc o).alloc o').alloc o'').drew.grownBy w1 row) {a : Addr} (h : w.frozen? a = false) (hl : a.block < w.heap.size) (hne : row ≠ some a.block) : w1.frozen? a = false :=
  (hg.frozen_far a (by show a.block < (((w.alloc o).alloc o').alloc o'').heap.size; rw [World.size_alloc, World.size_alloc, World.size_alloc]; omega) (Ne.symm hne)).trans
    ((World.frozen?_alloc_old ((w.alloc o).alloc o') o'' a (by rw [World.size_alloc, World.size_alloc]; omega)).trans ((World.frozen?_alloc_old (w.alloc o) o' a (by rw [World.size_alloc]; omega)).trans ((World.frozen?_alloc_old w o a (Nat.ne_of_lt hl)).trans h)))
theorem terms_end {w wr : World} {n cp : Nat} {ao : Option Addr} {xs : List Value} {S : Nat → ByteArray} (hT : wr.cell? ⟨w.heap.size + 1, 4, none⟩ = some (.slice ao n cp)) (hown : wr.ownsRow (w.heap.size + 2) 54 2 (.slice ao n cp) n xs) (hnm : Hid (Named S n xs)) : Terms wr (w.heap.size + 1) n S := by
  refine ⟨ao, cp, hT, ?_⟩
  by_cases h0 : n = 0
  · exact .inl h0
  · right
    obtain ⟨g, cap, e, hb, hl⟩ := hown.form (by omega)
    cases e
    have hcells : ∀ j u, xs[j]? = some u → wr.cell? ⟨g, j, none⟩ = some u := fun j u hu => by
      have := hown.cells (g := g) rfl j u hu
      rwa [Addr.add_lit, Nat.zero_add] at this
    exact ⟨g, rfl, hl, fun i hi => hcells _ _ (hnm.out.1 i hi), fun i hi => by
      obtain ⟨a, l, c, h⟩ := hnm.out.2 i hi
      exact ⟨a, l, c, hcells _ _ h⟩⟩
theorem named_succ {S : Nat → ByteArray} {k : Nat} {xs : List Value} {ao : Option Addr} {l c : Nat} (h : Named S k xs) (hx : xs.length = k * 2) : Named S (k + 1) (xs ++ [.string (S k), .slice ao l c]) := by
  refine ⟨fun i hi => ?_, fun i hi => ?_⟩
  · by_cases e : i = k
    · subst e; rw [List.getElem?_append_right (by omega), hx]; simp
    · rw [List.getElem?_append_left (by omega)]; exact h.1 i (by omega)
  · by_cases e : i = k
    · subst e; rw [List.getElem?_append_right (by omega), hx]; exact ⟨ao, l, c, by simp⟩
    · rw [List.getElem?_append_left (by omega)]; exact h.2 i (by omega)

theorem t_next {w wx w1 : World} {S : Nat → ByteArray} {k cp g cp2 l c : Nat} {xs : List Value} {ao ao' : Option Addr} {v : Value} (hB : Below w.heap.size w wx) (hsz : w.heap.size + 2 ≤ wx.heap.size) (hgrow : wx.grownBy w1 (Value.slice ao k cp).ownBlock)
    (hlo : ∀ q, (Value.slice ao k cp).ownBlock = some q → w.heap.size + 2 ≤ q) (hown1 : w1.ownsRow (w.heap.size + 2) 54 2 (.slice (some ⟨g, 0, none⟩) (k + 1) cp2) (k + 1) (xs ++ [.string (S k), .slice ao' l c])) (hx : xs.length = k * 2)
    (hnm : Hid (Named S k xs)) (hT : w1.cell? ⟨w.heap.size + 1, 4, none⟩ = some v) (hTf : w1.frozen? ⟨w.heap.size + 1, 4, none⟩ = false) :
    (w1.setCell ⟨w.heap.size + 1, 4, none⟩ (.slice (some ⟨g, 0, none⟩) (k + 1) cp2)).cell? ⟨w.heap.size + 1, 4, none⟩ = some (.slice (some ⟨g, 0, none⟩) (k + 1) cp2) ∧
    (w1.setCell ⟨w.heap.size + 1, 4, none⟩ (.slice (some ⟨g, 0, none⟩) (k + 1) cp2)).frozen? ⟨w.heap.size + 1, 4, none⟩ = false ∧
    (w1.setCell ⟨w.heap.size + 1, 4, none⟩ (.slice (some ⟨g, 0, none⟩) (k + 1) cp2)).ownsRow (w.heap.size + 2) 54 2 (.slice (some ⟨g, 0, none⟩) (k + 1) cp2) (k + 1) (xs ++ [.string (S k), .slice ao' l c]) ∧
    Hid (Named S (k + 1) (xs ++ [.string (S k), .slice ao' l c])) ∧ Below w.heap.size w (w1.setCell ⟨w.heap.size + 1, 4, none⟩ (.slice (some ⟨g, 0, none⟩) (k + 1) cp2)) ∧
    w.heap.size + 2 ≤ (w1.setCell ⟨w.heap.size + 1, 4, none⟩ (.slice (some ⟨g, 0, none⟩) (k + 1) cp2)).heap.size := by
  have hB1 : Below w.heap.size w w1 := hB.grown hgrow (by omega) (fun q hq => by have := hlo q hq; omega)
  refine ⟨World.cell?_setCell_same _ _ _ hT, by rw [World.frozen?_setCell]; exact hTf, ownsRow_setCell_below hown1 (by simp) _, named_succ hnm.out hx, hB1.setCell (by simp) _, ?_⟩
  rw [World.size_setCell]
  exact Nat.le_trans hsz hgrow.size

set_option maxHeartbeats 4000000 in
theorem f7_row (b off c b' off' c' n : Nat) (S : Nat → ByteArray) (B : Nat → Bool) (w : World) (hn : n ≤ 65536) (hc : ∀ i, i < n → w.cell? ⟨b, off + i, none⟩ = some (.string (S i))) (hc' : ∀ i, i < n → w.cell? ⟨b', off' + i, none⟩ = some (.bool (B i))) (hb : b < w.heap.size) (hb' : b' < w.heap.size) :
    Calls Try.prog 7 #[.slice (some ⟨b, off, none⟩) n c, .slice (some ⟨b', off', none⟩) n c'] w fun e w' => e = .returned (.pointer (some ⟨w.heap.size + 1, 0, none⟩)) ∧ Terms w' (w.heap.size + 1) n S ∧ Below w.heap.size w w' := by
  obtain ⟨i0, hi, hz0, hz1, hz2⟩ := info_parts Try.info54
  go_enter Try.func7, Try.ntmps7
  go_wp2_with fail
  go_loopw [6, 7, 15] (fun _ _ i wr => ∃ (k : Nat) (ao : Option Addr) (cp : Nat) (xs : List Value), k ≤ n ∧ i = .int .i64 k ∧ wr.cell? ⟨w.heap.size + 1, 4, none⟩ = some (.slice ao k cp) ∧ wr.frozen? ⟨w.heap.size + 1, 4, none⟩ = false ∧
      wr.ownsRow (w.heap.size + 2) 54 2 (.slice ao k cp) k xs ∧ Hid (Named S k xs) ∧ Below w.heap.size w wr ∧ w.heap.size + 2 ≤ wr.heap.size) (fun _ _ i _ => n - (intOf i).toNat)
  case atStart => exact ⟨0, none, 0, [], Nat.zero_le _, rfl, by simp, by simp, World.ownsRow_nil _ _ _ _, ⟨fun i hi => absurd hi (Nat.not_lt_zero _), fun i hi => absurd hi (Nat.not_lt_zero _)⟩, ((Below.refl _ _).alloc (Nat.le_refl _) _).alloc (by simp) _, by simp⟩
  case round =>
    obtain ⟨k, ao, cp, xs, hk, rfl, hT, hTf, hown, hnm, hB, hsz⟩ := hrel
    by_cases hlt : k < n
    · have h0 : wr.cell? ⟨b, off + k, none⟩ = some (.string (S k)) := (hB.cell (by exact hb)).trans (hc k hlt)
      have h1 : wr.cell? ⟨b', off' + k, none⟩ = some (.bool (B k)) := (hB.cell (by exact hb')).trans (hc' k hlt)
      clear hc hc'
      have hb1 : b < wr.heap.size := by omega
      have hb1' : b' < wr.heap.size := by omega
      have hT1 : w.heap.size + 1 < wr.heap.size := by omega
      have hlt2 : ∀ q, (Value.slice ao k cp).ownBlock = some q → w.heap.size + 2 ≤ q ∧ q < wr.heap.size := hown.lt
      have ag : (Value.slice ao k cp).ownBlock ≠ some (w.heap.size + 1) := fun h => by have := hlt2 _ h; omega
      have ac : (Value.slice ao k cp).ownBlock ≠ some wr.heap.size := fun h => by have := hlt2 _ h; omega
      have hc2 := cell2 hT hT1
      have hc3 := cell3 hT hT1
      have AG := (show Hid _ from ag)
      have AC := (show Hid _ from ac)
      have HL : Hid (∀ q, (Value.slice ao k cp).ownBlock = some q → w.heap.size + 2 ≤ q) := fun q hq => (hlt2 q hq).1
      clear ag ac hlt2
      cases hBk : B k with
      | true =>
        rw [hBk] at h1
        clear hBk
        go_wp2_with fail
        go_region_law ((refine step_append_lies _ (by rfl) _ _ _ (by rfl) (w.heap.size + 2) 54 i0 _ 2 40 Try.underlying46 hi hz0 hz1 hz2 rfl (by omega) (.slice ao k cp) k xs (by rfl) ((((hown.alloc _).alloc _).alloc _).drew) ⟨wr.heap.size + 2, 0, none⟩ 1 1 [.string (S k), .slice (some ⟨wr.heap.size + 1, 0, none⟩) 1 1] (by rfl) (by rfl) (World.news_of_block (cs := #[.string (S k), .slice (some ⟨wr.heap.size + 1, 0, none⟩) 1 1]) (t := 54) (fr := (0, 0)) (block_three wr _ _ _ _)) (by simp [Value.oneCell']) (by omega) (by unfold maxLen; omega) (by omega) (by simp; omega) (wr.heap.size + 3) (by simp) ?_; intro g cp2 w1 hown1 hgrow hat hltg; have hT' := far_cell3 hgrow hT hT1 AG.out; have hTf' := far_frozen3 hgrow hTf hT1 AG.out))
        all_goals
          go_wp2
          go_roundw
          case rel =>
            have R := t_next (Below_alloc3 hB (by omega) _ _ _) (by simp; omega) hgrow HL.out hown1 hown.1 hnm hT' hTf'
            exact ⟨k + 1, _, _, _, by omega, by go_num, R.1, R.2.1, R.2.2.1, R.2.2.2.1, R.2.2.2.2.1, R.2.2.2.2.2⟩
          case measure => simp [intOf]; omega
      | false =>
        rw [hBk] at h1
        clear hBk
        go_wp2_with fail
        go_region_law ((refine step_append_lies _ (by rfl) _ _ _ (by rfl) (w.heap.size + 2) 54 i0 _ 2 40 Try.underlying46 hi hz0 hz1 hz2 rfl (by omega) (.slice ao k cp) k xs (by rfl) (((hown.alloc _).alloc _).drew) ⟨wr.heap.size + 1, 0, none⟩ 1 1 [.string (S k), .slice none 0 0] (by rfl) (by rfl) (World.news_of_block (cs := #[.string (S k), .slice none 0 0]) (t := 54) (fr := (0, 0)) (block_two wr _ _ _)) (by simp [Value.oneCell']) (by omega) (by unfold maxLen; omega) (by omega) (by simp; omega) (wr.heap.size + 2) (by simp) ?_; intro g cp2 w1 hown1 hgrow hat hltg; have hT' := far_cell hgrow hT hT1 AG.out; have hTf' := far_frozen hgrow hTf hT1 AG.out))
        all_goals
          go_wp2
          go_roundw
          case rel =>
            have R := t_next (Below_alloc2 hB (by omega) _ _) (by simp; omega) hgrow HL.out hown1 hown.1 hnm hT' hTf'
            exact ⟨k + 1, _, _, _, by omega, by go_num, R.1, R.2.1, R.2.2.1, R.2.2.2.1, R.2.2.2.2.1, R.2.2.2.2.2⟩
          case measure => simp [intOf]; omega
    · obtain rfl : k = n := by omega
      clear hc hc'
      go_wp2
      go_ret
      exact ⟨rfl, terms_end hT hown hnm, hB⟩

set_option maxHeartbeats 4000000 in
theorem f7_zero (ao ao' : Option Addr) (c c' : Nat) (S : Nat → ByteArray) (w : World) :
    Calls Try.prog 7 #[.slice ao 0 c, .slice ao' 0 c'] w fun e w' => e = .returned (.pointer (some ⟨w.heap.size + 1, 0, none⟩)) ∧ Terms w' (w.heap.size + 1) 0 S ∧ Below w.heap.size w w' := by
  go_enter Try.func7, Try.ntmps7
  go_wp2_with fail
  refine wp_loop_rounds 1 ?_
  rw [rounds_succ]
  go_wp2
  go_ret
  exact ⟨rfl, ⟨none, 0, by simp, .inl rfl⟩, ((Below.refl _ _).alloc (Nat.le_refl _) _).alloc (by simp) _⟩
end Go.Proofs.Qxb6612437a
