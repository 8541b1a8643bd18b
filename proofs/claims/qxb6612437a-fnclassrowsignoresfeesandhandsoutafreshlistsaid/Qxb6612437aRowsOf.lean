import Derived.Test.Qxb6612437aStr
import Derived.Laws.OwnMore
import Derived.Deep.Slices
namespace Go.Proofs.Qxb6612437a
open Go.ChangeShapes Go.WideShapes Go.ChangeAt Go.RowKit

set_option maxRecDepth 100000
theorem Try.info9 : (Try.prog.info? 9).map (fun i => (i.zero, i.size, i.bytes)) = some (some (.string ⟨#[]⟩), 1, 16) := by kernel_rfl
theorem Try.info4 : (Try.prog.info? 4).map (fun i => (i.zero, i.size, i.bytes)) = some (some (.bool false), 1, 1) := by kernel_rfl
theorem Try.info54 : (Try.prog.info? 54).map (fun i => (i.zero, i.size, i.bytes)) = some (some (.agg #[.string ⟨#[]⟩, .slice none 0 0]), 2, 40) := by kernel_rfl

/-- The names, as cells. -/
def strs (S : Nat → ByteArray) (n : Nat) : List Value := (List.range n).map fun i => .string (S i)
theorem strs_succ (S : Nat → ByteArray) (n : Nat) : strs S (n + 1) = strs S n ++ [.string (S n)] := by simp [strs, List.range_succ]
theorem strs_length (S : Nat → ByteArray) (n : Nat) : (strs S n).length = n := by simp [strs]

set_option maxHeartbeats 1000000 in
theorem f13_row (T g n c : Nat) (S : Nat → ByteArray) (F : Nat → Value) (w : World) (hn : n ≤ 65536) (hT : w.cell? ⟨T, 4, none⟩ = some (.slice (some ⟨g, 0, none⟩) n c))
    (hc0 : ∀ i, i < n → w.cell? ⟨g, i * 2, none⟩ = some (.string (S i))) (hc1 : ∀ i, i < n → w.cell? ⟨g, i * 2 + 1, none⟩ = some (F i)) (hF : ∀ i, i < n → ∃ ao l cp, F i = .slice ao l cp) (hg : g < w.heap.size) :
    Calls Try.prog 13 #[.pointer (some ⟨T, 0, none⟩)] w fun e w' => e = .returned (.slice (some ⟨w.heap.size, 0, none⟩) n n) ∧
      w'.ownsRow w.heap.size 9 1 (.slice (some ⟨w.heap.size, 0, none⟩) n n) n (strs S n) ∧ Below w.heap.size w w' := by
  obtain ⟨i0, hi, hz0, hz1, hz2⟩ := info_parts Try.info9
  go_enter Try.func13, Try.ntmps13
  go_wp2_with (at_make; refine wpList_make_own _ rfl _ _ 22 rfl w.heap.size 9 i0 (.string ⟨#[]⟩) 1 Try.underlying22 hi hz0 hz1 _ _ _ n rfl rfl rfl (by rw [hz2]; omega) (by unfold maxLen; omega) (Nat.le_refl _) ?_; intro w1 hown1 hgrow1; have hT1 := hgrow1.cell hT (by simp); clear hT)
  have hB1 : Below w.heap.size w w1 := (Below.refl _ _).grown hgrow1 (Nat.le_refl _) (by simp)
  clear hgrow1
  go_loopw [3, 5, 17] (fun v _ i wr => ∃ (k : Nat), k ≤ n ∧ i = .int .i64 k ∧ v = .slice (some ⟨w.heap.size, 0, none⟩) k n ∧ wr.ownsRow w.heap.size 9 1 (.slice (some ⟨w.heap.size, 0, none⟩) k n) k (strs S k) ∧ Below w.heap.size w wr) (fun _ _ i _ => n - (intOf i).toNat)
  case atStart => exact ⟨0, Nat.zero_le _, rfl, rfl, hown1, hB1⟩
  case round =>
    obtain ⟨k, hk, rfl, rfl, hown, hB⟩ := hrel
    by_cases hlt : k < n
    · have h0 : wr.cell? ⟨g, k * 2, none⟩ = some (.string (S k)) := (hB.cell (by exact hg)).trans (hc0 k hlt)
      have h1 : wr.cell? ⟨g, k * 2 + 1, none⟩ = some (F k) := (hB.cell (by exact hg)).trans (hc1 k hlt)
      obtain ⟨ao, l, cp, hFk⟩ := hF k hlt
      rw [hFk] at h1
      clear hc0 hc1 hF hFk hT1 hB1 hown1
      go_wp2_with (at_builtin; refine wpList_append_fits _ rfl _ _ 22 rfl w.heap.size 9 i0 1 Try.underlying22 hi hz1 w.heap.size k n (strs S k) rfl ((hown.alloc _).alloc _) ⟨wr.heap.size + 1, 0, none⟩ 1 1 [.string (S k)] rfl rfl (by intro j u hj; match j, hj with | 0, hj => simp at hj; subst hj; simp [Addr.add]) (by simp [Value.oneCell']) (by omega) ?_; intro w2 hown2 hgrow2)
      have hsz := hB.size
      have hB2 : Below w.heap.size w w2 := ((hB.alloc hsz _).alloc (by simp; omega) _).grown hgrow2 (by simp; omega) (by simp)
      go_roundw
      case rel => exact ⟨k + 1, by omega, by go_num, rfl, by rw [strs_succ]; exact hown2, hB2⟩
      case measure => simp [intOf]; omega
    · obtain rfl : k = n := by omega
      clear hc0 hc1 hF hT1 hB1 hown1
      go_wp2
      go_ret
      exact ⟨rfl, hown, hB⟩

set_option maxHeartbeats 1000000 in
theorem f13_zero (T c : Nat) (ao : Option Addr) (w : World) (S : Nat → ByteArray) (hT : w.cell? ⟨T, 4, none⟩ = some (.slice ao 0 c)) :
    Calls Try.prog 13 #[.pointer (some ⟨T, 0, none⟩)] w fun e w' => e = .returned (.slice (some ⟨w.heap.size, 0, none⟩) 0 0) ∧
      w'.ownsRow w.heap.size 9 1 (.slice (some ⟨w.heap.size, 0, none⟩) 0 0) 0 (strs S 0) ∧ Below w.heap.size w w' := by
  obtain ⟨i0, hi, hz0, hz1, hz2⟩ := info_parts Try.info9
  go_enter Try.func13, Try.ntmps13
  go_wp2_with (at_make; refine wpList_make_own _ rfl _ _ 22 rfl w.heap.size 9 i0 (.string ⟨#[]⟩) 1 Try.underlying22 hi hz0 hz1 _ _ _ 0 rfl rfl rfl (by omega) (by unfold maxLen; omega) (Nat.le_refl _) ?_; intro w1 hown1 hgrow1; have hT1 := hgrow1.cell hT (by simp); clear hT)
  have hB1 : Below w.heap.size w w1 := (Below.refl _ _).grown hgrow1 (Nat.le_refl _) (by simp)
  refine wp_loop_rounds 1 ?_
  rw [rounds_succ]
  go_wp2
  go_ret
  exact ⟨rfl, hown1, hB1⟩

/-- The terms in memory: the classes' slice at the fourth cell, its elements' names. -/
def Terms (w : World) (T n : Nat) (S : Nat → ByteArray) : Prop :=
  ∃ ao c, w.cell? ⟨T, 4, none⟩ = some (.slice ao n c) ∧ (n = 0 ∨ ∃ g, ao = some ⟨g, 0, none⟩ ∧ g < w.heap.size ∧ (∀ i, i < n → w.cell? ⟨g, i * 2, none⟩ = some (.string (S i))) ∧ ∀ i, i < n → ∃ ao l cp, w.cell? ⟨g, i * 2 + 1, none⟩ = some (.slice ao l cp))

theorem f13_any (T n : Nat) (S : Nat → ByteArray) (w : World) (hn : n ≤ 65536) (h : Terms w T n S) :
    Calls Try.prog 13 #[.pointer (some ⟨T, 0, none⟩)] w fun e w' => e = .returned (.slice (some ⟨w.heap.size, 0, none⟩) n n) ∧
      w'.ownsRow w.heap.size 9 1 (.slice (some ⟨w.heap.size, 0, none⟩) n n) n (strs S n) ∧ Below w.heap.size w w' := by
  obtain ⟨ao, c, hT, rfl | ⟨g, rfl, hg, h0, h1⟩⟩ := h
  · exact f13_zero T c ao w S hT
  · have h1' : ∀ i, i < n → ∃ v : Value, w.cell? ⟨g, i * 2 + 1, none⟩ = some v ∧ ∃ ao l cp, v = .slice ao l cp := fun i hi => by
      obtain ⟨ao, l, cp, hv⟩ := h1 i hi
      exact ⟨_, hv, _, _, _, rfl⟩
    obtain ⟨F, hF⟩ := Deep.choose_lt h1'
    exact f13_row T g n c S F w hn hT h0 (fun i hi => (hF i hi).1) (fun i hi => (hF i hi).2) hg

theorem f8_any (T n : Nat) (S : Nat → ByteArray) (w : World) (hn : n ≤ 65536) (h : Terms w T n S) :
    Calls Try.prog 8 #[.pointer (some ⟨T, 0, none⟩)] w fun e w' => e = .returned (.slice (some ⟨w.heap.size, 0, none⟩) n n) ∧
      w'.ownsRow w.heap.size 9 1 (.slice (some ⟨w.heap.size, 0, none⟩) n n) n (strs S n) ∧ Below w.heap.size w w' := by
  go_enter Try.func8, Try.ntmps8
  go_wp2_with (go_at_call 13; refine (f13_any T n S _ hn h).mono ?_; rintro e w' ⟨rfl, hown, hb⟩)
  go_ret
  exact ⟨rfl, hown, hb⟩

end Go.Proofs.Qxb6612437a
