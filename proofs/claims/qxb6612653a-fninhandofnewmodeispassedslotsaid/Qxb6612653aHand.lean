import Derived.Test.Qxb6612653aRows
import Derived.WalkKit
import Derived.ProofKit
import Derived.WalkSpells
import Derived.WalkLawsBesides
import Derived.Deep.QuietTactic
import Derived.BigQuiet
namespace Go.Proofs.Qxb6612653a
open Go.ChangeShapes Go.WideShapes Go.ChangeAt Go.RowKit
set_option maxRecDepth 100000

/-- Does a mode hold a move in hand? -/
def hand (m : Int) : Bool := m == 1 || m == 2

set_option maxHeartbeats 400000 in
theorem f8_any (m : Int) (w : World) : Calls Try.prog 8 #[.int .i64 m] w fun e w' => e = .returned (.bool (hand m)) ∧ w' = w := by
  by_cases h1 : m = 1
  · subst h1
    go_enter Try.func8, Try.ntmps8
    go_wp2
    go_ret
    exact ⟨rfl, rfl⟩
  · by_cases h2 : m = 2
    · subst h2
      go_enter Try.func8, Try.ntmps8
      go_wp2
      go_ret
      exact ⟨rfl, rfl⟩
    · have e1 : (m == 1) = false := beq_eq_false_iff_ne.2 h1
      have e2 : (m == 2) = false := beq_eq_false_iff_ne.2 h2
      have e3 : hand m = false := by simp [hand, h1, h2]
      rw [e3]
      clear e3
      go_enter Try.func8, Try.ntmps8
      go_wp2
      go_ret
      exact ⟨rfl, rfl⟩

set_option maxHeartbeats 400000 in
theorem walk3 (k : Int) (w : World) : Calls Try.prog 3 #[.int .i64 k] w fun e w' => e = .returned (.bool true) ∧ w' = w := by
  by_cases h1 : k = 2
  · subst h1
    go_enter Try.func3, Try.ntmps3
    go_wp2
    go_ret
    exact ⟨rfl, rfl⟩
  · have e1 : (k == 2) = false := beq_eq_false_iff_ne.2 h1
    go_enter Try.func3, Try.ntmps3
    go_wp2
    go_ret
    exact ⟨rfl, rfl⟩

set_option maxHeartbeats 400000 in
theorem walk4 (m : Int) (w : World) : Calls Try.prog 4 #[.int .i64 m] w fun e w' => e = .returned (.bool true) ∧ w' = w := by
  by_cases h : 0 ≤ m ∧ m < 4
  · have hm : m = 0 ∨ m = 1 ∨ m = 2 ∨ m = 3 := by omega
    clear h
    rcases hm with rfl | rfl | rfl | rfl
    all_goals
      go_enter Try.func4, Try.ntmps4
      go_wp2
      go_ret
      exact ⟨rfl, rfl⟩
  · have e3 : hand m = false := by
      have h1 : m ≠ 1 := by omega
      have h2 : m ≠ 2 := by omega
      simp [hand, h1, h2]
    have h8 := f8_any m w
    rw [e3] at h8
    clear e3
    by_cases h0 : 0 ≤ m
    · have h4 : ¬ m < 4 := by omega
      clear h
      go_enter Try.func4, Try.ntmps4
      go_wp2_with fail
      refine h8.mono ?_
      rintro e w' ⟨rfl, rfl⟩
      go_wp2
      go_ret
      exact ⟨rfl, rfl⟩
    · clear h
      go_enter Try.func4, Try.ntmps4
      go_wp2_with fail
      refine h8.mono ?_
      rintro e w' ⟨rfl, rfl⟩
      go_wp2
      go_ret
      exact ⟨rfl, rfl⟩

end Go.Proofs.Qxb6612653a
