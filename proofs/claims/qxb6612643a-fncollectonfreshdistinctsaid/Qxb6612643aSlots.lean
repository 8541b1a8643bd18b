import Derived.Test.Qxb6612643aRows
import Derived.WalkKit
import Derived.ProofKit
import Derived.WalkSpells
import Derived.WalkLawsBesides
import Derived.Deep.QuietTactic
import Derived.BigQuiet
import Derived.Laws.EntriesVeiled
import Derived.Deep.OwnRows
namespace Go.Proofs.Qxb6612643a
open Go.ChangeShapes Go.WideShapes Go.ChangeAt Go.RowKit
set_option maxRecDepth 100000

/-- The sizes that a table may have for at most 65536 values. -/
def Pow (s : Int) : Prop := s = 64 ∨ s = 128 ∨ s = 256 ∨ s = 512 ∨ s = 1024 ∨ s = 2048 ∨ s = 4096 ∨ s = 8192 ∨ s = 16384 ∨ s = 32768 ∨ s = 65536 ∨ s = 131072
theorem Pow.bounds {s : Int} (h : Pow s) : 64 ≤ s ∧ s ≤ 131072 := by unfold Pow at h; omega
theorem Pow.twice {s : Int} (h : Pow s) (hs : s ≤ 87382) : Pow (s * 2) := by unfold Pow at h ⊢; omega

/-- The least table for n values. -/
def Least (s n : Int) : Prop := Pow s ∧ 4 * n ≤ 3 * s ∧ (s = 64 ∨ 3 * (s / 2) < 4 * n)

/-- It answers the least table. -/
def Answers (n : Int) (e : Ending) : Prop := ∃ s, e = .returned (.int .i64 s) ∧ Least s n
theorem Answers.of {n s : Int} {e : Ending} (h : e = .returned (.int .i64 s)) (hl : Least s n) : Answers n e := ⟨s, h, hl⟩

set_option maxHeartbeats 400000 in
theorem f27_any (n : Int) (w : World) (h0 : 16 < n) (h1 : n ≤ 65536) :
    Calls Try.prog 27 #[.int .i64 n] w fun e w' => Answers n e ∧ w' = w := by
  go_enter Try.func27, Try.ntmps27
  go_wp2
  go_loop [3] (fun t => ∃ s : Int, t = .int .i64 s ∧ Hid (Pow s ∧ (s = 64 ∨ 3 * (s / 2) < 4 * n))) (fun t => (200000 - intOf t).toNat)
  case atStart => exact ⟨64, rfl, ⟨.inl rfl, .inl rfl⟩⟩
  case round =>
    obtain ⟨s, rfl, hs⟩ := hrel
    obtain ⟨b0, b1⟩ := hs.out.1.bounds
    by_cases hlt : 3 * s < 4 * n
    · go_wp2
      go_round
      case rel => exact ⟨s * 2, rfl, ⟨hs.out.1.twice (by omega), .inr (by omega)⟩⟩
      case measure => simp [intOf]; omega
    · go_wp2
      go_ret
      exact ⟨Answers.of rfl ⟨hs.out.1, by omega, hs.out.2⟩, rfl⟩

set_option maxHeartbeats 1000000 in
theorem f15_any (s n : Int) (w : World) (h0 : 16 < n) (h1 : n ≤ 65536) (h : Least s n) :
    Calls Try.prog 15 #[.int .i64 s, .int .i64 n] w fun e w' => e = .returned (.bool true) ∧ w' = w := by
  obtain ⟨hp, h2, h3⟩ := h
  unfold Pow at hp
  rcases hp with rfl | rfl | rfl | rfl | rfl | rfl | rfl | rfl | rfl | rfl | rfl | rfl
  all_goals
    go_enter Try.func15, Try.ntmps15
    go_wp2
    go_ret
    exact ⟨by first | rfl | (simp; omega), rfl⟩

end Go.Proofs.Qxb6612643a
