import Derived.Test.Qxb6612437aRows
import Derived.WalkKit
import Derived.ProofKit
import Derived.WalkSpells
import Derived.WalkLawsBesides
import Derived.Deep.QuietTactic
import Derived.BigQuiet
namespace Go.Proofs.Qxb6612437a
open Go.ChangeShapes Go.WideShapes Go.ChangeAt Go.RowKit

/-- The guard on bytes answers; where it says yes each name is short. -/
def Fits (n : Nat) (S : Nat → ByteArray) (e : Ending) : Prop := ∃ r, e = .returned (.bool r) ∧ (r = true → ∀ i, i < n → (S i).size ≤ 1048576)
theorem Fits.no {n : Nat} {S : Nat → ByteArray} {e : Ending} (h : e = .returned (.bool false)) : Fits n S e := ⟨false, h, fun h => by cases h⟩
theorem Fits.yes {n : Nat} {S : Nat → ByteArray} {e : Ending} (h : e = .returned (.bool true)) (hs : ∀ i, i < n → (S i).size ≤ 1048576) : Fits n S e := ⟨true, h, fun _ => hs⟩

/-- It answers an int. -/
def AnInt (e : Ending) : Prop := ∃ z, e = .returned (.int .i64 z)
theorem AnInt.of {e : Ending} {z : Int} (h : e = .returned (.int .i64 z)) : AnInt e := ⟨z, h⟩

set_option maxHeartbeats 400000 in
theorem f5_row (b off n c : Nat) (S : Nat → ByteArray) (w : World) (hc : ∀ i, i < n → w.cell? ⟨b, off + i, none⟩ = some (.string (S i))) :
    Calls Try.prog 5 #[.slice (some ⟨b, off, none⟩) n c] w fun e w' => Fits n S e ∧ w' = w := by
  by_cases hb : (1048576 : Int) < (n : Int)
  · go_enter Try.func5, Try.ntmps5
    go_wp2
    go_ret
    exact ⟨Fits.no rfl, rfl⟩
  · have hb' : decide ((1048576 : Int) < (n : Int)) = false := decide_eq_false hb
    go_enter Try.func5, Try.ntmps5
    go_wp2
    go_loop [3, 4] (fun t i => ∃ (k : Nat) (z : Int), k ≤ n ∧ i = .int .i64 k ∧ t = .int .i64 z ∧ Hid (∀ i, i < k → (S i).size ≤ 1048576)) (fun _ i => n - (intOf i).toNat)
    case atStart => exact ⟨0, _, Nat.zero_le _, rfl, rfl, fun i hi => absurd hi (Nat.not_lt_zero _)⟩
    case round =>
      obtain ⟨k, z, hk, rfl, rfl, hs⟩ := hrel
      by_cases hlt : k < n
      · have hcell := hc k hlt
        by_cases hsz : (1048576 : Int) < ((S k).size : Int)
        · go_wp2
          go_ret
          exact ⟨Fits.no rfl, rfl⟩
        · go_wp2
          · go_ret
            exact ⟨Fits.no rfl, rfl⟩
          · go_round
            case rel => exact ⟨k + 1, _, by omega, by go_num, rfl, fun i hi => by
              by_cases h : i = k
              · subst h; omega
              · exact hs.out i (by omega)⟩
            case measure => simp [intOf]; omega
      · go_wp2
        go_ret
        exact ⟨Fits.yes rfl (fun i hi => hs.out i (by omega)), rfl⟩

set_option maxHeartbeats 400000 in
theorem f5_zero (ao : Option Addr) (c : Nat) (S : Nat → ByteArray) (w : World) :
    Calls Try.prog 5 #[.slice ao 0 c] w fun e w' => Fits 0 S e ∧ w' = w := by
  go_enter Try.func5, Try.ntmps5
  go_wp2
  refine wp_loop_rounds 1 ?_
  rw [rounds_succ]
  go_wp2
  go_ret
  exact ⟨Fits.yes rfl (fun i hi => absurd hi (Nat.not_lt_zero _)), rfl⟩

set_option maxHeartbeats 400000 in
theorem f6_row (b off n c : Nat) (S : Nat → ByteArray) (w : World) (hn : n ≤ 65536) (hc : ∀ i, i < n → w.cell? ⟨b, off + i, none⟩ = some (.string (S i))) :
    Calls Try.prog 6 #[.slice (some ⟨b, off, none⟩) n c] w fun e w' => AnInt e ∧ w' = w := by
  go_enter Try.func6, Try.ntmps6
  go_wp2
  go_loop [3, 4, 10] (fun t _ i => ∃ (k : Nat) (z : Int), k ≤ n ∧ i = .int .i64 k ∧ t = .int .i64 z) (fun _ _ i => n - (intOf i).toNat)
  case atStart => exact ⟨0, _, Nat.zero_le _, rfl, rfl⟩
  case round =>
    obtain ⟨k, z, hk, rfl, rfl⟩ := hrel
    by_cases hlt : k < n
    · have hcell := hc k hlt
      go_wp2
      · go_ret
        exact ⟨AnInt.of rfl, rfl⟩
      · go_round
        case rel => exact ⟨k + 1, _, by omega, by go_num, rfl⟩
        case measure => simp [intOf]; omega
      · go_ret
        exact ⟨AnInt.of rfl, rfl⟩
    · go_wp2
      go_ret
      exact ⟨AnInt.of rfl, rfl⟩

set_option maxHeartbeats 400000 in
theorem f6_zero (ao : Option Addr) (c : Nat) (w : World) :
    Calls Try.prog 6 #[.slice ao 0 c] w fun e w' => AnInt e ∧ w' = w := by
  go_enter Try.func6, Try.ntmps6
  go_wp2
  refine wp_loop_rounds 1 ?_
  rw [rounds_succ]
  go_wp2
  go_ret
  exact ⟨AnInt.of rfl, rfl⟩

/-- 'sameStrings' at two lists of the same names. -/
theorem f9_row (b off c b' off' c' n : Nat) (S : Nat → ByteArray) (w : World) (hn : n ≤ 65536) (hc : ∀ i, i < n → w.cell? ⟨b, off + i, none⟩ = some (.string (S i))) (hc' : ∀ i, i < n → w.cell? ⟨b', off' + i, none⟩ = some (.string (S i))) :
    Calls Try.prog 9 #[.slice (some ⟨b, off, none⟩) n c, .slice (some ⟨b', off', none⟩) n c'] w fun e w' => e = .returned (.bool true) ∧ ∃ m, w' = w.drewN m := by
  have hne : ((n : Int) != (n : Int)) = false := by simp
  go_enter Try.func9, Try.ntmps9
  go_wp2
  go_loopw [5, 13] (fun _ i wr => ∃ (k m : Nat), k ≤ n ∧ i = .int .i64 k ∧ wr = w.drewN m) (fun _ i _ => n - (intOf i).toNat)
  case atStart => exact ⟨0, 0, Nat.zero_le _, rfl, rfl⟩
  case round =>
    obtain ⟨k, m, hk, rfl, rfl⟩ := hrel
    by_cases hlt : k < n
    · have hcell := hc k hlt
      have hcell' := hc' k hlt
      have h0 : (0 : Int) ≤ (k : Int) := Int.natCast_nonneg _
      have h1 : (k : Int) < (n : Int) := by omega
      go_wp2
      go_quiet (fail)
      go_wp2
      go_roundw
      case rel => exact ⟨k + 1, m + nq, by omega, by go_num, rfl⟩
      case measure => simp [intOf]; omega
    · go_wp2
      go_ret
      exact ⟨rfl, m, rfl⟩

theorem f9_zero (ao ao' : Option Addr) (c c' : Nat) (w : World) :
    Calls Try.prog 9 #[.slice ao 0 c, .slice ao' 0 c'] w fun e w' => e = .returned (.bool true) ∧ ∃ m, w' = w.drewN m := by
  go_enter Try.func9, Try.ntmps9
  go_wp2
  refine wp_loop_rounds 1 ?_
  rw [rounds_succ]
  go_wp2
  go_ret
  exact ⟨rfl, 0, rfl⟩

end Go.Proofs.Qxb6612437a
