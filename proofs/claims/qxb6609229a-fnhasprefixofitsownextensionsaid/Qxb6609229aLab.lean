import Derived.Test.Qxb6609229aRows
import Derived.WalkKit
import Derived.ProofKit
import Derived.WalkSpells
import Derived.WalkLawsBesides
import Derived.Deep.QuietTactic
import Derived.BigQuiet
import Derived.Laws.OwnMore
import Derived.Deep.OwnRows
namespace Go.Proofs.Qxb6609229a
open Go.ChangeShapes Go.WideShapes Go.ChangeAt Go.RowKit
set_option maxRecDepth 100000

/-- It answers a bool. -/
def ABool (e : Ending) : Prop := ∃ r, e = .returned (.bool r)
theorem ABool.of {e : Ending} {r : Bool} (h : e = .returned (.bool r)) : ABool e := ⟨r, h⟩
/-- It answers an int. -/
def AnInt (e : Ending) : Prop := ∃ z, e = .returned (.int .i64 z)
theorem AnInt.of {e : Ending} {z : Int} (h : e = .returned (.int .i64 z)) : AnInt e := ⟨z, h⟩

/-- Labels in memory, from an address on. -/
def LabAt (w : World) (b off n : Nat) (S : Nat → ByteArray) (B : Nat → Bool) : Prop :=
  b < w.heap.size ∧ (∀ i, i < n → w.cell? ⟨b, off + i * 2, none⟩ = some (.string (S i))) ∧ ∀ i, i < n → w.cell? ⟨b, off + i * 2 + 1, none⟩ = some (.bool (B i))
/-- Labels in memory. -/
def Lab (w : World) (ao : Option Addr) (n : Nat) (S : Nat → ByteArray) (B : Nat → Bool) : Prop := n = 0 ∨ ∃ b off, ao = some ⟨b, off, none⟩ ∧ LabAt w b off n S B
theorem LabAt.below {w w' : World} {b off n : Nat} {S : Nat → ByteArray} {B : Nat → Bool} (h : LabAt w b off n S B) (hb : Below w.heap.size w w') : LabAt w' b off n S B :=
  ⟨Nat.lt_of_lt_of_le h.1 hb.size, fun i hi => (hb.cell (by exact h.1)).trans (h.2.1 i hi), fun i hi => (hb.cell (by exact h.1)).trans (h.2.2 i hi)⟩
theorem Lab.below {w w' : World} {ao : Option Addr} {n : Nat} {S : Nat → ByteArray} {B : Nat → Bool} (h : Lab w ao n S B) (hb : Below w.heap.size w w') : Lab w' ao n S B := by
  rcases h with h | ⟨b, off, e, h⟩
  · exact .inl h
  · exact .inr ⟨b, off, e, h.below hb⟩

set_option maxHeartbeats 2000000 in
theorem f5_row_row (b0 o0 n0 c0 : Nat) (S0 : Nat → ByteArray) (b1 o1 n1 c1 : Nat) (S1 : Nat → ByteArray) (w : World) (hc0 : ∀ i, i < n0 → w.cell? ⟨b0, o0 + i * 2, none⟩ = some (.string (S0 i))) (hc1 : ∀ i, i < n1 → w.cell? ⟨b1, o1 + i * 2, none⟩ = some (.string (S1 i))) :
    Calls Try.prog 5 #[.slice (some ⟨b0, o0, none⟩) n0 c0, .slice (some ⟨b1, o1, none⟩) n1 c1] w fun e w' => ABool e ∧ w' = w := by
  by_cases hb : (1048576 : Int) < (n0 : Int)
  · go_enter Try.func5, Try.ntmps5
    go_wp2
    go_ret
    exact ⟨ABool.of rfl, rfl⟩
  have hb' : decide ((1048576 : Int) < (n0 : Int)) = false := decide_eq_false hb
  by_cases hd : (1048576 : Int) < (n1 : Int)
  · go_enter Try.func5, Try.ntmps5
    go_wp2
    go_loop [5, 6] (fun t i => ∃ (k : Nat) (z : Int), k ≤ n0 ∧ i = .int .i64 k ∧ t = .int .i64 z) (fun _ i => n0 - (intOf i).toNat)
    case atStart => exact ⟨0, _, Nat.zero_le _, rfl, rfl⟩
    case round =>
      obtain ⟨k, z, hk, rfl, rfl⟩ := hrel
      by_cases hlt : k < n0
      · have hcell := hc0 k hlt
        go_wp2
        · go_ret
          exact ⟨ABool.of rfl, rfl⟩
        · go_ret
          exact ⟨ABool.of rfl, rfl⟩
        · go_round
          case rel => exact ⟨k + 1, _, by omega, by go_num, rfl⟩
          case measure => simp [intOf]; omega
      · go_wp2
        go_ret
        exact ⟨ABool.of rfl, rfl⟩
  have hd' : decide ((1048576 : Int) < (n1 : Int)) = false := decide_eq_false hd
  go_enter Try.func5, Try.ntmps5
  go_wp2
  go_loop [5, 6] (fun t i => ∃ (k : Nat) (z : Int), k ≤ n0 ∧ i = .int .i64 k ∧ t = .int .i64 z) (fun _ i => n0 - (intOf i).toNat)
  case atStart => exact ⟨0, _, Nat.zero_le _, rfl, rfl⟩
  case round =>
    obtain ⟨k, z, hk, rfl, rfl⟩ := hrel
    by_cases hlt : k < n0
    · have hcell := hc0 k hlt
      go_wp2
      · go_ret
        exact ⟨ABool.of rfl, rfl⟩
      · go_ret
        exact ⟨ABool.of rfl, rfl⟩
      · go_round
        case rel => exact ⟨k + 1, _, by omega, by go_num, rfl⟩
        case measure => simp [intOf]; omega
    · go_wp2
      · go_ret
        exact ⟨ABool.of rfl, rfl⟩
      · go_loop [5, 7] (fun t i => ∃ (k : Nat) (z : Int), k ≤ n1 ∧ i = .int .i64 k ∧ t = .int .i64 z) (fun _ i => n1 - (intOf i).toNat)
        case atStart => exact ⟨0, _, Nat.zero_le _, rfl, rfl⟩
        case round =>
          obtain ⟨k, z, hk, rfl, rfl⟩ := hrel
          by_cases hlt : k < n1
          · have hcell := hc1 k hlt
            go_wp2
            · go_ret
              exact ⟨ABool.of rfl, rfl⟩
            · go_ret
              exact ⟨ABool.of rfl, rfl⟩
            · go_round
              case rel => exact ⟨k + 1, _, by omega, by go_num, rfl⟩
              case measure => simp [intOf]; omega
          · go_wp2
            go_ret
            exact ⟨ABool.of rfl, rfl⟩


set_option maxHeartbeats 2000000 in
theorem f5_row_zero (b0 o0 n0 c0 : Nat) (S0 : Nat → ByteArray) (a1 : Option Addr) (c1 : Nat) (w : World) (hc0 : ∀ i, i < n0 → w.cell? ⟨b0, o0 + i * 2, none⟩ = some (.string (S0 i))) :
    Calls Try.prog 5 #[.slice (some ⟨b0, o0, none⟩) n0 c0, .slice a1 0 c1] w fun e w' => ABool e ∧ w' = w := by
  by_cases hb : (1048576 : Int) < (n0 : Int)
  · go_enter Try.func5, Try.ntmps5
    go_wp2
    go_ret
    exact ⟨ABool.of rfl, rfl⟩
  have hb' : decide ((1048576 : Int) < (n0 : Int)) = false := decide_eq_false hb
  go_enter Try.func5, Try.ntmps5
  go_wp2
  go_loop [5, 6] (fun t i => ∃ (k : Nat) (z : Int), k ≤ n0 ∧ i = .int .i64 k ∧ t = .int .i64 z) (fun _ i => n0 - (intOf i).toNat)
  case atStart => exact ⟨0, _, Nat.zero_le _, rfl, rfl⟩
  case round =>
    obtain ⟨k, z, hk, rfl, rfl⟩ := hrel
    by_cases hlt : k < n0
    · have hcell := hc0 k hlt
      go_wp2
      · go_ret
        exact ⟨ABool.of rfl, rfl⟩
      · go_ret
        exact ⟨ABool.of rfl, rfl⟩
      · go_round
        case rel => exact ⟨k + 1, _, by omega, by go_num, rfl⟩
        case measure => simp [intOf]; omega
    · go_wp2
      · go_ret
        exact ⟨ABool.of rfl, rfl⟩
      · refine wp_loop_rounds 1 ?_
        rw [rounds_succ]
        go_wp2
        go_ret
        exact ⟨ABool.of rfl, rfl⟩


set_option maxHeartbeats 2000000 in
theorem f5_zero_row (a0 : Option Addr) (c0 : Nat) (b1 o1 n1 c1 : Nat) (S1 : Nat → ByteArray) (w : World) (hc1 : ∀ i, i < n1 → w.cell? ⟨b1, o1 + i * 2, none⟩ = some (.string (S1 i))) :
    Calls Try.prog 5 #[.slice a0 0 c0, .slice (some ⟨b1, o1, none⟩) n1 c1] w fun e w' => ABool e ∧ w' = w := by
  by_cases hd : (1048576 : Int) < (n1 : Int)
  · go_enter Try.func5, Try.ntmps5
    go_wp2
    refine wp_loop_rounds 1 ?_
    rw [rounds_succ]
    go_wp2
    go_ret
    exact ⟨ABool.of rfl, rfl⟩
  have hd' : decide ((1048576 : Int) < (n1 : Int)) = false := decide_eq_false hd
  go_enter Try.func5, Try.ntmps5
  go_wp2
  refine wp_loop_rounds 1 ?_
  rw [rounds_succ]
  go_wp2
  go_loop [5, 7] (fun t i => ∃ (k : Nat) (z : Int), k ≤ n1 ∧ i = .int .i64 k ∧ t = .int .i64 z) (fun _ i => n1 - (intOf i).toNat)
  case atStart => exact ⟨0, _, Nat.zero_le _, rfl, rfl⟩
  case round =>
    obtain ⟨k, z, hk, rfl, rfl⟩ := hrel
    by_cases hlt : k < n1
    · have hcell := hc1 k hlt
      go_wp2
      · go_ret
        exact ⟨ABool.of rfl, rfl⟩
      · go_ret
        exact ⟨ABool.of rfl, rfl⟩
      · go_round
        case rel => exact ⟨k + 1, _, by omega, by go_num, rfl⟩
        case measure => simp [intOf]; omega
    · go_wp2
      go_ret
      exact ⟨ABool.of rfl, rfl⟩


set_option maxHeartbeats 2000000 in
theorem f5_zero_zero (a0 : Option Addr) (c0 : Nat) (a1 : Option Addr) (c1 : Nat) (w : World) :
    Calls Try.prog 5 #[.slice a0 0 c0, .slice a1 0 c1] w fun e w' => ABool e ∧ w' = w := by
  go_enter Try.func5, Try.ntmps5
  go_wp2
  refine wp_loop_rounds 1 ?_
  rw [rounds_succ]
  go_wp2
  refine wp_loop_rounds 1 ?_
  rw [rounds_succ]
  go_wp2
  go_ret
  exact ⟨ABool.of rfl, rfl⟩



theorem f5_any (a0 a1 : Option Addr) (n0 n1 c0 c1 : Nat) (S0 S1 : Nat → ByteArray) (B0 B1 : Nat → Bool) (w : World) (h0 : Lab w a0 n0 S0 B0) (h1 : Lab w a1 n1 S1 B1) :
    Calls Try.prog 5 #[.slice a0 n0 c0, .slice a1 n1 c1] w fun e w' => ABool e ∧ w' = w := by
  rcases h0 with rfl | ⟨b0, o0, rfl, h0⟩
  · rcases h1 with rfl | ⟨b1, o1, rfl, h1⟩
    · exact f5_zero_zero a0 c0 a1 c1 w
    · exact f5_zero_row a0 c0 b1 o1 n1 c1 S1 w h1.2.1
  · rcases h1 with rfl | ⟨b1, o1, rfl, h1⟩
    · exact f5_row_zero b0 o0 n0 c0 S0 a1 c1 w h0.2.1
    · exact f5_row_row b0 o0 n0 c0 S0 b1 o1 n1 c1 S1 w h0.2.1 h1.2.1

set_option maxHeartbeats 400000 in
theorem f6_row (b off n c : Nat) (S : Nat → ByteArray) (w : World) (hn : n ≤ 65536) (hc : ∀ i, i < n → w.cell? ⟨b, off + i * 2, none⟩ = some (.string (S i))) :
    Calls Try.prog 6 #[.slice (some ⟨b, off, none⟩) n c] w fun e w' => AnInt e ∧ w' = w := by
  go_enter Try.func6, Try.ntmps6
  go_wp2
  go_loop [3, 4] (fun t i => ∃ (k : Nat) (z : Int), k ≤ n ∧ i = .int .i64 k ∧ t = .int .i64 z) (fun _ i => n - (intOf i).toNat)
  case atStart => exact ⟨0, _, Nat.zero_le _, rfl, rfl⟩
  case round =>
    obtain ⟨k, z, hk, rfl, rfl⟩ := hrel
    by_cases hlt : k < n
    · have hcell := hc k hlt
      go_wp2
      go_round
      case rel => exact ⟨k + 1, _, by omega, by go_num, rfl⟩
      case measure => simp [intOf]; omega
    · go_wp2
      go_ret
      exact ⟨AnInt.of rfl, rfl⟩

set_option maxHeartbeats 400000 in
theorem f6_zero (ao : Option Addr) (c : Nat) (w : World) :
    Calls Try.prog 6 #[.slice ao 0 c] w fun e w' => AnInt e ∧ w' = w := by
  go_enter Try.func6, Try.ntmps6
  go_wp2
  refine wp_loop_rounds 1 ?_
  rw [rounds_succ]
  go_wp2
  go_ret
  exact ⟨AnInt.of rfl, rfl⟩

theorem f6_any (ao : Option Addr) (n c : Nat) (S : Nat → ByteArray) (B : Nat → Bool) (w : World) (hn : n ≤ 65536) (h : Lab w ao n S B) :
    Calls Try.prog 6 #[.slice ao n c] w fun e w' => AnInt e ∧ w' = w := by
  rcases h with rfl | ⟨b, off, rfl, h⟩
  · exact f6_zero ao c w
  · exact f6_row b off n c S w hn h.2.1

end Go.Proofs.Qxb6609229a
