import Derived.Test.Qxb6612437aLaw1
import Derived.Deep.OwnRows
namespace Go.Proofs.Qxb6612437a
open Go.ChangeShapes Go.WideShapes Go.ChangeAt Go.RowKit
set_option maxRecDepth 100000

set_option maxHeartbeats 400000 in
theorem f10_row (b off n c : Nat) (S : Nat → ByteArray) (w : World) (hc : ∀ i, i < n → w.cell? ⟨b, off + i * 2, none⟩ = some (.string (S i))) :
    Calls Try.prog 10 #[.slice (some ⟨b, off, none⟩) n c] w fun e w' => Fits n S e ∧ w' = w := by
  by_cases hb : (1048576 : Int) < (n : Int)
  · go_enter Try.func10, Try.ntmps10
    go_wp2
    go_ret
    exact ⟨Fits.no rfl, rfl⟩
  · have hb' : decide ((1048576 : Int) < (n : Int)) = false := decide_eq_false hb
    go_enter Try.func10, Try.ntmps10
    go_wp2
    go_loop [3, 4] (fun t i => ∃ (k : Nat) (z : Int), k ≤ n ∧ i = .int .i64 k ∧ t = .int .i64 z ∧ Hid (∀ i, i < k → (S i).size ≤ 1048576)) (fun _ i => n - (intOf i).toNat)
    case atStart => exact ⟨0, _, Nat.zero_le _, rfl, rfl, fun i hi => absurd hi (Nat.not_lt_zero _)⟩
    case round =>
      obtain ⟨k, z, hk, rfl, rfl, hs⟩ := hrel
      by_cases hlt : k < n
      · have hcell := hc k hlt
        by_cases hsz : (1048576 : Int) < ((S k).size : Int)
        · go_wp2
          go_ret
          exact ⟨Fits.no rfl, rfl⟩
        · go_wp2
          · go_ret
            exact ⟨Fits.no rfl, rfl⟩
          · go_round
            case rel => exact ⟨k + 1, _, by omega, by go_num, rfl, fun i hi => by
              by_cases h : i = k
              · subst h; omega
              · exact hs.out i (by omega)⟩
            case measure => simp [intOf]; omega
      · go_wp2
        go_ret
        exact ⟨Fits.yes rfl (fun i hi => hs.out i (by omega)), rfl⟩

set_option maxHeartbeats 400000 in
theorem f10_zero (ao : Option Addr) (c : Nat) (S : Nat → ByteArray) (w : World) :
    Calls Try.prog 10 #[.slice ao 0 c] w fun e w' => Fits 0 S e ∧ w' = w := by
  go_enter Try.func10, Try.ntmps10
  go_wp2
  refine wp_loop_rounds 1 ?_
  rw [rounds_succ]
  go_wp2
  go_ret
  exact ⟨Fits.yes rfl (fun i hi => absurd hi (Nat.not_lt_zero _)), rfl⟩

set_option maxHeartbeats 400000 in
theorem f11_row (b off n c : Nat) (S : Nat → ByteArray) (w : World) (hn : n ≤ 65536) (hc : ∀ i, i < n → w.cell? ⟨b, off + i * 2, none⟩ = some (.string (S i))) :
    Calls Try.prog 11 #[.slice (some ⟨b, off, none⟩) n c] w fun e w' => AnInt e ∧ w' = w := by
  go_enter Try.func11, Try.ntmps11
  go_wp2
  go_loop [3, 4, 10] (fun t _ i => ∃ (k : Nat) (z : Int), k ≤ n ∧ i = .int .i64 k ∧ t = .int .i64 z) (fun _ _ i => n - (intOf i).toNat)
  case atStart => exact ⟨0, _, Nat.zero_le _, rfl, rfl⟩
  case round =>
    obtain ⟨k, z, hk, rfl, rfl⟩ := hrel
    by_cases hlt : k < n
    · have hcell := hc k hlt
      go_wp2
      · go_ret
        exact ⟨AnInt.of rfl, rfl⟩
      · go_round
        case rel => exact ⟨k + 1, _, by omega, by go_num, rfl⟩
        case measure => simp [intOf]; omega
      · go_ret
        exact ⟨AnInt.of rfl, rfl⟩
    · go_wp2
      go_ret
      exact ⟨AnInt.of rfl, rfl⟩

set_option maxHeartbeats 400000 in
theorem f11_zero (ao : Option Addr) (c : Nat) (w : World) :
    Calls Try.prog 11 #[.slice ao 0 c] w fun e w' => AnInt e ∧ w' = w := by
  go_enter Try.func11, Try.ntmps11
  go_wp2
  refine wp_loop_rounds 1 ?_
  rw [rounds_succ]
  go_wp2
  go_ret
  exact ⟨AnInt.of rfl, rfl⟩

/-- 'ZZclassName' at an index in range. -/
theorem f12_any (T n k : Nat) (S : Nat → ByteArray) (w : World) (h : Terms w T n S) (hk : k < n) :
    Calls Try.prog 12 #[.pointer (some ⟨T, 0, none⟩), .int .i64 k] w fun e w' => e = .returned (.string (S k)) ∧ w' = w := by
  obtain ⟨ao, c, hT, rfl | ⟨g, rfl, hg, h0, h1⟩⟩ := h
  · omega
  · have hcell := h0 k hk
    clear h0 h1
    go_enter Try.func12, Try.ntmps12
    go_wp2
    go_ret
    exact ⟨rfl, rfl⟩

/-- A list of names and marks, as the walks are told of it. -/
def Cls (w : World) (ao : Option Addr) (n : Nat) (S : Nat → ByteArray) (B : Nat → Bool) : Prop :=
  n = 0 ∨ ∃ b off, ao = some ⟨b, off, none⟩ ∧ b < w.heap.size ∧ (∀ i, i < n → w.cell? ⟨b, off + i * 2, none⟩ = some (.string (S i))) ∧ ∀ i, i < n → w.cell? ⟨b, off + i * 2 + 1, none⟩ = some (.bool (B i))

theorem f10_any (ao : Option Addr) (n c : Nat) (S : Nat → ByteArray) (B : Nat → Bool) (w : World) (h : Cls w ao n S B) : Calls Try.prog 10 #[.slice ao n c] w fun e w' => Fits n S e ∧ w' = w := by
  rcases h with rfl | ⟨b, off, rfl, _, hc, _⟩
  · exact f10_zero ao c S w
  · exact f10_row b off n c S w hc

theorem f11_any (ao : Option Addr) (n c : Nat) (S : Nat → ByteArray) (B : Nat → Bool) (w : World) (hn : n ≤ 65536) (h : Cls w ao n S B) : Calls Try.prog 11 #[.slice ao n c] w fun e w' => AnInt e ∧ w' = w := by
  rcases h with rfl | ⟨b, off, rfl, _, hc, _⟩
  · exact f11_zero ao c w
  · exact f11_row b off n c S w hn hc

end Go.Proofs.Qxb6612437a
