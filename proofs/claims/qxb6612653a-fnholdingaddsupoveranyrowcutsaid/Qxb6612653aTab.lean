import Derived.Test.Qxb6612653aRows
import Derived.Test.Qxb6612653aPlain
import Derived.WalkKit
import Derived.ProofKit
import Derived.WalkSpells
import Derived.WalkLawsBesides
import Derived.Deep.QuietTactic
import Derived.BigQuiet
namespace Go.Proofs.Qxb6612653a
open Go.ChangeShapes Go.WideShapes Go.ChangeAt Go.RowKit
set_option maxRecDepth 100000

/-- A row of the table in memory. -/
def RowI (w : World) (ao : Option Addr) (l : List Int) : Prop :=
  l = [] ∨ ∃ b off, ao = some ⟨b, off, none⟩ ∧ b < w.heap.size ∧ ∀ p, p < l.length → w.cell? ⟨b, off + p, none⟩ = some (.int .i32 (l.getD p 0))
/-- The rows from an address on. -/
def TabAt (w : World) (b off : Nat) (rows : List (List Int)) : Prop :=
  b < w.heap.size ∧ ∀ r, r < rows.length → ∃ ao c, w.cell? ⟨b, off + r, none⟩ = some (.slice ao (row rows r).length c) ∧ RowI w ao (row rows r)
/-- The table in memory. -/
def Tab (w : World) (ao : Option Addr) (rows : List (List Int)) : Prop := rows = [] ∨ ∃ b off, ao = some ⟨b, off, none⟩ ∧ TabAt w b off rows

theorem RowI.below {w w' : World} {ao : Option Addr} {l : List Int} (h : RowI w ao l) (hb : Below w.heap.size w w') : RowI w' ao l := by
  rcases h with h | ⟨b, off, e, hl, hc⟩
  · exact .inl h
  · exact .inr ⟨b, off, e, Nat.lt_of_lt_of_le hl hb.size, fun p hp => (hb.cell (by exact hl)).trans (hc p hp)⟩
theorem TabAt.below {w w' : World} {b off : Nat} {rows : List (List Int)} (h : TabAt w b off rows) (hb : Below w.heap.size w w') : TabAt w' b off rows :=
  ⟨Nat.lt_of_lt_of_le h.1 hb.size, fun r hr => by
    obtain ⟨ao, c, h1, h2⟩ := h.2 r hr
    exact ⟨ao, c, (hb.cell (by exact h.1)).trans h1, h2.below hb⟩⟩
theorem Tab.below {w w' : World} {ao : Option Addr} {rows : List (List Int)} (h : Tab w ao rows) (hb : Below w.heap.size w w') : Tab w' ao rows := by
  rcases h with h | ⟨b, off, e, h⟩
  · exact .inl h
  · exact .inr ⟨b, off, e, h.below hb⟩

/-- It answers a bool. -/
def ABool (e : Ending) : Prop := ∃ r, e = .returned (.bool r)
theorem ABool.of {e : Ending} {r : Bool} (h : e = .returned (.bool r)) : ABool e := ⟨r, h⟩

set_option maxHeartbeats 1000000 in
theorem f9_row (b off c nb c2 : Nat) (ao2 : Option Addr) (cut : Int) (rows : List (List Int)) (w : World) (h : TabAt w b off rows) :
    Calls Try.prog 9 #[.slice (some ⟨b, off, none⟩) rows.length c, .slice ao2 nb c2, .int .i64 cut] w fun e w' => ABool e ∧ w' = w := by
  obtain ⟨R, hR⟩ : ∃ R, R = rows.length := ⟨_, rfl⟩
  have hc : ∀ r, r < R → ∃ ao c, w.cell? ⟨b, off + r, none⟩ = some (.slice ao (row rows r).length c) := fun r hr => by
    obtain ⟨ao, c, h1, _⟩ := h.2 r (by omega)
    exact ⟨ao, c, h1⟩
  rw [← hR]
  clear h hR
  by_cases hb : (1048576 : Int) < (R : Int)
  · go_enter Try.func9, Try.ntmps9
    go_wp2
    go_ret
    exact ⟨ABool.of rfl, rfl⟩
  · have hb' : decide ((1048576 : Int) < (R : Int)) = false := decide_eq_false hb
    go_enter Try.func9, Try.ntmps9
    go_wp2
    go_loop [7, 8] (fun t i => ∃ (k : Nat) (z : Int), k ≤ R ∧ i = .int .i64 k ∧ t = .int .i64 z) (fun _ i => R - (intOf i).toNat)
    case atStart => exact ⟨0, _, Nat.zero_le _, rfl, rfl⟩
    case round =>
      obtain ⟨k, z, hk, rfl, rfl⟩ := hrel
      by_cases hlt : k < R
      · obtain ⟨ao, c', hcell⟩ := hc k hlt
        clear hc
        go_wp2
        · go_ret
          exact ⟨ABool.of rfl, rfl⟩
        · go_ret
          exact ⟨ABool.of rfl, rfl⟩
        · go_round
          case rel => exact ⟨k + 1, _, by omega, by go_num, rfl⟩
          case measure => simp [intOf]; omega
      · clear hc
        go_wp2
        all_goals
          go_ret
          exact ⟨ABool.of rfl, rfl⟩

set_option maxHeartbeats 1000000 in
theorem f9_zero (ao ao2 : Option Addr) (c nb c2 : Nat) (cut : Int) (w : World) :
    Calls Try.prog 9 #[.slice ao 0 c, .slice ao2 nb c2, .int .i64 cut] w fun e w' => ABool e ∧ w' = w := by
  go_enter Try.func9, Try.ntmps9
  go_wp2
  refine wp_loop_rounds 1 ?_
  rw [rounds_succ]
  go_wp2
  all_goals
    go_ret
    exact ⟨ABool.of rfl, rfl⟩

/-- 'zzTooBig' answers; where it says no all is small. -/
def Small (nb : Nat) (rows : List (List Int)) (e : Ending) : Prop := ∃ r, e = .returned (.bool r) ∧ (r = false → rows.length ≤ 65536 ∧ nb ≤ 65536 ∧ rows.flatten.length ≤ 262144)
theorem Small.yes {nb : Nat} {rows : List (List Int)} {e : Ending} (h : e = .returned (.bool true)) : Small nb rows e := ⟨true, h, fun h => by cases h⟩
theorem Small.no {nb : Nat} {rows : List (List Int)} {e : Ending} (h : e = .returned (.bool false)) (hs : rows.length ≤ 65536 ∧ nb ≤ 65536 ∧ rows.flatten.length ≤ 262144) : Small nb rows e := ⟨false, h, fun _ => hs⟩

set_option maxHeartbeats 1000000 in
theorem f10_zero (ao ao2 : Option Addr) (c nb c2 : Nat) (w : World) :
    Calls Try.prog 10 #[.slice ao 0 c, .slice ao2 nb c2, .slice none 0 0] w fun e w' => Small nb [] e ∧ w' = w := by
  by_cases hb : (65536 : Int) < (nb : Int)
  · go_enter Try.func10, Try.ntmps10
    go_wp2
    go_ret
    exact ⟨Small.yes rfl, rfl⟩
  · have hb' : decide ((65536 : Int) < (nb : Int)) = false := decide_eq_false hb
    by_cases h8 : (1048576 : Int) < 8 * (nb : Int)
    · go_enter Try.func10, Try.ntmps10
      go_wp2
      go_ret
      exact ⟨Small.yes rfl, rfl⟩
    · go_enter Try.func10, Try.ntmps10
      go_wp2
      refine wp_loop_rounds 1 ?_
      rw [rounds_succ]
      go_wp2
      go_ret
      exact ⟨Small.no rfl ⟨by simp, by omega, by simp⟩, rfl⟩

end Go.Proofs.Qxb6612653a
