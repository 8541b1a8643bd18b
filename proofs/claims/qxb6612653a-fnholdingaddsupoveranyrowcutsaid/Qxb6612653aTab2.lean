import Derived.Test.Qxb6612653aTab
namespace Go.Proofs.Qxb6612653a
open Go.ChangeShapes Go.WideShapes Go.ChangeAt Go.RowKit
set_option maxRecDepth 100000

theorem pre_len (rows : List (List Int)) (r : Nat) (h : r < rows.length) : (pre rows (r + 1) 0).length = (pre rows r 0).length + (row rows r).length := by
  rw [← pre_row rows r h]
  simp [pre]

set_option maxHeartbeats 2000000 in
theorem f10_row (b off c nb c2 : Nat) (ao2 : Option Addr) (rows : List (List Int)) (w : World) (h : TabAt w b off rows) :
    Calls Try.prog 10 #[.slice (some ⟨b, off, none⟩) rows.length c, .slice ao2 nb c2, .slice none 0 0] w fun e w' => Small nb rows e ∧ w' = w := by
  have hc : ∀ r, r < rows.length → ∃ ao c, w.cell? ⟨b, off + r, none⟩ = some (.slice ao (row rows r).length c) := fun r hr => by
    obtain ⟨ao, c, h1, _⟩ := h.2 r (by omega)
    exact ⟨ao, c, h1⟩
  clear h
  obtain ⟨R, hR⟩ : ∃ R, R = rows.length := ⟨_, rfl⟩
  rw [← hR] at hc ⊢
  have HR : Hid (R = rows.length) := hR
  clear hR
  by_cases ha : (65536 : Int) < (R : Int)
  · go_enter Try.func10, Try.ntmps10
    go_wp2
    go_ret
    exact ⟨Small.yes rfl, rfl⟩
  have ha' : decide ((65536 : Int) < (R : Int)) = false := decide_eq_false ha
  by_cases hb : (65536 : Int) < (nb : Int)
  · go_enter Try.func10, Try.ntmps10
    go_wp2
    go_ret
    exact ⟨Small.yes rfl, rfl⟩
  have hb' : decide ((65536 : Int) < (nb : Int)) = false := decide_eq_false hb
  by_cases h8 : (1048576 : Int) < 8 * (nb : Int)
  · go_enter Try.func10, Try.ntmps10
    go_wp2
    go_ret
    exact ⟨Small.yes rfl, rfl⟩
  have h8' : decide ((1048576 : Int) < 8 * (nb : Int)) = false := decide_eq_false h8
  by_cases h9 : (1048576 : Int) < 8 * (nb : Int) + 8 * (R : Int)
  · go_enter Try.func10, Try.ntmps10
    go_wp2
    go_ret
    exact ⟨Small.yes rfl, rfl⟩
  have h9' : decide ((1048576 : Int) < 8 * (nb : Int) + 8 * (R : Int)) = false := decide_eq_false h9
  go_enter Try.func10, Try.ntmps10
  go_wp2
  go_loop [7, 8] (fun t i => ∃ (k T : Nat), k ≤ R ∧ i = .int .i64 k ∧ t = .int .i64 (8 * (nb : Int) + 8 * (R : Int) + 4 * (T : Int)) ∧ 8 * (nb : Int) + 8 * (R : Int) + 4 * (T : Int) ≤ 1048576 ∧ Hid (T = (pre rows k 0).length)) (fun _ i => R - (intOf i).toNat)
  case atStart => exact ⟨0, 0, Nat.zero_le _, rfl, by go_num, by omega, by simp [Hid, pre]⟩
  case round =>
    obtain ⟨k, T, hk, rfl, rfl, hT, HT⟩ := hrel
    by_cases hlt : k < R
    · obtain ⟨ao, c', hcell⟩ := hc k hlt
      obtain ⟨l, hl⟩ : ∃ l, l = (row rows k).length := ⟨_, rfl⟩
      rw [← hl] at hcell
      have HL : Hid (l = (row rows k).length) := hl
      clear hc hl
      by_cases hl1 : (1048576 : Int) < (l : Int)
      · go_wp2
        go_ret
        exact ⟨Small.yes rfl, rfl⟩
      by_cases hl2 : (1048576 : Int) < 8 * (nb : Int) + 8 * (R : Int) + 4 * (T : Int) + 4 * (l : Int)
      · go_wp2
        go_ret
        exact ⟨Small.yes rfl, rfl⟩
      · go_wp2
        go_round
        case rel => exact ⟨k + 1, T + l, by omega, by go_num, by go_num, by omega, by rw [Hid, pre_len rows k (by have := HR.out; omega), HT.out, HL.out]⟩
        case measure => simp [intOf]; omega
    · clear hc
      go_wp2
      go_ret
      refine ⟨Small.no rfl ⟨by have := HR.out; omega, by omega, ?_⟩, rfl⟩
      have := HT.out
      rw [pre_end rows k (by have := HR.out; omega)] at this
      omega

end Go.Proofs.Qxb6612653a
