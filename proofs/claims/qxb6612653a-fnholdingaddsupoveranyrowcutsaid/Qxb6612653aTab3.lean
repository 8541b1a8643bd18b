import Derived.Test.Qxb6612653aTab2
namespace Go.Proofs.Qxb6612653a
open Go.ChangeShapes Go.WideShapes Go.ChangeAt Go.RowKit
set_option maxRecDepth 100000

/-- It answers an int and a bool. -/
def IntBool (e : Ending) : Prop := ∃ z r, e = .returned (.tuple #[.int .i64 z, .bool r])
theorem IntBool.of {e : Ending} {z : Int} {r : Bool} (h : e = .returned (.tuple #[.int .i64 z, .bool r])) : IntBool e := ⟨z, r, h⟩

set_option maxHeartbeats 2000000 in
theorem f11_zero (ao : Option Addr) (c : Nat) (w : World) :
    Calls Try.prog 11 #[.slice ao 0 c] w fun e w' => IntBool e ∧ w' = w := by
  go_enter Try.func11, Try.ntmps11
  go_wp2
  go_ret2
  exact ⟨IntBool.of rfl, rfl⟩

set_option maxHeartbeats 2000000 in
theorem f11_row (b off c : Nat) (rows : List (List Int)) (w : World) (hR : rows.length ≤ 65536) (h : TabAt w b off rows) :
    Calls Try.prog 11 #[.slice (some ⟨b, off, none⟩) rows.length c] w fun e w' => IntBool e ∧ w' = w := by
  have hc : ∀ r, r < rows.length → ∃ ao c, w.cell? ⟨b, off + r, none⟩ = some (.slice ao (row rows r).length c) := fun r hr => by
    obtain ⟨ao, c, h1, _⟩ := h.2 r (by omega)
    exact ⟨ao, c, h1⟩
  clear h
  obtain ⟨R, hR'⟩ : ∃ R, R = rows.length := ⟨_, rfl⟩
  rw [← hR'] at hc hR ⊢
  clear hR'
  by_cases h0 : R = 0
  · subst h0
    exact f11_zero _ c w
  have h0' : ((R : Int) == 0) = false := beq_eq_false_iff_ne.2 (by omega)
  obtain ⟨ao0, c0, hcell0⟩ := hc 0 (by omega)
  rw [Nat.add_zero] at hcell0
  obtain ⟨l0, hl0⟩ : ∃ l, l = (row rows 0).length := ⟨_, rfl⟩
  rw [← hl0] at hcell0
  clear hl0
  have hpos : (0 : Int) < (R : Int) := by omega
  go_enter Try.func11, Try.ntmps11
  go_wp2
  clear hcell0
  go_loop [5] (fun i => ∃ (k : Nat), k ≤ R ∧ i = .int .i64 k) (fun i => R - (intOf i).toNat)
  case atStart => exact ⟨1, by omega, rfl⟩
  case round =>
    obtain ⟨k, hk, rfl⟩ := hrel
    by_cases hlt : k < R
    · obtain ⟨ao, c', hcell⟩ := hc k hlt
      obtain ⟨l, hl⟩ : ∃ l, l = (row rows k).length := ⟨_, rfl⟩
      rw [← hl] at hcell
      clear hc hl
      by_cases e : l = l0
      · have e' : ((l : Int) != (l0 : Int)) = false := by simp [e]
        clear e
        go_wp2
        go_round
        case rel => exact ⟨k + 1, by omega, by go_num⟩
        case measure => simp [intOf]; omega
      · have e' : ((l : Int) != (l0 : Int)) = true := by simp; omega
        clear e
        go_wp2
        go_ret2
        exact ⟨IntBool.of rfl, rfl⟩
    · clear hc
      go_wp2
      go_ret2
      exact ⟨IntBool.of rfl, rfl⟩

/-- It answers; where it says yes every slot is -1 or below n. -/
def Valid (n : Nat) (rows : List (List Int)) (e : Ending) : Prop := ∃ r, e = .returned (.bool r) ∧ (r = true → Ok n rows.flatten)
theorem Valid.no {n : Nat} {rows : List (List Int)} {e : Ending} (h : e = .returned (.bool false)) : Valid n rows e := ⟨false, h, fun h => by cases h⟩
theorem Valid.yes {n : Nat} {rows : List (List Int)} {e : Ending} (h : e = .returned (.bool true)) (ho : Ok n rows.flatten) : Valid n rows e := ⟨true, h, fun _ => ho⟩

theorem ok_nil (n : Nat) : Ok n [] := fun x hx => by cases hx
theorem ok_snoc {n : Nat} {l : List Int} {x : Int} (h : Ok n l) (hx : x = -1 ∨ (0 ≤ x ∧ x < (n : Int))) : Ok n (l ++ [x]) := fun y hy => by
  rcases List.mem_append.1 hy with hy | hy
  · exact h y hy
  · have : y = x := by simpa using hy
    rw [this]; exact hx

set_option maxHeartbeats 2000000 in
theorem f12_row (b off c n : Nat) (rows : List (List Int)) (w : World) (hR : rows.length ≤ 65536) (hL : rows.flatten.length ≤ 262144) (hw : ∀ x, x ∈ rows.flatten → -2147483648 ≤ x ∧ x ≤ 2147483647) (h : TabAt w b off rows) :
    Calls Try.prog 12 #[.slice (some ⟨b, off, none⟩) rows.length c, .int .i64 n] w fun e w' => Valid n rows e ∧ w' = w := by
  obtain ⟨_, hc⟩ := h
  have Hc : Hid (∀ r, r < rows.length → ∃ ao c, w.cell? ⟨b, off + r, none⟩ = some (.slice ao (row rows r).length c) ∧ RowI w ao (row rows r)) := hc
  have Hw : Hid (∀ x, x ∈ rows.flatten → -2147483648 ≤ x ∧ x ≤ 2147483647) := hw
  clear hc hw
  have hlen : ∀ r, r < rows.length → (row rows r).length ≤ 262144 := fun r hr => by
    have h1 := pre_len rows r hr
    have h2 := pre_le rows (r + 1) 0
    omega
  have Hlen := (show Hid _ from hlen)
  clear hlen
  obtain ⟨R, hR'⟩ : ∃ R, R = rows.length := ⟨_, rfl⟩
  rw [← hR'] at hR ⊢
  have HR : Hid (R = rows.length) := hR'
  clear hR' hL
  go_enter Try.func12, Try.ntmps12
  go_wp2
  go_loop [5, 6, 7, 8] (fun i _ _ _ => ∃ (k : Nat), k ≤ R ∧ i = .int .i64 k ∧ Hid (Ok n (pre rows k 0))) (fun i _ _ _ => R - (intOf i).toNat)
  case atStart => exact ⟨0, by omega, rfl, by rw [Hid, pre_start]; exact ok_nil n⟩
  case round =>
    obtain ⟨k, hk, rfl, hok⟩ := hrel
    by_cases hlt : k < R
    · have hkr : k < rows.length := by have := HR.out; omega
      obtain ⟨ao, c', hcell, hrow⟩ := Hc.out k hkr
      have hll := Hlen.out k hkr
      obtain ⟨l, hl⟩ : ∃ l, l = (row rows k).length := ⟨_, rfl⟩
      rw [← hl] at hcell hll
      have HL : Hid (l = (row rows k).length) := hl
      clear hl
      rcases hrow with hrow | ⟨b', o', rfl, _, hx⟩
      · obtain rfl : l = 0 := by have := HL.out; rw [hrow] at this; simpa using this
        have hok' : Hid (Ok n (pre rows (k + 1) 0)) := by rw [← pre_row rows k hkr, hrow]; exact hok.out
        clear hrow HL hll
        go_wp2
        refine wp_loop_rounds 1 ?_
        rw [rounds_succ]
        go_wp2
        go_round
        case rel => exact ⟨k + 1, by omega, by go_num, hok'⟩
        case measure => simp [intOf]; omega
      · have Hx := (show Hid _ from hx)
        clear hx
        go_wp2
        go_loop [7, 8] (fun i _ => ∃ (p : Nat), p ≤ l ∧ i = .int .i64 p ∧ Hid (Ok n (pre rows k p))) (fun i _ => l - (intOf i).toNat)
        case atStart => exact ⟨0, by omega, rfl, hok⟩
        case round =>
          obtain ⟨p, hp, rfl, hokp⟩ := hrel
          by_cases hltp : p < l
          · have hpl : p < (row rows k).length := by have := HL.out; omega
            have hcx := Hx.out p hpl
            have hbx := Hw.out _ (mem_row hkr hpl)
            have hpn := pre_next rows k p hpl
            obtain ⟨x, hx⟩ : ∃ x, x = (row rows k).getD p 0 := ⟨_, rfl⟩
            rw [← hx] at hcx hbx hpn
            clear hx
            obtain ⟨hb1, hb2⟩ := hbx
            have HP : Hid (pre rows k (p + 1) = pre rows k p ++ [x]) := hpn
            clear hpn
            by_cases hm : x = -1
            · subst hm
              go_wp2
              go_round
              case rel => exact ⟨p + 1, by omega, by go_num, by rw [Hid, HP.out]; exact ok_snoc hokp.out (.inl rfl)⟩
              case measure => simp [intOf]; omega
            · have hm' : (x == -1) = false := beq_eq_false_iff_ne.2 hm
              clear hm
              by_cases hn : x < 0
              · go_wp2
                go_ret
                exact ⟨Valid.no rfl, rfl⟩
              · by_cases hg : (n : Int) ≤ x
                · go_wp2
                  go_ret
                  exact ⟨Valid.no rfl, rfl⟩
                · go_wp2
                  go_round
                  case rel => exact ⟨p + 1, by omega, by go_num, by rw [Hid, HP.out]; exact ok_snoc hokp.out (.inr ⟨by omega, by omega⟩)⟩
                  case measure => simp [intOf]; omega
          · have hok' : Hid (Ok n (pre rows (k + 1) 0)) := by
              have e : p = (row rows k).length := by have := HL.out; omega
              rw [← pre_row rows k hkr, ← e]; exact hokp.out
            go_wp2
            go_round
            case rel => exact ⟨k + 1, by omega, by go_num, hok'⟩
            case measure => simp [intOf]; omega
    · go_wp2
      go_ret
      exact ⟨Valid.yes rfl (by rw [← pre_end rows k (by have := HR.out; omega)]; exact hok.out), rfl⟩

set_option maxHeartbeats 2000000 in
theorem f12_zero (ao : Option Addr) (c n : Nat) (w : World) :
    Calls Try.prog 12 #[.slice ao 0 c, .int .i64 n] w fun e w' => Valid n [] e ∧ w' = w := by
  go_enter Try.func12, Try.ntmps12
  go_wp2
  refine wp_loop_rounds 1 ?_
  rw [rounds_succ]
  go_wp2
  go_ret
  exact ⟨Valid.yes rfl (ok_nil n), rfl⟩

end Go.Proofs.Qxb6612653a
