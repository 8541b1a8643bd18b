import Derived.Test.Qxb6612653aTab3
import Derived.Deep.OwnRows
namespace Go.Proofs.Qxb6612653a
open Go.ChangeShapes Go.WideShapes Go.ChangeAt Go.RowKit
set_option maxRecDepth 100000

set_option maxHeartbeats 2000000 in
theorem f18_row (b off c : Nat) (rows : List (List Int)) (w : World) (hR : rows.length ≤ 65536) (hL : rows.flatten.length ≤ 262144) (h : TabAt w b off rows) :
    Calls Try.prog 18 #[.slice (some ⟨b, off, none⟩) rows.length c] w fun e w' => e = .returned (.int .i64 (filled rows.flatten)) ∧ w' = w := by
  obtain ⟨_, hc⟩ := h
  have Hc : Hid (∀ r, r < rows.length → ∃ ao c, w.cell? ⟨b, off + r, none⟩ = some (.slice ao (row rows r).length c) ∧ RowI w ao (row rows r)) := hc
  clear hc
  have hlen : ∀ r, r < rows.length → (row rows r).length ≤ 262144 := fun r hr => by
    have h1 := pre_len rows r hr
    have h2 := pre_le rows (r + 1) 0
    omega
  have Hlen := (show Hid _ from hlen)
  clear hlen
  have Hfl : Hid (∀ r p, filled (pre rows r p) ≤ 262144) := fun r p => by
    have h1 := filled_le (pre rows r p)
    have h2 := pre_le rows r p
    omega
  obtain ⟨R, hR'⟩ : ∃ R, R = rows.length := ⟨_, rfl⟩
  rw [← hR'] at hR ⊢
  have HR : Hid (R = rows.length) := hR'
  obtain ⟨F, hF⟩ : ∃ F, F = filled rows.flatten := ⟨_, rfl⟩
  rw [← hF]
  have HF : Hid (F = filled rows.flatten) := hF
  clear hR' hL hF
  go_enter Try.func18, Try.ntmps18
  go_wp2
  go_loop [3, 4, 5, 6] (fun t i _ _ => ∃ (k z : Nat), k ≤ R ∧ i = .int .i64 k ∧ t = .int .i64 z ∧ Hid (z = filled (pre rows k 0))) (fun _ i _ _ => R - (intOf i).toNat)
  case atStart => exact ⟨0, 0, by omega, rfl, rfl, by rw [Hid, pre_start]; rfl⟩
  case round =>
    obtain ⟨k, z, hk, rfl, rfl, hz⟩ := hrel
    by_cases hlt : k < R
    · have hkr : k < rows.length := by have := HR.out; omega
      obtain ⟨ao, c', hcell, hrow⟩ := Hc.out k hkr
      have hll := Hlen.out k hkr
      obtain ⟨l, hl⟩ : ∃ l, l = (row rows k).length := ⟨_, rfl⟩
      rw [← hl] at hcell hll
      have HL : Hid (l = (row rows k).length) := hl
      clear hl
      rcases hrow with hrow | ⟨b', o', rfl, _, hx⟩
      · obtain rfl : l = 0 := by have := HL.out; rw [hrow] at this; simpa using this
        have hz' : Hid (z = filled (pre rows (k + 1) 0)) := by rw [← pre_row rows k hkr, hrow]; exact hz.out
        clear hrow HL hll hz
        go_wp2
        refine wp_loop_rounds 1 ?_
        rw [rounds_succ]
        go_wp2
        go_round
        case rel => exact ⟨k + 1, z, by omega, by go_num, rfl, hz'⟩
        case measure => simp [intOf]; omega
      · have Hx := (show Hid _ from hx)
        clear hx
        go_wp2
        go_loop [3, 6] (fun t i => ∃ (p z : Nat), p ≤ l ∧ i = .int .i64 p ∧ t = .int .i64 z ∧ Hid (z = filled (pre rows k p))) (fun _ i => l - (intOf i).toNat)
        case atStart => exact ⟨0, z, by omega, rfl, rfl, hz⟩
        case round =>
          obtain ⟨p, y, hp, rfl, rfl, hy⟩ := hrel
          have hyb : y ≤ 262144 := by rw [hy.out]; exact Hfl.out k p
          by_cases hltp : p < l
          · have hpl : p < (row rows k).length := by have := HL.out; omega
            have hcx := Hx.out p hpl
            have hpn := pre_next rows k p hpl
            obtain ⟨x, hx⟩ : ∃ x, x = (row rows k).getD p 0 := ⟨_, rfl⟩
            rw [← hx] at hcx hpn
            clear hx
            have HP : Hid (filled (pre rows k (p + 1)) = y + if x = -1 then 0 else 1) := by rw [Hid, hpn, filled_snoc, ← hy.out]
            clear hpn
            by_cases hm : x = -1
            · subst hm
              go_wp2
              go_round
              case rel => exact ⟨p + 1, y, by omega, by go_num, rfl, by rw [Hid, HP.out]; simp⟩
              case measure => simp [intOf]; omega
            · have hm' : (x != -1) = true := by simpa using hm
              have HM : Hid (¬ x = -1) := hm
              clear hm
              go_wp2
              go_round
              case rel => exact ⟨p + 1, y + 1, by omega, by go_num, by go_num, by rw [Hid, HP.out, if_neg HM.out]⟩
              case measure => simp [intOf]; omega
          · have hz' : Hid (y = filled (pre rows (k + 1) 0)) := by
              have e : p = (row rows k).length := by have := HL.out; omega
              rw [← pre_row rows k hkr, ← e]; exact hy.out
            go_wp2
            go_round
            case rel => exact ⟨k + 1, y, by omega, by go_num, rfl, hz'⟩
            case measure => simp [intOf]; omega
    · have e : z = F := by rw [hz.out, HF.out, pre_end rows k (by have := HR.out; omega)]
      subst e
      go_wp2
      go_ret
      exact ⟨rfl, rfl⟩

set_option maxHeartbeats 2000000 in
theorem f18_zero (ao : Option Addr) (c : Nat) (w : World) :
    Calls Try.prog 18 #[.slice ao 0 c] w fun e w' => e = .returned (.int .i64 0) ∧ w' = w := by
  go_enter Try.func18, Try.ntmps18
  go_wp2
  refine wp_loop_rounds 1 ?_
  rw [rounds_succ]
  go_wp2
  go_ret
  exact ⟨rfl, rfl⟩

theorem info3 : (Try.prog.info? 3).map (fun i => (i.zero, i.size, i.bytes)) = some (some (.int .i64 0), 1, 8) := by kernel_rfl

/-- It answers a slice of n elements. -/
def ASlice (n : Nat) (e : Ending) : Prop := ∃ ao c, e = .returned (.slice ao n c)
theorem ASlice.of {n c : Nat} {ao : Option Addr} {e : Ending} (h : e = .returned (.slice ao n c)) : ASlice n e := ⟨ao, c, h⟩

set_option maxHeartbeats 2000000 in
theorem f14_nil (w : World) : Calls Try.prog 14 #[.slice none 0 0] w fun e w' => ASlice 0 e ∧ Below w.heap.size w w' := by
  have hnil := fun (w : World) => Lib.run_eql_slice_nil (P := Try.prog) w 25 3 none 0 0 0 0 Try.underlying25
  go_enter Try.func14, Try.ntmps14
  go_wp2
  go_ret
  exact ⟨ASlice.of rfl, Below.refl _ _⟩

set_option maxHeartbeats 2000000 in
theorem f14_row (b off n c : Nat) (zs : Nat → Int) (w : World) (hn : n ≤ 65536) (hb : b < w.heap.size) (hc : ∀ i, i < n → w.cell? ⟨b, off + i, none⟩ = some (.int .i64 (zs i))) :
    Calls Try.prog 14 #[.slice (some ⟨b, off, none⟩) n c] w fun e w' => ASlice n e ∧ Below w.heap.size w w' := by
  have hnil := fun (w : World) => Lib.run_eql_slice_nil (P := Try.prog) w 25 3 (some ⟨b, off, none⟩) n c 0 0 Try.underlying25
  have hmk := run_make_row' (P := Try.prog) 25 3 (.int .i64 0) 8 Try.underlying25 info3 rfl .i64 .i64 n (by omega) (by omega)
  go_enter Try.func14, Try.ntmps14
  go_wp2
  clear hmk hnil
  go_loopw [4] (fun i wr => ∃ (k : Nat), k ≤ n ∧ i = .int .i64 k ∧ (∃ f, wr.rowIs w.heap.size 3 n f) ∧ Below w.heap.size w wr) (fun i _ => n - (intOf i).toNat)
  case atStart => exact ⟨0, by omega, rfl, ⟨_, World.rowIs_made w (.int .i64 0) n 3⟩, (Below.refl _ _).alloc (Nat.le_refl _) _⟩
  case round =>
    obtain ⟨k, hk, rfl, ⟨f, hf⟩, hB⟩ := hrel
    by_cases hlt : k < n
    · have h0 : wr.cell? ⟨b, off + k, none⟩ = some (.int .i64 (zs k)) := (hB.cell (by exact hb)).trans (hc k hlt)
      have h1 := hf.cell hlt
      have h2 := hf.frozen k
      clear hc
      go_wp2
      go_roundw
      case rel => exact ⟨k + 1, by omega, by go_num, ⟨_, hf.set k _⟩, hB.setCell (Nat.le_refl _) _⟩
      case measure => simp [intOf]; omega
    · clear hc
      go_wp2
      go_ret
      exact ⟨ASlice.of rfl, hB⟩

set_option maxHeartbeats 2000000 in
theorem f14_zero (ad : Addr) (c : Nat) (w : World) : Calls Try.prog 14 #[.slice (some ad) 0 c] w fun e w' => ASlice 0 e ∧ Below w.heap.size w w' := by
  have hnil := fun (w : World) => Lib.run_eql_slice_nil (P := Try.prog) w 25 3 (some ad) 0 c 0 0 Try.underlying25
  have hmk : ∀ w, (Instr.makeSlice 25 (.int .i64 0) (.int .i64 0)).run Try.prog w = .ok (.slice (some ⟨w.heap.size, 0, none⟩) 0 0) (w.alloc (.cells (madeCells #[.int .i64 0] 0) 3)) := run_make_row' (P := Try.prog) 25 3 (.int .i64 0) 8 Try.underlying25 info3 rfl .i64 .i64 0 (by omega) (by omega)
  go_enter Try.func14, Try.ntmps14
  go_wp2
  refine wp_loop_rounds 1 ?_
  rw [rounds_succ]
  go_wp2
  go_ret
  exact ⟨ASlice.of rfl, (Below.refl _ _).alloc (Nat.le_refl _) _⟩

/-- A placement in memory: its slots and its devices. -/
def Placed (w : World) (pl : Nat) (slots before : Value) : Prop := pl < w.heap.size ∧ w.cell? ⟨pl, 1, none⟩ = some slots ∧ w.cell? ⟨pl, 2, none⟩ = some before

set_option maxHeartbeats 2000000 in
theorem f15_any (z : Int) (a0 a1 : Option Addr) (n0 c0 n1 c1 : Nat) (w : World) :
    Calls Try.prog 15 #[.int .i64 z, .slice a0 n0 c0, .slice a1 n1 c1, .slice none 0 0] w fun e w' => e = .returned (.pointer (some ⟨w.heap.size, 0, none⟩)) ∧ Placed w' w.heap.size (.slice a0 n0 c0) (.slice a1 n1 c1) ∧ Below w.heap.size w w' := by
  go_enter Try.func15, Try.ntmps15
  go_wp2
  go_ret
  exact ⟨rfl, ⟨by simp, by simp, by simp⟩, (Below.refl _ _).alloc (Nat.le_refl _) _⟩

end Go.Proofs.Qxb6612653a
