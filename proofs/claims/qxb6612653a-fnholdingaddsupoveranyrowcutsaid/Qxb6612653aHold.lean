import Derived.Test.Qxb6612653aClone
import Derived.Laws.EntriesVeiled
namespace Go.Proofs.Qxb6612653a
open Go.ChangeShapes Go.WideShapes Go.ChangeAt Go.RowKit
set_option maxRecDepth 100000

set_option maxHeartbeats 2000000 in
theorem f13_nil (w : World) : Calls Try.prog 13 #[.slice none 0 0] w fun e w' => e = .returned (.slice none 0 0) ∧ w' = w := by
  have hnil := fun (w : World) => Lib.run_eql_slice_nil (P := Try.prog) w 24 38 none 0 0 0 0 Try.underlying24
  go_enter Try.func13, Try.ntmps13
  go_wp2
  go_ret
  exact ⟨rfl, rfl⟩

set_option maxHeartbeats 2000000 in
theorem f13_zero (ad : Addr) (c : Nat) (w : World) : Calls Try.prog 13 #[.slice (some ad) 0 c] w fun e w' => e = .returned (.slice (some ⟨w.heap.size, 0, none⟩) 0 0) ∧ Below w.heap.size w w' := by
  have hnil := fun (w : World) => Lib.run_eql_slice_nil (P := Try.prog) w 24 38 (some ad) 0 c 0 0 Try.underlying24
  have hmk : ∀ w, (Instr.makeSlice 24 (.int .i64 0) (.int .i64 0)).run Try.prog w = .ok (.slice (some ⟨w.heap.size, 0, none⟩) 0 0) (w.alloc (.cells (madeCells #[.slice none 0 0] 0) 38)) := run_make_row' (P := Try.prog) 24 38 (.slice none 0 0) 24 Try.underlying24 info38 rfl .i64 .i64 0 (by omega) (by omega)
  go_enter Try.func13, Try.ntmps13
  go_wp2
  refine wp_loop_rounds 1 ?_
  rw [rounds_succ]
  go_wp2
  go_ret
  exact ⟨rfl, (Below.refl _ _).alloc (Nat.le_refl _) _⟩

theorem eq_nil (w : World) : (binOp .eql 52 .nilFunc .nilFunc).run Try.prog w = .ok (.bool true) w := by kernel_rfl

/-- What has been counted so far. -/
def Hd (w wr : World) (n : Nat) (l : List Int) : Prop := wr.rowIs w.heap.size 3 n (fun d => .int .i64 (cnt l d)) ∧ Below w.heap.size w wr
theorem hd_start (w : World) (n : Nat) : Hd w (w.alloc (.cells (madeCells #[.int .i64 0] n) 3)) n [] :=
  ⟨(World.rowIs_made w (.int .i64 0) n 3).congr (fun i _ => by rw [cnt_nil]; rfl), (Below.refl _ _).alloc (Nat.le_refl _) _⟩
theorem hd_skip {w wr : World} {n : Nat} {l : List Int} (h : Hd w wr n l) : Hd w wr n (l ++ [-1]) :=
  ⟨h.1.congr (fun i _ => by rw [cnt_snoc, if_neg (by omega)]; rfl), h.2⟩
theorem hd_next {w wr : World} {n i : Nat} {l : List Int} (h : Hd w wr n l) : Hd w (wr.setCell ⟨w.heap.size, i, none⟩ (.int .i64 ((cnt l i : Int) + 1))) n (l ++ [(i : Int)]) := by
  refine ⟨(h.1.set i _).congr (fun j _ => ?_), h.2.setCell (Nat.le_refl _) _⟩
  rw [cnt_snoc]
  by_cases e : j = i
  · subst e; simp
  · rw [if_neg e, if_neg (by omega)]; rfl

set_option maxHeartbeats 4000000 in
theorem f22_nil_row (pl b off c n c2 : Nat) (ao2 : Option Addr) (rows : List (List Int)) (w : World) (hR : rows.length ≤ 65536) (hn : n ≤ 65536) (hL : rows.flatten.length ≤ 262144) (hok : Ok n rows.flatten) (h : TabAt w b off rows) (hp : Placed w pl (.slice (some ⟨b, off, none⟩) rows.length c) (.slice ao2 n c2)) :
    Calls Try.prog 22 #[.pointer (some ⟨pl, 0, none⟩), .nilFunc] w fun e w' => e = .returned (.slice (some ⟨w.heap.size, 0, none⟩) n n) ∧ Hid (Hd w w' n rows.flatten) := by
  obtain ⟨hb, hc⟩ := h
  obtain ⟨hpl, hp1, hp2⟩ := hp
  have Hc : Hid (∀ r, r < rows.length → ∃ ao c, w.cell? ⟨b, off + r, none⟩ = some (.slice ao (row rows r).length c) ∧ RowI w ao (row rows r)) := hc
  have Hok : Hid (Ok n rows.flatten) := hok
  clear hc hok
  have hlen : ∀ r, r < rows.length → (row rows r).length ≤ 262144 := fun r hr => by
    have h1 := pre_len rows r hr
    have h2 := pre_le rows (r + 1) 0
    omega
  have Hlen := (show Hid _ from hlen)
  clear hlen
  have Hcl : Hid (∀ r p d, cnt (pre rows r p) d ≤ 262144) := fun r p d => by
    have h1 := cnt_le (pre rows r p) d
    have h2 := pre_le rows r p
    omega
  have hmk := run_make_row' (P := Try.prog) 25 3 (.int .i64 0) 8 Try.underlying25 info3 rfl .i64 .i64 n (by omega) (by omega)
  have heq := eq_nil
  have hstart := (show Hid (Hd w (w.alloc (.cells (madeCells #[.int .i64 0] n) 3)) n []) from hd_start w n)
  obtain ⟨R, hR'⟩ : ∃ R, R = rows.length := ⟨_, rfl⟩
  rw [← hR'] at hR hp1
  have HR : Hid (R = rows.length) := hR'
  clear hR' hL
  go_enter Try.func22, Try.ntmps22
  go_wp2_with fail
  clear hmk
  go_loopw [6, 7, 8, 9, 21] (fun _ _ _ _ i wr => ∃ (k : Nat), k ≤ R ∧ i = .int .i64 k ∧ Hd w wr n (pre rows k 0)) (fun _ _ _ _ i _ => R - (intOf i).toNat)
  case atStart => exact ⟨0, by omega, rfl, by rw [pre_start]; exact hstart.out⟩
  case round =>
    obtain ⟨k, hk, rfl, hhd⟩ := hrel
    clear hstart
    obtain ⟨wo, hwo⟩ : ∃ wo : World, wo = wr := ⟨_, rfl⟩
    subst hwo
    by_cases hlt : k < R
    · have hkr : k < rows.length := by have := HR.out; omega
      obtain ⟨ao, c', hcell0, hrow⟩ := Hc.out k hkr
      have hll := Hlen.out k hkr
      have hcell := (hhd.2.cell (p := ⟨b, off + k, none⟩) hb).trans hcell0
      obtain ⟨l, hl⟩ : ∃ l, l = (row rows k).length := ⟨_, rfl⟩
      rw [← hl] at hcell hll
      have HL : Hid (l = (row rows k).length) := hl
      clear hl hcell0 hp1 hp2
      rcases hrow with hrow | ⟨b', o', rfl, hb', hx⟩
      · obtain rfl : l = 0 := by have := HL.out; rw [hrow] at this; simpa using this
        have hhd' : Hd w wo n (pre rows (k + 1) 0) := by rw [← pre_row rows k hkr, hrow]; exact hhd
        clear hrow HL hll hhd
        go_wp2_with fail
        refine wp_loop_rounds 1 ?_
        rw [rounds_succ]
        go_wp2_with fail
        go_roundw
        case rel => exact ⟨k + 1, by omega, by go_num, hhd'⟩
        case measure => simp [intOf]; omega
      · have Hx := (show Hid _ from hx)
        clear hx
        go_wp2_with fail
        clear hcell
        go_loopw [8, 9, 28] (fun _ _ i wr => ∃ (p : Nat), p ≤ l ∧ i = .int .i64 p ∧ Hd w wr n (pre rows k p)) (fun _ _ i _ => l - (intOf i).toNat)
        case atStart => exact ⟨0, by omega, rfl, hhd⟩
        case round =>
          obtain ⟨p, hp, rfl, hhp⟩ := hrel
          clear hhd
          by_cases hltp : p < l
          · have hpl2 : p < (row rows k).length := by have := HL.out; omega
            have hcx := (hhp.2.cell (p := ⟨b', o' + p, none⟩) hb').trans (Hx.out p hpl2)
            have hpn := pre_next rows k p hpl2
            have hbx := Hok.out _ (mem_row hkr hpl2)
            obtain ⟨x, hx⟩ : ∃ x, x = (row rows k).getD p 0 := ⟨_, rfl⟩
            rw [← hx] at hcx hpn hbx
            clear hx
            rcases hbx with rfl | ⟨hx0, hxn⟩
            · have hhp' : Hd w wr n (pre rows k (p + 1)) := by rw [hpn]; exact hd_skip hhp
              clear hpn hhp
              go_wp2_with fail
              go_roundw
              case rel => exact ⟨p + 1, by omega, by go_num, hhp'⟩
              case measure => simp [intOf]; omega
            · obtain ⟨i, rfl⟩ := Int.eq_ofNat_of_zero_le hx0
              have hin : i < n := by omega
              have q2 := hhp.1.cell hin
              have q3 := hhp.1.frozen i
              have hcb := Hcl.out k p i
              have hhp' := hd_next (i := i) hhp
              rw [← hpn] at hhp'
              clear hpn hhp
              obtain ⟨y, hy⟩ : ∃ y, y = cnt (pre rows k p) i := ⟨_, rfl⟩
              rw [← hy] at hcb hhp' q2
              clear hy
              have hm' : ((i : Int) != -1) = true := by simp
              go_wp2_with fail
              go_roundw
              case rel => exact ⟨p + 1, by omega, by go_num, hhp'⟩
              case measure => simp [intOf]; omega
          · have hhd' : Hd w wr n (pre rows (k + 1) 0) := by
              have e : p = (row rows k).length := by have := HL.out; omega
              rw [← pre_row rows k hkr, ← e]; exact hhp
            clear hhp
            go_wp2_with fail
            go_roundw
            case rel => exact ⟨k + 1, by omega, by go_num, hhd'⟩
            case measure => simp [intOf]; omega
    · have hend : Hid (Hd w wo n rows.flatten) := by rw [Hid, ← pre_end rows k (by have := HR.out; omega)]; exact hhd
      clear hhd
      go_wp2_with fail
      go_ret
      exact ⟨rfl, hend⟩

theorem eq_func (w : World) : (binOp .eql 52 (.func (.func 23) #[] #[]) .nilFunc).run Try.prog w = .ok (.bool false) w := by kernel_rfl

set_option maxHeartbeats 1000000 in
theorem f23_any (r p : Int) (w : World) : Calls Try.prog 23 #[.int .i64 r, .int .i64 p] w fun e w' => e = .returned (.bool true) ∧ w' = w := by
  go_enter Try.func23, Try.ntmps23
  go_wp2
  go_ret
  exact ⟨rfl, rfl⟩

set_option maxHeartbeats 4000000 in
theorem f22_all_row (pl b off c n c2 : Nat) (ao2 : Option Addr) (rows : List (List Int)) (w : World) (hR : rows.length ≤ 65536) (hn : n ≤ 65536) (hL : rows.flatten.length ≤ 262144) (hok : Ok n rows.flatten) (h : TabAt w b off rows) (hp : Placed w pl (.slice (some ⟨b, off, none⟩) rows.length c) (.slice ao2 n c2)) :
    Calls Try.prog 22 #[.pointer (some ⟨pl, 0, none⟩), .func (.func 23) #[] #[]] w fun e w' => e = .returned (.slice (some ⟨w.heap.size, 0, none⟩) n n) ∧ Hid (Hd w w' n rows.flatten) := by
  obtain ⟨hb, hc⟩ := h
  obtain ⟨hpl, hp1, hp2⟩ := hp
  have Hc : Hid (∀ r, r < rows.length → ∃ ao c, w.cell? ⟨b, off + r, none⟩ = some (.slice ao (row rows r).length c) ∧ RowI w ao (row rows r)) := hc
  have Hok : Hid (Ok n rows.flatten) := hok
  clear hc hok
  have hlen : ∀ r, r < rows.length → (row rows r).length ≤ 262144 := fun r hr => by
    have h1 := pre_len rows r hr
    have h2 := pre_le rows (r + 1) 0
    omega
  have Hlen := (show Hid _ from hlen)
  clear hlen
  have Hcl : Hid (∀ r p d, cnt (pre rows r p) d ≤ 262144) := fun r p d => by
    have h1 := cnt_le (pre rows r p) d
    have h2 := pre_le rows r p
    omega
  have hmk := run_make_row' (P := Try.prog) 25 3 (.int .i64 0) 8 Try.underlying25 info3 rfl .i64 .i64 n (by omega) (by omega)
  have heq := eq_func
  have hstart := (show Hid (Hd w (w.alloc (.cells (madeCells #[.int .i64 0] n) 3)) n []) from hd_start w n)
  obtain ⟨R, hR'⟩ : ∃ R, R = rows.length := ⟨_, rfl⟩
  rw [← hR'] at hR hp1
  have HR : Hid (R = rows.length) := hR'
  clear hR' hL
  go_enter Try.func22, Try.ntmps22
  go_wp2_with fail
  clear hmk
  go_loopw [6, 7, 8, 9, 21] (fun _ _ _ _ i wr => ∃ (k : Nat), k ≤ R ∧ i = .int .i64 k ∧ Hd w wr n (pre rows k 0)) (fun _ _ _ _ i _ => R - (intOf i).toNat)
  case atStart => exact ⟨0, by omega, rfl, by rw [pre_start]; exact hstart.out⟩
  case round =>
    obtain ⟨k, hk, rfl, hhd⟩ := hrel
    clear hstart
    obtain ⟨wo, hwo⟩ : ∃ wo : World, wo = wr := ⟨_, rfl⟩
    subst hwo
    by_cases hlt : k < R
    · have hkr : k < rows.length := by have := HR.out; omega
      obtain ⟨ao, c', hcell0, hrow⟩ := Hc.out k hkr
      have hll := Hlen.out k hkr
      have hcell := (hhd.2.cell (p := ⟨b, off + k, none⟩) hb).trans hcell0
      obtain ⟨l, hl⟩ : ∃ l, l = (row rows k).length := ⟨_, rfl⟩
      rw [← hl] at hcell hll
      have HL : Hid (l = (row rows k).length) := hl
      clear hl hcell0 hp1 hp2
      rcases hrow with hrow | ⟨b', o', rfl, hb', hx⟩
      · obtain rfl : l = 0 := by have := HL.out; rw [hrow] at this; simpa using this
        have hhd' : Hd w wo n (pre rows (k + 1) 0) := by rw [← pre_row rows k hkr, hrow]; exact hhd
        clear hrow HL hll hhd
        go_wp2_with fail
        refine wp_loop_rounds 1 ?_
        rw [rounds_succ]
        go_wp2_with fail
        go_roundw
        case rel => exact ⟨k + 1, by omega, by go_num, hhd'⟩
        case measure => simp [intOf]; omega
      · have Hx := (show Hid _ from hx)
        clear hx
        go_wp2_with fail
        clear hcell
        go_loopw [8, 9, 28] (fun _ _ i wr => ∃ (p : Nat), p ≤ l ∧ i = .int .i64 p ∧ Hd w wr n (pre rows k p)) (fun _ _ i _ => l - (intOf i).toNat)
        case atStart => exact ⟨0, by omega, rfl, hhd⟩
        case round =>
          obtain ⟨p, hp, rfl, hhp⟩ := hrel
          clear hhd
          by_cases hltp : p < l
          · have hpl2 : p < (row rows k).length := by have := HL.out; omega
            have hcx := (hhp.2.cell (p := ⟨b', o' + p, none⟩) hb').trans (Hx.out p hpl2)
            have hpn := pre_next rows k p hpl2
            have hbx := Hok.out _ (mem_row hkr hpl2)
            obtain ⟨x, hx⟩ : ∃ x, x = (row rows k).getD p 0 := ⟨_, rfl⟩
            rw [← hx] at hcx hpn hbx
            clear hx
            rcases hbx with rfl | ⟨hx0, hxn⟩
            · have hhp' : Hd w wr n (pre rows k (p + 1)) := by rw [hpn]; exact hd_skip hhp
              clear hpn hhp
              go_wp2_with fail
              go_roundw
              case rel => exact ⟨p + 1, by omega, by go_num, hhp'⟩
              case measure => simp [intOf]; omega
            · obtain ⟨i, rfl⟩ := Int.eq_ofNat_of_zero_le hx0
              have hin : i < n := by omega
              have q2 := hhp.1.cell hin
              have q3 := hhp.1.frozen i
              have hcb := Hcl.out k p i
              have hhp' := hd_next (i := i) hhp
              rw [← hpn] at hhp'
              clear hpn hhp
              obtain ⟨y, hy⟩ : ∃ y, y = cnt (pre rows k p) i := ⟨_, rfl⟩
              rw [← hy] at hcb hhp' q2
              clear hy
              have hm' : ((i : Int) != -1) = true := by simp
              go_wp2_with (go_at_call 23; refine (f23_any _ _ _).mono ?_; rintro e w' ⟨rfl, rfl⟩)
              go_roundw
              case rel => exact ⟨p + 1, by omega, by go_num, hhp'⟩
              case measure => simp [intOf]; omega
          · have hhd' : Hd w wr n (pre rows (k + 1) 0) := by
              have e : p = (row rows k).length := by have := HL.out; omega
              rw [← pre_row rows k hkr, ← e]; exact hhp
            clear hhp
            go_wp2_with fail
            go_roundw
            case rel => exact ⟨k + 1, by omega, by go_num, hhd'⟩
            case measure => simp [intOf]; omega
    · have hend : Hid (Hd w wo n rows.flatten) := by rw [Hid, ← pre_end rows k (by have := HR.out; omega)]; exact hhd
      clear hhd
      go_wp2_with fail
      go_ret
      exact ⟨rfl, hend⟩


set_option maxHeartbeats 1000000 in
theorem f22_zero (pl c n c2 : Nat) (ao ao2 : Option Addr) (v : Value) (w : World) (hn : n ≤ 65536) (hp : Placed w pl (.slice ao 0 c) (.slice ao2 n c2)) :
    Calls Try.prog 22 #[.pointer (some ⟨pl, 0, none⟩), v] w fun e w' => e = .returned (.slice (some ⟨w.heap.size, 0, none⟩) n n) ∧ Hid (Hd w w' n []) := by
  obtain ⟨hpl, hp1, hp2⟩ := hp
  have hmk := run_make_row' (P := Try.prog) 25 3 (.int .i64 0) 8 Try.underlying25 info3 rfl .i64 .i64 n (by omega) (by omega)
  have hstart := (show Hid (Hd w (w.alloc (.cells (madeCells #[.int .i64 0] n) 3)) n []) from hd_start w n)
  go_enter Try.func22, Try.ntmps22
  go_wp2_with fail
  refine wp_loop_rounds 1 ?_
  rw [rounds_succ]
  go_wp2_with fail
  go_ret
  exact ⟨rfl, hstart⟩

/-- A table and the devices, as the counts are told of them. -/
structure Set (w : World) (ao : Option Addr) (rows : List (List Int)) (n : Nat) : Prop where
  rows_le : rows.length ≤ 65536
  n_le : n ≤ 65536
  all_le : rows.flatten.length ≤ 262144
  ok : Ok n rows.flatten
  tab : Tab w ao rows

theorem f16_any (pl c n c2 : Nat) (ao ao2 : Option Addr) (rows : List (List Int)) (w : World) (h : Set w ao rows n) (hp : Placed w pl (.slice ao rows.length c) (.slice ao2 n c2)) :
    Calls Try.prog 16 #[.pointer (some ⟨pl, 0, none⟩)] w fun e w' => e = .returned (.slice (some ⟨w.heap.size, 0, none⟩) n n) ∧ Hid (Hd w w' n rows.flatten) := by
  have h22 : Calls Try.prog 22 #[.pointer (some ⟨pl, 0, none⟩), .nilFunc] w fun e w' => e = .returned (.slice (some ⟨w.heap.size, 0, none⟩) n n) ∧ Hid (Hd w w' n rows.flatten) := by
    rcases h.tab with rfl | ⟨b, off, rfl, ht⟩
    · exact f22_zero pl c n c2 ao ao2 _ w h.n_le hp
    · exact f22_nil_row pl b off c n c2 ao2 rows w h.rows_le h.n_le h.all_le h.ok ht hp
  clear h hp
  go_enter Try.func16, Try.ntmps16
  go_wp2_with fail
  refine h22.mono ?_
  rintro e w' ⟨rfl, hh⟩
  go_wp2
  go_ret
  exact ⟨rfl, hh⟩

theorem f17_any (pl c n c2 : Nat) (ao ao2 : Option Addr) (rows : List (List Int)) (w : World) (h : Set w ao rows n) (hp : Placed w pl (.slice ao rows.length c) (.slice ao2 n c2)) :
    Calls Try.prog 17 #[.pointer (some ⟨pl, 0, none⟩)] w fun e w' => e = .returned (.slice (some ⟨w.heap.size, 0, none⟩) n n) ∧ Hid (Hd w w' n rows.flatten) := by
  have h22 : Calls Try.prog 22 #[.pointer (some ⟨pl, 0, none⟩), .func (.func 23) #[] #[]] w fun e w' => e = .returned (.slice (some ⟨w.heap.size, 0, none⟩) n n) ∧ Hid (Hd w w' n rows.flatten) := by
    rcases h.tab with rfl | ⟨b, off, rfl, ht⟩
    · exact f22_zero pl c n c2 ao ao2 _ w h.n_le hp
    · exact f22_all_row pl b off c n c2 ao2 rows w h.rows_le h.n_le h.all_le h.ok ht hp
  clear h hp
  go_enter Try.func17, Try.ntmps17
  go_wp2_with fail
  refine h22.mono ?_
  rintro e w' ⟨rfl, hh⟩
  go_wp2
  go_ret
  exact ⟨rfl, hh⟩
end Go.Proofs.Qxb6612653a
