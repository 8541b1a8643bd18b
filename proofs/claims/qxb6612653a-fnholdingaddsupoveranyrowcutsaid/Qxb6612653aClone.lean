import Derived.Test.Qxb6612653aTab4
namespace Go.Proofs.Qxb6612653a
open Go.ChangeShapes Go.WideShapes Go.ChangeAt Go.RowKit
set_option maxRecDepth 100000

theorem info38 : (Try.prog.info? 38).map (fun i => (i.zero, i.size, i.bytes)) = some (some (.slice none 0 0), 1, 24) := by kernel_rfl
theorem info21 : (Try.prog.info? 21).map (fun i => (i.zero, i.size, i.bytes)) = some (some (.int .i32 0), 1, 4) := by kernel_rfl

/-- A row behind block B. -/
def RowN (B : Nat) (w : World) (ao : Option Addr) (l : List Int) : Prop :=
  l = [] ∨ ∃ b off, ao = some ⟨b, off, none⟩ ∧ B < b ∧ b < w.heap.size ∧ ∀ p, p < l.length → w.cell? ⟨b, off + p, none⟩ = some (.int .i32 (l.getD p 0))
theorem RowN.below {B : Nat} {w w' : World} {ao : Option Addr} {l : List Int} (h : RowN B w ao l) (hb : Below w.heap.size w w') : RowN B w' ao l := by
  rcases h with h | ⟨b, off, e, hB, hl, hc⟩
  · exact .inl h
  · exact .inr ⟨b, off, e, hB, Nat.lt_of_lt_of_le hl hb.size, fun p hp => (hb.cell (by exact hl)).trans (hc p hp)⟩
theorem RowN.store {B : Nat} {w : World} {ao : Option Addr} {l : List Int} (h : RowN B w ao l) (j : Nat) (v : Value) : RowN B (w.setCell ⟨B, j, none⟩ v) ao l := by
  rcases h with h | ⟨b, off, e, hB, hl, hc⟩
  · exact .inl h
  · refine .inr ⟨b, off, e, hB, by rw [World.size_setCell]; exact hl, fun p hp => ?_⟩
    rw [World.cell?_of_block (w := w) (Below.heap_setCell _ _ _ _ (by simp; omega))]
    exact hc p hp
theorem RowN.row {B : Nat} {w : World} {ao : Option Addr} {l : List Int} (h : RowN B w ao l) : RowI w ao l := by
  rcases h with h | ⟨b, off, e, _, hl, hc⟩
  · exact .inl h
  · exact .inr ⟨b, off, e, hl, hc⟩

/-- What has been cloned so far: the first k rows. -/
def Cl (w wr : World) (k : Nat) (rows : List (List Int)) : Prop :=
  (∃ f, wr.rowIs w.heap.size 38 rows.length f ∧ (∀ j, j < k → ∃ ao c, f j = .slice ao (row rows j).length c ∧ RowN w.heap.size wr ao (row rows j)) ∧ ∀ j, k ≤ j → f j = .slice none 0 0) ∧ Below w.heap.size w wr
theorem cl_start (w : World) (rows : List (List Int)) : Cl w (w.alloc (.cells (madeCells #[.slice none 0 0] rows.length) 38)) 0 rows :=
  ⟨⟨_, World.rowIs_made w (.slice none 0 0) rows.length 38, fun _ hj => absurd hj (Nat.not_lt_zero _), fun _ _ => rfl⟩, (Below.refl _ _).alloc (Nat.le_refl _) _⟩
theorem cl_skip {w wr : World} {k : Nat} {rows : List (List Int)} (h : Cl w wr k rows) (hr : row rows k = []) : Cl w wr (k + 1) rows := by
  obtain ⟨⟨f, h1, h2, h3⟩, hB⟩ := h
  refine ⟨⟨f, h1, fun j hj => ?_, fun j hj => h3 j (by omega)⟩, hB⟩
  by_cases e : j = k
  · subst e
    exact ⟨none, 0, by rw [h3 j (Nat.le_refl _), hr]; rfl, .inl hr⟩
  · exact h2 j (by omega)
theorem cl_store {w wr wi : World} {k l : Nat} {rows : List (List Int)} (h : Cl w wr k rows) (hb : Below wr.heap.size wr wi) (hl : l = (row rows k).length) (hi : wi.rowIs wr.heap.size 21 l (fun j => .int .i32 ((row rows k).getD j 0))) :
    Cl w (wi.setCell ⟨w.heap.size, k, none⟩ (.slice (some ⟨wr.heap.size, 0, none⟩) l l)) (k + 1) rows := by
  obtain ⟨⟨f, h1, h2, h3⟩, hB⟩ := h
  have hlt := h1.lt
  refine ⟨⟨_, (h1.of_block (hb.block _ hlt)).set k _, fun j hj => ?_, fun j hj => ?_⟩, (hB.trans (hb.mono hB.size)).setCell (Nat.le_refl _) _⟩
  · by_cases e : j = k
    · subst e
      refine ⟨_, l, by rw [if_pos rfl, hl], ?_⟩
      by_cases h0 : row rows j = []
      · exact .inl h0
      · refine .inr ⟨wr.heap.size, 0, rfl, hlt, by rw [World.size_setCell]; exact hi.lt, fun p hp => ?_⟩
        rw [World.cell?_of_block (w := wi) (Below.heap_setCell _ _ _ _ (by simp; omega)), Nat.zero_add]
        exact hi.cell (by omega)
    · obtain ⟨ao, c, e1, e2⟩ := h2 j (by omega)
      exact ⟨ao, c, by rw [if_neg e, e1], (e2.below hb).store _ _⟩
  · rw [if_neg (by omega)]
    exact h3 j (by omega)
theorem cl_end {w wr : World} {rows : List (List Int)} (h : Cl w wr rows.length rows) : TabAt wr w.heap.size 0 rows := by
  obtain ⟨⟨f, h1, h2, _⟩, _⟩ := h
  refine ⟨h1.lt, fun r hr => ?_⟩
  obtain ⟨ao, c, e1, e2⟩ := h2 r hr
  exact ⟨ao, c, by rw [Nat.zero_add, h1.cell hr, e1], e2.row⟩

/-- What of a row has been copied so far. -/
def Inn (wr wi : World) (l p : Nat) (xs : List Int) : Prop := wi.rowIs wr.heap.size 21 l (fun j => if j < p then .int .i32 (xs.getD j 0) else .int .i32 0) ∧ Below wr.heap.size wr wi
theorem inn_start (wr : World) (l : Nat) (xs : List Int) : Inn wr (wr.alloc (.cells (madeCells #[.int .i32 0] l) 21)) l 0 xs :=
  ⟨(World.rowIs_made wr (.int .i32 0) l 21).congr (fun i _ => by simp), (Below.refl _ _).alloc (Nat.le_refl _) _⟩
theorem inn_next {wr wi : World} {l p : Nat} {xs : List Int} (h : Inn wr wi l p xs) : Inn wr (wi.setCell ⟨wr.heap.size, p, none⟩ (.int .i32 (xs.getD p 0))) l (p + 1) xs := by
  refine ⟨(h.1.set p _).congr (fun j _ => ?_), h.2.setCell (Nat.le_refl _) _⟩
  by_cases e : j = p
  · subst e; simp
  · by_cases e2 : j < p
    · simp [e, e2, Nat.lt_succ_of_lt e2]
    · rw [if_neg e, if_neg e2, if_neg (by omega)]

theorem Cl.cellk {w wr : World} {k : Nat} {rows : List (List Int)} (h : Cl w wr k rows) (hk : k < rows.length) : wr.cell? ⟨w.heap.size, k, none⟩ = some (.slice none 0 0) ∧ wr.frozen? ⟨w.heap.size, k, none⟩ = false ∧ w.heap.size < wr.heap.size := by
  obtain ⟨⟨f, h1, _, h3⟩, _⟩ := h
  exact ⟨by rw [h1.cell hk, h3 k (Nat.le_refl _)], h1.frozen k, h1.lt⟩

set_option maxHeartbeats 4000000 in
theorem f13_row (b off c : Nat) (rows : List (List Int)) (w : World) (hR : rows.length ≤ 65536) (hL : rows.flatten.length ≤ 262144) (h : TabAt w b off rows) :
    Calls Try.prog 13 #[.slice (some ⟨b, off, none⟩) rows.length c] w fun e w' => e = .returned (.slice (some ⟨w.heap.size, 0, none⟩) rows.length rows.length) ∧ Hid (TabAt w' w.heap.size 0 rows) ∧ Below w.heap.size w w' := by
  obtain ⟨hb, hc⟩ := h
  have Hc : Hid (∀ r, r < rows.length → ∃ ao c, w.cell? ⟨b, off + r, none⟩ = some (.slice ao (row rows r).length c) ∧ RowI w ao (row rows r)) := hc
  clear hc
  have hlen : ∀ r, r < rows.length → (row rows r).length ≤ 262144 := fun r hr => by
    have h1 := pre_len rows r hr
    have h2 := pre_le rows (r + 1) 0
    omega
  have Hlen := (show Hid _ from hlen)
  have Hcl : Hid (Cl w (w.alloc (.cells (madeCells #[.slice none 0 0] rows.length) 38)) 0 rows) := cl_start w rows
  clear hlen
  have hnil := fun (w : World) => Lib.run_eql_slice_nil (P := Try.prog) w 24 38 (some ⟨b, off, none⟩) rows.length c 0 0 Try.underlying24
  have hnil2 := fun (w : World) (a : Option Addr) (n c : Nat) => Lib.run_eql_slice_nil (P := Try.prog) w 38 21 a n c 0 0 Try.underlying38
  have hmk := run_make_row' (P := Try.prog) 24 38 (.slice none 0 0) 24 Try.underlying24 info38 rfl .i64 .i64 rows.length (by omega) (by omega)
  obtain ⟨R, hR'⟩ : ∃ R, R = rows.length := ⟨_, rfl⟩
  rw [← hR'] at hR hnil hmk Hcl ⊢
  have HR : Hid (R = rows.length) := hR'
  clear hR' hL
  go_enter Try.func13, Try.ntmps13
  go_wp2_with fail
  clear hmk hnil
  go_loopw [4, 5, 6] (fun i _ _ wr => ∃ (k : Nat), k ≤ R ∧ i = .int .i64 k ∧ Cl w wr k rows) (fun i _ _ _ => R - (intOf i).toNat)
  case atStart => exact ⟨0, by omega, rfl, Hcl.out⟩
  case round =>
    obtain ⟨k, hk, rfl, hcl⟩ := hrel
    clear Hcl
    obtain ⟨wo, hwo⟩ : ∃ wo : World, wo = wr := ⟨_, rfl⟩
    subst hwo
    by_cases hlt : k < R
    · have hkr : k < rows.length := by have := HR.out; omega
      obtain ⟨ao, c', hcell0, hrow⟩ := Hc.out k hkr
      have hll := Hlen.out k hkr
      have hcell := (hcl.2.cell (p := ⟨b, off + k, none⟩) hb).trans hcell0
      obtain ⟨l, hl⟩ : ∃ l, l = (row rows k).length := ⟨_, rfl⟩
      rw [← hl] at hcell hll
      have HL : Hid (l = (row rows k).length) := hl
      clear hl hcell0
      by_cases hrow0 : row rows k = []
      · obtain rfl : l = 0 := by have := HL.out; rw [hrow0] at this; simpa using this
        clear hrow
        cases ao with
        | none =>
          have hcl' := cl_skip hcl hrow0
          clear hrow0 HL
          go_wp2_with fail
          go_roundw
          case rel => exact ⟨k + 1, by omega, by go_num, hcl'⟩
          case measure => simp [intOf]; omega
        | some ad =>
          have hmk2 : ∀ w, (Instr.makeSlice 38 (.int .i64 0) (.int .i64 0)).run Try.prog w = .ok (.slice (some ⟨w.heap.size, 0, none⟩) 0 0) (w.alloc (.cells (madeCells #[.int .i32 0] 0) 21)) := run_make_row' (P := Try.prog) 38 21 (.int .i32 0) 4 Try.underlying38 info21 rfl .i64 .i64 0 (by omega) (by omega)
          obtain ⟨hk1, hk2, hk3⟩ := hcl.cellk hkr
          have Hcl := (show Hid (Cl w wo k rows) from hcl)
          clear hcl hrow0
          go_wp2_with fail
          clear hmk2
          go_loopw [6] (fun i wr => ∃ (p : Nat), p ≤ 0 ∧ i = .int .i64 p ∧ Inn wo wr 0 p (row rows k)) (fun i _ => 0 - (intOf i).toNat)
          case atStart => exact ⟨0, by omega, rfl, inn_start wo 0 (row rows k)⟩
          case round =>
            obtain ⟨p, hp, rfl, hin⟩ := hrel
            obtain rfl : p = 0 := by omega
            have hB1 := hin.2
            have g1 := (hB1.cell (p := ⟨w.heap.size, k, none⟩) hk3).trans hk1
            have g2 := (hB1.frozen (p := ⟨w.heap.size, k, none⟩) hk3).trans hk2
            have hcl' := cl_store Hcl.out hB1 HL.out (hin.1.congr (fun i hi => absurd hi (Nat.not_lt_zero _)))
            clear hin hB1
            go_wp2_with fail
            go_roundw
            case rel => exact ⟨k + 1, by omega, by go_num, hcl'⟩
            case measure => simp [intOf]; omega
      · rcases hrow with hrow | ⟨b', o', rfl, hb', hx⟩
        · exact absurd hrow hrow0
        have Hx := (show Hid _ from hx)
        clear hx hrow0
        have hmk2 := run_make_row' (P := Try.prog) 38 21 (.int .i32 0) 4 Try.underlying38 info21 rfl .i64 .i64 l (by omega) (by omega)
        obtain ⟨hk1, hk2, hk3⟩ := hcl.cellk hkr
        have hbo : b < wo.heap.size := by omega
        have hbo' : b' < wo.heap.size := by omega
        have Hcl := (show Hid (Cl w wo k rows) from hcl)
        have HB := (show Hid _ from hcl.2)
        clear hcl
        go_wp2_with fail
        clear hmk2
        go_loopw [6] (fun i wr => ∃ (p : Nat), p ≤ l ∧ i = .int .i64 p ∧ Inn wo wr l p (row rows k)) (fun i _ => l - (intOf i).toNat)
        case atStart => exact ⟨0, by omega, rfl, inn_start wo l (row rows k)⟩
        case round =>
          obtain ⟨p, hp, rfl, hin⟩ := hrel
          by_cases hltp : p < l
          · have hpl : p < (row rows k).length := by have := HL.out; omega
            have q0 := (hin.2.cell (p := ⟨b, off + k, none⟩) hbo).trans hcell
            have q1 := ((hin.2.cell (p := ⟨b', o' + p, none⟩) hbo').trans (HB.out.cell (p := ⟨b', o' + p, none⟩) hb')).trans (Hx.out p hpl)
            have q2 := hin.1.cell hltp
            have q3 := hin.1.frozen p
            have hin' := inn_next hin
            obtain ⟨x, hx⟩ : ∃ x, x = (row rows k).getD p 0 := ⟨_, rfl⟩
            rw [← hx] at q1 hin'
            clear hx hin hcell
            go_wp2_with fail
            go_roundw
            case rel => exact ⟨p + 1, by omega, by go_num, hin'⟩
            case measure => simp [intOf]; omega
          · obtain rfl : p = l := by omega
            have hB1 := hin.2
            have g1 := (hB1.cell (p := ⟨w.heap.size, k, none⟩) hk3).trans hk1
            have g2 := (hB1.frozen (p := ⟨w.heap.size, k, none⟩) hk3).trans hk2
            have hcl' := cl_store Hcl.out hB1 HL.out (hin.1.congr (fun i hi => by rw [if_pos hi]))
            clear hin hB1 hcell
            go_wp2_with fail
            go_roundw
            case rel => exact ⟨k + 1, by omega, by go_num, hcl'⟩
            case measure => simp [intOf]; omega
    · obtain rfl : k = R := by omega
      have ht := (show Hid _ from (cl_end (by rw [← HR.out]; exact hcl)))
      have hB := hcl.2
      clear hcl
      go_wp2_with fail
      go_ret
      exact ⟨rfl, ht, hB⟩
end Go.Proofs.Qxb6612653a
