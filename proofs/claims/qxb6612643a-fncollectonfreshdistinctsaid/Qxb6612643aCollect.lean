import Derived.Test.Qxb6612643aFresh
namespace Go.Proofs.Qxb6612643a
open Go.ChangeShapes Go.WideShapes Go.ChangeAt Go.RowKit
set_option maxRecDepth 100000

/-- A fresh Distinct in memory: its count, its table's length, nothing held back. -/
structure Dist (w : World) (D m : Nat) : Prop where
  count : w.cell? ⟨D, 2, none⟩ = some (.int .i64 0)
  many : ∃ ao c, w.cell? ⟨D, 19, none⟩ = some (.slice ao m c)
  later : w.cell? ⟨D, 20, none⟩ = some (.slice none 0 0)

def Made (n : Int) (w' : World) (e : Ending) : Prop := ∃ D m : Nat, e = .returned (.pointer (some ⟨D, 0, none⟩)) ∧ Dist w' D m ∧ (n ≤ 16 → m = 0) ∧ (16 < n → Least m n)

theorem made_few {w : World} {D : Nat} {ad : Addr} {n : Int} {e : Ending} (hn : n ≤ 16) (he : e = .returned (.pointer (some ⟨D, 0, none⟩))) (h : w.heap[D]? = some (.cells (zeros ad) 61 (0, 0))) : Made n w e :=
  ⟨D, 0, he, ⟨(cell_of_row w D 2 _ 61 (0, 0) h).trans rfl, ⟨none, 0, (cell_of_row w D 19 _ 61 (0, 0) h).trans rfl⟩, (cell_of_row w D 20 _ 61 (0, 0) h).trans rfl⟩, fun _ => rfl, fun h => by omega⟩
theorem made_many {w : World} {D g m : Nat} {ad : Addr} {n : Int} {e : Ending} (hn : 16 < n) (hl : Least m n) (he : e = .returned (.pointer (some ⟨D, 0, none⟩))) (h : w.heap[D]? = some (.cells (table ad g m) 61 (0, 0))) : Made n w e :=
  ⟨D, m, he, ⟨(cell_of_row w D 2 _ 61 (0, 0) h).trans rfl, ⟨_, _, (cell_of_row w D 19 _ 61 (0, 0) h).trans rfl⟩, (cell_of_row w D 20 _ 61 (0, 0) h).trans rfl⟩, fun h => by omega, fun _ => hl⟩

set_option maxHeartbeats 1000000 in
theorem f9_few (n : Int) (w : World) (h1 : n ≤ 16) :
    Calls Try.prog 9 #[.int .i64 n] w fun e w' => Made n w' e ∧ Below w.heap.size w w' := by
  go_enter Try.func9, Try.ntmps9
  go_wp2_with fail
  refine (f23_few _ n _ h1).mono ?_
  rintro e w1 ⟨rfl, hB⟩
  have hB1 : Below w.heap.size w w1 := ((Below.refl _ _).alloc (Nat.le_refl _) _).trans (hB.mono (by simp))
  clear hB
  go_wp2_with ((with_reducible show wpList _ _ _ (⟨_, .store 61 _ _, _, _, _, _⟩ :: _) _ _); refine wpList_store_whole rfl 61 _ _ rfl w1.heap.size _ (zeros _) 61 rfl rfl (Go.heap_alloc_new w1 _) info61 rfl (zeros_one _) ?_; intro w2 hD2 hg2)
  go_ret
  exact ⟨made_few h1 rfl hD2, (hB1.alloc hB1.size _).grown hg2 (by have := hB1.size; simp; omega) (by have := hB1.size; simp; omega)⟩

set_option maxHeartbeats 1000000 in
theorem f9_many (n : Int) (w : World) (h0 : 16 < n) (h1 : n ≤ 65536) :
    Calls Try.prog 9 #[.int .i64 n] w fun e w' => Made n w' e ∧ Below w.heap.size w w' := by
  go_enter Try.func9, Try.ntmps9
  go_wp2_with fail
  refine (f23_many _ n _ h0 h1).mono ?_
  rintro e w1 ⟨⟨g, m, rfl, hl⟩, hB⟩
  have hB1 : Below w.heap.size w w1 := ((Below.refl _ _).alloc (Nat.le_refl _) _).trans (hB.mono (by simp))
  have HL : Hid (Least m n) := hl
  clear hB hl
  go_wp2_with ((with_reducible show wpList _ _ _ (⟨_, .store 61 _ _, _, _, _, _⟩ :: _) _ _); refine wpList_store_whole rfl 61 _ _ rfl w1.heap.size _ (table _ g m) 61 rfl rfl (Go.heap_alloc_new w1 _) info61 rfl (table_one _ _ _) ?_; intro w2 hD2 hg2)
  go_ret
  exact ⟨made_many h0 HL.out rfl hD2, (hB1.alloc hB1.size _).grown hg2 (by have := hB1.size; simp; omega) (by have := hB1.size; simp; omega)⟩

set_option maxHeartbeats 1000000 in
theorem f24_any (D m : Nat) (v : Value) (w : World) (h : Dist w D m) :
    Calls Try.prog 24 #[.pointer (some ⟨D, 0, none⟩), v] w fun e w' => e = .returned (.tuple #[.int .i64 (-1), .int .i64 0]) ∧ w' = w := by
  have h0 := h.later
  clear h
  go_enter Try.func24, Try.ntmps24
  go_wp2
  go_ret2
  exact ⟨rfl, rfl⟩

set_option maxHeartbeats 1000000 in
theorem f10_any (D m : Nat) (w : World) (h : Dist w D m) :
    Calls Try.prog 10 #[.pointer (some ⟨D, 0, none⟩)] w fun e w' => e = .returned (.tuple #[.int .i64 (-1), .int .i64 0]) ∧ w' = w := by
  go_enter Try.func10, Try.ntmps10
  go_wp2_with (go_at_call 24; refine (f24_any D m _ _ h).mono ?_; rintro e w' ⟨rfl, rfl⟩)
  go_ret2
  exact ⟨rfl, rfl⟩

set_option maxHeartbeats 1000000 in
theorem f11_any (D m : Nat) (w : World) (h : Dist w D m) :
    Calls Try.prog 11 #[.pointer (some ⟨D, 0, none⟩)] w fun e w' => e = .returned (.tuple #[.int .i64 (-1), .int .i64 0]) ∧ w' = w := by
  go_enter Try.func11, Try.ntmps11
  go_wp2_with (go_at_call 24; refine (f24_any D m _ _ h).mono ?_; rintro e w' ⟨rfl, rfl⟩)
  go_ret2
  exact ⟨rfl, rfl⟩

set_option maxHeartbeats 1000000 in
theorem f12_any (D m : Nat) (w : World) (h : Dist w D m) :
    Calls Try.prog 12 #[.pointer (some ⟨D, 0, none⟩)] w fun e w' => e = .returned (.int .i64 0) ∧ w' = w := by
  have h0 := h.count
  clear h
  go_enter Try.func12, Try.ntmps12
  go_wp2
  go_ret
  exact ⟨rfl, rfl⟩

set_option maxHeartbeats 1000000 in
theorem f13_any (D m : Nat) (w : World) (h : Dist w D m) :
    Calls Try.prog 13 #[.pointer (some ⟨D, 0, none⟩)] w fun e w' => e = .returned (.int .i64 0) ∧ w' = w := by
  have h0 := h.later
  clear h
  go_enter Try.func13, Try.ntmps13
  go_wp2
  go_ret
  exact ⟨rfl, rfl⟩

set_option maxHeartbeats 1000000 in
theorem f14_any (D m : Nat) (w : World) (h : Dist w D m) :
    Calls Try.prog 14 #[.pointer (some ⟨D, 0, none⟩)] w fun e w' => e = .returned (.int .i64 m) ∧ w' = w := by
  obtain ⟨_, ⟨ao, c, h0⟩, _⟩ := h
  go_enter Try.func14, Try.ntmps14
  go_wp2
  go_ret
  exact ⟨rfl, rfl⟩

set_option maxHeartbeats 2000000 in
theorem walk4 (n : Int) (w : World) :
    Calls Try.prog 4 #[.int .i64 n] w fun e w' => e = .returned (.bool true) ∧ Below w.heap.size w w' := by
  by_cases hbig : (65536 : Int) < n
  · go_enter Try.func4, Try.ntmps4
    go_wp2
    go_ret
    exact ⟨rfl, Below.refl _ _⟩
  have h9 : Calls Try.prog 9 #[.int .i64 n] w fun e w' => Made n w' e ∧ Below w.heap.size w w' := by
    by_cases h : n ≤ 16
    · exact f9_few n w h
    · exact f9_many n w (by omega) (by omega)
  by_cases hsm : n ≤ 16
  · go_enter Try.func4, Try.ntmps4
    go_wp2_with fail
    refine h9.mono ?_
    clear h9
    rintro e w1 ⟨⟨D, m, rfl, hD, h0, _⟩, hB⟩
    obtain rfl := h0 hsm
    go_wp2_with (first | (go_at_call 10; refine (f10_any D 0 _ hD).mono ?_; rintro e w' ⟨rfl, rfl⟩) | (go_at_call 11; refine (f11_any D 0 _ hD).mono ?_; rintro e w' ⟨rfl, rfl⟩) | (go_at_call 12; refine (f12_any D 0 _ hD).mono ?_; rintro e w' ⟨rfl, rfl⟩) | (go_at_call 13; refine (f13_any D 0 _ hD).mono ?_; rintro e w' ⟨rfl, rfl⟩) | (go_at_call 14; refine (f14_any D 0 _ hD).mono ?_; rintro e w' ⟨rfl, rfl⟩))
    go_ret
    exact ⟨rfl, hB⟩
  · go_enter Try.func4, Try.ntmps4
    go_wp2_with fail
    refine h9.mono ?_
    clear h9
    rintro e w1 ⟨⟨D, m, rfl, hD, _, h1⟩, hB⟩
    have HL : Hid (Least m n) := h1 (by omega)
    clear h1
    go_wp2_with (first | (go_at_call 10; refine (f10_any D m _ hD).mono ?_; rintro e w' ⟨rfl, rfl⟩) | (go_at_call 11; refine (f11_any D m _ hD).mono ?_; rintro e w' ⟨rfl, rfl⟩) | (go_at_call 12; refine (f12_any D m _ hD).mono ?_; rintro e w' ⟨rfl, rfl⟩) | (go_at_call 13; refine (f13_any D m _ hD).mono ?_; rintro e w' ⟨rfl, rfl⟩) | (go_at_call 14; refine (f14_any D m _ hD).mono ?_; rintro e w' ⟨rfl, rfl⟩) | (go_at_call 15; refine (f15_any _ n _ (by omega) (by omega) HL.out).mono ?_; rintro e w' ⟨rfl, rfl⟩))
    go_ret
    exact ⟨rfl, hB⟩
end Go.Proofs.Qxb6612643a
