import Derived.Test.Qxb6612643aRows
import Derived.WalkKit
import Derived.ProofKit
import Derived.WalkSpells
import Derived.WalkLawsBesides
import Derived.Deep.QuietTactic
import Derived.BigQuiet
import Derived.Laws.EntriesVeiled
namespace Go.Proofs.Qxb6612643a
open Go.ChangeShapes Go.WideShapes Go.ChangeAt Go.RowKit
set_option maxRecDepth 100000

set_option maxHeartbeats 1000000 in
theorem f26_any (ad : Addr) (w : World) :
    Calls Try.prog 26 #[.pointer (some ad)] w fun e w' => e = .returned (.agg #[.pointer (some ad), .slice none 0 0, .slice none 0 0, .int .u64 0]) ∧ w' = w.alloc (.cells #[.pointer (some ad), .slice none 0 0, .slice none 0 0, .int .u64 0] 66) := by
  go_enter Try.func26, Try.ntmps26
  go_wp2
  exact bodyPost_ret (v := .agg #[.pointer (some ad), .slice none 0 0, .slice none 0 0, .int .u64 0]) (by simp [results, Try.results26, go_sem]) rfl ⟨rfl, rfl⟩

/-- A teller in memory: its cells that the law reads. -/
structure Tel (w : World) (T : Nat) (a : Int) (b : Bool) : Prop where
  eq : w.cell? ⟨T, 2, none⟩ = some (.int .u8 a)
  hashers : ∃ ao c, w.cell? ⟨T, 5, none⟩ = some (.slice ao 1 c)
  opens : ∃ ao c, w.cell? ⟨T, 6, none⟩ = some (.slice ao 0 c)
  held : ∃ ao c, w.cell? ⟨T, 9, none⟩ = some (.slice ao 0 c)
  later : w.cell? ⟨T, 10, none⟩ = some (.bool b)
  again : w.cell? ⟨T, 11, none⟩ = some (.bool false)
  stop : w.cell? ⟨T, 12, none⟩ = some (.int .i64 0)
  free : w.frozen? ⟨T, 10, none⟩ = false

theorem Tel.set {w : World} {T : Nat} {a : Int} {b : Bool} (h : Tel w T a b) : Tel (w.setCell ⟨T, 10, none⟩ (.bool true)) T a true := by
  have o : ∀ j, j ≠ 10 → (w.setCell ⟨T, 10, none⟩ (.bool true)).cell? ⟨T, j, none⟩ = w.cell? ⟨T, j, none⟩ := fun j hj => World.cell?_setCell_other _ _ _ _ (by simp)
  exact ⟨by rw [o 2 (by decide)]; exact h.eq, by rw [o 5 (by decide)]; exact h.hashers, by rw [o 6 (by decide)]; exact h.opens, by rw [o 9 (by decide)]; exact h.held, World.cell?_setCell_same _ _ _ h.later,
    by rw [o 11 (by decide)]; exact h.again, by rw [o 12 (by decide)]; exact h.stop, by rw [World.frozen?_setCell]; exact h.free⟩

theorem tel_new (w : World) (C : Array Value) (t : TypeId) (o o' : Obj) (j : Nat) : (((w.alloc (.cells C t)).alloc o).alloc o').cell? ⟨w.heap.size, j, none⟩ = C[j]? := by
  rw [World.cell?_alloc_lt _ _ _ (by simp; omega), World.cell?_alloc_lt _ _ _ (by simp), World.cell?_alloc_new]
theorem tel_free (w : World) (C : Array Value) (t : TypeId) (o o' : Obj) (j : Nat) : (((w.alloc (.cells C t)).alloc o).alloc o').frozen? ⟨w.heap.size, j, none⟩ = false := by
  have e : (((w.alloc (.cells C t)).alloc o).alloc o').heap[w.heap.size]? = some (.cells C t (0, 0)) := by
    rw [Below.heap_alloc _ _ _ (by simp; omega), Below.heap_alloc _ _ _ (by simp), Go.heap_alloc_new]
  simp [World.frozen?, e]

set_option maxHeartbeats 1000000 in
theorem f5_any (a : Int) (w : World) :
    Calls Try.prog 5 #[.int .u8 a] w fun e w' => e = .returned (.pointer (some ⟨w.heap.size, 0, none⟩)) ∧ Tel w' w.heap.size a false ∧ Below w.heap.size w w' := by
  go_enter Try.func5, Try.ntmps5
  go_wp2_with (first | (go_at_call 26; refine (f26_any _ _).mono ?_; rintro e w' ⟨rfl, rfl⟩) | go_in)
  go_ret
  exact ⟨rfl, ⟨(tel_new ..).trans rfl, ⟨_, _, (tel_new ..).trans rfl⟩, ⟨_, _, (tel_new ..).trans rfl⟩, ⟨_, _, (tel_new ..).trans rfl⟩, (tel_new ..).trans rfl, (tel_new ..).trans rfl, (tel_new ..).trans rfl, tel_free ..⟩, (((Below.refl _ _).alloc (Nat.le_refl _) _).alloc (by simp) _).alloc (by simp; omega) _⟩

set_option maxHeartbeats 1000000 in
theorem f6_any (T : Nat) (a : Int) (b : Bool) (w : World) (h : Tel w T a b) :
    Calls Try.prog 6 #[.pointer (some ⟨T, 0, none⟩)] w fun e w' => e = .returned (.bool b) ∧ w' = w := by
  have h0 := h.later
  clear h
  go_enter Try.func6, Try.ntmps6
  go_wp2
  go_ret
  exact ⟨rfl, rfl⟩

set_option maxHeartbeats 1000000 in
theorem f7_any (T : Nat) (a : Int) (b : Bool) (w : World) (h : Tel w T a b) :
    Calls Try.prog 7 #[.pointer (some ⟨T, 0, none⟩)] w fun e w' => e = .returned (.tuple #[]) ∧ w' = w.setCell ⟨T, 10, none⟩ (.bool true) := by
  have h0 := h.later
  have h1 := h.free
  clear h
  go_enter Try.func7, Try.ntmps7
  go_wp2
  go_end0
  exact ⟨rfl, rfl⟩

set_option maxHeartbeats 1000000 in
theorem f8_any (T : Nat) (a : Int) (b : Bool) (w : World) (h : Tel w T a b) :
    Calls Try.prog 8 #[.pointer (some ⟨T, 0, none⟩), .int .u8 a] w fun e w' => e = .returned (.bool true) ∧ w' = w := by
  obtain ⟨h0, ⟨a1, c1, h1⟩, ⟨a2, c2, h2⟩, ⟨a3, c3, h3⟩, h4, h5, h6, h7⟩ := h
  go_enter Try.func8, Try.ntmps8
  go_wp2
  go_ret
  exact ⟨rfl, rfl⟩

set_option maxHeartbeats 4000000 in
theorem walk3 (a : Int) (w : World) :
    Calls Try.prog 3 #[.int .u8 a] w fun e w' => e = .returned (.bool true) ∧ Below w.heap.size w w' := by
  go_enter Try.func3, Try.ntmps3
  go_wp2_with fail
  refine (f5_any a w).mono ?_
  rintro e w1 ⟨rfl, hT, hB⟩
  go_wp2_with fail
  refine (f6_any w.heap.size a false w1 hT).mono ?_
  rintro e w2 ⟨rfl, rfl⟩
  go_wp2_with fail
  refine (f7_any w.heap.size a false w2 hT).mono ?_
  rintro e w3 ⟨rfl, hw3⟩
  have hT3 : Tel w3 w.heap.size a true := by rw [hw3]; exact hT.set
  have hB3 : Below w.heap.size w w3 := by rw [hw3]; exact hB.setCell (Nat.le_refl _) _
  clear hw3 hT hB
  go_wp2_with fail
  refine (f6_any w.heap.size a true w3 hT3).mono ?_
  rintro e w4 ⟨rfl, rfl⟩
  go_wp2_with fail
  refine (f8_any w.heap.size a true w4 hT3).mono ?_
  rintro e w5 ⟨rfl, rfl⟩
  go_wp2_with fail
  refine (f7_any w.heap.size a true w5 hT3).mono ?_
  rintro e w6 ⟨rfl, hw6⟩
  have hT6 : Tel w6 w.heap.size a true := by rw [hw6]; exact hT3.set
  have hB6 : Below w.heap.size w w6 := by rw [hw6]; exact hB3.setCell (Nat.le_refl _) _
  clear hw6 hT3 hB3
  go_wp2_with fail
  refine (f6_any w.heap.size a true w6 hT6).mono ?_
  rintro e w7 ⟨rfl, rfl⟩
  go_wp2_with fail
  refine (f8_any w.heap.size a true w7 hT6).mono ?_
  rintro e w8 ⟨rfl, rfl⟩
  go_wp2
  go_ret
  exact ⟨rfl, hB6⟩
end Go.Proofs.Qxb6612643a
