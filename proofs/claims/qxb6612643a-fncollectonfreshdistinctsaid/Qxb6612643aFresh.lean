import Derived.Test.Qxb6612643aSlots
import Derived.Laws.Tables
import Derived.Laws.Rows
import Derived.Deep.Cut
namespace Go.Proofs.Qxb6612643a
open Go.ChangeShapes Go.WideShapes Go.ChangeAt Go.RowKit
set_option maxRecDepth 100000

/-- A whole struct into a block that is known whole. -/
theorem wpList_store_whole {P : Program} {ops : Array Oper} {rest : List Oper} {op : Oper} {a : Act} {w : World} {Q : Exit → Act → World → Prop} (hgd : op.guard = none) (ty : TypeId) (x y : Operand) (ho : op.op = .store ty x y)
    (b : Nat) (old cells : Array Value) (t : TypeId) (hx : a.eval x = .pointer (some ⟨b, 0, none⟩)) (hy : a.eval y = .agg cells) (hb : w.heap[b]? = some (.cells old t (0, 0))) (hi : (P.info? ty).map (·.size) = some cells.size) (hs : old.size = cells.size) (h1 : cells.all (·.oneCell') = true)
    (h : ∀ w', w'.heap[b]? = some (.cells cells t (0, 0)) → w.grownBy w' (some b) → wpList P ops Q rest (a.put op.dst undef) w') : wpList P ops Q (op :: rest) a w := by
  refine wpList_plain hgd fun K hK => ?_
  have hr := run_storeVar_row (P := P) w b t ty old cells hb hi hs h1
  unfold Oper.wp execOp
  simp only [ho, hx, hy, Instr.storeAt, Instr.sureAddr, Sem.run_bind, Sem.run_pure, Result.andThen_ok, hr]
  exact hK _ _ (h _ (setRow_heap w b old cells t _ hb) ⟨rfl, rfl, rfl, by simp, fun k _ hk => setRow_other w b k _ (fun e => hk (by simp [e]))⟩)

/-- A whole struct out of a block that is known whole. -/
theorem wpList_load_whole {P : Program} {ops : Array Oper} {rest : List Oper} {op : Oper} {a : Act} {w : World} {Q : Exit → Act → World → Prop} (hgd : op.guard = none) (ty : TypeId) (x : Operand) (ho : op.op = .load ty x)
    (b : Nat) (cells : Array Value) (t : TypeId) (d : TypeDesc) (hx : a.eval x = .pointer (some ⟨b, 0, none⟩)) (hb : w.heap[b]? = some (.cells cells t (0, 0))) (hu : P.underlying ty = some d) (hd : (match d with | .struct _ | .array _ _ => true | _ => false) = true)
    (hi : (P.info? ty).map (·.size) = some cells.size) (h : wpList P ops Q rest (a.put op.dst (.agg cells)) w) : wpList P ops Q (op :: rest) a w := by
  refine wpList_plain hgd fun K hK => ?_
  have hr := run_loadVar_row (P := P) w b t ty cells (0, 0) d hb hu hd hi
  unfold Oper.wp execOp
  simp only [ho, hx, Instr.loadAt, Instr.sureAddr, Sem.run_bind, Sem.run_pure, Result.andThen_ok, hr]
  exact hK _ _ h

def zeros (ad : Addr) : Array Value := #[.pointer (some ad), .nilFunc, .int .i64 0, .int .u32 0, .int .u32 0, .int .u32 0, .int .u32 0, .int .u32 0, .int .u32 0, .int .u32 0, .int .u32 0, .int .u32 0, .int .u32 0, .int .u32 0, .int .u32 0, .int .u32 0, .int .u32 0, .int .u32 0, .int .u32 0, .slice none 0 0, .slice none 0 0, .int .u64 0]

theorem block_last (w : World) (o : Obj) (cs : Array Value) (t : TypeId) : ((w.alloc o).alloc (.cells cs t)).heap[w.heap.size + 1]? = some (.cells cs t (0, 0)) := by
  have := Go.heap_alloc_new (w.alloc o) (.cells cs t)
  rw [World.size_alloc] at this
  exact this
theorem block_first (w : World) (cs : Array Value) (t : TypeId) (o : Obj) : ((w.alloc (.cells cs t)).alloc o).heap[w.heap.size]? = some (.cells cs t (0, 0)) := by
  rw [Below.heap_alloc _ _ _ (by simp), Go.heap_alloc_new]

theorem zeros_size (ad : Addr) : (zeros ad).size = 22 := rfl
theorem zeros_one (ad : Addr) : (zeros ad).all (·.oneCell') = true := by simp [zeros, Value.oneCell']
theorem info61 : (Try.prog.info? 61).map (·.size) = some 22 := by kernel_rfl

theorem res23 {tmps : Array Value} {w : World} {b : Nat} {C : Array Value} (ht : tmps.getD 6 undef = .pointer (some ⟨b, 0, none⟩)) (hb : w.heap[b]? = some (.cells C 61 (0, 0))) (hC : (Try.prog.info? 61).map (·.size) = some C.size) :
    (results Try.f23 tmps).run Try.prog w = .ok (.agg C) w := by
  have hr := run_loadVar_row (P := Try.prog) w b 61 61 C (0, 0) _ hb Try.underlying61 rfl hC
  have ha : (asAddr (tmps.getD 6 undef)).run Try.prog w = .ok ⟨b, 0, none⟩ w := by rw [ht]; rfl
  simp only [results, Try.results23]
  simp [-Array.getD_eq_getD_getElem?, ha, hr]

/-- The struct that comes back: its count, its table's length, nothing held back. -/
structure Fresh (C : Array Value) (m : Nat) : Prop where
  size : C.size = 22
  one : C.all (·.oneCell') = true
  count : C[2]? = some (.int .i64 0)
  many : ∃ ao c, C[19]? = some (.slice ao m c)
  later : C[20]? = some (.slice none 0 0)

set_option maxHeartbeats 1000000 in
theorem f23_few (ad : Addr) (n : Int) (w : World) (h1 : n ≤ 16) :
    Calls Try.prog 23 #[.pointer (some ad), .int .i64 n, .nilFunc] w fun e w' => e = .returned (.agg (zeros ad)) ∧ Below w.heap.size w w' := by
  go_enter Try.func23, Try.ntmps23
  go_wp2_with (first | ((with_reducible show wpList _ _ _ (⟨_, .store 61 (.tmp 7) _, _, _, _, _⟩ :: _) _ _); refine wpList_store_whole rfl 61 _ _ rfl (w.heap.size + 1) _ (zeros ad) 61 rfl rfl (block_last w _ _ _) info61 rfl (zeros_one ad) ?_; intro w1 hD1 hg1; have hR1 := (hg1.block w.heap.size (by simp; omega) (by simp)).trans (block_first w _ _ _)) | ((with_reducible show wpList _ _ _ (⟨_, .load 61 (.tmp 7), _, _, _, _⟩ :: _) _ _); refine wpList_load_whole rfl 61 _ rfl (w.heap.size + 1) (zeros ad) 61 _ rfl hD1 Try.underlying61 rfl info61 ?_) | ((with_reducible show wpList _ _ _ (⟨_, .store 61 (.tmp 6) _, _, _, _, _⟩ :: _) _ _); refine wpList_store_whole rfl 61 _ _ rfl w.heap.size _ (zeros ad) 61 rfl rfl hR1 info61 rfl (zeros_one ad) ?_; intro w2 hD2 hg2))
  have hB1 : Below w.heap.size w w1 := (((Below.refl _ _).alloc (Nat.le_refl _) _).alloc (by simp) _).grown hg1 (by simp; omega) (by simp)
  have hB2 : Below w.heap.size w w2 := hB1.grown hg2 hB1.size (by simp)
  exact bodyPost_ret (res23 rfl hD2 info61) rfl ⟨rfl, hB2⟩

theorem info59 : (Try.prog.info? 59).map (fun i => (i.zero, i.size, i.bytes)) = some (some (.int .u64 0), 1, 8) := by kernel_rfl
def table (ad : Addr) (g m : Nat) : Array Value := #[.pointer (some ad), .nilFunc, .int .i64 0, .int .u32 0, .int .u32 0, .int .u32 0, .int .u32 0, .int .u32 0, .int .u32 0, .int .u32 0, .int .u32 0, .int .u32 0, .int .u32 0, .int .u32 0, .int .u32 0, .int .u32 0, .int .u32 0, .int .u32 0, .int .u32 0, .slice (some ⟨g, 0, none⟩) m m, .slice none 0 0, .int .u64 0]
theorem table_eq (ad : Addr) (g m : Nat) : (zeros ad).setIfInBounds 19 (.slice (some ⟨g, 0, none⟩) m m) = table ad g m := rfl
theorem table_size (ad : Addr) (g m : Nat) : (table ad g m).size = 22 := rfl
theorem table_one (ad : Addr) (g m : Nat) : (table ad g m).all (·.oneCell') = true := by simp [table, Value.oneCell']
theorem table_block {w : World} {b : Nat} {ad : Addr} (h : w.heap[b]? = some (.cells (zeros ad) 61 (0, 0))) (hb : b < w.heap.size) (o : Obj) (g m : Nat) :
    ((w.setCell ⟨b, 19, none⟩ (.slice (some ⟨g, 0, none⟩) m m)).alloc o).heap[b]? = some (.cells (table ad g m) 61 (0, 0)) := by
  rw [Below.heap_alloc _ _ _ (by rw [World.size_setCell]; exact hb)]
  simp [World.setCell, Array.getElem?_modify, h, table_eq]
theorem other_block {w : World} {b b' : Nat} {O : Obj} (h : w.heap[b]? = some O) (hb : b < w.heap.size) (hne : b ≠ b') (o : Obj) (j : Nat) (v : Value) :
    ((w.setCell ⟨b', j, none⟩ v).alloc o).heap[b]? = some O := by
  rw [Below.heap_alloc _ _ _ (by rw [World.size_setCell]; exact hb), Below.heap_setCell _ _ _ _ hne]; exact h

/-- It answers a struct with the least table. -/
def Big (ad : Addr) (n : Int) (e : Ending) : Prop := ∃ g m : Nat, e = .returned (.agg (table ad g m)) ∧ Least m n
theorem Big.of {ad : Addr} {n : Int} {e : Ending} {g m : Nat} (h : e = .returned (.agg (table ad g m))) (hl : Least m n) : Big ad n e := ⟨g, m, h, hl⟩

set_option maxHeartbeats 1000000 in
theorem f23_many (ad : Addr) (n : Int) (w : World) (h0 : 16 < n) (h1 : n ≤ 65536) :
    Calls Try.prog 23 #[.pointer (some ad), .int .i64 n, .nilFunc] w fun e w' => Big ad n e ∧ Below w.heap.size w w' := by
  go_enter Try.func23, Try.ntmps23
  go_wp2_with ((with_reducible show wpList _ _ _ (⟨_, .store 61 (.tmp 7) _, _, _, _, _⟩ :: _) _ _); refine wpList_store_whole rfl 61 _ _ rfl (w.heap.size + 1) _ (zeros ad) 61 rfl rfl (block_last w _ _ _) info61 rfl (zeros_one ad) ?_; intro w1 hD1 hg1; have hR1 := (hg1.block w.heap.size (by simp; omega) (by simp)).trans (block_first w _ _ _))
  have hB1 : Below w.heap.size w w1 := (((Below.refl _ _).alloc (Nat.le_refl _) _).alloc (by simp) _).grown hg1 (by simp; omega) (by simp)
  have hs1 : w.heap.size + 2 ≤ w1.heap.size := by have := hg1.size; simpa using this
  clear hg1
  refine (f27_any n _ h0 h1).mono ?_
  rintro e w2 ⟨⟨s, rfl, hl⟩, rfl⟩
  have hb := hl.1.bounds
  obtain ⟨m, hm⟩ : ∃ m : Nat, s = (m : Int) := ⟨s.toNat, by omega⟩
  subst hm
  have hmk := run_make_row' (P := Try.prog) 57 59 (.int .u64 0) 8 Try.underlying57 info59 rfl .i64 .i64 m (by omega) (by omega)
  have hc19 : w2.cell? ⟨w.heap.size + 1, 19, none⟩ = some (.slice none 0 0) := (cell_of_row w2 (w.heap.size + 1) 19 _ 61 (0, 0) hD1).trans rfl
  have hf19 : w2.frozen? ⟨w.heap.size + 1, 19, none⟩ = false := frozen_of_row w2 (w.heap.size + 1) 19 _ 61 hD1
  have hlt1 : w.heap.size + 1 < w2.heap.size := by omega
  have HL : Hid (Least m n) := hl
  clear hl
  go_wp2_with (first | ((with_reducible show wpList _ _ _ (⟨_, .load 61 (.tmp 7), _, _, _, _⟩ :: _) _ _); refine wpList_load_whole rfl 61 _ rfl (w.heap.size + 1) (table ad w2.heap.size m) 61 _ rfl (table_block hD1 hlt1 _ _ _) Try.underlying61 rfl info61 ?_) | ((with_reducible show wpList _ _ _ (⟨_, .store 61 (.tmp 6) _, _, _, _, _⟩ :: _) _ _); refine wpList_store_whole rfl 61 _ _ rfl w.heap.size _ (table ad w2.heap.size m) 61 rfl rfl (other_block hR1 (by omega) (by omega) _ _ _) info61 rfl (table_one ad _ _) ?_; intro w3 hD3 hg3))
  have hB3 : Below w.heap.size w w3 := ((hB1.setCell (by simp) _).alloc (by rw [World.size_setCell]; exact hB1.size) _).grown hg3 (by simp; omega) (by simp)
  exact bodyPost_ret (res23 rfl hD3 info61) rfl ⟨Big.of rfl HL.out, hB3⟩
end Go.Proofs.Qxb6612643a
