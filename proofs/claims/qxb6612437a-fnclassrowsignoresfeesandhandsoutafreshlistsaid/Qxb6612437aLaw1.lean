import Derived.Test.Qxb6612437aTerms
import Derived.Laws.CopyOwn
namespace Go.Proofs.Qxb6612437a
open Go.ChangeShapes Go.WideShapes Go.ChangeAt Go.RowKit
set_option maxRecDepth 100000

/-- A list of strings, as the walks are told of it. -/
def Lst (w : World) (ao : Option Addr) (n : Nat) (S : Nat → ByteArray) : Prop :=
  n = 0 ∨ ∃ b off, ao = some ⟨b, off, none⟩ ∧ b < w.heap.size ∧ ∀ i, i < n → w.cell? ⟨b, off + i, none⟩ = some (.string (S i))

theorem Lst.below {w w' : World} {ao : Option Addr} {n : Nat} {S : Nat → ByteArray} (h : Lst w ao n S) (hb : Below w.heap.size w w') : Lst w' ao n S := by
  rcases h with h | ⟨b, off, e, hl, hc⟩
  · exact .inl h
  · exact .inr ⟨b, off, e, Nat.lt_of_lt_of_le hl hb.size, fun i hi => (hb.cell (by exact hl)).trans (hc i hi)⟩

theorem Lst.own {w : World} {base g n c : Nat} {S : Nat → ByteArray} (h : w.ownsRow base 9 1 (.slice (some ⟨g, 0, none⟩) n c) n (strs S n)) : Lst w (some ⟨g, 0, none⟩) n S := by
  refine .inr ⟨g, 0, rfl, (h.lt g rfl).2, fun i hi => ?_⟩
  rw [Nat.zero_add, h.cellAt i (by omega)]
  simp [strs, hi]

theorem f5_any (ao : Option Addr) (n c : Nat) (S : Nat → ByteArray) (w : World) (h : Lst w ao n S) : Calls Try.prog 5 #[.slice ao n c] w fun e w' => Fits n S e ∧ w' = w := by
  rcases h with rfl | ⟨b, off, rfl, _, hc⟩
  · exact f5_zero ao c S w
  · exact f5_row b off n c S w hc

theorem f6_any (ao : Option Addr) (n c : Nat) (S : Nat → ByteArray) (w : World) (hn : n ≤ 65536) (h : Lst w ao n S) : Calls Try.prog 6 #[.slice ao n c] w fun e w' => AnInt e ∧ w' = w := by
  rcases h with rfl | ⟨b, off, rfl, _, hc⟩
  · exact f6_zero ao c w
  · exact f6_row b off n c S w hn hc

theorem f9_any (ao ao' : Option Addr) (n c c' : Nat) (S : Nat → ByteArray) (w : World) (hn : n ≤ 65536) (h : Lst w ao n S) (h' : Lst w ao' n S) :
    Calls Try.prog 9 #[.slice ao n c, .slice ao' n c'] w fun e w' => e = .returned (.bool true) ∧ ∃ m, w' = w.drewN m := by
  rcases h with rfl | ⟨b, off, rfl, _, hc⟩
  · exact f9_zero ao ao' c c' w
  · rcases h' with rfl | ⟨b', off', rfl, _, hc'⟩
    · exact f9_zero _ ao' c c' w
    · exact f9_row b off c b' off' c' n S w hn hc hc'

theorem f7_any (ao ao' : Option Addr) (n c c' : Nat) (S : Nat → ByteArray) (B : Nat → Bool) (w : World) (hn : n ≤ 65536) (h : Lst w ao n S) (h' : n = 0 ∨ ∃ b off, ao' = some ⟨b, off, none⟩ ∧ b < w.heap.size ∧ ∀ i, i < n → w.cell? ⟨b, off + i, none⟩ = some (.bool (B i))) :
    Calls Try.prog 7 #[.slice ao n c, .slice ao' n c'] w fun e w' => e = .returned (.pointer (some ⟨w.heap.size + 1, 0, none⟩)) ∧ Terms w' (w.heap.size + 1) n S ∧ Below w.heap.size w w' := by
  rcases h with rfl | ⟨b, off, rfl, hb, hc⟩
  · exact f7_zero ao ao' c c' S w
  · rcases h' with rfl | ⟨b', off', rfl, hb', hc'⟩
    · exact f7_zero _ ao' c c' S w
    · exact f7_row b off c b' off' c' n S B w hn hc hc' hb hb'

theorem copy_strs {w : World} {base g n c : Nat} {ad : Addr} {S : Nat → ByteArray} {xs : List Value} (hown : w.ownsRow base 9 1 (.slice (some ⟨g, 0, none⟩) n n) n xs) (hs : Lst w (some ad) n S) :
    ∃ w2, (∀ ty, (Builtin.copy_ #[22, 22] ty #[.slice (some ⟨g, 0, none⟩) n n, .slice (some ad) n c]).run Try.prog w = .ok (goInt n) w2) ∧ w2.ownsRow base 9 1 (.slice (some ⟨g, 0, none⟩) n n) n (strs S n) ∧ w.grownBy w2 (some g) := by
  rcases hs with rfl | ⟨b, off, e, _, hc⟩
  · refine ⟨w, fun ty => run_copy_none (P := Try.prog) w 22 22 ty 9 _ _ 0 0 0 c Try.underlying22 (by kernel_rfl) (by simp), ?_, World.grownBy.refl _ _⟩
    have : xs = [] := List.eq_nil_of_length_eq_zero (by simpa using hown.1)
    subst this
    exact hown
  · cases e
    rcases hown.2 with ⟨h0, _⟩ | ⟨g', cap', cur, h', hb, hg, hnc, hcm, hcs, htake⟩
    · simp at h0
    · simp only [Value.slice.injEq, Option.some.injEq, Addr.mk.injEq, and_true, true_and] at h'
      obtain ⟨rfl, rfl⟩ := h'
      have hr := fun ty => run_copy_row (P := Try.prog) w 22 22 ty 9 g 0 n n ⟨b, off, none⟩ n c cur 9 (strs S n) Try.underlying22 (by kernel_rfl) hg (by simp [strs])
        (fun j v hj => by
          have hjn : j < n := by have := (List.getElem?_eq_some_iff.1 hj).1; simpa [strs] using this
          rw [Addr.add_lit, hc j hjn]
          simpa [strs, hjn] using hj)
        (by simp [strs, hcs]) (by intro v hv; simp [strs] at hv; obtain ⟨i, _, rfl⟩ := hv; rfl)
      rw [strs_length] at hr
      refine ⟨_, hr, ⟨by simp [strs], .inr ⟨g, n, _, rfl, hb, setRow_heap w g cur _ 9 _ hg, Nat.le_refl _, hcm, ?_, ?_⟩⟩, ⟨rfl, rfl, rfl, by simp, fun k _ hk => setRow_other w g k _ (fun e => hk (by simp [e]))⟩⟩
      · simp [strs, hcs]
      · simp [strs]

set_option maxHeartbeats 2000000 in
theorem walk1_some (ad : Addr) (n c : Nat) (S : Nat → ByteArray) (w : World) (h : Lst w (some ad) n S) :
    Calls Try.prog 3 #[.slice (some ad) n c] w fun e w' => e = .returned (.bool true) ∧ Below w.heap.size w w' := by
  obtain ⟨i0, hi, hz0, hz1, hz2⟩ := info_parts Try.info9
  obtain ⟨i4, hi4, hz04, hz14, hz24⟩ := info_parts Try.info4
  have hnil := fun (w : World) => run_neq_slice_nil_any (P := Try.prog) w 22 9 (some ad) n c 0 0 Try.underlying22
  go_enter Try.func3, Try.ntmps3
  go_wp2_with fail
  refine (f5_any (some ad) n c S _ h).mono ?_
  rintro e w' ⟨⟨r, rfl, _⟩, rfl⟩
  cases r
  · go_wp2
    go_ret
    exact ⟨rfl, Below.refl _ _⟩
  by_cases hn : (65536 : Int) < (n : Int)
  · go_wp2
    go_ret
    exact ⟨rfl, Below.refl _ _⟩
  go_wp2_with fail
  refine (f6_any (some ad) n c S _ (by omega) h).mono ?_
  rintro e w ⟨⟨z, rfl⟩, rfl⟩
  by_cases hz : (1048576 : Int) < z
  · go_wp2
    go_ret
    exact ⟨rfl, Below.refl _ _⟩
  have tok1 : True := trivial
  go_wp2_with (first | (at_make; have _t := tok1; refine wpList_make_full _ rfl _ _ 22 rfl w.heap.size 9 i0 (.string ⟨#[]⟩) 1 Try.underlying22 hi hz0 hz1 _ _ _ _ n rfl rfl rfl rfl (by rw [hz2]; omega) (by unfold maxLen; omega) (Nat.le_refl _) ?_; intro w1 hown1 hgrow1; clear tok1; obtain ⟨w2, hcp, hown2, hgrow2⟩ := copy_strs (c := c) hown1 (h.below ((Below.refl _ _).grown hgrow1 (Nat.le_refl _) (by simp)))) | (at_make; refine wpList_make_full _ rfl _ _ 27 rfl w2.heap.size 4 i4 (.bool false) 1 Try.underlying27 hi4 hz04 hz14 _ _ _ _ n rfl rfl rfl rfl (by rw [hz24]; omega) (by unfold maxLen; omega) (Nat.le_refl _) ?_; intro w3 hown3 hgrow3))
  have hB1 : Below w.heap.size w w1 := (Below.refl _ _).grown hgrow1 (Nat.le_refl _) (by simp)
  have hB2 : Below w.heap.size w w2 := hB1.grown hgrow2 hB1.size (by simp)
  have hB23 : Below w2.heap.size w2 w3 := (Below.refl _ _).grown hgrow3 (Nat.le_refl _) (by simp)
  have hL3 : Lst w3 (some ⟨w.heap.size, 0, none⟩) n S := (Lst.own hown2).below hB23
  have hb3 : n = 0 ∨ ∃ b off, (some ⟨w2.heap.size, 0, none⟩ : Option Addr) = some ⟨b, off, none⟩ ∧ b < w3.heap.size ∧ ∀ i, i < n → w3.cell? ⟨b, off + i, none⟩ = some (.bool ((fun _ => false) i)) :=
    .inr ⟨w2.heap.size, 0, rfl, (hown3.lt _ rfl).2, fun i hi => by rw [Nat.zero_add, hown3.cellAt i (by omega)]; simp [madeCells, hi, Value.cells, Nat.mod_one]⟩
  have hB3 : Below w.heap.size w w3 := hB2.trans (hB23.mono hB2.size)
  clear hown1 hgrow1 hgrow2 hcp hown3 hgrow3 hnil
  refine (f7_any _ _ n n n S (fun _ => false) w3 (by omega) hL3 hb3).mono ?_
  rintro e w4 ⟨rfl, hT4, hB34⟩
  go_wp2_with fail
  refine (f8_any _ n S w4 (by omega) hT4).mono ?_
  rintro e w5 ⟨rfl, hown5, hB45⟩
  have hL5 : Lst w5 (some ⟨w.heap.size, 0, none⟩) n S := (hL3.below hB34).below hB45
  have hB4 : Below w.heap.size w w4 := hB3.trans (hB34.mono hB3.size)
  have hB5 : Below w.heap.size w w5 := hB4.trans (hB45.mono hB4.size)
  go_wp2_with fail
  refine (f9_any _ _ n n n S w5 (by omega) (Lst.own hown5) hL5).mono ?_
  rintro e w6 ⟨rfl, m, rfl⟩
  go_wp2
  go_ret
  exact ⟨rfl, below_drewN hB5 m⟩

set_option maxHeartbeats 2000000 in
theorem walk1_nil (w : World) : Calls Try.prog 3 #[.slice none 0 0] w fun e w' => e = .returned (.bool true) ∧ Below w.heap.size w w' := by
  obtain ⟨i4, hi4, hz04, hz14, hz24⟩ := info_parts Try.info4
  have hnil := fun (w : World) => run_neq_slice_nil_any (P := Try.prog) w 22 9 none 0 0 0 0 Try.underlying22
  have h : ∀ (w : World), Lst w none 0 (fun _ => ByteArray.empty) := fun w => .inl rfl
  go_enter Try.func3, Try.ntmps3
  go_wp2_with fail
  refine (f5_any none 0 0 _ _ (h _)).mono ?_
  rintro e w' ⟨⟨r, rfl, _⟩, rfl⟩
  cases r
  · go_wp2
    go_ret
    exact ⟨rfl, Below.refl _ _⟩
  go_wp2_with fail
  refine (f6_any none 0 0 _ _ (by omega) (h _)).mono ?_
  rintro e w ⟨⟨z, rfl⟩, rfl⟩
  by_cases hz : (1048576 : Int) < z
  · go_wp2
    go_ret
    exact ⟨rfl, Below.refl _ _⟩
  go_wp2_with (at_make; refine wpList_make_full _ rfl _ _ 27 rfl w.heap.size 4 i4 (.bool false) 1 Try.underlying27 hi4 hz04 hz14 _ _ _ _ 0 rfl rfl rfl rfl (by rw [hz24]; omega) (by unfold maxLen; omega) (Nat.le_refl _) ?_; intro w3 hown3 hgrow3)
  have hB3 : Below w.heap.size w w3 := (Below.refl _ _).grown hgrow3 (Nat.le_refl _) (by simp)
  refine (f7_any _ _ 0 0 0 _ (fun _ => false) w3 (by omega) (h _) (.inl rfl)).mono ?_
  rintro e w4 ⟨rfl, hT4, hB34⟩
  go_wp2_with fail
  refine (f8_any _ 0 _ w4 (by omega) hT4).mono ?_
  rintro e w5 ⟨rfl, hown5, hB45⟩
  have hB4 : Below w.heap.size w w4 := hB3.trans (hB34.mono hB3.size)
  have hB5 : Below w.heap.size w w5 := hB4.trans (hB45.mono hB4.size)
  go_wp2_with fail
  refine (f9_any _ _ 0 0 0 _ w5 (by omega) (Lst.own hown5) (h _)).mono ?_
  rintro e w6 ⟨rfl, m, rfl⟩
  go_wp2
  go_ret
  exact ⟨rfl, below_drewN hB5 m⟩

end Go.Proofs.Qxb6612437a
