import Derived.Test.Qxb6612653aSumNil
import Derived.OpenShut
import Derived.ShutString
import Derived.ChangeOld
import Derived.Below
import Derived.Deep.Matrix
namespace Go.Proofs.Qxb6612653a.Third
open Go.ChangeShapes Go.WideShapes Go.ChangeAt Go.RowKit
set_option linter.unusedVariables false

theorem own : ownKnob Try.prog.godebug = none := by kernel_rfl
theorem laidOut : laidOutB Try.prog = true := by kernel_rfl
theorem cells38 : Try.prog.cellsOf 38 = 1 := by kernel_rfl
theorem cells21 : Try.prog.cellsOf 21 = 1 := by kernel_rfl
theorem cells3 : Try.prog.cellsOf 3 = 1 := by kernel_rfl

/-- From the table's reading to what the walk is told. -/
theorem opened {H : Type} {enc : TypeId × Value → H} {W : World} {fuel : Nat} {a0 : Option Addr} {len0 cap0 : Nat} {x : DataW H × List MemPlace}
    (hf : DataW.trod enc Try.prog W 0 (fun _ => true) true fuel 24 [.slice a0 len0 cap0] = some x) :
    ∃ rows : List (List Int), rows.length = len0 ∧ (∀ x, x ∈ rows.flatten → -2147483648 ≤ x ∧ x ≤ 2147483647) ∧ Came W a0 cap0 rows := by
  rcases Deep.open_int_rows Try.underlying24 Try.underlying38 Try.underlying21 cells38 cells21 hf with ⟨hcs, _⟩ | ⟨a, len, cap, A, L, C, Z, hcs, hb, hl, hm, hx, hcell⟩
  · simp at hcs
    obtain ⟨rfl, rfl, rfl⟩ := hcs
    exact ⟨[], rfl, by simp, .inl ⟨rfl, rfl, rfl⟩⟩
  · simp at hcs
    obtain ⟨rfl, rfl, rfl⟩ := hcs
    refine ⟨(List.range len0).map fun r => (Z r).take (L r), by simp, ?_, .inr ⟨a, rfl, ?_⟩⟩
    · intro x hx
      obtain ⟨l, hl1, hl2⟩ := List.mem_flatten.1 hx
      obtain ⟨r, hr, rfl⟩ := List.mem_map.1 hl1
      have hr' : r < len0 := List.mem_range.1 hr
      have hwf := (hcell r (by omega)).2.2.2.2.1 x (List.mem_of_mem_take hl2)
      exact bounds_i32 hwf
    · by_cases hz : len0 = 0
      · left; simp [hz]
      · right
        obtain ⟨b, off, spot⟩ := a
        have h00 := (hcell 0 (by omega)).1
        have hspot : spot = none := by simpa [Addr.add] using World.cell?_spot h00
        subst hspot
        refine ⟨b, off, rfl, ?_, fun r hr => ?_⟩
        · have := World.block_lt_of_cell? W _ h00
          simpa [Addr.add] using this
        · have hr' : r < len0 := by simpa using hr
          have e : row ((List.range len0).map fun r => (Z r).take (L r)) r = (Z r).take (L r) := by simp [row, hr']
          rw [e]
          obtain ⟨h1, h2, h3, h4, h5, h6, h7⟩ := hcell r (by omega)
          have el : ((Z r).take (L r)).length = L r := by rw [List.length_take, h4]; omega
          refine ⟨A r, C r, by rw [el, ← add_plain]; exact h1, ?_⟩
          by_cases hL : L r = 0
          · left; simp [hL]
          · right
            cases hA : A r with
            | none => have := h6 hA; omega
            | some a' =>
              obtain ⟨b', o', spot'⟩ := a'
              obtain ⟨_, hc'⟩ := h7 _ hA
              have h01 := hc' 0 (by omega)
              have hspot : spot' = none := by simpa [Addr.add] using World.cell?_spot h01
              subst hspot
              refine ⟨b', o', rfl, ?_, fun p hp => ?_⟩
              · have := World.block_lt_of_cell? W _ h01
                simpa [Addr.add] using this
              · rw [el] at hp
                rw [← add_plain, hc' p (by omega), List.getD_eq_getElem?_getD, List.getD_eq_getElem?_getD, List.getElem?_take, if_pos hp]

theorem openedInts {H : Type} {enc : TypeId × Value → H} {W : World} {fuel : Nat} {a0 : Option Addr} {len0 cap0 : Nat} {x : DataW H × List MemPlace}
    (hf : DataW.trod enc Try.prog W 0 (fun _ => true) true fuel 25 [.slice a0 len0 cap0] = some x) : Ints W a0 len0 cap0 := by
  rcases open_ints Try.underlying25 Try.underlying3 cells3 hf with ⟨hcs, _⟩ | ⟨a, l, c, zs, hcs, _, hl, hm, hz, _, hcell, hwz⟩
  · simp at hcs
    obtain ⟨rfl, rfl, rfl⟩ := hcs
    exact .inl ⟨rfl, rfl, rfl⟩
  · simp at hcs
    obtain ⟨rfl, rfl, rfl⟩ := hcs
    simp only [if_true] at hz
    refine .inr ⟨a, rfl, ?_⟩
    by_cases h0 : len0 = 0
    · exact .inl h0
    · obtain ⟨b, off, spot⟩ := a
      have h00 := hcell 0 (by omega)
      have hspot : spot = none := by simpa [Addr.add] using World.cell?_spot h00
      subst hspot
      refine .inr ⟨b, off, fun i => zs.getD i 0, rfl, ?_, fun i hi => ?_⟩
      · have := World.block_lt_of_cell? W _ h00
        simpa [Addr.add] using this
      · rw [← add_plain]; exact hcell i (by omega)

set_option maxRecDepth 100000 in
theorem lifted (os : Os) (started : os.Started) (H : Type) (enc : TypeId × Value → H) :
    ReturnsInHanded {} Try.checked os 5 .any (Rows.fnHoldingAddsUpOverAnyRowCutSpec.pre6 enc Try.prog Try.f5 Rows.fnHoldingAddsUpOverAnyRowCutRow.domain false) (Rows.fnHoldingAddsUpOverAnyRowCutSpec.post enc Try.prog Try.f5 false true false false) := by
  refine returnsInHanded_of_change (C := Try.checked) own started (by kernel_rfl) Try.func5
    (ChangeSpec.witness6 (enc := enc) (C := Try.checked) false ⟨#[], #[.slice none 0 0, .slice none 0 0, .int .i64 0], []⟩ 8 (by kernel_rfl) (by kernel_rfl) (by kernel_rfl) (by kernel_rfl)) ?_
  intro W base args ds gs before hval0 hW hcnd _
  have hval : ∀ (j : Nat) t v, Try.f5.params[j]? = some t → args[j]? = some v → Value.okWide Try.prog W .any base t v := hval0
  have hW' := hW
  obtain ⟨p, q, hA0, hV, rfl, hfz, hnd⟩ := hW
  have hA : DataW.TrodAll enc Try.prog W 0 (fun _ => true) true Try.f5.params.toList args.toList ds p := hA0
  rw [Try.params5] at hA hval
  obtain ⟨v0, vs0, d0, ds0, p0, q0, hargs, rfl, rfl, h0, r0⟩ := trodAll_cons hA
  obtain ⟨v1, vs1, d1, ds1, p1, q1, rfl, rfl, rfl, h1, r1⟩ := trodAll_cons r0
  obtain ⟨v2, vs2, d2, ds2, p2, q2, rfl, rfl, rfl, h2, r2⟩ := trodAll_cons r1
  obtain ⟨rfl, rfl, rfl⟩ := trodAll_nil r2
  obtain rfl : args = #[v0, v1, v2] := by cases args; simp_all
  obtain ⟨rfl, rfl⟩ := trodVars_none hV
  obtain ⟨a0, len0, cap0, rfl⟩ := okWide_slice Try.underlying24 (hval 0 24 v0 rfl rfl)
  have k0 := h0
  have lt0 : ∀ x ∈ p0, x.block < W.heap.size := by obtain ⟨m, hm⟩ := k0; exact DataW.trod_lt m _ _ _ hm
  obtain ⟨a1, len1, cap1, rfl⟩ := okWide_slice Try.underlying25 (hval 1 25 v1 rfl rfl)
  have k1 := h1
  have lt1 : ∀ x ∈ p1, x.block < W.heap.size := by obtain ⟨m, hm⟩ := k1; exact DataW.trod_lt m _ _ _ hm
  obtain ⟨a2, rfl, rfl, rfl, w2⟩ := open_int Try.underlying3 (hval 2 3 v2 rfl rfl) h2
  have hwalk : Calls Try.prog 5 #[.slice a0 len0 cap0, .slice a1 len1 cap1, .int .i64 a2] W fun e w' => e = .returned (.bool true) ∧ Below W.heap.size W w' := by
    obtain ⟨fuel, hf⟩ := h0
    obtain ⟨fuel1, hf1⟩ := h1
    obtain ⟨rows, hlen, hw, hcame⟩ := opened (by simpa [Value.cells] using hf)
    have hints := openedInts (by simpa [Value.cells] using hf1)
    rw [← hlen]
    exact walk5_any a0 a1 cap0 len1 cap1 a2 rows W hw hcame hints
  clear hA0 hval0
  refine hwalk.mono fun e W' ⟨he, bel⟩ => ?_
  subst he
  exact ⟨_, rfl, _, _, _, [], _, [], hW', trodAll_mk1 (shut_bool Try.underlying4 _), (trodAll_cons_mk (Below.trod laidOut (by kernel_rfl) (of_decide_eq_true (by kernel_rfl)) k0 bel lt0) (trodAll_cons_mk (Below.trod laidOut (by kernel_rfl) (of_decide_eq_true (by kernel_rfl)) k1 bel lt1) (trodAll_cons_mk (shut_int Try.underlying3 w2) trodAll_mk0))), rfl, bel.frame _, fun h => by cases h⟩

theorem over : Rows.fnHoldingAddsUpOverAnyRowCutRow.holds Try.pinned (OpenSpec.ofChange Rows.fnHoldingAddsUpOverAnyRowCutSpec) :=
  OpenClaim.holds_of_wide 5 Try.f5 rfl rfl rfl rfl rfl rfl rfl ⟨rfl, rfl, rfl, rfl, rfl⟩ rfl rfl rfl rfl rfl (by kernel_rfl) Try.func5 (by kernel_rfl)
    (of_decide_eq_true (by kernel_rfl)) (by unfold Func.isWrapper; first | (rw [if_pos (by decide +kernel)]; kernel_rfl) | (rw [if_neg (by decide +kernel)]; exact ⟨rfl, rfl⟩))
    (fun os started H enc _ => lifted os started H enc)

end Go.Proofs.Qxb6612653a.Third
namespace Go.Proofs.Qxb6612653a
theorem proved3 : Rows.FnHoldingAddsUpOverAnyRowCutSaid := Third.over
end Go.Proofs.Qxb6612653a
