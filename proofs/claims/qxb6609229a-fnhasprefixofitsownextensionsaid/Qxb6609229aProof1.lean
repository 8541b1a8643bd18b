import Derived.Test.Qxb6609229aLaw
import Derived.OpenShut
import Derived.ShutString
import Derived.ChangeOld
import Derived.Below
import Derived.Deep.SlicePairs
namespace Go.Proofs.Qxb6609229a.First
open Go.ChangeShapes Go.WideShapes Go.ChangeAt Go.RowKit
set_option linter.unusedVariables false

theorem own : ownKnob Try.prog.godebug = none := by kernel_rfl
theorem laidOut : laidOutB Try.prog = true := by kernel_rfl
theorem cells9 : Try.prog.cellsOf 9 = 1 := by kernel_rfl
theorem cells4 : Try.prog.cellsOf 4 = 1 := by kernel_rfl
theorem cells38 : Try.prog.cellsOf 38 = 2 := by kernel_rfl

/-- From an argument's reading to what the walk is told. -/
theorem opened {H : Type} {enc : TypeId × Value → H} {W : World} {fuel : Nat} {a0 : Option Addr} {len0 cap0 : Nat} {x : DataW H × List MemPlace}
    (hf : DataW.trod enc Try.prog W 0 (fun _ => true) true fuel 22 [.slice a0 len0 cap0] = some x) : ∃ S B, Came W a0 len0 cap0 S B := by
  rcases Deep.open_slice_pairs Try.underlying22 Try.underlying38 cells38 rfl rfl cells9 cells4 hf with ⟨hcs, _⟩ | ⟨a, len, cap, m, n, V0, V1, D0, D1, P0, P1, hcs, hb, hl, hm, hmm, hx, hcell⟩
  · simp at hcs
    obtain ⟨rfl, rfl, rfl⟩ := hcs
    exact ⟨fun _ => ByteArray.empty, fun _ => false, .inl ⟨rfl, rfl, rfl⟩⟩
  · simp at hcs
    obtain ⟨rfl, rfl, rfl⟩ := hcs
    simp only [if_true] at hmm
    by_cases hz : len0 = 0
    · exact ⟨fun _ => ByteArray.empty, fun _ => false, .inr ⟨a, rfl, .inl hz⟩⟩
    · obtain ⟨b, off, spot⟩ := a
      have h00 := (hcell 0 (by omega)).1
      have hspot : spot = none := by simpa [Addr.add] using World.cell?_spot h00
      subst hspot
      have each : ∀ i, i < m → ∃ q : ByteArray × Bool, V0 i = .string q.1 ∧ V1 i = .bool q.2 := fun i hi => by
        obtain ⟨_, _, t0, t1⟩ := hcell i hi
        obtain ⟨s, e0, _, _⟩ := DataW.trod_string Try.underlying9 t0
        obtain ⟨y, e1, _⟩ := DataW.trod_bool Try.underlying4 t1
        exact ⟨(s, y), by simpa using e0, by simpa using e1⟩
      obtain ⟨q, hq⟩ := Deep.choose_lt each
      refine ⟨fun i => (q i).1, fun i => (q i).2, .inr ⟨_, rfl, .inr ⟨b, off, rfl, ?_, fun i hi => ?_, fun i hi => ?_⟩⟩⟩
      · have := World.block_lt_of_cell? W _ h00
        simpa [Addr.add] using this
      · rw [← add_plain, (hcell i (by omega)).1, (hq i (by omega)).1]
      · rw [Nat.add_assoc, ← add_plain, (hcell i (by omega)).2.1, (hq i (by omega)).2]

set_option maxRecDepth 100000 in
theorem lifted (os : Os) (started : os.Started) (H : Type) (enc : TypeId × Value → H) :
    ReturnsInHanded {} Try.checked os 3 .any (Rows.fnHasPrefixOfItsOwnExtensionSpec.pre6 enc Try.prog Try.f3 Rows.fnHasPrefixOfItsOwnExtensionRow.domain false) (Rows.fnHasPrefixOfItsOwnExtensionSpec.post enc Try.prog Try.f3 false true false false) := by
  refine returnsInHanded_of_change (C := Try.checked) own started (by kernel_rfl) Try.func3
    (ChangeSpec.witness6 (enc := enc) (C := Try.checked) false ⟨#[], #[.slice none 0 0, .slice none 0 0], []⟩ 8 (by kernel_rfl) (by kernel_rfl) (by kernel_rfl) (by kernel_rfl)) ?_
  intro W base args ds gs before hval0 hW hcnd _
  have hval : ∀ (j : Nat) t v, Try.f3.params[j]? = some t → args[j]? = some v → Value.okWide Try.prog W .any base t v := hval0
  have hW' := hW
  obtain ⟨p, q, hA0, hV, rfl, hfz, hnd⟩ := hW
  have hA : DataW.TrodAll enc Try.prog W 0 (fun _ => true) true Try.f3.params.toList args.toList ds p := hA0
  rw [Try.params3] at hA hval
  obtain ⟨v0, vs0, d0, ds0, p0, q0, hargs, rfl, rfl, h0, r0⟩ := trodAll_cons hA
  obtain ⟨v1, vs1, d1, ds1, p1, q1, rfl, rfl, rfl, h1, r1⟩ := trodAll_cons r0
  obtain ⟨rfl, rfl, rfl⟩ := trodAll_nil r1
  obtain rfl : args = #[v0, v1] := by cases args; simp_all
  obtain ⟨rfl, rfl⟩ := trodVars_none hV
  obtain ⟨a0, len0, cap0, rfl⟩ := okWide_slice Try.underlying22 (hval 0 22 v0 rfl rfl)
  have k0 := h0
  have lt0 : ∀ x ∈ p0, x.block < W.heap.size := by obtain ⟨m, hm⟩ := k0; exact DataW.trod_lt m _ _ _ hm
  obtain ⟨a1, len1, cap1, rfl⟩ := okWide_slice Try.underlying22 (hval 1 22 v1 rfl rfl)
  have k1 := h1
  have lt1 : ∀ x ∈ p1, x.block < W.heap.size := by obtain ⟨m, hm⟩ := k1; exact DataW.trod_lt m _ _ _ hm
  have hwalk : Calls Try.prog 3 #[.slice a0 len0 cap0, .slice a1 len1 cap1] W fun e w' => e = .returned (.bool true) ∧ Below W.heap.size W w' := by
    obtain ⟨fuel, hf⟩ := h0
    obtain ⟨fuel1, hf1⟩ := h1
    obtain ⟨S0, B0, hc0⟩ := opened (by simpa [Value.cells] using hf)
    obtain ⟨S1, B1, hc1⟩ := opened (by simpa [Value.cells] using hf1)
    exact walk3_any a0 a1 len0 len1 cap0 cap1 S0 S1 B0 B1 W hc0 hc1
  clear hA0 hval0
  refine hwalk.mono fun e W' ⟨he, bel⟩ => ?_
  subst he
  exact ⟨_, rfl, _, _, _, [], _, [], hW', trodAll_mk1 (shut_bool Try.underlying4 _), (trodAll_cons_mk (Below.trod laidOut (by kernel_rfl) (of_decide_eq_true (by kernel_rfl)) k0 bel lt0) (trodAll_cons_mk (Below.trod laidOut (by kernel_rfl) (of_decide_eq_true (by kernel_rfl)) k1 bel lt1) trodAll_mk0)), rfl, bel.frame _, fun h => by cases h⟩

theorem over : Rows.fnHasPrefixOfItsOwnExtensionRow.holds Try.pinned (OpenSpec.ofChange Rows.fnHasPrefixOfItsOwnExtensionSpec) :=
  OpenClaim.holds_of_wide 3 Try.f3 rfl rfl rfl rfl rfl rfl rfl ⟨rfl, rfl, rfl, rfl, rfl⟩ rfl rfl rfl rfl rfl (by kernel_rfl) Try.func3 (by kernel_rfl)
    (of_decide_eq_true (by kernel_rfl)) (by unfold Func.isWrapper; first | (rw [if_pos (by decide +kernel)]; kernel_rfl) | (rw [if_neg (by decide +kernel)]; exact ⟨rfl, rfl⟩))
    (fun os started H enc _ => lifted os started H enc)

end Go.Proofs.Qxb6609229a.First
namespace Go.Proofs.Qxb6609229a
theorem proved1 : Rows.FnHasPrefixOfItsOwnExtensionSaid := First.over
end Go.Proofs.Qxb6609229a
