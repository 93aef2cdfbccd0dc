/- The charts that lie in a chart and are not in its metadata are told, those that its metadata have twice, and those that are in its metadata alone: FnHlLintDependencies answers true at every two lists of texts. -/
import Derived.Test.YtkjcedlgljeoiaaMkd
import Derived.Test.YtkjcedlgljeoiaaRows
import Derived.WalkKit
import Derived.ProofKit
import Derived.OpenShut
import Derived.ShutString
import Derived.ChangeOld
import Derived.Below
import Derived.SizedLaws
import Derived.SliceStrings
namespace Go.Proofs.Ytkjcedlgljeoiaa.fnHlLintDependencies
open Go.ChangeShapes Go.WideShapes Go.ChangeAt Go.RowKit
open Go.ChangeMaps (open_string shut_string)
set_option linter.unusedVariables false
theorem own : ownKnob Try.prog.godebug = none := by kernel_rfl
theorem laidOut : laidOutB Try.prog = true := by kernel_rfl
set_option maxRecDepth 100000 in
theorem lifted (os : Os) (started : os.Started) (H : Type) (enc : TypeId × Value → H) :
    ReturnsInHanded {} Try.checked os 9 .any (Rows.fnHlLintDependenciesSpec.pre6 enc Try.prog Try.f9 Rows.fnHlLintDependenciesRow.domain false) (Rows.fnHlLintDependenciesSpec.post enc Try.prog Try.f9 false true false false) := by
  refine returnsInHanded_of_change_sized (C := Try.checked) own started (by kernel_rfl) Try.func9
    (ChangeSpec.witness6 (enc := enc) (C := Try.checked) false ⟨#[], #[.slice none 0 0, .slice none 0 0], []⟩ 8 (by kernel_rfl) (by kernel_rfl) (by kernel_rfl) (by kernel_rfl)) ?_
  intro W base args ds gs before hval0 hW hcnd hsz0 _
  have hval : ∀ (j : Nat) t v, Try.f9.params[j]? = some t → args[j]? = some v → Value.okWide Try.prog W .any base t v := hval0
  have hW' := hW
  obtain ⟨p, q, hA0, hV, rfl, hfz, hnd⟩ := hW
  have hA : DataW.TrodAll enc Try.prog W 0 (fun _ => true) true Try.f9.params.toList args.toList ds p := hA0
  rw [Try.params9] at hA hval
  obtain ⟨v0, vs0, d0, ds0, p0, q0, hargs, rfl, rfl, h0, r0⟩ := trodAll_cons hA
  obtain ⟨v1, vs1, d1, ds1, p1, q1, rfl, rfl, rfl, h1, r1⟩ := trodAll_cons r0
  obtain ⟨rfl, rfl, rfl⟩ := trodAll_nil r1
  obtain rfl : args = #[v0, v1] := by cases args; simp_all
  obtain ⟨rfl, rfl⟩ := trodVars_none hV
  have k0 := h0
  have lt0 : ∀ x ∈ p0, x.block < W.heap.size := by obtain ⟨m, hm⟩ := k0; exact DataW.trod_lt m _ _ _ hm
  obtain ⟨a0, c0, x0, rfl, y0, z0⟩ : ∃ a c, ∃ xs : List ByteArray, v0 = .slice a xs.length c ∧ Sl W a (xs.map Value.string) ∧ xs.length ≤ c := by
    obtain ⟨a0, len, cap, rfl⟩ := okWide_slice Try.underlying22 (hval 0 22 v0 rfl rfl)
    obtain ⟨fuel, hf⟩ := h0
    exact sl_of_strings2 (open_strings Try.underlying22 Try.underlying9 (by kernel_rfl) hf)
  have k1 := h1
  have lt1 : ∀ x ∈ p1, x.block < W.heap.size := by obtain ⟨m, hm⟩ := k1; exact DataW.trod_lt m _ _ _ hm
  obtain ⟨a1, c1, x1, rfl, y1, z1⟩ : ∃ a c, ∃ xs : List ByteArray, v1 = .slice a xs.length c ∧ Sl W a (xs.map Value.string) ∧ xs.length ≤ c := by
    obtain ⟨a0, len, cap, rfl⟩ := okWide_slice Try.underlying22 (hval 1 22 v1 rfl rfl)
    obtain ⟨fuel, hf⟩ := h1
    exact sl_of_strings2 (open_strings Try.underlying22 Try.underlying9 (by kernel_rfl) hf)
  clear hA0 hval0 hsz0
  refine (fnHlLintDependencies_walk a0 c0 x0 a1 c1 x1 W y0 z0 y1 z1).mono fun e W' ⟨he, bel⟩ => ?_
  subst he
  exact ⟨_, rfl, _, _, _, [], _, [], hW', trodAll_mk1 (shut_bool Try.underlying4 _), (trodAll_cons_mk (Below.trod laidOut (by kernel_rfl) (of_decide_eq_true (by kernel_rfl)) k0 bel lt0) (trodAll_cons_mk (Below.trod laidOut (by kernel_rfl) (of_decide_eq_true (by kernel_rfl)) k1 bel lt1) trodAll_mk0)), rfl, bel.frame _, fun h => by cases h⟩
theorem named_ : Try.pinned.checked.prog.funcNamed Rows.fnHlLintDependenciesRow.func = some 9 := by kernel_rfl
theorem facts_ : joinedFacts Try.pinned.checked.prog 9 Try.f9 Rows.fnHlLintDependenciesSpec Rows.fnHlLintDependenciesRow = true := by kernel_rfl
theorem inst_ : Try.f9.isInstance Try.pinned.checked.prog Rows.fnHlLintDependenciesRow.origin Rows.fnHlLintDependenciesRow.targs := of_decide_eq_true (by kernel_rfl)
theorem wrap_ : Try.f9.isWrapper Try.pinned.checked.prog Rows.fnHlLintDependenciesRow.wrapper Rows.fnHlLintDependenciesRow.mainSum := by unfold Func.isWrapper; first | (rw [if_pos (by decide +kernel)]; kernel_rfl) | (rw [if_neg (by decide +kernel)]; exact ⟨rfl, rfl⟩)
theorem over : Rows.fnHlLintDependenciesRow.holds Try.pinned (OpenSpec.ofChange Rows.fnHlLintDependenciesSpec) :=
  OpenClaim.holds_of_wide 9 Try.f9 rfl rfl rfl rfl rfl rfl rfl ⟨rfl, rfl, rfl, rfl, rfl⟩ rfl rfl rfl rfl rfl named_ Try.func9 facts_
    inst_ wrap_
    (fun os started H enc _ => lifted os started H enc)
theorem proved : Rows.FnHlLintDependenciesSaid := over
end Go.Proofs.Ytkjcedlgljeoiaa.fnHlLintDependencies
namespace Go.Proofs.Ytkjcedlgljeoiaa
/-- The row, under a short name, for the claim. -/
theorem fnHlLintDependencies_holds : Rows.FnHlLintDependenciesSaid := fnHlLintDependencies.proved
end Go.Proofs.Ytkjcedlgljeoiaa
