/- The files that define resources are those in crds/ with an extension of YAML or JSON, in either case, of the chart and then of each chart below it; each is also told behind the full path of its chart: FnChartCRDs answers true at every chart. -/
import Derived.Test.YtkjcedlgljeoiaaDte
import Derived.Test.YtkjcedlgljeoiaaRows
import Derived.WalkKit
import Derived.ProofKit
import Derived.OpenShut
import Derived.ShutString
import Derived.ChangeOld
import Derived.Below
import Derived.SizedLaws
import Derived.SliceStrings
namespace Go.Proofs.Ytkjcedlgljeoiaa.fnChartCRDs
open Go.ChangeShapes Go.WideShapes Go.ChangeAt Go.RowKit
open Go.ChangeMaps (open_string shut_string)
set_option linter.unusedVariables false
theorem own : ownKnob Try.prog.godebug = none := by kernel_rfl
theorem laidOut : laidOutB Try.prog = true := by kernel_rfl
set_option maxRecDepth 100000 in
theorem lifted (os : Os) (started : os.Started) (H : Type) (enc : TypeId × Value → H) :
    ReturnsInHanded {} Try.checked os 10 .any (Rows.fnChartCRDsSpec.pre6 enc Try.prog Try.f10 Rows.fnChartCRDsRow.domain false) (Rows.fnChartCRDsSpec.post enc Try.prog Try.f10 false true false false) := by
  refine returnsInHanded_of_change_sized (C := Try.checked) own started (by kernel_rfl) Try.func10
    (ChangeSpec.witness6 (enc := enc) (C := Try.checked) false ⟨#[], #[.agg #[.bool false, .string ByteArray.empty, .string ByteArray.empty, .string ByteArray.empty, .string ByteArray.empty, .string ByteArray.empty, .string ByteArray.empty, .string ByteArray.empty, .string ByteArray.empty, .string ByteArray.empty, .string ByteArray.empty, .string ByteArray.empty, .slice none 0 0, .slice none 0 0, .slice none 0 0, .slice none 0 0, .slice none 0 0, .slice none 0 0]], []⟩ 8 (by kernel_rfl) (by kernel_rfl) (by kernel_rfl) (by kernel_rfl)) ?_
  intro W base args ds gs before hval0 hW hcnd hsz0 _
  have hval : ∀ (j : Nat) t v, Try.f10.params[j]? = some t → args[j]? = some v → Value.okWide Try.prog W .any base t v := hval0
  have hW' := hW
  obtain ⟨p, q, hA0, hV, rfl, hfz, hnd⟩ := hW
  have hA : DataW.TrodAll enc Try.prog W 0 (fun _ => true) true Try.f10.params.toList args.toList ds p := hA0
  rw [Try.params10] at hA hval
  obtain ⟨v0, vs0, d0, ds0, p0, q0, hargs, rfl, rfl, h0, r0⟩ := trodAll_cons hA
  obtain ⟨rfl, rfl, rfl⟩ := trodAll_nil r0
  obtain rfl : args = #[v0] := by cases args; simp_all
  obtain ⟨rfl, rfl⟩ := trodVars_none hV
  have k0 := h0
  have lt0 : ∀ x ∈ p0, x.block < W.heap.size := by obtain ⟨m, hm⟩ := k0; exact DataW.trod_lt m _ _ _ hm
  obtain ⟨x0, rfl, u0⟩ : ∃ x : Ty30, v0 = .agg x.cells.toArray ∧ x.ok W := by
    obtain ⟨cs, rfl, _⟩ := okWide_struct Try.underlying30 (hval 0 30 v0 rfl rfl)
    obtain ⟨fuel, hf⟩ := h0
    obtain ⟨x, e, o⟩ := openT30 cs.toList ⟨fuel, _, hf⟩
    exact ⟨x, by rw [← e], o⟩
  clear hA0 hval0 hsz0
  refine (fnChartCRDs_walk x0 W u0).mono fun e W' ⟨he, bel⟩ => ?_
  subst he
  exact ⟨_, rfl, _, _, _, [], _, [], hW', trodAll_mk1 (shut_bool Try.underlying4 _), (trodAll_cons_mk (Below.trod laidOut (by kernel_rfl) (of_decide_eq_true (by kernel_rfl)) k0 bel lt0) trodAll_mk0), rfl, bel.frame _, fun h => by cases h⟩
theorem named_ : Try.pinned.checked.prog.funcNamed Rows.fnChartCRDsRow.func = some 10 := by kernel_rfl
theorem facts_ : joinedFacts Try.pinned.checked.prog 10 Try.f10 Rows.fnChartCRDsSpec Rows.fnChartCRDsRow = true := by kernel_rfl
theorem inst_ : Try.f10.isInstance Try.pinned.checked.prog Rows.fnChartCRDsRow.origin Rows.fnChartCRDsRow.targs := of_decide_eq_true (by kernel_rfl)
theorem wrap_ : Try.f10.isWrapper Try.pinned.checked.prog Rows.fnChartCRDsRow.wrapper Rows.fnChartCRDsRow.mainSum := by unfold Func.isWrapper; first | (rw [if_pos (by decide +kernel)]; kernel_rfl) | (rw [if_neg (by decide +kernel)]; exact ⟨rfl, rfl⟩)
theorem over : Rows.fnChartCRDsRow.holds Try.pinned (OpenSpec.ofChange Rows.fnChartCRDsSpec) :=
  OpenClaim.holds_of_wide 10 Try.f10 rfl rfl rfl rfl rfl rfl rfl ⟨rfl, rfl, rfl, rfl, rfl⟩ rfl rfl rfl rfl rfl named_ Try.func10 facts_
    inst_ wrap_
    (fun os started H enc _ => lifted os started H enc)
theorem proved : Rows.FnChartCRDsSaid := over
end Go.Proofs.Ytkjcedlgljeoiaa.fnChartCRDs
namespace Go.Proofs.Ytkjcedlgljeoiaa
/-- The row, under a short name, for the claim. -/
theorem fnChartCRDs_holds : Rows.FnChartCRDsSaid := fnChartCRDs.proved
end Go.Proofs.Ytkjcedlgljeoiaa
