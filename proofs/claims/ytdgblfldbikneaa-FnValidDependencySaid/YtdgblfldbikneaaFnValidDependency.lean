/- FnValidDependency: a dependency is right if there is one, and its alias has letters, digits, _ and - alone; the white space in its texts is made blanks, and what is not printed is taken out. For every value of its parameters. -/
import Derived.Test.YtdgblfldbikneaaRows
import Derived.Test.YtdgblfldbikneaaA12
import Derived.Test.YtdgblfldbikneaaOq
import Derived.Test.YtdgblfldbikneaaTy
import Derived.WalkKit
import Derived.ProofKit
import Derived.OpenShut
import Derived.ShutString
import Derived.ChangeOld
import Derived.Below
import Derived.SizedLaws
import Derived.SliceStrings
namespace Go.Proofs.Ytdgblfldbikneaa.fnValidDependency
open Go.ChangeShapes Go.WideShapes Go.ChangeAt Go.RowKit
open Go.ChangeMaps (open_string shut_string)
set_option linter.unusedVariables false
theorem own : ownKnob Try.prog.godebug = none := by kernel_rfl
theorem laidOut : laidOutB Try.prog = true := by kernel_rfl
set_option maxRecDepth 100000 in
theorem lifted (os : Os) (started : os.Started) (H : Type) (enc : TypeId × Value → H) :
    ReturnsInHanded {} Try.checked os 12 .any (Rows.fnValidDependencySpec.pre6 enc Try.prog Try.f12 Rows.fnValidDependencyRow.domain false) (Rows.fnValidDependencySpec.post enc Try.prog Try.f12 false true false false) := by
  refine returnsInHanded_of_change_sized (C := Try.checked) own started (by kernel_rfl) Try.func12
    (ChangeSpec.witness6 (enc := enc) (C := Try.checked) false ⟨#[], #[.agg #[.bool false, .string ByteArray.empty, .string ByteArray.empty, .string ByteArray.empty, .string ByteArray.empty, .slice none 0 0, .string ByteArray.empty]], []⟩ 8 (by kernel_rfl) (by kernel_rfl) (by kernel_rfl) (by kernel_rfl)) ?_
  intro W base args ds gs before hval0 hW hcnd hsz0 _
  have hval : ∀ (j : Nat) t v, Try.f12.params[j]? = some t → args[j]? = some v → Value.okWide Try.prog W .any base t v := hval0
  have hW' := hW
  obtain ⟨p, q, hA0, hV, rfl, hfz, hnd⟩ := hW
  have hA : DataW.TrodAll enc Try.prog W 0 (fun _ => true) true Try.f12.params.toList args.toList ds p := hA0
  rw [Try.params12] at hA hval
  obtain ⟨v0, vs0, d0, ds0, p0, q0, hargs, rfl, rfl, h0, r0⟩ := trodAll_cons hA
  obtain ⟨rfl, rfl, rfl⟩ := trodAll_nil r0
  obtain rfl : args = #[v0] := by cases args; simp_all
  obtain ⟨rfl, rfl⟩ := trodVars_none hV
  have k0 := h0
  have lt0 : ∀ x ∈ p0, x.block < W.heap.size := by obtain ⟨m, hm⟩ := k0; exact DataW.trod_lt m _ _ _ hm
  obtain ⟨x0, rfl, u0⟩ : ∃ x : Ty79, v0 = .agg x.cells.toArray ∧ x.ok W := by
    obtain ⟨cs, rfl, _⟩ := okWide_struct Try.underlying79 (hval 0 79 v0 rfl rfl)
    obtain ⟨fuel, hf⟩ := h0
    obtain ⟨x, e, o⟩ := openT79 cs.toList ⟨fuel, _, hf⟩
    exact ⟨x, by rw [← e], o⟩
  clear hA0 hval0 hsz0
  refine (fnValidDependency_walk x0 W u0).mono fun e W' ⟨he, bel⟩ => ?_
  subst he
  exact ⟨_, rfl, _, _, _, [], _, [], hW', trodAll_mk1 (shut_bool Try.underlying4 _), (trodAll_cons_mk (Below.trod laidOut (by kernel_rfl) (of_decide_eq_true (by kernel_rfl)) k0 bel lt0) trodAll_mk0), rfl, bel.frame _, fun h => by cases h⟩
theorem over : Rows.fnValidDependencyRow.holds Try.pinned (OpenSpec.ofChange Rows.fnValidDependencySpec) :=
  OpenClaim.holds_of_wide 12 Try.f12 rfl rfl rfl rfl rfl rfl rfl ⟨rfl, rfl, rfl, rfl, rfl⟩ rfl rfl rfl rfl rfl (by kernel_rfl) Try.func12 (by kernel_rfl)
    (of_decide_eq_true (by kernel_rfl)) (by unfold Func.isWrapper; first | (rw [if_pos (by decide +kernel)]; kernel_rfl) | (rw [if_neg (by decide +kernel)]; exact ⟨rfl, rfl⟩))
    (fun os started H enc _ => lifted os started H enc)
theorem proved : Rows.FnValidDependencySaid := over
end Go.Proofs.Ytdgblfldbikneaa.fnValidDependency
namespace Go.Proofs.Ytdgblfldbikneaa
/-- The row, under a short name, for the claim. -/
theorem fnValidDependency_holds : Rows.FnValidDependencySaid := fnValidDependency.proved
end Go.Proofs.Ytdgblfldbikneaa
