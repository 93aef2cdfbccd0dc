/- A list of repositories has those that were added, in their order, updated ones in the place of the first one of their name or behind all, and removed ones are gone, for all steps. -/
import Derived.Test.YtkjcedlgljeoiaaRows
import Derived.Test.YtkjcedlgljeoiaaRP8
import Derived.Test.YtkjcedlgljeoiaaOq
import Derived.Test.YtkjcedlgljeoiaaTy
import Derived.WalkKit
import Derived.ProofKit
import Derived.OpenShut
import Derived.ShutString
import Derived.ChangeOld
import Derived.Below
import Derived.SizedLaws
import Derived.SliceStrings
namespace Go.Proofs.Ytkjcedlgljeoiaa.fnHlRepos
open Go.ChangeShapes Go.WideShapes Go.ChangeAt Go.RowKit
open Go.ChangeMaps (open_string shut_string)
set_option linter.unusedVariables false
theorem own : ownKnob Try.prog.godebug = none := by kernel_rfl
theorem laidOut : laidOutB Try.prog = true := by kernel_rfl
set_option maxRecDepth 100000 in
theorem lifted (os : Os) (started : os.Started) (H : Type) (enc : TypeId × Value → H) :
    ReturnsInHanded {} Try.checked os 5 .any (Rows.fnHlReposSpec.pre6 enc Try.prog Try.f5 Rows.fnHlReposRow.domain false) (Rows.fnHlReposSpec.post enc Try.prog Try.f5 false true false false) := by
  refine returnsInHanded_of_change_sized (C := Try.checked) own started (by kernel_rfl) Try.func5
    (ChangeSpec.witness6 (enc := enc) (C := Try.checked) false ⟨#[], #[.slice none 0 0], []⟩ 8 (by kernel_rfl) (by kernel_rfl) (by kernel_rfl) (by kernel_rfl)) ?_
  intro W base args ds gs before hval0 hW hcnd hsz0 _
  have hval : ∀ (j : Nat) t v, Try.f5.params[j]? = some t → args[j]? = some v → Value.okWide Try.prog W .any base t v := hval0
  have hW' := hW
  obtain ⟨p, q, hA0, hV, rfl, hfz, hnd⟩ := hW
  have hA : DataW.TrodAll enc Try.prog W 0 (fun _ => true) true Try.f5.params.toList args.toList ds p := hA0
  rw [Try.params5] at hA hval
  obtain ⟨v0, vs0, d0, ds0, p0, q0, hargs, rfl, rfl, h0, r0⟩ := trodAll_cons hA
  obtain ⟨rfl, rfl, rfl⟩ := trodAll_nil r0
  obtain rfl : args = #[v0] := by cases args; simp_all
  obtain ⟨rfl, rfl⟩ := trodVars_none hV
  have k0 := h0
  have lt0 : ∀ x ∈ p0, x.block < W.heap.size := by obtain ⟨m, hm⟩ := k0; exact DataW.trod_lt m _ _ _ hm
  obtain ⟨a0, c0, x0, rfl, y0, z0, u0⟩ : ∃ (a : Option Addr) (c : Nat) (xs : List Ty50), v0 = .slice a xs.length c ∧ Rows W a 3 (xs.map Ty50.cells) ∧ xs.length ≤ c ∧ ∀ x ∈ xs, x.ok W := by
    obtain ⟨a0, len, cap, rfl⟩ := okWide_slice Try.underlying46 (hval 0 46 v0 rfl rfl)
    obtain ⟨fuel, hf⟩ := h0
    have hr := open_rowsT Try.underlying46 (fun cs h => openT50 cs h) ⟨fuel, _, hf⟩
    rwa [cells_Ty_50] at hr
  clear hA0 hval0 hsz0
  refine (fnHlRepos_walk a0 c0 x0 W y0 z0 u0).mono fun e W' ⟨he, bel⟩ => ?_
  subst he
  exact ⟨_, rfl, _, _, _, [], _, [], hW', trodAll_mk1 (shut_bool Try.underlying4 _), (trodAll_cons_mk (Below.trod laidOut (by kernel_rfl) (of_decide_eq_true (by kernel_rfl)) k0 bel lt0) trodAll_mk0), rfl, bel.frame _, fun h => by cases h⟩
theorem named_ : Try.pinned.checked.prog.funcNamed Rows.fnHlReposRow.func = some 5 := by kernel_rfl
theorem facts_ : joinedFacts Try.pinned.checked.prog 5 Try.f5 Rows.fnHlReposSpec Rows.fnHlReposRow = true := by kernel_rfl
theorem inst_ : Try.f5.isInstance Try.pinned.checked.prog Rows.fnHlReposRow.origin Rows.fnHlReposRow.targs := of_decide_eq_true (by kernel_rfl)
theorem wrap_ : Try.f5.isWrapper Try.pinned.checked.prog Rows.fnHlReposRow.wrapper Rows.fnHlReposRow.mainSum := by unfold Func.isWrapper; first | (rw [if_pos (by decide +kernel)]; kernel_rfl) | (rw [if_neg (by decide +kernel)]; exact ⟨rfl, rfl⟩)
theorem over : Rows.fnHlReposRow.holds Try.pinned (OpenSpec.ofChange Rows.fnHlReposSpec) :=
  OpenClaim.holds_of_wide 5 Try.f5 rfl rfl rfl rfl rfl rfl rfl ⟨rfl, rfl, rfl, rfl, rfl⟩ rfl rfl rfl rfl rfl named_ Try.func5 facts_
    inst_ wrap_
    (fun os started H enc _ => lifted os started H enc)
theorem proved : Rows.FnHlReposSaid := over
end Go.Proofs.Ytkjcedlgljeoiaa.fnHlRepos
namespace Go.Proofs.Ytkjcedlgljeoiaa
/-- The row, under a short name, for the claim. -/
theorem fnHlRepos_holds : Rows.FnHlReposSaid := fnHlRepos.proved
end Go.Proofs.Ytkjcedlgljeoiaa
