/- What the filters of statuses keep is what the text says, for every list of releases. -/
import Derived.Test.YtdgblfldbikneaaRows
import Derived.Test.YtdgblfldbikneaaE7
import Derived.Test.YtdgblfldbikneaaOq
import Derived.Test.YtdgblfldbikneaaTy
import Derived.WalkKit
import Derived.ProofKit
import Derived.OpenShut
import Derived.ShutString
import Derived.ChangeOld
import Derived.Below
import Derived.SizedLaws
import Derived.SliceStrings
namespace Go.Proofs.Ytdgblfldbikneaa.fnFilterReleases
open Go.ChangeShapes Go.WideShapes Go.ChangeAt Go.RowKit
open Go.ChangeMaps (open_string shut_string)
set_option linter.unusedVariables false
theorem own : ownKnob Try.prog.godebug = none := by kernel_rfl
theorem laidOut : laidOutB Try.prog = true := by kernel_rfl
set_option maxRecDepth 100000 in
theorem lifted (os : Os) (started : os.Started) (H : Type) (enc : TypeId × Value → H) :
    ReturnsInHanded {} Try.checked os 8 .any (Rows.fnFilterReleasesSpec.pre6 enc Try.prog Try.f8 Rows.fnFilterReleasesRow.domain false) (Rows.fnFilterReleasesSpec.post enc Try.prog Try.f8 false true false false) := by
  refine returnsInHanded_of_change_sized (C := Try.checked) own started (by kernel_rfl) Try.func8
    (ChangeSpec.witness6 (enc := enc) (C := Try.checked) false ⟨#[], #[.slice none 0 0, .slice none 0 0, .bool false], []⟩ 8 (by kernel_rfl) (by kernel_rfl) (by kernel_rfl) (by kernel_rfl)) ?_
  intro W base args ds gs before hval0 hW hcnd hsz0 _
  have hval : ∀ (j : Nat) t v, Try.f8.params[j]? = some t → args[j]? = some v → Value.okWide Try.prog W .any base t v := hval0
  have hW' := hW
  obtain ⟨p, q, hA0, hV, rfl, hfz, hnd⟩ := hW
  have hA : DataW.TrodAll enc Try.prog W 0 (fun _ => true) true Try.f8.params.toList args.toList ds p := hA0
  rw [Try.params8] at hA hval
  obtain ⟨v0, vs0, d0, ds0, p0, q0, hargs, rfl, rfl, h0, r0⟩ := trodAll_cons hA
  obtain ⟨v1, vs1, d1, ds1, p1, q1, rfl, rfl, rfl, h1, r1⟩ := trodAll_cons r0
  obtain ⟨v2, vs2, d2, ds2, p2, q2, rfl, rfl, rfl, h2, r2⟩ := trodAll_cons r1
  obtain ⟨rfl, rfl, rfl⟩ := trodAll_nil r2
  obtain rfl : args = #[v0, v1, v2] := by cases args; simp_all
  obtain ⟨rfl, rfl⟩ := trodVars_none hV
  have k0 := h0
  have lt0 : ∀ x ∈ p0, x.block < W.heap.size := by obtain ⟨m, hm⟩ := k0; exact DataW.trod_lt m _ _ _ hm
  obtain ⟨a0, c0, x0, rfl, y0, z0, u0⟩ : ∃ (a : Option Addr) (c : Nat) (xs : List Ty53), v0 = .slice a xs.length c ∧ Rows W a 5 (xs.map Ty53.cells) ∧ xs.length ≤ c ∧ ∀ x ∈ xs, x.ok W := by
    obtain ⟨a0, len, cap, rfl⟩ := okWide_slice Try.underlying50 (hval 0 50 v0 rfl rfl)
    obtain ⟨fuel, hf⟩ := h0
    have hr := open_rowsT Try.underlying50 (fun cs h => openT53 cs h) ⟨fuel, _, hf⟩
    rwa [cells_Ty_53] at hr
  have k1 := h1
  have lt1 : ∀ x ∈ p1, x.block < W.heap.size := by obtain ⟨m, hm⟩ := k1; exact DataW.trod_lt m _ _ _ hm
  obtain ⟨a1, c1, x1, rfl, y1, z1⟩ : ∃ a c, ∃ xs : List ByteArray, v1 = .slice a xs.length c ∧ Sl W a (xs.map Value.string) ∧ xs.length ≤ c := by
    obtain ⟨a0, len, cap, rfl⟩ := okWide_slice Try.underlying22 (hval 1 22 v1 rfl rfl)
    obtain ⟨fuel, hf⟩ := h1
    exact sl_of_strings2 (open_strings Try.underlying22 Try.underlying9 (by kernel_rfl) hf)
  obtain ⟨a2, rfl, rfl, rfl⟩ := open_bool Try.underlying4 (hval 2 4 v2 rfl rfl) h2
  clear hA0 hval0 hsz0
  refine (fnFilterReleases_walk a0 c0 x0 a1 c1 x1 a2 W y0 z0 u0 y1 z1).mono fun e W' ⟨he, bel⟩ => ?_
  subst he
  exact ⟨_, rfl, _, _, _, [], _, [], hW', trodAll_mk1 (shut_bool Try.underlying4 _), (trodAll_cons_mk (Below.trod laidOut (by kernel_rfl) (of_decide_eq_true (by kernel_rfl)) k0 bel lt0) (trodAll_cons_mk (Below.trod laidOut (by kernel_rfl) (of_decide_eq_true (by kernel_rfl)) k1 bel lt1) (trodAll_cons_mk (shut_bool Try.underlying4 _) trodAll_mk0))), rfl, bel.frame _, fun h => by cases h⟩
theorem over : Rows.fnFilterReleasesRow.holds Try.pinned (OpenSpec.ofChange Rows.fnFilterReleasesSpec) :=
  OpenClaim.holds_of_wide 8 Try.f8 rfl rfl rfl rfl rfl rfl rfl ⟨rfl, rfl, rfl, rfl, rfl⟩ rfl rfl rfl rfl rfl (by kernel_rfl) Try.func8 (by kernel_rfl)
    (of_decide_eq_true (by kernel_rfl)) (by unfold Func.isWrapper; first | (rw [if_pos (by decide +kernel)]; kernel_rfl) | (rw [if_neg (by decide +kernel)]; exact ⟨rfl, rfl⟩))
    (fun os started H enc _ => lifted os started H enc)
theorem proved : Rows.FnFilterReleasesSaid := over
end Go.Proofs.Ytdgblfldbikneaa.fnFilterReleases
namespace Go.Proofs.Ytdgblfldbikneaa
/-- The row, under a short name, for the claim. -/
theorem fnFilterReleases_holds : Rows.FnFilterReleasesSaid := fnFilterReleases.proved
end Go.Proofs.Ytdgblfldbikneaa
