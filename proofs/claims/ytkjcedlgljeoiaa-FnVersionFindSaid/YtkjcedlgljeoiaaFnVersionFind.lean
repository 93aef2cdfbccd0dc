/- FnVersionFind: the version that is found is the first one with URLs that is the one that is wanted. -/
import Derived.Test.YtkjcedlgljeoiaaVFe
import Derived.Test.YtkjcedlgljeoiaaRows
import Derived.WalkKit
import Derived.ProofKit
import Derived.OpenShut
import Derived.ShutString
import Derived.ChangeOld
import Derived.Below
import Derived.SizedLaws
import Derived.SliceStrings
namespace Go.Proofs.Ytkjcedlgljeoiaa.fnVersionFind
open Go.ChangeShapes Go.WideShapes Go.ChangeAt Go.RowKit
open Go.ChangeMaps (open_string shut_string)
set_option linter.unusedVariables false
theorem own : ownKnob Try.prog.godebug = none := by kernel_rfl
theorem laidOut : laidOutB Try.prog = true := by kernel_rfl
set_option maxRecDepth 100000 in
theorem lifted (os : Os) (started : os.Started) (H : Type) (enc : TypeId × Value → H) :
    ReturnsInHanded {} Try.checked os 7 .any (Rows.fnVersionFindSpec.pre6 enc Try.prog Try.f7 Rows.fnVersionFindRow.domain false) (Rows.fnVersionFindSpec.post enc Try.prog Try.f7 false true false false) := by
  refine returnsInHanded_of_change_sized (C := Try.checked) own started (by kernel_rfl) Try.func7
    (ChangeSpec.witness6 (enc := enc) (C := Try.checked) false ⟨#[], #[.string ByteArray.empty, .slice none 0 0], []⟩ 8 (by kernel_rfl) (by kernel_rfl) (by kernel_rfl) (by kernel_rfl)) ?_
  intro W base args ds gs before hval0 hW hcnd hsz0 _
  have hval : ∀ (j : Nat) t v, Try.f7.params[j]? = some t → args[j]? = some v → Value.okWide Try.prog W .any base t v := hval0
  have hW' := hW
  obtain ⟨p, q, hA0, hV, rfl, hfz, hnd⟩ := hW
  have hA : DataW.TrodAll enc Try.prog W 0 (fun _ => true) true Try.f7.params.toList args.toList ds p := hA0
  rw [Try.params7] at hA hval
  obtain ⟨v0, vs0, d0, ds0, p0, q0, hargs, rfl, rfl, h0, r0⟩ := trodAll_cons hA
  obtain ⟨v1, vs1, d1, ds1, p1, q1, rfl, rfl, rfl, h1, r1⟩ := trodAll_cons r0
  obtain ⟨rfl, rfl, rfl⟩ := trodAll_nil r1
  obtain rfl : args = #[v0, v1] := by cases args; simp_all
  obtain ⟨rfl, rfl⟩ := trodVars_none hV
  obtain ⟨a0, rfl, rfl, rfl, y0⟩ := open_string Try.underlying9 (hval 0 9 v0 rfl rfl) h0
  have k1 := h1
  have lt1 : ∀ x ∈ p1, x.block < W.heap.size := by obtain ⟨m, hm⟩ := k1; exact DataW.trod_lt m _ _ _ hm
  obtain ⟨a1, c1, x1, rfl, y1, z1, u1⟩ : ∃ (a : Option Addr) (c : Nat) (xs : List Ty69), v1 = .slice a xs.length c ∧ Rows W a 19 (xs.map Ty69.cells) ∧ xs.length ≤ c ∧ ∀ x ∈ xs, x.ok W := by
    obtain ⟨a0, len, cap, rfl⟩ := okWide_slice Try.underlying65 (hval 1 65 v1 rfl rfl)
    obtain ⟨fuel, hf⟩ := h1
    have hr := open_rowsT Try.underlying65 (fun cs h => openT69 cs h) ⟨fuel, _, hf⟩
    rwa [cells_Ty_69] at hr
  clear hA0 hval0 hsz0
  refine (fnVersionFind_walk a0 a1 c1 x1 W y0 y1 z1 u1).mono fun e W' ⟨he, bel⟩ => ?_
  subst he
  exact ⟨_, rfl, _, _, _, [], _, [], hW', trodAll_mk1 (shut_bool Try.underlying4 _), (trodAll_cons_mk (shut_string Try.underlying9 y0) (trodAll_cons_mk (Below.trod laidOut (by kernel_rfl) (of_decide_eq_true (by kernel_rfl)) k1 bel lt1) trodAll_mk0)), rfl, bel.frame _, fun h => by cases h⟩
theorem named_ : Try.pinned.checked.prog.funcNamed Rows.fnVersionFindRow.func = some 7 := by kernel_rfl
theorem facts_ : joinedFacts Try.pinned.checked.prog 7 Try.f7 Rows.fnVersionFindSpec Rows.fnVersionFindRow = true := by kernel_rfl
theorem inst_ : Try.f7.isInstance Try.pinned.checked.prog Rows.fnVersionFindRow.origin Rows.fnVersionFindRow.targs := of_decide_eq_true (by kernel_rfl)
theorem wrap_ : Try.f7.isWrapper Try.pinned.checked.prog Rows.fnVersionFindRow.wrapper Rows.fnVersionFindRow.mainSum := by unfold Func.isWrapper; first | (rw [if_pos (by decide +kernel)]; kernel_rfl) | (rw [if_neg (by decide +kernel)]; exact ⟨rfl, rfl⟩)
theorem over : Rows.fnVersionFindRow.holds Try.pinned (OpenSpec.ofChange Rows.fnVersionFindSpec) :=
  OpenClaim.holds_of_wide 7 Try.f7 rfl rfl rfl rfl rfl rfl rfl ⟨rfl, rfl, rfl, rfl, rfl⟩ rfl rfl rfl rfl rfl named_ Try.func7 facts_
    inst_ wrap_
    (fun os started H enc _ => lifted os started H enc)
theorem proved : Rows.FnVersionFindSaid := over
end Go.Proofs.Ytkjcedlgljeoiaa.fnVersionFind
namespace Go.Proofs.Ytkjcedlgljeoiaa
/-- The row, under a short name, for the claim. -/
theorem fnVersionFind_holds : Rows.FnVersionFindSaid := fnVersionFind.proved
end Go.Proofs.Ytkjcedlgljeoiaa
