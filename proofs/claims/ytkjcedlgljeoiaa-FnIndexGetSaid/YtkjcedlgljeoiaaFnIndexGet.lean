/- FnIndexGet: an index gives the version that is asked for, or none. -/
import Derived.Test.YtkjcedlgljeoiaaIGe
import Derived.Test.YtkjcedlgljeoiaaRows
import Derived.WalkKit
import Derived.ProofKit
import Derived.OpenShut
import Derived.ShutString
import Derived.ChangeOld
import Derived.Below
import Derived.SizedLaws
import Derived.SliceStrings
namespace Go.Proofs.Ytkjcedlgljeoiaa.fnIndexGet
open Go.ChangeShapes Go.WideShapes Go.ChangeAt Go.RowKit
open Go.ChangeMaps (open_string shut_string)
set_option linter.unusedVariables false
theorem own : ownKnob Try.prog.godebug = none := by kernel_rfl
theorem laidOut : laidOutB Try.prog = true := by kernel_rfl
set_option maxRecDepth 100000 in
theorem lifted (os : Os) (started : os.Started) (H : Type) (enc : TypeId × Value → H) :
    ReturnsInHanded {} Try.checked os 11 .any (Rows.fnIndexGetSpec.pre6 enc Try.prog Try.f11 Rows.fnIndexGetRow.domain false) (Rows.fnIndexGetSpec.post enc Try.prog Try.f11 false true false false) := by
  refine returnsInHanded_of_change_sized (C := Try.checked) own started (by kernel_rfl) Try.func11
    (ChangeSpec.witness6 (enc := enc) (C := Try.checked) false ⟨#[], #[.slice none 0 0, .string ByteArray.empty, .string ByteArray.empty, .bool false], []⟩ 8 (by kernel_rfl) (by kernel_rfl) (by kernel_rfl) (by kernel_rfl)) ?_
  intro W base args ds gs before hval0 hW hcnd hsz0 _
  have hval : ∀ (j : Nat) t v, Try.f11.params[j]? = some t → args[j]? = some v → Value.okWide Try.prog W .any base t v := hval0
  have hW' := hW
  obtain ⟨p, q, hA0, hV, rfl, hfz, hnd⟩ := hW
  have hA : DataW.TrodAll enc Try.prog W 0 (fun _ => true) true Try.f11.params.toList args.toList ds p := hA0
  rw [Try.params11] at hA hval
  obtain ⟨v0, vs0, d0, ds0, p0, q0, hargs, rfl, rfl, h0, r0⟩ := trodAll_cons hA
  obtain ⟨v1, vs1, d1, ds1, p1, q1, rfl, rfl, rfl, h1, r1⟩ := trodAll_cons r0
  obtain ⟨v2, vs2, d2, ds2, p2, q2, rfl, rfl, rfl, h2, r2⟩ := trodAll_cons r1
  obtain ⟨v3, vs3, d3, ds3, p3, q3, rfl, rfl, rfl, h3, r3⟩ := trodAll_cons r2
  obtain ⟨rfl, rfl, rfl⟩ := trodAll_nil r3
  obtain rfl : args = #[v0, v1, v2, v3] := by cases args; simp_all
  obtain ⟨rfl, rfl⟩ := trodVars_none hV
  have k0 := h0
  have lt0 : ∀ x ∈ p0, x.block < W.heap.size := by obtain ⟨m, hm⟩ := k0; exact DataW.trod_lt m _ _ _ hm
  obtain ⟨a0, c0, x0, rfl, y0, z0, u0⟩ : ∃ (a : Option Addr) (c : Nat) (xs : List Ty103), v0 = .slice a xs.length c ∧ Rows W a 2 (xs.map Ty103.cells) ∧ xs.length ≤ c ∧ ∀ x ∈ xs, x.ok W := by
    obtain ⟨a0, len, cap, rfl⟩ := okWide_slice Try.underlying95 (hval 0 95 v0 rfl rfl)
    obtain ⟨fuel, hf⟩ := h0
    have hr := open_rowsT Try.underlying95 (fun cs h => openT103 cs h) ⟨fuel, _, hf⟩
    rwa [cells_Ty_103] at hr
  obtain ⟨a1, rfl, rfl, rfl, y1⟩ := open_string Try.underlying9 (hval 1 9 v1 rfl rfl) h1
  obtain ⟨a2, rfl, rfl, rfl, y2⟩ := open_string Try.underlying9 (hval 2 9 v2 rfl rfl) h2
  obtain ⟨a3, rfl, rfl, rfl⟩ := open_bool Try.underlying4 (hval 3 4 v3 rfl rfl) h3
  clear hA0 hval0 hsz0
  refine (fnIndexGet_walk a0 c0 x0 a1 a2 a3 W y0 z0 u0 y1 y2).mono fun e W' ⟨he, bel⟩ => ?_
  subst he
  exact ⟨_, rfl, _, _, _, [], _, [], hW', trodAll_mk1 (shut_bool Try.underlying4 _), (trodAll_cons_mk (Below.trod laidOut (by kernel_rfl) (of_decide_eq_true (by kernel_rfl)) k0 bel lt0) (trodAll_cons_mk (shut_string Try.underlying9 y1) (trodAll_cons_mk (shut_string Try.underlying9 y2) (trodAll_cons_mk (shut_bool Try.underlying4 _) trodAll_mk0)))), rfl, bel.frame _, fun h => by cases h⟩
theorem named_ : Try.pinned.checked.prog.funcNamed Rows.fnIndexGetRow.func = some 11 := by kernel_rfl
theorem facts_ : joinedFacts Try.pinned.checked.prog 11 Try.f11 Rows.fnIndexGetSpec Rows.fnIndexGetRow = true := by kernel_rfl
theorem inst_ : Try.f11.isInstance Try.pinned.checked.prog Rows.fnIndexGetRow.origin Rows.fnIndexGetRow.targs := of_decide_eq_true (by kernel_rfl)
theorem wrap_ : Try.f11.isWrapper Try.pinned.checked.prog Rows.fnIndexGetRow.wrapper Rows.fnIndexGetRow.mainSum := by unfold Func.isWrapper; first | (rw [if_pos (by decide +kernel)]; kernel_rfl) | (rw [if_neg (by decide +kernel)]; exact ⟨rfl, rfl⟩)
theorem over : Rows.fnIndexGetRow.holds Try.pinned (OpenSpec.ofChange Rows.fnIndexGetSpec) :=
  OpenClaim.holds_of_wide 11 Try.f11 rfl rfl rfl rfl rfl rfl rfl ⟨rfl, rfl, rfl, rfl, rfl⟩ rfl rfl rfl rfl rfl named_ Try.func11 facts_
    inst_ wrap_
    (fun os started H enc _ => lifted os started H enc)
theorem proved : Rows.FnIndexGetSaid := over
end Go.Proofs.Ytkjcedlgljeoiaa.fnIndexGet
namespace Go.Proofs.Ytkjcedlgljeoiaa
/-- The row, under a short name, for the claim. -/
theorem fnIndexGet_holds : Rows.FnIndexGetSaid := fnIndexGet.proved
end Go.Proofs.Ytkjcedlgljeoiaa
