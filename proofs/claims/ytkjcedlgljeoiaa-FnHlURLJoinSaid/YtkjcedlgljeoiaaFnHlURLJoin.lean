/- For all hosts, paths and further parts, the joined address is the one that the reference tells. -/
import Derived.Test.YtkjcedlgljeoiaaRows
import Derived.Test.YtkjcedlgljeoiaaU7
import Derived.Test.YtkjcedlgljeoiaaOq
import Derived.WalkKit
import Derived.ProofKit
import Derived.OpenShut
import Derived.ShutString
import Derived.ChangeOld
import Derived.Below
import Derived.SizedLaws
import Derived.SliceStrings
namespace Go.Proofs.Ytkjcedlgljeoiaa.fnHlURLJoin
open Go.ChangeShapes Go.WideShapes Go.ChangeAt Go.RowKit
open Go.ChangeMaps (open_string shut_string)
set_option linter.unusedVariables false
theorem own : ownKnob Try.prog.godebug = none := by kernel_rfl
theorem laidOut : laidOutB Try.prog = true := by kernel_rfl
set_option maxRecDepth 100000 in
theorem lifted (os : Os) (started : os.Started) (H : Type) (enc : TypeId × Value → H) :
    ReturnsInHanded {} Try.checked os 6 .any (Rows.fnHlURLJoinSpec.pre6 enc Try.prog Try.f6 Rows.fnHlURLJoinRow.domain false) (Rows.fnHlURLJoinSpec.post enc Try.prog Try.f6 false true false false) := by
  refine returnsInHanded_of_change_sized (C := Try.checked) own started (by kernel_rfl) Try.func6
    (ChangeSpec.witness6 (enc := enc) (C := Try.checked) false ⟨#[], #[.string ByteArray.empty, .string ByteArray.empty, .slice none 0 0, .bool false], []⟩ 8 (by kernel_rfl) (by kernel_rfl) (by kernel_rfl) (by kernel_rfl)) ?_
  intro W base args ds gs before hval0 hW hcnd hsz0 _
  have hval : ∀ (j : Nat) t v, Try.f6.params[j]? = some t → args[j]? = some v → Value.okWide Try.prog W .any base t v := hval0
  have hW' := hW
  obtain ⟨p, q, hA0, hV, rfl, hfz, hnd⟩ := hW
  have hA : DataW.TrodAll enc Try.prog W 0 (fun _ => true) true Try.f6.params.toList args.toList ds p := hA0
  rw [Try.params6] at hA hval
  obtain ⟨v0, vs0, d0, ds0, p0, q0, hargs, rfl, rfl, h0, r0⟩ := trodAll_cons hA
  obtain ⟨v1, vs1, d1, ds1, p1, q1, rfl, rfl, rfl, h1, r1⟩ := trodAll_cons r0
  obtain ⟨v2, vs2, d2, ds2, p2, q2, rfl, rfl, rfl, h2, r2⟩ := trodAll_cons r1
  obtain ⟨v3, vs3, d3, ds3, p3, q3, rfl, rfl, rfl, h3, r3⟩ := trodAll_cons r2
  obtain ⟨rfl, rfl, rfl⟩ := trodAll_nil r3
  obtain rfl : args = #[v0, v1, v2, v3] := by cases args; simp_all
  obtain ⟨rfl, rfl⟩ := trodVars_none hV
  obtain ⟨a0, rfl, rfl, rfl, y0⟩ := open_string Try.underlying9 (hval 0 9 v0 rfl rfl) h0
  obtain ⟨a1, rfl, rfl, rfl, y1⟩ := open_string Try.underlying9 (hval 1 9 v1 rfl rfl) h1
  have k2 := h2
  have lt2 : ∀ x ∈ p2, x.block < W.heap.size := by obtain ⟨m, hm⟩ := k2; exact DataW.trod_lt m _ _ _ hm
  obtain ⟨a2, c2, x2, rfl, y2, z2⟩ : ∃ a c, ∃ xs : List ByteArray, v2 = .slice a xs.length c ∧ Sl W a (xs.map Value.string) ∧ xs.length ≤ c := by
    obtain ⟨a0, len, cap, rfl⟩ := okWide_slice Try.underlying22 (hval 2 22 v2 rfl rfl)
    obtain ⟨fuel, hf⟩ := h2
    exact sl_of_strings2 (open_strings Try.underlying22 Try.underlying9 (by kernel_rfl) hf)
  obtain ⟨a3, rfl, rfl, rfl⟩ := open_bool Try.underlying4 (hval 3 4 v3 rfl rfl) h3
  clear hA0 hval0 hsz0
  refine (fnHlURLJoin_walk a0 a1 a2 c2 x2 a3 W y0 y1 y2).mono fun e W' ⟨he, bel⟩ => ?_
  subst he
  exact ⟨_, rfl, _, _, _, [], _, [], hW', trodAll_mk1 (shut_bool Try.underlying4 _), (trodAll_cons_mk (shut_string Try.underlying9 y0) (trodAll_cons_mk (shut_string Try.underlying9 y1) (trodAll_cons_mk (Below.trod laidOut (by kernel_rfl) (of_decide_eq_true (by kernel_rfl)) k2 bel lt2) (trodAll_cons_mk (shut_bool Try.underlying4 _) trodAll_mk0)))), rfl, bel.frame _, fun h => by cases h⟩
theorem named_ : Try.pinned.checked.prog.funcNamed Rows.fnHlURLJoinRow.func = some 6 := by kernel_rfl
theorem facts_ : joinedFacts Try.pinned.checked.prog 6 Try.f6 Rows.fnHlURLJoinSpec Rows.fnHlURLJoinRow = true := by kernel_rfl
theorem inst_ : Try.f6.isInstance Try.pinned.checked.prog Rows.fnHlURLJoinRow.origin Rows.fnHlURLJoinRow.targs := of_decide_eq_true (by kernel_rfl)
theorem wrap_ : Try.f6.isWrapper Try.pinned.checked.prog Rows.fnHlURLJoinRow.wrapper Rows.fnHlURLJoinRow.mainSum := by unfold Func.isWrapper; first | (rw [if_pos (by decide +kernel)]; kernel_rfl) | (rw [if_neg (by decide +kernel)]; exact ⟨rfl, rfl⟩)
theorem over : Rows.fnHlURLJoinRow.holds Try.pinned (OpenSpec.ofChange Rows.fnHlURLJoinSpec) :=
  OpenClaim.holds_of_wide 6 Try.f6 rfl rfl rfl rfl rfl rfl rfl ⟨rfl, rfl, rfl, rfl, rfl⟩ rfl rfl rfl rfl rfl named_ Try.func6 facts_
    inst_ wrap_
    (fun os started H enc _ => lifted os started H enc)
theorem proved : Rows.FnHlURLJoinSaid := over
end Go.Proofs.Ytkjcedlgljeoiaa.fnHlURLJoin
namespace Go.Proofs.Ytkjcedlgljeoiaa
/-- The row, under a short name, for the claim. -/
theorem fnHlURLJoin_holds : Rows.FnHlURLJoinSaid := fnHlURLJoin.proved
end Go.Proofs.Ytkjcedlgljeoiaa
