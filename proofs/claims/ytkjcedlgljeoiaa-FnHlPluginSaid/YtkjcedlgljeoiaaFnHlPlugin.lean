/- For every input of the guards a plugin's command, its parts with the values of variables, its arguments and those that are handed in are what the reference says; without a command there is an error. -/
import Derived.Test.YtkjcedlgljeoiaaZpe
import Derived.Test.YtkjcedlgljeoiaaRows
import Derived.WalkKit
import Derived.ProofKit
import Derived.OpenShut
import Derived.ShutString
import Derived.ChangeOld
import Derived.Below
import Derived.SizedLaws
import Derived.SliceStrings
namespace Go.Proofs.Ytkjcedlgljeoiaa.fnHlPlugin
open Go.ChangeShapes Go.WideShapes Go.ChangeAt Go.RowKit
open Go.ChangeMaps (open_string shut_string)
set_option linter.unusedVariables false
theorem own : ownKnob Try.prog.godebug = none := by kernel_rfl
theorem laidOut : laidOutB Try.prog = true := by kernel_rfl
set_option maxRecDepth 100000 in
theorem lifted (os : Os) (started : os.Started) (H : Type) (enc : TypeId × Value → H) :
    ReturnsInHanded {} Try.checked os 12 .any (Rows.fnHlPluginSpec.pre6 enc Try.prog Try.f12 Rows.fnHlPluginRow.domain false) (Rows.fnHlPluginSpec.post enc Try.prog Try.f12 false true false false) := by
  refine returnsInHanded_of_change_sized (C := Try.checked) own started (by kernel_rfl) Try.func12
    (ChangeSpec.witness6 (enc := enc) (C := Try.checked) false ⟨#[], #[.string ByteArray.empty, .string ByteArray.empty, .slice none 0 0, .slice none 0 0, .bool false, .slice none 0 0], []⟩ 8 (by kernel_rfl) (by kernel_rfl) (by kernel_rfl) (by kernel_rfl)) ?_
  intro W base args ds gs before hval0 hW hcnd hsz0 _
  have hval : ∀ (j : Nat) t v, Try.f12.params[j]? = some t → args[j]? = some v → Value.okWide Try.prog W .any base t v := hval0
  have hW' := hW
  obtain ⟨p, q, hA0, hV, rfl, hfz, hnd⟩ := hW
  have hA : DataW.TrodAll enc Try.prog W 0 (fun _ => true) true Try.f12.params.toList args.toList ds p := hA0
  rw [Try.params12] at hA hval
  obtain ⟨v0, vs0, d0, ds0, p0, q0, hargs, rfl, rfl, h0, r0⟩ := trodAll_cons hA
  obtain ⟨v1, vs1, d1, ds1, p1, q1, rfl, rfl, rfl, h1, r1⟩ := trodAll_cons r0
  obtain ⟨v2, vs2, d2, ds2, p2, q2, rfl, rfl, rfl, h2, r2⟩ := trodAll_cons r1
  obtain ⟨v3, vs3, d3, ds3, p3, q3, rfl, rfl, rfl, h3, r3⟩ := trodAll_cons r2
  obtain ⟨v4, vs4, d4, ds4, p4, q4, rfl, rfl, rfl, h4, r4⟩ := trodAll_cons r3
  obtain ⟨v5, vs5, d5, ds5, p5, q5, rfl, rfl, rfl, h5, r5⟩ := trodAll_cons r4
  obtain ⟨rfl, rfl, rfl⟩ := trodAll_nil r5
  obtain rfl : args = #[v0, v1, v2, v3, v4, v5] := by cases args; simp_all
  obtain ⟨rfl, rfl⟩ := trodVars_none hV
  obtain ⟨a0, rfl, rfl, rfl, y0⟩ := open_string Try.underlying9 (hval 0 9 v0 rfl rfl) h0
  obtain ⟨a1, rfl, rfl, rfl, y1⟩ := open_string Try.underlying9 (hval 1 9 v1 rfl rfl) h1
  have k2 := h2
  have lt2 : ∀ x ∈ p2, x.block < W.heap.size := by obtain ⟨m, hm⟩ := k2; exact DataW.trod_lt m _ _ _ hm
  obtain ⟨a2, c2, x2, rfl, y2, z2, u2⟩ : ∃ (a : Option Addr) (c : Nat) (xs : List Ty108), v2 = .slice a xs.length c ∧ Rows W a 2 (xs.map Ty108.cells) ∧ xs.length ≤ c ∧ ∀ x ∈ xs, x.ok W := by
    obtain ⟨a0, len, cap, rfl⟩ := okWide_slice Try.underlying40 (hval 2 40 v2 rfl rfl)
    obtain ⟨fuel, hf⟩ := h2
    have hr := open_rowsT Try.underlying40 (fun cs h => openT108 cs h) ⟨fuel, _, hf⟩
    rwa [cells_Ty_108] at hr
  have k3 := h3
  have lt3 : ∀ x ∈ p3, x.block < W.heap.size := by obtain ⟨m, hm⟩ := k3; exact DataW.trod_lt m _ _ _ hm
  obtain ⟨a3, c3, x3, rfl, y3, z3, u3⟩ : ∃ (a : Option Addr) (c : Nat) (xs : List Ty110), v3 = .slice a xs.length c ∧ Rows W a 4 (xs.map Ty110.cells) ∧ xs.length ≤ c ∧ ∀ x ∈ xs, x.ok W := by
    obtain ⟨a0, len, cap, rfl⟩ := okWide_slice Try.underlying105 (hval 3 105 v3 rfl rfl)
    obtain ⟨fuel, hf⟩ := h3
    have hr := open_rowsT Try.underlying105 (fun cs h => openT110 cs h) ⟨fuel, _, hf⟩
    rwa [cells_Ty_110] at hr
  obtain ⟨a4, rfl, rfl, rfl⟩ := open_bool Try.underlying4 (hval 4 4 v4 rfl rfl) h4
  have k5 := h5
  have lt5 : ∀ x ∈ p5, x.block < W.heap.size := by obtain ⟨m, hm⟩ := k5; exact DataW.trod_lt m _ _ _ hm
  obtain ⟨a5, c5, x5, rfl, y5, z5⟩ : ∃ a c, ∃ xs : List ByteArray, v5 = .slice a xs.length c ∧ Sl W a (xs.map Value.string) ∧ xs.length ≤ c := by
    obtain ⟨a0, len, cap, rfl⟩ := okWide_slice Try.underlying22 (hval 5 22 v5 rfl rfl)
    obtain ⟨fuel, hf⟩ := h5
    exact sl_of_strings2 (open_strings Try.underlying22 Try.underlying9 (by kernel_rfl) hf)
  clear hA0 hval0 hsz0
  refine (fnHlPlugin_walk a0 a1 a2 c2 x2 a3 c3 x3 a4 a5 c5 x5 W y0 y1 y2 z2 u2 y3 z3 u3 y5 z5).mono fun e W' ⟨he, bel⟩ => ?_
  subst he
  exact ⟨_, rfl, _, _, _, [], _, [], hW', trodAll_mk1 (shut_bool Try.underlying4 _), (trodAll_cons_mk (shut_string Try.underlying9 y0) (trodAll_cons_mk (shut_string Try.underlying9 y1) (trodAll_cons_mk (Below.trod laidOut (by kernel_rfl) (of_decide_eq_true (by kernel_rfl)) k2 bel lt2) (trodAll_cons_mk (Below.trod laidOut (by kernel_rfl) (of_decide_eq_true (by kernel_rfl)) k3 bel lt3) (trodAll_cons_mk (shut_bool Try.underlying4 _) (trodAll_cons_mk (Below.trod laidOut (by kernel_rfl) (of_decide_eq_true (by kernel_rfl)) k5 bel lt5) trodAll_mk0)))))), rfl, bel.frame _, fun h => by cases h⟩
theorem named_ : Try.pinned.checked.prog.funcNamed Rows.fnHlPluginRow.func = some 12 := by kernel_rfl
theorem facts_ : joinedFacts Try.pinned.checked.prog 12 Try.f12 Rows.fnHlPluginSpec Rows.fnHlPluginRow = true := by kernel_rfl
theorem inst_ : Try.f12.isInstance Try.pinned.checked.prog Rows.fnHlPluginRow.origin Rows.fnHlPluginRow.targs := of_decide_eq_true (by kernel_rfl)
theorem wrap_ : Try.f12.isWrapper Try.pinned.checked.prog Rows.fnHlPluginRow.wrapper Rows.fnHlPluginRow.mainSum := by unfold Func.isWrapper; first | (rw [if_pos (by decide +kernel)]; kernel_rfl) | (rw [if_neg (by decide +kernel)]; exact ⟨rfl, rfl⟩)
theorem over : Rows.fnHlPluginRow.holds Try.pinned (OpenSpec.ofChange Rows.fnHlPluginSpec) :=
  OpenClaim.holds_of_wide 12 Try.f12 rfl rfl rfl rfl rfl rfl rfl ⟨rfl, rfl, rfl, rfl, rfl⟩ rfl rfl rfl rfl rfl named_ Try.func12 facts_
    inst_ wrap_
    (fun os started H enc _ => lifted os started H enc)
theorem proved : Rows.FnHlPluginSaid := over
end Go.Proofs.Ytkjcedlgljeoiaa.fnHlPlugin
namespace Go.Proofs.Ytkjcedlgljeoiaa
/-- The row, under a short name, for the claim. -/
theorem fnHlPlugin_holds : Rows.FnHlPluginSaid := fnHlPlugin.proved
end Go.Proofs.Ytkjcedlgljeoiaa
