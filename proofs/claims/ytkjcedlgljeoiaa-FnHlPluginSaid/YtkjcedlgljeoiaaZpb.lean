/- Texts Fz, T0, Q1, X2, X3, X4, X5, X6, Fy, Lw, Pn1, laid together. -/
import Derived.WalkKit
import Derived.WalkLawsBesides
import Derived.WalkSpells
import Derived.Lib.Hide
import Derived.Deep.RegionWith
import Derived.Deep.DeepCutAuto
import Derived.Deep.QuietTactic
import Derived.BigQuiet
import Derived.Laws.OwnMore
import Derived.Deep.LoopGhost
import Derived.KernelRfl
import Derived.Deep.WholeRow
import Derived.StillTail
import Derived.SliceStrings
import Derived.Deep.Slices
import Derived.Deep.Fields
import Derived.ChangeSame
import Derived.Deep.MidRow
import Derived.Maps.AppendAt
import Derived.Lib.AppendStr
import Derived.Lib.ConvBytes
import Derived.Laws.BytesArg
import Derived.Deep.RegionLaw
import Derived.OwnWalk
import Derived.Maps.OwnSet
import Derived.Maps.OwnOps
import Derived.ArgAppend
import Derived.Defers
import Derived.Recover
import Derived.Laws.Pointers
import Derived.Laws.StructEq
import Derived.IntWalk
import Derived.Test.YtkjcedlgljeoiaaProg
import Derived.Test.YtkjcedlgljeoiaaZpa
/- Contracts of size checks. Printed. -/
namespace Go.Proofs.Ytkjcedlgljeoiaa
open Go.RowKit Go.Lib
set_option linter.unusedVariables false
set_option linter.unusedSimpArgs false
def fits68 (x : Ty108) : Bool := decide (x.fKey.size ≤ 2147483647) && decide (x.fText.size ≤ 2147483647)
set_option maxRecDepth 100000 in
set_option maxHeartbeats 4000000 in
theorem fits68_any (x : Ty108) (w : World) (h0 : Ty108.ok x w)  :
    Calls Try.prog 68 #[.agg #[.string x.fKey, .string x.fText]] w fun e w' => e = .returned (.bool (fits68 x)) ∧ Below w.heap.size w w' := by
  have H0 := Lib.hid h0
  clear h0
  suffices hQ : ∀ Q : Ending → World → Prop, Hid (∀ (e : Ending) (w' : World), (e = .returned (.bool (fits68 x)) ∧ Below w.heap.size w w') → Post1 Q e w') → Calls Try.prog 68 #[.agg #[.string x.fKey, .string x.fText]] w (fun e w' => Post1 Q e w') from hQ (fun e w' => e = .returned (.bool (fits68 x)) ∧ Below w.heap.size w w') (fun _ _ h => by unfold Post1; exact h)
  intro Q HQ
  go_enter Try.func68, Try.ntmps68
  by_cases hc1 : (2147483647 : Int) < ↑x.fKey.size
  · have P0 : Hid (decide (x.fKey.size ≤ 2147483647) = false) := by show _ = _; simp; omega
    go_wp2_with (first
      | ((with_reducible refine at_dst (N := 1) rfl ?_); refine ev_box rfl 108 _ rfl _ rfl ?_; intro g1 w1 hg hB hb
         have low_g1 := Nat.le_trans (Nat.le_refl _) hg
         have B_w1 := Lib.hid (below_trans (Below.refl _ _) hb)
         have g1_w1 : Hid (Blk w1 g1 108 #[.string x.fKey, .string x.fText]) := hB
         clear hB hb)
      | ((with_reducible refine at_dst (N := 4) rfl ?_); refine ev_ld rfl 9 _ rfl ⟨g1, 0, none⟩ rfl (.string x.fKey) (g1_w1.out.cell 0) _ Try.underlying9 rfl ?_))
    go_ret
    exact HQ.out _ _ ⟨ret_bool (by simp only [fits68, P0.out, Bool.and_self, Bool.and_false, Bool.false_and]), B_w1.out⟩
  · have P0 : Hid (decide (x.fKey.size ≤ 2147483647) = true) := by show _ = _; simp; omega
    by_cases hc2 : (2147483647 : Int) < ↑x.fText.size
    · have P1 : Hid (decide (x.fText.size ≤ 2147483647) = false) := by show _ = _; simp; omega
      go_wp2_with (first
        | ((with_reducible refine at_dst (N := 1) rfl ?_); refine ev_box rfl 108 _ rfl _ rfl ?_; intro g1 w1 hg hB hb
           have low_g1 := Nat.le_trans (Nat.le_refl _) hg
           have B_w1 := Lib.hid (below_trans (Below.refl _ _) hb)
           have g1_w1 : Hid (Blk w1 g1 108 #[.string x.fKey, .string x.fText]) := hB
           clear hB hb)
        | ((with_reducible refine at_dst (N := 4) rfl ?_); refine ev_ld rfl 9 _ rfl ⟨g1, 0, none⟩ rfl (.string x.fKey) (g1_w1.out.cell 0) _ Try.underlying9 rfl ?_)
        | ((with_reducible refine at_dst (N := 8) rfl ?_); refine ev_ld rfl 9 _ rfl ⟨g1, 1, none⟩ rfl (.string x.fText) (g1_w1.out.cell 1) _ Try.underlying9 rfl ?_))
      go_ret
      exact HQ.out _ _ ⟨ret_bool (by simp only [fits68, P0.out, P1.out, Bool.and_self, Bool.and_false, Bool.false_and]), B_w1.out⟩
    · have P1 : Hid (decide (x.fText.size ≤ 2147483647) = true) := by show _ = _; simp; omega
      go_wp2_with (first
        | ((with_reducible refine at_dst (N := 1) rfl ?_); refine ev_box rfl 108 _ rfl _ rfl ?_; intro g1 w1 hg hB hb
           have low_g1 := Nat.le_trans (Nat.le_refl _) hg
           have B_w1 := Lib.hid (below_trans (Below.refl _ _) hb)
           have g1_w1 : Hid (Blk w1 g1 108 #[.string x.fKey, .string x.fText]) := hB
           clear hB hb)
        | ((with_reducible refine at_dst (N := 4) rfl ?_); refine ev_ld rfl 9 _ rfl ⟨g1, 0, none⟩ rfl (.string x.fKey) (g1_w1.out.cell 0) _ Try.underlying9 rfl ?_)
        | ((with_reducible refine at_dst (N := 8) rfl ?_); refine ev_ld rfl 9 _ rfl ⟨g1, 1, none⟩ rfl (.string x.fText) (g1_w1.out.cell 1) _ Try.underlying9 rfl ?_))
      go_ret
      exact HQ.out _ _ ⟨ret_bool (by simp only [fits68, P0.out, P1.out, Bool.and_self, Bool.and_false, Bool.false_and]), B_w1.out⟩
def fits18 (xs : List Ty108) : Bool := decide (xs.length ≤ 2147483647) && xs.all fits68
set_option maxRecDepth 100000 in
set_option maxHeartbeats 4000000 in
theorem fits18_any (A : Option Addr) (c : Nat) (xs : List Ty108) (w : World) (h0 : Rows w (A) 2 (xs.map Ty108.cells)) (h1 : Ty108.oks xs w)  :
    Calls Try.prog 18 #[.slice (A) (xs.length) (c)] w fun e w' => e = .returned (.bool (fits18 xs)) ∧ Below w.heap.size w w' := by
  have hl_xs : xs.length ≤ 9223372036854775807 := by have := h0.1; simpa [strs, ptrs] using this
  have H0 := Lib.hid h0
  clear h0
  have H1 := Lib.hid h1
  clear h1
  suffices hQ : ∀ Q : Ending → World → Prop, Hid (∀ (e : Ending) (w' : World), (e = .returned (.bool (fits18 xs)) ∧ Below w.heap.size w w') → Post1 Q e w') → Calls Try.prog 18 #[.slice (A) (xs.length) (c)] w (fun e w' => Post1 Q e w') from hQ (fun e w' => e = .returned (.bool (fits18 xs)) ∧ Below w.heap.size w w') (fun _ _ h => by unfold Post1; exact h)
  intro Q HQ
  go_enter Try.func18, Try.ntmps18
  by_cases hc1 : (2147483647 : Int) < ↑xs.length
  · go_wp2_with fail
    go_ret
    exact HQ.out _ _ ⟨ret_bool (by have e : decide (xs.length ≤ 2147483647) = false := (by simp; omega); rw [fits18, e, Bool.false_and]), (Below.refl _ _)⟩
  · go_wp2_with fail
    go_loopw [10] (fun v10 wr => ∃ k : Nat, (k ≤ xs.length) ∧ v10 = .int .i64 (↑k) ∧ Hid ((xs.take k).all fits68 = true) ∧ Hid (Below w.heap.size w wr)) (fun v10 _ => xs.length - (intOf v10).toNat)
    case atStart => exact ⟨0, (by omega), rfl, rfl, (Below.refl _ _)⟩
    case round =>
      obtain ⟨k, hk, rfl, L0_all, L0_B⟩ := hrel
      by_cases hlt_k : k < xs.length
      · obtain ⟨ad_k, rfl⟩ := (H0.out.below L0_B.out).addr (by simp [strs, ptrs]; omega)
        have HE := Lib.hid (Ty108.oks.at H1.out hlt_k)
        cases hc2 : (fits68 xs[k])
        · go_wp2_with (first
            | ((with_reducible refine at_dst (N := 13) rfl ?_); refine ev_loadR rfl 108 _ rfl _ rfl [.string xs[k].fKey, .string xs[k].fText] ((H0.out.below L0_B.out).el (j := k) (row := xs[k].cells) (by simp [hlt_k])) _ Try.underlying108 rfl tsz108 ?_)
            | ((with_reducible refine at_dst (N := 4) rfl ?_); refine ev_alloc rfl 108 rfl _ _ tz108 ?_; intro g4 w1 hg hB hb
               have low_g4 := Nat.le_trans L0_B.out.size hg
               have B_w1 := Lib.hid (below_trans L0_B.out hb)
               have g4_w1 : Hid (Blk w1 g4 108 #[.string ⟨#[]⟩, .string ⟨#[]⟩]) := hB
               clear hB hb)
            | (refine ev_store rfl 108 _ _ rfl g4 _ _ rfl rfl 108 g4_w1.out tsz108 rfl rfl ?_; intro w2 hB hg hz
               have hx := GrX.grown (S := fun k => k = g4) hg rfl
               have B_w2 := Lib.hid (below_grx B_w1.out hx B_w1.out.size (fun k => (fun e => e ▸ low_g4)))
               clear hx
               have g4_w2 : Hid (Blk w2 g4 108 #[.string xs[k].fKey, .string xs[k].fText]) := hB
               clear hB hg hz)
            | ((with_reducible refine at_dst (N := 14) rfl ?_); refine ev_loadB rfl 108 _ rfl g4 rfl 108 _ g4_w2.out _ Try.underlying108 rfl tsz108 ?_)
            | (go_at_call 68; (with_reducible refine (fits68_any xs[k] _ (Ty108.ok.below HE.out B_w2.out)).mono ?_); rintro e w3 ⟨rfl, hb⟩; rw [hc2]
               have g4_w3 := Lib.hid (g4_w2.out.below hb)
               have B_w3 := Lib.hid (below_trans B_w2.out hb)
               clear hb))
          go_ret
          exact HQ.out _ _ ⟨ret_bool (by rw [fits18, all_at hlt_k hc2, Bool.and_false]), B_w3.out⟩
        · go_wp2_with (first
            | ((with_reducible refine at_dst (N := 13) rfl ?_); refine ev_loadR rfl 108 _ rfl _ rfl [.string xs[k].fKey, .string xs[k].fText] ((H0.out.below L0_B.out).el (j := k) (row := xs[k].cells) (by simp [hlt_k])) _ Try.underlying108 rfl tsz108 ?_)
            | ((with_reducible refine at_dst (N := 4) rfl ?_); refine ev_alloc rfl 108 rfl _ _ tz108 ?_; intro g4 w1 hg hB hb
               have low_g4 := Nat.le_trans L0_B.out.size hg
               have B_w1 := Lib.hid (below_trans L0_B.out hb)
               have g4_w1 : Hid (Blk w1 g4 108 #[.string ⟨#[]⟩, .string ⟨#[]⟩]) := hB
               clear hB hb)
            | (refine ev_store rfl 108 _ _ rfl g4 _ _ rfl rfl 108 g4_w1.out tsz108 rfl rfl ?_; intro w2 hB hg hz
               have hx := GrX.grown (S := fun k => k = g4) hg rfl
               have B_w2 := Lib.hid (below_grx B_w1.out hx B_w1.out.size (fun k => (fun e => e ▸ low_g4)))
               clear hx
               have g4_w2 : Hid (Blk w2 g4 108 #[.string xs[k].fKey, .string xs[k].fText]) := hB
               clear hB hg hz)
            | ((with_reducible refine at_dst (N := 14) rfl ?_); refine ev_loadB rfl 108 _ rfl g4 rfl 108 _ g4_w2.out _ Try.underlying108 rfl tsz108 ?_)
            | (go_at_call 68; (with_reducible refine (fits68_any xs[k] _ (Ty108.ok.below HE.out B_w2.out)).mono ?_); rintro e w3 ⟨rfl, hb⟩; rw [hc2]
               have g4_w3 := Lib.hid (g4_w2.out.below hb)
               have B_w3 := Lib.hid (below_trans B_w2.out hb)
               clear hb))
          refine ⟨⟨k + 1, (by omega), by go_num, by show _ = _; rw [all_take hlt_k, L0_all.out, hc2]; rfl, B_w3⟩, ?_⟩
          simp [intOf]; omega
      · obtain rfl : k = xs.length := by omega
        rw [List.take_length] at L0_all
        go_wp2_with fail
        go_ret
        exact HQ.out _ _ ⟨ret_bool (by have e : decide (xs.length ≤ 2147483647) = true := (by simp; omega); rw [fits18, e, L0_all.out]; rfl), L0_B.out⟩
def fits190 (x : Ty52) : Bool := decide (x.fName.size ≤ 2147483647) && decide (x.fURL.size ≤ 2147483647)
def fits137 (xs : List Ty52) : Bool := decide (xs.length ≤ 2147483647) && xs.all fits190
def fits74 (x : Ty50) : Bool := (fits137 x.fRepos) && decide (x.fName.size ≤ 2147483647)
def fits24 (xs : List Ty50) : Bool := decide (xs.length ≤ 2147483647) && xs.all fits74
def fits125 (x : Ty94) : Bool := decide (x.fName.size ≤ 2147483647) && decide (x.fData.size ≤ 2147483647)
def fits63 (xs : List Ty94) : Bool := decide (xs.length ≤ 2147483647) && xs.all fits125
def fits151 (x : Ty78) : Bool := decide (x.fName.size ≤ 2147483647) && decide (x.fEmail.size ≤ 2147483647) && decide (x.fURL.size ≤ 2147483647)
def fits89 (xs : List Ty78) : Bool := decide (xs.length ≤ 2147483647) && xs.all fits151
def fits152 (x : Ty80) : Bool := decide (x.fName.size ≤ 2147483647) && decide (x.fVersion.size ≤ 2147483647) && decide (x.fRepository.size ≤ 2147483647) && decide (x.fCondition.size ≤ 2147483647) && (fits3 x.fTags) && decide (x.fAlias.size ≤ 2147483647)
def fits90 (xs : List Ty80) : Bool := decide (xs.length ≤ 2147483647) && xs.all fits152
def fits37 (x : Ty26) : Bool := decide (x.fName.size ≤ 2147483647) && decide (x.fHome.size ≤ 2147483647) && decide (x.fVersion.size ≤ 2147483647) && decide (x.fDescription.size ≤ 2147483647) && decide (x.fIcon.size ≤ 2147483647) && decide (x.fAPIVersion.size ≤ 2147483647) && decide (x.fCondition.size ≤ 2147483647) && decide (x.fTags.size ≤ 2147483647) && decide (x.fAppVersion.size ≤ 2147483647) && decide (x.fKubeVersion.size ≤ 2147483647) && decide (x.fType.size ≤ 2147483647) && (fits3 x.fSources) && (fits3 x.fKeywords) && (fits89 x.fMaintainers) && (fits90 x.fDependencies)
def fits81 (x : Ty69) : Bool := (fits37 x.fMeta) && (fits3 x.fURLs) && decide (x.fDigest.size ≤ 2147483647)
def fits31 (xs : List Ty69) : Bool := decide (xs.length ≤ 2147483647) && xs.all fits81
def fits102 (x : Ty103) : Bool := decide (x.fName.size ≤ 2147483647) && (fits31 x.fVersions)
def fits48 (xs : List Ty103) : Bool := decide (xs.length ≤ 2147483647) && xs.all fits102
def fits108 (x : Ty110) : Bool := decide (x.fOS.size ≤ 2147483647) && decide (x.fArch.size ≤ 2147483647) && decide (x.fCommand.size ≤ 2147483647) && (fits3 x.fArgs)
set_option maxRecDepth 100000 in
set_option maxHeartbeats 4000000 in
theorem fits108_any (x : Ty110) (w : World) (h0 : Ty110.ok x w)  :
    Calls Try.prog 108 #[.agg #[.string x.fOS, .string x.fArch, .string x.fCommand, .slice x.fArgs_a x.fArgs.length x.fArgs_c]] w fun e w' => e = .returned (.bool (fits108 x)) ∧ Below w.heap.size w w' := by
  have H0 := Lib.hid h0
  clear h0
  have H0_Args := Lib.hid (Ty110.ok_sArgs H0.out)
  suffices hQ : ∀ Q : Ending → World → Prop, Hid (∀ (e : Ending) (w' : World), (e = .returned (.bool (fits108 x)) ∧ Below w.heap.size w w') → Post1 Q e w') → Calls Try.prog 108 #[.agg #[.string x.fOS, .string x.fArch, .string x.fCommand, .slice x.fArgs_a x.fArgs.length x.fArgs_c]] w (fun e w' => Post1 Q e w') from hQ (fun e w' => e = .returned (.bool (fits108 x)) ∧ Below w.heap.size w w') (fun _ _ h => by unfold Post1; exact h)
  intro Q HQ
  go_enter Try.func108, Try.ntmps108
  by_cases hc1 : (2147483647 : Int) < ↑x.fOS.size
  · have P0 : Hid (decide (x.fOS.size ≤ 2147483647) = false) := by show _ = _; simp; omega
    go_wp2_with (first
      | ((with_reducible refine at_dst (N := 1) rfl ?_); refine ev_box rfl 110 _ rfl _ rfl ?_; intro g1 w1 hg hB hb
         have low_g1 := Nat.le_trans (Nat.le_refl _) hg
         have B_w1 := Lib.hid (below_trans (Below.refl _ _) hb)
         have g1_w1 : Hid (Blk w1 g1 110 #[.string x.fOS, .string x.fArch, .string x.fCommand, .slice x.fArgs_a x.fArgs.length x.fArgs_c]) := hB
         clear hB hb)
      | ((with_reducible refine at_dst (N := 4) rfl ?_); refine ev_ld rfl 9 _ rfl ⟨g1, 0, none⟩ rfl (.string x.fOS) (g1_w1.out.cell 0) _ Try.underlying9 rfl ?_))
    go_ret
    exact HQ.out _ _ ⟨ret_bool (by simp only [fits108, P0.out, Bool.and_self, Bool.and_false, Bool.false_and]), B_w1.out⟩
  · have P0 : Hid (decide (x.fOS.size ≤ 2147483647) = true) := by show _ = _; simp; omega
    by_cases hc2 : (2147483647 : Int) < ↑x.fArch.size
    · have P1 : Hid (decide (x.fArch.size ≤ 2147483647) = false) := by show _ = _; simp; omega
      go_wp2_with (first
        | ((with_reducible refine at_dst (N := 1) rfl ?_); refine ev_box rfl 110 _ rfl _ rfl ?_; intro g1 w1 hg hB hb
           have low_g1 := Nat.le_trans (Nat.le_refl _) hg
           have B_w1 := Lib.hid (below_trans (Below.refl _ _) hb)
           have g1_w1 : Hid (Blk w1 g1 110 #[.string x.fOS, .string x.fArch, .string x.fCommand, .slice x.fArgs_a x.fArgs.length x.fArgs_c]) := hB
           clear hB hb)
        | ((with_reducible refine at_dst (N := 4) rfl ?_); refine ev_ld rfl 9 _ rfl ⟨g1, 0, none⟩ rfl (.string x.fOS) (g1_w1.out.cell 0) _ Try.underlying9 rfl ?_)
        | ((with_reducible refine at_dst (N := 8) rfl ?_); refine ev_ld rfl 9 _ rfl ⟨g1, 1, none⟩ rfl (.string x.fArch) (g1_w1.out.cell 1) _ Try.underlying9 rfl ?_))
      go_ret
      exact HQ.out _ _ ⟨ret_bool (by simp only [fits108, P0.out, P1.out, Bool.and_self, Bool.and_false, Bool.false_and]), B_w1.out⟩
    · have P1 : Hid (decide (x.fArch.size ≤ 2147483647) = true) := by show _ = _; simp; omega
      by_cases hc3 : (2147483647 : Int) < ↑x.fCommand.size
      · have P2 : Hid (decide (x.fCommand.size ≤ 2147483647) = false) := by show _ = _; simp; omega
        go_wp2_with (first
          | ((with_reducible refine at_dst (N := 1) rfl ?_); refine ev_box rfl 110 _ rfl _ rfl ?_; intro g1 w1 hg hB hb
             have low_g1 := Nat.le_trans (Nat.le_refl _) hg
             have B_w1 := Lib.hid (below_trans (Below.refl _ _) hb)
             have g1_w1 : Hid (Blk w1 g1 110 #[.string x.fOS, .string x.fArch, .string x.fCommand, .slice x.fArgs_a x.fArgs.length x.fArgs_c]) := hB
             clear hB hb)
          | ((with_reducible refine at_dst (N := 4) rfl ?_); refine ev_ld rfl 9 _ rfl ⟨g1, 0, none⟩ rfl (.string x.fOS) (g1_w1.out.cell 0) _ Try.underlying9 rfl ?_)
          | ((with_reducible refine at_dst (N := 8) rfl ?_); refine ev_ld rfl 9 _ rfl ⟨g1, 1, none⟩ rfl (.string x.fArch) (g1_w1.out.cell 1) _ Try.underlying9 rfl ?_)
          | ((with_reducible refine at_dst (N := 12) rfl ?_); refine ev_ld rfl 9 _ rfl ⟨g1, 2, none⟩ rfl (.string x.fCommand) (g1_w1.out.cell 2) _ Try.underlying9 rfl ?_))
        go_ret
        exact HQ.out _ _ ⟨ret_bool (by simp only [fits108, P0.out, P1.out, P2.out, Bool.and_self, Bool.and_false, Bool.false_and]), B_w1.out⟩
      · have P2 : Hid (decide (x.fCommand.size ≤ 2147483647) = true) := by show _ = _; simp; omega
        cases hc4 : (fits3 x.fArgs)
        · have P3 := Lib.hid hc4
          go_wp2_with (first
            | ((with_reducible refine at_dst (N := 1) rfl ?_); refine ev_box rfl 110 _ rfl _ rfl ?_; intro g1 w1 hg hB hb
               have low_g1 := Nat.le_trans (Nat.le_refl _) hg
               have B_w1 := Lib.hid (below_trans (Below.refl _ _) hb)
               have g1_w1 : Hid (Blk w1 g1 110 #[.string x.fOS, .string x.fArch, .string x.fCommand, .slice x.fArgs_a x.fArgs.length x.fArgs_c]) := hB
               clear hB hb)
            | ((with_reducible refine at_dst (N := 4) rfl ?_); refine ev_ld rfl 9 _ rfl ⟨g1, 0, none⟩ rfl (.string x.fOS) (g1_w1.out.cell 0) _ Try.underlying9 rfl ?_)
            | ((with_reducible refine at_dst (N := 8) rfl ?_); refine ev_ld rfl 9 _ rfl ⟨g1, 1, none⟩ rfl (.string x.fArch) (g1_w1.out.cell 1) _ Try.underlying9 rfl ?_)
            | ((with_reducible refine at_dst (N := 12) rfl ?_); refine ev_ld rfl 9 _ rfl ⟨g1, 2, none⟩ rfl (.string x.fCommand) (g1_w1.out.cell 2) _ Try.underlying9 rfl ?_)
            | ((with_reducible refine at_dst (N := 16) rfl ?_); refine ev_ld rfl 22 _ rfl ⟨g1, 3, none⟩ rfl (.slice x.fArgs_a x.fArgs.length x.fArgs_c) (g1_w1.out.cell 3) _ Try.underlying22 rfl ?_)
            | (go_at_call 27; (with_reducible refine (zzFits3_any x.fArgs_a x.fArgs_c x.fArgs _ (H0_Args.out.below B_w1.out)).mono ?_); rintro e wq ⟨rfl, rfl⟩; rw [hc4]))
          go_ret
          exact HQ.out _ _ ⟨ret_bool (by simp only [fits108, P0.out, P1.out, P2.out, P3.out, Bool.and_self, Bool.and_false, Bool.false_and]), B_w1.out⟩
        · have P3 := Lib.hid hc4
          go_wp2_with (first
            | ((with_reducible refine at_dst (N := 1) rfl ?_); refine ev_box rfl 110 _ rfl _ rfl ?_; intro g1 w1 hg hB hb
               have low_g1 := Nat.le_trans (Nat.le_refl _) hg
               have B_w1 := Lib.hid (below_trans (Below.refl _ _) hb)
               have g1_w1 : Hid (Blk w1 g1 110 #[.string x.fOS, .string x.fArch, .string x.fCommand, .slice x.fArgs_a x.fArgs.length x.fArgs_c]) := hB
               clear hB hb)
            | ((with_reducible refine at_dst (N := 4) rfl ?_); refine ev_ld rfl 9 _ rfl ⟨g1, 0, none⟩ rfl (.string x.fOS) (g1_w1.out.cell 0) _ Try.underlying9 rfl ?_)
            | ((with_reducible refine at_dst (N := 8) rfl ?_); refine ev_ld rfl 9 _ rfl ⟨g1, 1, none⟩ rfl (.string x.fArch) (g1_w1.out.cell 1) _ Try.underlying9 rfl ?_)
            | ((with_reducible refine at_dst (N := 12) rfl ?_); refine ev_ld rfl 9 _ rfl ⟨g1, 2, none⟩ rfl (.string x.fCommand) (g1_w1.out.cell 2) _ Try.underlying9 rfl ?_)
            | ((with_reducible refine at_dst (N := 16) rfl ?_); refine ev_ld rfl 22 _ rfl ⟨g1, 3, none⟩ rfl (.slice x.fArgs_a x.fArgs.length x.fArgs_c) (g1_w1.out.cell 3) _ Try.underlying22 rfl ?_)
            | (go_at_call 27; (with_reducible refine (zzFits3_any x.fArgs_a x.fArgs_c x.fArgs _ (H0_Args.out.below B_w1.out)).mono ?_); rintro e wq ⟨rfl, rfl⟩; rw [hc4]))
          go_ret
          exact HQ.out _ _ ⟨ret_bool (by simp only [fits108, P0.out, P1.out, P2.out, P3.out, Bool.and_self, Bool.and_false, Bool.false_and]), B_w1.out⟩
def fits54 (xs : List Ty110) : Bool := decide (xs.length ≤ 2147483647) && xs.all fits108
set_option maxRecDepth 100000 in
set_option maxHeartbeats 4000000 in
theorem fits54_any (A : Option Addr) (c : Nat) (xs : List Ty110) (w : World) (h0 : Rows w (A) 4 (xs.map Ty110.cells)) (h1 : Ty110.oks xs w)  :
    Calls Try.prog 54 #[.slice (A) (xs.length) (c)] w fun e w' => e = .returned (.bool (fits54 xs)) ∧ Below w.heap.size w w' := by
  have hl_xs : xs.length ≤ 9223372036854775807 := by have := h0.1; simpa [strs, ptrs] using this
  have H0 := Lib.hid h0
  clear h0
  have H1 := Lib.hid h1
  clear h1
  suffices hQ : ∀ Q : Ending → World → Prop, Hid (∀ (e : Ending) (w' : World), (e = .returned (.bool (fits54 xs)) ∧ Below w.heap.size w w') → Post1 Q e w') → Calls Try.prog 54 #[.slice (A) (xs.length) (c)] w (fun e w' => Post1 Q e w') from hQ (fun e w' => e = .returned (.bool (fits54 xs)) ∧ Below w.heap.size w w') (fun _ _ h => by unfold Post1; exact h)
  intro Q HQ
  go_enter Try.func54, Try.ntmps54
  by_cases hc1 : (2147483647 : Int) < ↑xs.length
  · go_wp2_with fail
    go_ret
    exact HQ.out _ _ ⟨ret_bool (by have e : decide (xs.length ≤ 2147483647) = false := (by simp; omega); rw [fits54, e, Bool.false_and]), (Below.refl _ _)⟩
  · go_wp2_with fail
    go_loopw [10] (fun v10 wr => ∃ k : Nat, (k ≤ xs.length) ∧ v10 = .int .i64 (↑k) ∧ Hid ((xs.take k).all fits108 = true) ∧ Hid (Below w.heap.size w wr)) (fun v10 _ => xs.length - (intOf v10).toNat)
    case atStart => exact ⟨0, (by omega), rfl, rfl, (Below.refl _ _)⟩
    case round =>
      obtain ⟨k, hk, rfl, L0_all, L0_B⟩ := hrel
      by_cases hlt_k : k < xs.length
      · obtain ⟨ad_k, rfl⟩ := (H0.out.below L0_B.out).addr (by simp [strs, ptrs]; omega)
        have HE := Lib.hid (Ty110.oks.at H1.out hlt_k)
        cases hc2 : (fits108 xs[k])
        · go_wp2_with (first
            | ((with_reducible refine at_dst (N := 13) rfl ?_); refine ev_loadR rfl 110 _ rfl _ rfl [.string xs[k].fOS, .string xs[k].fArch, .string xs[k].fCommand, .slice xs[k].fArgs_a xs[k].fArgs.length xs[k].fArgs_c] ((H0.out.below L0_B.out).el (j := k) (row := xs[k].cells) (by simp [hlt_k])) _ Try.underlying110 rfl tsz110 ?_)
            | ((with_reducible refine at_dst (N := 4) rfl ?_); refine ev_alloc rfl 110 rfl _ _ tz110 ?_; intro g4 w1 hg hB hb
               have low_g4 := Nat.le_trans L0_B.out.size hg
               have B_w1 := Lib.hid (below_trans L0_B.out hb)
               have g4_w1 : Hid (Blk w1 g4 110 #[.string ⟨#[]⟩, .string ⟨#[]⟩, .string ⟨#[]⟩, .slice none 0 0]) := hB
               clear hB hb)
            | (refine ev_store rfl 110 _ _ rfl g4 _ _ rfl rfl 110 g4_w1.out tsz110 rfl rfl ?_; intro w2 hB hg hz
               have hx := GrX.grown (S := fun k => k = g4) hg rfl
               have B_w2 := Lib.hid (below_grx B_w1.out hx B_w1.out.size (fun k => (fun e => e ▸ low_g4)))
               clear hx
               have g4_w2 : Hid (Blk w2 g4 110 #[.string xs[k].fOS, .string xs[k].fArch, .string xs[k].fCommand, .slice xs[k].fArgs_a xs[k].fArgs.length xs[k].fArgs_c]) := hB
               clear hB hg hz)
            | ((with_reducible refine at_dst (N := 14) rfl ?_); refine ev_loadB rfl 110 _ rfl g4 rfl 110 _ g4_w2.out _ Try.underlying110 rfl tsz110 ?_)
            | (go_at_call 108; (with_reducible refine (fits108_any xs[k] _ (Ty110.ok.below HE.out B_w2.out)).mono ?_); rintro e w3 ⟨rfl, hb⟩; rw [hc2]
               have g4_w3 := Lib.hid (g4_w2.out.below hb)
               have B_w3 := Lib.hid (below_trans B_w2.out hb)
               clear hb))
          go_ret
          exact HQ.out _ _ ⟨ret_bool (by rw [fits54, all_at hlt_k hc2, Bool.and_false]), B_w3.out⟩
        · go_wp2_with (first
            | ((with_reducible refine at_dst (N := 13) rfl ?_); refine ev_loadR rfl 110 _ rfl _ rfl [.string xs[k].fOS, .string xs[k].fArch, .string xs[k].fCommand, .slice xs[k].fArgs_a xs[k].fArgs.length xs[k].fArgs_c] ((H0.out.below L0_B.out).el (j := k) (row := xs[k].cells) (by simp [hlt_k])) _ Try.underlying110 rfl tsz110 ?_)
            | ((with_reducible refine at_dst (N := 4) rfl ?_); refine ev_alloc rfl 110 rfl _ _ tz110 ?_; intro g4 w1 hg hB hb
               have low_g4 := Nat.le_trans L0_B.out.size hg
               have B_w1 := Lib.hid (below_trans L0_B.out hb)
               have g4_w1 : Hid (Blk w1 g4 110 #[.string ⟨#[]⟩, .string ⟨#[]⟩, .string ⟨#[]⟩, .slice none 0 0]) := hB
               clear hB hb)
            | (refine ev_store rfl 110 _ _ rfl g4 _ _ rfl rfl 110 g4_w1.out tsz110 rfl rfl ?_; intro w2 hB hg hz
               have hx := GrX.grown (S := fun k => k = g4) hg rfl
               have B_w2 := Lib.hid (below_grx B_w1.out hx B_w1.out.size (fun k => (fun e => e ▸ low_g4)))
               clear hx
               have g4_w2 : Hid (Blk w2 g4 110 #[.string xs[k].fOS, .string xs[k].fArch, .string xs[k].fCommand, .slice xs[k].fArgs_a xs[k].fArgs.length xs[k].fArgs_c]) := hB
               clear hB hg hz)
            | ((with_reducible refine at_dst (N := 14) rfl ?_); refine ev_loadB rfl 110 _ rfl g4 rfl 110 _ g4_w2.out _ Try.underlying110 rfl tsz110 ?_)
            | (go_at_call 108; (with_reducible refine (fits108_any xs[k] _ (Ty110.ok.below HE.out B_w2.out)).mono ?_); rintro e w3 ⟨rfl, hb⟩; rw [hc2]
               have g4_w3 := Lib.hid (g4_w2.out.below hb)
               have B_w3 := Lib.hid (below_trans B_w2.out hb)
               clear hb))
          refine ⟨⟨k + 1, (by omega), by go_num, by show _ = _; rw [all_take hlt_k, L0_all.out, hc2]; rfl, B_w3⟩, ?_⟩
          simp [intOf]; omega
      · obtain rfl : k = xs.length := by omega
        rw [List.take_length] at L0_all
        go_wp2_with fail
        go_ret
        exact HQ.out _ _ ⟨ret_bool (by have e : decide (xs.length ≤ 2147483647) = true := (by simp; omega); rw [fits54, e, L0_all.out]; rfl), L0_B.out⟩
end Go.Proofs.Ytkjcedlgljeoiaa

/- FnHlTransform: the plain law and the walk. -/
namespace Go.Proofs.Ytkjcedlgljeoiaa
open Go.RowKit Go.Lib

/-- No byte of s is '<'. -/
def noLt (s : ByteArray) : Prop := ∀ j, ∀ h : j < s.size, s[j].toNat ≠ 60
theorem hereB_eq (s sub : ByteArray) (j : Nat) : hereB s sub j = ((s.data.toList.drop j).take sub.size == sub.data.toList) := by
  unfold hereB
  rw [ByteArray.toList_eq, ByteArray.toList_eq, ByteArray.data_extract, Array.toList_extract, List.extract_eq_take_drop]
  simp
end Go.Proofs.Ytkjcedlgljeoiaa

/- Contracts: hlShort, hlSame, hlPieces, HlLines. -/
namespace Go.Proofs.Ytkjcedlgljeoiaa
open Go.RowKit Go.Lib

def shortS (s : ByteArray) : Bool := decide (s.size ≤ 100) && s.data.toList.all fun c => decide (c.toNat ≤ 127)
def shortB (xs : List ByteArray) : Bool := decide (xs.length ≤ 30) && xs.all shortS
theorem shortS_big {s : ByteArray} (h : 100 < s.size) : shortS s = false := by simp [shortS]; omega
theorem shortS_no {s : ByteArray} {k : Nat} (hk : k < s.size) (h : 127 < s[k].toNat) : shortS s = false := by
  unfold shortS
  rw [Bool.and_eq_false_iff]
  right
  rw [List.all_eq_false]
  exact ⟨s[k], Array.mem_toList_iff.2 (Array.getElem_mem _), by simpa using h⟩
theorem shortS_yes {s : ByteArray} (h : s.size ≤ 100) (hb : ∀ k, ∀ hk : k < s.size, s[k].toNat ≤ 127) : shortS s = true := by
  unfold shortS
  have : (s.data.toList.all fun c => decide (c.toNat ≤ 127)) = true := by
    rw [List.all_eq_true]
    intro c hc
    obtain ⟨k, hk, rfl⟩ := List.mem_iff_getElem.1 hc
    exact decide_eq_true (hb k (by simpa using hk))
  rw [this, Bool.and_true]
  simpa using h
set_option maxRecDepth 100000 in
theorem hlShort_any (A : Option Addr) (c : Nat) (xs : List ByteArray) (w : World) (h : Sl w A (strs xs)) :
    Calls Try.prog 19 #[.slice A xs.length c] w fun e w' => e = .returned (.bool (shortB xs)) ∧ w = w' := by
  have hl : xs.length ≤ 9223372036854775807 := by simpa [strs_len] using h.1
  have H := Lib.hid h
  clear h
  by_cases hbig : 30 < xs.length
  · have HF := Lib.hid (show shortB xs = false by simp [shortB]; omega)
    clear H
    go_enter Try.func19, Try.ntmps19
    go_wp2
    go_ret
    exact ⟨ret_bool HF.out.symm, rfl⟩
  · have hle : xs.length ≤ 30 := by omega
    clear hbig
    go_enter Try.func19, Try.ntmps19
    go_wp2
    go_loop [11] (fun i => ∃ k : Nat, k ≤ xs.length ∧ i = .int .i64 k ∧ Hid (∀ j, ∀ hj : j < xs.length, j < k → shortS xs[j] = true)) (fun i => xs.length - (intOf i).toNat)
    case atStart => exact ⟨0, Nat.zero_le _, rfl, fun j _ h0 => by omega⟩
    case round =>
      obtain ⟨k, hk, rfl, HA⟩ := hrel
      by_cases hlt : k < xs.length
      · obtain ⟨ad, rfl, hx⟩ := strs_at H.out hlt
        by_cases hs : 100 < xs[k].size
        · have HF := Lib.hid (show shortB xs = false by unfold shortB; rw [all_no hlt (shortS_big hs), Bool.and_false])
          clear H HA
          go_wp2
          go_ret
          exact ⟨ret_bool HF.out.symm, rfl⟩
        · have hs' : xs[k].size ≤ 100 := by omega
          clear hs
          go_wp2
          go_loop [20] (fun i => ∃ j : Nat, j ≤ xs[k].size ∧ i = .int .i64 j ∧ Hid (∀ q, ∀ h : q < xs[k].size, q < j → xs[k][q].toNat ≤ 127)) (fun i => xs[k].size - (intOf i).toNat)
          case atStart => exact ⟨0, Nat.zero_le _, rfl, fun q h hq => by omega⟩
          case round =>
            obtain ⟨j, hj, rfl, HQ⟩ := hrel
            by_cases hjl : j < xs[k].size
            · by_cases h127 : 127 < xs[k][j].toNat
              · have d1 : decide ((127 : Int) < (xs[k][j].toNat : Int)) = true := by simp; omega
                have HF := Lib.hid (show shortB xs = false by unfold shortB; rw [all_no hlt (shortS_no hjl h127), Bool.and_false])
                clear H HA HQ
                go_wp2
                go_ret
                exact ⟨ret_bool HF.out.symm, rfl⟩
              · have d1 : decide ((127 : Int) < (xs[k][j].toNat : Int)) = false := by simp; omega
                have HQ2 : Hid (∀ q, ∀ h : q < xs[k].size, q < j + 1 → xs[k][q].toNat ≤ 127) := fun q h hq => by
                  by_cases e : q = j
                  · subst e; omega
                  · exact HQ.out q h (by omega)
                clear HQ
                go_wp2
                refine ⟨⟨j + 1, by omega, by go_num, HQ2⟩, ?_⟩
                simp [intOf]; omega
            · have hy := shortS_yes hs' (fun q hq => HQ.out q hq (by omega))
              have HA2 : Hid (∀ j, ∀ hj : j < xs.length, j < k + 1 → shortS xs[j] = true) := fun q hq hqk => by
                by_cases e : q = k
                · subst e; exact hy
                · exact HA.out q hq (by omega)
              clear HQ HA hy
              go_wp2
              refine ⟨⟨k + 1, by omega, by go_num, HA2⟩, ?_⟩
              simp [intOf]; omega
      · have hf : shortB xs = true := by
          unfold shortB
          rw [all_yes (p := shortS) (fun j hj => HA.out j hj (by omega)), Bool.and_true]
          simpa using hle
        have HF := Lib.hid hf
        clear hf H HA
        go_wp2
        go_ret
        exact ⟨ret_bool HF.out.symm, rfl⟩

theorem ne_of_at {xs ys : List ByteArray} {k : Nat} (h1 : k < xs.length) (h2 : k < ys.length) (h : (xs[k].toList == ys[k].toList) = false) : decide (xs = ys) = false := by
  simp only [decide_eq_false_iff_not]
  rintro rfl
  simp at h
theorem eq_of_all {xs ys : List ByteArray} (hl : xs.length = ys.length) (h : ∀ k, ∀ h1 : k < xs.length, ∀ h2 : k < ys.length, (xs[k].toList == ys[k].toList) = true) : decide (xs = ys) = true := by
  simp only [decide_eq_true_eq]
  refine List.ext_getElem hl fun k h1 h2 => ?_
  have := h k h1 h2
  rw [ByteArray.toList_eq, ByteArray.toList_eq] at this
  apply ByteArray.ext
  apply Array.ext'
  simpa using this
set_option maxRecDepth 100000 in
theorem hlSame_any (A : Option Addr) (c : Nat) (xs : List ByteArray) (B : Option Addr) (d : Nat) (ys : List ByteArray) (w : World) (h : Sl w A (strs xs)) (h2 : Sl w B (strs ys)) :
    Calls Try.prog 44 #[.slice A xs.length c, .slice B ys.length d] w fun e w' => e = .returned (.bool (decide (xs = ys))) ∧ Below w.heap.size w w' := by
  have hl : xs.length ≤ 9223372036854775807 := by simpa [strs_len] using h.1
  have hl2 : ys.length ≤ 9223372036854775807 := by simpa [strs_len] using h2.1
  have H := Lib.hid h
  have H2 := Lib.hid h2
  clear h h2
  by_cases hne : xs.length = ys.length
  · have d0 : ((xs.length : Int) == (ys.length : Int)) = true := by simp; omega
    have HE := Lib.hid hne
    clear hne
    go_enter Try.func44, Try.ntmps44
    go_wp2
    go_loopw [13] (fun i wr => ∃ k : Nat, k ≤ xs.length ∧ i = .int .i64 k ∧ Hid (∀ j, ∀ h1 : j < xs.length, ∀ h2 : j < ys.length, j < k → (xs[j].toList == ys[j].toList) = true) ∧ Hid (Below w.heap.size w wr)) (fun i _ => xs.length - (intOf i).toNat)
    case atStart => exact ⟨0, Nat.zero_le _, rfl, fun j _ _ h0 => by omega, Below.refl _ _⟩
    case round =>
      obtain ⟨k, hk, rfl, HA, HB⟩ := hrel
      by_cases hlt : k < xs.length
      · have hlt2 : k < ys.length := by rw [← HE.out]; exact hlt
        obtain ⟨ad, rfl, hx⟩ := strs_at (H.out.below HB.out) hlt
        obtain ⟨bd, rfl, hy⟩ := strs_at (H2.out.below HB.out) hlt2
        go_upto_region 6 with fail
        cases hb : xs[k].toList == ys[k].toList
        · have HF := Lib.hid (ne_of_at hlt hlt2 hb)
          have HBb := Lib.hid hb
          clear HA
          go_quiet (fail)
          go_wp2_with fail
          go_ret
          exact ⟨ret_bool HF.out.symm, below_drewN1 HB.out _⟩
        · have HA2 : Hid (∀ j, ∀ h1 : j < xs.length, ∀ h2 : j < ys.length, j < k + 1 → (xs[j].toList == ys[j].toList) = true) := fun j h1 h2 hj => by
            by_cases e : j = k
            · subst e; exact hb
            · exact HA.out j h1 h2 (by omega)
          clear HA
          go_quiet (fail)
          go_wp2_with fail
          refine ⟨⟨k + 1, by omega, by go_num, HA2, below_drewN1 HB.out _⟩, ?_⟩
          simp [intOf]; omega
      · have HF := Lib.hid (eq_of_all HE.out (fun j h1 h2 => HA.out j h1 h2 (by omega)))
        clear HA
        go_wp2_with fail
        go_ret
        exact ⟨ret_bool HF.out.symm, HB.out⟩
  · have HF := Lib.hid (show decide (xs = ys) = false by simp only [decide_eq_false_iff_not]; rintro rfl; exact hne rfl)
    have d0 : ((xs.length : Int) == (ys.length : Int)) = false := by simp; omega
    clear hne
    go_enter Try.func44, Try.ntmps44
    go_wp2
    go_ret
    exact ⟨ret_bool HF.out.symm, Below.refl _ _⟩
end Go.Proofs.Ytkjcedlgljeoiaa

/- Expand: hlSpecial, hlName, under, hlEnv. -/
namespace Go.Proofs.Ytkjcedlgljeoiaa
open Go.RowKit Go.Lib
set_option linter.unusedVariables false
set_option linter.unusedSimpArgs false
theorem oneOf7 (s : ByteArray) (g : Nat) (w : World) (h : Blk w g 9 #[.string ⟨#[42]⟩, .string ⟨#[35]⟩, .string ⟨#[36]⟩, .string ⟨#[64]⟩, .string ⟨#[33]⟩, .string ⟨#[63]⟩, .string ⟨#[45]⟩]) :
    Calls Try.prog 41 #[.string s, .slice (some ⟨g, 0, none⟩) 7 7] w fun e w' => e = .returned (.bool (oneOf s sevenB)) ∧ w = w' := oneOf_any s (some ⟨g, 0, none⟩) 7 sevenB w (h.sl (by simp))
theorem hlShort2 (a b : ByteArray) (g : Nat) (w : World) (h : Blk w g 9 #[.string a, .string b]) :
    Calls Try.prog 19 #[.slice (some ⟨g, 0, none⟩) 2 2] w fun e w' => e = .returned (.bool (shortS a && shortS b)) ∧ w = w' := by
  have h3 := hlShort_any (some ⟨g, 0, none⟩) 2 [a, b] w (h.sl (by simp))
  simpa [shortB] using h3
set_option maxRecDepth 100000 in
set_option maxHeartbeats 4000000 in
theorem hlSpecial_any (n : Nat) (w : World)  (hn : n ≤ 127) :
    Calls Try.prog 134 #[.int .u8 (↑n)] w fun e w' => e = .returned (.bool (spU n)) ∧ Below w.heap.size w w' := by
  have h128 : decide ((n : Int) < 128) = true := by simp; omega
  suffices hQ : ∀ Q : Ending → World → Prop, Hid (∀ (e : Ending) (w' : World), (e = .returned (.bool (spU n)) ∧ Below w.heap.size w w') → Post1 Q e w') → Calls Try.prog 134 #[.int .u8 (↑n)] w (fun e w' => Post1 Q e w') from hQ (fun e w' => e = .returned (.bool (spU n)) ∧ Below w.heap.size w w') (fun _ _ h => by unfold Post1; exact h)
  intro Q HQ
  go_enter Try.func134, Try.ntmps134
  by_cases hc1 : (↑n : Int) < 48
  · cases hc2 : (oneOf (Utf8.encode (↑n : Int)) sevenB)
    · go_wp2_with (first
        | ((with_reducible refine at_dst (N := 13) rfl ?_); refine wl_guard rfl ?_; refine ev_bs rfl 22 9 7 _ rfl #[.string ⟨#[42]⟩, .string ⟨#[35]⟩, .string ⟨#[36]⟩, .string ⟨#[64]⟩, .string ⟨#[33]⟩, .string ⟨#[63]⟩, .string ⟨#[45]⟩] (by go_simp) ?_; intro g13 w1 hg hB hb
           have low_g13 := Nat.le_trans (Nat.le_refl _) hg
           have B_w1 := Lib.hid (below_trans (Below.refl _ _) hb)
           have g13_w1 : Hid (Blk w1 g13 9 #[.string ⟨#[42]⟩, .string ⟨#[35]⟩, .string ⟨#[36]⟩, .string ⟨#[64]⟩, .string ⟨#[33]⟩, .string ⟨#[63]⟩, .string ⟨#[45]⟩]) := hB
           clear hB hb)
        | (go_at_call 41; (with_reducible refine (oneOf7 (Utf8.encode (↑n : Int)) g13 _ g13_w1.out).mono ?_); rintro e wq ⟨rfl, rfl⟩; rw [hc2]))
      go_ret
      exact HQ.out _ _ ⟨ret_bool (by rw [← seven_is hn]; first | (rw [show decide (48 ≤ n) = true by (simp; omega), show decide (n ≤ 57) = true by (simp; omega)]; rfl) | (rw [show (decide (48 ≤ n) && decide (n ≤ 57)) = false by (simp; omega)]; simp [*])), B_w1.out⟩
    · go_wp2_with (first
        | ((with_reducible refine at_dst (N := 13) rfl ?_); refine wl_guard rfl ?_; refine ev_bs rfl 22 9 7 _ rfl #[.string ⟨#[42]⟩, .string ⟨#[35]⟩, .string ⟨#[36]⟩, .string ⟨#[64]⟩, .string ⟨#[33]⟩, .string ⟨#[63]⟩, .string ⟨#[45]⟩] (by go_simp) ?_; intro g13 w1 hg hB hb
           have low_g13 := Nat.le_trans (Nat.le_refl _) hg
           have B_w1 := Lib.hid (below_trans (Below.refl _ _) hb)
           have g13_w1 : Hid (Blk w1 g13 9 #[.string ⟨#[42]⟩, .string ⟨#[35]⟩, .string ⟨#[36]⟩, .string ⟨#[64]⟩, .string ⟨#[33]⟩, .string ⟨#[63]⟩, .string ⟨#[45]⟩]) := hB
           clear hB hb)
        | (go_at_call 41; (with_reducible refine (oneOf7 (Utf8.encode (↑n : Int)) g13 _ g13_w1.out).mono ?_); rintro e wq ⟨rfl, rfl⟩; rw [hc2]))
      go_ret
      exact HQ.out _ _ ⟨ret_bool (by rw [← seven_is hn]; first | (rw [show decide (48 ≤ n) = true by (simp; omega), show decide (n ≤ 57) = true by (simp; omega)]; rfl) | (rw [show (decide (48 ≤ n) && decide (n ≤ 57)) = false by (simp; omega)]; simp [*])), B_w1.out⟩
  · by_cases hc2 : (57 : Int) < ↑n
    · have hd1 : decide (48 ≤ (n : Int)) = true := by simp; omega
      have hd2 : decide ((n : Int) ≤ 57) = false := by simp; omega
      cases hc3 : (oneOf (Utf8.encode (↑n : Int)) sevenB)
      · go_wp2_with (first
          | ((with_reducible refine at_dst (N := 13) rfl ?_); refine wl_guard rfl ?_; refine ev_bs rfl 22 9 7 _ rfl #[.string ⟨#[42]⟩, .string ⟨#[35]⟩, .string ⟨#[36]⟩, .string ⟨#[64]⟩, .string ⟨#[33]⟩, .string ⟨#[63]⟩, .string ⟨#[45]⟩] (by go_simp) ?_; intro g13 w1 hg hB hb
             have low_g13 := Nat.le_trans (Nat.le_refl _) hg
             have B_w1 := Lib.hid (below_trans (Below.refl _ _) hb)
             have g13_w1 : Hid (Blk w1 g13 9 #[.string ⟨#[42]⟩, .string ⟨#[35]⟩, .string ⟨#[36]⟩, .string ⟨#[64]⟩, .string ⟨#[33]⟩, .string ⟨#[63]⟩, .string ⟨#[45]⟩]) := hB
             clear hB hb)
          | (go_at_call 41; (with_reducible refine (oneOf7 (Utf8.encode (↑n : Int)) g13 _ g13_w1.out).mono ?_); rintro e wq ⟨rfl, rfl⟩; rw [hc3]))
        go_ret
        exact HQ.out _ _ ⟨ret_bool (by rw [← seven_is hn]; first | (rw [show decide (48 ≤ n) = true by (simp; omega), show decide (n ≤ 57) = true by (simp; omega)]; rfl) | (rw [show (decide (48 ≤ n) && decide (n ≤ 57)) = false by (simp; omega)]; simp [*])), B_w1.out⟩
      · go_wp2_with (first
          | ((with_reducible refine at_dst (N := 13) rfl ?_); refine wl_guard rfl ?_; refine ev_bs rfl 22 9 7 _ rfl #[.string ⟨#[42]⟩, .string ⟨#[35]⟩, .string ⟨#[36]⟩, .string ⟨#[64]⟩, .string ⟨#[33]⟩, .string ⟨#[63]⟩, .string ⟨#[45]⟩] (by go_simp) ?_; intro g13 w1 hg hB hb
             have low_g13 := Nat.le_trans (Nat.le_refl _) hg
             have B_w1 := Lib.hid (below_trans (Below.refl _ _) hb)
             have g13_w1 : Hid (Blk w1 g13 9 #[.string ⟨#[42]⟩, .string ⟨#[35]⟩, .string ⟨#[36]⟩, .string ⟨#[64]⟩, .string ⟨#[33]⟩, .string ⟨#[63]⟩, .string ⟨#[45]⟩]) := hB
             clear hB hb)
          | (go_at_call 41; (with_reducible refine (oneOf7 (Utf8.encode (↑n : Int)) g13 _ g13_w1.out).mono ?_); rintro e wq ⟨rfl, rfl⟩; rw [hc3]))
        go_ret
        exact HQ.out _ _ ⟨ret_bool (by rw [← seven_is hn]; first | (rw [show decide (48 ≤ n) = true by (simp; omega), show decide (n ≤ 57) = true by (simp; omega)]; rfl) | (rw [show (decide (48 ≤ n) && decide (n ≤ 57)) = false by (simp; omega)]; simp [*])), B_w1.out⟩
    · go_wp2_with fail
      go_ret
      exact HQ.out _ _ ⟨ret_bool (by rw [← seven_is hn]; first | (rw [show decide (48 ≤ n) = true by (simp; omega), show decide (n ≤ 57) = true by (simp; omega)]; rfl) | (rw [show (decide (48 ≤ n) && decide (n ≤ 57)) = false by (simp; omega)]; simp [*])), (Below.refl _ _)⟩
set_option maxRecDepth 100000 in
set_option maxHeartbeats 4000000 in
theorem hlName_any (n : Nat) (w : World)  (hn : n ≤ 127) :
    Calls Try.prog 135 #[.int .u8 (↑n)] w fun e w' => e = .returned (.bool (nmU n)) ∧ Below w.heap.size w w' := by
  have h128 : decide ((n : Int) < 128) = true := by simp; omega
  suffices hQ : ∀ Q : Ending → World → Prop, Hid (∀ (e : Ending) (w' : World), (e = .returned (.bool (nmU n)) ∧ Below w.heap.size w w') → Post1 Q e w') → Calls Try.prog 135 #[.int .u8 (↑n)] w (fun e w' => Post1 Q e w') from hQ (fun e w' => e = .returned (.bool (nmU n)) ∧ Below w.heap.size w w') (fun _ _ h => by unfold Post1; exact h)
  intro Q HQ
  go_enter Try.func135, Try.ntmps135
  cases hc1 : (allB (Utf8.encode (↑n : Int)) ⟨#[95]⟩)
  · go_wp2_with (first
      | (go_at_call 28; (with_reducible refine (hlAll_any (Utf8.encode (↑n : Int)) ⟨#[95]⟩ _ (by have := enc_size (n : Int); omega) (by decide)).mono ?_); rintro e wq ⟨rfl, rfl⟩; rw [hc1]))
    go_ret
    exact HQ.out _ _ ⟨ret_bool (by rw [← under_is hn]; first | exact hc1.symm | (exfalso; omega)), (Below.refl _ _)⟩
  · go_wp2_with (first
      | (go_at_call 28; (with_reducible refine (hlAll_any (Utf8.encode (↑n : Int)) ⟨#[95]⟩ _ (by have := enc_size (n : Int); omega) (by decide)).mono ?_); rintro e wq ⟨rfl, rfl⟩; rw [hc1]))
    go_ret
    exact HQ.out _ _ ⟨ret_bool (by rw [← under_is hn]; first | exact hc1.symm | (exfalso; omega)), (Below.refl _ _)⟩
end Go.Proofs.Ytkjcedlgljeoiaa

/- Expand: hlEnv, under. -/
namespace Go.Proofs.Ytkjcedlgljeoiaa
open Go.RowKit Go.Lib
set_option linter.unusedVariables false
set_option linter.unusedSimpArgs false
set_option maxRecDepth 100000 in
set_option maxHeartbeats 4000000 in
theorem hlEnv_any (A : Option Addr) (c : Nat) (xs : List Ty108) (w : World) (h0 : Rows w (A) 2 (xs.map Ty108.cells)) (hc : xs.length ≤ c) (hk : ∀ x ∈ xs, x.fKey.size ≤ 2147483647) :
    Calls Try.prog 20 #[.slice (A) (xs.length) (c)] w fun e w' => ∃ b : Bool, e = .returned (.bool b) ∧ Below w.heap.size w w' := by
  have hl_xs : xs.length ≤ 9223372036854775807 := by have := h0.1; simpa [strs, ptrs] using this
  have H0 := Lib.hid h0
  clear h0
  suffices hQ : ∀ Q : Ending → World → Prop, Hid (∀ (e : Ending) (w' : World), (∃ b : Bool, e = .returned (.bool b) ∧ Below w.heap.size w w') → Post1 Q e w') → Calls Try.prog 20 #[.slice (A) (xs.length) (c)] w (fun e w' => Post1 Q e w') from hQ (fun e w' => ∃ b : Bool, e = .returned (.bool b) ∧ Below w.heap.size w w') (fun _ _ h => by unfold Post1; exact h)
  intro Q HQ
  go_enter Try.func20, Try.ntmps20
  by_cases hc1 : (20 : Int) < ↑xs.length
  · go_wp2_with fail
    go_ret
    exact HQ.out _ _ ⟨false, rfl, (Below.refl _ _)⟩
  · go_wp2_with fail
    go_loopw [12] (fun v12 wr => ∃ k : Nat, (k ≤ xs.length) ∧ v12 = .int .i64 (↑k) ∧ Hid (Below w.heap.size w wr)) (fun v12 _ => xs.length - (intOf v12).toNat)
    case atStart => exact ⟨0, (by omega), rfl, (Below.refl _ _)⟩
    case round =>
      obtain ⟨k, hk2, rfl, L0_B⟩ := hrel
      by_cases hlt_k : k < xs.length
      · obtain ⟨ad_k, rfl⟩ := (H0.out.below L0_B.out).addr (by simp [strs, ptrs]; omega)
        cases hc2 : (allB xs[k].fKey ⟨#[95]⟩)
        · go_wp2_with (first
            | ((with_reducible refine at_dst (N := 16) rfl ?_); refine ev_loadR rfl 108 _ rfl _ rfl [.string xs[k].fKey, .string xs[k].fText] ((H0.out.below L0_B.out).el (j := k) (row := xs[k].cells) (by simp [hlt_k])) _ Try.underlying108 rfl tsz108 ?_)
            | ((with_reducible refine at_dst (N := 4) rfl ?_); refine ev_alloc rfl 108 rfl _ _ tz108 ?_; intro g4 w1 hg hB hb
               have low_g4 := Nat.le_trans L0_B.out.size hg
               have B_w1 := Lib.hid (below_trans L0_B.out hb)
               have g4_w1 : Hid (Blk w1 g4 108 #[.string ⟨#[]⟩, .string ⟨#[]⟩]) := hB
               clear hB hb)
            | (refine ev_store rfl 108 _ _ rfl g4 _ _ rfl rfl 108 g4_w1.out tsz108 rfl rfl ?_; intro w2 hB hg hz
               have hx := GrX.grown (S := fun k => k = g4) hg rfl
               have B_w2 := Lib.hid (below_grx B_w1.out hx B_w1.out.size (fun k => (fun e => e ▸ low_g4)))
               clear hx
               have g4_w2 : Hid (Blk w2 g4 108 #[.string xs[k].fKey, .string xs[k].fText]) := hB
               clear hB hg hz)
            | ((with_reducible refine at_dst (N := 18) rfl ?_); refine ev_ld rfl 9 _ rfl ⟨g4, 0, none⟩ rfl (.string xs[k].fKey) (g4_w2.out.cell 0) _ Try.underlying9 rfl ?_)
            | (go_at_call 28; (with_reducible refine (hlAll_any xs[k].fKey ⟨#[95]⟩ _ (by have := hk _ (List.getElem_mem hlt_k); omega) (by decide)).mono ?_); rintro e wq ⟨rfl, rfl⟩; rw [hc2]))
          go_ret
          exact HQ.out _ _ ⟨false, rfl, B_w2.out⟩
        · cases hc3 : (shortS xs[k].fKey && shortS xs[k].fText)
          · go_wp2_with (first
              | ((with_reducible refine at_dst (N := 16) rfl ?_); refine ev_loadR rfl 108 _ rfl _ rfl [.string xs[k].fKey, .string xs[k].fText] ((H0.out.below L0_B.out).el (j := k) (row := xs[k].cells) (by simp [hlt_k])) _ Try.underlying108 rfl tsz108 ?_)
              | ((with_reducible refine at_dst (N := 4) rfl ?_); refine ev_alloc rfl 108 rfl _ _ tz108 ?_; intro g4 w1 hg hB hb
                 have low_g4 := Nat.le_trans L0_B.out.size hg
                 have B_w1 := Lib.hid (below_trans L0_B.out hb)
                 have g4_w1 : Hid (Blk w1 g4 108 #[.string ⟨#[]⟩, .string ⟨#[]⟩]) := hB
                 clear hB hb)
              | (refine ev_store rfl 108 _ _ rfl g4 _ _ rfl rfl 108 g4_w1.out tsz108 rfl rfl ?_; intro w2 hB hg hz
                 have hx := GrX.grown (S := fun k => k = g4) hg rfl
                 have B_w2 := Lib.hid (below_grx B_w1.out hx B_w1.out.size (fun k => (fun e => e ▸ low_g4)))
                 clear hx
                 have g4_w2 : Hid (Blk w2 g4 108 #[.string xs[k].fKey, .string xs[k].fText]) := hB
                 clear hB hg hz)
              | ((with_reducible refine at_dst (N := 18) rfl ?_); refine ev_ld rfl 9 _ rfl ⟨g4, 0, none⟩ rfl (.string xs[k].fKey) (g4_w2.out.cell 0) _ Try.underlying9 rfl ?_)
              | (go_at_call 28; (with_reducible refine (hlAll_any xs[k].fKey ⟨#[95]⟩ _ (by have := hk _ (List.getElem_mem hlt_k); omega) (by decide)).mono ?_); rintro e wq ⟨rfl, rfl⟩; rw [hc2])
              | ((with_reducible refine at_dst (N := 23) rfl ?_); refine wl_guard rfl ?_; refine ev_ld rfl 9 _ rfl ⟨g4, 0, none⟩ rfl (.string xs[k].fKey) (g4_w2.out.cell 0) _ Try.underlying9 rfl ?_)
              | ((with_reducible refine at_dst (N := 25) rfl ?_); refine wl_guard rfl ?_; refine ev_ld rfl 9 _ rfl ⟨g4, 1, none⟩ rfl (.string xs[k].fText) (g4_w2.out.cell 1) _ Try.underlying9 rfl ?_)
              | ((with_reducible refine at_dst (N := 26) rfl ?_); refine wl_guard rfl ?_; refine ev_bs rfl 22 9 2 _ rfl #[.string xs[k].fKey, .string xs[k].fText] (by go_simp) ?_; intro g26 w3 hg hB hb
                 have n_g4_g26 : g4 ≠ g26 := by have := g4_w2.out.lt; omega
                 have low_g26 := Nat.le_trans B_w2.out.size hg
                 have g4_w3 := Lib.hid (g4_w2.out.below hb)
                 have B_w3 := Lib.hid (below_trans B_w2.out hb)
                 have g26_w3 : Hid (Blk w3 g26 9 #[.string xs[k].fKey, .string xs[k].fText]) := hB
                 clear hB hb)
              | (go_at_call 19; (with_reducible refine (hlShort2 xs[k].fKey xs[k].fText g26 _ g26_w3.out).mono ?_); rintro e wq ⟨rfl, rfl⟩; rw [hc3]))
            go_ret
            exact HQ.out _ _ ⟨false, rfl, B_w3.out⟩
          · go_wp2_with (first
              | ((with_reducible refine at_dst (N := 16) rfl ?_); refine ev_loadR rfl 108 _ rfl _ rfl [.string xs[k].fKey, .string xs[k].fText] ((H0.out.below L0_B.out).el (j := k) (row := xs[k].cells) (by simp [hlt_k])) _ Try.underlying108 rfl tsz108 ?_)
              | ((with_reducible refine at_dst (N := 4) rfl ?_); refine ev_alloc rfl 108 rfl _ _ tz108 ?_; intro g4 w1 hg hB hb
                 have low_g4 := Nat.le_trans L0_B.out.size hg
                 have B_w1 := Lib.hid (below_trans L0_B.out hb)
                 have g4_w1 : Hid (Blk w1 g4 108 #[.string ⟨#[]⟩, .string ⟨#[]⟩]) := hB
                 clear hB hb)
              | (refine ev_store rfl 108 _ _ rfl g4 _ _ rfl rfl 108 g4_w1.out tsz108 rfl rfl ?_; intro w2 hB hg hz
                 have hx := GrX.grown (S := fun k => k = g4) hg rfl
                 have B_w2 := Lib.hid (below_grx B_w1.out hx B_w1.out.size (fun k => (fun e => e ▸ low_g4)))
                 clear hx
                 have g4_w2 : Hid (Blk w2 g4 108 #[.string xs[k].fKey, .string xs[k].fText]) := hB
                 clear hB hg hz)
              | ((with_reducible refine at_dst (N := 18) rfl ?_); refine ev_ld rfl 9 _ rfl ⟨g4, 0, none⟩ rfl (.string xs[k].fKey) (g4_w2.out.cell 0) _ Try.underlying9 rfl ?_)
              | (go_at_call 28; (with_reducible refine (hlAll_any xs[k].fKey ⟨#[95]⟩ _ (by have := hk _ (List.getElem_mem hlt_k); omega) (by decide)).mono ?_); rintro e wq ⟨rfl, rfl⟩; rw [hc2])
              | ((with_reducible refine at_dst (N := 23) rfl ?_); refine wl_guard rfl ?_; refine ev_ld rfl 9 _ rfl ⟨g4, 0, none⟩ rfl (.string xs[k].fKey) (g4_w2.out.cell 0) _ Try.underlying9 rfl ?_)
              | ((with_reducible refine at_dst (N := 25) rfl ?_); refine wl_guard rfl ?_; refine ev_ld rfl 9 _ rfl ⟨g4, 1, none⟩ rfl (.string xs[k].fText) (g4_w2.out.cell 1) _ Try.underlying9 rfl ?_)
              | ((with_reducible refine at_dst (N := 26) rfl ?_); refine wl_guard rfl ?_; refine ev_bs rfl 22 9 2 _ rfl #[.string xs[k].fKey, .string xs[k].fText] (by go_simp) ?_; intro g26 w3 hg hB hb
                 have n_g4_g26 : g4 ≠ g26 := by have := g4_w2.out.lt; omega
                 have low_g26 := Nat.le_trans B_w2.out.size hg
                 have g4_w3 := Lib.hid (g4_w2.out.below hb)
                 have B_w3 := Lib.hid (below_trans B_w2.out hb)
                 have g26_w3 : Hid (Blk w3 g26 9 #[.string xs[k].fKey, .string xs[k].fText]) := hB
                 clear hB hb)
              | (go_at_call 19; (with_reducible refine (hlShort2 xs[k].fKey xs[k].fText g26 _ g26_w3.out).mono ?_); rintro e wq ⟨rfl, rfl⟩; rw [hc3])
              | ((with_reducible refine at_dst (N := 32) rfl ?_); refine ev_slice_h rfl 40 108 _ _ rfl Try.underlying40 2 tsz108 (some ad_k) xs.length c k rfl rfl (by omega) ?_))
            go_loopw [34] (fun v34 wr => ∃ j : Nat, (j ≤ k) ∧ v34 = .int .i64 (↑j) ∧ Hid (Blk wr g4 108 #[.string xs[k].fKey, .string xs[k].fText]) ∧ Hid (Below w.heap.size w wr)) (fun v34 _ => k - (intOf v34).toNat)
            case atStart => exact ⟨0, (by omega), rfl, g4_w3, B_w3⟩
            case round =>
              obtain ⟨j, hj, rfl, L1_g4, L1_B⟩ := hrel
              by_cases hlt_j : j < k
              · have hjx : j < xs.length := by omega
                cases hc4 : (xs[j].fKey.toList == xs[k].fKey.toList)
                · have hc4' : (xs[j].fKey.toList != xs[k].fKey.toList) = true := by rw [bne, hc4]; rfl
                  go_wp2_with (first
                    | ((with_reducible refine at_dst (N := 37) rfl ?_); refine ev_loadR rfl 108 _ rfl _ rfl [.string xs[j].fKey, .string xs[j].fText] ((H0.out.below L1_B.out).el (j := j) (row := xs[j].cells) (by simp [hjx])) _ Try.underlying108 rfl tsz108 ?_)
                    | ((with_reducible refine at_dst (N := 6) rfl ?_); refine ev_alloc rfl 108 rfl _ _ tz108 ?_; intro g6 w4 hg hB hb
                       have n_g4_g6 : g4 ≠ g6 := by have := L1_g4.out.lt; omega
                       have low_g6 := Nat.le_trans L1_B.out.size hg
                       have g4_w4 := Lib.hid (L1_g4.out.below hb)
                       have B_w4 := Lib.hid (below_trans L1_B.out hb)
                       have g6_w4 : Hid (Blk w4 g6 108 #[.string ⟨#[]⟩, .string ⟨#[]⟩]) := hB
                       clear hB hb)
                    | (refine ev_store rfl 108 _ _ rfl g6 _ _ rfl rfl 108 g6_w4.out tsz108 rfl rfl ?_; intro w5 hB hg hz
                       have hx := GrX.grown (S := fun k => k = g6) hg rfl
                       have g4_w5 := Lib.hid (g4_w4.out.grx hx (fun e => n_g4_g6 e))
                       have B_w5 := Lib.hid (below_grx B_w4.out hx B_w4.out.size (fun k => (fun e => e ▸ low_g6)))
                       clear hx
                       have g6_w5 : Hid (Blk w5 g6 108 #[.string xs[j].fKey, .string xs[j].fText]) := hB
                       clear hB hg hz)
                    | ((with_reducible refine at_dst (N := 39) rfl ?_); refine ev_ld rfl 9 _ rfl ⟨g6, 0, none⟩ rfl (.string xs[j].fKey) (g6_w5.out.cell 0) _ Try.underlying9 rfl ?_)
                    | ((with_reducible refine at_dst (N := 41) rfl ?_); refine ev_ld rfl 9 _ rfl ⟨g4, 0, none⟩ rfl (.string xs[k].fKey) (g4_w5.out.cell 0) _ Try.underlying9 rfl ?_))
                  refine ⟨⟨j + 1, (by omega), by go_num, g4_w5, B_w5⟩, ?_⟩
                  simp [intOf]; omega
                · have hc4' : (xs[j].fKey.toList != xs[k].fKey.toList) = false := by rw [bne, hc4]; rfl
                  go_wp2_with (first
                    | ((with_reducible refine at_dst (N := 37) rfl ?_); refine ev_loadR rfl 108 _ rfl _ rfl [.string xs[j].fKey, .string xs[j].fText] ((H0.out.below L1_B.out).el (j := j) (row := xs[j].cells) (by simp [hjx])) _ Try.underlying108 rfl tsz108 ?_)
                    | ((with_reducible refine at_dst (N := 6) rfl ?_); refine ev_alloc rfl 108 rfl _ _ tz108 ?_; intro g6 w4 hg hB hb
                       have n_g4_g6 : g4 ≠ g6 := by have := L1_g4.out.lt; omega
                       have low_g6 := Nat.le_trans L1_B.out.size hg
                       have g4_w4 := Lib.hid (L1_g4.out.below hb)
                       have B_w4 := Lib.hid (below_trans L1_B.out hb)
                       have g6_w4 : Hid (Blk w4 g6 108 #[.string ⟨#[]⟩, .string ⟨#[]⟩]) := hB
                       clear hB hb)
                    | (refine ev_store rfl 108 _ _ rfl g6 _ _ rfl rfl 108 g6_w4.out tsz108 rfl rfl ?_; intro w5 hB hg hz
                       have hx := GrX.grown (S := fun k => k = g6) hg rfl
                       have g4_w5 := Lib.hid (g4_w4.out.grx hx (fun e => n_g4_g6 e))
                       have B_w5 := Lib.hid (below_grx B_w4.out hx B_w4.out.size (fun k => (fun e => e ▸ low_g6)))
                       clear hx
                       have g6_w5 : Hid (Blk w5 g6 108 #[.string xs[j].fKey, .string xs[j].fText]) := hB
                       clear hB hg hz)
                    | ((with_reducible refine at_dst (N := 39) rfl ?_); refine ev_ld rfl 9 _ rfl ⟨g6, 0, none⟩ rfl (.string xs[j].fKey) (g6_w5.out.cell 0) _ Try.underlying9 rfl ?_)
                    | ((with_reducible refine at_dst (N := 41) rfl ?_); refine ev_ld rfl 9 _ rfl ⟨g4, 0, none⟩ rfl (.string xs[k].fKey) (g4_w5.out.cell 0) _ Try.underlying9 rfl ?_))
                  go_ret
                  exact HQ.out _ _ ⟨false, rfl, B_w5.out⟩
              · obtain rfl : k = j := by omega
                go_wp2_with fail
                refine ⟨⟨k + 1, (by omega), by go_num, L1_B⟩, ?_⟩
                simp [intOf]; omega
      · obtain rfl : k = xs.length := by omega
        go_wp2_with fail
        go_ret
        exact HQ.out _ _ ⟨true, rfl, L0_B.out⟩
def undF (xs : List Ty108) (s : ByteArray) : ByteArray := xs.foldl (fun a x => if x.fKey.toList == s.toList then x.fText else a) ⟨#[]⟩
theorem undF_take {xs : List Ty108} {s : ByteArray} {k : Nat} (h : k < xs.length) : undF (xs.take (k + 1)) s = if xs[k].fKey.toList == s.toList then xs[k].fText else undF (xs.take k) s := by unfold undF; rw [take_snoc h, List.foldl_append]; rfl
theorem undF_size {xs : List Ty108} {s : ByteArray} {n : Nat} (h : ∀ x ∈ xs, x.fText.size ≤ n) : (undF xs s).size ≤ n := by
  unfold undF
  suffices H : ∀ (l : List Ty108) (a : ByteArray), (∀ x ∈ l, x.fText.size ≤ n) → a.size ≤ n → (l.foldl (fun a x => if x.fKey.toList == s.toList then x.fText else a) a).size ≤ n from H xs _ h (Nat.zero_le _)
  intro l
  induction l with
  | nil => intro a _ ha; exact ha
  | cons y ys ih =>
    intro a hl ha
    rw [List.foldl_cons]
    refine ih _ (fun x hx => hl x (List.mem_cons_of_mem _ hx)) ?_
    split
    · exact hl y (List.mem_cons_self ..)
    · exact ha
set_option maxRecDepth 100000 in
set_option maxHeartbeats 4000000 in
theorem under_any (A : Option Addr) (c : Nat) (xs : List Ty108) (s : ByteArray) (w : World) (h0 : Rows w (A) 2 (xs.map Ty108.cells))  :
    Calls Try.prog 71 #[.slice (A) (xs.length) (c), .string s] w fun e w' => e = .returned (.string (undF xs s)) ∧ Below w.heap.size w w' := by
  have hl_xs : xs.length ≤ 9223372036854775807 := by have := h0.1; simpa [strs, ptrs] using this
  have H0 := Lib.hid h0
  clear h0
  suffices hQ : ∀ Q : Ending → World → Prop, Hid (∀ (e : Ending) (w' : World), (e = .returned (.string (undF xs s)) ∧ Below w.heap.size w w') → Post1 Q e w') → Calls Try.prog 71 #[.slice (A) (xs.length) (c), .string s] w (fun e w' => Post1 Q e w') from hQ (fun e w' => e = .returned (.string (undF xs s)) ∧ Below w.heap.size w w') (fun _ _ h => by unfold Post1; exact h)
  intro Q HQ
  go_enter Try.func71, Try.ntmps71
  go_wp2_with fail
  go_loopw [5, 10] (fun v5 v10 wr => ∃ k : Nat, (k ≤ xs.length) ∧ v5 = .string (undF (xs.take k) s) ∧ v10 = .int .i64 (↑k) ∧ Hid (Below w.heap.size w wr)) (fun v5 v10 _ => xs.length - (intOf v10).toNat)
  case atStart => exact ⟨0, (by omega), rfl, rfl, (Below.refl _ _)⟩
  case round =>
    obtain ⟨k, hk2, rfl, rfl, L0_B⟩ := hrel
    by_cases hlt_k : k < xs.length
    · obtain ⟨ad_k, rfl⟩ := (H0.out.below L0_B.out).addr (by simp [strs, ptrs]; omega)
      cases hc1 : (xs[k].fKey.toList == s.toList)
      · have hc1' : (xs[k].fKey.toList != s.toList) = true := by rw [bne, hc1]; rfl
        go_wp2_with (first
          | ((with_reducible refine at_dst (N := 13) rfl ?_); refine ev_loadR rfl 108 _ rfl _ rfl [.string xs[k].fKey, .string xs[k].fText] ((H0.out.below L0_B.out).el (j := k) (row := xs[k].cells) (by simp [hlt_k])) _ Try.underlying108 rfl tsz108 ?_)
          | ((with_reducible refine at_dst (N := 7) rfl ?_); refine ev_alloc rfl 108 rfl _ _ tz108 ?_; intro g7 w1 hg hB hb
             have low_g7 := Nat.le_trans L0_B.out.size hg
             have B_w1 := Lib.hid (below_trans L0_B.out hb)
             have g7_w1 : Hid (Blk w1 g7 108 #[.string ⟨#[]⟩, .string ⟨#[]⟩]) := hB
             clear hB hb)
          | (refine ev_store rfl 108 _ _ rfl g7 _ _ rfl rfl 108 g7_w1.out tsz108 rfl rfl ?_; intro w2 hB hg hz
             have hx := GrX.grown (S := fun k => k = g7) hg rfl
             have B_w2 := Lib.hid (below_grx B_w1.out hx B_w1.out.size (fun k => (fun e => e ▸ low_g7)))
             clear hx
             have g7_w2 : Hid (Blk w2 g7 108 #[.string xs[k].fKey, .string xs[k].fText]) := hB
             clear hB hg hz)
          | ((with_reducible refine at_dst (N := 15) rfl ?_); refine ev_ld rfl 9 _ rfl ⟨g7, 0, none⟩ rfl (.string xs[k].fKey) (g7_w2.out.cell 0) _ Try.underlying9 rfl ?_))
        refine ⟨⟨k + 1, (by omega), (by rw [undF_take hlt_k]; simp only [*]; rfl), by go_num, B_w2⟩, ?_⟩
        simp [intOf]; omega
      · have hc1' : (xs[k].fKey.toList != s.toList) = false := by rw [bne, hc1]; rfl
        go_wp2_with (first
          | ((with_reducible refine at_dst (N := 13) rfl ?_); refine ev_loadR rfl 108 _ rfl _ rfl [.string xs[k].fKey, .string xs[k].fText] ((H0.out.below L0_B.out).el (j := k) (row := xs[k].cells) (by simp [hlt_k])) _ Try.underlying108 rfl tsz108 ?_)
          | ((with_reducible refine at_dst (N := 7) rfl ?_); refine ev_alloc rfl 108 rfl _ _ tz108 ?_; intro g7 w1 hg hB hb
             have low_g7 := Nat.le_trans L0_B.out.size hg
             have B_w1 := Lib.hid (below_trans L0_B.out hb)
             have g7_w1 : Hid (Blk w1 g7 108 #[.string ⟨#[]⟩, .string ⟨#[]⟩]) := hB
             clear hB hb)
          | (refine ev_store rfl 108 _ _ rfl g7 _ _ rfl rfl 108 g7_w1.out tsz108 rfl rfl ?_; intro w2 hB hg hz
             have hx := GrX.grown (S := fun k => k = g7) hg rfl
             have B_w2 := Lib.hid (below_grx B_w1.out hx B_w1.out.size (fun k => (fun e => e ▸ low_g7)))
             clear hx
             have g7_w2 : Hid (Blk w2 g7 108 #[.string xs[k].fKey, .string xs[k].fText]) := hB
             clear hB hg hz)
          | ((with_reducible refine at_dst (N := 15) rfl ?_); refine ev_ld rfl 9 _ rfl ⟨g7, 0, none⟩ rfl (.string xs[k].fKey) (g7_w2.out.cell 0) _ Try.underlying9 rfl ?_)
          | ((with_reducible refine at_dst (N := 19) rfl ?_); refine ev_ld rfl 9 _ rfl ⟨g7, 1, none⟩ rfl (.string xs[k].fText) (g7_w2.out.cell 1) _ Try.underlying9 rfl ?_))
        refine ⟨⟨k + 1, (by omega), (by rw [undF_take hlt_k]; simp only [*]; rfl), by go_num, B_w2⟩, ?_⟩
        simp [intOf]; omega
    · obtain rfl : k = xs.length := by omega
      rw [List.take_length]
      go_wp2_with fail
      go_ret
      exact HQ.out _ _ ⟨rfl, L0_B.out⟩
end Go.Proofs.Ytkjcedlgljeoiaa

/- Expand: the name behind a dollar sign, by the program and by the reference. -/
namespace Go.Proofs.Ytkjcedlgljeoiaa
open Go.RowKit Go.Lib

/-- The byte at a place, 0 behind the end. -/
def bt (s : ByteArray) (j : Nat) : Nat := if h : j < s.size then s[j].toNat else 0
theorem bt_at {s : ByteArray} {j : Nat} (h : j < s.size) : bt s j = s[j].toNat := by unfold bt; rw [dif_pos h]
def brk (s : ByteArray) : Bool := decide (2 < s.size) && spU (bt s 1) && bt s 2 == 125
def cls (s : ByteArray) (j : Nat) : Bool := decide (1 ≤ j) && bt s j == 125
def nmLen (s : ByteArray) : Nat := (firstN (fun j => !nmU (bt s j)) s.size).getD s.size
def shF (s : ByteArray) : ByteArray × Nat :=
  if bt s 0 = 123 then
    if brk s then (s.extract 1 2, 3) else match firstN (cls s) s.size with
      | some i => (s.extract 1 i, i + 1)
      | none => (⟨#[]⟩, 1)
  else if spU (bt s 0) then (s.extract 0 1, 1) else (s.extract 0 (nmLen s), nmLen s)
theorem ext_nil (s : ByteArray) : s.extract 1 1 = ⟨#[]⟩ := by
  apply ByteArray.ext
  apply Array.eq_empty_of_size_eq_zero
  show (s.extract 1 1).size = 0
  simp
theorem shF_brk {s : ByteArray} (h0 : 0 < s.size) (h : s[0].toNat = 123) (hb : brk s = true) : shF s = (s.extract 1 2, 3) := by
  unfold shF; rw [if_pos (by rw [bt_at h0]; exact h), if_pos hb]
theorem shF_some {s : ByteArray} {k : Nat} (h0 : 0 < s.size) (h : s[0].toNat = 123) (hb : brk s = false) (hk1 : 1 ≤ k) (hk : k < s.size) (hn : ∀ j, ∀ h : j < s.size, 1 ≤ j → j < k → s[j].toNat ≠ 125) (hy : s[k].toNat = 125) : shF s = (s.extract 1 k, k + 1) := by
  have f : firstN (cls s) s.size = some k := firstN_some hk (fun j hj => by
    unfold cls
    by_cases h1 : 1 ≤ j
    · have := hn j (by omega) h1 hj
      simp [bt_at (show j < s.size by omega), this]
    · simp [h1]) (by simp [cls, hk1, bt_at hk, hy])
  unfold shF; rw [if_pos (by rw [bt_at h0]; exact h), hb, f]; rfl
theorem shF_none {s : ByteArray} (h0 : 0 < s.size) (h : s[0].toNat = 123) (hb : brk s = false) (hn : ∀ j, ∀ h : j < s.size, 1 ≤ j → s[j].toNat ≠ 125) : shF s = (⟨#[]⟩, 1) := by
  have f : firstN (cls s) s.size = none := firstN_none (fun j hj => by
    unfold cls
    by_cases h1 : 1 ≤ j
    · simp [bt_at hj, hn j hj h1]
    · simp [h1])
  unfold shF; rw [if_pos (by rw [bt_at h0]; exact h), hb, f]; rfl
theorem shF_sp {s : ByteArray} (h0 : 0 < s.size) (h : s[0].toNat ≠ 123) (hs : spU s[0].toNat = true) : shF s = (s.extract 0 1, 1) := by
  unfold shF; rw [bt_at h0, if_neg h, if_pos hs]
theorem shF_nm {s : ByteArray} {k : Nat} (h0 : 0 < s.size) (h : s[0].toNat ≠ 123) (hs : spU s[0].toNat = false) (hk : k ≤ s.size) (hy : ∀ j, ∀ h : j < s.size, j < k → nmU s[j].toNat = true) (hn : ∀ h : k < s.size, nmU s[k].toNat = false) : shF s = (s.extract 0 k, k) := by
  have e : nmLen s = k := by
    unfold nmLen
    by_cases hl : k < s.size
    · rw [firstN_some hl (fun j hj => by rw [bt_at (show j < s.size by omega), hy j (by omega) hj]; rfl) (by rw [bt_at hl, hn hl]; rfl)]; rfl
    · rw [firstN_none (fun j hj => by rw [bt_at hj, hy j hj (by omega)]; rfl)]; show s.size = k; omega
  unfold shF; rw [bt_at h0, if_neg h, hs, e]; rfl
theorem ret_two {a b : ByteArray} {m : Int} {n : Nat} {p : ByteArray × Nat} (h : p = (b, n)) (ha : a = b) (hm : m = (n : Int)) : Ending.returned (.tuple #[.string a, .int .i64 m]) = .returned (.tuple #[.string p.1, .int .i64 p.2]) := by subst h ha hm; rfl
theorem ne_of_eqF {n m : Nat} (h : ((n : Int) == (m : Int)) = false) : n ≠ m := fun e => by subst e; simp at h
theorem eq_of_eqT {n m : Nat} (h : ((n : Int) == (m : Int)) = true) : n = m := by
  have : (n : Int) = m := by simpa using h
  omega
set_option maxRecDepth 100000 in
set_option maxHeartbeats 4000000 in
theorem shellName_any (s : ByteArray) (w : World) (h0 : 0 < s.size) (hs : s.size ≤ 1099511627776) :
    Calls Try.prog 133 #[.string s] w fun e w' => e = .returned (.tuple #[.string (shF s).1, .int .i64 (shF s).2]) ∧ w = w' := by
  have hz : s[0].toNat ≤ 255 := by have := s[0].toNat_lt; omega
  cases a0 : ((s[0].toNat : Int) == 123)
  · have n0 : s[0].toNat ≠ 123 := ne_of_eqF (m := 123) a0
    cases a1 : spU s[0].toNat
    · have HS := Lib.hid a1
      go_enter Try.func133, Try.ntmps133
      go_wp2_with (go_at_call 187; (with_reducible refine (special_any s[0].toNat _ (by omega)).mono ?_); rintro e w' ⟨rfl, rfl⟩; rw [a1])
      go_loop [5] (fun i => ∃ k : Nat, k ≤ s.size ∧ i = .int .i64 k ∧ Hid (∀ j, ∀ h : j < s.size, j < k → nmU s[j].toNat = true)) (fun i => s.size - (intOf i).toNat)
      case atStart => exact ⟨0, by omega, rfl, fun j h hj => by omega⟩
      case round =>
        obtain ⟨k, hk, rfl, HN⟩ := hrel
        by_cases hlt : k < s.size
        · have hz2 : s[k].toNat ≤ 255 := by have := s[k].toNat_lt; omega
          cases b : nmU s[k].toNat
          · have HR := Lib.hid (shF_nm h0 n0 HS.out hk HN.out (fun _ => b))
            clear HN
            go_wp2_with (go_at_call 188; (with_reducible refine (alnum_any s[k].toNat _ (by omega)).mono ?_); rintro e w' ⟨rfl, rfl⟩; rw [b])
            go_ret2
            exact ⟨ret_two (HR.out) (by rfl) (by omega), rfl⟩
          · have HN2 : Hid (∀ j, ∀ h : j < s.size, j < k + 1 → nmU s[j].toNat = true) := fun j h hj => by
              by_cases e : j = k
              · subst e; exact b
              · exact HN.out j h (by omega)
            clear HN
            go_wp2_with (go_at_call 188; (with_reducible refine (alnum_any s[k].toNat _ (by omega)).mono ?_); rintro e w' ⟨rfl, rfl⟩; rw [b])
            refine ⟨⟨k + 1, by omega, by go_num, HN2⟩, ?_⟩
            simp [intOf]; omega
        · have HR := Lib.hid (shF_nm h0 n0 HS.out hk HN.out (fun h => absurd h hlt))
          clear HN
          go_wp2
          go_ret2
          exact ⟨ret_two (HR.out) (by rfl) (by omega), rfl⟩
    · have HR := Lib.hid (shF_sp h0 n0 a1)
      go_enter Try.func133, Try.ntmps133
      go_wp2_with (go_at_call 187; (with_reducible refine (special_any s[0].toNat _ (by omega)).mono ?_); rintro e w' ⟨rfl, rfl⟩; rw [a1])
      go_ret2
      exact ⟨ret_two (HR.out) (by rfl) (by omega), rfl⟩
  · have n0 : s[0].toNat = 123 := eq_of_eqT (m := 123) a0
    by_cases h2 : 2 < s.size
    · have hz1 : s[1].toNat ≤ 255 := by have := s[1].toNat_lt; omega
      cases a1 : spU s[1].toNat
      · have HBk := Lib.hid (show brk s = false by simp [brk, bt_at (show 1 < s.size by omega), a1])
        go_enter Try.func133, Try.ntmps133
        go_wp2_with (go_at_call 187; (with_reducible refine (special_any s[1].toNat _ (by omega)).mono ?_); rintro e w' ⟨rfl, rfl⟩; rw [a1])
        go_loop [4] (fun i => ∃ k : Nat, 1 ≤ k ∧ k ≤ s.size ∧ i = .int .i64 k ∧ Hid (∀ j, ∀ h : j < s.size, 1 ≤ j → j < k → s[j].toNat ≠ 125)) (fun i => s.size - (intOf i).toNat)
        case atStart => exact ⟨1, by omega, by omega, rfl, fun j h hj hj2 => by omega⟩
        case round =>
          obtain ⟨k, hk1, hk, rfl, HN⟩ := hrel
          by_cases hlt : k < s.size
          · cases b : ((s[k].toNat : Int) == 125)
            · have HN2 : Hid (∀ j, ∀ h : j < s.size, 1 ≤ j → j < k + 1 → s[j].toNat ≠ 125) := fun j h hj hj2 => by
                by_cases e : j = k
                · subst e; exact ne_of_eqF (m := 125) b
                · exact HN.out j h hj (by omega)
              clear HN
              go_wp2
              refine ⟨⟨k + 1, by omega, by omega, by go_num, HN2⟩, ?_⟩
              simp [intOf]; omega
            · have HR := Lib.hid (shF_some h0 n0 HBk.out hk1 hlt HN.out (eq_of_eqT (m := 125) b))
              clear HN
              cases c1 : ((k : Int) == 1)
              · go_wp2
                go_ret2
                exact ⟨ret_two (HR.out) (by rfl) (by omega), rfl⟩
              · have e1 : k = 1 := eq_of_eqT (m := 1) c1
                subst e1
                go_wp2
                go_ret2
                exact ⟨ret_two (HR.out) (ext_nil s).symm (by omega), rfl⟩
          · have HR := Lib.hid (shF_none h0 n0 HBk.out (fun j h hj => HN.out j h hj (by omega)))
            clear HN
            go_wp2
            go_ret2
            exact ⟨ret_two (HR.out) (by rfl) (by omega), rfl⟩
      · cases a2 : ((s[2].toNat : Int) == 125)
        · have n2 := ne_of_eqF (m := 125) a2
          have HBk := Lib.hid (show brk s = false by simp [brk, bt_at h2, n2])
          go_enter Try.func133, Try.ntmps133
          go_wp2_with (go_at_call 187; (with_reducible refine (special_any s[1].toNat _ (by omega)).mono ?_); rintro e w' ⟨rfl, rfl⟩; rw [a1])
          go_loop [4] (fun i => ∃ k : Nat, 1 ≤ k ∧ k ≤ s.size ∧ i = .int .i64 k ∧ Hid (∀ j, ∀ h : j < s.size, 1 ≤ j → j < k → s[j].toNat ≠ 125)) (fun i => s.size - (intOf i).toNat)
          case atStart => exact ⟨1, by omega, by omega, rfl, fun j h hj hj2 => by omega⟩
          case round =>
            obtain ⟨k, hk1, hk, rfl, HN⟩ := hrel
            by_cases hlt : k < s.size
            · cases b : ((s[k].toNat : Int) == 125)
              · have HN2 : Hid (∀ j, ∀ h : j < s.size, 1 ≤ j → j < k + 1 → s[j].toNat ≠ 125) := fun j h hj hj2 => by
                  by_cases e : j = k
                  · subst e; exact ne_of_eqF (m := 125) b
                  · exact HN.out j h hj (by omega)
                clear HN
                go_wp2
                refine ⟨⟨k + 1, by omega, by omega, by go_num, HN2⟩, ?_⟩
                simp [intOf]; omega
              · have HR := Lib.hid (shF_some h0 n0 HBk.out hk1 hlt HN.out (eq_of_eqT (m := 125) b))
                clear HN
                cases c1 : ((k : Int) == 1)
                · go_wp2
                  go_ret2
                  exact ⟨ret_two (HR.out) (by rfl) (by omega), rfl⟩
                · have e1 : k = 1 := eq_of_eqT (m := 1) c1
                  subst e1
                  go_wp2
                  go_ret2
                  exact ⟨ret_two (HR.out) (ext_nil s).symm (by omega), rfl⟩
            · have HR := Lib.hid (shF_none h0 n0 HBk.out (fun j h hj => HN.out j h hj (by omega)))
              clear HN
              go_wp2
              go_ret2
              exact ⟨ret_two (HR.out) (by rfl) (by omega), rfl⟩
        · have n2 := eq_of_eqT (m := 125) a2
          have HR := Lib.hid (shF_brk h0 n0 (show brk s = true by simp [brk, bt_at h2, bt_at (show 1 < s.size by omega), n2, a1, h2]))
          go_enter Try.func133, Try.ntmps133
          go_wp2_with (go_at_call 187; (with_reducible refine (special_any s[1].toNat _ (by omega)).mono ?_); rintro e w' ⟨rfl, rfl⟩; rw [a1])
          go_ret2
          exact ⟨ret_two (HR.out) (by rfl) (by omega), rfl⟩
    · have HBk := Lib.hid (show brk s = false by simp [brk, h2])
      go_enter Try.func133, Try.ntmps133
      go_wp2
      go_loop [4] (fun i => ∃ k : Nat, 1 ≤ k ∧ k ≤ s.size ∧ i = .int .i64 k ∧ Hid (∀ j, ∀ h : j < s.size, 1 ≤ j → j < k → s[j].toNat ≠ 125)) (fun i => s.size - (intOf i).toNat)
      case atStart => exact ⟨1, by omega, by omega, rfl, fun j h hj hj2 => by omega⟩
      case round =>
        obtain ⟨k, hk1, hk, rfl, HN⟩ := hrel
        by_cases hlt : k < s.size
        · cases b : ((s[k].toNat : Int) == 125)
          · have HN2 : Hid (∀ j, ∀ h : j < s.size, 1 ≤ j → j < k + 1 → s[j].toNat ≠ 125) := fun j h hj hj2 => by
              by_cases e : j = k
              · subst e; exact ne_of_eqF (m := 125) b
              · exact HN.out j h hj (by omega)
            clear HN
            go_wp2
            refine ⟨⟨k + 1, by omega, by omega, by go_num, HN2⟩, ?_⟩
            simp [intOf]; omega
          · have HR := Lib.hid (shF_some h0 n0 HBk.out hk1 hlt HN.out (eq_of_eqT (m := 125) b))
            clear HN
            cases c1 : ((k : Int) == 1)
            · go_wp2
              go_ret2
              exact ⟨ret_two (HR.out) (by rfl) (by omega), rfl⟩
            · have e1 : k = 1 := eq_of_eqT (m := 1) c1
              subst e1
              go_wp2
              go_ret2
              exact ⟨ret_two (HR.out) (ext_nil s).symm (by omega), rfl⟩
        · have HR := Lib.hid (shF_none h0 n0 HBk.out (fun j h hj => HN.out j h hj (by omega)))
          clear HN
          go_wp2
          go_ret2
          exact ⟨ret_two (HR.out) (by rfl) (by omega), rfl⟩
set_option maxRecDepth 100000 in
set_option maxHeartbeats 4000000 in
theorem hlVariable_any (s : ByteArray) (w : World) (h0 : 0 < s.size) (hs : s.size ≤ 1099511627776) (ha : ∀ j, ∀ h : j < s.size, s[j].toNat ≤ 127) :
    Calls Try.prog 72 #[.string s] w fun e w' => e = .returned (.tuple #[.string (shF s).1, .int .i64 (shF s).2]) ∧ Below w.heap.size w w' := by
  have hz : s[0].toNat ≤ 255 := by have := s[0].toNat_lt; omega
  have hz7 := ha 0 h0
  have HA := Lib.hid ha
  clear ha
  cases a0 : ((s[0].toNat : Int) == 123)
  · have n0 : s[0].toNat ≠ 123 := ne_of_eqF (m := 123) a0
    cases a1 : spU s[0].toNat
    · have HS := Lib.hid a1
      go_enter Try.func72, Try.ntmps72
      go_wp2_with (go_at_call 134; (with_reducible refine (hlSpecial_any s[0].toNat _ (by omega)).mono ?_); rintro e w' ⟨rfl, hb⟩; rw [a1])
      go_loopw [5] (fun i wr => ∃ k : Nat, k ≤ s.size ∧ i = .int .i64 k ∧ Hid (∀ j, ∀ h : j < s.size, j < k → nmU s[j].toNat = true) ∧ Hid (Below w.heap.size w wr)) (fun i _ => s.size - (intOf i).toNat)
      case atStart => exact ⟨0, by omega, rfl, fun j h hj => by omega, hb⟩
      case round =>
        obtain ⟨k, hk, rfl, HN, HB⟩ := hrel
        by_cases hlt : k < s.size
        · have hz2 : s[k].toNat ≤ 255 := by have := s[k].toNat_lt; omega
          have hz3 := HA.out k hlt
          cases b : nmU s[k].toNat
          · have HR := Lib.hid (shF_nm h0 n0 HS.out hk HN.out (fun _ => b))
            clear HN
            go_wp2_with (go_at_call 135; (with_reducible refine (hlName_any s[k].toNat _ (by omega)).mono ?_); rintro e w' ⟨rfl, hb2⟩; rw [b])
            go_ret2
            exact ⟨ret_two (HR.out) (by rfl) (by omega), below_trans HB.out hb2⟩
          · have HN2 : Hid (∀ j, ∀ h : j < s.size, j < k + 1 → nmU s[j].toNat = true) := fun j h hj => by
              by_cases e : j = k
              · subst e; exact b
              · exact HN.out j h (by omega)
            clear HN
            go_wp2_with (go_at_call 135; (with_reducible refine (hlName_any s[k].toNat _ (by omega)).mono ?_); rintro e w' ⟨rfl, hb2⟩; rw [b])
            refine ⟨⟨k + 1, by omega, by go_num, HN2, below_trans HB.out hb2⟩, ?_⟩
            simp [intOf]; omega
        · have HR := Lib.hid (shF_nm h0 n0 HS.out hk HN.out (fun h => absurd h hlt))
          clear HN
          go_wp2
          go_ret2
          exact ⟨ret_two (HR.out) (by rfl) (by omega), HB.out⟩
    · have HR := Lib.hid (shF_sp h0 n0 a1)
      go_enter Try.func72, Try.ntmps72
      go_wp2_with (go_at_call 134; (with_reducible refine (hlSpecial_any s[0].toNat _ (by omega)).mono ?_); rintro e w' ⟨rfl, hb⟩; rw [a1])
      go_ret2
      exact ⟨ret_two (HR.out) (by rfl) (by omega), hb⟩
  · have n0 : s[0].toNat = 123 := eq_of_eqT (m := 123) a0
    by_cases h2 : 2 < s.size
    · have hz1 : s[1].toNat ≤ 255 := by have := s[1].toNat_lt; omega
      have hz17 := HA.out 1 (by omega)
      cases a1 : spU s[1].toNat
      · have HBk := Lib.hid (show brk s = false by simp [brk, bt_at (show 1 < s.size by omega), a1])
        go_enter Try.func72, Try.ntmps72
        go_wp2_with (go_at_call 134; (with_reducible refine (hlSpecial_any s[1].toNat _ (by omega)).mono ?_); rintro e w' ⟨rfl, hb⟩; rw [a1])
        go_loopw [4] (fun i wr => ∃ k : Nat, 1 ≤ k ∧ k ≤ s.size ∧ i = .int .i64 k ∧ Hid (∀ j, ∀ h : j < s.size, 1 ≤ j → j < k → s[j].toNat ≠ 125) ∧ Hid (Below w.heap.size w wr)) (fun i _ => s.size - (intOf i).toNat)
        case atStart => exact ⟨1, by omega, by omega, rfl, fun j h hj hj2 => by omega, hb⟩
        case round =>
          obtain ⟨k, hk1, hk, rfl, HN, HB⟩ := hrel
          by_cases hlt : k < s.size
          · cases b : ((s[k].toNat : Int) == 125)
            · have HN2 : Hid (∀ j, ∀ h : j < s.size, 1 ≤ j → j < k + 1 → s[j].toNat ≠ 125) := fun j h hj hj2 => by
                by_cases e : j = k
                · subst e; exact ne_of_eqF (m := 125) b
                · exact HN.out j h hj (by omega)
              clear HN
              go_wp2
              refine ⟨⟨k + 1, by omega, by omega, by go_num, HN2, HB⟩, ?_⟩
              simp [intOf]; omega
            · have HR := Lib.hid (shF_some h0 n0 HBk.out hk1 hlt HN.out (eq_of_eqT (m := 125) b))
              clear HN
              go_wp2
              go_ret2
              exact ⟨ret_two (HR.out) (by rfl) (by omega), HB.out⟩
          · have HR := Lib.hid (shF_none h0 n0 HBk.out (fun j h hj => HN.out j h hj (by omega)))
            clear HN
            go_wp2
            go_ret2
            exact ⟨ret_two (HR.out) (by rfl) (by omega), HB.out⟩
      · cases a2 : ((s[2].toNat : Int) == 125)
        · have n2 := ne_of_eqF (m := 125) a2
          have HBk := Lib.hid (show brk s = false by simp [brk, bt_at h2, n2])
          go_enter Try.func72, Try.ntmps72
          go_wp2_with (go_at_call 134; (with_reducible refine (hlSpecial_any s[1].toNat _ (by omega)).mono ?_); rintro e w' ⟨rfl, hb⟩; rw [a1])
          go_loopw [4] (fun i wr => ∃ k : Nat, 1 ≤ k ∧ k ≤ s.size ∧ i = .int .i64 k ∧ Hid (∀ j, ∀ h : j < s.size, 1 ≤ j → j < k → s[j].toNat ≠ 125) ∧ Hid (Below w.heap.size w wr)) (fun i _ => s.size - (intOf i).toNat)
          case atStart => exact ⟨1, by omega, by omega, rfl, fun j h hj hj2 => by omega, hb⟩
          case round =>
            obtain ⟨k, hk1, hk, rfl, HN, HB⟩ := hrel
            by_cases hlt : k < s.size
            · cases b : ((s[k].toNat : Int) == 125)
              · have HN2 : Hid (∀ j, ∀ h : j < s.size, 1 ≤ j → j < k + 1 → s[j].toNat ≠ 125) := fun j h hj hj2 => by
                  by_cases e : j = k
                  · subst e; exact ne_of_eqF (m := 125) b
                  · exact HN.out j h hj (by omega)
                clear HN
                go_wp2
                refine ⟨⟨k + 1, by omega, by omega, by go_num, HN2, HB⟩, ?_⟩
                simp [intOf]; omega
              · have HR := Lib.hid (shF_some h0 n0 HBk.out hk1 hlt HN.out (eq_of_eqT (m := 125) b))
                clear HN
                go_wp2
                go_ret2
                exact ⟨ret_two (HR.out) (by rfl) (by omega), HB.out⟩
            · have HR := Lib.hid (shF_none h0 n0 HBk.out (fun j h hj => HN.out j h hj (by omega)))
              clear HN
              go_wp2
              go_ret2
              exact ⟨ret_two (HR.out) (by rfl) (by omega), HB.out⟩
        · have n2 := eq_of_eqT (m := 125) a2
          have HR := Lib.hid (shF_brk h0 n0 (show brk s = true by simp [brk, bt_at h2, bt_at (show 1 < s.size by omega), n2, a1, h2]))
          go_enter Try.func72, Try.ntmps72
          go_wp2_with (go_at_call 134; (with_reducible refine (hlSpecial_any s[1].toNat _ (by omega)).mono ?_); rintro e w' ⟨rfl, hb⟩; rw [a1])
          go_ret2
          exact ⟨ret_two (HR.out) (by rfl) (by omega), hb⟩
    · have HBk := Lib.hid (show brk s = false by simp [brk, h2])
      go_enter Try.func72, Try.ntmps72
      go_wp2
      go_loopw [4] (fun i wr => ∃ k : Nat, 1 ≤ k ∧ k ≤ s.size ∧ i = .int .i64 k ∧ Hid (∀ j, ∀ h : j < s.size, 1 ≤ j → j < k → s[j].toNat ≠ 125) ∧ Hid (Below w.heap.size w wr)) (fun i _ => s.size - (intOf i).toNat)
      case atStart => exact ⟨1, by omega, by omega, rfl, fun j h hj hj2 => by omega, Below.refl _ _⟩
      case round =>
        obtain ⟨k, hk1, hk, rfl, HN, HB⟩ := hrel
        by_cases hlt : k < s.size
        · cases b : ((s[k].toNat : Int) == 125)
          · have HN2 : Hid (∀ j, ∀ h : j < s.size, 1 ≤ j → j < k + 1 → s[j].toNat ≠ 125) := fun j h hj hj2 => by
              by_cases e : j = k
              · subst e; exact ne_of_eqF (m := 125) b
              · exact HN.out j h hj (by omega)
            clear HN
            go_wp2
            refine ⟨⟨k + 1, by omega, by omega, by go_num, HN2, HB⟩, ?_⟩
            simp [intOf]; omega
          · have HR := Lib.hid (shF_some h0 n0 HBk.out hk1 hlt HN.out (eq_of_eqT (m := 125) b))
            clear HN
            go_wp2
            go_ret2
            exact ⟨ret_two (HR.out) (by rfl) (by omega), HB.out⟩
        · have HR := Lib.hid (shF_none h0 n0 HBk.out (fun j h hj => HN.out j h hj (by omega)))
          clear HN
          go_wp2
          go_ret2
          exact ⟨ret_two (HR.out) (by rfl) (by omega), HB.out⟩
end Go.Proofs.Ytkjcedlgljeoiaa

/- Expand: the closure; the value of the whole. -/
namespace Go.Proofs.Ytkjcedlgljeoiaa
open Go.RowKit Go.Lib
set_option linter.unusedVariables false
set_option linter.unusedSimpArgs false
def pcF (xs : List Ty108) (p : ByteArray × Nat) : ByteArray := if p.1.toList == [] then (if p.2 = 0 then ⟨#[36]⟩ else ⟨#[]⟩) else undF xs p.1
def vrF (s : ByteArray) (j : Nat) : ByteArray × Nat := shF (s.extract (j + 1) s.size)
def exF (xs : List Ty108) (s : ByteArray) (j : Nat) : ByteArray :=
  if _h : j < s.size then
    if bt s j = 36 ∧ j + 1 < s.size then pcF xs (vrF s j) ++ exF xs s (j + 1 + (vrF s j).2)
    else s.extract j (j + 1) ++ exF xs s (j + 1)
  else ⟨#[]⟩
termination_by s.size - j
decreasing_by all_goals omega
theorem exF_end {xs : List Ty108} {s : ByteArray} {j : Nat} (h : s.size ≤ j) : exF xs s j = ⟨#[]⟩ := by rw [exF, dif_neg (by omega)]
theorem exF_one {xs : List Ty108} {s : ByteArray} {j : Nat} (h : j < s.size) (hn : s[j].toNat ≠ 36 ∨ j + 1 = s.size) : exF xs s j = s.extract j (j + 1) ++ exF xs s (j + 1) := by
  rw [exF, dif_pos h, if_neg]
  rw [bt_at h]; omega
theorem exF_var {xs : List Ty108} {s : ByteArray} {j : Nat} (h : j + 1 < s.size) (hn : s[j].toNat = 36) : exF xs s j = pcF xs (vrF s j) ++ exF xs s (j + 1 + (vrF s j).2) := by
  rw [exF, dif_pos (by omega), if_pos]
  rw [bt_at (show j < s.size by omega)]; omega
theorem shF_le {s : ByteArray} (h0 : 0 < s.size) : (shF s).2 ≤ s.size := by
  unfold shF
  split
  · split
    · next h => simp only [brk, Bool.and_eq_true, decide_eq_true_eq] at h; show 3 ≤ _; omega
    · split
      · next i hi => have := (List.find?_range_eq_some.1 hi).2.1; have := List.mem_range.1 this; show i + 1 ≤ _; omega
      · show 1 ≤ _; omega
  · split
    · show 1 ≤ _; omega
    · show nmLen s ≤ _
      unfold nmLen
      cases hf : firstN (fun j => !nmU (bt s j)) s.size with
      | none => exact Nat.le_refl _
      | some i => have := (List.find?_range_eq_some.1 hf).2.1; have := List.mem_range.1 this; show i ≤ _; omega
theorem vrF_le {s : ByteArray} {j : Nat} (h : j + 1 < s.size) : j + 1 + (vrF s j).2 ≤ s.size := by
  have h1 := shF_le (s := s.extract (j + 1) s.size) (by simp; omega)
  unfold vrF
  simp only [ByteArray.size_extract] at h1
  omega
theorem ext_step {s : ByteArray} {i j : Nat} (h : i ≤ j) (_hj : j < s.size) : s.extract i (j + 1) = s.extract i j ++ s.extract j (j + 1) := by
  simp [h]
theorem pcF_size {xs : List Ty108} {n : Nat} (hn : 1 ≤ n) (h : ∀ x ∈ xs, x.fText.size ≤ n) (p : ByteArray × Nat) : (pcF xs p).size ≤ n := by
  unfold pcF
  split
  · split
    · exact hn
    · exact Nat.zero_le _
  · exact undF_size h
end Go.Proofs.Ytkjcedlgljeoiaa

/- plain.Expand, by the quick walk. -/
namespace Go.Proofs.Ytkjcedlgljeoiaa
open Go.RowKit Go.Lib
set_option linter.unusedVariables false
set_option linter.unusedSimpArgs false
theorem emp_app (x : ByteArray) : (⟨#[]⟩ : ByteArray) ++ x = x := by apply ByteArray.ext; simp [ByteArray.data_append]
theorem app_emp (x : ByteArray) : x ++ (⟨#[]⟩ : ByteArray) = x := by apply ByteArray.ext; simp [ByteArray.data_append]
theorem ext_same (s : ByteArray) (k : Nat) : s.extract k k = ⟨#[]⟩ := by
  apply ByteArray.ext
  apply Array.eq_empty_of_size_eq_zero
  show (s.extract k k).size = 0
  simp
theorem sz0 : (⟨#[]⟩ : ByteArray).size = 0 := rfl
theorem sz1 (c : UInt8) : (⟨#[c]⟩ : ByteArray).size = 1 := rfl
theorem exp_var {xs : List Ty108} {s b b2 : ByteArray} {i j n : Nat} (h : j + 1 < s.size) (e : s[j].toNat = 36) (hn : n = (vrF s j).2) (he : b ++ s.extract i j ++ exF xs s j = exF xs s 0) (hb : b2 = b ++ s.extract i j ++ pcF xs (vrF s j)) :
    b2 ++ s.extract (j + n + 1) (j + n + 1) ++ exF xs s (j + n + 1) = exF xs s 0 := by
  subst hb; subst hn
  rw [← he, exF_var h e, ext_same, show j + 1 + (vrF s j).2 = j + (vrF s j).2 + 1 by omega]
  simp only [ByteArray.append_assoc, emp_app]
theorem exp_one {xs : List Ty108} {s b : ByteArray} {i j : Nat} (hij : i ≤ j) (h : j < s.size) (hn : s[j].toNat ≠ 36 ∨ j + 1 = s.size) (he : b ++ s.extract i j ++ exF xs s j = exF xs s 0) : b ++ s.extract i (j + 1) ++ exF xs s (j + 1) = exF xs s 0 := by
  rw [← he, ext_step hij h, exF_one h hn]
  simp only [ByteArray.append_assoc]
theorem pc_und {xs : List Ty108} {p : ByteArray × Nat} (h : (p.1.toList == (⟨#[]⟩ : ByteArray).toList) = false) : pcF xs p = undF xs p.1 := by
  have h2 : (p.1.toList == []) = false := by rw [bytes_eqc]; rw [bytes_eqd] at h; exact h
  unfold pcF; rw [h2]; rfl
theorem pc_dol {xs : List Ty108} {p : ByteArray × Nat} (h : (p.1.toList == (⟨#[]⟩ : ByteArray).toList) = true) (hn : p.2 = 0) : pcF xs p = ⟨#[36]⟩ := by
  have h2 : (p.1.toList == []) = true := by rw [bytes_eqc]; rw [bytes_eqd] at h; exact h
  unfold pcF; rw [if_pos h2, if_pos hn]
theorem pc_emp {xs : List Ty108} {p : ByteArray × Nat} (h : (p.1.toList == (⟨#[]⟩ : ByteArray).toList) = true) (hn : 0 < p.2) : pcF xs p = ⟨#[]⟩ := by
  have h2 : (p.1.toList == []) = true := by rw [bytes_eqc]; rw [bytes_eqd] at h; exact h
  unfold pcF; rw [if_pos h2, if_neg (by omega)]
end Go.Proofs.Ytkjcedlgljeoiaa

/- Bytes of a text, of one's own: []byte(s), read and written, and back. -/
namespace Go.Proofs.Ytkjcedlgljeoiaa
open Go.RowKit Go.Lib

/-- The j-th byte; 0 beyond the end. -/
def bt0 (s : ByteArray) (j : Nat) : Nat := if h : j < s.size then s[j].toNat else 0
theorem bt0_at {s : ByteArray} {j : Nat} (h : j < s.size) : bt0 s j = s[j].toNat := by unfold bt0; rw [dif_pos h]
theorem eq_of_bt0 {a b : ByteArray} (hs : a.size = b.size) (h : ∀ j, j < a.size → bt0 a j = bt0 b j) : a = b := by
  apply ByteArray.ext
  refine Array.ext hs fun i h1 h2 => ?_
  have := h i h1
  rw [bt0_at (by exact h1), bt0_at (by exact h2)] at this
  exact UInt8.toNat_inj.1 this
theorem bt0_set {b : ByteArray} {i j : Nat} {c : UInt8} (hi : i < b.size) : bt0 (b.set i c hi) j = if j = i then c.toNat else bt0 b j := by
  have hz : (b.set i c hi).size = b.size := by show (b.data.set i c hi).size = b.data.size; exact Array.size_set hi
  unfold bt0
  by_cases hj : j < b.size
  · rw [dif_pos (by rw [hz]; exact hj), dif_pos hj]
    by_cases e : j = i
    · subst e
      rw [if_pos rfl]
      show ((b.data.set j c hi)[j]'(by simpa using hi)).toNat = _
      rw [Array.getElem_set_self]
    · rw [if_neg e]
      show ((b.data.set i c hi)[j]'(by simpa using hj)).toNat = _
      rw [Array.getElem_set_ne (h := fun h => e h.symm)]
      rfl
  · rw [dif_neg (by rw [hz]; exact hj), dif_neg hj, if_neg (by omega)]
theorem set_size {b : ByteArray} {i : Nat} {c : UInt8} (hi : i < b.size) : (b.set i c hi).size = b.size := by show (b.data.set i c hi).size = b.data.size; exact Array.size_set hi
namespace SA
def bb (g : Nat) (e : TypeId) (b : ByteArray) : SA :=
  ⟨fun w F => BB w g e b ∧ ∀ k, F k ↔ k = g, fun ⟨⟨tail, h⟩, h2⟩ hk => ⟨⟨tail, (hk g ((h2 g).2 rfl)).trans h⟩, h2⟩, fun h k hk => by rw [(h.2 k).1 hk]; exact h.1.lt⟩
end SA
section
variable {n : Nat} {D : List Deferred} {a : Act} {E E' : List (Nat × Value)} {P : Program} {w : World} {R : Ctx} {L : List SA}
variable {ops : Array Oper} {rest : List Oper} {o : Oper} {Q : Exit → Act → World → Prop}
theorem Sp.bb (i : Nat) {g : Nat} {e : TypeId} {b : ByteArray} (S : Sp R w L) (hm : L[i]? = some (SA.bb g e b)) : BB w g e b := let ⟨_, h, _⟩ := S.mem (List.mem_of_getElem? hm); h
theorem bb_at {g : Nat} {e : TypeId} {b : ByteArray} (h : BB w g e b) {k m : Nat} (hk : k < b.size) (hm : bt0 b k = m) : w.cell? ⟨g, k, none⟩ = some (.int .u8 m) := by
  obtain ⟨tail, h⟩ := h
  subst hm
  rw [cell_of_row w g k _ e _ h]
  have h1 : k < (strCells b).length := by rw [strCells_length]; exact hk
  simp only [List.getElem?_toArray]
  rw [List.getElem?_append_left h1, bt0_at hk]
  have h2 : k < b.data.size := hk
  rw [strCells, List.getElem?_map, Array.getElem?_toList, Array.getElem?_eq_getElem h2]
  rfl
/-- '[]byte(s)'. -/
theorem s_bytes {src dst e : TypeId} {x : Operand} (ho : o.op = .convert src dst x) (hs : P.underlying src = some .string) (hd : P.underlying dst = some (.slice e)) (he : P.underlying e = some (.int .u8)) {s : ByteArray} (hx : a.eval x = .string s) (S : Sp R w L) :
    sAt P R L o a w (fun v A => ∃ g c : Nat, v = .slice (some ⟨g, 0, none⟩) s.size c ∧ A = SA.bb g e s) := by
  have hr := Go.Lib.run_convert_string_bytes (P := P) w src dst e s hs hd he
  have hrun : (execOp a.eval o).run P w = .ok (.value (.slice (some ⟨w.heap.size, 0, none⟩) s.size (grownCap w s.size 0 e))) (bytesWorld w e s) := by simp [execOp, ho, hx, hr]
  have hbb : BB (bytesWorld w e s) w.heap.size e s := by
    refine ⟨List.replicate (grownCap w s.size 0 e - s.size) (.int .u8 0), ?_⟩
    have e1 : (strCells s ++ List.replicate (grownCap w s.size 0 e - s.size) (Value.int .u8 0)).toArray = bytesCells w e s := by
      unfold bytesCells strCells
      apply Array.ext'
      simp
    have e2 := congrArg Array.size e1
    simp only [List.size_toArray] at e2
    rw [e1, e2]
    exact bytesWorld_at_new w e s
  unfold sAt
  rw [hrun]
  exact ⟨_, ⟨_, _, rfl, rfl⟩, S.new ⟨rfl, rfl, rfl, by rw [bytesWorld_size]; omega, fun k hk => bytesWorld_at_old w e s k hk⟩ (F := fun k => k = w.heap.size) ⟨hbb, fun _ => Iff.rfl⟩ fun k e => by rw [e]; exact Nat.le_refl _⟩
/-- A byte is written. -/
theorem s_stbb {ty : TypeId} {x y : Operand} (ho : o.op = .store ty x y) {g i : Nat} {e : TypeId} {b : ByteArray} (hx : a.eval x = .pointer (some ⟨g, i, none⟩)) {z : Int} (hy : a.eval y = .int .u8 z) (S : Sp R w (SA.bb g e b :: L)) (hi : (P.info? ty).map (·.size) = some 1) (hs : i < b.size)
    (c : UInt8) (hz : (c.toNat : Int) = z) : sAt P R L o a w (fun _ A => A = SA.bb g e (b.set i c hs)) := by
  subst hz
  have hb := S.bb 0 rfl
  have hcell := bb_at hb hs rfl
  have hst := run_storeCells_cells (P := P) g i [.int .u8 c.toNat] 0 w (fun j hj => by
      obtain rfl : j = 0 := by simpa using hj
      simp [hcell]) (fun j hj => by
      obtain rfl : j = 0 := by simpa using hj
      exact hb.frozen hs)
    (fun v hv => by rw [List.mem_singleton.1 hv]; rfl)
  have hrun : (storeVar ty ⟨g, i, none⟩ (.int .u8 c.toNat)).run P w = .ok () (w.setCell ⟨g, i, none⟩ (.int .u8 c.toNat)) := by
    cases hq : P.info? ty with
    | none => simp [hq] at hi
    | some inf =>
      have hz : inf.size = 1 := by simpa [hq] using hi
      simp only [Nat.add_zero] at hst
      simp [storeVar, sizeOf, typeInfo, hq, Value.cells, hz, hst]
      rfl
  unfold sAt execOp
  simp only [ho, hx, hy, Instr.storeAt, Instr.sureAddr, Sem.run_bind, Sem.run_pure, Result.andThen_ok, hrun]
  exact ⟨_, rfl, S.upd rfl rfl rfl fun F hF => ⟨F, ⟨(hb.set hs c).1, hF.2⟩, fun k h => .inl h, fun k _ hk => Below.heap_setCell w ⟨g, i, none⟩ _ k fun e => hk ((hF.2 k).2 e)⟩⟩
/-- A text out of them. -/
theorem r_bb2s {src dst e : TypeId} {x : Operand} (ho : o.op = .convert src dst x) (hs : P.underlying src = some (.slice e)) (he : P.underlying e = some (.int .u8)) (hd : P.underlying dst = some .string) {g c : Nat} {e' : TypeId} {b : ByteArray} (h : BB w g e' b) {m : Nat} (hx : a.eval x = .slice (some ⟨g, 0, none⟩) m c) (hm : m = b.size)
    (hn : b.size ≤ 9223372036854775807) : (execOp a.eval o).run P w = .ok (.value (.string b)) w := by
  subst hm
  unfold execOp
  simp only [ho, hx]
  rw [Sem.run_bind, sl_text hs he hd (h.sl hn) (fun ad e => by injection e with e; subst e; rfl)]
  rfl
theorem wru8 {r z : Int} (h : r = z) (h1 : 0 ≤ z) (h2 : z ≤ 255) : IntKind.u8.wrap r = z := by subst h; exact IntWalk.u8_in _ ⟨h1, h2⟩
end
def lowN (n : Nat) : Nat := if 65 ≤ n ∧ n ≤ 90 then n + 32 else n
def lowF (s : ByteArray) : ByteArray := ⟨s.data.map fun c => UInt8.ofNat (lowN c.toNat)⟩
theorem lowN_le {n : Nat} (h : n ≤ 255) : lowN n ≤ 255 := by unfold lowN; split <;> omega
theorem lowF_size (s : ByteArray) : (lowF s).size = s.size := by show (s.data.map _).size = s.data.size; exact Array.size_map
theorem lowF_bt (s : ByteArray) {j : Nat} (h : j < s.size) : bt0 (lowF s) j = lowN (bt0 s j) := by
  rw [bt0_at (by rw [lowF_size]; exact h), bt0_at h]
  have h2 : lowN s[j].toNat ≤ 255 := lowN_le (Nat.le_of_lt_succ (UInt8.toNat_lt _))
  have e : (lowF s)[j]'(by rw [lowF_size]; exact h) = UInt8.ofNat (lowN s[j].toNat) := by
    show (s.data.map _)[j]'(by simpa using h) = _
    rw [Array.getElem_map]
    rfl
  rw [e, UInt8.toNat_ofNat_of_lt' (Nat.lt_of_le_of_lt h2 (by decide))]
end Go.Proofs.Ytkjcedlgljeoiaa

/- plain.Lower, EqualFold, HasPrefix. -/
namespace Go.Proofs.Ytkjcedlgljeoiaa
open Go.RowKit Go.Lib
set_option linter.unusedVariables false
set_option linter.unusedSimpArgs false
theorem low_put {b s : ByteArray} {k : Nat} {c : UInt8} (hk : k < b.size) (h : ∀ j, j < k → bt0 b j = lowN (bt0 s j)) (hc : c.toNat = lowN (bt0 s k)) : ∀ j, j < k + 1 → bt0 (b.set k c hk) j = lowN (bt0 s j) := fun j hj => by
  rw [bt0_set hk]
  by_cases e : j = k
  · subst e; rw [if_pos rfl, hc]
  · rw [if_neg e]; exact h j (by omega)
set_option maxRecDepth 100000 in
set_option maxHeartbeats 20000000 in
theorem lower_any (s : ByteArray) (R : Ctx) (L : List SA) (w : World) (S : Sp R w (L))  (hs : s.size ≤ 1000000) (ha : ∀ j, bt0 s j ≤ 127) :
    Calls Try.prog 147 #[.string s] w fun e w' => e = .returned (.string (lowF s)) ∧ Sp R w' (L) := by
  refine fw_enter (fn := Try.f147) rfl rfl 33 rfl (Nat.le_of_ble_eq_true rfl) ?_
  intro a0 F0
  refine wp_seq_k fun K1 hK1 => ?_
  refine wp_region_lit ?_
  refine op_p F0 (.string ⟨#[]⟩) (by kernel_rfl) rfl rfl rfl (by kernel_rfl) rfl ?_; intro a2 F2
  refine wpList_nil ?_
  refine hK1 _ _ ?_; clear hK1 K1
  refine wp_seq_k fun K3 hK3 => ?_
  refine wp_region_lit ?_
  refine op_p F2 (.string s) (by kernel_rfl) rfl rfl rfl (by kernel_rfl) rfl ?_; intro a4 F4
  refine op_s F4 (s_bytes rfl Try.underlying9 Try.underlying148 Try.underlying5 (F4.ev (v := .string s) (by kernel_rfl)) S) rfl rfl rfl ?_
  rintro _ _ w6 ⟨g4, c4, rfl, rfl⟩ S6 a6 F6
  refine op_p F6 (.slice (some ⟨g4, 0, none⟩) s.size c4) (by kernel_rfl) rfl rfl rfl (by kernel_rfl) rfl ?_; intro a7 F7
  refine wpList_nil ?_
  refine hK3 _ _ ?_; clear hK3 K3
  refine wp_seq_k fun K8 hK8 => ?_
  refine wp_seq_k fun K9 hK9 => ?_
  refine wp_region_lit ?_
  refine op_p F7 (.slice (some ⟨g4, 0, none⟩) s.size c4) (by kernel_rfl) rfl rfl rfl (by kernel_rfl) rfl ?_; intro a10 F10
  refine op_p F10 (.int .i64 (↑s.size)) (by kernel_rfl) rfl rfl rfl (by kernel_rfl) rfl ?_; intro a11 F11
  refine op_p F11 (.int .i64 0) (by kernel_rfl) rfl rfl rfl (by kernel_rfl) rfl ?_; intro a12 F12
  refine wpList_nil ?_
  refine hK9 _ _ ?_; clear hK9 K9
  refine wp_block ?_
  refine fw_loop (fun m a' w' => ∃ b : ByteArray, ∃ k : Nat, s.size - k = m ∧ Fr 33 [] a' [(0, .string s), (2, .string ⟨#[]⟩), (3, .slice (some ⟨g4, 0, none⟩) s.size c4), (6, .string s), (7, .slice (some ⟨g4, 0, none⟩) s.size c4), (8, .slice (some ⟨g4, 0, none⟩) s.size c4), (9, .int .i64 (↑s.size)), (10, .int .i64 (↑k))] ∧ Sp R w' (SA.bb g4 5 b :: L) ∧ (k ≤ s.size) ∧ (b.size = s.size) ∧ (∀ j, j < k → bt0 b j = lowN (bt0 s j)) ∧ (∀ j, k ≤ j → bt0 b j = bt0 s j)) _ ⟨s, 0, rfl, (F12.k 0 (by kernel_rfl) (F12.k 2 (by kernel_rfl) (F12.k 3 (by kernel_rfl) (F12.k 6 (by kernel_rfl) (F12.k 7 (by kernel_rfl) (F12.k 8 (by kernel_rfl) (F12.k 9 (by kernel_rfl) (F12.k 10 (by kernel_rfl) F12.nil)))))))), S6, (by first | omega | (with_reducible assumption) | (simp; done)), rfl, (fun j hj => by omega), (fun _ _ => rfl)⟩ ?_
  rintro m13 a13 w13 ⟨b, k, hm13, F13, S13, hk, hbz, hb1, hb2⟩ K13 hK13
  by_cases hlt_k : k < s.size
  · have hc_k : decide ((↑k : Int) < ↑s.size) = true := by first | (simp; done) | (simp; omega)
    have hbk : bt0 b k = bt0 s k := hb2 k (Nat.le_refl _)
    have hak := ha k
    refine wp_seq_k fun K14 hK14 => ?_
    refine wp_region_lit ?_
    refine op_p F13 (.bool (decide ((↑k : Int) < ↑s.size))) (by kernel_rfl) rfl rfl rfl (by kernel_rfl) rfl ?_; intro a15 F15
    have F16 := F15.sb 11 (by kernel_rfl) hc_k
    refine wpList_nil ?_
    refine hK14 _ _ ?_; clear hK14 K14
    refine wp_seq_k fun K17 hK17 => ?_
    refine wp_cond_true (F16.ev (by kernel_rfl)) ?_
    refine wp_skip ?_
    refine hK17 _ _ ?_; clear hK17 K17
    refine wp_seq_k fun K18 hK18 => ?_
    refine wp_block ?_
    refine wp_seq_k fun K19 hK19 => ?_
    refine wp_region_lit ?_
    refine op_p F16 (.int .i64 (↑k)) (by kernel_rfl) rfl rfl rfl (by kernel_rfl) rfl ?_; intro a20 F20
    refine op_r (v := .pointer (some ⟨g4, k, none⟩)) F20 (r_ix rfl Try.underlying148 1 (by kernel_rfl) (F20.ev (v := .slice (some ⟨g4, 0, none⟩) s.size c4) (by kernel_rfl)) rfl (F20.ev (v := .int .i64 (↑k)) (by kernel_rfl)) k (by first | rfl | omega | simp) (by first | omega | (simp; done) | (simp; omega)) (by simp only [add_blk, Nat.mul_one])) rfl rfl rfl ?_; intro a21 F21
    refine op_r (v := .int .u8 (↑(bt0 s k))) F21 (r_ld rfl (F21.ev (v := .pointer (some ⟨g4, k, none⟩)) (by kernel_rfl)) (v := .int .u8 (↑(bt0 s k))) (bb_at (S13.bb 0 rfl) (by omega) hbk) Try.underlying5 rfl) rfl rfl rfl ?_; intro a22 F22
    refine op_p F22 (.int .i64 (↑k)) (by kernel_rfl) rfl rfl rfl (by kernel_rfl) rfl ?_; intro a23 F23
    refine op_p F23 (.int .u8 (↑(bt0 s k))) (by kernel_rfl) rfl rfl rfl (by kernel_rfl) rfl ?_; intro a24 F24
    refine wpList_nil ?_
    refine hK19 _ _ ?_; clear hK19 K19
    refine wp_seq_k fun K25 hK25 => ?_
    refine wp_seq_k fun K26 hK26 => ?_
    refine wp_region_lit ?_
    refine op_p F24 (.int .u8 (↑(bt0 s k))) (by kernel_rfl) rfl rfl rfl (by kernel_rfl) rfl ?_; intro a27 F27
    refine op_p F27 (.bool (decide ((128 : Int) ≤ ↑(bt0 s k)))) (by kernel_rfl) rfl rfl rfl (by kernel_rfl) rfl ?_; intro a28 F28
    refine wpList_nil ?_
    refine hK26 _ _ ?_; clear hK26 K26
    have hc29 : (decide ((128 : Int) ≤ ↑(bt0 s k))) = false := (by simp; omega)
    have F30 := F28.sb 16 (by kernel_rfl) hc29
    refine wp_cond_false (F30.ev (by kernel_rfl)) ?_
    refine wp_skip ?_
    refine hK25 _ _ ?_; clear hK25 K25
    refine wp_seq_k fun K31 hK31 => ?_
    refine wp_region_lit ?_
    refine op_p F30 (.int .u8 (↑(bt0 s k))) (by kernel_rfl) rfl rfl rfl (by kernel_rfl) rfl ?_; intro a32 F32
    refine op_p F32 (.bool (decide ((65 : Int) ≤ ↑(bt0 s k)))) (by kernel_rfl) rfl rfl rfl (by kernel_rfl) rfl ?_; intro a33 F33
    refine op_p F33 (.bool (decide ((65 : Int) ≤ ↑(bt0 s k)))) (by kernel_rfl) rfl rfl rfl (by kernel_rfl) rfl ?_; intro a34 F34
    rcases btf (decide ((65 : Int) ≤ ↑(bt0 s k))) with hc35 | hc35
    · have hc35p := of_decide_eq_true hc35
      have F36 := F34.sb 19 (by kernel_rfl) hc35
      have F37 := F36.sb 20 (by kernel_rfl) hc35
      refine op_want F37 (by kernel_rfl) rfl ?_
      refine op_p F37 (.int .u8 (↑(bt0 s k))) (by kernel_rfl) rfl rfl rfl (by kernel_rfl) rfl ?_; intro a38 F38
      refine op_want F38 (by kernel_rfl) rfl ?_
      refine op_p F38 (.bool (decide ((↑(bt0 s k) : Int) ≤ 90))) (by kernel_rfl) rfl rfl rfl (by kernel_rfl) rfl ?_; intro a39 F39
      refine op_p F39 (.bool (decide ((↑(bt0 s k) : Int) ≤ 90))) (by kernel_rfl) rfl rfl rfl (by kernel_rfl) rfl ?_; intro a40 F40
      refine wpList_nil ?_
      refine hK31 _ _ ?_; clear hK31 K31
      rcases btf (decide ((↑(bt0 s k) : Int) ≤ 90)) with hc41 | hc41
      · have hc41p := of_decide_eq_true hc41
        have F42 := F40.sb 22 (by kernel_rfl) hc41
        have F43 := F42.sb 23 (by kernel_rfl) hc41
        refine wp_cond_true (F43.ev (by kernel_rfl)) ?_
        refine wp_region_lit ?_
        refine op_p F43 (.slice (some ⟨g4, 0, none⟩) s.size c4) (by kernel_rfl) rfl rfl rfl (by kernel_rfl) rfl ?_; intro a44 F44
        refine op_p F44 (.int .i64 (↑k)) (by kernel_rfl) rfl rfl rfl (by kernel_rfl) rfl ?_; intro a45 F45
        refine op_p F45 (.int .u8 (↑(bt0 s k))) (by kernel_rfl) rfl rfl rfl (by kernel_rfl) rfl ?_; intro a46 F46
        refine op_r (v := .int .u8 (↑(bt0 s k + 97))) F46 (r_add (z := ↑(bt0 s k + 97)) rfl (F46.ev (v := .int .u8 (↑(bt0 s k))) (by kernel_rfl)) (F46.ev (v := .int .u8 97) (by kernel_rfl)) (wru8 (by omega) (by omega) (by omega))) rfl rfl rfl ?_; intro a47 F47
        refine op_r (v := .int .u8 (↑(bt0 s k + 32))) F47 (r_sub (z := ↑(bt0 s k + 32)) rfl (F47.ev (v := .int .u8 (↑(bt0 s k + 97))) (by kernel_rfl)) (F47.ev (v := .int .u8 65) (by kernel_rfl)) (wru8 (by omega) (by omega) (by omega))) rfl rfl rfl ?_; intro a48 F48
        refine op_r (v := .pointer (some ⟨g4, k, none⟩)) F48 (r_ix rfl Try.underlying148 1 (by kernel_rfl) (F48.ev (v := .slice (some ⟨g4, 0, none⟩) s.size c4) (by kernel_rfl)) rfl (F48.ev (v := .int .i64 (↑k)) (by kernel_rfl)) k (by first | rfl | omega | simp) (by first | omega | (simp; done) | (simp; omega)) (by simp only [add_blk, Nat.mul_one])) rfl rfl rfl ?_; intro a49 F49
        have hcn : (UInt8.ofNat (bt0 s k + 32)).toNat = bt0 s k + 32 := UInt8.toNat_ofNat_of_lt' (by show _ < 256; omega)
        have hc : (UInt8.ofNat (bt0 s k + 32)).toNat = lowN (bt0 s k) := by rw [hcn]; unfold lowN; rw [if_pos (by omega)]
        refine op_s0 F49 (s_stbb rfl (F49.ev (v := .pointer (some ⟨g4, k, none⟩)) (by kernel_rfl)) (F49.ev (v := .int .u8 (↑(bt0 s k + 32))) (by kernel_rfl)) S13 (by kernel_rfl) (by omega) (UInt8.ofNat (bt0 s k + 32)) (by have := hcn; rw [this])) rfl rfl ?_
        rintro _ _ w50 rfl S50 F50
        refine wpList_nil ?_
        refine hK18 _ _ ?_; clear hK18 K18
        refine wp_region_lit ?_
        refine op_r (v := .int .i64 (↑(k + 1))) F50 (r_add (z := ↑(k + 1)) rfl (F50.ev (v := .int .i64 (↑k)) (by kernel_rfl)) (F50.ev (v := .int .i64 1) (by kernel_rfl)) (wr64 (by omega) (by omega) (by omega))) rfl rfl rfl ?_; intro a51 F51
        refine op_p F51 (.int .i64 (↑(k + 1))) (by kernel_rfl) rfl rfl rfl (by kernel_rfl) rfl ?_; intro a52 F52
        refine wpList_nil ?_
        exact hK13 _ _ _ (by first | omega | (simp; omega)) ⟨b.set k (UInt8.ofNat (bt0 s k + 32)) (by omega), k + 1, rfl, (F52.k 0 (by kernel_rfl) (F52.k 2 (by kernel_rfl) (F52.k 3 (by kernel_rfl) (F52.k 6 (by kernel_rfl) (F52.k 7 (by kernel_rfl) (F52.k 8 (by kernel_rfl) (F52.k 9 (by kernel_rfl) (F52.k 10 (by kernel_rfl) F52.nil)))))))), S50, (by first | omega | (with_reducible assumption) | (simp; done)), (by rw [set_size]; exact hbz), (low_put (by omega) hb1 hc), (fun j hj => by rw [bt0_set (by omega), if_neg (by omega)]; exact hb2 j (by omega))⟩
      · have hc41p := of_decide_eq_false hc41
        have F53 := F40.sb 22 (by kernel_rfl) hc41
        have F54 := F53.sb 23 (by kernel_rfl) hc41
        refine wp_cond_false (F54.ev (by kernel_rfl)) ?_
        refine wp_skip ?_
        refine hK18 _ _ ?_; clear hK18 K18
        refine wp_region_lit ?_
        refine op_r (v := .int .i64 (↑(k + 1))) F54 (r_add (z := ↑(k + 1)) rfl (F54.ev (v := .int .i64 (↑k)) (by kernel_rfl)) (F54.ev (v := .int .i64 1) (by kernel_rfl)) (wr64 (by omega) (by omega) (by omega))) rfl rfl rfl ?_; intro a55 F55
        refine op_p F55 (.int .i64 (↑(k + 1))) (by kernel_rfl) rfl rfl rfl (by kernel_rfl) rfl ?_; intro a56 F56
        refine wpList_nil ?_
        exact hK13 _ _ _ (by first | omega | (simp; omega)) ⟨b, k + 1, rfl, (F56.k 0 (by kernel_rfl) (F56.k 2 (by kernel_rfl) (F56.k 3 (by kernel_rfl) (F56.k 6 (by kernel_rfl) (F56.k 7 (by kernel_rfl) (F56.k 8 (by kernel_rfl) (F56.k 9 (by kernel_rfl) (F56.k 10 (by kernel_rfl) F56.nil)))))))), S13, (by first | omega | (with_reducible assumption) | (simp; done)), (by first | omega | (with_reducible assumption) | (simp; done)), (fun j hj => if e : j < k then hb1 j e else (by have e2 : j = k := (by omega); subst e2; rw [hbk]; unfold lowN; rw [if_neg (by omega)])), (fun j hj => hb2 j (by omega))⟩
    · have hc35p := of_decide_eq_false hc35
      have F57 := F34.sb 19 (by kernel_rfl) hc35
      have F58 := F57.sb 20 (by kernel_rfl) hc35
      refine op_skip F58 (by kernel_rfl) rfl rfl rfl ?_; intro a59 F59
      refine op_skip F59 (by kernel_rfl) rfl rfl rfl ?_; intro a60 F60
      refine op_p F60 (.bool false) (by kernel_rfl) rfl rfl rfl (by kernel_rfl) rfl ?_; intro a61 F61
      refine wpList_nil ?_
      refine hK31 _ _ ?_; clear hK31 K31
      refine wp_cond_false (F61.ev (by kernel_rfl)) ?_
      refine wp_skip ?_
      refine hK18 _ _ ?_; clear hK18 K18
      refine wp_region_lit ?_
      refine op_r (v := .int .i64 (↑(k + 1))) F61 (r_add (z := ↑(k + 1)) rfl (F61.ev (v := .int .i64 (↑k)) (by kernel_rfl)) (F61.ev (v := .int .i64 1) (by kernel_rfl)) (wr64 (by omega) (by omega) (by omega))) rfl rfl rfl ?_; intro a62 F62
      refine op_p F62 (.int .i64 (↑(k + 1))) (by kernel_rfl) rfl rfl rfl (by kernel_rfl) rfl ?_; intro a63 F63
      refine wpList_nil ?_
      exact hK13 _ _ _ (by first | omega | (simp; omega)) ⟨b, k + 1, rfl, (F63.k 0 (by kernel_rfl) (F63.k 2 (by kernel_rfl) (F63.k 3 (by kernel_rfl) (F63.k 6 (by kernel_rfl) (F63.k 7 (by kernel_rfl) (F63.k 8 (by kernel_rfl) (F63.k 9 (by kernel_rfl) (F63.k 10 (by kernel_rfl) F63.nil)))))))), S13, (by first | omega | (with_reducible assumption) | (simp; done)), (by first | omega | (with_reducible assumption) | (simp; done)), (fun j hj => if e : j < k then hb1 j e else (by have e2 : j = k := (by omega); subst e2; rw [hbk]; unfold lowN; rw [if_neg (by omega)])), (fun j hj => hb2 j (by omega))⟩
  · have hc_k : decide ((↑k : Int) < ↑s.size) = false := by first | (simp; done) | (simp; omega)
    have hlb : b = lowF s := eq_of_bt0 (by rw [lowF_size]; exact hbz) (fun j hj => by rw [lowF_bt _ (by omega)]; exact hb1 j (by omega))
    refine wp_seq_k fun K64 hK64 => ?_
    refine wp_region_lit ?_
    refine op_p F13 (.bool (decide ((↑k : Int) < ↑s.size))) (by kernel_rfl) rfl rfl rfl (by kernel_rfl) rfl ?_; intro a65 F65
    have F66 := F65.sb 11 (by kernel_rfl) hc_k
    refine wpList_nil ?_
    refine hK64 _ _ ?_; clear hK64 K64
    refine wp_seq_k fun K67 hK67 => ?_
    refine wp_cond_false (F66.ev (by kernel_rfl)) ?_
    refine wp_exit ?_
    refine ex_then ?_; clear hK67 K67
    refine ex_then ?_
    refine ex_in ?_
    refine hK8 _ _ ?_; clear hK8 K8
    refine wp_seq_k fun K68 hK68 => ?_
    refine wp_region_lit ?_
    refine op_p F66 (.slice (some ⟨g4, 0, none⟩) s.size c4) (by kernel_rfl) rfl rfl rfl (by kernel_rfl) rfl ?_; intro a69 F69
    refine op_r (v := .string b) F69 (r_bb2s rfl Try.underlying148 Try.underlying5 Try.underlying9 (S13.bb 0 rfl) (F69.ev (v := .slice (some ⟨g4, 0, none⟩) s.size c4) (by kernel_rfl)) (by first | rfl | omega) (by omega)) rfl rfl rfl ?_; intro a70 F70
    refine op_p F70 (.string b) (by kernel_rfl) rfl rfl rfl (by kernel_rfl) rfl ?_; intro a71 F71
    refine wpList_nil ?_
    refine hK68 _ _ ?_; clear hK68 K68
    refine wp_ret ?_
    refine (F71.res1 rfl (v := .string b) (by kernel_rfl) ?_).1
    exact ⟨(ret_str hlb), S13.drop⟩
set_option maxRecDepth 100000 in
set_option maxHeartbeats 20000000 in
theorem equalFold_any (s : ByteArray) (t : ByteArray) (R : Ctx) (L : List SA) (w : World) (S : Sp R w (L))  (hs : s.size ≤ 1000000) (ht : t.size ≤ 1000000) (ha : ∀ j, bt0 s j ≤ 127) (hb : ∀ j, bt0 t j ≤ 127) :
    Calls Try.prog 197 #[.string s, .string t] w fun e w' => e = .returned (.bool ((lowF s).toList == (lowF t).toList)) ∧ Sp R w' (L) := by
  refine fw_enter (fn := Try.f197) rfl rfl 10 rfl (Nat.le_of_ble_eq_true rfl) ?_
  intro a0 F0
  refine wp_seq_k fun K1 hK1 => ?_
  refine wp_region_lit ?_
  refine op_p F0 (.bool false) (by kernel_rfl) rfl rfl rfl (by kernel_rfl) rfl ?_; intro a2 F2
  refine wpList_nil ?_
  refine hK1 _ _ ?_; clear hK1 K1
  refine wp_seq_k fun K3 hK3 => ?_
  refine wp_region_lit ?_
  refine op_p F2 (.string s) (by kernel_rfl) rfl rfl rfl (by kernel_rfl) rfl ?_; intro a4 F4
  refine op_c F4 (f := 147) (args := #[.string s]) (by kernel_rfl) (by kernel_rfl) rfl (lower_any s _ _ _ S (by first | omega | (simp; done) | (simp; omega)) (by first | omega | (simp; done) | (simp; omega))) rfl rfl rfl ?_
  rintro _ w5 ⟨rfl, S5⟩
  refine ⟨_, rfl, ?_⟩
  intro a6 F6
  refine op_p F6 (.string t) (by kernel_rfl) rfl rfl rfl (by kernel_rfl) rfl ?_; intro a7 F7
  refine op_c F7 (f := 147) (args := #[.string t]) (by kernel_rfl) (by kernel_rfl) rfl (lower_any t _ _ _ S5 (by first | omega | (simp; done) | (simp; omega)) (by first | omega | (simp; done) | (simp; omega))) rfl rfl rfl ?_
  rintro _ w8 ⟨rfl, S8⟩
  refine ⟨_, rfl, ?_⟩
  intro a9 F9
  refine op_p F9 (.bool ((lowF s).toList == (lowF t).toList)) (by kernel_rfl) rfl rfl rfl (by kernel_rfl) rfl ?_; intro a10 F10
  refine op_p F10 (.bool ((lowF s).toList == (lowF t).toList)) (by kernel_rfl) rfl rfl rfl (by kernel_rfl) rfl ?_; intro a11 F11
  refine wpList_nil ?_
  refine hK3 _ _ ?_; clear hK3 K3
  refine wp_ret ?_
  refine (F11.res1 rfl (v := .bool ((lowF s).toList == (lowF t).toList)) (by kernel_rfl) ?_).1
  exact ⟨rfl, S8⟩
def hasPreB (s p : ByteArray) : Bool := decide ((p.size : Int) ≤ s.size) && ((s.extract 0 p.size).toList == p.toList)
end Go.Proofs.Ytkjcedlgljeoiaa

/- spec.hlFold, laws.hlSmall; plain.Expand with the closure of impl.PluginCommand. -/
namespace Go.Proofs.Ytkjcedlgljeoiaa
open Go.RowKit Go.Lib
set_option linter.unusedVariables false
set_option linter.unusedSimpArgs false
theorem low_ne {s t : ByteArray} {k : Nat} (h1 : k < s.size) (h2 : k < t.size) (h : lowN s[k].toNat ≠ lowN t[k].toNat) : ((lowF s).toList == (lowF t).toList) = false := by
  apply Bool.eq_false_iff.2
  intro e
  have e : lowF s = lowF t := by
    have e := eq_of_beq e
    rw [Go.ByteArray.toList_eq, Go.ByteArray.toList_eq] at e
    exact ByteArray.ext (Array.toList_inj.1 e)
  have h3 := lowF_bt s h1
  have h4 := lowF_bt t h2
  rw [e, h4, bt0_at h1, bt0_at h2] at h3
  exact h h3.symm
theorem low_sz {s t : ByteArray} (h : s.size ≠ t.size) : ((lowF s).toList == (lowF t).toList) = false := by
  apply Bool.eq_false_iff.2
  intro e
  have e : lowF s = lowF t := by
    have e := eq_of_beq e
    rw [Go.ByteArray.toList_eq, Go.ByteArray.toList_eq] at e
    exact ByteArray.ext (Array.toList_inj.1 e)
  have h3 := congrArg ByteArray.size e
  rw [lowF_size, lowF_size] at h3
  exact h h3
theorem low_eq {s t : ByteArray} {k : Nat} (hz : s.size = t.size) (hk : s.size ≤ k) (h : ∀ j, j < k → lowN (bt0 s j) = lowN (bt0 t j)) : ((lowF s).toList == (lowF t).toList) = true := by
  have e : lowF s = lowF t := eq_of_bt0 (by rw [lowF_size, lowF_size]; exact hz) (fun j hj => by
    rw [lowF_size] at hj
    rw [lowF_bt _ hj, lowF_bt _ (by omega)]; exact h j (by omega))
  rw [e]; exact beq_self_eq_true _
def smallB (s : ByteArray) : Bool := (s.data.toList.all fun c => decide (97 ≤ c.toNat) && decide (c.toNat ≤ 122)) && (!(s.toList == (⟨#[]⟩ : ByteArray).toList) && decide (s.size ≤ 10))
theorem small_no {s : ByteArray} {k : Nat} (hk : k < s.size) (h : s[k].toNat < 97 ∨ 122 < s[k].toNat) : smallB s = false := by
  unfold smallB
  rw [Bool.and_eq_false_iff]
  left
  rw [List.all_eq_false]
  exact ⟨s[k], Array.mem_toList_iff.2 (Array.getElem_mem _), by simp; omega⟩
theorem small_yes {s : ByteArray} {k : Nat} (hk : s.size ≤ k) (h : ∀ j, ∀ hj : j < s.size, j < k → 97 ≤ s[j].toNat ∧ s[j].toNat ≤ 122) : smallB s = (!(s.toList == (⟨#[]⟩ : ByteArray).toList) && decide (s.size ≤ 10)) := by
  unfold smallB
  have : (s.data.toList.all fun c => decide (97 ≤ c.toNat) && decide (c.toNat ≤ 122)) = true := by
    rw [List.all_eq_true]
    intro c hc
    obtain ⟨j, hj, rfl⟩ := List.mem_iff_getElem.1 hc
    have hj2 : j < s.size := by simpa using hj
    have h2 := h j hj2 (by omega)
    have e : s.data.toList[j] = s[j] := rfl
    rw [e]; simp [h2]
  rw [this, Bool.true_and]
set_option maxRecDepth 100000 in
set_option maxHeartbeats 20000000 in
theorem hlFold_any (s : ByteArray) (t : ByteArray) (R : Ctx) (L : List SA) (w : World) (S : Sp R w (L))  (hsm : s.size ≤ 4000000000) :
    Calls Try.prog 112 #[.string s, .string t] w fun e w' => e = .returned (.bool ((lowF s).toList == (lowF t).toList)) ∧ Sp R w' (L) := by
  refine fw_enter (fn := Try.f112) rfl rfl 44 rfl (Nat.le_of_ble_eq_true rfl) ?_
  intro a0 F0
  refine wp_seq_k fun K1 hK1 => ?_
  refine wp_region_lit ?_
  refine op_p F0 (.bool false) (by kernel_rfl) rfl rfl rfl (by kernel_rfl) rfl ?_; intro a2 F2
  refine wpList_nil ?_
  refine hK1 _ _ ?_; clear hK1 K1
  refine wp_seq_k fun K3 hK3 => ?_
  refine wp_seq_k fun K4 hK4 => ?_
  refine wp_region_lit ?_
  refine op_p F2 (.string s) (by kernel_rfl) rfl rfl rfl (by kernel_rfl) rfl ?_; intro a5 F5
  refine op_p F5 (.int .i64 (↑s.size)) (by kernel_rfl) rfl rfl rfl (by kernel_rfl) rfl ?_; intro a6 F6
  refine op_p F6 (.string t) (by kernel_rfl) rfl rfl rfl (by kernel_rfl) rfl ?_; intro a7 F7
  refine op_p F7 (.int .i64 (↑t.size)) (by kernel_rfl) rfl rfl rfl (by kernel_rfl) rfl ?_; intro a8 F8
  refine op_p F8 (.bool (!((↑s.size : Int) == ↑t.size))) (by kernel_rfl) rfl rfl rfl (by kernel_rfl) rfl ?_; intro a9 F9
  refine wpList_nil ?_
  refine hK4 _ _ ?_; clear hK4 K4
  rcases btf ((↑s.size : Int) == ↑t.size) with hc10 | hc10
  · have hc10p := eq_of_beq hc10
    have F11 := F9.sb 12 (by kernel_rfl) (show (!((↑s.size : Int) == ↑t.size)) = false by rw [hc10]; rfl)
    refine wp_cond_false (F11.ev (by kernel_rfl)) ?_
    refine wp_skip ?_
    refine hK3 _ _ ?_; clear hK3 K3
    refine wp_seq_k fun K12 hK12 => ?_
    refine wp_seq_k fun K13 hK13 => ?_
    refine wp_region_lit ?_
    refine op_p F11 (.string s) (by kernel_rfl) rfl rfl rfl (by kernel_rfl) rfl ?_; intro a14 F14
    refine op_p F14 (.int .i64 (↑s.size)) (by kernel_rfl) rfl rfl rfl (by kernel_rfl) rfl ?_; intro a15 F15
    refine op_p F15 (.int .i64 0) (by kernel_rfl) rfl rfl rfl (by kernel_rfl) rfl ?_; intro a16 F16
    refine wpList_nil ?_
    refine hK13 _ _ ?_; clear hK13 K13
    refine wp_block ?_
    refine fw_loop (fun m a' w' => ∃ k : Nat, s.size - k = m ∧ Fr 44 [] a' [(0, .string s), (1, .string t), (8, .string s), (9, .int .i64 (↑s.size)), (10, .string t), (11, .int .i64 (↑t.size)), (12, .bool false), (13, .string s), (14, .int .i64 (↑s.size)), (15, .int .i64 (↑k))] ∧ Sp R w' (L) ∧ (k ≤ s.size) ∧ (s.size = t.size) ∧ (∀ j, j < k → lowN (bt0 s j) = lowN (bt0 t j))) _ ⟨0, rfl, (F16.k 0 (by kernel_rfl) (F16.k 1 (by kernel_rfl) (F16.k 8 (by kernel_rfl) (F16.k 9 (by kernel_rfl) (F16.k 10 (by kernel_rfl) (F16.k 11 (by kernel_rfl) (F16.k 12 (by kernel_rfl) (F16.k 13 (by kernel_rfl) (F16.k 14 (by kernel_rfl) (F16.k 15 (by kernel_rfl) F16.nil)))))))))), S, (by first | omega | (with_reducible assumption) | (simp; done)), (by omega), (fun j hj => absurd hj (Nat.not_lt_zero _))⟩ ?_
    rintro m17 a17 w17 ⟨k, hm17, F17, S17, hk, hst, hlo⟩ K17 hK17
    by_cases hlt_k : k < s.size
    · have hc_k : decide ((↑k : Int) < ↑s.size) = true := by first | (simp; done) | (simp; omega)
      refine wp_seq_k fun K18 hK18 => ?_
      refine wp_region_lit ?_
      refine op_p F17 (.bool (decide ((↑k : Int) < ↑s.size))) (by kernel_rfl) rfl rfl rfl (by kernel_rfl) rfl ?_; intro a19 F19
      have F20 := F19.sb 16 (by kernel_rfl) hc_k
      refine wpList_nil ?_
      refine hK18 _ _ ?_; clear hK18 K18
      refine wp_seq_k fun K21 hK21 => ?_
      refine wp_cond_true (F20.ev (by kernel_rfl)) ?_
      refine wp_skip ?_
      refine hK21 _ _ ?_; clear hK21 K21
      refine wp_seq_k fun K22 hK22 => ?_
      refine wp_block ?_
      refine wp_seq_k fun K23 hK23 => ?_
      refine wp_region_lit ?_
      refine op_p F20 (.int .i64 (↑k)) (by kernel_rfl) rfl rfl rfl (by kernel_rfl) rfl ?_; intro a24 F24
      refine op_p F24 (.int .i64 (↑k)) (by kernel_rfl) rfl rfl rfl (by kernel_rfl) rfl ?_; intro a25 F25
      refine wpList_nil ?_
      refine hK23 _ _ ?_; clear hK23 K23
      refine wp_seq_k fun K26 hK26 => ?_
      refine wp_region_sep (L0 := L) [some [], some [], some [(0, 18), (1, 19)], some [], some [], some [(3, 21), (4, 22)], some [(2, 20)], some [(5, 23)]] [(SA.emp, fun u A => u = .string s ∧ A = SA.emp), (SA.emp, fun u A => u = .int .i64 (↑k) ∧ A = SA.emp), (SA.emp, fun u A => u = .int .u8 (↑s[k].toNat) ∧ A = SA.emp), (SA.emp, fun u A => u = .string t ∧ A = SA.emp), (SA.emp, fun u A => u = .int .i64 (↑k) ∧ A = SA.emp), (SA.emp, fun u A => u = .int .u8 (↑t[k].toNat) ∧ A = SA.emp), (SA.emp, fun u A => u = .int .u8 (↑s[k].toNat) ∧ A = SA.emp), (SA.emp, fun u A => u = .int .u8 (↑t[k].toNat) ∧ A = SA.emp)] 44 rfl F25.size rfl (by kernel_rfl) S17.emp.emp.emp.emp.emp.emp.emp.emp ?_ ?_
      · refine ⟨?_, ?_, ?_, ?_, ?_, ?_, ?_, ?_, trivial⟩
        · intro w41 M41 S41
          refine deps_nil ?_
          refine obl_of (by rfl) ?_
          exact s_p F25 (v := .string s) (by kernel_rfl) (by kernel_rfl) (by kernel_rfl) S41
        · intro w42 M42 S42
          refine deps_nil ?_
          refine obl_of (by rfl) ?_
          exact s_p F25 (v := .int .i64 (↑k)) (by kernel_rfl) (by kernel_rfl) (by kernel_rfl) S42
        · intro w43 M43 S43
          rintro _ _ ⟨rfl, rfl⟩ hA44
          have F44 := F25.put (d := 18) (v := .string s) (by decide)
          rintro _ _ ⟨rfl, rfl⟩ hA45
          have F45 := F44.put (d := 19) (v := .int .i64 (↑k)) (by decide)
          refine deps_nil ?_
          refine obl_of (by rfl) ?_
          exact s_r (v := .int .u8 (↑s[k].toNat)) (r_index rfl Try.underlying9 (F45.ev (v := .string s) (by kernel_rfl)) (F45.ev (v := .int .i64 (↑k)) (by kernel_rfl)) k (by first | rfl | omega | simp) (by first | omega | (simp; done) | (simp; omega))) S43
        · intro w46 M46 S46
          refine deps_nil ?_
          refine obl_of (by rfl) ?_
          exact s_p F25 (v := .string t) (by kernel_rfl) (by kernel_rfl) (by kernel_rfl) S46
        · intro w47 M47 S47
          refine deps_nil ?_
          refine obl_of (by rfl) ?_
          exact s_p F25 (v := .int .i64 (↑k)) (by kernel_rfl) (by kernel_rfl) (by kernel_rfl) S47
        · intro w48 M48 S48
          rintro _ _ ⟨rfl, rfl⟩ hA49
          have F49 := F25.put (d := 21) (v := .string t) (by decide)
          rintro _ _ ⟨rfl, rfl⟩ hA50
          have F50 := F49.put (d := 22) (v := .int .i64 (↑k)) (by decide)
          refine deps_nil ?_
          refine obl_of (by rfl) ?_
          exact s_r (v := .int .u8 (↑t[k].toNat)) (r_index rfl Try.underlying9 (F50.ev (v := .string t) (by kernel_rfl)) (F50.ev (v := .int .i64 (↑k)) (by kernel_rfl)) k (by first | rfl | omega | simp) (by first | omega | (simp; done) | (simp; omega))) S48
        · intro w51 M51 S51
          rintro _ _ ⟨rfl, rfl⟩ hA52
          have F52 := F25.put (d := 20) (v := .int .u8 (↑s[k].toNat)) (by decide)
          refine deps_nil ?_
          refine obl_of (by rfl) ?_
          exact s_p F52 (v := .int .u8 (↑s[k].toNat)) (by kernel_rfl) (by kernel_rfl) (by kernel_rfl) S51
        · intro w53 M53 S53
          rintro _ _ ⟨rfl, rfl⟩ hA54
          have F54 := F25.put (d := 23) (v := .int .u8 (↑t[k].toNat)) (by decide)
          refine deps_nil ?_
          refine obl_of (by rfl) ?_
          exact s_p F54 (v := .int .u8 (↑t[k].toNat)) (by kernel_rfl) (by kernel_rfl) (by kernel_rfl) S53
      · rintro _ _ ⟨rfl, rfl⟩
        have F56 := F25.put (d := 18) (v := .string s) (by decide)
        rintro _ _ ⟨rfl, rfl⟩
        have F57 := F56.put (d := 19) (v := .int .i64 (↑k)) (by decide)
        rintro _ _ ⟨rfl, rfl⟩
        have F58 := F57.put (d := 20) (v := .int .u8 (↑s[k].toNat)) (by decide)
        rintro _ _ ⟨rfl, rfl⟩
        have F59 := F58.put (d := 21) (v := .string t) (by decide)
        rintro _ _ ⟨rfl, rfl⟩
        have F60 := F59.put (d := 22) (v := .int .i64 (↑k)) (by decide)
        rintro _ _ ⟨rfl, rfl⟩
        have F61 := F60.put (d := 23) (v := .int .u8 (↑t[k].toNat)) (by decide)
        rintro _ _ ⟨rfl, rfl⟩
        have F62 := F61.put (d := 6) (v := .int .u8 (↑s[k].toNat)) (by decide)
        rintro _ _ ⟨rfl, rfl⟩
        have F63 := F62.put (d := 7) (v := .int .u8 (↑t[k].toNat)) (by decide)
        intro w55 S55
        have S64 := S55.drop
        have S65 := S64.drop
        have S66 := S65.drop
        have S67 := S66.drop
        have S68 := S67.drop
        have S69 := S68.drop
        have S70 := S69.drop
        have S71 := S70.drop
        refine wpList_nil ?_
        refine hK26 _ _ ?_; clear hK26 K26
        refine wp_seq_k fun K72 hK72 => ?_
        refine wp_seq_k fun K73 hK73 => ?_
        refine wp_region_lit ?_
        refine op_p F63 (.int .u8 (↑s[k].toNat)) (by kernel_rfl) rfl rfl rfl (by kernel_rfl) rfl ?_; intro a74 F74
        refine op_p F74 (.bool (decide ((65 : Int) ≤ ↑s[k].toNat))) (by kernel_rfl) rfl rfl rfl (by kernel_rfl) rfl ?_; intro a75 F75
        refine op_p F75 (.bool (decide ((65 : Int) ≤ ↑s[k].toNat))) (by kernel_rfl) rfl rfl rfl (by kernel_rfl) rfl ?_; intro a76 F76
        rcases btf (decide ((65 : Int) ≤ ↑s[k].toNat)) with hc77 | hc77
        · have hc77p := of_decide_eq_true hc77
          have F78 := F76.sb 25 (by kernel_rfl) hc77
          have F79 := F78.sb 26 (by kernel_rfl) hc77
          refine op_want F79 (by kernel_rfl) rfl ?_
          refine op_p F79 (.int .u8 (↑s[k].toNat)) (by kernel_rfl) rfl rfl rfl (by kernel_rfl) rfl ?_; intro a80 F80
          refine op_want F80 (by kernel_rfl) rfl ?_
          refine op_p F80 (.bool (decide ((↑s[k].toNat : Int) ≤ 90))) (by kernel_rfl) rfl rfl rfl (by kernel_rfl) rfl ?_; intro a81 F81
          refine op_p F81 (.bool (decide ((↑s[k].toNat : Int) ≤ 90))) (by kernel_rfl) rfl rfl rfl (by kernel_rfl) rfl ?_; intro a82 F82
          refine wpList_nil ?_
          refine hK73 _ _ ?_; clear hK73 K73
          rcases btf (decide ((↑s[k].toNat : Int) ≤ 90)) with hc83 | hc83
          · have hc83p := of_decide_eq_true hc83
            have F84 := F82.sb 28 (by kernel_rfl) hc83
            have F85 := F84.sb 29 (by kernel_rfl) hc83
            refine wp_cond_true (F85.ev (by kernel_rfl)) ?_
            refine wp_region_lit ?_
            refine op_p F85 (.int .u8 (↑s[k].toNat)) (by kernel_rfl) rfl rfl rfl (by kernel_rfl) rfl ?_; intro a86 F86
            refine op_r (v := .int .u8 (↑(s[k].toNat + 32))) F86 (r_add (z := ↑(s[k].toNat + 32)) rfl (F86.ev (v := .int .u8 (↑s[k].toNat)) (by kernel_rfl)) (F86.ev (v := .int .u8 32) (by kernel_rfl)) (wru8 (by omega) (by omega) (by omega))) rfl rfl rfl ?_; intro a87 F87
            refine op_p F87 (.int .u8 (↑(s[k].toNat + 32))) (by kernel_rfl) rfl rfl rfl (by kernel_rfl) rfl ?_; intro a88 F88
            refine wpList_nil ?_
            refine hK72 _ _ ?_; clear hK72 K72
            refine wp_seq_k fun K89 hK89 => ?_
            refine wp_seq_k fun K90 hK90 => ?_
            refine wp_region_lit ?_
            refine op_p F88 (.int .u8 (↑t[k].toNat)) (by kernel_rfl) rfl rfl rfl (by kernel_rfl) rfl ?_; intro a91 F91
            refine op_p F91 (.bool (decide ((65 : Int) ≤ ↑t[k].toNat))) (by kernel_rfl) rfl rfl rfl (by kernel_rfl) rfl ?_; intro a92 F92
            refine op_p F92 (.bool (decide ((65 : Int) ≤ ↑t[k].toNat))) (by kernel_rfl) rfl rfl rfl (by kernel_rfl) rfl ?_; intro a93 F93
            rcases btf (decide ((65 : Int) ≤ ↑t[k].toNat)) with hc94 | hc94
            · have hc94p := of_decide_eq_true hc94
              have F95 := F93.sb 33 (by kernel_rfl) hc94
              have F96 := F95.sb 34 (by kernel_rfl) hc94
              refine op_want F96 (by kernel_rfl) rfl ?_
              refine op_p F96 (.int .u8 (↑t[k].toNat)) (by kernel_rfl) rfl rfl rfl (by kernel_rfl) rfl ?_; intro a97 F97
              refine op_want F97 (by kernel_rfl) rfl ?_
              refine op_p F97 (.bool (decide ((↑t[k].toNat : Int) ≤ 90))) (by kernel_rfl) rfl rfl rfl (by kernel_rfl) rfl ?_; intro a98 F98
              refine op_p F98 (.bool (decide ((↑t[k].toNat : Int) ≤ 90))) (by kernel_rfl) rfl rfl rfl (by kernel_rfl) rfl ?_; intro a99 F99
              refine wpList_nil ?_
              refine hK90 _ _ ?_; clear hK90 K90
              rcases btf (decide ((↑t[k].toNat : Int) ≤ 90)) with hc100 | hc100
              · have hc100p := of_decide_eq_true hc100
                have F101 := F99.sb 36 (by kernel_rfl) hc100
                have F102 := F101.sb 37 (by kernel_rfl) hc100
                refine wp_cond_true (F102.ev (by kernel_rfl)) ?_
                refine wp_region_lit ?_
                refine op_p F102 (.int .u8 (↑t[k].toNat)) (by kernel_rfl) rfl rfl rfl (by kernel_rfl) rfl ?_; intro a103 F103
                refine op_r (v := .int .u8 (↑(t[k].toNat + 32))) F103 (r_add (z := ↑(t[k].toNat + 32)) rfl (F103.ev (v := .int .u8 (↑t[k].toNat)) (by kernel_rfl)) (F103.ev (v := .int .u8 32) (by kernel_rfl)) (wru8 (by omega) (by omega) (by omega))) rfl rfl rfl ?_; intro a104 F104
                refine op_p F104 (.int .u8 (↑(t[k].toNat + 32))) (by kernel_rfl) rfl rfl rfl (by kernel_rfl) rfl ?_; intro a105 F105
                refine wpList_nil ?_
                refine hK89 _ _ ?_; clear hK89 K89
                refine wp_seq_k fun K106 hK106 => ?_
                refine wp_region_lit ?_
                refine op_p F105 (.int .u8 (↑(s[k].toNat + 32))) (by kernel_rfl) rfl rfl rfl (by kernel_rfl) rfl ?_; intro a107 F107
                refine op_p F107 (.int .u8 (↑(t[k].toNat + 32))) (by kernel_rfl) rfl rfl rfl (by kernel_rfl) rfl ?_; intro a108 F108
                refine op_p F108 (.bool (!((↑(s[k].toNat + 32) : Int) == ↑(t[k].toNat + 32)))) (by kernel_rfl) rfl rfl rfl (by kernel_rfl) rfl ?_; intro a109 F109
                refine wpList_nil ?_
                refine hK106 _ _ ?_; clear hK106 K106
                rcases btf ((↑(s[k].toNat + 32) : Int) == ↑(t[k].toNat + 32)) with hc110 | hc110
                · have hc110p := eq_of_beq hc110
                  have F111 := F109.sb 42 (by kernel_rfl) (show (!((↑(s[k].toNat + 32) : Int) == ↑(t[k].toNat + 32))) = false by rw [hc110]; rfl)
                  refine wp_cond_false (F111.ev (by kernel_rfl)) ?_
                  refine wp_skip ?_
                  refine hK22 _ _ ?_; clear hK22 K22
                  refine wp_region_lit ?_
                  refine op_r (v := .int .i64 (↑(k + 1))) F111 (r_add (z := ↑(k + 1)) rfl (F111.ev (v := .int .i64 (↑k)) (by kernel_rfl)) (F111.ev (v := .int .i64 1) (by kernel_rfl)) (wr64 (by omega) (by omega) (by omega))) rfl rfl rfl ?_; intro a112 F112
                  refine op_p F112 (.int .i64 (↑(k + 1))) (by kernel_rfl) rfl rfl rfl (by kernel_rfl) rfl ?_; intro a113 F113
                  refine wpList_nil ?_
                  exact hK17 _ _ _ (by first | omega | (simp; omega)) ⟨k + 1, rfl, (F113.k 0 (by kernel_rfl) (F113.k 1 (by kernel_rfl) (F113.k 8 (by kernel_rfl) (F113.k 9 (by kernel_rfl) (F113.k 10 (by kernel_rfl) (F113.k 11 (by kernel_rfl) (F113.k 12 (by kernel_rfl) (F113.k 13 (by kernel_rfl) (F113.k 14 (by kernel_rfl) (F113.k 15 (by kernel_rfl) F113.nil)))))))))), S71, (by first | omega | (with_reducible assumption) | (simp; done)), (by first | omega | (with_reducible assumption) | (simp; done)), (fun j hj => (Nat.lt_succ_iff_lt_or_eq.1 hj).elim (hlo j) (fun e => by subst e; rw [bt0_at hlt_k, bt0_at (by omega)]; unfold lowN; split <;> split <;> omega))⟩
                · have hc110p := ne_of_beq_false hc110
                  have F114 := F109.sb 42 (by kernel_rfl) (show (!((↑(s[k].toNat + 32) : Int) == ↑(t[k].toNat + 32))) = true by rw [hc110]; rfl)
                  refine wp_cond_true (F114.ev (by kernel_rfl)) ?_
                  refine wp_seq_k fun K115 hK115 => ?_
                  refine wp_region_lit ?_
                  refine op_p F114 (.bool false) (by kernel_rfl) rfl rfl rfl (by kernel_rfl) rfl ?_; intro a116 F116
                  refine wpList_nil ?_
                  refine hK115 _ _ ?_; clear hK115 K115
                  refine wp_ret ?_
                  refine ret_in ?_
                  refine ret_then ?_
                  refine ret_then ?_
                  refine ret_in ?_
                  refine ret_then ?_
                  refine (F116.res1 rfl (v := .bool false) (by kernel_rfl) ?_).1
                  exact ⟨(ret_bool (low_ne hlt_k (by omega) (by unfold lowN; split <;> split <;> omega)).symm), S71⟩
              · have hc100p := of_decide_eq_false hc100
                have F117 := F99.sb 36 (by kernel_rfl) hc100
                have F118 := F117.sb 37 (by kernel_rfl) hc100
                refine wp_cond_false (F118.ev (by kernel_rfl)) ?_
                refine wp_skip ?_
                refine hK89 _ _ ?_; clear hK89 K89
                refine wp_seq_k fun K119 hK119 => ?_
                refine wp_region_lit ?_
                refine op_p F118 (.int .u8 (↑(s[k].toNat + 32))) (by kernel_rfl) rfl rfl rfl (by kernel_rfl) rfl ?_; intro a120 F120
                refine op_p F120 (.int .u8 (↑t[k].toNat)) (by kernel_rfl) rfl rfl rfl (by kernel_rfl) rfl ?_; intro a121 F121
                refine op_p F121 (.bool (!((↑(s[k].toNat + 32) : Int) == ↑t[k].toNat))) (by kernel_rfl) rfl rfl rfl (by kernel_rfl) rfl ?_; intro a122 F122
                refine wpList_nil ?_
                refine hK119 _ _ ?_; clear hK119 K119
                rcases btf ((↑(s[k].toNat + 32) : Int) == ↑t[k].toNat) with hc123 | hc123
                · have hc123p := eq_of_beq hc123
                  have F124 := F122.sb 42 (by kernel_rfl) (show (!((↑(s[k].toNat + 32) : Int) == ↑t[k].toNat)) = false by rw [hc123]; rfl)
                  refine wp_cond_false (F124.ev (by kernel_rfl)) ?_
                  refine wp_skip ?_
                  refine hK22 _ _ ?_; clear hK22 K22
                  refine wp_region_lit ?_
                  refine op_r (v := .int .i64 (↑(k + 1))) F124 (r_add (z := ↑(k + 1)) rfl (F124.ev (v := .int .i64 (↑k)) (by kernel_rfl)) (F124.ev (v := .int .i64 1) (by kernel_rfl)) (wr64 (by omega) (by omega) (by omega))) rfl rfl rfl ?_; intro a125 F125
                  refine op_p F125 (.int .i64 (↑(k + 1))) (by kernel_rfl) rfl rfl rfl (by kernel_rfl) rfl ?_; intro a126 F126
                  refine wpList_nil ?_
                  exact hK17 _ _ _ (by first | omega | (simp; omega)) ⟨k + 1, rfl, (F126.k 0 (by kernel_rfl) (F126.k 1 (by kernel_rfl) (F126.k 8 (by kernel_rfl) (F126.k 9 (by kernel_rfl) (F126.k 10 (by kernel_rfl) (F126.k 11 (by kernel_rfl) (F126.k 12 (by kernel_rfl) (F126.k 13 (by kernel_rfl) (F126.k 14 (by kernel_rfl) (F126.k 15 (by kernel_rfl) F126.nil)))))))))), S71, (by first | omega | (with_reducible assumption) | (simp; done)), (by first | omega | (with_reducible assumption) | (simp; done)), (fun j hj => (Nat.lt_succ_iff_lt_or_eq.1 hj).elim (hlo j) (fun e => by subst e; rw [bt0_at hlt_k, bt0_at (by omega)]; unfold lowN; split <;> split <;> omega))⟩
                · have hc123p := ne_of_beq_false hc123
                  have F127 := F122.sb 42 (by kernel_rfl) (show (!((↑(s[k].toNat + 32) : Int) == ↑t[k].toNat)) = true by rw [hc123]; rfl)
                  refine wp_cond_true (F127.ev (by kernel_rfl)) ?_
                  refine wp_seq_k fun K128 hK128 => ?_
                  refine wp_region_lit ?_
                  refine op_p F127 (.bool false) (by kernel_rfl) rfl rfl rfl (by kernel_rfl) rfl ?_; intro a129 F129
                  refine wpList_nil ?_
                  refine hK128 _ _ ?_; clear hK128 K128
                  refine wp_ret ?_
                  refine ret_in ?_
                  refine ret_then ?_
                  refine ret_then ?_
                  refine ret_in ?_
                  refine ret_then ?_
                  refine (F129.res1 rfl (v := .bool false) (by kernel_rfl) ?_).1
                  exact ⟨(ret_bool (low_ne hlt_k (by omega) (by unfold lowN; split <;> split <;> omega)).symm), S71⟩
            · have hc94p := of_decide_eq_false hc94
              have F130 := F93.sb 33 (by kernel_rfl) hc94
              have F131 := F130.sb 34 (by kernel_rfl) hc94
              refine op_skip F131 (by kernel_rfl) rfl rfl rfl ?_; intro a132 F132
              refine op_skip F132 (by kernel_rfl) rfl rfl rfl ?_; intro a133 F133
              refine op_p F133 (.bool false) (by kernel_rfl) rfl rfl rfl (by kernel_rfl) rfl ?_; intro a134 F134
              refine wpList_nil ?_
              refine hK90 _ _ ?_; clear hK90 K90
              refine wp_cond_false (F134.ev (by kernel_rfl)) ?_
              refine wp_skip ?_
              refine hK89 _ _ ?_; clear hK89 K89
              refine wp_seq_k fun K135 hK135 => ?_
              refine wp_region_lit ?_
              refine op_p F134 (.int .u8 (↑(s[k].toNat + 32))) (by kernel_rfl) rfl rfl rfl (by kernel_rfl) rfl ?_; intro a136 F136
              refine op_p F136 (.int .u8 (↑t[k].toNat)) (by kernel_rfl) rfl rfl rfl (by kernel_rfl) rfl ?_; intro a137 F137
              refine op_p F137 (.bool (!((↑(s[k].toNat + 32) : Int) == ↑t[k].toNat))) (by kernel_rfl) rfl rfl rfl (by kernel_rfl) rfl ?_; intro a138 F138
              refine wpList_nil ?_
              refine hK135 _ _ ?_; clear hK135 K135
              rcases btf ((↑(s[k].toNat + 32) : Int) == ↑t[k].toNat) with hc139 | hc139
              · have hc139p := eq_of_beq hc139
                have F140 := F138.sb 42 (by kernel_rfl) (show (!((↑(s[k].toNat + 32) : Int) == ↑t[k].toNat)) = false by rw [hc139]; rfl)
                refine wp_cond_false (F140.ev (by kernel_rfl)) ?_
                refine wp_skip ?_
                refine hK22 _ _ ?_; clear hK22 K22
                refine wp_region_lit ?_
                refine op_r (v := .int .i64 (↑(k + 1))) F140 (r_add (z := ↑(k + 1)) rfl (F140.ev (v := .int .i64 (↑k)) (by kernel_rfl)) (F140.ev (v := .int .i64 1) (by kernel_rfl)) (wr64 (by omega) (by omega) (by omega))) rfl rfl rfl ?_; intro a141 F141
                refine op_p F141 (.int .i64 (↑(k + 1))) (by kernel_rfl) rfl rfl rfl (by kernel_rfl) rfl ?_; intro a142 F142
                refine wpList_nil ?_
                exact hK17 _ _ _ (by first | omega | (simp; omega)) ⟨k + 1, rfl, (F142.k 0 (by kernel_rfl) (F142.k 1 (by kernel_rfl) (F142.k 8 (by kernel_rfl) (F142.k 9 (by kernel_rfl) (F142.k 10 (by kernel_rfl) (F142.k 11 (by kernel_rfl) (F142.k 12 (by kernel_rfl) (F142.k 13 (by kernel_rfl) (F142.k 14 (by kernel_rfl) (F142.k 15 (by kernel_rfl) F142.nil)))))))))), S71, (by first | omega | (with_reducible assumption) | (simp; done)), (by first | omega | (with_reducible assumption) | (simp; done)), (fun j hj => (Nat.lt_succ_iff_lt_or_eq.1 hj).elim (hlo j) (fun e => by subst e; rw [bt0_at hlt_k, bt0_at (by omega)]; unfold lowN; split <;> split <;> omega))⟩
              · have hc139p := ne_of_beq_false hc139
                have F143 := F138.sb 42 (by kernel_rfl) (show (!((↑(s[k].toNat + 32) : Int) == ↑t[k].toNat)) = true by rw [hc139]; rfl)
                refine wp_cond_true (F143.ev (by kernel_rfl)) ?_
                refine wp_seq_k fun K144 hK144 => ?_
                refine wp_region_lit ?_
                refine op_p F143 (.bool false) (by kernel_rfl) rfl rfl rfl (by kernel_rfl) rfl ?_; intro a145 F145
                refine wpList_nil ?_
                refine hK144 _ _ ?_; clear hK144 K144
                refine wp_ret ?_
                refine ret_in ?_
                refine ret_then ?_
                refine ret_then ?_
                refine ret_in ?_
                refine ret_then ?_
                refine (F145.res1 rfl (v := .bool false) (by kernel_rfl) ?_).1
                exact ⟨(ret_bool (low_ne hlt_k (by omega) (by unfold lowN; split <;> split <;> omega)).symm), S71⟩
          · have hc83p := of_decide_eq_false hc83
            have F146 := F82.sb 28 (by kernel_rfl) hc83
            have F147 := F146.sb 29 (by kernel_rfl) hc83
            refine wp_cond_false (F147.ev (by kernel_rfl)) ?_
            refine wp_skip ?_
            refine hK72 _ _ ?_; clear hK72 K72
            refine wp_seq_k fun K148 hK148 => ?_
            refine wp_seq_k fun K149 hK149 => ?_
            refine wp_region_lit ?_
            refine op_p F147 (.int .u8 (↑t[k].toNat)) (by kernel_rfl) rfl rfl rfl (by kernel_rfl) rfl ?_; intro a150 F150
            refine op_p F150 (.bool (decide ((65 : Int) ≤ ↑t[k].toNat))) (by kernel_rfl) rfl rfl rfl (by kernel_rfl) rfl ?_; intro a151 F151
            refine op_p F151 (.bool (decide ((65 : Int) ≤ ↑t[k].toNat))) (by kernel_rfl) rfl rfl rfl (by kernel_rfl) rfl ?_; intro a152 F152
            rcases btf (decide ((65 : Int) ≤ ↑t[k].toNat)) with hc153 | hc153
            · have hc153p := of_decide_eq_true hc153
              have F154 := F152.sb 33 (by kernel_rfl) hc153
              have F155 := F154.sb 34 (by kernel_rfl) hc153
              refine op_want F155 (by kernel_rfl) rfl ?_
              refine op_p F155 (.int .u8 (↑t[k].toNat)) (by kernel_rfl) rfl rfl rfl (by kernel_rfl) rfl ?_; intro a156 F156
              refine op_want F156 (by kernel_rfl) rfl ?_
              refine op_p F156 (.bool (decide ((↑t[k].toNat : Int) ≤ 90))) (by kernel_rfl) rfl rfl rfl (by kernel_rfl) rfl ?_; intro a157 F157
              refine op_p F157 (.bool (decide ((↑t[k].toNat : Int) ≤ 90))) (by kernel_rfl) rfl rfl rfl (by kernel_rfl) rfl ?_; intro a158 F158
              refine wpList_nil ?_
              refine hK149 _ _ ?_; clear hK149 K149
              rcases btf (decide ((↑t[k].toNat : Int) ≤ 90)) with hc159 | hc159
              · have hc159p := of_decide_eq_true hc159
                have F160 := F158.sb 36 (by kernel_rfl) hc159
                have F161 := F160.sb 37 (by kernel_rfl) hc159
                refine wp_cond_true (F161.ev (by kernel_rfl)) ?_
                refine wp_region_lit ?_
                refine op_p F161 (.int .u8 (↑t[k].toNat)) (by kernel_rfl) rfl rfl rfl (by kernel_rfl) rfl ?_; intro a162 F162
                refine op_r (v := .int .u8 (↑(t[k].toNat + 32))) F162 (r_add (z := ↑(t[k].toNat + 32)) rfl (F162.ev (v := .int .u8 (↑t[k].toNat)) (by kernel_rfl)) (F162.ev (v := .int .u8 32) (by kernel_rfl)) (wru8 (by omega) (by omega) (by omega))) rfl rfl rfl ?_; intro a163 F163
                refine op_p F163 (.int .u8 (↑(t[k].toNat + 32))) (by kernel_rfl) rfl rfl rfl (by kernel_rfl) rfl ?_; intro a164 F164
                refine wpList_nil ?_
                refine hK148 _ _ ?_; clear hK148 K148
                refine wp_seq_k fun K165 hK165 => ?_
                refine wp_region_lit ?_
                refine op_p F164 (.int .u8 (↑s[k].toNat)) (by kernel_rfl) rfl rfl rfl (by kernel_rfl) rfl ?_; intro a166 F166
                refine op_p F166 (.int .u8 (↑(t[k].toNat + 32))) (by kernel_rfl) rfl rfl rfl (by kernel_rfl) rfl ?_; intro a167 F167
                refine op_p F167 (.bool (!((↑s[k].toNat : Int) == ↑(t[k].toNat + 32)))) (by kernel_rfl) rfl rfl rfl (by kernel_rfl) rfl ?_; intro a168 F168
                refine wpList_nil ?_
                refine hK165 _ _ ?_; clear hK165 K165
                rcases btf ((↑s[k].toNat : Int) == ↑(t[k].toNat + 32)) with hc169 | hc169
                · have hc169p := eq_of_beq hc169
                  have F170 := F168.sb 42 (by kernel_rfl) (show (!((↑s[k].toNat : Int) == ↑(t[k].toNat + 32))) = false by rw [hc169]; rfl)
                  refine wp_cond_false (F170.ev (by kernel_rfl)) ?_
                  refine wp_skip ?_
                  refine hK22 _ _ ?_; clear hK22 K22
                  refine wp_region_lit ?_
                  refine op_r (v := .int .i64 (↑(k + 1))) F170 (r_add (z := ↑(k + 1)) rfl (F170.ev (v := .int .i64 (↑k)) (by kernel_rfl)) (F170.ev (v := .int .i64 1) (by kernel_rfl)) (wr64 (by omega) (by omega) (by omega))) rfl rfl rfl ?_; intro a171 F171
                  refine op_p F171 (.int .i64 (↑(k + 1))) (by kernel_rfl) rfl rfl rfl (by kernel_rfl) rfl ?_; intro a172 F172
                  refine wpList_nil ?_
                  exact hK17 _ _ _ (by first | omega | (simp; omega)) ⟨k + 1, rfl, (F172.k 0 (by kernel_rfl) (F172.k 1 (by kernel_rfl) (F172.k 8 (by kernel_rfl) (F172.k 9 (by kernel_rfl) (F172.k 10 (by kernel_rfl) (F172.k 11 (by kernel_rfl) (F172.k 12 (by kernel_rfl) (F172.k 13 (by kernel_rfl) (F172.k 14 (by kernel_rfl) (F172.k 15 (by kernel_rfl) F172.nil)))))))))), S71, (by first | omega | (with_reducible assumption) | (simp; done)), (by first | omega | (with_reducible assumption) | (simp; done)), (fun j hj => (Nat.lt_succ_iff_lt_or_eq.1 hj).elim (hlo j) (fun e => by subst e; rw [bt0_at hlt_k, bt0_at (by omega)]; unfold lowN; split <;> split <;> omega))⟩
                · have hc169p := ne_of_beq_false hc169
                  have F173 := F168.sb 42 (by kernel_rfl) (show (!((↑s[k].toNat : Int) == ↑(t[k].toNat + 32))) = true by rw [hc169]; rfl)
                  refine wp_cond_true (F173.ev (by kernel_rfl)) ?_
                  refine wp_seq_k fun K174 hK174 => ?_
                  refine wp_region_lit ?_
                  refine op_p F173 (.bool false) (by kernel_rfl) rfl rfl rfl (by kernel_rfl) rfl ?_; intro a175 F175
                  refine wpList_nil ?_
                  refine hK174 _ _ ?_; clear hK174 K174
                  refine wp_ret ?_
                  refine ret_in ?_
                  refine ret_then ?_
                  refine ret_then ?_
                  refine ret_in ?_
                  refine ret_then ?_
                  refine (F175.res1 rfl (v := .bool false) (by kernel_rfl) ?_).1
                  exact ⟨(ret_bool (low_ne hlt_k (by omega) (by unfold lowN; split <;> split <;> omega)).symm), S71⟩
              · have hc159p := of_decide_eq_false hc159
                have F176 := F158.sb 36 (by kernel_rfl) hc159
                have F177 := F176.sb 37 (by kernel_rfl) hc159
                refine wp_cond_false (F177.ev (by kernel_rfl)) ?_
                refine wp_skip ?_
                refine hK148 _ _ ?_; clear hK148 K148
                refine wp_seq_k fun K178 hK178 => ?_
                refine wp_region_lit ?_
                refine op_p F177 (.int .u8 (↑s[k].toNat)) (by kernel_rfl) rfl rfl rfl (by kernel_rfl) rfl ?_; intro a179 F179
                refine op_p F179 (.int .u8 (↑t[k].toNat)) (by kernel_rfl) rfl rfl rfl (by kernel_rfl) rfl ?_; intro a180 F180
                refine op_p F180 (.bool (!((↑s[k].toNat : Int) == ↑t[k].toNat))) (by kernel_rfl) rfl rfl rfl (by kernel_rfl) rfl ?_; intro a181 F181
                refine wpList_nil ?_
                refine hK178 _ _ ?_; clear hK178 K178
                rcases btf ((↑s[k].toNat : Int) == ↑t[k].toNat) with hc182 | hc182
                · have hc182p := eq_of_beq hc182
                  have F183 := F181.sb 42 (by kernel_rfl) (show (!((↑s[k].toNat : Int) == ↑t[k].toNat)) = false by rw [hc182]; rfl)
                  refine wp_cond_false (F183.ev (by kernel_rfl)) ?_
                  refine wp_skip ?_
                  refine hK22 _ _ ?_; clear hK22 K22
                  refine wp_region_lit ?_
                  refine op_r (v := .int .i64 (↑(k + 1))) F183 (r_add (z := ↑(k + 1)) rfl (F183.ev (v := .int .i64 (↑k)) (by kernel_rfl)) (F183.ev (v := .int .i64 1) (by kernel_rfl)) (wr64 (by omega) (by omega) (by omega))) rfl rfl rfl ?_; intro a184 F184
                  refine op_p F184 (.int .i64 (↑(k + 1))) (by kernel_rfl) rfl rfl rfl (by kernel_rfl) rfl ?_; intro a185 F185
                  refine wpList_nil ?_
                  exact hK17 _ _ _ (by first | omega | (simp; omega)) ⟨k + 1, rfl, (F185.k 0 (by kernel_rfl) (F185.k 1 (by kernel_rfl) (F185.k 8 (by kernel_rfl) (F185.k 9 (by kernel_rfl) (F185.k 10 (by kernel_rfl) (F185.k 11 (by kernel_rfl) (F185.k 12 (by kernel_rfl) (F185.k 13 (by kernel_rfl) (F185.k 14 (by kernel_rfl) (F185.k 15 (by kernel_rfl) F185.nil)))))))))), S71, (by first | omega | (with_reducible assumption) | (simp; done)), (by first | omega | (with_reducible assumption) | (simp; done)), (fun j hj => (Nat.lt_succ_iff_lt_or_eq.1 hj).elim (hlo j) (fun e => by subst e; rw [bt0_at hlt_k, bt0_at (by omega)]; unfold lowN; split <;> split <;> omega))⟩
                · have hc182p := ne_of_beq_false hc182
                  have F186 := F181.sb 42 (by kernel_rfl) (show (!((↑s[k].toNat : Int) == ↑t[k].toNat)) = true by rw [hc182]; rfl)
                  refine wp_cond_true (F186.ev (by kernel_rfl)) ?_
                  refine wp_seq_k fun K187 hK187 => ?_
                  refine wp_region_lit ?_
                  refine op_p F186 (.bool false) (by kernel_rfl) rfl rfl rfl (by kernel_rfl) rfl ?_; intro a188 F188
                  refine wpList_nil ?_
                  refine hK187 _ _ ?_; clear hK187 K187
                  refine wp_ret ?_
                  refine ret_in ?_
                  refine ret_then ?_
                  refine ret_then ?_
                  refine ret_in ?_
                  refine ret_then ?_
                  refine (F188.res1 rfl (v := .bool false) (by kernel_rfl) ?_).1
                  exact ⟨(ret_bool (low_ne hlt_k (by omega) (by unfold lowN; split <;> split <;> omega)).symm), S71⟩
            · have hc153p := of_decide_eq_false hc153
              have F189 := F152.sb 33 (by kernel_rfl) hc153
              have F190 := F189.sb 34 (by kernel_rfl) hc153
              refine op_skip F190 (by kernel_rfl) rfl rfl rfl ?_; intro a191 F191
              refine op_skip F191 (by kernel_rfl) rfl rfl rfl ?_; intro a192 F192
              refine op_p F192 (.bool false) (by kernel_rfl) rfl rfl rfl (by kernel_rfl) rfl ?_; intro a193 F193
              refine wpList_nil ?_
              refine hK149 _ _ ?_; clear hK149 K149
              refine wp_cond_false (F193.ev (by kernel_rfl)) ?_
              refine wp_skip ?_
              refine hK148 _ _ ?_; clear hK148 K148
              refine wp_seq_k fun K194 hK194 => ?_
              refine wp_region_lit ?_
              refine op_p F193 (.int .u8 (↑s[k].toNat)) (by kernel_rfl) rfl rfl rfl (by kernel_rfl) rfl ?_; intro a195 F195
              refine op_p F195 (.int .u8 (↑t[k].toNat)) (by kernel_rfl) rfl rfl rfl (by kernel_rfl) rfl ?_; intro a196 F196
              refine op_p F196 (.bool (!((↑s[k].toNat : Int) == ↑t[k].toNat))) (by kernel_rfl) rfl rfl rfl (by kernel_rfl) rfl ?_; intro a197 F197
              refine wpList_nil ?_
              refine hK194 _ _ ?_; clear hK194 K194
              rcases btf ((↑s[k].toNat : Int) == ↑t[k].toNat) with hc198 | hc198
              · have hc198p := eq_of_beq hc198
                have F199 := F197.sb 42 (by kernel_rfl) (show (!((↑s[k].toNat : Int) == ↑t[k].toNat)) = false by rw [hc198]; rfl)
                refine wp_cond_false (F199.ev (by kernel_rfl)) ?_
                refine wp_skip ?_
                refine hK22 _ _ ?_; clear hK22 K22
                refine wp_region_lit ?_
                refine op_r (v := .int .i64 (↑(k + 1))) F199 (r_add (z := ↑(k + 1)) rfl (F199.ev (v := .int .i64 (↑k)) (by kernel_rfl)) (F199.ev (v := .int .i64 1) (by kernel_rfl)) (wr64 (by omega) (by omega) (by omega))) rfl rfl rfl ?_; intro a200 F200
                refine op_p F200 (.int .i64 (↑(k + 1))) (by kernel_rfl) rfl rfl rfl (by kernel_rfl) rfl ?_; intro a201 F201
                refine wpList_nil ?_
                exact hK17 _ _ _ (by first | omega | (simp; omega)) ⟨k + 1, rfl, (F201.k 0 (by kernel_rfl) (F201.k 1 (by kernel_rfl) (F201.k 8 (by kernel_rfl) (F201.k 9 (by kernel_rfl) (F201.k 10 (by kernel_rfl) (F201.k 11 (by kernel_rfl) (F201.k 12 (by kernel_rfl) (F201.k 13 (by kernel_rfl) (F201.k 14 (by kernel_rfl) (F201.k 15 (by kernel_rfl) F201.nil)))))))))), S71, (by first | omega | (with_reducible assumption) | (simp; done)), (by first | omega | (with_reducible assumption) | (simp; done)), (fun j hj => (Nat.lt_succ_iff_lt_or_eq.1 hj).elim (hlo j) (fun e => by subst e; rw [bt0_at hlt_k, bt0_at (by omega)]; unfold lowN; split <;> split <;> omega))⟩
              · have hc198p := ne_of_beq_false hc198
                have F202 := F197.sb 42 (by kernel_rfl) (show (!((↑s[k].toNat : Int) == ↑t[k].toNat)) = true by rw [hc198]; rfl)
                refine wp_cond_true (F202.ev (by kernel_rfl)) ?_
                refine wp_seq_k fun K203 hK203 => ?_
                refine wp_region_lit ?_
                refine op_p F202 (.bool false) (by kernel_rfl) rfl rfl rfl (by kernel_rfl) rfl ?_; intro a204 F204
                refine wpList_nil ?_
                refine hK203 _ _ ?_; clear hK203 K203
                refine wp_ret ?_
                refine ret_in ?_
                refine ret_then ?_
                refine ret_then ?_
                refine ret_in ?_
                refine ret_then ?_
                refine (F204.res1 rfl (v := .bool false) (by kernel_rfl) ?_).1
                exact ⟨(ret_bool (low_ne hlt_k (by omega) (by unfold lowN; split <;> split <;> omega)).symm), S71⟩
        · have hc77p := of_decide_eq_false hc77
          have F205 := F76.sb 25 (by kernel_rfl) hc77
          have F206 := F205.sb 26 (by kernel_rfl) hc77
          refine op_skip F206 (by kernel_rfl) rfl rfl rfl ?_; intro a207 F207
          refine op_skip F207 (by kernel_rfl) rfl rfl rfl ?_; intro a208 F208
          refine op_p F208 (.bool false) (by kernel_rfl) rfl rfl rfl (by kernel_rfl) rfl ?_; intro a209 F209
          refine wpList_nil ?_
          refine hK73 _ _ ?_; clear hK73 K73
          refine wp_cond_false (F209.ev (by kernel_rfl)) ?_
          refine wp_skip ?_
          refine hK72 _ _ ?_; clear hK72 K72
          refine wp_seq_k fun K210 hK210 => ?_
          refine wp_seq_k fun K211 hK211 => ?_
          refine wp_region_lit ?_
          refine op_p F209 (.int .u8 (↑t[k].toNat)) (by kernel_rfl) rfl rfl rfl (by kernel_rfl) rfl ?_; intro a212 F212
          refine op_p F212 (.bool (decide ((65 : Int) ≤ ↑t[k].toNat))) (by kernel_rfl) rfl rfl rfl (by kernel_rfl) rfl ?_; intro a213 F213
          refine op_p F213 (.bool (decide ((65 : Int) ≤ ↑t[k].toNat))) (by kernel_rfl) rfl rfl rfl (by kernel_rfl) rfl ?_; intro a214 F214
          rcases btf (decide ((65 : Int) ≤ ↑t[k].toNat)) with hc215 | hc215
          · have hc215p := of_decide_eq_true hc215
            have F216 := F214.sb 33 (by kernel_rfl) hc215
            have F217 := F216.sb 34 (by kernel_rfl) hc215
            refine op_want F217 (by kernel_rfl) rfl ?_
            refine op_p F217 (.int .u8 (↑t[k].toNat)) (by kernel_rfl) rfl rfl rfl (by kernel_rfl) rfl ?_; intro a218 F218
            refine op_want F218 (by kernel_rfl) rfl ?_
            refine op_p F218 (.bool (decide ((↑t[k].toNat : Int) ≤ 90))) (by kernel_rfl) rfl rfl rfl (by kernel_rfl) rfl ?_; intro a219 F219
            refine op_p F219 (.bool (decide ((↑t[k].toNat : Int) ≤ 90))) (by kernel_rfl) rfl rfl rfl (by kernel_rfl) rfl ?_; intro a220 F220
            refine wpList_nil ?_
            refine hK211 _ _ ?_; clear hK211 K211
            rcases btf (decide ((↑t[k].toNat : Int) ≤ 90)) with hc221 | hc221
            · have hc221p := of_decide_eq_true hc221
              have F222 := F220.sb 36 (by kernel_rfl) hc221
              have F223 := F222.sb 37 (by kernel_rfl) hc221
              refine wp_cond_true (F223.ev (by kernel_rfl)) ?_
              refine wp_region_lit ?_
              refine op_p F223 (.int .u8 (↑t[k].toNat)) (by kernel_rfl) rfl rfl rfl (by kernel_rfl) rfl ?_; intro a224 F224
              refine op_r (v := .int .u8 (↑(t[k].toNat + 32))) F224 (r_add (z := ↑(t[k].toNat + 32)) rfl (F224.ev (v := .int .u8 (↑t[k].toNat)) (by kernel_rfl)) (F224.ev (v := .int .u8 32) (by kernel_rfl)) (wru8 (by omega) (by omega) (by omega))) rfl rfl rfl ?_; intro a225 F225
              refine op_p F225 (.int .u8 (↑(t[k].toNat + 32))) (by kernel_rfl) rfl rfl rfl (by kernel_rfl) rfl ?_; intro a226 F226
              refine wpList_nil ?_
              refine hK210 _ _ ?_; clear hK210 K210
              refine wp_seq_k fun K227 hK227 => ?_
              refine wp_region_lit ?_
              refine op_p F226 (.int .u8 (↑s[k].toNat)) (by kernel_rfl) rfl rfl rfl (by kernel_rfl) rfl ?_; intro a228 F228
              refine op_p F228 (.int .u8 (↑(t[k].toNat + 32))) (by kernel_rfl) rfl rfl rfl (by kernel_rfl) rfl ?_; intro a229 F229
              refine op_p F229 (.bool (!((↑s[k].toNat : Int) == ↑(t[k].toNat + 32)))) (by kernel_rfl) rfl rfl rfl (by kernel_rfl) rfl ?_; intro a230 F230
              refine wpList_nil ?_
              refine hK227 _ _ ?_; clear hK227 K227
              rcases btf ((↑s[k].toNat : Int) == ↑(t[k].toNat + 32)) with hc231 | hc231
              · have hc231p := eq_of_beq hc231
                have F232 := F230.sb 42 (by kernel_rfl) (show (!((↑s[k].toNat : Int) == ↑(t[k].toNat + 32))) = false by rw [hc231]; rfl)
                refine wp_cond_false (F232.ev (by kernel_rfl)) ?_
                refine wp_skip ?_
                refine hK22 _ _ ?_; clear hK22 K22
                refine wp_region_lit ?_
                refine op_r (v := .int .i64 (↑(k + 1))) F232 (r_add (z := ↑(k + 1)) rfl (F232.ev (v := .int .i64 (↑k)) (by kernel_rfl)) (F232.ev (v := .int .i64 1) (by kernel_rfl)) (wr64 (by omega) (by omega) (by omega))) rfl rfl rfl ?_; intro a233 F233
                refine op_p F233 (.int .i64 (↑(k + 1))) (by kernel_rfl) rfl rfl rfl (by kernel_rfl) rfl ?_; intro a234 F234
                refine wpList_nil ?_
                exact hK17 _ _ _ (by first | omega | (simp; omega)) ⟨k + 1, rfl, (F234.k 0 (by kernel_rfl) (F234.k 1 (by kernel_rfl) (F234.k 8 (by kernel_rfl) (F234.k 9 (by kernel_rfl) (F234.k 10 (by kernel_rfl) (F234.k 11 (by kernel_rfl) (F234.k 12 (by kernel_rfl) (F234.k 13 (by kernel_rfl) (F234.k 14 (by kernel_rfl) (F234.k 15 (by kernel_rfl) F234.nil)))))))))), S71, (by first | omega | (with_reducible assumption) | (simp; done)), (by first | omega | (with_reducible assumption) | (simp; done)), (fun j hj => (Nat.lt_succ_iff_lt_or_eq.1 hj).elim (hlo j) (fun e => by subst e; rw [bt0_at hlt_k, bt0_at (by omega)]; unfold lowN; split <;> split <;> omega))⟩
              · have hc231p := ne_of_beq_false hc231
                have F235 := F230.sb 42 (by kernel_rfl) (show (!((↑s[k].toNat : Int) == ↑(t[k].toNat + 32))) = true by rw [hc231]; rfl)
                refine wp_cond_true (F235.ev (by kernel_rfl)) ?_
                refine wp_seq_k fun K236 hK236 => ?_
                refine wp_region_lit ?_
                refine op_p F235 (.bool false) (by kernel_rfl) rfl rfl rfl (by kernel_rfl) rfl ?_; intro a237 F237
                refine wpList_nil ?_
                refine hK236 _ _ ?_; clear hK236 K236
                refine wp_ret ?_
                refine ret_in ?_
                refine ret_then ?_
                refine ret_then ?_
                refine ret_in ?_
                refine ret_then ?_
                refine (F237.res1 rfl (v := .bool false) (by kernel_rfl) ?_).1
                exact ⟨(ret_bool (low_ne hlt_k (by omega) (by unfold lowN; split <;> split <;> omega)).symm), S71⟩
            · have hc221p := of_decide_eq_false hc221
              have F238 := F220.sb 36 (by kernel_rfl) hc221
              have F239 := F238.sb 37 (by kernel_rfl) hc221
              refine wp_cond_false (F239.ev (by kernel_rfl)) ?_
              refine wp_skip ?_
              refine hK210 _ _ ?_; clear hK210 K210
              refine wp_seq_k fun K240 hK240 => ?_
              refine wp_region_lit ?_
              refine op_p F239 (.int .u8 (↑s[k].toNat)) (by kernel_rfl) rfl rfl rfl (by kernel_rfl) rfl ?_; intro a241 F241
              refine op_p F241 (.int .u8 (↑t[k].toNat)) (by kernel_rfl) rfl rfl rfl (by kernel_rfl) rfl ?_; intro a242 F242
              refine op_p F242 (.bool (!((↑s[k].toNat : Int) == ↑t[k].toNat))) (by kernel_rfl) rfl rfl rfl (by kernel_rfl) rfl ?_; intro a243 F243
              refine wpList_nil ?_
              refine hK240 _ _ ?_; clear hK240 K240
              rcases btf ((↑s[k].toNat : Int) == ↑t[k].toNat) with hc244 | hc244
              · have hc244p := eq_of_beq hc244
                have F245 := F243.sb 42 (by kernel_rfl) (show (!((↑s[k].toNat : Int) == ↑t[k].toNat)) = false by rw [hc244]; rfl)
                refine wp_cond_false (F245.ev (by kernel_rfl)) ?_
                refine wp_skip ?_
                refine hK22 _ _ ?_; clear hK22 K22
                refine wp_region_lit ?_
                refine op_r (v := .int .i64 (↑(k + 1))) F245 (r_add (z := ↑(k + 1)) rfl (F245.ev (v := .int .i64 (↑k)) (by kernel_rfl)) (F245.ev (v := .int .i64 1) (by kernel_rfl)) (wr64 (by omega) (by omega) (by omega))) rfl rfl rfl ?_; intro a246 F246
                refine op_p F246 (.int .i64 (↑(k + 1))) (by kernel_rfl) rfl rfl rfl (by kernel_rfl) rfl ?_; intro a247 F247
                refine wpList_nil ?_
                exact hK17 _ _ _ (by first | omega | (simp; omega)) ⟨k + 1, rfl, (F247.k 0 (by kernel_rfl) (F247.k 1 (by kernel_rfl) (F247.k 8 (by kernel_rfl) (F247.k 9 (by kernel_rfl) (F247.k 10 (by kernel_rfl) (F247.k 11 (by kernel_rfl) (F247.k 12 (by kernel_rfl) (F247.k 13 (by kernel_rfl) (F247.k 14 (by kernel_rfl) (F247.k 15 (by kernel_rfl) F247.nil)))))))))), S71, (by first | omega | (with_reducible assumption) | (simp; done)), (by first | omega | (with_reducible assumption) | (simp; done)), (fun j hj => (Nat.lt_succ_iff_lt_or_eq.1 hj).elim (hlo j) (fun e => by subst e; rw [bt0_at hlt_k, bt0_at (by omega)]; unfold lowN; split <;> split <;> omega))⟩
              · have hc244p := ne_of_beq_false hc244
                have F248 := F243.sb 42 (by kernel_rfl) (show (!((↑s[k].toNat : Int) == ↑t[k].toNat)) = true by rw [hc244]; rfl)
                refine wp_cond_true (F248.ev (by kernel_rfl)) ?_
                refine wp_seq_k fun K249 hK249 => ?_
                refine wp_region_lit ?_
                refine op_p F248 (.bool false) (by kernel_rfl) rfl rfl rfl (by kernel_rfl) rfl ?_; intro a250 F250
                refine wpList_nil ?_
                refine hK249 _ _ ?_; clear hK249 K249
                refine wp_ret ?_
                refine ret_in ?_
                refine ret_then ?_
                refine ret_then ?_
                refine ret_in ?_
                refine ret_then ?_
                refine (F250.res1 rfl (v := .bool false) (by kernel_rfl) ?_).1
                exact ⟨(ret_bool (low_ne hlt_k (by omega) (by unfold lowN; split <;> split <;> omega)).symm), S71⟩
          · have hc215p := of_decide_eq_false hc215
            have F251 := F214.sb 33 (by kernel_rfl) hc215
            have F252 := F251.sb 34 (by kernel_rfl) hc215
            refine op_skip F252 (by kernel_rfl) rfl rfl rfl ?_; intro a253 F253
            refine op_skip F253 (by kernel_rfl) rfl rfl rfl ?_; intro a254 F254
            refine op_p F254 (.bool false) (by kernel_rfl) rfl rfl rfl (by kernel_rfl) rfl ?_; intro a255 F255
            refine wpList_nil ?_
            refine hK211 _ _ ?_; clear hK211 K211
            refine wp_cond_false (F255.ev (by kernel_rfl)) ?_
            refine wp_skip ?_
            refine hK210 _ _ ?_; clear hK210 K210
            refine wp_seq_k fun K256 hK256 => ?_
            refine wp_region_lit ?_
            refine op_p F255 (.int .u8 (↑s[k].toNat)) (by kernel_rfl) rfl rfl rfl (by kernel_rfl) rfl ?_; intro a257 F257
            refine op_p F257 (.int .u8 (↑t[k].toNat)) (by kernel_rfl) rfl rfl rfl (by kernel_rfl) rfl ?_; intro a258 F258
            refine op_p F258 (.bool (!((↑s[k].toNat : Int) == ↑t[k].toNat))) (by kernel_rfl) rfl rfl rfl (by kernel_rfl) rfl ?_; intro a259 F259
            refine wpList_nil ?_
            refine hK256 _ _ ?_; clear hK256 K256
            rcases btf ((↑s[k].toNat : Int) == ↑t[k].toNat) with hc260 | hc260
            · have hc260p := eq_of_beq hc260
              have F261 := F259.sb 42 (by kernel_rfl) (show (!((↑s[k].toNat : Int) == ↑t[k].toNat)) = false by rw [hc260]; rfl)
              refine wp_cond_false (F261.ev (by kernel_rfl)) ?_
              refine wp_skip ?_
              refine hK22 _ _ ?_; clear hK22 K22
              refine wp_region_lit ?_
              refine op_r (v := .int .i64 (↑(k + 1))) F261 (r_add (z := ↑(k + 1)) rfl (F261.ev (v := .int .i64 (↑k)) (by kernel_rfl)) (F261.ev (v := .int .i64 1) (by kernel_rfl)) (wr64 (by omega) (by omega) (by omega))) rfl rfl rfl ?_; intro a262 F262
              refine op_p F262 (.int .i64 (↑(k + 1))) (by kernel_rfl) rfl rfl rfl (by kernel_rfl) rfl ?_; intro a263 F263
              refine wpList_nil ?_
              exact hK17 _ _ _ (by first | omega | (simp; omega)) ⟨k + 1, rfl, (F263.k 0 (by kernel_rfl) (F263.k 1 (by kernel_rfl) (F263.k 8 (by kernel_rfl) (F263.k 9 (by kernel_rfl) (F263.k 10 (by kernel_rfl) (F263.k 11 (by kernel_rfl) (F263.k 12 (by kernel_rfl) (F263.k 13 (by kernel_rfl) (F263.k 14 (by kernel_rfl) (F263.k 15 (by kernel_rfl) F263.nil)))))))))), S71, (by first | omega | (with_reducible assumption) | (simp; done)), (by first | omega | (with_reducible assumption) | (simp; done)), (fun j hj => (Nat.lt_succ_iff_lt_or_eq.1 hj).elim (hlo j) (fun e => by subst e; rw [bt0_at hlt_k, bt0_at (by omega)]; unfold lowN; split <;> split <;> omega))⟩
            · have hc260p := ne_of_beq_false hc260
              have F264 := F259.sb 42 (by kernel_rfl) (show (!((↑s[k].toNat : Int) == ↑t[k].toNat)) = true by rw [hc260]; rfl)
              refine wp_cond_true (F264.ev (by kernel_rfl)) ?_
              refine wp_seq_k fun K265 hK265 => ?_
              refine wp_region_lit ?_
              refine op_p F264 (.bool false) (by kernel_rfl) rfl rfl rfl (by kernel_rfl) rfl ?_; intro a266 F266
              refine wpList_nil ?_
              refine hK265 _ _ ?_; clear hK265 K265
              refine wp_ret ?_
              refine ret_in ?_
              refine ret_then ?_
              refine ret_then ?_
              refine ret_in ?_
              refine ret_then ?_
              refine (F266.res1 rfl (v := .bool false) (by kernel_rfl) ?_).1
              exact ⟨(ret_bool (low_ne hlt_k (by omega) (by unfold lowN; split <;> split <;> omega)).symm), S71⟩
    · have hc_k : decide ((↑k : Int) < ↑s.size) = false := by first | (simp; done) | (simp; omega)
      obtain rfl : k = s.size := by omega
      refine wp_seq_k fun K267 hK267 => ?_
      refine wp_region_lit ?_
      refine op_p F17 (.bool (decide ((↑s.size : Int) < ↑s.size))) (by kernel_rfl) rfl rfl rfl (by kernel_rfl) rfl ?_; intro a268 F268
      have F269 := F268.sb 16 (by kernel_rfl) hc_k
      refine wpList_nil ?_
      refine hK267 _ _ ?_; clear hK267 K267
      refine wp_seq_k fun K270 hK270 => ?_
      refine wp_cond_false (F269.ev (by kernel_rfl)) ?_
      refine wp_exit ?_
      refine ex_then ?_; clear hK270 K270
      refine ex_then ?_
      refine ex_in ?_
      refine hK12 _ _ ?_; clear hK12 K12
      refine wp_seq_k fun K271 hK271 => ?_
      refine wp_region_lit ?_
      refine op_p F269 (.bool true) (by kernel_rfl) rfl rfl rfl (by kernel_rfl) rfl ?_; intro a272 F272
      refine wpList_nil ?_
      refine hK271 _ _ ?_; clear hK271 K271
      refine wp_ret ?_
      refine (F272.res1 rfl (v := .bool true) (by kernel_rfl) ?_).1
      exact ⟨(ret_bool (low_eq hst (by omega) hlo).symm), S17⟩
  · have hc10p := ne_of_beq_false hc10
    have F273 := F9.sb 12 (by kernel_rfl) (show (!((↑s.size : Int) == ↑t.size)) = true by rw [hc10]; rfl)
    refine wp_cond_true (F273.ev (by kernel_rfl)) ?_
    refine wp_seq_k fun K274 hK274 => ?_
    refine wp_region_lit ?_
    refine op_p F273 (.bool false) (by kernel_rfl) rfl rfl rfl (by kernel_rfl) rfl ?_; intro a275 F275
    refine wpList_nil ?_
    refine hK274 _ _ ?_; clear hK274 K274
    refine wp_ret ?_
    refine ret_then ?_
    refine (F275.res1 rfl (v := .bool false) (by kernel_rfl) ?_).1
    exact ⟨(ret_bool (low_sz (by omega)).symm), S⟩
set_option maxRecDepth 100000 in
set_option maxHeartbeats 20000000 in
theorem hlSmall_any (s : ByteArray) (R : Ctx) (L : List SA) (w : World) (S : Sp R w (L))  (hz : s.size ≤ 4000000000) :
    Calls Try.prog 40 #[.string s] w fun e w' => e = .returned (.bool (smallB s)) ∧ Sp R w' (L) := by
  refine fw_enter (fn := Try.f40) rfl rfl 27 rfl (Nat.le_of_ble_eq_true rfl) ?_
  intro a0 F0
  refine wp_seq_k fun K1 hK1 => ?_
  refine wp_region_lit ?_
  refine op_p F0 (.bool false) (by kernel_rfl) rfl rfl rfl (by kernel_rfl) rfl ?_; intro a2 F2
  refine wpList_nil ?_
  refine hK1 _ _ ?_; clear hK1 K1
  refine wp_seq_k fun K3 hK3 => ?_
  refine wp_seq_k fun K4 hK4 => ?_
  refine wp_region_lit ?_
  refine op_p F2 (.string s) (by kernel_rfl) rfl rfl rfl (by kernel_rfl) rfl ?_; intro a5 F5
  refine op_p F5 (.int .i64 (↑s.size)) (by kernel_rfl) rfl rfl rfl (by kernel_rfl) rfl ?_; intro a6 F6
  refine op_p F6 (.int .i64 0) (by kernel_rfl) rfl rfl rfl (by kernel_rfl) rfl ?_; intro a7 F7
  refine wpList_nil ?_
  refine hK4 _ _ ?_; clear hK4 K4
  refine wp_block ?_
  refine fw_loop (fun m a' w' => ∃ i : Nat, s.size - i = m ∧ Fr 27 [] a' [(0, .string s), (4, .string s), (5, .int .i64 (↑s.size)), (6, .int .i64 (↑i))] ∧ Sp R w' (L) ∧ (i ≤ s.size) ∧ (∀ j, ∀ hj : j < s.size, j < i → 97 ≤ s[j].toNat ∧ s[j].toNat ≤ 122)) _ ⟨0, rfl, (F7.k 0 (by kernel_rfl) (F7.k 4 (by kernel_rfl) (F7.k 5 (by kernel_rfl) (F7.k 6 (by kernel_rfl) F7.nil)))), S, (by first | omega | (with_reducible assumption) | (simp; done)), (fun j _ hj => absurd hj (Nat.not_lt_zero _))⟩ ?_
  rintro m8 a8 w8 ⟨i, hm8, F8, S8, hi, hsm⟩ K8 hK8
  by_cases hlt_i : i < s.size
  · have hc_i : decide ((↑i : Int) < ↑s.size) = true := by first | (simp; done) | (simp; omega)
    refine wp_seq_k fun K9 hK9 => ?_
    refine wp_region_lit ?_
    refine op_p F8 (.bool (decide ((↑i : Int) < ↑s.size))) (by kernel_rfl) rfl rfl rfl (by kernel_rfl) rfl ?_; intro a10 F10
    have F11 := F10.sb 7 (by kernel_rfl) hc_i
    refine wpList_nil ?_
    refine hK9 _ _ ?_; clear hK9 K9
    refine wp_seq_k fun K12 hK12 => ?_
    refine wp_cond_true (F11.ev (by kernel_rfl)) ?_
    refine wp_skip ?_
    refine hK12 _ _ ?_; clear hK12 K12
    refine wp_seq_k fun K13 hK13 => ?_
    refine wp_block ?_
    refine wp_seq_k fun K14 hK14 => ?_
    refine wp_region_lit ?_
    refine op_p F11 (.int .i64 (↑i)) (by kernel_rfl) rfl rfl rfl (by kernel_rfl) rfl ?_; intro a15 F15
    refine op_p F15 (.int .i64 (↑i)) (by kernel_rfl) rfl rfl rfl (by kernel_rfl) rfl ?_; intro a16 F16
    refine wpList_nil ?_
    refine hK14 _ _ ?_; clear hK14 K14
    refine wp_seq_k fun K17 hK17 => ?_
    refine wp_region_lit ?_
    refine op_p F16 (.string s) (by kernel_rfl) rfl rfl rfl (by kernel_rfl) rfl ?_; intro a18 F18
    refine op_p F18 (.int .i64 (↑i)) (by kernel_rfl) rfl rfl rfl (by kernel_rfl) rfl ?_; intro a19 F19
    refine op_r (v := .int .u8 (↑s[i].toNat)) F19 (r_index rfl Try.underlying9 (F19.ev (v := .string s) (by kernel_rfl)) (F19.ev (v := .int .i64 (↑i)) (by kernel_rfl)) i (by first | rfl | omega | simp) (by first | omega | (simp; done) | (simp; omega))) rfl rfl rfl ?_; intro a20 F20
    refine op_p F20 (.bool (decide ((↑s[i].toNat : Int) < 97))) (by kernel_rfl) rfl rfl rfl (by kernel_rfl) rfl ?_; intro a21 F21
    refine op_p F21 (.bool (decide ((↑s[i].toNat : Int) < 97))) (by kernel_rfl) rfl rfl rfl (by kernel_rfl) rfl ?_; intro a22 F22
    rcases btf (decide ((↑s[i].toNat : Int) < 97)) with hc23 | hc23
    · have hc23p := of_decide_eq_true hc23
      have F24 := F22.sb 12 (by kernel_rfl) hc23
      have F25 := F24.sb 13 (by kernel_rfl) hc23
      refine op_skip F25 (by kernel_rfl) rfl rfl rfl ?_; intro a26 F26
      refine op_skip F26 (by kernel_rfl) rfl rfl rfl ?_; intro a27 F27
      refine op_skip F27 (by kernel_rfl) rfl rfl rfl ?_; intro a28 F28
      refine op_skip F28 (by kernel_rfl) rfl rfl rfl ?_; intro a29 F29
      refine op_p F29 (.bool true) (by kernel_rfl) rfl rfl rfl (by kernel_rfl) rfl ?_; intro a30 F30
      refine wpList_nil ?_
      refine hK17 _ _ ?_; clear hK17 K17
      refine wp_cond_true (F30.ev (by kernel_rfl)) ?_
      refine wp_seq_k fun K31 hK31 => ?_
      refine wp_region_lit ?_
      refine op_p F30 (.bool false) (by kernel_rfl) rfl rfl rfl (by kernel_rfl) rfl ?_; intro a32 F32
      refine wpList_nil ?_
      refine hK31 _ _ ?_; clear hK31 K31
      refine wp_ret ?_
      refine ret_in ?_
      refine ret_then ?_
      refine ret_then ?_
      refine ret_in ?_
      refine ret_then ?_
      refine (F32.res1 rfl (v := .bool false) (by kernel_rfl) ?_).1
      exact ⟨(ret_bool (small_no hlt_i (by omega)).symm), S8⟩
    · have hc23p := of_decide_eq_false hc23
      have F33 := F22.sb 12 (by kernel_rfl) hc23
      have F34 := F33.sb 13 (by kernel_rfl) hc23
      refine op_want F34 (by kernel_rfl) rfl ?_
      refine op_p F34 (.string s) (by kernel_rfl) rfl rfl rfl (by kernel_rfl) rfl ?_; intro a35 F35
      refine op_want F35 (by kernel_rfl) rfl ?_
      refine op_p F35 (.int .i64 (↑i)) (by kernel_rfl) rfl rfl rfl (by kernel_rfl) rfl ?_; intro a36 F36
      refine op_want F36 (by kernel_rfl) rfl ?_
      refine op_r (v := .int .u8 (↑s[i].toNat)) F36 (r_index rfl Try.underlying9 (F36.ev (v := .string s) (by kernel_rfl)) (F36.ev (v := .int .i64 (↑i)) (by kernel_rfl)) i (by first | rfl | omega | simp) (by first | omega | (simp; done) | (simp; omega))) rfl rfl rfl ?_; intro a37 F37
      refine op_want F37 (by kernel_rfl) rfl ?_
      refine op_p F37 (.bool (decide ((122 : Int) < ↑s[i].toNat))) (by kernel_rfl) rfl rfl rfl (by kernel_rfl) rfl ?_; intro a38 F38
      refine op_p F38 (.bool (decide ((122 : Int) < ↑s[i].toNat))) (by kernel_rfl) rfl rfl rfl (by kernel_rfl) rfl ?_; intro a39 F39
      refine wpList_nil ?_
      refine hK17 _ _ ?_; clear hK17 K17
      rcases btf (decide ((122 : Int) < ↑s[i].toNat)) with hc40 | hc40
      · have hc40p := of_decide_eq_true hc40
        have F41 := F39.sb 17 (by kernel_rfl) hc40
        have F42 := F41.sb 18 (by kernel_rfl) hc40
        refine wp_cond_true (F42.ev (by kernel_rfl)) ?_
        refine wp_seq_k fun K43 hK43 => ?_
        refine wp_region_lit ?_
        refine op_p F42 (.bool false) (by kernel_rfl) rfl rfl rfl (by kernel_rfl) rfl ?_; intro a44 F44
        refine wpList_nil ?_
        refine hK43 _ _ ?_; clear hK43 K43
        refine wp_ret ?_
        refine ret_in ?_
        refine ret_then ?_
        refine ret_then ?_
        refine ret_in ?_
        refine ret_then ?_
        refine (F44.res1 rfl (v := .bool false) (by kernel_rfl) ?_).1
        exact ⟨(ret_bool (small_no hlt_i (by omega)).symm), S8⟩
      · have hc40p := of_decide_eq_false hc40
        have F45 := F39.sb 17 (by kernel_rfl) hc40
        have F46 := F45.sb 18 (by kernel_rfl) hc40
        refine wp_cond_false (F46.ev (by kernel_rfl)) ?_
        refine wp_skip ?_
        refine hK13 _ _ ?_; clear hK13 K13
        refine wp_region_lit ?_
        refine op_r (v := .int .i64 (↑(i + 1))) F46 (r_add (z := ↑(i + 1)) rfl (F46.ev (v := .int .i64 (↑i)) (by kernel_rfl)) (F46.ev (v := .int .i64 1) (by kernel_rfl)) (wr64 (by omega) (by omega) (by omega))) rfl rfl rfl ?_; intro a47 F47
        refine op_p F47 (.int .i64 (↑(i + 1))) (by kernel_rfl) rfl rfl rfl (by kernel_rfl) rfl ?_; intro a48 F48
        refine wpList_nil ?_
        exact hK8 _ _ _ (by first | omega | (simp; omega)) ⟨i + 1, rfl, (F48.k 0 (by kernel_rfl) (F48.k 4 (by kernel_rfl) (F48.k 5 (by kernel_rfl) (F48.k 6 (by kernel_rfl) F48.nil)))), S8, (by first | omega | (with_reducible assumption) | (simp; done)), (fun j hj h => (Nat.lt_succ_iff_lt_or_eq.1 h).elim (hsm j hj) (fun e => by subst e; omega))⟩
  · have hc_i : decide ((↑i : Int) < ↑s.size) = false := by first | (simp; done) | (simp; omega)
    obtain rfl : i = s.size := by omega
    refine wp_seq_k fun K49 hK49 => ?_
    refine wp_region_lit ?_
    refine op_p F8 (.bool (decide ((↑s.size : Int) < ↑s.size))) (by kernel_rfl) rfl rfl rfl (by kernel_rfl) rfl ?_; intro a50 F50
    have F51 := F50.sb 7 (by kernel_rfl) hc_i
    refine wpList_nil ?_
    refine hK49 _ _ ?_; clear hK49 K49
    refine wp_seq_k fun K52 hK52 => ?_
    refine wp_cond_false (F51.ev (by kernel_rfl)) ?_
    refine wp_exit ?_
    refine ex_then ?_; clear hK52 K52
    refine ex_then ?_
    refine ex_in ?_
    refine hK3 _ _ ?_; clear hK3 K3
    refine wp_seq_k fun K53 hK53 => ?_
    refine wp_region_lit ?_
    refine op_p F51 (.string s) (by kernel_rfl) rfl rfl rfl (by kernel_rfl) rfl ?_; intro a54 F54
    refine op_p F54 (.bool (!(s.toList == (⟨#[]⟩ : ByteArray).toList))) (by kernel_rfl) rfl rfl rfl (by kernel_rfl) rfl ?_; intro a55 F55
    refine op_p F55 (.bool (!(s.toList == (⟨#[]⟩ : ByteArray).toList))) (by kernel_rfl) rfl rfl rfl (by kernel_rfl) rfl ?_; intro a56 F56
    rcases btf (s.toList == (⟨#[]⟩ : ByteArray).toList) with hc57 | hc57
    · have F58 := F56.sb 21 (by kernel_rfl) (show (!(s.toList == (⟨#[]⟩ : ByteArray).toList)) = false by rw [hc57]; rfl)
      have F59 := F58.sb 22 (by kernel_rfl) (show (!(s.toList == (⟨#[]⟩ : ByteArray).toList)) = false by rw [hc57]; rfl)
      refine op_skip F59 (by kernel_rfl) rfl rfl rfl ?_; intro a60 F60
      refine op_skip F60 (by kernel_rfl) rfl rfl rfl ?_; intro a61 F61
      refine op_skip F61 (by kernel_rfl) rfl rfl rfl ?_; intro a62 F62
      refine op_p F62 (.bool false) (by kernel_rfl) rfl rfl rfl (by kernel_rfl) rfl ?_; intro a63 F63
      refine op_p F63 (.bool false) (by kernel_rfl) rfl rfl rfl (by kernel_rfl) rfl ?_; intro a64 F64
      refine wpList_nil ?_
      refine hK53 _ _ ?_; clear hK53 K53
      refine wp_ret ?_
      refine (F64.res1 rfl (v := .bool false) (by kernel_rfl) ?_).1
      exact ⟨(ret_bool (by rw [small_yes (Nat.le_refl _) (fun j hj _ => hsm j hj (by omega)), hc57]; rfl)), S8⟩
    · have F65 := F56.sb 21 (by kernel_rfl) (show (!(s.toList == (⟨#[]⟩ : ByteArray).toList)) = true by rw [hc57]; rfl)
      have F66 := F65.sb 22 (by kernel_rfl) (show (!(s.toList == (⟨#[]⟩ : ByteArray).toList)) = true by rw [hc57]; rfl)
      refine op_want F66 (by kernel_rfl) rfl ?_
      refine op_p F66 (.string s) (by kernel_rfl) rfl rfl rfl (by kernel_rfl) rfl ?_; intro a67 F67
      refine op_want F67 (by kernel_rfl) rfl ?_
      refine op_p F67 (.int .i64 (↑s.size)) (by kernel_rfl) rfl rfl rfl (by kernel_rfl) rfl ?_; intro a68 F68
      refine op_want F68 (by kernel_rfl) rfl ?_
      refine op_p F68 (.bool (decide ((↑s.size : Int) ≤ 10))) (by kernel_rfl) rfl rfl rfl (by kernel_rfl) rfl ?_; intro a69 F69
      refine op_p F69 (.bool (decide ((↑s.size : Int) ≤ 10))) (by kernel_rfl) rfl rfl rfl (by kernel_rfl) rfl ?_; intro a70 F70
      refine op_p F70 (.bool (decide ((↑s.size : Int) ≤ 10))) (by kernel_rfl) rfl rfl rfl (by kernel_rfl) rfl ?_; intro a71 F71
      refine wpList_nil ?_
      refine hK53 _ _ ?_; clear hK53 K53
      refine wp_ret ?_
      refine (F71.res1 rfl (v := .bool (decide ((↑s.size : Int) ≤ 10))) (by kernel_rfl) ?_).1
      exact ⟨(ret_bool (by rw [small_yes (Nat.le_refl _) (fun j hj _ => hsm j hj (by omega)), hc57]; show decide _ = (true && decide _); rw [Bool.true_and]; exact decide_eq_decide.2 (by omega))), S8⟩
set_option maxRecDepth 100000 in
set_option maxHeartbeats 20000000 in
theorem exClo110_any (A : Option Addr) (c : Nat) (xs : List Ty108) (s : ByteArray) (gb : Nat) (R : Ctx) (L : List SA) (w : World) (S : Sp R w (L)) (h0 : Rf R L fun w => Rows w (A) 2 (xs.map Ty108.cells)) (h1 : Rf R L fun w => Blk w (gb) 40 #[.slice (A) (xs.length) (c)])  :
    Calls Try.prog 110 #[.string s, .pointer (some ⟨gb, 0, none⟩)] w fun e w' => e = .returned (.string (undF xs s)) ∧ Sp R w' (L) := by
  have hl_xs : xs.length ≤ 9223372036854775807 := by have := (h0 _ S).1; simpa [strs, ptrs] using this
  refine fw_enter (fn := Try.f110) rfl rfl 7 rfl (Nat.le_of_ble_eq_true rfl) ?_
  intro a0 F0
  refine wp_seq_k fun K1 hK1 => ?_
  refine wp_region_lit ?_
  refine op_p F0 (.string ⟨#[]⟩) (by kernel_rfl) rfl rfl rfl (by kernel_rfl) rfl ?_; intro a2 F2
  refine wpList_nil ?_
  refine hK1 _ _ ?_; clear hK1 K1
  refine wp_seq_k fun K3 hK3 => ?_
  refine wp_region_lit ?_
  refine op_r (v := .slice (A) (xs.length) (c)) F2 (r_ld rfl (F2.ev (v := .pointer (some ⟨gb, 0, none⟩)) (by kernel_rfl)) (v := .slice (A) (xs.length) (c)) ((h1 _ S).cell 0) Try.underlying40 rfl) rfl rfl rfl ?_; intro a4 F4
  refine op_p F4 (.string s) (by kernel_rfl) rfl rfl rfl (by kernel_rfl) rfl ?_; intro a5 F5
  refine op_c F5 (f := 71) (args := #[.slice (A) (xs.length) (c), .string s]) (by kernel_rfl) (by kernel_rfl) rfl (under_any A c xs s _ (h0 _ S)) rfl rfl rfl ?_
  rintro _ w6 ⟨rfl, hb_6⟩
  refine ⟨_, rfl, ?_⟩
  intro a7 F7
  have S6 := S.below hb_6
  refine op_p F7 (.string (undF xs s)) (by kernel_rfl) rfl rfl rfl (by kernel_rfl) rfl ?_; intro a8 F8
  refine wpList_nil ?_
  refine hK3 _ _ ?_; clear hK3 K3
  refine wp_ret ?_
  refine (F8.res1 rfl (v := .string (undF xs s)) (by kernel_rfl) ?_).1
  exact ⟨rfl, S6⟩
set_option maxRecDepth 100000 in
set_option maxHeartbeats 20000000 in
theorem expand110_any (A : Option Addr) (c : Nat) (xs : List Ty108) (s : ByteArray) (gb : Nat) (R : Ctx) (L : List SA) (w : World) (S : Sp R w (L)) (h0 : Rf R L fun w => Rows w (A) 2 (xs.map Ty108.cells)) (h1 : Rf R L fun w => Blk w (gb) 40 #[.slice (A) (xs.length) (c)]) (hs : s.size ≤ 1000) (hM : ∀ x ∈ xs, x.fText.size ≤ 2147483647) :
    Calls Try.prog 69 #[.string s, .func (.func 110) #[] #[.pointer (some ⟨gb, 0, none⟩)]] w fun e w' => e = .returned (.string (exF xs s 0)) ∧ Sp R w' (L) := by
  have hl_xs : xs.length ≤ 9223372036854775807 := by have := (h0 _ S).1; simpa [strs, ptrs] using this
  refine fw_enter (fn := Try.f69) rfl rfl 80 rfl (Nat.le_of_ble_eq_true rfl) ?_
  intro a0 F0
  refine wp_seq_k fun K1 hK1 => ?_
  refine wp_region_lit ?_
  refine op_p F0 (.string ⟨#[]⟩) (by kernel_rfl) rfl rfl rfl (by kernel_rfl) rfl ?_; intro a2 F2
  refine wpList_nil ?_
  refine hK1 _ _ ?_; clear hK1 K1
  refine wp_seq_k fun K3 hK3 => ?_
  refine wp_region_lit ?_
  refine op_p F2 (.slice none 0 0) (by kernel_rfl) rfl rfl rfl (by kernel_rfl) rfl ?_; intro a4 F4
  refine wpList_nil ?_
  refine hK3 _ _ ?_; clear hK3 K3
  refine wp_seq_k fun K5 hK5 => ?_
  refine wp_region_lit ?_
  refine op_p F4 (.int .i64 0) (by kernel_rfl) rfl rfl rfl (by kernel_rfl) rfl ?_; intro a6 F6
  refine wpList_nil ?_
  refine hK5 _ _ ?_; clear hK5 K5
  refine wp_seq_k fun K7 hK7 => ?_
  refine wp_seq_k fun K8 hK8 => ?_
  refine wp_region_lit ?_
  refine op_p F6 (.int .i64 0) (by kernel_rfl) rfl rfl rfl (by kernel_rfl) rfl ?_; intro a9 F9
  refine wpList_nil ?_
  refine hK8 _ _ ?_; clear hK8 K8
  refine wp_block ?_
  refine fw_loop (fun m a' w' => ∃ Ab : Option Addr, ∃ cb : Nat, ∃ b : ByteArray, ∃ i : Nat, ∃ j : Nat, s.size - j = m ∧ Fr 80 [] a' [(0, .string s), (1, .func (.func 110) #[] #[.pointer (some ⟨gb, 0, none⟩)]), (4, .string ⟨#[]⟩), (5, .slice Ab b.size cb), (6, .int .i64 (↑i)), (7, .int .i64 (↑j))] ∧ Sp R w' (SA.own (.slice Ab b.size cb) 5 1 b.size (strCells b) :: L) ∧ (i ≤ j) ∧ (j ≤ s.size) ∧ (Ab = none → i = 0) ∧ (b ++ s.extract i j ++ exF xs s j = exF xs s 0) ∧ (b.size + (j - i) ≤ j * 4294967296)) _ ⟨none, 0, ⟨#[]⟩, 0, 0, rfl, (F9.k 0 (by kernel_rfl) (F9.k 1 (by kernel_rfl) (F9.k 4 (by kernel_rfl) (F9.k 5 (by kernel_rfl) (F9.k 6 (by kernel_rfl) (F9.k 7 (by kernel_rfl) F9.nil)))))), (Sp.nilown S), (by first | omega | (with_reducible assumption) | (simp; done)), (by first | omega | (with_reducible assumption) | (simp; done)), (fun _ => rfl), (by rw [ext_same]; simp only [emp_app]), (by decide)⟩ ?_
  rintro m10 a10 w10 ⟨Ab, cb, b, i, j, hm10, F10, S10, hij, hj, hn, he, hz⟩ K10 hK10
  by_cases hlt_j : j < s.size
  · have hc_j : decide ((↑j : Int) < ↑s.size) = true := by first | (simp; done) | (simp; omega)
    have hvl : ∀ h : j + 1 < s.size, j + 1 + (shF (s.extract (j + 1) s.size)).2 ≤ s.size := fun h => vrF_le h
    have hps := pcF_size (xs := xs) (n := 2147483647) (by omega) hM (shF (s.extract (j + 1) s.size))
    have hus : (undF xs (shF (s.extract (j + 1) s.size)).1).size ≤ 2147483647 := undF_size hM
    refine wp_seq_k fun K11 hK11 => ?_
    refine wp_seq_k fun K12 hK12 => ?_
    refine wp_region_lit ?_
    refine op_p F10 (.int .i64 (↑j)) (by kernel_rfl) rfl rfl rfl (by kernel_rfl) rfl ?_; intro a13 F13
    refine op_p F13 (.string s) (by kernel_rfl) rfl rfl rfl (by kernel_rfl) rfl ?_; intro a14 F14
    refine op_p F14 (.int .i64 (↑s.size)) (by kernel_rfl) rfl rfl rfl (by kernel_rfl) rfl ?_; intro a15 F15
    refine op_p F15 (.bool (decide ((↑j : Int) < ↑s.size))) (by kernel_rfl) rfl rfl rfl (by kernel_rfl) rfl ?_; intro a16 F16
    have F17 := F16.sb 13 (by kernel_rfl) hc_j
    refine wpList_nil ?_
    refine hK12 _ _ ?_; clear hK12 K12
    refine wp_cond_true (F17.ev (by kernel_rfl)) ?_
    refine wp_skip ?_
    refine hK11 _ _ ?_; clear hK11 K11
    refine wp_seq_k fun K18 hK18 => ?_
    refine wp_block ?_
    refine wp_seq_k fun K19 hK19 => ?_
    refine wp_region_lit ?_
    refine op_p F17 (.string s) (by kernel_rfl) rfl rfl rfl (by kernel_rfl) rfl ?_; intro a20 F20
    refine op_p F20 (.int .i64 (↑j)) (by kernel_rfl) rfl rfl rfl (by kernel_rfl) rfl ?_; intro a21 F21
    refine op_r (v := .int .u8 (↑s[j].toNat)) F21 (r_index rfl Try.underlying9 (F21.ev (v := .string s) (by kernel_rfl)) (F21.ev (v := .int .i64 (↑j)) (by kernel_rfl)) j (by first | rfl | omega | simp) (by first | omega | (simp; done) | (simp; omega))) rfl rfl rfl ?_; intro a22 F22
    refine op_p F22 (.bool ((↑s[j].toNat : Int) == 36)) (by kernel_rfl) rfl rfl rfl (by kernel_rfl) rfl ?_; intro a23 F23
    refine op_p F23 (.bool ((↑s[j].toNat : Int) == 36)) (by kernel_rfl) rfl rfl rfl (by kernel_rfl) rfl ?_; intro a24 F24
    rcases btf ((↑s[j].toNat : Int) == 36) with hc25 | hc25
    · have hc25p := eq_of_beq hc25
      have F26 := F24.sb 19 (by kernel_rfl) hc25
      have F27 := F26.sb 20 (by kernel_rfl) hc25
      refine op_want F27 (by kernel_rfl) rfl ?_
      refine op_p F27 (.int .i64 (↑j)) (by kernel_rfl) rfl rfl rfl (by kernel_rfl) rfl ?_; intro a28 F28
      refine op_want F28 (by kernel_rfl) rfl ?_
      refine op_r (v := .int .i64 (↑(j + 1))) F28 (r_add (z := ↑(j + 1)) rfl (F28.ev (v := .int .i64 (↑j)) (by kernel_rfl)) (F28.ev (v := .int .i64 1) (by kernel_rfl)) (wr64 (by omega) (by omega) (by omega))) rfl rfl rfl ?_; intro a29 F29
      refine op_want F29 (by kernel_rfl) rfl ?_
      refine op_p F29 (.string s) (by kernel_rfl) rfl rfl rfl (by kernel_rfl) rfl ?_; intro a30 F30
      refine op_want F30 (by kernel_rfl) rfl ?_
      refine op_p F30 (.int .i64 (↑s.size)) (by kernel_rfl) rfl rfl rfl (by kernel_rfl) rfl ?_; intro a31 F31
      refine op_want F31 (by kernel_rfl) rfl ?_
      refine op_p F31 (.bool (decide ((↑(j + 1) : Int) < ↑s.size))) (by kernel_rfl) rfl rfl rfl (by kernel_rfl) rfl ?_; intro a32 F32
      refine op_p F32 (.bool (decide ((↑(j + 1) : Int) < ↑s.size))) (by kernel_rfl) rfl rfl rfl (by kernel_rfl) rfl ?_; intro a33 F33
      refine wpList_nil ?_
      refine hK19 _ _ ?_; clear hK19 K19
      rcases btf (decide ((↑(j + 1) : Int) < ↑s.size)) with hc34 | hc34
      · have hc34p := of_decide_eq_true hc34
        have F35 := F33.sb 25 (by kernel_rfl) hc34
        have F36 := F35.sb 26 (by kernel_rfl) hc34
        refine wp_cond_true (F36.ev (by kernel_rfl)) ?_
        refine wp_seq_k fun K37 hK37 => ?_
        refine wp_seq_k fun K38 hK38 => ?_
        refine wp_region_lit ?_
        refine op_p F36 (.slice Ab b.size cb) (by kernel_rfl) rfl rfl rfl (by kernel_rfl) rfl ?_; intro a39 F39
        rcases own_nil_or (S10.ow 0 rfl) with ⟨hA40, hm40, hc40⟩ | ⟨gn40, hA40⟩
        · subst hA40
          obtain rfl := bytes_nil hm40
          obtain rfl : i = 0 := hn rfl
          subst hc40
          refine op_p F39 (.bool true) (by kernel_rfl) rfl rfl rfl (by kernel_rfl) rfl ?_; intro a41 F41
          refine wpList_nil ?_
          refine hK38 _ _ ?_; clear hK38 K38
          refine wp_cond_true (F41.ev (by kernel_rfl)) ?_
          refine wp_region_lit ?_
          refine op_p F41 (.string s) (by kernel_rfl) rfl rfl rfl (by kernel_rfl) rfl ?_; intro a42 F42
          refine op_p F42 (.int .i64 (↑s.size)) (by kernel_rfl) rfl rfl rfl (by kernel_rfl) rfl ?_; intro a43 F43
          refine op_r (v := .int .i64 (↑(2 * s.size))) F43 (r_mul (z := ↑(2 * s.size)) rfl (F43.ev (v := .int .i64 2) (by kernel_rfl)) (F43.ev (v := .int .i64 (↑s.size)) (by kernel_rfl)) (wr64 (by omega) (by omega) (by omega))) rfl rfl rfl ?_; intro a44 F44
          refine op_s F44 (s_mkb rfl Try.underlying148 tin5 (2 * s.size) (F44.ev (v := .int .i64 0) (by kernel_rfl)) (F44.ev (v := .int .i64 (↑(2 * s.size))) (by kernel_rfl)) (by first | rfl | omega) (by omega) S10) rfl rfl rfl ?_
          rintro _ _ w46 ⟨g44, c44, rfl, rfl⟩ S46 a46 F46
          refine op_p F46 (.slice (some ⟨g44, 0, none⟩) (⟨#[]⟩ : ByteArray).size c44) (by kernel_rfl) rfl rfl rfl (by kernel_rfl) rfl ?_; intro a47 F47
          refine wpList_nil ?_
          refine hK37 _ _ ?_; clear hK37 K37
          refine wp_seq_k fun K48 hK48 => ?_
          refine wp_region_lit ?_
          refine op_p F47 (.slice (some ⟨g44, 0, none⟩) (⟨#[]⟩ : ByteArray).size c44) (by kernel_rfl) rfl rfl rfl (by kernel_rfl) rfl ?_; intro a49 F49
          refine op_p F49 (.string s) (by kernel_rfl) rfl rfl rfl (by kernel_rfl) rfl ?_; intro a50 F50
          refine op_p F50 (.int .i64 (↑0)) (by kernel_rfl) rfl rfl rfl (by kernel_rfl) rfl ?_; intro a51 F51
          refine op_p F51 (.int .i64 (↑j)) (by kernel_rfl) rfl rfl rfl (by kernel_rfl) rfl ?_; intro a52 F52
          refine op_r (v := .string (s.extract 0 j)) F52 (r_sllh rfl Try.underlying9 (F52.ev (v := .string s) (by kernel_rfl)) (F52.ev (v := .int .i64 (↑0)) (by kernel_rfl)) (F52.ev (v := .int .i64 (↑j)) (by kernel_rfl))  0 j (by first | rfl | omega | (simp; done) | (simp; omega)) (by first | omega | (simp; done) | (simp; omega)) (rfl)) rfl rfl rfl ?_; intro a53 F53
          refine op_s F53 (s_apps rfl Try.underlying148 Try.underlying9 tin5 (F53.ev (v := .slice (some ⟨g44, 0, none⟩) (⟨#[]⟩ : ByteArray).size c44) (by kernel_rfl)) S46 (F53.ev (v := .string (s.extract 0 j)) (by kernel_rfl)) (by first | omega | (simp only [ByteArray.size_append, ByteArray.size_extract, sz0, sz1]; omega)) (r := (⟨#[]⟩ : ByteArray) ++ (s.extract 0 j)) rfl) rfl rfl rfl ?_
          rintro _ _ w55 ⟨A53, c53, rfl, hnn53, rfl⟩ S55 a55 F55
          refine op_p F55 (.slice A53 ((⟨#[]⟩ : ByteArray) ++ (s.extract 0 j)).size c53) (by kernel_rfl) rfl rfl rfl (by kernel_rfl) rfl ?_; intro a56 F56
          refine wpList_nil ?_
          refine hK48 _ _ ?_; clear hK48 K48
          refine wp_seq_k fun K57 hK57 => ?_
          refine wp_region_lit ?_
          refine op_p F56 (.string s) (by kernel_rfl) rfl rfl rfl (by kernel_rfl) rfl ?_; intro a58 F58
          refine op_p F58 (.int .i64 (↑j)) (by kernel_rfl) rfl rfl rfl (by kernel_rfl) rfl ?_; intro a59 F59
          refine op_r (v := .int .i64 (↑(j + 1))) F59 (r_add (z := ↑(j + 1)) rfl (F59.ev (v := .int .i64 (↑j)) (by kernel_rfl)) (F59.ev (v := .int .i64 1) (by kernel_rfl)) (wr64 (by omega) (by omega) (by omega))) rfl rfl rfl ?_; intro a60 F60
          refine op_r (v := .string (s.extract (j + 1) s.size)) F60 (r_sll rfl Try.underlying9 (F60.ev (v := .string s) (by kernel_rfl)) (F60.ev (v := .int .i64 (↑(j + 1))) (by kernel_rfl))  (j + 1) s.size (by first | rfl | omega | (simp; done) | (simp; omega)) (by first | omega | (simp; done) | (simp; omega)) (rfl)) rfl rfl rfl ?_; intro a61 F61
          refine op_c F61 (f := 133) (args := #[.string (s.extract (j + 1) s.size)]) (by kernel_rfl) (by kernel_rfl) rfl (shellName_any (s.extract (j + 1) s.size) _ (by simp; omega) (by simp; omega)) rfl rfl rfl ?_
          rintro _ _ ⟨rfl, rfl⟩
          refine ⟨_, rfl, ?_⟩
          intro a63 F63
          refine op_p F63 (.tuple #[.string ((shF (s.extract (j + 1) s.size)).1), .int .i64 (↑(shF (s.extract (j + 1) s.size)).2)]) (by kernel_rfl) rfl rfl rfl (by kernel_rfl) rfl ?_; intro a64 F64
          refine op_p F64 (.string ((shF (s.extract (j + 1) s.size)).1)) (by kernel_rfl) rfl rfl rfl (by kernel_rfl) rfl ?_; intro a65 F65
          refine op_p F65 (.int .i64 (↑(shF (s.extract (j + 1) s.size)).2)) (by kernel_rfl) rfl rfl rfl (by kernel_rfl) rfl ?_; intro a66 F66
          refine op_p F66 (.string ((shF (s.extract (j + 1) s.size)).1)) (by kernel_rfl) rfl rfl rfl (by kernel_rfl) rfl ?_; intro a67 F67
          refine op_p F67 (.int .i64 (↑(shF (s.extract (j + 1) s.size)).2)) (by kernel_rfl) rfl rfl rfl (by kernel_rfl) rfl ?_; intro a68 F68
          refine wpList_nil ?_
          refine hK57 _ _ ?_; clear hK57 K57
          refine wp_seq_k fun K69 hK69 => ?_
          refine wp_seq_k fun K70 hK70 => ?_
          refine wp_region_lit ?_
          refine op_p F68 (.string ((shF (s.extract (j + 1) s.size)).1)) (by kernel_rfl) rfl rfl rfl (by kernel_rfl) rfl ?_; intro a71 F71
          refine op_p F71 (.bool (((shF (s.extract (j + 1) s.size)).1).toList == (⟨#[]⟩ : ByteArray).toList)) (by kernel_rfl) rfl rfl rfl (by kernel_rfl) rfl ?_; intro a72 F72
          refine op_p F72 (.bool (((shF (s.extract (j + 1) s.size)).1).toList == (⟨#[]⟩ : ByteArray).toList)) (by kernel_rfl) rfl rfl rfl (by kernel_rfl) rfl ?_; intro a73 F73
          rcases btf (((shF (s.extract (j + 1) s.size)).1).toList == (⟨#[]⟩ : ByteArray).toList) with hc74 | hc74
          · have F75 := F73.sb 48 (by kernel_rfl) hc74
            have F76 := F75.sb 49 (by kernel_rfl) hc74
            refine op_want F76 (by kernel_rfl) rfl ?_
            refine op_p F76 (.int .i64 (↑(shF (s.extract (j + 1) s.size)).2)) (by kernel_rfl) rfl rfl rfl (by kernel_rfl) rfl ?_; intro a77 F77
            refine op_want F77 (by kernel_rfl) rfl ?_
            refine op_p F77 (.bool (decide ((0 : Int) < ↑(shF (s.extract (j + 1) s.size)).2))) (by kernel_rfl) rfl rfl rfl (by kernel_rfl) rfl ?_; intro a78 F78
            refine op_p F78 (.bool (decide ((0 : Int) < ↑(shF (s.extract (j + 1) s.size)).2))) (by kernel_rfl) rfl rfl rfl (by kernel_rfl) rfl ?_; intro a79 F79
            refine wpList_nil ?_
            refine hK70 _ _ ?_; clear hK70 K70
            rcases btf (decide ((0 : Int) < ↑(shF (s.extract (j + 1) s.size)).2)) with hc80 | hc80
            · have hc80p := of_decide_eq_true hc80
              have F81 := F79.sb 51 (by kernel_rfl) hc80
              have F82 := F81.sb 52 (by kernel_rfl) hc80
              refine wp_cond_true (F82.ev (by kernel_rfl)) ?_
              refine wp_skip ?_
              refine hK69 _ _ ?_; clear hK69 K69
              refine wp_seq_k fun K83 hK83 => ?_
              refine wp_region_lit ?_
              refine op_p F82 (.int .i64 (↑j)) (by kernel_rfl) rfl rfl rfl (by kernel_rfl) rfl ?_; intro a84 F84
              refine op_p F84 (.int .i64 (↑(shF (s.extract (j + 1) s.size)).2)) (by kernel_rfl) rfl rfl rfl (by kernel_rfl) rfl ?_; intro a85 F85
              refine op_r (v := .int .i64 (↑j + ↑(shF (s.extract (j + 1) s.size)).2)) F85 (r_add (z := (↑j + ↑(shF (s.extract (j + 1) s.size)).2)) rfl (F85.ev (v := .int .i64 (↑j)) (by kernel_rfl)) (F85.ev (v := .int .i64 (↑(shF (s.extract (j + 1) s.size)).2)) (by kernel_rfl)) (wr64 (by omega) (by omega) (by omega))) rfl rfl rfl ?_; intro a86 F86
              refine op_p F86 (.int .i64 (↑j + ↑(shF (s.extract (j + 1) s.size)).2)) (by kernel_rfl) rfl rfl rfl (by kernel_rfl) rfl ?_; intro a87 F87
              refine wpList_nil ?_
              refine hK83 _ _ ?_; clear hK83 K83
              refine wp_region_lit ?_
              refine op_p F87 (.int .i64 (↑j + ↑(shF (s.extract (j + 1) s.size)).2)) (by kernel_rfl) rfl rfl rfl (by kernel_rfl) rfl ?_; intro a88 F88
              refine op_r (v := .int .i64 ((↑j + ↑(shF (s.extract (j + 1) s.size)).2) + 1)) F88 (r_add (z := ((↑j + ↑(shF (s.extract (j + 1) s.size)).2) + 1)) rfl (F88.ev (v := .int .i64 (↑j + ↑(shF (s.extract (j + 1) s.size)).2)) (by kernel_rfl)) (F88.ev (v := .int .i64 1) (by kernel_rfl)) (wr64 (by omega) (by omega) (by omega))) rfl rfl rfl ?_; intro a89 F89
              refine op_p F89 (.int .i64 ((↑j + ↑(shF (s.extract (j + 1) s.size)).2) + 1)) (by kernel_rfl) rfl rfl rfl (by kernel_rfl) rfl ?_; intro a90 F90
              refine wpList_nil ?_
              refine hK18 _ _ ?_; clear hK18 K18
              refine wp_region_lit ?_
              refine op_p F90 (.int .i64 (↑j + ↑(shF (s.extract (j + 1) s.size)).2)) (by kernel_rfl) rfl rfl rfl (by kernel_rfl) rfl ?_; intro a91 F91
              refine op_r (v := .int .i64 ((↑j + ↑(shF (s.extract (j + 1) s.size)).2) + 1)) F91 (r_add (z := ((↑j + ↑(shF (s.extract (j + 1) s.size)).2) + 1)) rfl (F91.ev (v := .int .i64 (↑j + ↑(shF (s.extract (j + 1) s.size)).2)) (by kernel_rfl)) (F91.ev (v := .int .i64 1) (by kernel_rfl)) (wr64 (by omega) (by omega) (by omega))) rfl rfl rfl ?_; intro a92 F92
              refine op_p F92 (.int .i64 ((↑j + ↑(shF (s.extract (j + 1) s.size)).2) + 1)) (by kernel_rfl) rfl rfl rfl (by kernel_rfl) rfl ?_; intro a93 F93
              refine wpList_nil ?_
              exact hK10 _ _ _ (by first | omega | (simp; omega)) ⟨A53, c53, (⟨#[]⟩ : ByteArray) ++ (s.extract 0 j), _, _, rfl, (F93.k 0 (by kernel_rfl) (F93.k 1 (by kernel_rfl) (F93.k 4 (by kernel_rfl) (F93.k 5 (by kernel_rfl) (F93.k 6 (by kernel_rfl) (F93.k 7 (by kernel_rfl) F93.nil)))))), S55.p1.drop, (by first | omega | (with_reducible assumption) | (simp; done)), (by first | omega | (with_reducible assumption) | (simp; done)), (fun e => absurd e (hnn53 (by intro e; cases e))), (exp_var (n := (shF (s.extract (j + 1) s.size)).2) (b := ⟨#[]⟩) (i := 0) (by omega) (by omega) rfl he (by rw [show vrF s j = shF (s.extract (j + 1) s.size) from rfl, (pc_emp (p := shF (s.extract (j + 1) s.size)) hc74 (by omega))]; (try simp only [app_emp, emp_app]); first | done | rfl | rw [show s[j] = (36 : UInt8) from UInt8.toNat_inj.1 (by show _ = 36; omega)])), (by simp only [ByteArray.size_append, ByteArray.size_extract, sz0, sz1]; omega)⟩
            · have hc80p := of_decide_eq_false hc80
              have F94 := F79.sb 51 (by kernel_rfl) hc80
              have F95 := F94.sb 52 (by kernel_rfl) hc80
              refine wp_cond_false (F95.ev (by kernel_rfl)) ?_
              refine wp_seq_k fun K96 hK96 => ?_
              refine wp_region_lit ?_
              refine op_p F95 (.string ((shF (s.extract (j + 1) s.size)).1)) (by kernel_rfl) rfl rfl rfl (by kernel_rfl) rfl ?_; intro a97 F97
              refine op_p F97 (.bool (((shF (s.extract (j + 1) s.size)).1).toList == (⟨#[]⟩ : ByteArray).toList)) (by kernel_rfl) rfl rfl rfl (by kernel_rfl) rfl ?_; intro a98 F98
              have F99 := F98.sb 54 (by kernel_rfl) hc74
              refine wpList_nil ?_
              refine hK96 _ _ ?_; clear hK96 K96
              refine wp_cond_true (F99.ev (by kernel_rfl)) ?_
              refine wp_region_lit ?_
              refine op_p F99 (.slice A53 ((⟨#[]⟩ : ByteArray) ++ (s.extract 0 j)).size c53) (by kernel_rfl) rfl rfl rfl (by kernel_rfl) rfl ?_; intro a100 F100
              refine op_p F100 (.string s) (by kernel_rfl) rfl rfl rfl (by kernel_rfl) rfl ?_; intro a101 F101
              refine op_p F101 (.int .i64 (↑j)) (by kernel_rfl) rfl rfl rfl (by kernel_rfl) rfl ?_; intro a102 F102
              refine op_r (v := .int .u8 (↑s[j].toNat)) F102 (r_index rfl Try.underlying9 (F102.ev (v := .string s) (by kernel_rfl)) (F102.ev (v := .int .i64 (↑j)) (by kernel_rfl)) j (by first | rfl | omega | simp) (by first | omega | (simp; done) | (simp; omega))) rfl rfl rfl ?_; intro a103 F103
              refine op_s F103 (s_news F103 5 #[.int .u8 (↑s[j].toNat)] 1 (by kernel_rfl) (by kernel_rfl) (by kernel_rfl) S55) rfl rfl rfl ?_
              rintro _ _ w105 ⟨g103, rfl, rfl⟩ S105 a105 F105
              refine op_s F105 (s_appb rfl Try.underlying148 tin5 (↑s[j]) (F105.ev (v := .slice A53 ((⟨#[]⟩ : ByteArray) ++ (s.extract 0 j)).size c53) (by kernel_rfl)) S105.p1 (F105.ev (v := .slice (some ⟨g103, 0, none⟩) 1 1) (by kernel_rfl)) ((S105.bk 0 rfl).sl (by simp)) (by first | omega | (simp only [ByteArray.size_append, ByteArray.size_extract, sz0, sz1]; omega)) (r := ((⟨#[]⟩ : ByteArray) ++ (s.extract 0 j)) ++ ⟨#[↑s[j]]⟩) rfl) rfl rfl rfl ?_
              rintro _ _ w107 ⟨A105, c105, rfl, hnn105, rfl⟩ S107 a107 F107
              refine op_p F107 (.slice A105 (((⟨#[]⟩ : ByteArray) ++ (s.extract 0 j)) ++ ⟨#[↑s[j]]⟩).size c105) (by kernel_rfl) rfl rfl rfl (by kernel_rfl) rfl ?_; intro a108 F108
              refine wpList_nil ?_
              refine hK69 _ _ ?_; clear hK69 K69
              refine wp_seq_k fun K109 hK109 => ?_
              refine wp_region_lit ?_
              refine op_p F108 (.int .i64 (↑j)) (by kernel_rfl) rfl rfl rfl (by kernel_rfl) rfl ?_; intro a110 F110
              refine op_p F110 (.int .i64 (↑(shF (s.extract (j + 1) s.size)).2)) (by kernel_rfl) rfl rfl rfl (by kernel_rfl) rfl ?_; intro a111 F111
              refine op_r (v := .int .i64 (↑j + ↑(shF (s.extract (j + 1) s.size)).2)) F111 (r_add (z := (↑j + ↑(shF (s.extract (j + 1) s.size)).2)) rfl (F111.ev (v := .int .i64 (↑j)) (by kernel_rfl)) (F111.ev (v := .int .i64 (↑(shF (s.extract (j + 1) s.size)).2)) (by kernel_rfl)) (wr64 (by omega) (by omega) (by omega))) rfl rfl rfl ?_; intro a112 F112
              refine op_p F112 (.int .i64 (↑j + ↑(shF (s.extract (j + 1) s.size)).2)) (by kernel_rfl) rfl rfl rfl (by kernel_rfl) rfl ?_; intro a113 F113
              refine wpList_nil ?_
              refine hK109 _ _ ?_; clear hK109 K109
              refine wp_region_lit ?_
              refine op_p F113 (.int .i64 (↑j + ↑(shF (s.extract (j + 1) s.size)).2)) (by kernel_rfl) rfl rfl rfl (by kernel_rfl) rfl ?_; intro a114 F114
              refine op_r (v := .int .i64 ((↑j + ↑(shF (s.extract (j + 1) s.size)).2) + 1)) F114 (r_add (z := ((↑j + ↑(shF (s.extract (j + 1) s.size)).2) + 1)) rfl (F114.ev (v := .int .i64 (↑j + ↑(shF (s.extract (j + 1) s.size)).2)) (by kernel_rfl)) (F114.ev (v := .int .i64 1) (by kernel_rfl)) (wr64 (by omega) (by omega) (by omega))) rfl rfl rfl ?_; intro a115 F115
              refine op_p F115 (.int .i64 ((↑j + ↑(shF (s.extract (j + 1) s.size)).2) + 1)) (by kernel_rfl) rfl rfl rfl (by kernel_rfl) rfl ?_; intro a116 F116
              refine wpList_nil ?_
              refine hK18 _ _ ?_; clear hK18 K18
              refine wp_region_lit ?_
              refine op_p F116 (.int .i64 (↑j + ↑(shF (s.extract (j + 1) s.size)).2)) (by kernel_rfl) rfl rfl rfl (by kernel_rfl) rfl ?_; intro a117 F117
              refine op_r (v := .int .i64 ((↑j + ↑(shF (s.extract (j + 1) s.size)).2) + 1)) F117 (r_add (z := ((↑j + ↑(shF (s.extract (j + 1) s.size)).2) + 1)) rfl (F117.ev (v := .int .i64 (↑j + ↑(shF (s.extract (j + 1) s.size)).2)) (by kernel_rfl)) (F117.ev (v := .int .i64 1) (by kernel_rfl)) (wr64 (by omega) (by omega) (by omega))) rfl rfl rfl ?_; intro a118 F118
              refine op_p F118 (.int .i64 ((↑j + ↑(shF (s.extract (j + 1) s.size)).2) + 1)) (by kernel_rfl) rfl rfl rfl (by kernel_rfl) rfl ?_; intro a119 F119
              refine wpList_nil ?_
              exact hK10 _ _ _ (by first | omega | (simp; omega)) ⟨A105, c105, ((⟨#[]⟩ : ByteArray) ++ (s.extract 0 j)) ++ ⟨#[↑s[j]]⟩, _, _, rfl, (F119.k 0 (by kernel_rfl) (F119.k 1 (by kernel_rfl) (F119.k 4 (by kernel_rfl) (F119.k 5 (by kernel_rfl) (F119.k 6 (by kernel_rfl) (F119.k 7 (by kernel_rfl) F119.nil)))))), S107.p1.drop.p1.drop, (by first | omega | (with_reducible assumption) | (simp; done)), (by first | omega | (with_reducible assumption) | (simp; done)), (fun e => absurd e hnn105), (exp_var (n := (shF (s.extract (j + 1) s.size)).2) (b := ⟨#[]⟩) (i := 0) (by omega) (by omega) rfl he (by rw [show vrF s j = shF (s.extract (j + 1) s.size) from rfl, (pc_dol (p := shF (s.extract (j + 1) s.size)) hc74 (by omega))]; (try simp only [app_emp, emp_app]); first | done | rfl | rw [show s[j] = (36 : UInt8) from UInt8.toNat_inj.1 (by show _ = 36; omega)])), (by simp only [ByteArray.size_append, ByteArray.size_extract, sz0, sz1]; omega)⟩
          · have F120 := F73.sb 48 (by kernel_rfl) hc74
            have F121 := F120.sb 49 (by kernel_rfl) hc74
            refine op_skip F121 (by kernel_rfl) rfl rfl rfl ?_; intro a122 F122
            refine op_skip F122 (by kernel_rfl) rfl rfl rfl ?_; intro a123 F123
            refine op_p F123 (.bool false) (by kernel_rfl) rfl rfl rfl (by kernel_rfl) rfl ?_; intro a124 F124
            refine wpList_nil ?_
            refine hK70 _ _ ?_; clear hK70 K70
            refine wp_cond_false (F124.ev (by kernel_rfl)) ?_
            refine wp_seq_k fun K125 hK125 => ?_
            refine wp_region_lit ?_
            refine op_p F124 (.string ((shF (s.extract (j + 1) s.size)).1)) (by kernel_rfl) rfl rfl rfl (by kernel_rfl) rfl ?_; intro a126 F126
            refine op_p F126 (.bool (((shF (s.extract (j + 1) s.size)).1).toList == (⟨#[]⟩ : ByteArray).toList)) (by kernel_rfl) rfl rfl rfl (by kernel_rfl) rfl ?_; intro a127 F127
            have F128 := F127.sb 54 (by kernel_rfl) hc74
            refine wpList_nil ?_
            refine hK125 _ _ ?_; clear hK125 K125
            refine wp_cond_false (F128.ev (by kernel_rfl)) ?_
            refine wp_region_lit ?_
            refine op_p F128 (.slice A53 ((⟨#[]⟩ : ByteArray) ++ (s.extract 0 j)).size c53) (by kernel_rfl) rfl rfl rfl (by kernel_rfl) rfl ?_; intro a129 F129
            refine op_p F129 (.func (.func 110) #[] #[.pointer (some ⟨gb, 0, none⟩)]) (by kernel_rfl) rfl rfl rfl (by kernel_rfl) rfl ?_; intro a130 F130
            refine op_p F130 (.string ((shF (s.extract (j + 1) s.size)).1)) (by kernel_rfl) rfl rfl rfl (by kernel_rfl) rfl ?_; intro a131 F131
            refine op_c F131 (f := 110) (args := #[.string ((shF (s.extract (j + 1) s.size)).1), .pointer (some ⟨gb, 0, none⟩)]) (by kernel_rfl) (by kernel_rfl) rfl (exClo110_any A _ xs ((shF (s.extract (j + 1) s.size)).1) gb _ _ _ S55 (fun w S => h0 w S.drop.drop) (fun w S => h1 w S.drop.drop)) rfl rfl rfl ?_
            rintro _ w132 ⟨rfl, S132⟩
            refine ⟨_, rfl, ?_⟩
            intro a133 F133
            refine op_s F133 (s_apps rfl Try.underlying148 Try.underlying9 tin5 (F133.ev (v := .slice A53 ((⟨#[]⟩ : ByteArray) ++ (s.extract 0 j)).size c53) (by kernel_rfl)) S132 (F133.ev (v := .string (undF xs ((shF (s.extract (j + 1) s.size)).1))) (by kernel_rfl)) (by first | omega | (simp only [ByteArray.size_append, ByteArray.size_extract, sz0, sz1]; omega)) (r := ((⟨#[]⟩ : ByteArray) ++ (s.extract 0 j)) ++ (undF xs ((shF (s.extract (j + 1) s.size)).1))) rfl) rfl rfl rfl ?_
            rintro _ _ w135 ⟨A133, c133, rfl, hnn133, rfl⟩ S135 a135 F135
            refine op_p F135 (.slice A133 (((⟨#[]⟩ : ByteArray) ++ (s.extract 0 j)) ++ (undF xs ((shF (s.extract (j + 1) s.size)).1))).size c133) (by kernel_rfl) rfl rfl rfl (by kernel_rfl) rfl ?_; intro a136 F136
            refine wpList_nil ?_
            refine hK69 _ _ ?_; clear hK69 K69
            refine wp_seq_k fun K137 hK137 => ?_
            refine wp_region_lit ?_
            refine op_p F136 (.int .i64 (↑j)) (by kernel_rfl) rfl rfl rfl (by kernel_rfl) rfl ?_; intro a138 F138
            refine op_p F138 (.int .i64 (↑(shF (s.extract (j + 1) s.size)).2)) (by kernel_rfl) rfl rfl rfl (by kernel_rfl) rfl ?_; intro a139 F139
            refine op_r (v := .int .i64 (↑j + ↑(shF (s.extract (j + 1) s.size)).2)) F139 (r_add (z := (↑j + ↑(shF (s.extract (j + 1) s.size)).2)) rfl (F139.ev (v := .int .i64 (↑j)) (by kernel_rfl)) (F139.ev (v := .int .i64 (↑(shF (s.extract (j + 1) s.size)).2)) (by kernel_rfl)) (wr64 (by omega) (by omega) (by omega))) rfl rfl rfl ?_; intro a140 F140
            refine op_p F140 (.int .i64 (↑j + ↑(shF (s.extract (j + 1) s.size)).2)) (by kernel_rfl) rfl rfl rfl (by kernel_rfl) rfl ?_; intro a141 F141
            refine wpList_nil ?_
            refine hK137 _ _ ?_; clear hK137 K137
            refine wp_region_lit ?_
            refine op_p F141 (.int .i64 (↑j + ↑(shF (s.extract (j + 1) s.size)).2)) (by kernel_rfl) rfl rfl rfl (by kernel_rfl) rfl ?_; intro a142 F142
            refine op_r (v := .int .i64 ((↑j + ↑(shF (s.extract (j + 1) s.size)).2) + 1)) F142 (r_add (z := ((↑j + ↑(shF (s.extract (j + 1) s.size)).2) + 1)) rfl (F142.ev (v := .int .i64 (↑j + ↑(shF (s.extract (j + 1) s.size)).2)) (by kernel_rfl)) (F142.ev (v := .int .i64 1) (by kernel_rfl)) (wr64 (by omega) (by omega) (by omega))) rfl rfl rfl ?_; intro a143 F143
            refine op_p F143 (.int .i64 ((↑j + ↑(shF (s.extract (j + 1) s.size)).2) + 1)) (by kernel_rfl) rfl rfl rfl (by kernel_rfl) rfl ?_; intro a144 F144
            refine wpList_nil ?_
            refine hK18 _ _ ?_; clear hK18 K18
            refine wp_region_lit ?_
            refine op_p F144 (.int .i64 (↑j + ↑(shF (s.extract (j + 1) s.size)).2)) (by kernel_rfl) rfl rfl rfl (by kernel_rfl) rfl ?_; intro a145 F145
            refine op_r (v := .int .i64 ((↑j + ↑(shF (s.extract (j + 1) s.size)).2) + 1)) F145 (r_add (z := ((↑j + ↑(shF (s.extract (j + 1) s.size)).2) + 1)) rfl (F145.ev (v := .int .i64 (↑j + ↑(shF (s.extract (j + 1) s.size)).2)) (by kernel_rfl)) (F145.ev (v := .int .i64 1) (by kernel_rfl)) (wr64 (by omega) (by omega) (by omega))) rfl rfl rfl ?_; intro a146 F146
            refine op_p F146 (.int .i64 ((↑j + ↑(shF (s.extract (j + 1) s.size)).2) + 1)) (by kernel_rfl) rfl rfl rfl (by kernel_rfl) rfl ?_; intro a147 F147
            refine wpList_nil ?_
            exact hK10 _ _ _ (by first | omega | (simp; omega)) ⟨A133, c133, ((⟨#[]⟩ : ByteArray) ++ (s.extract 0 j)) ++ (undF xs ((shF (s.extract (j + 1) s.size)).1)), _, _, rfl, (F147.k 0 (by kernel_rfl) (F147.k 1 (by kernel_rfl) (F147.k 4 (by kernel_rfl) (F147.k 5 (by kernel_rfl) (F147.k 6 (by kernel_rfl) (F147.k 7 (by kernel_rfl) F147.nil)))))), S135.p1.drop, (by first | omega | (with_reducible assumption) | (simp; done)), (by first | omega | (with_reducible assumption) | (simp; done)), (fun e => absurd e (hnn133 (hnn53 (by intro e; cases e)))), (exp_var (n := (shF (s.extract (j + 1) s.size)).2) (b := ⟨#[]⟩) (i := 0) (by omega) (by omega) rfl he (by rw [show vrF s j = shF (s.extract (j + 1) s.size) from rfl, (pc_und (p := shF (s.extract (j + 1) s.size)) hc74)]; (try simp only [app_emp, emp_app]); first | done | rfl | rw [show s[j] = (36 : UInt8) from UInt8.toNat_inj.1 (by show _ = 36; omega)])), (by simp only [ByteArray.size_append, ByteArray.size_extract, sz0, sz1]; omega)⟩
        · subst hA40
          refine op_p F39 (.bool false) (by kernel_rfl) rfl rfl rfl (by kernel_rfl) rfl ?_; intro a148 F148
          refine wpList_nil ?_
          refine hK38 _ _ ?_; clear hK38 K38
          refine wp_cond_false (F148.ev (by kernel_rfl)) ?_
          refine wp_skip ?_
          refine hK37 _ _ ?_; clear hK37 K37
          refine wp_seq_k fun K149 hK149 => ?_
          refine wp_region_lit ?_
          refine op_p F148 (.slice (some ⟨gn40, 0, none⟩) b.size cb) (by kernel_rfl) rfl rfl rfl (by kernel_rfl) rfl ?_; intro a150 F150
          refine op_p F150 (.string s) (by kernel_rfl) rfl rfl rfl (by kernel_rfl) rfl ?_; intro a151 F151
          refine op_p F151 (.int .i64 (↑i)) (by kernel_rfl) rfl rfl rfl (by kernel_rfl) rfl ?_; intro a152 F152
          refine op_p F152 (.int .i64 (↑j)) (by kernel_rfl) rfl rfl rfl (by kernel_rfl) rfl ?_; intro a153 F153
          refine op_r (v := .string (s.extract i j)) F153 (r_sllh rfl Try.underlying9 (F153.ev (v := .string s) (by kernel_rfl)) (F153.ev (v := .int .i64 (↑i)) (by kernel_rfl)) (F153.ev (v := .int .i64 (↑j)) (by kernel_rfl))  i j (by first | rfl | omega | (simp; done) | (simp; omega)) (by first | omega | (simp; done) | (simp; omega)) (rfl)) rfl rfl rfl ?_; intro a154 F154
          refine op_s F154 (s_apps rfl Try.underlying148 Try.underlying9 tin5 (F154.ev (v := .slice (some ⟨gn40, 0, none⟩) b.size cb) (by kernel_rfl)) S10 (F154.ev (v := .string (s.extract i j)) (by kernel_rfl)) (by first | omega | (simp only [ByteArray.size_append, ByteArray.size_extract, sz0, sz1]; omega)) (r := b ++ (s.extract i j)) rfl) rfl rfl rfl ?_
          rintro _ _ w156 ⟨A154, c154, rfl, hnn154, rfl⟩ S156 a156 F156
          refine op_p F156 (.slice A154 (b ++ (s.extract i j)).size c154) (by kernel_rfl) rfl rfl rfl (by kernel_rfl) rfl ?_; intro a157 F157
          refine wpList_nil ?_
          refine hK149 _ _ ?_; clear hK149 K149
          refine wp_seq_k fun K158 hK158 => ?_
          refine wp_region_lit ?_
          refine op_p F157 (.string s) (by kernel_rfl) rfl rfl rfl (by kernel_rfl) rfl ?_; intro a159 F159
          refine op_p F159 (.int .i64 (↑j)) (by kernel_rfl) rfl rfl rfl (by kernel_rfl) rfl ?_; intro a160 F160
          refine op_r (v := .int .i64 (↑(j + 1))) F160 (r_add (z := ↑(j + 1)) rfl (F160.ev (v := .int .i64 (↑j)) (by kernel_rfl)) (F160.ev (v := .int .i64 1) (by kernel_rfl)) (wr64 (by omega) (by omega) (by omega))) rfl rfl rfl ?_; intro a161 F161
          refine op_r (v := .string (s.extract (j + 1) s.size)) F161 (r_sll rfl Try.underlying9 (F161.ev (v := .string s) (by kernel_rfl)) (F161.ev (v := .int .i64 (↑(j + 1))) (by kernel_rfl))  (j + 1) s.size (by first | rfl | omega | (simp; done) | (simp; omega)) (by first | omega | (simp; done) | (simp; omega)) (rfl)) rfl rfl rfl ?_; intro a162 F162
          refine op_c F162 (f := 133) (args := #[.string (s.extract (j + 1) s.size)]) (by kernel_rfl) (by kernel_rfl) rfl (shellName_any (s.extract (j + 1) s.size) _ (by simp; omega) (by simp; omega)) rfl rfl rfl ?_
          rintro _ _ ⟨rfl, rfl⟩
          refine ⟨_, rfl, ?_⟩
          intro a164 F164
          refine op_p F164 (.tuple #[.string ((shF (s.extract (j + 1) s.size)).1), .int .i64 (↑(shF (s.extract (j + 1) s.size)).2)]) (by kernel_rfl) rfl rfl rfl (by kernel_rfl) rfl ?_; intro a165 F165
          refine op_p F165 (.string ((shF (s.extract (j + 1) s.size)).1)) (by kernel_rfl) rfl rfl rfl (by kernel_rfl) rfl ?_; intro a166 F166
          refine op_p F166 (.int .i64 (↑(shF (s.extract (j + 1) s.size)).2)) (by kernel_rfl) rfl rfl rfl (by kernel_rfl) rfl ?_; intro a167 F167
          refine op_p F167 (.string ((shF (s.extract (j + 1) s.size)).1)) (by kernel_rfl) rfl rfl rfl (by kernel_rfl) rfl ?_; intro a168 F168
          refine op_p F168 (.int .i64 (↑(shF (s.extract (j + 1) s.size)).2)) (by kernel_rfl) rfl rfl rfl (by kernel_rfl) rfl ?_; intro a169 F169
          refine wpList_nil ?_
          refine hK158 _ _ ?_; clear hK158 K158
          refine wp_seq_k fun K170 hK170 => ?_
          refine wp_seq_k fun K171 hK171 => ?_
          refine wp_region_lit ?_
          refine op_p F169 (.string ((shF (s.extract (j + 1) s.size)).1)) (by kernel_rfl) rfl rfl rfl (by kernel_rfl) rfl ?_; intro a172 F172
          refine op_p F172 (.bool (((shF (s.extract (j + 1) s.size)).1).toList == (⟨#[]⟩ : ByteArray).toList)) (by kernel_rfl) rfl rfl rfl (by kernel_rfl) rfl ?_; intro a173 F173
          refine op_p F173 (.bool (((shF (s.extract (j + 1) s.size)).1).toList == (⟨#[]⟩ : ByteArray).toList)) (by kernel_rfl) rfl rfl rfl (by kernel_rfl) rfl ?_; intro a174 F174
          rcases btf (((shF (s.extract (j + 1) s.size)).1).toList == (⟨#[]⟩ : ByteArray).toList) with hc175 | hc175
          · have F176 := F174.sb 48 (by kernel_rfl) hc175
            have F177 := F176.sb 49 (by kernel_rfl) hc175
            refine op_want F177 (by kernel_rfl) rfl ?_
            refine op_p F177 (.int .i64 (↑(shF (s.extract (j + 1) s.size)).2)) (by kernel_rfl) rfl rfl rfl (by kernel_rfl) rfl ?_; intro a178 F178
            refine op_want F178 (by kernel_rfl) rfl ?_
            refine op_p F178 (.bool (decide ((0 : Int) < ↑(shF (s.extract (j + 1) s.size)).2))) (by kernel_rfl) rfl rfl rfl (by kernel_rfl) rfl ?_; intro a179 F179
            refine op_p F179 (.bool (decide ((0 : Int) < ↑(shF (s.extract (j + 1) s.size)).2))) (by kernel_rfl) rfl rfl rfl (by kernel_rfl) rfl ?_; intro a180 F180
            refine wpList_nil ?_
            refine hK171 _ _ ?_; clear hK171 K171
            rcases btf (decide ((0 : Int) < ↑(shF (s.extract (j + 1) s.size)).2)) with hc181 | hc181
            · have hc181p := of_decide_eq_true hc181
              have F182 := F180.sb 51 (by kernel_rfl) hc181
              have F183 := F182.sb 52 (by kernel_rfl) hc181
              refine wp_cond_true (F183.ev (by kernel_rfl)) ?_
              refine wp_skip ?_
              refine hK170 _ _ ?_; clear hK170 K170
              refine wp_seq_k fun K184 hK184 => ?_
              refine wp_region_lit ?_
              refine op_p F183 (.int .i64 (↑j)) (by kernel_rfl) rfl rfl rfl (by kernel_rfl) rfl ?_; intro a185 F185
              refine op_p F185 (.int .i64 (↑(shF (s.extract (j + 1) s.size)).2)) (by kernel_rfl) rfl rfl rfl (by kernel_rfl) rfl ?_; intro a186 F186
              refine op_r (v := .int .i64 (↑j + ↑(shF (s.extract (j + 1) s.size)).2)) F186 (r_add (z := (↑j + ↑(shF (s.extract (j + 1) s.size)).2)) rfl (F186.ev (v := .int .i64 (↑j)) (by kernel_rfl)) (F186.ev (v := .int .i64 (↑(shF (s.extract (j + 1) s.size)).2)) (by kernel_rfl)) (wr64 (by omega) (by omega) (by omega))) rfl rfl rfl ?_; intro a187 F187
              refine op_p F187 (.int .i64 (↑j + ↑(shF (s.extract (j + 1) s.size)).2)) (by kernel_rfl) rfl rfl rfl (by kernel_rfl) rfl ?_; intro a188 F188
              refine wpList_nil ?_
              refine hK184 _ _ ?_; clear hK184 K184
              refine wp_region_lit ?_
              refine op_p F188 (.int .i64 (↑j + ↑(shF (s.extract (j + 1) s.size)).2)) (by kernel_rfl) rfl rfl rfl (by kernel_rfl) rfl ?_; intro a189 F189
              refine op_r (v := .int .i64 ((↑j + ↑(shF (s.extract (j + 1) s.size)).2) + 1)) F189 (r_add (z := ((↑j + ↑(shF (s.extract (j + 1) s.size)).2) + 1)) rfl (F189.ev (v := .int .i64 (↑j + ↑(shF (s.extract (j + 1) s.size)).2)) (by kernel_rfl)) (F189.ev (v := .int .i64 1) (by kernel_rfl)) (wr64 (by omega) (by omega) (by omega))) rfl rfl rfl ?_; intro a190 F190
              refine op_p F190 (.int .i64 ((↑j + ↑(shF (s.extract (j + 1) s.size)).2) + 1)) (by kernel_rfl) rfl rfl rfl (by kernel_rfl) rfl ?_; intro a191 F191
              refine wpList_nil ?_
              refine hK18 _ _ ?_; clear hK18 K18
              refine wp_region_lit ?_
              refine op_p F191 (.int .i64 (↑j + ↑(shF (s.extract (j + 1) s.size)).2)) (by kernel_rfl) rfl rfl rfl (by kernel_rfl) rfl ?_; intro a192 F192
              refine op_r (v := .int .i64 ((↑j + ↑(shF (s.extract (j + 1) s.size)).2) + 1)) F192 (r_add (z := ((↑j + ↑(shF (s.extract (j + 1) s.size)).2) + 1)) rfl (F192.ev (v := .int .i64 (↑j + ↑(shF (s.extract (j + 1) s.size)).2)) (by kernel_rfl)) (F192.ev (v := .int .i64 1) (by kernel_rfl)) (wr64 (by omega) (by omega) (by omega))) rfl rfl rfl ?_; intro a193 F193
              refine op_p F193 (.int .i64 ((↑j + ↑(shF (s.extract (j + 1) s.size)).2) + 1)) (by kernel_rfl) rfl rfl rfl (by kernel_rfl) rfl ?_; intro a194 F194
              refine wpList_nil ?_
              exact hK10 _ _ _ (by first | omega | (simp; omega)) ⟨A154, c154, b ++ (s.extract i j), _, _, rfl, (F194.k 0 (by kernel_rfl) (F194.k 1 (by kernel_rfl) (F194.k 4 (by kernel_rfl) (F194.k 5 (by kernel_rfl) (F194.k 6 (by kernel_rfl) (F194.k 7 (by kernel_rfl) F194.nil)))))), S156, (by first | omega | (with_reducible assumption) | (simp; done)), (by first | omega | (with_reducible assumption) | (simp; done)), (fun e => absurd e (hnn154 (by intro e; cases e))), (exp_var (n := (shF (s.extract (j + 1) s.size)).2) (b := b) (i := i) (by omega) (by omega) rfl he (by rw [show vrF s j = shF (s.extract (j + 1) s.size) from rfl, (pc_emp (p := shF (s.extract (j + 1) s.size)) hc175 (by omega))]; (try simp only [app_emp, emp_app]); first | done | rfl | rw [show s[j] = (36 : UInt8) from UInt8.toNat_inj.1 (by show _ = 36; omega)])), (by simp only [ByteArray.size_append, ByteArray.size_extract, sz0, sz1]; omega)⟩
            · have hc181p := of_decide_eq_false hc181
              have F195 := F180.sb 51 (by kernel_rfl) hc181
              have F196 := F195.sb 52 (by kernel_rfl) hc181
              refine wp_cond_false (F196.ev (by kernel_rfl)) ?_
              refine wp_seq_k fun K197 hK197 => ?_
              refine wp_region_lit ?_
              refine op_p F196 (.string ((shF (s.extract (j + 1) s.size)).1)) (by kernel_rfl) rfl rfl rfl (by kernel_rfl) rfl ?_; intro a198 F198
              refine op_p F198 (.bool (((shF (s.extract (j + 1) s.size)).1).toList == (⟨#[]⟩ : ByteArray).toList)) (by kernel_rfl) rfl rfl rfl (by kernel_rfl) rfl ?_; intro a199 F199
              have F200 := F199.sb 54 (by kernel_rfl) hc175
              refine wpList_nil ?_
              refine hK197 _ _ ?_; clear hK197 K197
              refine wp_cond_true (F200.ev (by kernel_rfl)) ?_
              refine wp_region_lit ?_
              refine op_p F200 (.slice A154 (b ++ (s.extract i j)).size c154) (by kernel_rfl) rfl rfl rfl (by kernel_rfl) rfl ?_; intro a201 F201
              refine op_p F201 (.string s) (by kernel_rfl) rfl rfl rfl (by kernel_rfl) rfl ?_; intro a202 F202
              refine op_p F202 (.int .i64 (↑j)) (by kernel_rfl) rfl rfl rfl (by kernel_rfl) rfl ?_; intro a203 F203
              refine op_r (v := .int .u8 (↑s[j].toNat)) F203 (r_index rfl Try.underlying9 (F203.ev (v := .string s) (by kernel_rfl)) (F203.ev (v := .int .i64 (↑j)) (by kernel_rfl)) j (by first | rfl | omega | simp) (by first | omega | (simp; done) | (simp; omega))) rfl rfl rfl ?_; intro a204 F204
              refine op_s F204 (s_news F204 5 #[.int .u8 (↑s[j].toNat)] 1 (by kernel_rfl) (by kernel_rfl) (by kernel_rfl) S156) rfl rfl rfl ?_
              rintro _ _ w206 ⟨g204, rfl, rfl⟩ S206 a206 F206
              refine op_s F206 (s_appb rfl Try.underlying148 tin5 (↑s[j]) (F206.ev (v := .slice A154 (b ++ (s.extract i j)).size c154) (by kernel_rfl)) S206.p1 (F206.ev (v := .slice (some ⟨g204, 0, none⟩) 1 1) (by kernel_rfl)) ((S206.bk 0 rfl).sl (by simp)) (by first | omega | (simp only [ByteArray.size_append, ByteArray.size_extract, sz0, sz1]; omega)) (r := (b ++ (s.extract i j)) ++ ⟨#[↑s[j]]⟩) rfl) rfl rfl rfl ?_
              rintro _ _ w208 ⟨A206, c206, rfl, hnn206, rfl⟩ S208 a208 F208
              refine op_p F208 (.slice A206 ((b ++ (s.extract i j)) ++ ⟨#[↑s[j]]⟩).size c206) (by kernel_rfl) rfl rfl rfl (by kernel_rfl) rfl ?_; intro a209 F209
              refine wpList_nil ?_
              refine hK170 _ _ ?_; clear hK170 K170
              refine wp_seq_k fun K210 hK210 => ?_
              refine wp_region_lit ?_
              refine op_p F209 (.int .i64 (↑j)) (by kernel_rfl) rfl rfl rfl (by kernel_rfl) rfl ?_; intro a211 F211
              refine op_p F211 (.int .i64 (↑(shF (s.extract (j + 1) s.size)).2)) (by kernel_rfl) rfl rfl rfl (by kernel_rfl) rfl ?_; intro a212 F212
              refine op_r (v := .int .i64 (↑j + ↑(shF (s.extract (j + 1) s.size)).2)) F212 (r_add (z := (↑j + ↑(shF (s.extract (j + 1) s.size)).2)) rfl (F212.ev (v := .int .i64 (↑j)) (by kernel_rfl)) (F212.ev (v := .int .i64 (↑(shF (s.extract (j + 1) s.size)).2)) (by kernel_rfl)) (wr64 (by omega) (by omega) (by omega))) rfl rfl rfl ?_; intro a213 F213
              refine op_p F213 (.int .i64 (↑j + ↑(shF (s.extract (j + 1) s.size)).2)) (by kernel_rfl) rfl rfl rfl (by kernel_rfl) rfl ?_; intro a214 F214
              refine wpList_nil ?_
              refine hK210 _ _ ?_; clear hK210 K210
              refine wp_region_lit ?_
              refine op_p F214 (.int .i64 (↑j + ↑(shF (s.extract (j + 1) s.size)).2)) (by kernel_rfl) rfl rfl rfl (by kernel_rfl) rfl ?_; intro a215 F215
              refine op_r (v := .int .i64 ((↑j + ↑(shF (s.extract (j + 1) s.size)).2) + 1)) F215 (r_add (z := ((↑j + ↑(shF (s.extract (j + 1) s.size)).2) + 1)) rfl (F215.ev (v := .int .i64 (↑j + ↑(shF (s.extract (j + 1) s.size)).2)) (by kernel_rfl)) (F215.ev (v := .int .i64 1) (by kernel_rfl)) (wr64 (by omega) (by omega) (by omega))) rfl rfl rfl ?_; intro a216 F216
              refine op_p F216 (.int .i64 ((↑j + ↑(shF (s.extract (j + 1) s.size)).2) + 1)) (by kernel_rfl) rfl rfl rfl (by kernel_rfl) rfl ?_; intro a217 F217
              refine wpList_nil ?_
              refine hK18 _ _ ?_; clear hK18 K18
              refine wp_region_lit ?_
              refine op_p F217 (.int .i64 (↑j + ↑(shF (s.extract (j + 1) s.size)).2)) (by kernel_rfl) rfl rfl rfl (by kernel_rfl) rfl ?_; intro a218 F218
              refine op_r (v := .int .i64 ((↑j + ↑(shF (s.extract (j + 1) s.size)).2) + 1)) F218 (r_add (z := ((↑j + ↑(shF (s.extract (j + 1) s.size)).2) + 1)) rfl (F218.ev (v := .int .i64 (↑j + ↑(shF (s.extract (j + 1) s.size)).2)) (by kernel_rfl)) (F218.ev (v := .int .i64 1) (by kernel_rfl)) (wr64 (by omega) (by omega) (by omega))) rfl rfl rfl ?_; intro a219 F219
              refine op_p F219 (.int .i64 ((↑j + ↑(shF (s.extract (j + 1) s.size)).2) + 1)) (by kernel_rfl) rfl rfl rfl (by kernel_rfl) rfl ?_; intro a220 F220
              refine wpList_nil ?_
              exact hK10 _ _ _ (by first | omega | (simp; omega)) ⟨A206, c206, (b ++ (s.extract i j)) ++ ⟨#[↑s[j]]⟩, _, _, rfl, (F220.k 0 (by kernel_rfl) (F220.k 1 (by kernel_rfl) (F220.k 4 (by kernel_rfl) (F220.k 5 (by kernel_rfl) (F220.k 6 (by kernel_rfl) (F220.k 7 (by kernel_rfl) F220.nil)))))), S208.p1.drop, (by first | omega | (with_reducible assumption) | (simp; done)), (by first | omega | (with_reducible assumption) | (simp; done)), (fun e => absurd e hnn206), (exp_var (n := (shF (s.extract (j + 1) s.size)).2) (b := b) (i := i) (by omega) (by omega) rfl he (by rw [show vrF s j = shF (s.extract (j + 1) s.size) from rfl, (pc_dol (p := shF (s.extract (j + 1) s.size)) hc175 (by omega))]; (try simp only [app_emp, emp_app]); first | done | rfl | rw [show s[j] = (36 : UInt8) from UInt8.toNat_inj.1 (by show _ = 36; omega)])), (by simp only [ByteArray.size_append, ByteArray.size_extract, sz0, sz1]; omega)⟩
          · have F221 := F174.sb 48 (by kernel_rfl) hc175
            have F222 := F221.sb 49 (by kernel_rfl) hc175
            refine op_skip F222 (by kernel_rfl) rfl rfl rfl ?_; intro a223 F223
            refine op_skip F223 (by kernel_rfl) rfl rfl rfl ?_; intro a224 F224
            refine op_p F224 (.bool false) (by kernel_rfl) rfl rfl rfl (by kernel_rfl) rfl ?_; intro a225 F225
            refine wpList_nil ?_
            refine hK171 _ _ ?_; clear hK171 K171
            refine wp_cond_false (F225.ev (by kernel_rfl)) ?_
            refine wp_seq_k fun K226 hK226 => ?_
            refine wp_region_lit ?_
            refine op_p F225 (.string ((shF (s.extract (j + 1) s.size)).1)) (by kernel_rfl) rfl rfl rfl (by kernel_rfl) rfl ?_; intro a227 F227
            refine op_p F227 (.bool (((shF (s.extract (j + 1) s.size)).1).toList == (⟨#[]⟩ : ByteArray).toList)) (by kernel_rfl) rfl rfl rfl (by kernel_rfl) rfl ?_; intro a228 F228
            have F229 := F228.sb 54 (by kernel_rfl) hc175
            refine wpList_nil ?_
            refine hK226 _ _ ?_; clear hK226 K226
            refine wp_cond_false (F229.ev (by kernel_rfl)) ?_
            refine wp_region_lit ?_
            refine op_p F229 (.slice A154 (b ++ (s.extract i j)).size c154) (by kernel_rfl) rfl rfl rfl (by kernel_rfl) rfl ?_; intro a230 F230
            refine op_p F230 (.func (.func 110) #[] #[.pointer (some ⟨gb, 0, none⟩)]) (by kernel_rfl) rfl rfl rfl (by kernel_rfl) rfl ?_; intro a231 F231
            refine op_p F231 (.string ((shF (s.extract (j + 1) s.size)).1)) (by kernel_rfl) rfl rfl rfl (by kernel_rfl) rfl ?_; intro a232 F232
            refine op_c F232 (f := 110) (args := #[.string ((shF (s.extract (j + 1) s.size)).1), .pointer (some ⟨gb, 0, none⟩)]) (by kernel_rfl) (by kernel_rfl) rfl (exClo110_any A _ xs ((shF (s.extract (j + 1) s.size)).1) gb _ _ _ S156 (fun w S => h0 w S.drop) (fun w S => h1 w S.drop)) rfl rfl rfl ?_
            rintro _ w233 ⟨rfl, S233⟩
            refine ⟨_, rfl, ?_⟩
            intro a234 F234
            refine op_s F234 (s_apps rfl Try.underlying148 Try.underlying9 tin5 (F234.ev (v := .slice A154 (b ++ (s.extract i j)).size c154) (by kernel_rfl)) S233 (F234.ev (v := .string (undF xs ((shF (s.extract (j + 1) s.size)).1))) (by kernel_rfl)) (by first | omega | (simp only [ByteArray.size_append, ByteArray.size_extract, sz0, sz1]; omega)) (r := (b ++ (s.extract i j)) ++ (undF xs ((shF (s.extract (j + 1) s.size)).1))) rfl) rfl rfl rfl ?_
            rintro _ _ w236 ⟨A234, c234, rfl, hnn234, rfl⟩ S236 a236 F236
            refine op_p F236 (.slice A234 ((b ++ (s.extract i j)) ++ (undF xs ((shF (s.extract (j + 1) s.size)).1))).size c234) (by kernel_rfl) rfl rfl rfl (by kernel_rfl) rfl ?_; intro a237 F237
            refine wpList_nil ?_
            refine hK170 _ _ ?_; clear hK170 K170
            refine wp_seq_k fun K238 hK238 => ?_
            refine wp_region_lit ?_
            refine op_p F237 (.int .i64 (↑j)) (by kernel_rfl) rfl rfl rfl (by kernel_rfl) rfl ?_; intro a239 F239
            refine op_p F239 (.int .i64 (↑(shF (s.extract (j + 1) s.size)).2)) (by kernel_rfl) rfl rfl rfl (by kernel_rfl) rfl ?_; intro a240 F240
            refine op_r (v := .int .i64 (↑j + ↑(shF (s.extract (j + 1) s.size)).2)) F240 (r_add (z := (↑j + ↑(shF (s.extract (j + 1) s.size)).2)) rfl (F240.ev (v := .int .i64 (↑j)) (by kernel_rfl)) (F240.ev (v := .int .i64 (↑(shF (s.extract (j + 1) s.size)).2)) (by kernel_rfl)) (wr64 (by omega) (by omega) (by omega))) rfl rfl rfl ?_; intro a241 F241
            refine op_p F241 (.int .i64 (↑j + ↑(shF (s.extract (j + 1) s.size)).2)) (by kernel_rfl) rfl rfl rfl (by kernel_rfl) rfl ?_; intro a242 F242
            refine wpList_nil ?_
            refine hK238 _ _ ?_; clear hK238 K238
            refine wp_region_lit ?_
            refine op_p F242 (.int .i64 (↑j + ↑(shF (s.extract (j + 1) s.size)).2)) (by kernel_rfl) rfl rfl rfl (by kernel_rfl) rfl ?_; intro a243 F243
            refine op_r (v := .int .i64 ((↑j + ↑(shF (s.extract (j + 1) s.size)).2) + 1)) F243 (r_add (z := ((↑j + ↑(shF (s.extract (j + 1) s.size)).2) + 1)) rfl (F243.ev (v := .int .i64 (↑j + ↑(shF (s.extract (j + 1) s.size)).2)) (by kernel_rfl)) (F243.ev (v := .int .i64 1) (by kernel_rfl)) (wr64 (by omega) (by omega) (by omega))) rfl rfl rfl ?_; intro a244 F244
            refine op_p F244 (.int .i64 ((↑j + ↑(shF (s.extract (j + 1) s.size)).2) + 1)) (by kernel_rfl) rfl rfl rfl (by kernel_rfl) rfl ?_; intro a245 F245
            refine wpList_nil ?_
            refine hK18 _ _ ?_; clear hK18 K18
            refine wp_region_lit ?_
            refine op_p F245 (.int .i64 (↑j + ↑(shF (s.extract (j + 1) s.size)).2)) (by kernel_rfl) rfl rfl rfl (by kernel_rfl) rfl ?_; intro a246 F246
            refine op_r (v := .int .i64 ((↑j + ↑(shF (s.extract (j + 1) s.size)).2) + 1)) F246 (r_add (z := ((↑j + ↑(shF (s.extract (j + 1) s.size)).2) + 1)) rfl (F246.ev (v := .int .i64 (↑j + ↑(shF (s.extract (j + 1) s.size)).2)) (by kernel_rfl)) (F246.ev (v := .int .i64 1) (by kernel_rfl)) (wr64 (by omega) (by omega) (by omega))) rfl rfl rfl ?_; intro a247 F247
            refine op_p F247 (.int .i64 ((↑j + ↑(shF (s.extract (j + 1) s.size)).2) + 1)) (by kernel_rfl) rfl rfl rfl (by kernel_rfl) rfl ?_; intro a248 F248
            refine wpList_nil ?_
            exact hK10 _ _ _ (by first | omega | (simp; omega)) ⟨A234, c234, (b ++ (s.extract i j)) ++ (undF xs ((shF (s.extract (j + 1) s.size)).1)), _, _, rfl, (F248.k 0 (by kernel_rfl) (F248.k 1 (by kernel_rfl) (F248.k 4 (by kernel_rfl) (F248.k 5 (by kernel_rfl) (F248.k 6 (by kernel_rfl) (F248.k 7 (by kernel_rfl) F248.nil)))))), S236, (by first | omega | (with_reducible assumption) | (simp; done)), (by first | omega | (with_reducible assumption) | (simp; done)), (fun e => absurd e (hnn234 (hnn154 (by intro e; cases e)))), (exp_var (n := (shF (s.extract (j + 1) s.size)).2) (b := b) (i := i) (by omega) (by omega) rfl he (by rw [show vrF s j = shF (s.extract (j + 1) s.size) from rfl, (pc_und (p := shF (s.extract (j + 1) s.size)) hc175)]; (try simp only [app_emp, emp_app]); first | done | rfl | rw [show s[j] = (36 : UInt8) from UInt8.toNat_inj.1 (by show _ = 36; omega)])), (by simp only [ByteArray.size_append, ByteArray.size_extract, sz0, sz1]; omega)⟩
      · have hc34p := of_decide_eq_false hc34
        have F249 := F33.sb 25 (by kernel_rfl) hc34
        have F250 := F249.sb 26 (by kernel_rfl) hc34
        refine wp_cond_false (F250.ev (by kernel_rfl)) ?_
        refine wp_skip ?_
        refine hK18 _ _ ?_; clear hK18 K18
        refine wp_region_lit ?_
        refine op_p F250 (.int .i64 (↑j)) (by kernel_rfl) rfl rfl rfl (by kernel_rfl) rfl ?_; intro a251 F251
        refine op_r (v := .int .i64 (↑(j + 1))) F251 (r_add (z := ↑(j + 1)) rfl (F251.ev (v := .int .i64 (↑j)) (by kernel_rfl)) (F251.ev (v := .int .i64 1) (by kernel_rfl)) (wr64 (by omega) (by omega) (by omega))) rfl rfl rfl ?_; intro a252 F252
        refine op_p F252 (.int .i64 (↑(j + 1))) (by kernel_rfl) rfl rfl rfl (by kernel_rfl) rfl ?_; intro a253 F253
        refine wpList_nil ?_
        exact hK10 _ _ _ (by first | omega | (simp; omega)) ⟨Ab, cb, b, i, j + 1, rfl, (F253.k 0 (by kernel_rfl) (F253.k 1 (by kernel_rfl) (F253.k 4 (by kernel_rfl) (F253.k 5 (by kernel_rfl) (F253.k 6 (by kernel_rfl) (F253.k 7 (by kernel_rfl) F253.nil)))))), S10, (by first | omega | (with_reducible assumption) | (simp; done)), (by first | omega | (with_reducible assumption) | (simp; done)), hn, (exp_one hij hlt_j (Or.inr (by omega)) he), (by first | omega | (with_reducible assumption) | (simp; done))⟩
    · have hc25p := ne_of_beq_false hc25
      have F254 := F24.sb 19 (by kernel_rfl) hc25
      have F255 := F254.sb 20 (by kernel_rfl) hc25
      refine op_skip F255 (by kernel_rfl) rfl rfl rfl ?_; intro a256 F256
      refine op_skip F256 (by kernel_rfl) rfl rfl rfl ?_; intro a257 F257
      refine op_skip F257 (by kernel_rfl) rfl rfl rfl ?_; intro a258 F258
      refine op_skip F258 (by kernel_rfl) rfl rfl rfl ?_; intro a259 F259
      refine op_skip F259 (by kernel_rfl) rfl rfl rfl ?_; intro a260 F260
      refine op_p F260 (.bool false) (by kernel_rfl) rfl rfl rfl (by kernel_rfl) rfl ?_; intro a261 F261
      refine wpList_nil ?_
      refine hK19 _ _ ?_; clear hK19 K19
      refine wp_cond_false (F261.ev (by kernel_rfl)) ?_
      refine wp_skip ?_
      refine hK18 _ _ ?_; clear hK18 K18
      refine wp_region_lit ?_
      refine op_p F261 (.int .i64 (↑j)) (by kernel_rfl) rfl rfl rfl (by kernel_rfl) rfl ?_; intro a262 F262
      refine op_r (v := .int .i64 (↑(j + 1))) F262 (r_add (z := ↑(j + 1)) rfl (F262.ev (v := .int .i64 (↑j)) (by kernel_rfl)) (F262.ev (v := .int .i64 1) (by kernel_rfl)) (wr64 (by omega) (by omega) (by omega))) rfl rfl rfl ?_; intro a263 F263
      refine op_p F263 (.int .i64 (↑(j + 1))) (by kernel_rfl) rfl rfl rfl (by kernel_rfl) rfl ?_; intro a264 F264
      refine wpList_nil ?_
      exact hK10 _ _ _ (by first | omega | (simp; omega)) ⟨Ab, cb, b, i, j + 1, rfl, (F264.k 0 (by kernel_rfl) (F264.k 1 (by kernel_rfl) (F264.k 4 (by kernel_rfl) (F264.k 5 (by kernel_rfl) (F264.k 6 (by kernel_rfl) (F264.k 7 (by kernel_rfl) F264.nil)))))), S10, (by first | omega | (with_reducible assumption) | (simp; done)), (by first | omega | (with_reducible assumption) | (simp; done)), hn, (exp_one hij hlt_j (Or.inl (by omega)) he), (by first | omega | (with_reducible assumption) | (simp; done))⟩
  · have hc_j : decide ((↑j : Int) < ↑s.size) = false := by first | (simp; done) | (simp; omega)
    obtain rfl : j = s.size := by omega
    refine wp_seq_k fun K265 hK265 => ?_
    refine wp_seq_k fun K266 hK266 => ?_
    refine wp_region_lit ?_
    refine op_p F10 (.int .i64 (↑s.size)) (by kernel_rfl) rfl rfl rfl (by kernel_rfl) rfl ?_; intro a267 F267
    refine op_p F267 (.string s) (by kernel_rfl) rfl rfl rfl (by kernel_rfl) rfl ?_; intro a268 F268
    refine op_p F268 (.int .i64 (↑s.size)) (by kernel_rfl) rfl rfl rfl (by kernel_rfl) rfl ?_; intro a269 F269
    refine op_p F269 (.bool (decide ((↑s.size : Int) < ↑s.size))) (by kernel_rfl) rfl rfl rfl (by kernel_rfl) rfl ?_; intro a270 F270
    have F271 := F270.sb 13 (by kernel_rfl) hc_j
    refine wpList_nil ?_
    refine hK266 _ _ ?_; clear hK266 K266
    refine wp_cond_false (F271.ev (by kernel_rfl)) ?_
    refine wp_exit ?_
    refine ex_then ?_; clear hK265 K265
    refine ex_then ?_
    refine ex_in ?_
    refine hK7 _ _ ?_; clear hK7 K7
    refine wp_seq_k fun K272 hK272 => ?_
    refine wp_seq_k fun K273 hK273 => ?_
    refine wp_region_lit ?_
    refine op_p F271 (.slice Ab b.size cb) (by kernel_rfl) rfl rfl rfl (by kernel_rfl) rfl ?_; intro a274 F274
    rcases own_nil_or (S10.ow 0 rfl) with ⟨hA275, hm275, hc275⟩ | ⟨gn275, hA275⟩
    · subst hA275
      obtain rfl := bytes_nil hm275
      obtain rfl : i = 0 := hn rfl
      subst hc275
      refine op_p F274 (.bool true) (by kernel_rfl) rfl rfl rfl (by kernel_rfl) rfl ?_; intro a276 F276
      refine wpList_nil ?_
      refine hK273 _ _ ?_; clear hK273 K273
      refine wp_cond_true (F276.ev (by kernel_rfl)) ?_
      refine wp_seq_k fun K277 hK277 => ?_
      refine wp_region_lit ?_
      refine op_p F276 (.string s) (by kernel_rfl) rfl rfl rfl (by kernel_rfl) rfl ?_; intro a278 F278
      refine op_p F278 (.string s) (by kernel_rfl) rfl rfl rfl (by kernel_rfl) rfl ?_; intro a279 F279
      refine wpList_nil ?_
      refine hK277 _ _ ?_; clear hK277 K277
      refine wp_ret ?_
      refine ret_then ?_
      refine (F279.res1 rfl (v := .string s) (by kernel_rfl) ?_).1
      exact ⟨(ret_str (by have h := he; rw [exF_end (Nat.le_refl _), app_emp] at h; first | exact h | (rw [emp_app] at h; rw [← h]; simp))), S10.drop⟩
    · subst hA275
      refine op_p F274 (.bool false) (by kernel_rfl) rfl rfl rfl (by kernel_rfl) rfl ?_; intro a280 F280
      refine wpList_nil ?_
      refine hK273 _ _ ?_; clear hK273 K273
      refine wp_cond_false (F280.ev (by kernel_rfl)) ?_
      refine wp_skip ?_
      refine hK272 _ _ ?_; clear hK272 K272
      refine wp_seq_k fun K281 hK281 => ?_
      refine wp_region_sep (L0 := SA.own (.slice (some ⟨gn275, 0, none⟩) b.size cb) 5 1 b.size (strCells b) :: L) [some [], some [(0, 74)], some [], some [], some [(2, 76), (3, 77)], some [(1, 75), (4, 78)], some [(5, 79)]] [(SA.emp, fun u A => u = .slice (some ⟨gn275, 0, none⟩) b.size cb ∧ A = SA.emp), (SA.emp, fun u A => u = .string b ∧ A = SA.emp), (SA.emp, fun u A => u = .string s ∧ A = SA.emp), (SA.emp, fun u A => u = .int .i64 (↑i) ∧ A = SA.emp), (SA.emp, fun u A => u = .string (s.extract i s.size) ∧ A = SA.emp), (SA.emp, fun u A => u = .string (b ++ (s.extract i s.size)) ∧ A = SA.emp), (SA.emp, fun u A => u = .string (b ++ (s.extract i s.size)) ∧ A = SA.emp)] 80 rfl F280.size rfl (by kernel_rfl) S10.emp.emp.emp.emp.emp.emp.emp ?_ ?_
      · refine ⟨?_, ?_, ?_, ?_, ?_, ?_, ?_, trivial⟩
        · intro w295 M295 S295
          refine deps_nil ?_
          refine obl_of (by rfl) ?_
          exact s_p F280 (v := .slice (some ⟨gn275, 0, none⟩) b.size cb) (by kernel_rfl) (by kernel_rfl) (by kernel_rfl) S295
        · intro w296 M296 S296
          rintro _ _ ⟨rfl, rfl⟩ hA297
          have F297 := F280.put (d := 74) (v := .slice (some ⟨gn275, 0, none⟩) b.size cb) (by decide)
          refine deps_nil ?_
          refine obl_of (by rfl) ?_
          exact s_r (v := .string b) (r_b2s rfl Try.underlying148 Try.underlying5 Try.underlying9 (F297.ev (v := .slice (some ⟨gn275, 0, none⟩) b.size cb) (by kernel_rfl)) ((Sp.dropM S296.drop).ow 0 rfl)) S296
        · intro w298 M298 S298
          refine deps_nil ?_
          refine obl_of (by rfl) ?_
          exact s_p F280 (v := .string s) (by kernel_rfl) (by kernel_rfl) (by kernel_rfl) S298
        · intro w299 M299 S299
          refine deps_nil ?_
          refine obl_of (by rfl) ?_
          exact s_p F280 (v := .int .i64 (↑i)) (by kernel_rfl) (by kernel_rfl) (by kernel_rfl) S299
        · intro w300 M300 S300
          rintro _ _ ⟨rfl, rfl⟩ hA301
          have F301 := F280.put (d := 76) (v := .string s) (by decide)
          rintro _ _ ⟨rfl, rfl⟩ hA302
          have F302 := F301.put (d := 77) (v := .int .i64 (↑i)) (by decide)
          refine deps_nil ?_
          refine obl_of (by rfl) ?_
          exact s_r (v := .string (s.extract i s.size)) (r_sll rfl Try.underlying9 (F302.ev (v := .string s) (by kernel_rfl)) (F302.ev (v := .int .i64 (↑i)) (by kernel_rfl))  i s.size (by first | rfl | omega | (simp; done) | (simp; omega)) (by first | omega | (simp; done) | (simp; omega)) (rfl)) S300
        · intro w303 M303 S303
          rintro _ _ ⟨rfl, rfl⟩ hA304
          have F304 := F280.put (d := 75) (v := .string b) (by decide)
          rintro _ _ ⟨rfl, rfl⟩ hA305
          have F305 := F304.put (d := 78) (v := .string (s.extract i s.size)) (by decide)
          refine deps_nil ?_
          refine obl_of (by rfl) ?_
          exact s_r (v := .string (b ++ (s.extract i s.size))) (r_sadd rfl (F305.ev (v := .string b) (by kernel_rfl)) (F305.ev (v := .string (s.extract i s.size)) (by kernel_rfl)) (by show b.size + (s.extract i s.size).size ≤ 9223372036854775807; first | omega | (simp only [ByteArray.size_append, ByteArray.size_extract]; omega) | (simp; omega))) S303
        · intro w306 M306 S306
          rintro _ _ ⟨rfl, rfl⟩ hA307
          have F307 := F280.put (d := 79) (v := .string (b ++ (s.extract i s.size))) (by decide)
          refine deps_nil ?_
          refine obl_of (by rfl) ?_
          exact s_p F307 (v := .string (b ++ (s.extract i s.size))) (by kernel_rfl) (by kernel_rfl) (by kernel_rfl) S306
      · rintro _ _ ⟨rfl, rfl⟩
        have F309 := F280.put (d := 74) (v := .slice (some ⟨gn275, 0, none⟩) b.size cb) (by decide)
        rintro _ _ ⟨rfl, rfl⟩
        have F310 := F309.put (d := 75) (v := .string b) (by decide)
        rintro _ _ ⟨rfl, rfl⟩
        have F311 := F310.put (d := 76) (v := .string s) (by decide)
        rintro _ _ ⟨rfl, rfl⟩
        have F312 := F311.put (d := 77) (v := .int .i64 (↑i)) (by decide)
        rintro _ _ ⟨rfl, rfl⟩
        have F313 := F312.put (d := 78) (v := .string (s.extract i s.size)) (by decide)
        rintro _ _ ⟨rfl, rfl⟩
        have F314 := F313.put (d := 79) (v := .string (b ++ (s.extract i s.size))) (by decide)
        rintro _ _ ⟨rfl, rfl⟩
        have F315 := F314.put (d := 4) (v := .string (b ++ (s.extract i s.size))) (by decide)
        intro w308 S308
        have S316 := S308.drop
        have S317 := S316.drop
        have S318 := S317.drop
        have S319 := S318.drop
        have S320 := S319.drop
        have S321 := S320.drop
        have S322 := S321.drop
        refine wpList_nil ?_
        refine hK281 _ _ ?_; clear hK281 K281
        refine wp_ret ?_
        refine (F315.res1 rfl (v := .string (b ++ (s.extract i s.size))) (by kernel_rfl) ?_).1
        exact ⟨(ret_str (by have h := he; rw [exF_end (Nat.le_refl _), app_emp] at h; first | exact h | (rw [emp_app] at h; rw [← h]; simp))), S322.drop⟩
end Go.Proofs.Ytkjcedlgljeoiaa

