/- Texts Fz, A8, V0, V1, V2, V3, V4, Vf1, P6, N5, X1, T0, Q1, Lc1, Lc2, Zm, Ig1, laid together. -/
import Derived.WalkKit
import Derived.WalkLawsBesides
import Derived.WalkSpells
import Derived.Lib.Hide
import Derived.Deep.RegionWith
import Derived.Deep.DeepCutAuto
import Derived.Deep.QuietTactic
import Derived.BigQuiet
import Derived.Laws.OwnMore
import Derived.Deep.LoopGhost
import Derived.KernelRfl
import Derived.Deep.WholeRow
import Derived.StillTail
import Derived.SliceStrings
import Derived.Deep.Slices
import Derived.Deep.Fields
import Derived.ChangeSame
import Derived.Deep.MidRow
import Derived.Maps.AppendAt
import Derived.Lib.AppendStr
import Derived.Lib.ConvBytes
import Derived.Laws.BytesArg
import Derived.Deep.RegionLaw
import Derived.OwnWalk
import Derived.Maps.OwnSet
import Derived.Maps.OwnOps
import Derived.ArgAppend
import Derived.Defers
import Derived.Recover
import Derived.Laws.Pointers
import Derived.Laws.StructEq
import Derived.IntWalk
import Derived.Test.YtkjcedlgljeoiaaProg
import Derived.BigRegion
import Derived.Deep.CutBlock
import Derived.Carry
import Derived.Test.YtkjcedlgljeoiaaIGb
/- Contracts of size checks. Printed. -/
namespace Go.Proofs.Ytkjcedlgljeoiaa
open Go.RowKit Go.Lib
set_option linter.unusedVariables false
set_option linter.unusedSimpArgs false
def fits68 (x : Ty108) : Bool := decide (x.fKey.size ≤ 2147483647) && decide (x.fText.size ≤ 2147483647)
def fits18 (xs : List Ty108) : Bool := decide (xs.length ≤ 2147483647) && xs.all fits68
def fits190 (x : Ty52) : Bool := decide (x.fName.size ≤ 2147483647) && decide (x.fURL.size ≤ 2147483647)
def fits137 (xs : List Ty52) : Bool := decide (xs.length ≤ 2147483647) && xs.all fits190
def fits74 (x : Ty50) : Bool := (fits137 x.fRepos) && decide (x.fName.size ≤ 2147483647)
def fits24 (xs : List Ty50) : Bool := decide (xs.length ≤ 2147483647) && xs.all fits74
def fits125 (x : Ty94) : Bool := decide (x.fName.size ≤ 2147483647) && decide (x.fData.size ≤ 2147483647)
def fits63 (xs : List Ty94) : Bool := decide (xs.length ≤ 2147483647) && xs.all fits125
def fits151 (x : Ty78) : Bool := decide (x.fName.size ≤ 2147483647) && decide (x.fEmail.size ≤ 2147483647) && decide (x.fURL.size ≤ 2147483647)
set_option maxRecDepth 100000 in
set_option maxHeartbeats 4000000 in
theorem fits151_any (x : Ty78) (w : World) (h0 : Ty78.ok x w)  :
    Calls Try.prog 151 #[.agg #[.bool x.fNil, .string x.fName, .string x.fEmail, .string x.fURL]] w fun e w' => e = .returned (.bool (fits151 x)) ∧ Below w.heap.size w w' := by
  have H0 := Lib.hid h0
  clear h0
  suffices hQ : ∀ Q : Ending → World → Prop, Hid (∀ (e : Ending) (w' : World), (e = .returned (.bool (fits151 x)) ∧ Below w.heap.size w w') → Post1 Q e w') → Calls Try.prog 151 #[.agg #[.bool x.fNil, .string x.fName, .string x.fEmail, .string x.fURL]] w (fun e w' => Post1 Q e w') from hQ (fun e w' => e = .returned (.bool (fits151 x)) ∧ Below w.heap.size w w') (fun _ _ h => by unfold Post1; exact h)
  intro Q HQ
  go_enter Try.func151, Try.ntmps151
  by_cases hc1 : (2147483647 : Int) < ↑x.fName.size
  · have P0 : Hid (decide (x.fName.size ≤ 2147483647) = false) := by show _ = _; simp; omega
    go_wp2_with (first
      | ((with_reducible refine at_dst (N := 1) rfl ?_); refine ev_box rfl 78 _ rfl _ rfl ?_; intro g1 w1 hg hB hb
         have low_g1 := Nat.le_trans (Nat.le_refl _) hg
         have B_w1 := Lib.hid (below_trans (Below.refl _ _) hb)
         have g1_w1 : Hid (Blk w1 g1 78 #[.bool x.fNil, .string x.fName, .string x.fEmail, .string x.fURL]) := hB
         clear hB hb)
      | ((with_reducible refine at_dst (N := 4) rfl ?_); refine ev_ld rfl 9 _ rfl ⟨g1, 1, none⟩ rfl (.string x.fName) (g1_w1.out.cell 1) _ Try.underlying9 rfl ?_))
    go_ret
    exact HQ.out _ _ ⟨ret_bool (by simp only [fits151, P0.out, Bool.and_self, Bool.and_false, Bool.false_and]), B_w1.out⟩
  · have P0 : Hid (decide (x.fName.size ≤ 2147483647) = true) := by show _ = _; simp; omega
    by_cases hc2 : (2147483647 : Int) < ↑x.fEmail.size
    · have P1 : Hid (decide (x.fEmail.size ≤ 2147483647) = false) := by show _ = _; simp; omega
      go_wp2_with (first
        | ((with_reducible refine at_dst (N := 1) rfl ?_); refine ev_box rfl 78 _ rfl _ rfl ?_; intro g1 w1 hg hB hb
           have low_g1 := Nat.le_trans (Nat.le_refl _) hg
           have B_w1 := Lib.hid (below_trans (Below.refl _ _) hb)
           have g1_w1 : Hid (Blk w1 g1 78 #[.bool x.fNil, .string x.fName, .string x.fEmail, .string x.fURL]) := hB
           clear hB hb)
        | ((with_reducible refine at_dst (N := 4) rfl ?_); refine ev_ld rfl 9 _ rfl ⟨g1, 1, none⟩ rfl (.string x.fName) (g1_w1.out.cell 1) _ Try.underlying9 rfl ?_)
        | ((with_reducible refine at_dst (N := 8) rfl ?_); refine ev_ld rfl 9 _ rfl ⟨g1, 2, none⟩ rfl (.string x.fEmail) (g1_w1.out.cell 2) _ Try.underlying9 rfl ?_))
      go_ret
      exact HQ.out _ _ ⟨ret_bool (by simp only [fits151, P0.out, P1.out, Bool.and_self, Bool.and_false, Bool.false_and]), B_w1.out⟩
    · have P1 : Hid (decide (x.fEmail.size ≤ 2147483647) = true) := by show _ = _; simp; omega
      by_cases hc3 : (2147483647 : Int) < ↑x.fURL.size
      · have P2 : Hid (decide (x.fURL.size ≤ 2147483647) = false) := by show _ = _; simp; omega
        go_wp2_with (first
          | ((with_reducible refine at_dst (N := 1) rfl ?_); refine ev_box rfl 78 _ rfl _ rfl ?_; intro g1 w1 hg hB hb
             have low_g1 := Nat.le_trans (Nat.le_refl _) hg
             have B_w1 := Lib.hid (below_trans (Below.refl _ _) hb)
             have g1_w1 : Hid (Blk w1 g1 78 #[.bool x.fNil, .string x.fName, .string x.fEmail, .string x.fURL]) := hB
             clear hB hb)
          | ((with_reducible refine at_dst (N := 4) rfl ?_); refine ev_ld rfl 9 _ rfl ⟨g1, 1, none⟩ rfl (.string x.fName) (g1_w1.out.cell 1) _ Try.underlying9 rfl ?_)
          | ((with_reducible refine at_dst (N := 8) rfl ?_); refine ev_ld rfl 9 _ rfl ⟨g1, 2, none⟩ rfl (.string x.fEmail) (g1_w1.out.cell 2) _ Try.underlying9 rfl ?_)
          | ((with_reducible refine at_dst (N := 12) rfl ?_); refine ev_ld rfl 9 _ rfl ⟨g1, 3, none⟩ rfl (.string x.fURL) (g1_w1.out.cell 3) _ Try.underlying9 rfl ?_))
        go_ret
        exact HQ.out _ _ ⟨ret_bool (by simp only [fits151, P0.out, P1.out, P2.out, Bool.and_self, Bool.and_false, Bool.false_and]), B_w1.out⟩
      · have P2 : Hid (decide (x.fURL.size ≤ 2147483647) = true) := by show _ = _; simp; omega
        go_wp2_with (first
          | ((with_reducible refine at_dst (N := 1) rfl ?_); refine ev_box rfl 78 _ rfl _ rfl ?_; intro g1 w1 hg hB hb
             have low_g1 := Nat.le_trans (Nat.le_refl _) hg
             have B_w1 := Lib.hid (below_trans (Below.refl _ _) hb)
             have g1_w1 : Hid (Blk w1 g1 78 #[.bool x.fNil, .string x.fName, .string x.fEmail, .string x.fURL]) := hB
             clear hB hb)
          | ((with_reducible refine at_dst (N := 4) rfl ?_); refine ev_ld rfl 9 _ rfl ⟨g1, 1, none⟩ rfl (.string x.fName) (g1_w1.out.cell 1) _ Try.underlying9 rfl ?_)
          | ((with_reducible refine at_dst (N := 8) rfl ?_); refine ev_ld rfl 9 _ rfl ⟨g1, 2, none⟩ rfl (.string x.fEmail) (g1_w1.out.cell 2) _ Try.underlying9 rfl ?_)
          | ((with_reducible refine at_dst (N := 12) rfl ?_); refine ev_ld rfl 9 _ rfl ⟨g1, 3, none⟩ rfl (.string x.fURL) (g1_w1.out.cell 3) _ Try.underlying9 rfl ?_))
        go_ret
        exact HQ.out _ _ ⟨ret_bool (by simp only [fits151, P0.out, P1.out, P2.out, Bool.and_self, Bool.and_false, Bool.false_and]), B_w1.out⟩
def fits89 (xs : List Ty78) : Bool := decide (xs.length ≤ 2147483647) && xs.all fits151
set_option maxRecDepth 100000 in
set_option maxHeartbeats 4000000 in
theorem fits89_any (A : Option Addr) (c : Nat) (xs : List Ty78) (w : World) (h0 : Rows w (A) 4 (xs.map Ty78.cells)) (h1 : Ty78.oks xs w)  :
    Calls Try.prog 89 #[.slice (A) (xs.length) (c)] w fun e w' => e = .returned (.bool (fits89 xs)) ∧ Below w.heap.size w w' := by
  have hl_xs : xs.length ≤ 9223372036854775807 := by have := h0.1; simpa [strs, ptrs] using this
  have H0 := Lib.hid h0
  clear h0
  have H1 := Lib.hid h1
  clear h1
  suffices hQ : ∀ Q : Ending → World → Prop, Hid (∀ (e : Ending) (w' : World), (e = .returned (.bool (fits89 xs)) ∧ Below w.heap.size w w') → Post1 Q e w') → Calls Try.prog 89 #[.slice (A) (xs.length) (c)] w (fun e w' => Post1 Q e w') from hQ (fun e w' => e = .returned (.bool (fits89 xs)) ∧ Below w.heap.size w w') (fun _ _ h => by unfold Post1; exact h)
  intro Q HQ
  go_enter Try.func89, Try.ntmps89
  by_cases hc1 : (2147483647 : Int) < ↑xs.length
  · go_wp2_with fail
    go_ret
    exact HQ.out _ _ ⟨ret_bool (by have e : decide (xs.length ≤ 2147483647) = false := (by simp; omega); rw [fits89, e, Bool.false_and]), (Below.refl _ _)⟩
  · go_wp2_with fail
    go_loopw [10] (fun v10 wr => ∃ k : Nat, (k ≤ xs.length) ∧ v10 = .int .i64 (↑k) ∧ Hid ((xs.take k).all fits151 = true) ∧ Hid (Below w.heap.size w wr)) (fun v10 _ => xs.length - (intOf v10).toNat)
    case atStart => exact ⟨0, (by omega), rfl, rfl, (Below.refl _ _)⟩
    case round =>
      obtain ⟨k, hk, rfl, L0_all, L0_B⟩ := hrel
      by_cases hlt_k : k < xs.length
      · obtain ⟨ad_k, rfl⟩ := (H0.out.below L0_B.out).addr (by simp [strs, ptrs]; omega)
        have HE := Lib.hid (Ty78.oks.at H1.out hlt_k)
        cases hc2 : (fits151 xs[k])
        · go_wp2_with (first
            | ((with_reducible refine at_dst (N := 13) rfl ?_); refine ev_loadR rfl 78 _ rfl _ rfl [.bool xs[k].fNil, .string xs[k].fName, .string xs[k].fEmail, .string xs[k].fURL] ((H0.out.below L0_B.out).el (j := k) (row := xs[k].cells) (by simp [hlt_k])) _ Try.underlying78 rfl tsz78 ?_)
            | ((with_reducible refine at_dst (N := 4) rfl ?_); refine ev_alloc rfl 78 rfl _ _ tz78 ?_; intro g4 w1 hg hB hb
               have low_g4 := Nat.le_trans L0_B.out.size hg
               have B_w1 := Lib.hid (below_trans L0_B.out hb)
               have g4_w1 : Hid (Blk w1 g4 78 #[.bool false, .string ⟨#[]⟩, .string ⟨#[]⟩, .string ⟨#[]⟩]) := hB
               clear hB hb)
            | (refine ev_store rfl 78 _ _ rfl g4 _ _ rfl rfl 78 g4_w1.out tsz78 rfl rfl ?_; intro w2 hB hg hz
               have hx := GrX.grown (S := fun k => k = g4) hg rfl
               have B_w2 := Lib.hid (below_grx B_w1.out hx B_w1.out.size (fun k => (fun e => e ▸ low_g4)))
               clear hx
               have g4_w2 : Hid (Blk w2 g4 78 #[.bool xs[k].fNil, .string xs[k].fName, .string xs[k].fEmail, .string xs[k].fURL]) := hB
               clear hB hg hz)
            | ((with_reducible refine at_dst (N := 14) rfl ?_); refine ev_loadB rfl 78 _ rfl g4 rfl 78 _ g4_w2.out _ Try.underlying78 rfl tsz78 ?_)
            | (go_at_call 151; (with_reducible refine (fits151_any xs[k] _ (Ty78.ok.below HE.out B_w2.out)).mono ?_); rintro e w3 ⟨rfl, hb⟩; rw [hc2]
               have g4_w3 := Lib.hid (g4_w2.out.below hb)
               have B_w3 := Lib.hid (below_trans B_w2.out hb)
               clear hb))
          go_ret
          exact HQ.out _ _ ⟨ret_bool (by rw [fits89, all_at hlt_k hc2, Bool.and_false]), B_w3.out⟩
        · go_wp2_with (first
            | ((with_reducible refine at_dst (N := 13) rfl ?_); refine ev_loadR rfl 78 _ rfl _ rfl [.bool xs[k].fNil, .string xs[k].fName, .string xs[k].fEmail, .string xs[k].fURL] ((H0.out.below L0_B.out).el (j := k) (row := xs[k].cells) (by simp [hlt_k])) _ Try.underlying78 rfl tsz78 ?_)
            | ((with_reducible refine at_dst (N := 4) rfl ?_); refine ev_alloc rfl 78 rfl _ _ tz78 ?_; intro g4 w1 hg hB hb
               have low_g4 := Nat.le_trans L0_B.out.size hg
               have B_w1 := Lib.hid (below_trans L0_B.out hb)
               have g4_w1 : Hid (Blk w1 g4 78 #[.bool false, .string ⟨#[]⟩, .string ⟨#[]⟩, .string ⟨#[]⟩]) := hB
               clear hB hb)
            | (refine ev_store rfl 78 _ _ rfl g4 _ _ rfl rfl 78 g4_w1.out tsz78 rfl rfl ?_; intro w2 hB hg hz
               have hx := GrX.grown (S := fun k => k = g4) hg rfl
               have B_w2 := Lib.hid (below_grx B_w1.out hx B_w1.out.size (fun k => (fun e => e ▸ low_g4)))
               clear hx
               have g4_w2 : Hid (Blk w2 g4 78 #[.bool xs[k].fNil, .string xs[k].fName, .string xs[k].fEmail, .string xs[k].fURL]) := hB
               clear hB hg hz)
            | ((with_reducible refine at_dst (N := 14) rfl ?_); refine ev_loadB rfl 78 _ rfl g4 rfl 78 _ g4_w2.out _ Try.underlying78 rfl tsz78 ?_)
            | (go_at_call 151; (with_reducible refine (fits151_any xs[k] _ (Ty78.ok.below HE.out B_w2.out)).mono ?_); rintro e w3 ⟨rfl, hb⟩; rw [hc2]
               have g4_w3 := Lib.hid (g4_w2.out.below hb)
               have B_w3 := Lib.hid (below_trans B_w2.out hb)
               clear hb))
          refine ⟨⟨k + 1, (by omega), by go_num, by show _ = _; rw [all_take hlt_k, L0_all.out, hc2]; rfl, B_w3⟩, ?_⟩
          simp [intOf]; omega
      · obtain rfl : k = xs.length := by omega
        rw [List.take_length] at L0_all
        go_wp2_with fail
        go_ret
        exact HQ.out _ _ ⟨ret_bool (by have e : decide (xs.length ≤ 2147483647) = true := (by simp; omega); rw [fits89, e, L0_all.out]; rfl), L0_B.out⟩
def fits152 (x : Ty80) : Bool := decide (x.fName.size ≤ 2147483647) && decide (x.fVersion.size ≤ 2147483647) && decide (x.fRepository.size ≤ 2147483647) && decide (x.fCondition.size ≤ 2147483647) && (fits3 x.fTags) && decide (x.fAlias.size ≤ 2147483647)
set_option maxRecDepth 100000 in
set_option maxHeartbeats 4000000 in
theorem fits152_any (x : Ty80) (w : World) (h0 : Ty80.ok x w)  :
    Calls Try.prog 152 #[.agg #[.bool x.fNil, .string x.fName, .string x.fVersion, .string x.fRepository, .string x.fCondition, .slice x.fTags_a x.fTags.length x.fTags_c, .string x.fAlias]] w fun e w' => e = .returned (.bool (fits152 x)) ∧ Below w.heap.size w w' := by
  have H0 := Lib.hid h0
  clear h0
  have H0_Tags := Lib.hid (Ty80.ok_sTags H0.out)
  suffices hQ : ∀ Q : Ending → World → Prop, Hid (∀ (e : Ending) (w' : World), (e = .returned (.bool (fits152 x)) ∧ Below w.heap.size w w') → Post1 Q e w') → Calls Try.prog 152 #[.agg (zq5 x)] w (fun e w' => Post1 Q e w') from hQ (fun e w' => e = .returned (.bool (fits152 x)) ∧ Below w.heap.size w w') (fun _ _ h => by unfold Post1; exact h)
  intro Q HQ
  go_enter Try.func152, Try.ntmps152
  by_cases hc1 : (2147483647 : Int) < ↑x.fName.size
  · have P0 : Hid (decide (x.fName.size ≤ 2147483647) = false) := by show _ = _; simp; omega
    go_wp2_with (first
      | ((with_reducible refine at_dst (N := 1) rfl ?_); refine ev_box rfl 80 _ rfl _ rfl ?_; intro g1 w1 hg hB hb
         have low_g1 := Nat.le_trans (Nat.le_refl _) hg
         have B_w1 := Lib.hid (below_trans (Below.refl _ _) hb)
         have g1_w1 : Hid (Blk w1 g1 80 (zq5 x)) := hB
         clear hB hb)
      | ((with_reducible refine at_dst (N := 4) rfl ?_); refine ev_ld rfl 9 _ rfl ⟨g1, 1, none⟩ rfl (.string x.fName) (g1_w1.out.cell 1) _ Try.underlying9 rfl ?_))
    go_ret
    exact HQ.out _ _ ⟨ret_bool (by simp only [fits152, P0.out, Bool.and_self, Bool.and_false, Bool.false_and]), B_w1.out⟩
  · have P0 : Hid (decide (x.fName.size ≤ 2147483647) = true) := by show _ = _; simp; omega
    by_cases hc2 : (2147483647 : Int) < ↑x.fVersion.size
    · have P1 : Hid (decide (x.fVersion.size ≤ 2147483647) = false) := by show _ = _; simp; omega
      go_wp2_with (first
        | ((with_reducible refine at_dst (N := 1) rfl ?_); refine ev_box rfl 80 _ rfl _ rfl ?_; intro g1 w1 hg hB hb
           have low_g1 := Nat.le_trans (Nat.le_refl _) hg
           have B_w1 := Lib.hid (below_trans (Below.refl _ _) hb)
           have g1_w1 : Hid (Blk w1 g1 80 (zq5 x)) := hB
           clear hB hb)
        | ((with_reducible refine at_dst (N := 4) rfl ?_); refine ev_ld rfl 9 _ rfl ⟨g1, 1, none⟩ rfl (.string x.fName) (g1_w1.out.cell 1) _ Try.underlying9 rfl ?_)
        | ((with_reducible refine at_dst (N := 8) rfl ?_); refine ev_ld rfl 9 _ rfl ⟨g1, 2, none⟩ rfl (.string x.fVersion) (g1_w1.out.cell 2) _ Try.underlying9 rfl ?_))
      go_ret
      exact HQ.out _ _ ⟨ret_bool (by simp only [fits152, P0.out, P1.out, Bool.and_self, Bool.and_false, Bool.false_and]), B_w1.out⟩
    · have P1 : Hid (decide (x.fVersion.size ≤ 2147483647) = true) := by show _ = _; simp; omega
      by_cases hc3 : (2147483647 : Int) < ↑x.fRepository.size
      · have P2 : Hid (decide (x.fRepository.size ≤ 2147483647) = false) := by show _ = _; simp; omega
        go_wp2_with (first
          | ((with_reducible refine at_dst (N := 1) rfl ?_); refine ev_box rfl 80 _ rfl _ rfl ?_; intro g1 w1 hg hB hb
             have low_g1 := Nat.le_trans (Nat.le_refl _) hg
             have B_w1 := Lib.hid (below_trans (Below.refl _ _) hb)
             have g1_w1 : Hid (Blk w1 g1 80 (zq5 x)) := hB
             clear hB hb)
          | ((with_reducible refine at_dst (N := 4) rfl ?_); refine ev_ld rfl 9 _ rfl ⟨g1, 1, none⟩ rfl (.string x.fName) (g1_w1.out.cell 1) _ Try.underlying9 rfl ?_)
          | ((with_reducible refine at_dst (N := 8) rfl ?_); refine ev_ld rfl 9 _ rfl ⟨g1, 2, none⟩ rfl (.string x.fVersion) (g1_w1.out.cell 2) _ Try.underlying9 rfl ?_)
          | ((with_reducible refine at_dst (N := 12) rfl ?_); refine ev_ld rfl 9 _ rfl ⟨g1, 3, none⟩ rfl (.string x.fRepository) (g1_w1.out.cell 3) _ Try.underlying9 rfl ?_))
        go_ret
        exact HQ.out _ _ ⟨ret_bool (by simp only [fits152, P0.out, P1.out, P2.out, Bool.and_self, Bool.and_false, Bool.false_and]), B_w1.out⟩
      · have P2 : Hid (decide (x.fRepository.size ≤ 2147483647) = true) := by show _ = _; simp; omega
        by_cases hc4 : (2147483647 : Int) < ↑x.fCondition.size
        · have P3 : Hid (decide (x.fCondition.size ≤ 2147483647) = false) := by show _ = _; simp; omega
          go_wp2_with (first
            | ((with_reducible refine at_dst (N := 1) rfl ?_); refine ev_box rfl 80 _ rfl _ rfl ?_; intro g1 w1 hg hB hb
               have low_g1 := Nat.le_trans (Nat.le_refl _) hg
               have B_w1 := Lib.hid (below_trans (Below.refl _ _) hb)
               have g1_w1 : Hid (Blk w1 g1 80 (zq5 x)) := hB
               clear hB hb)
            | ((with_reducible refine at_dst (N := 4) rfl ?_); refine ev_ld rfl 9 _ rfl ⟨g1, 1, none⟩ rfl (.string x.fName) (g1_w1.out.cell 1) _ Try.underlying9 rfl ?_)
            | ((with_reducible refine at_dst (N := 8) rfl ?_); refine ev_ld rfl 9 _ rfl ⟨g1, 2, none⟩ rfl (.string x.fVersion) (g1_w1.out.cell 2) _ Try.underlying9 rfl ?_)
            | ((with_reducible refine at_dst (N := 12) rfl ?_); refine ev_ld rfl 9 _ rfl ⟨g1, 3, none⟩ rfl (.string x.fRepository) (g1_w1.out.cell 3) _ Try.underlying9 rfl ?_)
            | ((with_reducible refine at_dst (N := 16) rfl ?_); refine ev_ld rfl 9 _ rfl ⟨g1, 4, none⟩ rfl (.string x.fCondition) (g1_w1.out.cell 4) _ Try.underlying9 rfl ?_))
          go_ret
          exact HQ.out _ _ ⟨ret_bool (by simp only [fits152, P0.out, P1.out, P2.out, P3.out, Bool.and_self, Bool.and_false, Bool.false_and]), B_w1.out⟩
        · have P3 : Hid (decide (x.fCondition.size ≤ 2147483647) = true) := by show _ = _; simp; omega
          cases hc5 : (fits3 x.fTags)
          · have P4 := Lib.hid hc5
            go_wp2_with (first
              | ((with_reducible refine at_dst (N := 1) rfl ?_); refine ev_box rfl 80 _ rfl _ rfl ?_; intro g1 w1 hg hB hb
                 have low_g1 := Nat.le_trans (Nat.le_refl _) hg
                 have B_w1 := Lib.hid (below_trans (Below.refl _ _) hb)
                 have g1_w1 : Hid (Blk w1 g1 80 (zq5 x)) := hB
                 clear hB hb)
              | ((with_reducible refine at_dst (N := 4) rfl ?_); refine ev_ld rfl 9 _ rfl ⟨g1, 1, none⟩ rfl (.string x.fName) (g1_w1.out.cell 1) _ Try.underlying9 rfl ?_)
              | ((with_reducible refine at_dst (N := 8) rfl ?_); refine ev_ld rfl 9 _ rfl ⟨g1, 2, none⟩ rfl (.string x.fVersion) (g1_w1.out.cell 2) _ Try.underlying9 rfl ?_)
              | ((with_reducible refine at_dst (N := 12) rfl ?_); refine ev_ld rfl 9 _ rfl ⟨g1, 3, none⟩ rfl (.string x.fRepository) (g1_w1.out.cell 3) _ Try.underlying9 rfl ?_)
              | ((with_reducible refine at_dst (N := 16) rfl ?_); refine ev_ld rfl 9 _ rfl ⟨g1, 4, none⟩ rfl (.string x.fCondition) (g1_w1.out.cell 4) _ Try.underlying9 rfl ?_)
              | ((with_reducible refine at_dst (N := 20) rfl ?_); refine ev_ld rfl 22 _ rfl ⟨g1, 5, none⟩ rfl (.slice x.fTags_a x.fTags.length x.fTags_c) (g1_w1.out.cell 5) _ Try.underlying22 rfl ?_)
              | (go_at_call 27; (with_reducible refine (zzFits3_any x.fTags_a x.fTags_c x.fTags _ (H0_Tags.out.below B_w1.out)).mono ?_); rintro e wq ⟨rfl, rfl⟩; rw [hc5]))
            go_ret
            exact HQ.out _ _ ⟨ret_bool (by simp only [fits152, P0.out, P1.out, P2.out, P3.out, P4.out, Bool.and_self, Bool.and_false, Bool.false_and]), B_w1.out⟩
          · have P4 := Lib.hid hc5
            by_cases hc6 : (2147483647 : Int) < ↑x.fAlias.size
            · have P5 : Hid (decide (x.fAlias.size ≤ 2147483647) = false) := by show _ = _; simp; omega
              go_wp2_with (first
                | ((with_reducible refine at_dst (N := 1) rfl ?_); refine ev_box rfl 80 _ rfl _ rfl ?_; intro g1 w1 hg hB hb
                   have low_g1 := Nat.le_trans (Nat.le_refl _) hg
                   have B_w1 := Lib.hid (below_trans (Below.refl _ _) hb)
                   have g1_w1 : Hid (Blk w1 g1 80 (zq5 x)) := hB
                   clear hB hb)
                | ((with_reducible refine at_dst (N := 4) rfl ?_); refine ev_ld rfl 9 _ rfl ⟨g1, 1, none⟩ rfl (.string x.fName) (g1_w1.out.cell 1) _ Try.underlying9 rfl ?_)
                | ((with_reducible refine at_dst (N := 8) rfl ?_); refine ev_ld rfl 9 _ rfl ⟨g1, 2, none⟩ rfl (.string x.fVersion) (g1_w1.out.cell 2) _ Try.underlying9 rfl ?_)
                | ((with_reducible refine at_dst (N := 12) rfl ?_); refine ev_ld rfl 9 _ rfl ⟨g1, 3, none⟩ rfl (.string x.fRepository) (g1_w1.out.cell 3) _ Try.underlying9 rfl ?_)
                | ((with_reducible refine at_dst (N := 16) rfl ?_); refine ev_ld rfl 9 _ rfl ⟨g1, 4, none⟩ rfl (.string x.fCondition) (g1_w1.out.cell 4) _ Try.underlying9 rfl ?_)
                | ((with_reducible refine at_dst (N := 20) rfl ?_); refine ev_ld rfl 22 _ rfl ⟨g1, 5, none⟩ rfl (.slice x.fTags_a x.fTags.length x.fTags_c) (g1_w1.out.cell 5) _ Try.underlying22 rfl ?_)
                | (go_at_call 27; (with_reducible refine (zzFits3_any x.fTags_a x.fTags_c x.fTags _ (H0_Tags.out.below B_w1.out)).mono ?_); rintro e wq ⟨rfl, rfl⟩; rw [hc5])
                | ((with_reducible refine at_dst (N := 24) rfl ?_); refine ev_ld rfl 9 _ rfl ⟨g1, 6, none⟩ rfl (.string x.fAlias) (g1_w1.out.cell 6) _ Try.underlying9 rfl ?_))
              go_ret
              exact HQ.out _ _ ⟨ret_bool (by simp only [fits152, P0.out, P1.out, P2.out, P3.out, P4.out, P5.out, Bool.and_self, Bool.and_false, Bool.false_and]), B_w1.out⟩
            · have P5 : Hid (decide (x.fAlias.size ≤ 2147483647) = true) := by show _ = _; simp; omega
              go_wp2_with (first
                | ((with_reducible refine at_dst (N := 1) rfl ?_); refine ev_box rfl 80 _ rfl _ rfl ?_; intro g1 w1 hg hB hb
                   have low_g1 := Nat.le_trans (Nat.le_refl _) hg
                   have B_w1 := Lib.hid (below_trans (Below.refl _ _) hb)
                   have g1_w1 : Hid (Blk w1 g1 80 (zq5 x)) := hB
                   clear hB hb)
                | ((with_reducible refine at_dst (N := 4) rfl ?_); refine ev_ld rfl 9 _ rfl ⟨g1, 1, none⟩ rfl (.string x.fName) (g1_w1.out.cell 1) _ Try.underlying9 rfl ?_)
                | ((with_reducible refine at_dst (N := 8) rfl ?_); refine ev_ld rfl 9 _ rfl ⟨g1, 2, none⟩ rfl (.string x.fVersion) (g1_w1.out.cell 2) _ Try.underlying9 rfl ?_)
                | ((with_reducible refine at_dst (N := 12) rfl ?_); refine ev_ld rfl 9 _ rfl ⟨g1, 3, none⟩ rfl (.string x.fRepository) (g1_w1.out.cell 3) _ Try.underlying9 rfl ?_)
                | ((with_reducible refine at_dst (N := 16) rfl ?_); refine ev_ld rfl 9 _ rfl ⟨g1, 4, none⟩ rfl (.string x.fCondition) (g1_w1.out.cell 4) _ Try.underlying9 rfl ?_)
                | ((with_reducible refine at_dst (N := 20) rfl ?_); refine ev_ld rfl 22 _ rfl ⟨g1, 5, none⟩ rfl (.slice x.fTags_a x.fTags.length x.fTags_c) (g1_w1.out.cell 5) _ Try.underlying22 rfl ?_)
                | (go_at_call 27; (with_reducible refine (zzFits3_any x.fTags_a x.fTags_c x.fTags _ (H0_Tags.out.below B_w1.out)).mono ?_); rintro e wq ⟨rfl, rfl⟩; rw [hc5])
                | ((with_reducible refine at_dst (N := 24) rfl ?_); refine ev_ld rfl 9 _ rfl ⟨g1, 6, none⟩ rfl (.string x.fAlias) (g1_w1.out.cell 6) _ Try.underlying9 rfl ?_))
              go_ret
              exact HQ.out _ _ ⟨ret_bool (by simp only [fits152, P0.out, P1.out, P2.out, P3.out, P4.out, P5.out, Bool.and_self, Bool.and_false, Bool.false_and]), B_w1.out⟩
def fits90 (xs : List Ty80) : Bool := decide (xs.length ≤ 2147483647) && xs.all fits152
set_option maxRecDepth 100000 in
set_option maxHeartbeats 4000000 in
theorem fits90_any (A : Option Addr) (c : Nat) (xs : List Ty80) (w : World) (h0 : Rows w (A) 7 (xs.map Ty80.cells)) (h1 : Ty80.oks xs w)  :
    Calls Try.prog 90 #[.slice (A) (xs.length) (c)] w fun e w' => e = .returned (.bool (fits90 xs)) ∧ Below w.heap.size w w' := by
  have hl_xs : xs.length ≤ 9223372036854775807 := by have := h0.1; simpa [strs, ptrs] using this
  have H0 := Lib.hid h0
  clear h0
  have H1 := Lib.hid h1
  clear h1
  suffices hQ : ∀ Q : Ending → World → Prop, Hid (∀ (e : Ending) (w' : World), (e = .returned (.bool (fits90 xs)) ∧ Below w.heap.size w w') → Post1 Q e w') → Calls Try.prog 90 #[.slice (A) (xs.length) (c)] w (fun e w' => Post1 Q e w') from hQ (fun e w' => e = .returned (.bool (fits90 xs)) ∧ Below w.heap.size w w') (fun _ _ h => by unfold Post1; exact h)
  intro Q HQ
  go_enter Try.func90, Try.ntmps90
  by_cases hc1 : (2147483647 : Int) < ↑xs.length
  · go_wp2_with fail
    go_ret
    exact HQ.out _ _ ⟨ret_bool (by have e : decide (xs.length ≤ 2147483647) = false := (by simp; omega); rw [fits90, e, Bool.false_and]), (Below.refl _ _)⟩
  · go_wp2_with fail
    go_loopw [10] (fun v10 wr => ∃ k : Nat, (k ≤ xs.length) ∧ v10 = .int .i64 (↑k) ∧ Hid ((xs.take k).all fits152 = true) ∧ Hid (Below w.heap.size w wr)) (fun v10 _ => xs.length - (intOf v10).toNat)
    case atStart => exact ⟨0, (by omega), rfl, rfl, (Below.refl _ _)⟩
    case round =>
      obtain ⟨k, hk, rfl, L0_all, L0_B⟩ := hrel
      by_cases hlt_k : k < xs.length
      · obtain ⟨ad_k, rfl⟩ := (H0.out.below L0_B.out).addr (by simp [strs, ptrs]; omega)
        have HE := Lib.hid (Ty80.oks.at H1.out hlt_k)
        cases hc2 : (fits152 xs[k])
        · go_wp2_with (first
            | ((with_reducible refine at_dst (N := 13) rfl ?_); refine ev_loadR rfl 80 _ rfl _ rfl [.bool xs[k].fNil, .string xs[k].fName, .string xs[k].fVersion, .string xs[k].fRepository, .string xs[k].fCondition, .slice xs[k].fTags_a xs[k].fTags.length xs[k].fTags_c, .string xs[k].fAlias] ((H0.out.below L0_B.out).el (j := k) (row := xs[k].cells) (by simp [hlt_k])) _ Try.underlying80 rfl tsz80 ?_)
            | ((with_reducible refine at_dst (N := 4) rfl ?_); refine ev_alloc rfl 80 rfl _ _ tz80 ?_; intro g4 w1 hg hB hb
               have low_g4 := Nat.le_trans L0_B.out.size hg
               have B_w1 := Lib.hid (below_trans L0_B.out hb)
               have g4_w1 : Hid (Blk w1 g4 80 zq6) := hB
               clear hB hb)
            | (refine ev_store rfl 80 _ _ rfl g4 _ _ rfl rfl 80 g4_w1.out tsz80 rfl rfl ?_; intro w2 hB hg hz
               have hx := GrX.grown (S := fun k => k = g4) hg rfl
               have B_w2 := Lib.hid (below_grx B_w1.out hx B_w1.out.size (fun k => (fun e => e ▸ low_g4)))
               clear hx
               have g4_w2 : Hid (Blk w2 g4 80 #[.bool xs[k].fNil, .string xs[k].fName, .string xs[k].fVersion, .string xs[k].fRepository, .string xs[k].fCondition, .slice xs[k].fTags_a xs[k].fTags.length xs[k].fTags_c, .string xs[k].fAlias]) := hB
               clear hB hg hz)
            | ((with_reducible refine at_dst (N := 14) rfl ?_); refine ev_loadB rfl 80 _ rfl g4 rfl 80 _ g4_w2.out _ Try.underlying80 rfl tsz80 ?_)
            | (go_at_call 152; (with_reducible refine (fits152_any xs[k] _ (Ty80.ok.below HE.out B_w2.out)).mono ?_); rintro e w3 ⟨rfl, hb⟩; rw [hc2]
               have g4_w3 := Lib.hid (g4_w2.out.below hb)
               have B_w3 := Lib.hid (below_trans B_w2.out hb)
               clear hb))
          go_ret
          exact HQ.out _ _ ⟨ret_bool (by rw [fits90, all_at hlt_k hc2, Bool.and_false]), B_w3.out⟩
        · go_wp2_with (first
            | ((with_reducible refine at_dst (N := 13) rfl ?_); refine ev_loadR rfl 80 _ rfl _ rfl [.bool xs[k].fNil, .string xs[k].fName, .string xs[k].fVersion, .string xs[k].fRepository, .string xs[k].fCondition, .slice xs[k].fTags_a xs[k].fTags.length xs[k].fTags_c, .string xs[k].fAlias] ((H0.out.below L0_B.out).el (j := k) (row := xs[k].cells) (by simp [hlt_k])) _ Try.underlying80 rfl tsz80 ?_)
            | ((with_reducible refine at_dst (N := 4) rfl ?_); refine ev_alloc rfl 80 rfl _ _ tz80 ?_; intro g4 w1 hg hB hb
               have low_g4 := Nat.le_trans L0_B.out.size hg
               have B_w1 := Lib.hid (below_trans L0_B.out hb)
               have g4_w1 : Hid (Blk w1 g4 80 zq6) := hB
               clear hB hb)
            | (refine ev_store rfl 80 _ _ rfl g4 _ _ rfl rfl 80 g4_w1.out tsz80 rfl rfl ?_; intro w2 hB hg hz
               have hx := GrX.grown (S := fun k => k = g4) hg rfl
               have B_w2 := Lib.hid (below_grx B_w1.out hx B_w1.out.size (fun k => (fun e => e ▸ low_g4)))
               clear hx
               have g4_w2 : Hid (Blk w2 g4 80 #[.bool xs[k].fNil, .string xs[k].fName, .string xs[k].fVersion, .string xs[k].fRepository, .string xs[k].fCondition, .slice xs[k].fTags_a xs[k].fTags.length xs[k].fTags_c, .string xs[k].fAlias]) := hB
               clear hB hg hz)
            | ((with_reducible refine at_dst (N := 14) rfl ?_); refine ev_loadB rfl 80 _ rfl g4 rfl 80 _ g4_w2.out _ Try.underlying80 rfl tsz80 ?_)
            | (go_at_call 152; (with_reducible refine (fits152_any xs[k] _ (Ty80.ok.below HE.out B_w2.out)).mono ?_); rintro e w3 ⟨rfl, hb⟩; rw [hc2]
               have g4_w3 := Lib.hid (g4_w2.out.below hb)
               have B_w3 := Lib.hid (below_trans B_w2.out hb)
               clear hb))
          refine ⟨⟨k + 1, (by omega), by go_num, by show _ = _; rw [all_take hlt_k, L0_all.out, hc2]; rfl, B_w3⟩, ?_⟩
          simp [intOf]; omega
      · obtain rfl : k = xs.length := by omega
        rw [List.take_length] at L0_all
        go_wp2_with fail
        go_ret
        exact HQ.out _ _ ⟨ret_bool (by have e : decide (xs.length ≤ 2147483647) = true := (by simp; omega); rw [fits90, e, L0_all.out]; rfl), L0_B.out⟩
def fits37 (x : Ty26) : Bool := decide (x.fName.size ≤ 2147483647) && decide (x.fHome.size ≤ 2147483647) && decide (x.fVersion.size ≤ 2147483647) && decide (x.fDescription.size ≤ 2147483647) && decide (x.fIcon.size ≤ 2147483647) && decide (x.fAPIVersion.size ≤ 2147483647) && decide (x.fCondition.size ≤ 2147483647) && decide (x.fTags.size ≤ 2147483647) && decide (x.fAppVersion.size ≤ 2147483647) && decide (x.fKubeVersion.size ≤ 2147483647) && decide (x.fType.size ≤ 2147483647) && (fits3 x.fSources) && (fits3 x.fKeywords) && (fits89 x.fMaintainers) && (fits90 x.fDependencies)
abbrev zq13 (x0 : Ty26) : Array Value := #[.string x0.fName, .string x0.fHome, .string x0.fVersion, .string x0.fDescription, .string x0.fIcon, .string x0.fAPIVersion, .string x0.fCondition, .string x0.fTags, .string x0.fAppVersion, .string x0.fKubeVersion, .string x0.fType, .slice x0.fSources_a x0.fSources.length x0.fSources_c, .slice x0.fKeywords_a x0.fKeywords.length x0.fKeywords_c, .slice x0.fMaintainers_a x0.fMaintainers.length x0.fMaintainers_c, .slice x0.fDependencies_a x0.fDependencies.length x0.fDependencies_c]
set_option maxRecDepth 100000 in
set_option maxHeartbeats 4000000 in
theorem fits37_any (x : Ty26) (w : World) (h0 : Ty26.ok x w)  :
    Calls Try.prog 37 #[.agg #[.string x.fName, .string x.fHome, .string x.fVersion, .string x.fDescription, .string x.fIcon, .string x.fAPIVersion, .string x.fCondition, .string x.fTags, .string x.fAppVersion, .string x.fKubeVersion, .string x.fType, .slice x.fSources_a x.fSources.length x.fSources_c, .slice x.fKeywords_a x.fKeywords.length x.fKeywords_c, .slice x.fMaintainers_a x.fMaintainers.length x.fMaintainers_c, .slice x.fDependencies_a x.fDependencies.length x.fDependencies_c]] w fun e w' => e = .returned (.bool (fits37 x)) ∧ Below w.heap.size w w' := by
  have H0 := Lib.hid h0
  clear h0
  have H0_Sources := Lib.hid (Ty26.ok_sSources H0.out)
  have H0_Keywords := Lib.hid (Ty26.ok_sKeywords H0.out)
  have H0_Maintainers := Lib.hid (Ty26.ok_rMaintainers H0.out)
  have H0_Maintainerso := Lib.hid (Ty26.ok_oMaintainers H0.out)
  have H0_Dependencies := Lib.hid (Ty26.ok_rDependencies H0.out)
  have H0_Dependencieso := Lib.hid (Ty26.ok_oDependencies H0.out)
  suffices hQ : ∀ Q : Ending → World → Prop, Hid (∀ (e : Ending) (w' : World), (e = .returned (.bool (fits37 x)) ∧ Below w.heap.size w w') → Post1 Q e w') → Calls Try.prog 37 #[.agg (zq13 x)] w (fun e w' => Post1 Q e w') from hQ (fun e w' => e = .returned (.bool (fits37 x)) ∧ Below w.heap.size w w') (fun _ _ h => by unfold Post1; exact h)
  intro Q HQ
  go_enter Try.func37, Try.ntmps37
  by_cases hc1 : (2147483647 : Int) < ↑x.fName.size
  · have P0 : Hid (decide (x.fName.size ≤ 2147483647) = false) := by show _ = _; simp; omega
    go_wp2_with (first
      | ((with_reducible refine at_dst (N := 1) rfl ?_); refine ev_box rfl 26 _ rfl _ rfl ?_; intro g1 w1 hg hB hb
         have low_g1 := Nat.le_trans (Nat.le_refl _) hg
         have B_w1 := Lib.hid (below_trans (Below.refl _ _) hb)
         have g1_w1 : Hid (Blk w1 g1 26 (zq13 x)) := hB
         clear hB hb)
      | ((with_reducible refine at_dst (N := 4) rfl ?_); refine ev_ld rfl 9 _ rfl ⟨g1, 0, none⟩ rfl (.string x.fName) (g1_w1.out.cell 0) _ Try.underlying9 rfl ?_))
    go_ret
    exact HQ.out _ _ ⟨ret_bool (by simp only [fits37, P0.out, Bool.and_self, Bool.and_false, Bool.false_and]), B_w1.out⟩
  · have P0 : Hid (decide (x.fName.size ≤ 2147483647) = true) := by show _ = _; simp; omega
    by_cases hc2 : (2147483647 : Int) < ↑x.fHome.size
    · have P1 : Hid (decide (x.fHome.size ≤ 2147483647) = false) := by show _ = _; simp; omega
      go_wp2_with (first
        | ((with_reducible refine at_dst (N := 1) rfl ?_); refine ev_box rfl 26 _ rfl _ rfl ?_; intro g1 w1 hg hB hb
           have low_g1 := Nat.le_trans (Nat.le_refl _) hg
           have B_w1 := Lib.hid (below_trans (Below.refl _ _) hb)
           have g1_w1 : Hid (Blk w1 g1 26 (zq13 x)) := hB
           clear hB hb)
        | ((with_reducible refine at_dst (N := 4) rfl ?_); refine ev_ld rfl 9 _ rfl ⟨g1, 0, none⟩ rfl (.string x.fName) (g1_w1.out.cell 0) _ Try.underlying9 rfl ?_)
        | ((with_reducible refine at_dst (N := 8) rfl ?_); refine ev_ld rfl 9 _ rfl ⟨g1, 1, none⟩ rfl (.string x.fHome) (g1_w1.out.cell 1) _ Try.underlying9 rfl ?_))
      go_ret
      exact HQ.out _ _ ⟨ret_bool (by simp only [fits37, P0.out, P1.out, Bool.and_self, Bool.and_false, Bool.false_and]), B_w1.out⟩
    · have P1 : Hid (decide (x.fHome.size ≤ 2147483647) = true) := by show _ = _; simp; omega
      by_cases hc3 : (2147483647 : Int) < ↑x.fVersion.size
      · have P2 : Hid (decide (x.fVersion.size ≤ 2147483647) = false) := by show _ = _; simp; omega
        go_wp2_with (first
          | ((with_reducible refine at_dst (N := 1) rfl ?_); refine ev_box rfl 26 _ rfl _ rfl ?_; intro g1 w1 hg hB hb
             have low_g1 := Nat.le_trans (Nat.le_refl _) hg
             have B_w1 := Lib.hid (below_trans (Below.refl _ _) hb)
             have g1_w1 : Hid (Blk w1 g1 26 (zq13 x)) := hB
             clear hB hb)
          | ((with_reducible refine at_dst (N := 4) rfl ?_); refine ev_ld rfl 9 _ rfl ⟨g1, 0, none⟩ rfl (.string x.fName) (g1_w1.out.cell 0) _ Try.underlying9 rfl ?_)
          | ((with_reducible refine at_dst (N := 8) rfl ?_); refine ev_ld rfl 9 _ rfl ⟨g1, 1, none⟩ rfl (.string x.fHome) (g1_w1.out.cell 1) _ Try.underlying9 rfl ?_)
          | ((with_reducible refine at_dst (N := 12) rfl ?_); refine ev_ld rfl 9 _ rfl ⟨g1, 2, none⟩ rfl (.string x.fVersion) (g1_w1.out.cell 2) _ Try.underlying9 rfl ?_))
        go_ret
        exact HQ.out _ _ ⟨ret_bool (by simp only [fits37, P0.out, P1.out, P2.out, Bool.and_self, Bool.and_false, Bool.false_and]), B_w1.out⟩
      · have P2 : Hid (decide (x.fVersion.size ≤ 2147483647) = true) := by show _ = _; simp; omega
        by_cases hc4 : (2147483647 : Int) < ↑x.fDescription.size
        · have P3 : Hid (decide (x.fDescription.size ≤ 2147483647) = false) := by show _ = _; simp; omega
          go_wp2_with (first
            | ((with_reducible refine at_dst (N := 1) rfl ?_); refine ev_box rfl 26 _ rfl _ rfl ?_; intro g1 w1 hg hB hb
               have low_g1 := Nat.le_trans (Nat.le_refl _) hg
               have B_w1 := Lib.hid (below_trans (Below.refl _ _) hb)
               have g1_w1 : Hid (Blk w1 g1 26 (zq13 x)) := hB
               clear hB hb)
            | ((with_reducible refine at_dst (N := 4) rfl ?_); refine ev_ld rfl 9 _ rfl ⟨g1, 0, none⟩ rfl (.string x.fName) (g1_w1.out.cell 0) _ Try.underlying9 rfl ?_)
            | ((with_reducible refine at_dst (N := 8) rfl ?_); refine ev_ld rfl 9 _ rfl ⟨g1, 1, none⟩ rfl (.string x.fHome) (g1_w1.out.cell 1) _ Try.underlying9 rfl ?_)
            | ((with_reducible refine at_dst (N := 12) rfl ?_); refine ev_ld rfl 9 _ rfl ⟨g1, 2, none⟩ rfl (.string x.fVersion) (g1_w1.out.cell 2) _ Try.underlying9 rfl ?_)
            | ((with_reducible refine at_dst (N := 16) rfl ?_); refine ev_ld rfl 9 _ rfl ⟨g1, 3, none⟩ rfl (.string x.fDescription) (g1_w1.out.cell 3) _ Try.underlying9 rfl ?_))
          go_ret
          exact HQ.out _ _ ⟨ret_bool (by simp only [fits37, P0.out, P1.out, P2.out, P3.out, Bool.and_self, Bool.and_false, Bool.false_and]), B_w1.out⟩
        · have P3 : Hid (decide (x.fDescription.size ≤ 2147483647) = true) := by show _ = _; simp; omega
          by_cases hc5 : (2147483647 : Int) < ↑x.fIcon.size
          · have P4 : Hid (decide (x.fIcon.size ≤ 2147483647) = false) := by show _ = _; simp; omega
            go_wp2_with (first
              | ((with_reducible refine at_dst (N := 1) rfl ?_); refine ev_box rfl 26 _ rfl _ rfl ?_; intro g1 w1 hg hB hb
                 have low_g1 := Nat.le_trans (Nat.le_refl _) hg
                 have B_w1 := Lib.hid (below_trans (Below.refl _ _) hb)
                 have g1_w1 : Hid (Blk w1 g1 26 (zq13 x)) := hB
                 clear hB hb)
              | ((with_reducible refine at_dst (N := 4) rfl ?_); refine ev_ld rfl 9 _ rfl ⟨g1, 0, none⟩ rfl (.string x.fName) (g1_w1.out.cell 0) _ Try.underlying9 rfl ?_)
              | ((with_reducible refine at_dst (N := 8) rfl ?_); refine ev_ld rfl 9 _ rfl ⟨g1, 1, none⟩ rfl (.string x.fHome) (g1_w1.out.cell 1) _ Try.underlying9 rfl ?_)
              | ((with_reducible refine at_dst (N := 12) rfl ?_); refine ev_ld rfl 9 _ rfl ⟨g1, 2, none⟩ rfl (.string x.fVersion) (g1_w1.out.cell 2) _ Try.underlying9 rfl ?_)
              | ((with_reducible refine at_dst (N := 16) rfl ?_); refine ev_ld rfl 9 _ rfl ⟨g1, 3, none⟩ rfl (.string x.fDescription) (g1_w1.out.cell 3) _ Try.underlying9 rfl ?_)
              | ((with_reducible refine at_dst (N := 20) rfl ?_); refine ev_ld rfl 9 _ rfl ⟨g1, 4, none⟩ rfl (.string x.fIcon) (g1_w1.out.cell 4) _ Try.underlying9 rfl ?_))
            go_ret
            exact HQ.out _ _ ⟨ret_bool (by simp only [fits37, P0.out, P1.out, P2.out, P3.out, P4.out, Bool.and_self, Bool.and_false, Bool.false_and]), B_w1.out⟩
          · have P4 : Hid (decide (x.fIcon.size ≤ 2147483647) = true) := by show _ = _; simp; omega
            by_cases hc6 : (2147483647 : Int) < ↑x.fAPIVersion.size
            · have P5 : Hid (decide (x.fAPIVersion.size ≤ 2147483647) = false) := by show _ = _; simp; omega
              go_wp2_with (first
                | ((with_reducible refine at_dst (N := 1) rfl ?_); refine ev_box rfl 26 _ rfl _ rfl ?_; intro g1 w1 hg hB hb
                   have low_g1 := Nat.le_trans (Nat.le_refl _) hg
                   have B_w1 := Lib.hid (below_trans (Below.refl _ _) hb)
                   have g1_w1 : Hid (Blk w1 g1 26 (zq13 x)) := hB
                   clear hB hb)
                | ((with_reducible refine at_dst (N := 4) rfl ?_); refine ev_ld rfl 9 _ rfl ⟨g1, 0, none⟩ rfl (.string x.fName) (g1_w1.out.cell 0) _ Try.underlying9 rfl ?_)
                | ((with_reducible refine at_dst (N := 8) rfl ?_); refine ev_ld rfl 9 _ rfl ⟨g1, 1, none⟩ rfl (.string x.fHome) (g1_w1.out.cell 1) _ Try.underlying9 rfl ?_)
                | ((with_reducible refine at_dst (N := 12) rfl ?_); refine ev_ld rfl 9 _ rfl ⟨g1, 2, none⟩ rfl (.string x.fVersion) (g1_w1.out.cell 2) _ Try.underlying9 rfl ?_)
                | ((with_reducible refine at_dst (N := 16) rfl ?_); refine ev_ld rfl 9 _ rfl ⟨g1, 3, none⟩ rfl (.string x.fDescription) (g1_w1.out.cell 3) _ Try.underlying9 rfl ?_)
                | ((with_reducible refine at_dst (N := 20) rfl ?_); refine ev_ld rfl 9 _ rfl ⟨g1, 4, none⟩ rfl (.string x.fIcon) (g1_w1.out.cell 4) _ Try.underlying9 rfl ?_)
                | ((with_reducible refine at_dst (N := 24) rfl ?_); refine ev_ld rfl 9 _ rfl ⟨g1, 5, none⟩ rfl (.string x.fAPIVersion) (g1_w1.out.cell 5) _ Try.underlying9 rfl ?_))
              go_ret
              exact HQ.out _ _ ⟨ret_bool (by simp only [fits37, P0.out, P1.out, P2.out, P3.out, P4.out, P5.out, Bool.and_self, Bool.and_false, Bool.false_and]), B_w1.out⟩
            · have P5 : Hid (decide (x.fAPIVersion.size ≤ 2147483647) = true) := by show _ = _; simp; omega
              by_cases hc7 : (2147483647 : Int) < ↑x.fCondition.size
              · have P6 : Hid (decide (x.fCondition.size ≤ 2147483647) = false) := by show _ = _; simp; omega
                go_wp2_with (first
                  | ((with_reducible refine at_dst (N := 1) rfl ?_); refine ev_box rfl 26 _ rfl _ rfl ?_; intro g1 w1 hg hB hb
                     have low_g1 := Nat.le_trans (Nat.le_refl _) hg
                     have B_w1 := Lib.hid (below_trans (Below.refl _ _) hb)
                     have g1_w1 : Hid (Blk w1 g1 26 (zq13 x)) := hB
                     clear hB hb)
                  | ((with_reducible refine at_dst (N := 4) rfl ?_); refine ev_ld rfl 9 _ rfl ⟨g1, 0, none⟩ rfl (.string x.fName) (g1_w1.out.cell 0) _ Try.underlying9 rfl ?_)
                  | ((with_reducible refine at_dst (N := 8) rfl ?_); refine ev_ld rfl 9 _ rfl ⟨g1, 1, none⟩ rfl (.string x.fHome) (g1_w1.out.cell 1) _ Try.underlying9 rfl ?_)
                  | ((with_reducible refine at_dst (N := 12) rfl ?_); refine ev_ld rfl 9 _ rfl ⟨g1, 2, none⟩ rfl (.string x.fVersion) (g1_w1.out.cell 2) _ Try.underlying9 rfl ?_)
                  | ((with_reducible refine at_dst (N := 16) rfl ?_); refine ev_ld rfl 9 _ rfl ⟨g1, 3, none⟩ rfl (.string x.fDescription) (g1_w1.out.cell 3) _ Try.underlying9 rfl ?_)
                  | ((with_reducible refine at_dst (N := 20) rfl ?_); refine ev_ld rfl 9 _ rfl ⟨g1, 4, none⟩ rfl (.string x.fIcon) (g1_w1.out.cell 4) _ Try.underlying9 rfl ?_)
                  | ((with_reducible refine at_dst (N := 24) rfl ?_); refine ev_ld rfl 9 _ rfl ⟨g1, 5, none⟩ rfl (.string x.fAPIVersion) (g1_w1.out.cell 5) _ Try.underlying9 rfl ?_)
                  | ((with_reducible refine at_dst (N := 28) rfl ?_); refine ev_ld rfl 9 _ rfl ⟨g1, 6, none⟩ rfl (.string x.fCondition) (g1_w1.out.cell 6) _ Try.underlying9 rfl ?_))
                go_ret
                exact HQ.out _ _ ⟨ret_bool (by simp only [fits37, P0.out, P1.out, P2.out, P3.out, P4.out, P5.out, P6.out, Bool.and_self, Bool.and_false, Bool.false_and]), B_w1.out⟩
              · have P6 : Hid (decide (x.fCondition.size ≤ 2147483647) = true) := by show _ = _; simp; omega
                by_cases hc8 : (2147483647 : Int) < ↑x.fTags.size
                · have P7 : Hid (decide (x.fTags.size ≤ 2147483647) = false) := by show _ = _; simp; omega
                  go_wp2_with (first
                    | ((with_reducible refine at_dst (N := 1) rfl ?_); refine ev_box rfl 26 _ rfl _ rfl ?_; intro g1 w1 hg hB hb
                       have low_g1 := Nat.le_trans (Nat.le_refl _) hg
                       have B_w1 := Lib.hid (below_trans (Below.refl _ _) hb)
                       have g1_w1 : Hid (Blk w1 g1 26 (zq13 x)) := hB
                       clear hB hb)
                    | ((with_reducible refine at_dst (N := 4) rfl ?_); refine ev_ld rfl 9 _ rfl ⟨g1, 0, none⟩ rfl (.string x.fName) (g1_w1.out.cell 0) _ Try.underlying9 rfl ?_)
                    | ((with_reducible refine at_dst (N := 8) rfl ?_); refine ev_ld rfl 9 _ rfl ⟨g1, 1, none⟩ rfl (.string x.fHome) (g1_w1.out.cell 1) _ Try.underlying9 rfl ?_)
                    | ((with_reducible refine at_dst (N := 12) rfl ?_); refine ev_ld rfl 9 _ rfl ⟨g1, 2, none⟩ rfl (.string x.fVersion) (g1_w1.out.cell 2) _ Try.underlying9 rfl ?_)
                    | ((with_reducible refine at_dst (N := 16) rfl ?_); refine ev_ld rfl 9 _ rfl ⟨g1, 3, none⟩ rfl (.string x.fDescription) (g1_w1.out.cell 3) _ Try.underlying9 rfl ?_)
                    | ((with_reducible refine at_dst (N := 20) rfl ?_); refine ev_ld rfl 9 _ rfl ⟨g1, 4, none⟩ rfl (.string x.fIcon) (g1_w1.out.cell 4) _ Try.underlying9 rfl ?_)
                    | ((with_reducible refine at_dst (N := 24) rfl ?_); refine ev_ld rfl 9 _ rfl ⟨g1, 5, none⟩ rfl (.string x.fAPIVersion) (g1_w1.out.cell 5) _ Try.underlying9 rfl ?_)
                    | ((with_reducible refine at_dst (N := 28) rfl ?_); refine ev_ld rfl 9 _ rfl ⟨g1, 6, none⟩ rfl (.string x.fCondition) (g1_w1.out.cell 6) _ Try.underlying9 rfl ?_)
                    | ((with_reducible refine at_dst (N := 32) rfl ?_); refine ev_ld rfl 9 _ rfl ⟨g1, 7, none⟩ rfl (.string x.fTags) (g1_w1.out.cell 7) _ Try.underlying9 rfl ?_))
                  go_ret
                  exact HQ.out _ _ ⟨ret_bool (by simp only [fits37, P0.out, P1.out, P2.out, P3.out, P4.out, P5.out, P6.out, P7.out, Bool.and_self, Bool.and_false, Bool.false_and]), B_w1.out⟩
                · have P7 : Hid (decide (x.fTags.size ≤ 2147483647) = true) := by show _ = _; simp; omega
                  by_cases hc9 : (2147483647 : Int) < ↑x.fAppVersion.size
                  · have P8 : Hid (decide (x.fAppVersion.size ≤ 2147483647) = false) := by show _ = _; simp; omega
                    go_wp2_with (first
                      | ((with_reducible refine at_dst (N := 1) rfl ?_); refine ev_box rfl 26 _ rfl _ rfl ?_; intro g1 w1 hg hB hb
                         have low_g1 := Nat.le_trans (Nat.le_refl _) hg
                         have B_w1 := Lib.hid (below_trans (Below.refl _ _) hb)
                         have g1_w1 : Hid (Blk w1 g1 26 (zq13 x)) := hB
                         clear hB hb)
                      | ((with_reducible refine at_dst (N := 4) rfl ?_); refine ev_ld rfl 9 _ rfl ⟨g1, 0, none⟩ rfl (.string x.fName) (g1_w1.out.cell 0) _ Try.underlying9 rfl ?_)
                      | ((with_reducible refine at_dst (N := 8) rfl ?_); refine ev_ld rfl 9 _ rfl ⟨g1, 1, none⟩ rfl (.string x.fHome) (g1_w1.out.cell 1) _ Try.underlying9 rfl ?_)
                      | ((with_reducible refine at_dst (N := 12) rfl ?_); refine ev_ld rfl 9 _ rfl ⟨g1, 2, none⟩ rfl (.string x.fVersion) (g1_w1.out.cell 2) _ Try.underlying9 rfl ?_)
                      | ((with_reducible refine at_dst (N := 16) rfl ?_); refine ev_ld rfl 9 _ rfl ⟨g1, 3, none⟩ rfl (.string x.fDescription) (g1_w1.out.cell 3) _ Try.underlying9 rfl ?_)
                      | ((with_reducible refine at_dst (N := 20) rfl ?_); refine ev_ld rfl 9 _ rfl ⟨g1, 4, none⟩ rfl (.string x.fIcon) (g1_w1.out.cell 4) _ Try.underlying9 rfl ?_)
                      | ((with_reducible refine at_dst (N := 24) rfl ?_); refine ev_ld rfl 9 _ rfl ⟨g1, 5, none⟩ rfl (.string x.fAPIVersion) (g1_w1.out.cell 5) _ Try.underlying9 rfl ?_)
                      | ((with_reducible refine at_dst (N := 28) rfl ?_); refine ev_ld rfl 9 _ rfl ⟨g1, 6, none⟩ rfl (.string x.fCondition) (g1_w1.out.cell 6) _ Try.underlying9 rfl ?_)
                      | ((with_reducible refine at_dst (N := 32) rfl ?_); refine ev_ld rfl 9 _ rfl ⟨g1, 7, none⟩ rfl (.string x.fTags) (g1_w1.out.cell 7) _ Try.underlying9 rfl ?_)
                      | ((with_reducible refine at_dst (N := 36) rfl ?_); refine ev_ld rfl 9 _ rfl ⟨g1, 8, none⟩ rfl (.string x.fAppVersion) (g1_w1.out.cell 8) _ Try.underlying9 rfl ?_))
                    go_ret
                    exact HQ.out _ _ ⟨ret_bool (by simp only [fits37, P0.out, P1.out, P2.out, P3.out, P4.out, P5.out, P6.out, P7.out, P8.out, Bool.and_self, Bool.and_false, Bool.false_and]), B_w1.out⟩
                  · have P8 : Hid (decide (x.fAppVersion.size ≤ 2147483647) = true) := by show _ = _; simp; omega
                    by_cases hc10 : (2147483647 : Int) < ↑x.fKubeVersion.size
                    · have P9 : Hid (decide (x.fKubeVersion.size ≤ 2147483647) = false) := by show _ = _; simp; omega
                      go_wp2_with (first
                        | ((with_reducible refine at_dst (N := 1) rfl ?_); refine ev_box rfl 26 _ rfl _ rfl ?_; intro g1 w1 hg hB hb
                           have low_g1 := Nat.le_trans (Nat.le_refl _) hg
                           have B_w1 := Lib.hid (below_trans (Below.refl _ _) hb)
                           have g1_w1 : Hid (Blk w1 g1 26 (zq13 x)) := hB
                           clear hB hb)
                        | ((with_reducible refine at_dst (N := 4) rfl ?_); refine ev_ld rfl 9 _ rfl ⟨g1, 0, none⟩ rfl (.string x.fName) (g1_w1.out.cell 0) _ Try.underlying9 rfl ?_)
                        | ((with_reducible refine at_dst (N := 8) rfl ?_); refine ev_ld rfl 9 _ rfl ⟨g1, 1, none⟩ rfl (.string x.fHome) (g1_w1.out.cell 1) _ Try.underlying9 rfl ?_)
                        | ((with_reducible refine at_dst (N := 12) rfl ?_); refine ev_ld rfl 9 _ rfl ⟨g1, 2, none⟩ rfl (.string x.fVersion) (g1_w1.out.cell 2) _ Try.underlying9 rfl ?_)
                        | ((with_reducible refine at_dst (N := 16) rfl ?_); refine ev_ld rfl 9 _ rfl ⟨g1, 3, none⟩ rfl (.string x.fDescription) (g1_w1.out.cell 3) _ Try.underlying9 rfl ?_)
                        | ((with_reducible refine at_dst (N := 20) rfl ?_); refine ev_ld rfl 9 _ rfl ⟨g1, 4, none⟩ rfl (.string x.fIcon) (g1_w1.out.cell 4) _ Try.underlying9 rfl ?_)
                        | ((with_reducible refine at_dst (N := 24) rfl ?_); refine ev_ld rfl 9 _ rfl ⟨g1, 5, none⟩ rfl (.string x.fAPIVersion) (g1_w1.out.cell 5) _ Try.underlying9 rfl ?_)
                        | ((with_reducible refine at_dst (N := 28) rfl ?_); refine ev_ld rfl 9 _ rfl ⟨g1, 6, none⟩ rfl (.string x.fCondition) (g1_w1.out.cell 6) _ Try.underlying9 rfl ?_)
                        | ((with_reducible refine at_dst (N := 32) rfl ?_); refine ev_ld rfl 9 _ rfl ⟨g1, 7, none⟩ rfl (.string x.fTags) (g1_w1.out.cell 7) _ Try.underlying9 rfl ?_)
                        | ((with_reducible refine at_dst (N := 36) rfl ?_); refine ev_ld rfl 9 _ rfl ⟨g1, 8, none⟩ rfl (.string x.fAppVersion) (g1_w1.out.cell 8) _ Try.underlying9 rfl ?_)
                        | ((with_reducible refine at_dst (N := 40) rfl ?_); refine ev_ld rfl 9 _ rfl ⟨g1, 9, none⟩ rfl (.string x.fKubeVersion) (g1_w1.out.cell 9) _ Try.underlying9 rfl ?_))
                      go_ret
                      exact HQ.out _ _ ⟨ret_bool (by simp only [fits37, P0.out, P1.out, P2.out, P3.out, P4.out, P5.out, P6.out, P7.out, P8.out, P9.out, Bool.and_self, Bool.and_false, Bool.false_and]), B_w1.out⟩
                    · have P9 : Hid (decide (x.fKubeVersion.size ≤ 2147483647) = true) := by show _ = _; simp; omega
                      by_cases hc11 : (2147483647 : Int) < ↑x.fType.size
                      · have P10 : Hid (decide (x.fType.size ≤ 2147483647) = false) := by show _ = _; simp; omega
                        go_wp2_with (first
                          | ((with_reducible refine at_dst (N := 1) rfl ?_); refine ev_box rfl 26 _ rfl _ rfl ?_; intro g1 w1 hg hB hb
                             have low_g1 := Nat.le_trans (Nat.le_refl _) hg
                             have B_w1 := Lib.hid (below_trans (Below.refl _ _) hb)
                             have g1_w1 : Hid (Blk w1 g1 26 (zq13 x)) := hB
                             clear hB hb)
                          | ((with_reducible refine at_dst (N := 4) rfl ?_); refine ev_ld rfl 9 _ rfl ⟨g1, 0, none⟩ rfl (.string x.fName) (g1_w1.out.cell 0) _ Try.underlying9 rfl ?_)
                          | ((with_reducible refine at_dst (N := 8) rfl ?_); refine ev_ld rfl 9 _ rfl ⟨g1, 1, none⟩ rfl (.string x.fHome) (g1_w1.out.cell 1) _ Try.underlying9 rfl ?_)
                          | ((with_reducible refine at_dst (N := 12) rfl ?_); refine ev_ld rfl 9 _ rfl ⟨g1, 2, none⟩ rfl (.string x.fVersion) (g1_w1.out.cell 2) _ Try.underlying9 rfl ?_)
                          | ((with_reducible refine at_dst (N := 16) rfl ?_); refine ev_ld rfl 9 _ rfl ⟨g1, 3, none⟩ rfl (.string x.fDescription) (g1_w1.out.cell 3) _ Try.underlying9 rfl ?_)
                          | ((with_reducible refine at_dst (N := 20) rfl ?_); refine ev_ld rfl 9 _ rfl ⟨g1, 4, none⟩ rfl (.string x.fIcon) (g1_w1.out.cell 4) _ Try.underlying9 rfl ?_)
                          | ((with_reducible refine at_dst (N := 24) rfl ?_); refine ev_ld rfl 9 _ rfl ⟨g1, 5, none⟩ rfl (.string x.fAPIVersion) (g1_w1.out.cell 5) _ Try.underlying9 rfl ?_)
                          | ((with_reducible refine at_dst (N := 28) rfl ?_); refine ev_ld rfl 9 _ rfl ⟨g1, 6, none⟩ rfl (.string x.fCondition) (g1_w1.out.cell 6) _ Try.underlying9 rfl ?_)
                          | ((with_reducible refine at_dst (N := 32) rfl ?_); refine ev_ld rfl 9 _ rfl ⟨g1, 7, none⟩ rfl (.string x.fTags) (g1_w1.out.cell 7) _ Try.underlying9 rfl ?_)
                          | ((with_reducible refine at_dst (N := 36) rfl ?_); refine ev_ld rfl 9 _ rfl ⟨g1, 8, none⟩ rfl (.string x.fAppVersion) (g1_w1.out.cell 8) _ Try.underlying9 rfl ?_)
                          | ((with_reducible refine at_dst (N := 40) rfl ?_); refine ev_ld rfl 9 _ rfl ⟨g1, 9, none⟩ rfl (.string x.fKubeVersion) (g1_w1.out.cell 9) _ Try.underlying9 rfl ?_)
                          | ((with_reducible refine at_dst (N := 44) rfl ?_); refine ev_ld rfl 9 _ rfl ⟨g1, 10, none⟩ rfl (.string x.fType) (g1_w1.out.cell 10) _ Try.underlying9 rfl ?_))
                        go_ret
                        exact HQ.out _ _ ⟨ret_bool (by simp only [fits37, P0.out, P1.out, P2.out, P3.out, P4.out, P5.out, P6.out, P7.out, P8.out, P9.out, P10.out, Bool.and_self, Bool.and_false, Bool.false_and]), B_w1.out⟩
                      · have P10 : Hid (decide (x.fType.size ≤ 2147483647) = true) := by show _ = _; simp; omega
                        cases hc12 : (fits3 x.fSources)
                        · have P11 := Lib.hid hc12
                          go_wp2_with (first
                            | ((with_reducible refine at_dst (N := 1) rfl ?_); refine ev_box rfl 26 _ rfl _ rfl ?_; intro g1 w1 hg hB hb
                               have low_g1 := Nat.le_trans (Nat.le_refl _) hg
                               have B_w1 := Lib.hid (below_trans (Below.refl _ _) hb)
                               have g1_w1 : Hid (Blk w1 g1 26 (zq13 x)) := hB
                               clear hB hb)
                            | ((with_reducible refine at_dst (N := 4) rfl ?_); refine ev_ld rfl 9 _ rfl ⟨g1, 0, none⟩ rfl (.string x.fName) (g1_w1.out.cell 0) _ Try.underlying9 rfl ?_)
                            | ((with_reducible refine at_dst (N := 8) rfl ?_); refine ev_ld rfl 9 _ rfl ⟨g1, 1, none⟩ rfl (.string x.fHome) (g1_w1.out.cell 1) _ Try.underlying9 rfl ?_)
                            | ((with_reducible refine at_dst (N := 12) rfl ?_); refine ev_ld rfl 9 _ rfl ⟨g1, 2, none⟩ rfl (.string x.fVersion) (g1_w1.out.cell 2) _ Try.underlying9 rfl ?_)
                            | ((with_reducible refine at_dst (N := 16) rfl ?_); refine ev_ld rfl 9 _ rfl ⟨g1, 3, none⟩ rfl (.string x.fDescription) (g1_w1.out.cell 3) _ Try.underlying9 rfl ?_)
                            | ((with_reducible refine at_dst (N := 20) rfl ?_); refine ev_ld rfl 9 _ rfl ⟨g1, 4, none⟩ rfl (.string x.fIcon) (g1_w1.out.cell 4) _ Try.underlying9 rfl ?_)
                            | ((with_reducible refine at_dst (N := 24) rfl ?_); refine ev_ld rfl 9 _ rfl ⟨g1, 5, none⟩ rfl (.string x.fAPIVersion) (g1_w1.out.cell 5) _ Try.underlying9 rfl ?_)
                            | ((with_reducible refine at_dst (N := 28) rfl ?_); refine ev_ld rfl 9 _ rfl ⟨g1, 6, none⟩ rfl (.string x.fCondition) (g1_w1.out.cell 6) _ Try.underlying9 rfl ?_)
                            | ((with_reducible refine at_dst (N := 32) rfl ?_); refine ev_ld rfl 9 _ rfl ⟨g1, 7, none⟩ rfl (.string x.fTags) (g1_w1.out.cell 7) _ Try.underlying9 rfl ?_)
                            | ((with_reducible refine at_dst (N := 36) rfl ?_); refine ev_ld rfl 9 _ rfl ⟨g1, 8, none⟩ rfl (.string x.fAppVersion) (g1_w1.out.cell 8) _ Try.underlying9 rfl ?_)
                            | ((with_reducible refine at_dst (N := 40) rfl ?_); refine ev_ld rfl 9 _ rfl ⟨g1, 9, none⟩ rfl (.string x.fKubeVersion) (g1_w1.out.cell 9) _ Try.underlying9 rfl ?_)
                            | ((with_reducible refine at_dst (N := 44) rfl ?_); refine ev_ld rfl 9 _ rfl ⟨g1, 10, none⟩ rfl (.string x.fType) (g1_w1.out.cell 10) _ Try.underlying9 rfl ?_)
                            | ((with_reducible refine at_dst (N := 48) rfl ?_); refine ev_ld rfl 22 _ rfl ⟨g1, 11, none⟩ rfl (.slice x.fSources_a x.fSources.length x.fSources_c) (g1_w1.out.cell 11) _ Try.underlying22 rfl ?_)
                            | (go_at_call 27; (with_reducible refine (zzFits3_any x.fSources_a x.fSources_c x.fSources _ (H0_Sources.out.below B_w1.out)).mono ?_); rintro e wq ⟨rfl, rfl⟩; rw [hc12]))
                          go_ret
                          exact HQ.out _ _ ⟨ret_bool (by simp only [fits37, P0.out, P1.out, P2.out, P3.out, P4.out, P5.out, P6.out, P7.out, P8.out, P9.out, P10.out, P11.out, Bool.and_self, Bool.and_false, Bool.false_and]), B_w1.out⟩
                        · have P11 := Lib.hid hc12
                          cases hc13 : (fits3 x.fKeywords)
                          · have P12 := Lib.hid hc13
                            go_wp2_with (first
                              | ((with_reducible refine at_dst (N := 1) rfl ?_); refine ev_box rfl 26 _ rfl _ rfl ?_; intro g1 w1 hg hB hb
                                 have low_g1 := Nat.le_trans (Nat.le_refl _) hg
                                 have B_w1 := Lib.hid (below_trans (Below.refl _ _) hb)
                                 have g1_w1 : Hid (Blk w1 g1 26 (zq13 x)) := hB
                                 clear hB hb)
                              | ((with_reducible refine at_dst (N := 4) rfl ?_); refine ev_ld rfl 9 _ rfl ⟨g1, 0, none⟩ rfl (.string x.fName) (g1_w1.out.cell 0) _ Try.underlying9 rfl ?_)
                              | ((with_reducible refine at_dst (N := 8) rfl ?_); refine ev_ld rfl 9 _ rfl ⟨g1, 1, none⟩ rfl (.string x.fHome) (g1_w1.out.cell 1) _ Try.underlying9 rfl ?_)
                              | ((with_reducible refine at_dst (N := 12) rfl ?_); refine ev_ld rfl 9 _ rfl ⟨g1, 2, none⟩ rfl (.string x.fVersion) (g1_w1.out.cell 2) _ Try.underlying9 rfl ?_)
                              | ((with_reducible refine at_dst (N := 16) rfl ?_); refine ev_ld rfl 9 _ rfl ⟨g1, 3, none⟩ rfl (.string x.fDescription) (g1_w1.out.cell 3) _ Try.underlying9 rfl ?_)
                              | ((with_reducible refine at_dst (N := 20) rfl ?_); refine ev_ld rfl 9 _ rfl ⟨g1, 4, none⟩ rfl (.string x.fIcon) (g1_w1.out.cell 4) _ Try.underlying9 rfl ?_)
                              | ((with_reducible refine at_dst (N := 24) rfl ?_); refine ev_ld rfl 9 _ rfl ⟨g1, 5, none⟩ rfl (.string x.fAPIVersion) (g1_w1.out.cell 5) _ Try.underlying9 rfl ?_)
                              | ((with_reducible refine at_dst (N := 28) rfl ?_); refine ev_ld rfl 9 _ rfl ⟨g1, 6, none⟩ rfl (.string x.fCondition) (g1_w1.out.cell 6) _ Try.underlying9 rfl ?_)
                              | ((with_reducible refine at_dst (N := 32) rfl ?_); refine ev_ld rfl 9 _ rfl ⟨g1, 7, none⟩ rfl (.string x.fTags) (g1_w1.out.cell 7) _ Try.underlying9 rfl ?_)
                              | ((with_reducible refine at_dst (N := 36) rfl ?_); refine ev_ld rfl 9 _ rfl ⟨g1, 8, none⟩ rfl (.string x.fAppVersion) (g1_w1.out.cell 8) _ Try.underlying9 rfl ?_)
                              | ((with_reducible refine at_dst (N := 40) rfl ?_); refine ev_ld rfl 9 _ rfl ⟨g1, 9, none⟩ rfl (.string x.fKubeVersion) (g1_w1.out.cell 9) _ Try.underlying9 rfl ?_)
                              | ((with_reducible refine at_dst (N := 44) rfl ?_); refine ev_ld rfl 9 _ rfl ⟨g1, 10, none⟩ rfl (.string x.fType) (g1_w1.out.cell 10) _ Try.underlying9 rfl ?_)
                              | ((with_reducible refine at_dst (N := 48) rfl ?_); refine ev_ld rfl 22 _ rfl ⟨g1, 11, none⟩ rfl (.slice x.fSources_a x.fSources.length x.fSources_c) (g1_w1.out.cell 11) _ Try.underlying22 rfl ?_)
                              | (go_at_call 27; (with_reducible refine (zzFits3_any x.fSources_a x.fSources_c x.fSources _ (H0_Sources.out.below B_w1.out)).mono ?_); rintro e wq ⟨rfl, rfl⟩; rw [hc12])
                              | ((with_reducible refine at_dst (N := 52) rfl ?_); refine ev_ld rfl 22 _ rfl ⟨g1, 12, none⟩ rfl (.slice x.fKeywords_a x.fKeywords.length x.fKeywords_c) (g1_w1.out.cell 12) _ Try.underlying22 rfl ?_)
                              | (go_at_call 27; (with_reducible refine (zzFits3_any x.fKeywords_a x.fKeywords_c x.fKeywords _ (H0_Keywords.out.below B_w1.out)).mono ?_); rintro e wq ⟨rfl, rfl⟩; rw [hc13]))
                            go_ret
                            exact HQ.out _ _ ⟨ret_bool (by simp only [fits37, P0.out, P1.out, P2.out, P3.out, P4.out, P5.out, P6.out, P7.out, P8.out, P9.out, P10.out, P11.out, P12.out, Bool.and_self, Bool.and_false, Bool.false_and]), B_w1.out⟩
                          · have P12 := Lib.hid hc13
                            cases hc14 : (fits89 x.fMaintainers)
                            · have P13 := Lib.hid hc14
                              go_wp2_with (first
                                | ((with_reducible refine at_dst (N := 1) rfl ?_); refine ev_box rfl 26 _ rfl _ rfl ?_; intro g1 w1 hg hB hb
                                   have low_g1 := Nat.le_trans (Nat.le_refl _) hg
                                   have B_w1 := Lib.hid (below_trans (Below.refl _ _) hb)
                                   have g1_w1 : Hid (Blk w1 g1 26 (zq13 x)) := hB
                                   clear hB hb)
                                | ((with_reducible refine at_dst (N := 4) rfl ?_); refine ev_ld rfl 9 _ rfl ⟨g1, 0, none⟩ rfl (.string x.fName) (g1_w1.out.cell 0) _ Try.underlying9 rfl ?_)
                                | ((with_reducible refine at_dst (N := 8) rfl ?_); refine ev_ld rfl 9 _ rfl ⟨g1, 1, none⟩ rfl (.string x.fHome) (g1_w1.out.cell 1) _ Try.underlying9 rfl ?_)
                                | ((with_reducible refine at_dst (N := 12) rfl ?_); refine ev_ld rfl 9 _ rfl ⟨g1, 2, none⟩ rfl (.string x.fVersion) (g1_w1.out.cell 2) _ Try.underlying9 rfl ?_)
                                | ((with_reducible refine at_dst (N := 16) rfl ?_); refine ev_ld rfl 9 _ rfl ⟨g1, 3, none⟩ rfl (.string x.fDescription) (g1_w1.out.cell 3) _ Try.underlying9 rfl ?_)
                                | ((with_reducible refine at_dst (N := 20) rfl ?_); refine ev_ld rfl 9 _ rfl ⟨g1, 4, none⟩ rfl (.string x.fIcon) (g1_w1.out.cell 4) _ Try.underlying9 rfl ?_)
                                | ((with_reducible refine at_dst (N := 24) rfl ?_); refine ev_ld rfl 9 _ rfl ⟨g1, 5, none⟩ rfl (.string x.fAPIVersion) (g1_w1.out.cell 5) _ Try.underlying9 rfl ?_)
                                | ((with_reducible refine at_dst (N := 28) rfl ?_); refine ev_ld rfl 9 _ rfl ⟨g1, 6, none⟩ rfl (.string x.fCondition) (g1_w1.out.cell 6) _ Try.underlying9 rfl ?_)
                                | ((with_reducible refine at_dst (N := 32) rfl ?_); refine ev_ld rfl 9 _ rfl ⟨g1, 7, none⟩ rfl (.string x.fTags) (g1_w1.out.cell 7) _ Try.underlying9 rfl ?_)
                                | ((with_reducible refine at_dst (N := 36) rfl ?_); refine ev_ld rfl 9 _ rfl ⟨g1, 8, none⟩ rfl (.string x.fAppVersion) (g1_w1.out.cell 8) _ Try.underlying9 rfl ?_)
                                | ((with_reducible refine at_dst (N := 40) rfl ?_); refine ev_ld rfl 9 _ rfl ⟨g1, 9, none⟩ rfl (.string x.fKubeVersion) (g1_w1.out.cell 9) _ Try.underlying9 rfl ?_)
                                | ((with_reducible refine at_dst (N := 44) rfl ?_); refine ev_ld rfl 9 _ rfl ⟨g1, 10, none⟩ rfl (.string x.fType) (g1_w1.out.cell 10) _ Try.underlying9 rfl ?_)
                                | ((with_reducible refine at_dst (N := 48) rfl ?_); refine ev_ld rfl 22 _ rfl ⟨g1, 11, none⟩ rfl (.slice x.fSources_a x.fSources.length x.fSources_c) (g1_w1.out.cell 11) _ Try.underlying22 rfl ?_)
                                | (go_at_call 27; (with_reducible refine (zzFits3_any x.fSources_a x.fSources_c x.fSources _ (H0_Sources.out.below B_w1.out)).mono ?_); rintro e wq ⟨rfl, rfl⟩; rw [hc12])
                                | ((with_reducible refine at_dst (N := 52) rfl ?_); refine ev_ld rfl 22 _ rfl ⟨g1, 12, none⟩ rfl (.slice x.fKeywords_a x.fKeywords.length x.fKeywords_c) (g1_w1.out.cell 12) _ Try.underlying22 rfl ?_)
                                | (go_at_call 27; (with_reducible refine (zzFits3_any x.fKeywords_a x.fKeywords_c x.fKeywords _ (H0_Keywords.out.below B_w1.out)).mono ?_); rintro e wq ⟨rfl, rfl⟩; rw [hc13])
                                | ((with_reducible refine at_dst (N := 56) rfl ?_); refine ev_ld rfl 23 _ rfl ⟨g1, 13, none⟩ rfl (.slice x.fMaintainers_a x.fMaintainers.length x.fMaintainers_c) (g1_w1.out.cell 13) _ Try.underlying23 rfl ?_)
                                | (go_at_call 89; (with_reducible refine (fits89_any x.fMaintainers_a x.fMaintainers_c x.fMaintainers _ (H0_Maintainers.out.below B_w1.out) (Ty78.oks.below H0_Maintainerso.out B_w1.out)).mono ?_); rintro e w2 ⟨rfl, hb⟩; rw [hc14]
                                   have g1_w2 := Lib.hid (g1_w1.out.below hb)
                                   have B_w2 := Lib.hid (below_trans B_w1.out hb)
                                   clear hb))
                              go_ret
                              exact HQ.out _ _ ⟨ret_bool (by simp only [fits37, P0.out, P1.out, P2.out, P3.out, P4.out, P5.out, P6.out, P7.out, P8.out, P9.out, P10.out, P11.out, P12.out, P13.out, Bool.and_self, Bool.and_false, Bool.false_and]), B_w2.out⟩
                            · have P13 := Lib.hid hc14
                              cases hc15 : (fits90 x.fDependencies)
                              · have P14 := Lib.hid hc15
                                go_wp2_with (first
                                  | ((with_reducible refine at_dst (N := 1) rfl ?_); refine ev_box rfl 26 _ rfl _ rfl ?_; intro g1 w1 hg hB hb
                                     have low_g1 := Nat.le_trans (Nat.le_refl _) hg
                                     have B_w1 := Lib.hid (below_trans (Below.refl _ _) hb)
                                     have g1_w1 : Hid (Blk w1 g1 26 (zq13 x)) := hB
                                     clear hB hb)
                                  | ((with_reducible refine at_dst (N := 4) rfl ?_); refine ev_ld rfl 9 _ rfl ⟨g1, 0, none⟩ rfl (.string x.fName) (g1_w1.out.cell 0) _ Try.underlying9 rfl ?_)
                                  | ((with_reducible refine at_dst (N := 8) rfl ?_); refine ev_ld rfl 9 _ rfl ⟨g1, 1, none⟩ rfl (.string x.fHome) (g1_w1.out.cell 1) _ Try.underlying9 rfl ?_)
                                  | ((with_reducible refine at_dst (N := 12) rfl ?_); refine ev_ld rfl 9 _ rfl ⟨g1, 2, none⟩ rfl (.string x.fVersion) (g1_w1.out.cell 2) _ Try.underlying9 rfl ?_)
                                  | ((with_reducible refine at_dst (N := 16) rfl ?_); refine ev_ld rfl 9 _ rfl ⟨g1, 3, none⟩ rfl (.string x.fDescription) (g1_w1.out.cell 3) _ Try.underlying9 rfl ?_)
                                  | ((with_reducible refine at_dst (N := 20) rfl ?_); refine ev_ld rfl 9 _ rfl ⟨g1, 4, none⟩ rfl (.string x.fIcon) (g1_w1.out.cell 4) _ Try.underlying9 rfl ?_)
                                  | ((with_reducible refine at_dst (N := 24) rfl ?_); refine ev_ld rfl 9 _ rfl ⟨g1, 5, none⟩ rfl (.string x.fAPIVersion) (g1_w1.out.cell 5) _ Try.underlying9 rfl ?_)
                                  | ((with_reducible refine at_dst (N := 28) rfl ?_); refine ev_ld rfl 9 _ rfl ⟨g1, 6, none⟩ rfl (.string x.fCondition) (g1_w1.out.cell 6) _ Try.underlying9 rfl ?_)
                                  | ((with_reducible refine at_dst (N := 32) rfl ?_); refine ev_ld rfl 9 _ rfl ⟨g1, 7, none⟩ rfl (.string x.fTags) (g1_w1.out.cell 7) _ Try.underlying9 rfl ?_)
                                  | ((with_reducible refine at_dst (N := 36) rfl ?_); refine ev_ld rfl 9 _ rfl ⟨g1, 8, none⟩ rfl (.string x.fAppVersion) (g1_w1.out.cell 8) _ Try.underlying9 rfl ?_)
                                  | ((with_reducible refine at_dst (N := 40) rfl ?_); refine ev_ld rfl 9 _ rfl ⟨g1, 9, none⟩ rfl (.string x.fKubeVersion) (g1_w1.out.cell 9) _ Try.underlying9 rfl ?_)
                                  | ((with_reducible refine at_dst (N := 44) rfl ?_); refine ev_ld rfl 9 _ rfl ⟨g1, 10, none⟩ rfl (.string x.fType) (g1_w1.out.cell 10) _ Try.underlying9 rfl ?_)
                                  | ((with_reducible refine at_dst (N := 48) rfl ?_); refine ev_ld rfl 22 _ rfl ⟨g1, 11, none⟩ rfl (.slice x.fSources_a x.fSources.length x.fSources_c) (g1_w1.out.cell 11) _ Try.underlying22 rfl ?_)
                                  | (go_at_call 27; (with_reducible refine (zzFits3_any x.fSources_a x.fSources_c x.fSources _ (H0_Sources.out.below B_w1.out)).mono ?_); rintro e wq ⟨rfl, rfl⟩; rw [hc12])
                                  | ((with_reducible refine at_dst (N := 52) rfl ?_); refine ev_ld rfl 22 _ rfl ⟨g1, 12, none⟩ rfl (.slice x.fKeywords_a x.fKeywords.length x.fKeywords_c) (g1_w1.out.cell 12) _ Try.underlying22 rfl ?_)
                                  | (go_at_call 27; (with_reducible refine (zzFits3_any x.fKeywords_a x.fKeywords_c x.fKeywords _ (H0_Keywords.out.below B_w1.out)).mono ?_); rintro e wq ⟨rfl, rfl⟩; rw [hc13])
                                  | ((with_reducible refine at_dst (N := 56) rfl ?_); refine ev_ld rfl 23 _ rfl ⟨g1, 13, none⟩ rfl (.slice x.fMaintainers_a x.fMaintainers.length x.fMaintainers_c) (g1_w1.out.cell 13) _ Try.underlying23 rfl ?_)
                                  | (go_at_call 89; (with_reducible refine (fits89_any x.fMaintainers_a x.fMaintainers_c x.fMaintainers _ (H0_Maintainers.out.below B_w1.out) (Ty78.oks.below H0_Maintainerso.out B_w1.out)).mono ?_); rintro e w2 ⟨rfl, hb⟩; rw [hc14]
                                     have g1_w2 := Lib.hid (g1_w1.out.below hb)
                                     have B_w2 := Lib.hid (below_trans B_w1.out hb)
                                     clear hb)
                                  | ((with_reducible refine at_dst (N := 60) rfl ?_); refine ev_ld rfl 24 _ rfl ⟨g1, 14, none⟩ rfl (.slice x.fDependencies_a x.fDependencies.length x.fDependencies_c) (g1_w2.out.cell 14) _ Try.underlying24 rfl ?_)
                                  | (go_at_call 90; (with_reducible refine (fits90_any x.fDependencies_a x.fDependencies_c x.fDependencies _ (H0_Dependencies.out.below B_w2.out) (Ty80.oks.below H0_Dependencieso.out B_w2.out)).mono ?_); rintro e w3 ⟨rfl, hb⟩; rw [hc15]
                                     have g1_w3 := Lib.hid (g1_w2.out.below hb)
                                     have B_w3 := Lib.hid (below_trans B_w2.out hb)
                                     clear hb))
                                go_ret
                                exact HQ.out _ _ ⟨ret_bool (by simp only [fits37, P0.out, P1.out, P2.out, P3.out, P4.out, P5.out, P6.out, P7.out, P8.out, P9.out, P10.out, P11.out, P12.out, P13.out, P14.out, Bool.and_self, Bool.and_false, Bool.false_and]), B_w3.out⟩
                              · have P14 := Lib.hid hc15
                                go_wp2_with (first
                                  | ((with_reducible refine at_dst (N := 1) rfl ?_); refine ev_box rfl 26 _ rfl _ rfl ?_; intro g1 w1 hg hB hb
                                     have low_g1 := Nat.le_trans (Nat.le_refl _) hg
                                     have B_w1 := Lib.hid (below_trans (Below.refl _ _) hb)
                                     have g1_w1 : Hid (Blk w1 g1 26 (zq13 x)) := hB
                                     clear hB hb)
                                  | ((with_reducible refine at_dst (N := 4) rfl ?_); refine ev_ld rfl 9 _ rfl ⟨g1, 0, none⟩ rfl (.string x.fName) (g1_w1.out.cell 0) _ Try.underlying9 rfl ?_)
                                  | ((with_reducible refine at_dst (N := 8) rfl ?_); refine ev_ld rfl 9 _ rfl ⟨g1, 1, none⟩ rfl (.string x.fHome) (g1_w1.out.cell 1) _ Try.underlying9 rfl ?_)
                                  | ((with_reducible refine at_dst (N := 12) rfl ?_); refine ev_ld rfl 9 _ rfl ⟨g1, 2, none⟩ rfl (.string x.fVersion) (g1_w1.out.cell 2) _ Try.underlying9 rfl ?_)
                                  | ((with_reducible refine at_dst (N := 16) rfl ?_); refine ev_ld rfl 9 _ rfl ⟨g1, 3, none⟩ rfl (.string x.fDescription) (g1_w1.out.cell 3) _ Try.underlying9 rfl ?_)
                                  | ((with_reducible refine at_dst (N := 20) rfl ?_); refine ev_ld rfl 9 _ rfl ⟨g1, 4, none⟩ rfl (.string x.fIcon) (g1_w1.out.cell 4) _ Try.underlying9 rfl ?_)
                                  | ((with_reducible refine at_dst (N := 24) rfl ?_); refine ev_ld rfl 9 _ rfl ⟨g1, 5, none⟩ rfl (.string x.fAPIVersion) (g1_w1.out.cell 5) _ Try.underlying9 rfl ?_)
                                  | ((with_reducible refine at_dst (N := 28) rfl ?_); refine ev_ld rfl 9 _ rfl ⟨g1, 6, none⟩ rfl (.string x.fCondition) (g1_w1.out.cell 6) _ Try.underlying9 rfl ?_)
                                  | ((with_reducible refine at_dst (N := 32) rfl ?_); refine ev_ld rfl 9 _ rfl ⟨g1, 7, none⟩ rfl (.string x.fTags) (g1_w1.out.cell 7) _ Try.underlying9 rfl ?_)
                                  | ((with_reducible refine at_dst (N := 36) rfl ?_); refine ev_ld rfl 9 _ rfl ⟨g1, 8, none⟩ rfl (.string x.fAppVersion) (g1_w1.out.cell 8) _ Try.underlying9 rfl ?_)
                                  | ((with_reducible refine at_dst (N := 40) rfl ?_); refine ev_ld rfl 9 _ rfl ⟨g1, 9, none⟩ rfl (.string x.fKubeVersion) (g1_w1.out.cell 9) _ Try.underlying9 rfl ?_)
                                  | ((with_reducible refine at_dst (N := 44) rfl ?_); refine ev_ld rfl 9 _ rfl ⟨g1, 10, none⟩ rfl (.string x.fType) (g1_w1.out.cell 10) _ Try.underlying9 rfl ?_)
                                  | ((with_reducible refine at_dst (N := 48) rfl ?_); refine ev_ld rfl 22 _ rfl ⟨g1, 11, none⟩ rfl (.slice x.fSources_a x.fSources.length x.fSources_c) (g1_w1.out.cell 11) _ Try.underlying22 rfl ?_)
                                  | (go_at_call 27; (with_reducible refine (zzFits3_any x.fSources_a x.fSources_c x.fSources _ (H0_Sources.out.below B_w1.out)).mono ?_); rintro e wq ⟨rfl, rfl⟩; rw [hc12])
                                  | ((with_reducible refine at_dst (N := 52) rfl ?_); refine ev_ld rfl 22 _ rfl ⟨g1, 12, none⟩ rfl (.slice x.fKeywords_a x.fKeywords.length x.fKeywords_c) (g1_w1.out.cell 12) _ Try.underlying22 rfl ?_)
                                  | (go_at_call 27; (with_reducible refine (zzFits3_any x.fKeywords_a x.fKeywords_c x.fKeywords _ (H0_Keywords.out.below B_w1.out)).mono ?_); rintro e wq ⟨rfl, rfl⟩; rw [hc13])
                                  | ((with_reducible refine at_dst (N := 56) rfl ?_); refine ev_ld rfl 23 _ rfl ⟨g1, 13, none⟩ rfl (.slice x.fMaintainers_a x.fMaintainers.length x.fMaintainers_c) (g1_w1.out.cell 13) _ Try.underlying23 rfl ?_)
                                  | (go_at_call 89; (with_reducible refine (fits89_any x.fMaintainers_a x.fMaintainers_c x.fMaintainers _ (H0_Maintainers.out.below B_w1.out) (Ty78.oks.below H0_Maintainerso.out B_w1.out)).mono ?_); rintro e w2 ⟨rfl, hb⟩; rw [hc14]
                                     have g1_w2 := Lib.hid (g1_w1.out.below hb)
                                     have B_w2 := Lib.hid (below_trans B_w1.out hb)
                                     clear hb)
                                  | ((with_reducible refine at_dst (N := 60) rfl ?_); refine ev_ld rfl 24 _ rfl ⟨g1, 14, none⟩ rfl (.slice x.fDependencies_a x.fDependencies.length x.fDependencies_c) (g1_w2.out.cell 14) _ Try.underlying24 rfl ?_)
                                  | (go_at_call 90; (with_reducible refine (fits90_any x.fDependencies_a x.fDependencies_c x.fDependencies _ (H0_Dependencies.out.below B_w2.out) (Ty80.oks.below H0_Dependencieso.out B_w2.out)).mono ?_); rintro e w3 ⟨rfl, hb⟩; rw [hc15]
                                     have g1_w3 := Lib.hid (g1_w2.out.below hb)
                                     have B_w3 := Lib.hid (below_trans B_w2.out hb)
                                     clear hb))
                                go_ret
                                exact HQ.out _ _ ⟨ret_bool (by simp only [fits37, P0.out, P1.out, P2.out, P3.out, P4.out, P5.out, P6.out, P7.out, P8.out, P9.out, P10.out, P11.out, P12.out, P13.out, P14.out, Bool.and_self, Bool.and_false, Bool.false_and]), B_w3.out⟩
def fits81 (x : Ty69) : Bool := (fits37 x.fMeta) && (fits3 x.fURLs) && decide (x.fDigest.size ≤ 2147483647)
abbrev zq14 (x0 : Ty69) : Array Value := #[.bool x0.fNil, .bool x0.fBare, .string x0.fMeta.fName, .string x0.fMeta.fHome, .string x0.fMeta.fVersion, .string x0.fMeta.fDescription, .string x0.fMeta.fIcon, .string x0.fMeta.fAPIVersion, .string x0.fMeta.fCondition, .string x0.fMeta.fTags, .string x0.fMeta.fAppVersion, .string x0.fMeta.fKubeVersion, .string x0.fMeta.fType, .slice x0.fMeta.fSources_a x0.fMeta.fSources.length x0.fMeta.fSources_c, .slice x0.fMeta.fKeywords_a x0.fMeta.fKeywords.length x0.fMeta.fKeywords_c, .slice x0.fMeta.fMaintainers_a x0.fMeta.fMaintainers.length x0.fMeta.fMaintainers_c, .slice x0.fMeta.fDependencies_a x0.fMeta.fDependencies.length x0.fMeta.fDependencies_c, .slice x0.fURLs_a x0.fURLs.length x0.fURLs_c, .string x0.fDigest]
abbrev zq15 (x0 : Ty69) : Array Value := #[.string x0.fMeta.fName, .string x0.fMeta.fHome, .string x0.fMeta.fVersion, .string x0.fMeta.fDescription, .string x0.fMeta.fIcon, .string x0.fMeta.fAPIVersion, .string x0.fMeta.fCondition, .string x0.fMeta.fTags, .string x0.fMeta.fAppVersion, .string x0.fMeta.fKubeVersion, .string x0.fMeta.fType, .slice x0.fMeta.fSources_a x0.fMeta.fSources.length x0.fMeta.fSources_c, .slice x0.fMeta.fKeywords_a x0.fMeta.fKeywords.length x0.fMeta.fKeywords_c, .slice x0.fMeta.fMaintainers_a x0.fMeta.fMaintainers.length x0.fMeta.fMaintainers_c, .slice x0.fMeta.fDependencies_a x0.fMeta.fDependencies.length x0.fMeta.fDependencies_c]
set_option maxRecDepth 100000 in
set_option maxHeartbeats 4000000 in
theorem fits81_any (x : Ty69) (w : World) (h0 : Ty69.ok x w)  :
    Calls Try.prog 81 #[.agg #[.bool x.fNil, .bool x.fBare, .string x.fMeta.fName, .string x.fMeta.fHome, .string x.fMeta.fVersion, .string x.fMeta.fDescription, .string x.fMeta.fIcon, .string x.fMeta.fAPIVersion, .string x.fMeta.fCondition, .string x.fMeta.fTags, .string x.fMeta.fAppVersion, .string x.fMeta.fKubeVersion, .string x.fMeta.fType, .slice x.fMeta.fSources_a x.fMeta.fSources.length x.fMeta.fSources_c, .slice x.fMeta.fKeywords_a x.fMeta.fKeywords.length x.fMeta.fKeywords_c, .slice x.fMeta.fMaintainers_a x.fMeta.fMaintainers.length x.fMeta.fMaintainers_c, .slice x.fMeta.fDependencies_a x.fMeta.fDependencies.length x.fMeta.fDependencies_c, .slice x.fURLs_a x.fURLs.length x.fURLs_c, .string x.fDigest]] w fun e w' => e = .returned (.bool (fits81 x)) ∧ Below w.heap.size w w' := by
  have H0 := Lib.hid h0
  clear h0
  have H0_Meta := Lib.hid (Ty69.ok_Meta H0.out)
  have H0_Meta_Sources := Lib.hid (Ty26.ok_sSources H0_Meta.out)
  have H0_Meta_Keywords := Lib.hid (Ty26.ok_sKeywords H0_Meta.out)
  have H0_Meta_Maintainers := Lib.hid (Ty26.ok_rMaintainers H0_Meta.out)
  have H0_Meta_Maintainerso := Lib.hid (Ty26.ok_oMaintainers H0_Meta.out)
  have H0_Meta_Dependencies := Lib.hid (Ty26.ok_rDependencies H0_Meta.out)
  have H0_Meta_Dependencieso := Lib.hid (Ty26.ok_oDependencies H0_Meta.out)
  have H0_URLs := Lib.hid (Ty69.ok_sURLs H0.out)
  suffices hQ : ∀ Q : Ending → World → Prop, Hid (∀ (e : Ending) (w' : World), (e = .returned (.bool (fits81 x)) ∧ Below w.heap.size w w') → Post1 Q e w') → Calls Try.prog 81 #[.agg (zq14 x)] w (fun e w' => Post1 Q e w') from hQ (fun e w' => e = .returned (.bool (fits81 x)) ∧ Below w.heap.size w w') (fun _ _ h => by unfold Post1; exact h)
  intro Q HQ
  go_enter Try.func81, Try.ntmps81
  cases hc1 : (fits37 x.fMeta)
  · have P0 := Lib.hid hc1
    go_wp2_with (first
      | ((with_reducible refine at_dst (N := 1) rfl ?_); refine ev_box rfl 69 _ rfl _ rfl ?_; intro g1 w1 hg hB hb
         have low_g1 := Nat.le_trans (Nat.le_refl _) hg
         have B_w1 := Lib.hid (below_trans (Below.refl _ _) hb)
         have g1_w1 : Hid (Blk w1 g1 69 (zq14 x)) := hB
         clear hB hb)
      | ((with_reducible refine at_dst (N := 4) rfl ?_); refine ev_ldm rfl 26 _ rfl g1 2 rfl 69 _ g1_w1.out 15 (by simp) _ Try.underlying26 rfl tsz26 (.agg (zq15 x)) rfl ?_)
      | (go_at_call 37; (with_reducible refine (fits37_any x.fMeta _ (Ty26.ok.below H0_Meta.out B_w1.out)).mono ?_); rintro e w2 ⟨rfl, hb⟩; rw [hc1]
         have g1_w2 := Lib.hid (g1_w1.out.below hb)
         have B_w2 := Lib.hid (below_trans B_w1.out hb)
         clear hb))
    go_ret
    exact HQ.out _ _ ⟨ret_bool (by simp only [fits81, P0.out, Bool.and_self, Bool.and_false, Bool.false_and]), B_w2.out⟩
  · have P0 := Lib.hid hc1
    cases hc2 : (fits3 x.fURLs)
    · have P1 := Lib.hid hc2
      go_wp2_with (first
        | ((with_reducible refine at_dst (N := 1) rfl ?_); refine ev_box rfl 69 _ rfl _ rfl ?_; intro g1 w1 hg hB hb
           have low_g1 := Nat.le_trans (Nat.le_refl _) hg
           have B_w1 := Lib.hid (below_trans (Below.refl _ _) hb)
           have g1_w1 : Hid (Blk w1 g1 69 (zq14 x)) := hB
           clear hB hb)
        | ((with_reducible refine at_dst (N := 4) rfl ?_); refine ev_ldm rfl 26 _ rfl g1 2 rfl 69 _ g1_w1.out 15 (by simp) _ Try.underlying26 rfl tsz26 (.agg (zq15 x)) rfl ?_)
        | (go_at_call 37; (with_reducible refine (fits37_any x.fMeta _ (Ty26.ok.below H0_Meta.out B_w1.out)).mono ?_); rintro e w2 ⟨rfl, hb⟩; rw [hc1]
           have g1_w2 := Lib.hid (g1_w1.out.below hb)
           have B_w2 := Lib.hid (below_trans B_w1.out hb)
           clear hb)
        | ((with_reducible refine at_dst (N := 8) rfl ?_); refine ev_ld rfl 22 _ rfl ⟨g1, 17, none⟩ rfl (.slice x.fURLs_a x.fURLs.length x.fURLs_c) (g1_w2.out.cell 17) _ Try.underlying22 rfl ?_)
        | (go_at_call 27; (with_reducible refine (zzFits3_any x.fURLs_a x.fURLs_c x.fURLs _ (H0_URLs.out.below B_w2.out)).mono ?_); rintro e wq ⟨rfl, rfl⟩; rw [hc2]))
      go_ret
      exact HQ.out _ _ ⟨ret_bool (by simp only [fits81, P0.out, P1.out, Bool.and_self, Bool.and_false, Bool.false_and]), B_w2.out⟩
    · have P1 := Lib.hid hc2
      by_cases hc3 : (2147483647 : Int) < ↑x.fDigest.size
      · have P2 : Hid (decide (x.fDigest.size ≤ 2147483647) = false) := by show _ = _; simp; omega
        go_wp2_with (first
          | ((with_reducible refine at_dst (N := 1) rfl ?_); refine ev_box rfl 69 _ rfl _ rfl ?_; intro g1 w1 hg hB hb
             have low_g1 := Nat.le_trans (Nat.le_refl _) hg
             have B_w1 := Lib.hid (below_trans (Below.refl _ _) hb)
             have g1_w1 : Hid (Blk w1 g1 69 (zq14 x)) := hB
             clear hB hb)
          | ((with_reducible refine at_dst (N := 4) rfl ?_); refine ev_ldm rfl 26 _ rfl g1 2 rfl 69 _ g1_w1.out 15 (by simp) _ Try.underlying26 rfl tsz26 (.agg (zq15 x)) rfl ?_)
          | (go_at_call 37; (with_reducible refine (fits37_any x.fMeta _ (Ty26.ok.below H0_Meta.out B_w1.out)).mono ?_); rintro e w2 ⟨rfl, hb⟩; rw [hc1]
             have g1_w2 := Lib.hid (g1_w1.out.below hb)
             have B_w2 := Lib.hid (below_trans B_w1.out hb)
             clear hb)
          | ((with_reducible refine at_dst (N := 8) rfl ?_); refine ev_ld rfl 22 _ rfl ⟨g1, 17, none⟩ rfl (.slice x.fURLs_a x.fURLs.length x.fURLs_c) (g1_w2.out.cell 17) _ Try.underlying22 rfl ?_)
          | (go_at_call 27; (with_reducible refine (zzFits3_any x.fURLs_a x.fURLs_c x.fURLs _ (H0_URLs.out.below B_w2.out)).mono ?_); rintro e wq ⟨rfl, rfl⟩; rw [hc2])
          | ((with_reducible refine at_dst (N := 12) rfl ?_); refine ev_ld rfl 9 _ rfl ⟨g1, 18, none⟩ rfl (.string x.fDigest) (g1_w2.out.cell 18) _ Try.underlying9 rfl ?_))
        go_ret
        exact HQ.out _ _ ⟨ret_bool (by simp only [fits81, P0.out, P1.out, P2.out, Bool.and_self, Bool.and_false, Bool.false_and]), B_w2.out⟩
      · have P2 : Hid (decide (x.fDigest.size ≤ 2147483647) = true) := by show _ = _; simp; omega
        go_wp2_with (first
          | ((with_reducible refine at_dst (N := 1) rfl ?_); refine ev_box rfl 69 _ rfl _ rfl ?_; intro g1 w1 hg hB hb
             have low_g1 := Nat.le_trans (Nat.le_refl _) hg
             have B_w1 := Lib.hid (below_trans (Below.refl _ _) hb)
             have g1_w1 : Hid (Blk w1 g1 69 (zq14 x)) := hB
             clear hB hb)
          | ((with_reducible refine at_dst (N := 4) rfl ?_); refine ev_ldm rfl 26 _ rfl g1 2 rfl 69 _ g1_w1.out 15 (by simp) _ Try.underlying26 rfl tsz26 (.agg (zq15 x)) rfl ?_)
          | (go_at_call 37; (with_reducible refine (fits37_any x.fMeta _ (Ty26.ok.below H0_Meta.out B_w1.out)).mono ?_); rintro e w2 ⟨rfl, hb⟩; rw [hc1]
             have g1_w2 := Lib.hid (g1_w1.out.below hb)
             have B_w2 := Lib.hid (below_trans B_w1.out hb)
             clear hb)
          | ((with_reducible refine at_dst (N := 8) rfl ?_); refine ev_ld rfl 22 _ rfl ⟨g1, 17, none⟩ rfl (.slice x.fURLs_a x.fURLs.length x.fURLs_c) (g1_w2.out.cell 17) _ Try.underlying22 rfl ?_)
          | (go_at_call 27; (with_reducible refine (zzFits3_any x.fURLs_a x.fURLs_c x.fURLs _ (H0_URLs.out.below B_w2.out)).mono ?_); rintro e wq ⟨rfl, rfl⟩; rw [hc2])
          | ((with_reducible refine at_dst (N := 12) rfl ?_); refine ev_ld rfl 9 _ rfl ⟨g1, 18, none⟩ rfl (.string x.fDigest) (g1_w2.out.cell 18) _ Try.underlying9 rfl ?_))
        go_ret
        exact HQ.out _ _ ⟨ret_bool (by simp only [fits81, P0.out, P1.out, P2.out, Bool.and_self, Bool.and_false, Bool.false_and]), B_w2.out⟩
def fits31 (xs : List Ty69) : Bool := decide (xs.length ≤ 2147483647) && xs.all fits81
set_option maxRecDepth 100000 in
set_option maxHeartbeats 4000000 in
theorem fits31_any (A : Option Addr) (c : Nat) (xs : List Ty69) (w : World) (h0 : Rows w (A) 19 (xs.map Ty69.cells)) (h1 : Ty69.oks xs w)  :
    Calls Try.prog 31 #[.slice (A) (xs.length) (c)] w fun e w' => e = .returned (.bool (fits31 xs)) ∧ Below w.heap.size w w' := by
  have hl_xs : xs.length ≤ 9223372036854775807 := by have := h0.1; simpa [strs, ptrs] using this
  have H0 := Lib.hid h0
  clear h0
  have H1 := Lib.hid h1
  clear h1
  suffices hQ : ∀ Q : Ending → World → Prop, Hid (∀ (e : Ending) (w' : World), (e = .returned (.bool (fits31 xs)) ∧ Below w.heap.size w w') → Post1 Q e w') → Calls Try.prog 31 #[.slice (A) (xs.length) (c)] w (fun e w' => Post1 Q e w') from hQ (fun e w' => e = .returned (.bool (fits31 xs)) ∧ Below w.heap.size w w') (fun _ _ h => by unfold Post1; exact h)
  intro Q HQ
  go_enter Try.func31, Try.ntmps31
  by_cases hc1 : (2147483647 : Int) < ↑xs.length
  · go_wp2_with fail
    go_ret
    exact HQ.out _ _ ⟨ret_bool (by have e : decide (xs.length ≤ 2147483647) = false := (by simp; omega); rw [fits31, e, Bool.false_and]), (Below.refl _ _)⟩
  · go_wp2_with fail
    go_loopw [10] (fun v10 wr => ∃ k : Nat, (k ≤ xs.length) ∧ v10 = .int .i64 (↑k) ∧ Hid ((xs.take k).all fits81 = true) ∧ Hid (Below w.heap.size w wr)) (fun v10 _ => xs.length - (intOf v10).toNat)
    case atStart => exact ⟨0, (by omega), rfl, rfl, (Below.refl _ _)⟩
    case round =>
      obtain ⟨k, hk, rfl, L0_all, L0_B⟩ := hrel
      by_cases hlt_k : k < xs.length
      · obtain ⟨ad_k, rfl⟩ := (H0.out.below L0_B.out).addr (by simp [strs, ptrs]; omega)
        have HE := Lib.hid (Ty69.oks.at H1.out hlt_k)
        cases hc2 : (fits81 xs[k])
        · go_wp2_with (first
            | ((with_reducible refine at_dst (N := 13) rfl ?_); refine ev_loadR rfl 69 _ rfl _ rfl [.bool xs[k].fNil, .bool xs[k].fBare, .string xs[k].fMeta.fName, .string xs[k].fMeta.fHome, .string xs[k].fMeta.fVersion, .string xs[k].fMeta.fDescription, .string xs[k].fMeta.fIcon, .string xs[k].fMeta.fAPIVersion, .string xs[k].fMeta.fCondition, .string xs[k].fMeta.fTags, .string xs[k].fMeta.fAppVersion, .string xs[k].fMeta.fKubeVersion, .string xs[k].fMeta.fType, .slice xs[k].fMeta.fSources_a xs[k].fMeta.fSources.length xs[k].fMeta.fSources_c, .slice xs[k].fMeta.fKeywords_a xs[k].fMeta.fKeywords.length xs[k].fMeta.fKeywords_c, .slice xs[k].fMeta.fMaintainers_a xs[k].fMeta.fMaintainers.length xs[k].fMeta.fMaintainers_c, .slice xs[k].fMeta.fDependencies_a xs[k].fMeta.fDependencies.length xs[k].fMeta.fDependencies_c, .slice xs[k].fURLs_a xs[k].fURLs.length xs[k].fURLs_c, .string xs[k].fDigest] ((H0.out.below L0_B.out).el (j := k) (row := xs[k].cells) (by simp [hlt_k])) _ Try.underlying69 rfl tsz69 ?_)
            | ((with_reducible refine at_dst (N := 4) rfl ?_); refine ev_alloc rfl 69 rfl _ _ tz69 ?_; intro g4 w1 hg hB hb
               have low_g4 := Nat.le_trans L0_B.out.size hg
               have B_w1 := Lib.hid (below_trans L0_B.out hb)
               have g4_w1 : Hid (Blk w1 g4 69 #[.bool false, .bool false, .string ⟨#[]⟩, .string ⟨#[]⟩, .string ⟨#[]⟩, .string ⟨#[]⟩, .string ⟨#[]⟩, .string ⟨#[]⟩, .string ⟨#[]⟩, .string ⟨#[]⟩, .string ⟨#[]⟩, .string ⟨#[]⟩, .string ⟨#[]⟩, .slice none 0 0, .slice none 0 0, .slice none 0 0, .slice none 0 0, .slice none 0 0, .string ⟨#[]⟩]) := hB
               clear hB hb)
            | (refine ev_store rfl 69 _ _ rfl g4 _ _ rfl rfl 69 g4_w1.out tsz69 rfl rfl ?_; intro w2 hB hg hz
               have hx := GrX.grown (S := fun k => k = g4) hg rfl
               have B_w2 := Lib.hid (below_grx B_w1.out hx B_w1.out.size (fun k => (fun e => e ▸ low_g4)))
               clear hx
               have g4_w2 : Hid (Blk w2 g4 69 #[.bool xs[k].fNil, .bool xs[k].fBare, .string xs[k].fMeta.fName, .string xs[k].fMeta.fHome, .string xs[k].fMeta.fVersion, .string xs[k].fMeta.fDescription, .string xs[k].fMeta.fIcon, .string xs[k].fMeta.fAPIVersion, .string xs[k].fMeta.fCondition, .string xs[k].fMeta.fTags, .string xs[k].fMeta.fAppVersion, .string xs[k].fMeta.fKubeVersion, .string xs[k].fMeta.fType, .slice xs[k].fMeta.fSources_a xs[k].fMeta.fSources.length xs[k].fMeta.fSources_c, .slice xs[k].fMeta.fKeywords_a xs[k].fMeta.fKeywords.length xs[k].fMeta.fKeywords_c, .slice xs[k].fMeta.fMaintainers_a xs[k].fMeta.fMaintainers.length xs[k].fMeta.fMaintainers_c, .slice xs[k].fMeta.fDependencies_a xs[k].fMeta.fDependencies.length xs[k].fMeta.fDependencies_c, .slice xs[k].fURLs_a xs[k].fURLs.length xs[k].fURLs_c, .string xs[k].fDigest]) := hB
               clear hB hg hz)
            | ((with_reducible refine at_dst (N := 14) rfl ?_); refine ev_loadB rfl 69 _ rfl g4 rfl 69 _ g4_w2.out _ Try.underlying69 rfl tsz69 ?_)
            | (go_at_call 81; (with_reducible refine (fits81_any xs[k] _ (Ty69.ok.below HE.out B_w2.out)).mono ?_); rintro e w3 ⟨rfl, hb⟩; rw [hc2]
               have g4_w3 := Lib.hid (g4_w2.out.below hb)
               have B_w3 := Lib.hid (below_trans B_w2.out hb)
               clear hb))
          go_ret
          exact HQ.out _ _ ⟨ret_bool (by rw [fits31, all_at hlt_k hc2, Bool.and_false]), B_w3.out⟩
        · go_wp2_with (first
            | ((with_reducible refine at_dst (N := 13) rfl ?_); refine ev_loadR rfl 69 _ rfl _ rfl [.bool xs[k].fNil, .bool xs[k].fBare, .string xs[k].fMeta.fName, .string xs[k].fMeta.fHome, .string xs[k].fMeta.fVersion, .string xs[k].fMeta.fDescription, .string xs[k].fMeta.fIcon, .string xs[k].fMeta.fAPIVersion, .string xs[k].fMeta.fCondition, .string xs[k].fMeta.fTags, .string xs[k].fMeta.fAppVersion, .string xs[k].fMeta.fKubeVersion, .string xs[k].fMeta.fType, .slice xs[k].fMeta.fSources_a xs[k].fMeta.fSources.length xs[k].fMeta.fSources_c, .slice xs[k].fMeta.fKeywords_a xs[k].fMeta.fKeywords.length xs[k].fMeta.fKeywords_c, .slice xs[k].fMeta.fMaintainers_a xs[k].fMeta.fMaintainers.length xs[k].fMeta.fMaintainers_c, .slice xs[k].fMeta.fDependencies_a xs[k].fMeta.fDependencies.length xs[k].fMeta.fDependencies_c, .slice xs[k].fURLs_a xs[k].fURLs.length xs[k].fURLs_c, .string xs[k].fDigest] ((H0.out.below L0_B.out).el (j := k) (row := xs[k].cells) (by simp [hlt_k])) _ Try.underlying69 rfl tsz69 ?_)
            | ((with_reducible refine at_dst (N := 4) rfl ?_); refine ev_alloc rfl 69 rfl _ _ tz69 ?_; intro g4 w1 hg hB hb
               have low_g4 := Nat.le_trans L0_B.out.size hg
               have B_w1 := Lib.hid (below_trans L0_B.out hb)
               have g4_w1 : Hid (Blk w1 g4 69 #[.bool false, .bool false, .string ⟨#[]⟩, .string ⟨#[]⟩, .string ⟨#[]⟩, .string ⟨#[]⟩, .string ⟨#[]⟩, .string ⟨#[]⟩, .string ⟨#[]⟩, .string ⟨#[]⟩, .string ⟨#[]⟩, .string ⟨#[]⟩, .string ⟨#[]⟩, .slice none 0 0, .slice none 0 0, .slice none 0 0, .slice none 0 0, .slice none 0 0, .string ⟨#[]⟩]) := hB
               clear hB hb)
            | (refine ev_store rfl 69 _ _ rfl g4 _ _ rfl rfl 69 g4_w1.out tsz69 rfl rfl ?_; intro w2 hB hg hz
               have hx := GrX.grown (S := fun k => k = g4) hg rfl
               have B_w2 := Lib.hid (below_grx B_w1.out hx B_w1.out.size (fun k => (fun e => e ▸ low_g4)))
               clear hx
               have g4_w2 : Hid (Blk w2 g4 69 #[.bool xs[k].fNil, .bool xs[k].fBare, .string xs[k].fMeta.fName, .string xs[k].fMeta.fHome, .string xs[k].fMeta.fVersion, .string xs[k].fMeta.fDescription, .string xs[k].fMeta.fIcon, .string xs[k].fMeta.fAPIVersion, .string xs[k].fMeta.fCondition, .string xs[k].fMeta.fTags, .string xs[k].fMeta.fAppVersion, .string xs[k].fMeta.fKubeVersion, .string xs[k].fMeta.fType, .slice xs[k].fMeta.fSources_a xs[k].fMeta.fSources.length xs[k].fMeta.fSources_c, .slice xs[k].fMeta.fKeywords_a xs[k].fMeta.fKeywords.length xs[k].fMeta.fKeywords_c, .slice xs[k].fMeta.fMaintainers_a xs[k].fMeta.fMaintainers.length xs[k].fMeta.fMaintainers_c, .slice xs[k].fMeta.fDependencies_a xs[k].fMeta.fDependencies.length xs[k].fMeta.fDependencies_c, .slice xs[k].fURLs_a xs[k].fURLs.length xs[k].fURLs_c, .string xs[k].fDigest]) := hB
               clear hB hg hz)
            | ((with_reducible refine at_dst (N := 14) rfl ?_); refine ev_loadB rfl 69 _ rfl g4 rfl 69 _ g4_w2.out _ Try.underlying69 rfl tsz69 ?_)
            | (go_at_call 81; (with_reducible refine (fits81_any xs[k] _ (Ty69.ok.below HE.out B_w2.out)).mono ?_); rintro e w3 ⟨rfl, hb⟩; rw [hc2]
               have g4_w3 := Lib.hid (g4_w2.out.below hb)
               have B_w3 := Lib.hid (below_trans B_w2.out hb)
               clear hb))
          refine ⟨⟨k + 1, (by omega), by go_num, by show _ = _; rw [all_take hlt_k, L0_all.out, hc2]; rfl, B_w3⟩, ?_⟩
          simp [intOf]; omega
      · obtain rfl : k = xs.length := by omega
        rw [List.take_length] at L0_all
        go_wp2_with fail
        go_ret
        exact HQ.out _ _ ⟨ret_bool (by have e : decide (xs.length ≤ 2147483647) = true := (by simp; omega); rw [fits31, e, L0_all.out]; rfl), L0_B.out⟩
def fits102 (x : Ty103) : Bool := decide (x.fName.size ≤ 2147483647) && (fits31 x.fVersions)
abbrev zq16 (x0 : Ty103) : Array Value := #[.string x0.fName, .slice x0.fVersions_a x0.fVersions.length x0.fVersions_c]
set_option maxRecDepth 100000 in
set_option maxHeartbeats 4000000 in
theorem fits102_any (x : Ty103) (w : World) (h0 : Ty103.ok x w)  :
    Calls Try.prog 102 #[.agg #[.string x.fName, .slice x.fVersions_a x.fVersions.length x.fVersions_c]] w fun e w' => e = .returned (.bool (fits102 x)) ∧ Below w.heap.size w w' := by
  have H0 := Lib.hid h0
  clear h0
  have H0_Versions := Lib.hid (Ty103.ok_rVersions H0.out)
  have H0_Versionso := Lib.hid (Ty103.ok_oVersions H0.out)
  suffices hQ : ∀ Q : Ending → World → Prop, Hid (∀ (e : Ending) (w' : World), (e = .returned (.bool (fits102 x)) ∧ Below w.heap.size w w') → Post1 Q e w') → Calls Try.prog 102 #[.agg (zq16 x)] w (fun e w' => Post1 Q e w') from hQ (fun e w' => e = .returned (.bool (fits102 x)) ∧ Below w.heap.size w w') (fun _ _ h => by unfold Post1; exact h)
  intro Q HQ
  go_enter Try.func102, Try.ntmps102
  by_cases hc1 : (2147483647 : Int) < ↑x.fName.size
  · have P0 : Hid (decide (x.fName.size ≤ 2147483647) = false) := by show _ = _; simp; omega
    go_wp2_with (first
      | ((with_reducible refine at_dst (N := 1) rfl ?_); refine ev_box rfl 103 _ rfl _ rfl ?_; intro g1 w1 hg hB hb
         have low_g1 := Nat.le_trans (Nat.le_refl _) hg
         have B_w1 := Lib.hid (below_trans (Below.refl _ _) hb)
         have g1_w1 : Hid (Blk w1 g1 103 (zq16 x)) := hB
         clear hB hb)
      | ((with_reducible refine at_dst (N := 4) rfl ?_); refine ev_ld rfl 9 _ rfl ⟨g1, 0, none⟩ rfl (.string x.fName) (g1_w1.out.cell 0) _ Try.underlying9 rfl ?_))
    go_ret
    exact HQ.out _ _ ⟨ret_bool (by simp only [fits102, P0.out, Bool.and_self, Bool.and_false, Bool.false_and]), B_w1.out⟩
  · have P0 : Hid (decide (x.fName.size ≤ 2147483647) = true) := by show _ = _; simp; omega
    cases hc2 : (fits31 x.fVersions)
    · have P1 := Lib.hid hc2
      go_wp2_with (first
        | ((with_reducible refine at_dst (N := 1) rfl ?_); refine ev_box rfl 103 _ rfl _ rfl ?_; intro g1 w1 hg hB hb
           have low_g1 := Nat.le_trans (Nat.le_refl _) hg
           have B_w1 := Lib.hid (below_trans (Below.refl _ _) hb)
           have g1_w1 : Hid (Blk w1 g1 103 (zq16 x)) := hB
           clear hB hb)
        | ((with_reducible refine at_dst (N := 4) rfl ?_); refine ev_ld rfl 9 _ rfl ⟨g1, 0, none⟩ rfl (.string x.fName) (g1_w1.out.cell 0) _ Try.underlying9 rfl ?_)
        | ((with_reducible refine at_dst (N := 8) rfl ?_); refine ev_ld rfl 65 _ rfl ⟨g1, 1, none⟩ rfl (.slice x.fVersions_a x.fVersions.length x.fVersions_c) (g1_w1.out.cell 1) _ Try.underlying65 rfl ?_)
        | (go_at_call 31; (with_reducible refine (fits31_any x.fVersions_a x.fVersions_c x.fVersions _ (H0_Versions.out.below B_w1.out) (Ty69.oks.below H0_Versionso.out B_w1.out)).mono ?_); rintro e w2 ⟨rfl, hb⟩; rw [hc2]
           have g1_w2 := Lib.hid (g1_w1.out.below hb)
           have B_w2 := Lib.hid (below_trans B_w1.out hb)
           clear hb))
      go_ret
      exact HQ.out _ _ ⟨ret_bool (by simp only [fits102, P0.out, P1.out, Bool.and_self, Bool.and_false, Bool.false_and]), B_w2.out⟩
    · have P1 := Lib.hid hc2
      go_wp2_with (first
        | ((with_reducible refine at_dst (N := 1) rfl ?_); refine ev_box rfl 103 _ rfl _ rfl ?_; intro g1 w1 hg hB hb
           have low_g1 := Nat.le_trans (Nat.le_refl _) hg
           have B_w1 := Lib.hid (below_trans (Below.refl _ _) hb)
           have g1_w1 : Hid (Blk w1 g1 103 (zq16 x)) := hB
           clear hB hb)
        | ((with_reducible refine at_dst (N := 4) rfl ?_); refine ev_ld rfl 9 _ rfl ⟨g1, 0, none⟩ rfl (.string x.fName) (g1_w1.out.cell 0) _ Try.underlying9 rfl ?_)
        | ((with_reducible refine at_dst (N := 8) rfl ?_); refine ev_ld rfl 65 _ rfl ⟨g1, 1, none⟩ rfl (.slice x.fVersions_a x.fVersions.length x.fVersions_c) (g1_w1.out.cell 1) _ Try.underlying65 rfl ?_)
        | (go_at_call 31; (with_reducible refine (fits31_any x.fVersions_a x.fVersions_c x.fVersions _ (H0_Versions.out.below B_w1.out) (Ty69.oks.below H0_Versionso.out B_w1.out)).mono ?_); rintro e w2 ⟨rfl, hb⟩; rw [hc2]
           have g1_w2 := Lib.hid (g1_w1.out.below hb)
           have B_w2 := Lib.hid (below_trans B_w1.out hb)
           clear hb))
      go_ret
      exact HQ.out _ _ ⟨ret_bool (by simp only [fits102, P0.out, P1.out, Bool.and_self, Bool.and_false, Bool.false_and]), B_w2.out⟩
def fits48 (xs : List Ty103) : Bool := decide (xs.length ≤ 2147483647) && xs.all fits102
set_option maxRecDepth 100000 in
set_option maxHeartbeats 4000000 in
theorem fits48_any (A : Option Addr) (c : Nat) (xs : List Ty103) (w : World) (h0 : Rows w (A) 2 (xs.map Ty103.cells)) (h1 : Ty103.oks xs w)  :
    Calls Try.prog 48 #[.slice (A) (xs.length) (c)] w fun e w' => e = .returned (.bool (fits48 xs)) ∧ Below w.heap.size w w' := by
  have hl_xs : xs.length ≤ 9223372036854775807 := by have := h0.1; simpa [strs, ptrs] using this
  have H0 := Lib.hid h0
  clear h0
  have H1 := Lib.hid h1
  clear h1
  suffices hQ : ∀ Q : Ending → World → Prop, Hid (∀ (e : Ending) (w' : World), (e = .returned (.bool (fits48 xs)) ∧ Below w.heap.size w w') → Post1 Q e w') → Calls Try.prog 48 #[.slice (A) (xs.length) (c)] w (fun e w' => Post1 Q e w') from hQ (fun e w' => e = .returned (.bool (fits48 xs)) ∧ Below w.heap.size w w') (fun _ _ h => by unfold Post1; exact h)
  intro Q HQ
  go_enter Try.func48, Try.ntmps48
  by_cases hc1 : (2147483647 : Int) < ↑xs.length
  · go_wp2_with fail
    go_ret
    exact HQ.out _ _ ⟨ret_bool (by have e : decide (xs.length ≤ 2147483647) = false := (by simp; omega); rw [fits48, e, Bool.false_and]), (Below.refl _ _)⟩
  · go_wp2_with fail
    go_loopw [10] (fun v10 wr => ∃ k : Nat, (k ≤ xs.length) ∧ v10 = .int .i64 (↑k) ∧ Hid ((xs.take k).all fits102 = true) ∧ Hid (Below w.heap.size w wr)) (fun v10 _ => xs.length - (intOf v10).toNat)
    case atStart => exact ⟨0, (by omega), rfl, rfl, (Below.refl _ _)⟩
    case round =>
      obtain ⟨k, hk, rfl, L0_all, L0_B⟩ := hrel
      by_cases hlt_k : k < xs.length
      · obtain ⟨ad_k, rfl⟩ := (H0.out.below L0_B.out).addr (by simp [strs, ptrs]; omega)
        have HE := Lib.hid (Ty103.oks.at H1.out hlt_k)
        cases hc2 : (fits102 xs[k])
        · go_wp2_with (first
            | ((with_reducible refine at_dst (N := 13) rfl ?_); refine ev_loadR rfl 103 _ rfl _ rfl [.string xs[k].fName, .slice xs[k].fVersions_a xs[k].fVersions.length xs[k].fVersions_c] ((H0.out.below L0_B.out).el (j := k) (row := xs[k].cells) (by simp [hlt_k])) _ Try.underlying103 rfl tsz103 ?_)
            | ((with_reducible refine at_dst (N := 4) rfl ?_); refine ev_alloc rfl 103 rfl _ _ tz103 ?_; intro g4 w1 hg hB hb
               have low_g4 := Nat.le_trans L0_B.out.size hg
               have B_w1 := Lib.hid (below_trans L0_B.out hb)
               have g4_w1 : Hid (Blk w1 g4 103 #[.string ⟨#[]⟩, .slice none 0 0]) := hB
               clear hB hb)
            | (refine ev_store rfl 103 _ _ rfl g4 _ _ rfl rfl 103 g4_w1.out tsz103 rfl rfl ?_; intro w2 hB hg hz
               have hx := GrX.grown (S := fun k => k = g4) hg rfl
               have B_w2 := Lib.hid (below_grx B_w1.out hx B_w1.out.size (fun k => (fun e => e ▸ low_g4)))
               clear hx
               have g4_w2 : Hid (Blk w2 g4 103 #[.string xs[k].fName, .slice xs[k].fVersions_a xs[k].fVersions.length xs[k].fVersions_c]) := hB
               clear hB hg hz)
            | ((with_reducible refine at_dst (N := 14) rfl ?_); refine ev_loadB rfl 103 _ rfl g4 rfl 103 _ g4_w2.out _ Try.underlying103 rfl tsz103 ?_)
            | (go_at_call 102; (with_reducible refine (fits102_any xs[k] _ (Ty103.ok.below HE.out B_w2.out)).mono ?_); rintro e w3 ⟨rfl, hb⟩; rw [hc2]
               have g4_w3 := Lib.hid (g4_w2.out.below hb)
               have B_w3 := Lib.hid (below_trans B_w2.out hb)
               clear hb))
          go_ret
          exact HQ.out _ _ ⟨ret_bool (by rw [fits48, all_at hlt_k hc2, Bool.and_false]), B_w3.out⟩
        · go_wp2_with (first
            | ((with_reducible refine at_dst (N := 13) rfl ?_); refine ev_loadR rfl 103 _ rfl _ rfl [.string xs[k].fName, .slice xs[k].fVersions_a xs[k].fVersions.length xs[k].fVersions_c] ((H0.out.below L0_B.out).el (j := k) (row := xs[k].cells) (by simp [hlt_k])) _ Try.underlying103 rfl tsz103 ?_)
            | ((with_reducible refine at_dst (N := 4) rfl ?_); refine ev_alloc rfl 103 rfl _ _ tz103 ?_; intro g4 w1 hg hB hb
               have low_g4 := Nat.le_trans L0_B.out.size hg
               have B_w1 := Lib.hid (below_trans L0_B.out hb)
               have g4_w1 : Hid (Blk w1 g4 103 #[.string ⟨#[]⟩, .slice none 0 0]) := hB
               clear hB hb)
            | (refine ev_store rfl 103 _ _ rfl g4 _ _ rfl rfl 103 g4_w1.out tsz103 rfl rfl ?_; intro w2 hB hg hz
               have hx := GrX.grown (S := fun k => k = g4) hg rfl
               have B_w2 := Lib.hid (below_grx B_w1.out hx B_w1.out.size (fun k => (fun e => e ▸ low_g4)))
               clear hx
               have g4_w2 : Hid (Blk w2 g4 103 #[.string xs[k].fName, .slice xs[k].fVersions_a xs[k].fVersions.length xs[k].fVersions_c]) := hB
               clear hB hg hz)
            | ((with_reducible refine at_dst (N := 14) rfl ?_); refine ev_loadB rfl 103 _ rfl g4 rfl 103 _ g4_w2.out _ Try.underlying103 rfl tsz103 ?_)
            | (go_at_call 102; (with_reducible refine (fits102_any xs[k] _ (Ty103.ok.below HE.out B_w2.out)).mono ?_); rintro e w3 ⟨rfl, hb⟩; rw [hc2]
               have g4_w3 := Lib.hid (g4_w2.out.below hb)
               have B_w3 := Lib.hid (below_trans B_w2.out hb)
               clear hb))
          refine ⟨⟨k + 1, (by omega), by go_num, by show _ = _; rw [all_take hlt_k, L0_all.out, hc2]; rfl, B_w3⟩, ?_⟩
          simp [intOf]; omega
      · obtain rfl : k = xs.length := by omega
        rw [List.take_length] at L0_all
        go_wp2_with fail
        go_ret
        exact HQ.out _ _ ⟨ret_bool (by have e : decide (xs.length ≤ 2147483647) = true := (by simp; omega); rw [fits48, e, L0_all.out]; rfl), L0_B.out⟩
def fits108 (x : Ty110) : Bool := decide (x.fOS.size ≤ 2147483647) && decide (x.fArch.size ≤ 2147483647) && decide (x.fCommand.size ≤ 2147483647) && (fits3 x.fArgs)
def fits54 (xs : List Ty110) : Bool := decide (xs.length ≤ 2147483647) && xs.all fits108
end Go.Proofs.Ytkjcedlgljeoiaa

/- Words on lists of texts. -/
namespace Go.Proofs.Ytkjcedlgljeoiaa
open Go.RowKit Go.Lib
set_option linter.unusedVariables false
set_option linter.unusedSimpArgs false
theorem below_set {B : Nat} {w w1 : World} (h : Below B w w1) {g : Nat} (hg : B ≤ g) (i : Nat) (u : Value) : Below B w (w1.setCell ⟨g, i, none⟩ u) :=
  ⟨h.os, h.tape, h.output, by simpa [World.setCell] using h.size, fun k hk => (Below.heap_setCell w1 ⟨g, i, none⟩ u k (fun e => by simp at e; omega)).trans (h.block k hk)⟩
def someF (xs : List ByteArray) : List ByteArray := (xs.take 6).map ascF
def cleansF (xs : List ByteArray) : List ByteArray := xs.map cleanF
end Go.Proofs.Ytkjcedlgljeoiaa

/- Plain law: versions as texts; the numbers of a plain one; one text for three numbers. -/
namespace Go.Proofs.Ytkjcedlgljeoiaa
open Go.RowKit Go.Lib

def digB (c : UInt8) : Bool := decide (48 ≤ c.toNat ∧ c.toNat ≤ 57)
def valL (l : List UInt8) : Nat := l.foldl (fun n c => 10 * n + (c.toNat - 48)) 0
def tw (s : ByteArray) (k : Nat) : List UInt8 := (s.data.toList.drop k).takeWhile digB
/-- The number i of a plain version that begins at 'from': its value, and what stands behind the point. -/
def stepF (s : ByteArray) (i from_ : Nat) : Option (Nat × Nat) :=
  if tw s from_ = [] ∨ 9 < (tw s from_).length ∨ (1 < (tw s from_).length ∧ (tw s from_).head? = some 48) ∨ (i < 2 ∧ s.data.toList[from_ + (tw s from_).length]? ≠ some 46) then none
  else some (valL (tw s from_), from_ + (tw s from_).length + 1)
def pref (s : ByteArray) : Nat → Option (List Nat × Nat)
  | 0 => some ([], 0)
  | i + 1 => match pref s i with
    | none => none
    | some (l, p) => match stepF s i p with
      | none => none
      | some (v, e) => some (l ++ [v], e)
def numsF (s : ByteArray) : List Nat := match pref s 3 with | none => [0, 0, 0] | some (l, _) => l
def plainB (s : ByteArray) : Bool := match pref s 3 with | none => false | some (_, e) => decide (e = s.size + 1)

theorem valL_snoc (l : List UInt8) (c : UInt8) : valL (l ++ [c]) = 10 * valL l + (c.toNat - 48) := by simp [valL]
theorem pref_len {s : ByteArray} : ∀ {i l p}, pref s i = some (l, p) → l.length = i
  | 0, l, p, h => by simp [pref] at h; rw [h.1]; rfl
  | i + 1, l, p, h => by
    simp only [pref] at h
    cases h1 : pref s i with
    | none => rw [h1] at h; cases h
    | some x =>
      obtain ⟨l1, p1⟩ := x
      rw [h1] at h
      simp only at h
      cases h2 : stepF s i p1 with
      | none => rw [h2] at h; cases h
      | some y =>
        obtain ⟨v, e⟩ := y
        rw [h2] at h
        simp only [Option.some.injEq, Prod.mk.injEq] at h
        rw [← h.1, List.length_append, pref_len h1]
        rfl
theorem tw_digit {s : ByteArray} {k : Nat} (h : k < s.size) (hd : digB s[k] = true) : tw s k = s[k] :: tw s (k + 1) := by
  have hl : k < s.data.toList.length := by simpa using h
  unfold tw
  rw [List.drop_eq_getElem_cons hl, List.takeWhile_cons]
  have e : s.data.toList[k] = s[k] := rfl
  rw [e, hd]
  rfl
theorem tw_stop {s : ByteArray} {k : Nat} (h : k < s.size) (hd : digB s[k] = false) : tw s k = [] := by
  have hl : k < s.data.toList.length := by simpa using h
  unfold tw
  rw [List.drop_eq_getElem_cons hl, List.takeWhile_cons]
  have e : s.data.toList[k] = s[k] := rfl
  rw [e, hd]
  rfl
theorem tw_end {s : ByteArray} {k : Nat} (h : s.size ≤ k) : tw s k = [] := by
  unfold tw
  rw [List.drop_of_length_le (by simpa using h)]
  rfl
theorem tw_all {s : ByteArray} {k : Nat} : ∀ c ∈ tw s k, digB c = true := fun c hc => by
  unfold tw at hc
  exact List.all_eq_true.1 (List.all_takeWhile (p := digB)) c hc
theorem tw_le (s : ByteArray) (k : Nat) (hk : k ≤ s.size) : k + (tw s k).length ≤ s.size := by
  have h1 : (tw s k).length ≤ (s.data.toList.drop k).length := (List.takeWhile_sublist _).length_le
  simp at h1
  omega
theorem tw_drop (s : ByteArray) (k : Nat) : s.data.toList.drop k = tw s k ++ s.data.toList.drop (k + (tw s k).length) := by
  have h := List.takeWhile_append_dropWhile (p := digB) (l := s.data.toList.drop k)
  have h2 : (s.data.toList.drop k).dropWhile digB = s.data.toList.drop (k + (tw s k).length) := by
    have h3 : (tw s k ++ (s.data.toList.drop k).dropWhile digB).drop (tw s k).length = (s.data.toList.drop k).dropWhile digB := List.drop_left
    have h4 : tw s k ++ (s.data.toList.drop k).dropWhile digB = s.data.toList.drop k := h
    rw [h4, List.drop_drop] at h3
    exact h3.symm
  rw [← h2]
  exact h.symm
theorem stepF_some {s : ByteArray} {i f v e : Nat} (h : stepF s i f = some (v, e)) :
    v = valL (tw s f) ∧ e = f + (tw s f).length + 1 ∧ tw s f ≠ [] ∧ (tw s f).length ≤ 9 ∧ (1 < (tw s f).length → (tw s f).head? ≠ some 48) ∧ (i < 2 → s.data.toList[f + (tw s f).length]? = some 46) := by
  unfold stepF at h
  split at h
  · cases h
  · rename_i hn
    simp only [Option.some.injEq, Prod.mk.injEq] at h
    refine ⟨h.1.symm, h.2.symm, fun hh => hn (.inl hh), ?_, fun h1 h2 => hn (.inr (.inr (.inl ⟨h1, h2⟩))), fun h1 => ?_⟩
    · rcases Nat.lt_or_ge 9 (tw s f).length with h3 | h3
      · exact absurd (.inr (.inl h3)) hn
      · exact h3
    · by_cases h3 : s.data.toList[f + (tw s f).length]? = some 46
      · exact h3
      · exact absurd (.inr (.inr (.inr ⟨h1, h3⟩))) hn
theorem snoc_ind {α : Type} {M : List α → Prop} (h0 : M []) (hs : ∀ l c, M l → M (l ++ [c])) (l : List α) : M l := by
  have : ∀ m : List α, M m.reverse := fun m => by
    induction m with
    | nil => exact h0
    | cons c m ih => rw [List.reverse_cons]; exact hs _ _ ih
  have h := this l.reverse
  rwa [List.reverse_reverse] at h
/-- Digits without a needless zero are one text for one number. -/
theorem val_pos : ∀ (l : List UInt8), l ≠ [] → (∀ c ∈ l, digB c = true) → l.head? ≠ some 48 → 1 ≤ valL l := by
  refine snoc_ind (fun h => absurd rfl h) (fun l c ih => ?_)
  · intro _ hd hh
    rw [valL_snoc]
    cases l with
    | nil =>
      have h1 := hd c (by simp)
      simp only [digB, decide_eq_true_eq] at h1
      have : c ≠ 48 := fun e => hh (by rw [e]; rfl)
      have : c.toNat ≠ 48 := fun e => this (UInt8.toNat_inj.1 e)
      omega
    | cons x xs =>
      have := ih (by simp) (fun y hy => hd y (List.mem_append_left _ hy)) (by simpa using hh)
      omega
theorem val_inj : ∀ (l m : List UInt8), l ≠ [] → m ≠ [] → (∀ c ∈ l, digB c = true) → (∀ c ∈ m, digB c = true) → (1 < l.length → l.head? ≠ some 48) → (1 < m.length → m.head? ≠ some 48) → valL l = valL m → l = m := by
  refine snoc_ind (fun m h => absurd rfl h) (fun l c ih => ?_)
  · intro m _ hm hd hdm hh hhm he
    obtain ⟨m, d, rfl⟩ : ∃ m' d, m = m' ++ [d] := ⟨m.dropLast, m.getLast hm, (List.dropLast_concat_getLast hm).symm⟩
    rw [valL_snoc, valL_snoc] at he
    have hc := hd c (by simp)
    have hd2 := hdm d (by simp)
    simp only [digB, decide_eq_true_eq] at hc hd2
    have e1 : c.toNat = d.toNat := by omega
    have e2 : valL l = valL m := by omega
    have e3 : c = d := UInt8.toNat_inj.1 e1
    subst e3
    congr 1
    by_cases hl : l = []
    · subst hl
      by_cases hm0 : m = []
      · exact hm0.symm
      · have hlen : 1 < (m ++ [c]).length := by
          have := List.length_pos_iff.2 hm0
          simp; omega
        have h1 := val_pos m hm0 (fun x hx => hdm x (by simp [hx])) (by
          have := hhm hlen
          cases m with
          | nil => exact absurd rfl hm0
          | cons x xs => simpa using this)
        simp [valL] at e2
        have : valL m = 0 := by rw [valL]; exact e2.symm
        omega
    · by_cases hm0 : m = []
      · subst hm0
        have hlen : 1 < (l ++ [c]).length := by
          have := List.length_pos_iff.2 hl
          simp; omega
        have h1 := val_pos l hl (fun x hx => hd x (by simp [hx])) (by
          have := hh hlen
          cases l with
          | nil => exact absurd rfl hl
          | cons x xs => simpa using this)
        simp [valL] at e2
        have : valL l = 0 := by rw [valL]; exact e2
        omega
      · refine ih m hl hm0 (fun x hx => hd x (by simp [hx])) (fun x hx => hdm x (by simp [hx])) (fun h => ?_) (fun h => ?_) e2
        · have := hh (by simp; omega)
          cases l with
          | nil => exact absurd rfl hl
          | cons x xs => simpa using this
        · have := hhm (by simp; omega)
          cases m with
          | nil => exact absurd rfl hm0
          | cons x xs => simpa using this
/-- What a plain version is. -/
theorem pref_text {s : ByteArray} (h : plainB s = true) : ∃ p q r : List UInt8, s.data.toList = p ++ 46 :: (q ++ 46 :: r) ∧ numsF s = [valL p, valL q, valL r] ∧
    (∀ t ∈ [p, q, r], t ≠ [] ∧ t.length ≤ 9 ∧ (∀ c ∈ t, digB c = true) ∧ (1 < t.length → t.head? ≠ some 48)) := by
  unfold plainB at h
  cases h3 : pref s 3 with
  | none => rw [h3] at h; cases h
  | some x =>
    obtain ⟨l3, e3⟩ := x
    rw [h3] at h
    simp only [decide_eq_true_eq] at h
    have hn : numsF s = l3 := by unfold numsF; rw [h3]
    simp only [pref] at h3
    cases h0 : stepF s 0 0 with
    | none => rw [h0] at h3; simp at h3
    | some y0 =>
      obtain ⟨v0, e0⟩ := y0
      rw [h0] at h3
      simp only [List.nil_append] at h3
      cases h1 : stepF s 1 e0 with
      | none => rw [h1] at h3; simp at h3
      | some y1 =>
        obtain ⟨v1, e1⟩ := y1
        rw [h1] at h3
        simp only at h3
        cases h2 : stepF s 2 e1 with
        | none => rw [h2] at h3; simp at h3
        | some y2 =>
          obtain ⟨v2, e2⟩ := y2
          rw [h2] at h3
          simp only [Option.some.injEq, Prod.mk.injEq] at h3
          obtain ⟨a1, a2, a3, a4, a5, a6⟩ := stepF_some h0
          obtain ⟨b1, b2, b3, b4, b5, b6⟩ := stepF_some h1
          obtain ⟨c1, c2, c3, c4, c5, _⟩ := stepF_some h2
          have cut : ∀ {k : Nat}, s.data.toList[k]? = some 46 → s.data.toList.drop k = 46 :: s.data.toList.drop (k + 1) := fun {k} hk => by
            obtain ⟨hk1, hk2⟩ := List.getElem?_eq_some_iff.1 hk
            rw [List.drop_eq_getElem_cons hk1, hk2]
          refine ⟨tw s 0, tw s e0, tw s e1, ?_, ?_, ?_⟩
          · have d0 := tw_drop s 0
            rw [cut (a6 (by omega)), ← a2] at d0
            rw [tw_drop s e0, cut (b6 (by omega)), ← b2, tw_drop s e1] at d0
            have : s.data.toList.drop (e1 + (tw s e1).length) = [] := List.drop_of_length_le (by simp; omega)
            rw [this, List.append_nil] at d0
            simpa using d0
          · rw [hn, ← h3.1, a1, b1, c1]; rfl
          · intro t ht
            simp only [List.mem_cons, List.not_mem_nil, or_false] at ht
            rcases ht with rfl | rfl | rfl
            · exact ⟨a3, a4, tw_all, a5⟩
            · exact ⟨b3, b4, tw_all, b5⟩
            · exact ⟨c3, c4, tw_all, c5⟩
theorem nums_inj {s t : ByteArray} (hs : plainB s = true) (ht : plainB t = true) (h : numsF s = numsF t) : s = t := by
  obtain ⟨p, q, r, e, n, a⟩ := pref_text hs
  obtain ⟨p', q', r', e', n', a'⟩ := pref_text ht
  rw [n, n'] at h
  simp only [List.cons.injEq, and_true] at h
  have k1 := val_inj p p' (a p (by simp)).1 (a' p' (by simp)).1 (a p (by simp)).2.2.1 (a' p' (by simp)).2.2.1 (a p (by simp)).2.2.2 (a' p' (by simp)).2.2.2 h.1
  have k2 := val_inj q q' (a q (by simp)).1 (a' q' (by simp)).1 (a q (by simp)).2.2.1 (a' q' (by simp)).2.2.1 (a q (by simp)).2.2.2 (a' q' (by simp)).2.2.2 h.2.1
  have k3 := val_inj r r' (a r (by simp)).1 (a' r' (by simp)).1 (a r (by simp)).2.2.1 (a' r' (by simp)).2.2.1 (a r (by simp)).2.2.2 (a' r' (by simp)).2.2.2 h.2.2
  apply ByteArray.ext
  apply Array.ext'
  rw [e, e', k1, k2, k3]
/-- A text that is no version, in any form. -/
def verC (c : UInt8) : Bool := decide ((48 ≤ c.toNat ∧ c.toNat ≤ 57) ∨ (97 ≤ c.toNat ∧ c.toNat ≤ 122) ∨ (65 ≤ c.toNat ∧ c.toNat ≤ 90) ∨ c.toNat = 46 ∨ c.toNat = 43 ∨ c.toNat = 45)
def leadB (c : UInt8) : Bool := decide (c.toNat = 118 ∨ (48 ≤ c.toNat ∧ c.toNat ≤ 57))
def errB (s : ByteArray) : Bool := !s.data.toList.all verC || (match s.data.toList with | [] => true | c :: _ => !leadB c)
theorem plain_ok {s : ByteArray} (h : plainB s = true) : errB s = false := by
  obtain ⟨p, q, r, e, _, a⟩ := pref_text h
  have dv : ∀ t ∈ [p, q, r], ∀ c ∈ t, verC c = true := fun t ht c hc => by
    have := (a t ht).2.2.1 c hc
    simp only [digB, verC, decide_eq_true_eq] at this ⊢
    omega
  unfold errB
  rw [e]
  have h1 : (p ++ 46 :: (q ++ 46 :: r)).all verC = true := by
    rw [List.all_eq_true]
    intro c hc
    simp only [List.mem_append, List.mem_cons] at hc
    rcases hc with hc | rfl | hc | rfl | hc
    · exact dv p (by simp) c hc
    · decide
    · exact dv q (by simp) c hc
    · decide
    · exact dv r (by simp) c hc
  rw [h1]
  cases p with
  | nil => exact absurd rfl (a [] (by simp)).1
  | cons c p =>
    have := (a (c :: p) (by simp)).2.2.1 c (by simp)
    simp only [digB, decide_eq_true_eq] at this
    simp [leadB]
    omega
/-- ChVersion. -/
def noF : ByteArray := ⟨#[110, 111, 32]⟩
def verF (s : ByteArray) : ByteArray := if plainB s = true ∨ s.data.toList = [] then s else match s.data.toList with | [] => s | c :: _ => if leadB c then noF ++ s else s
end Go.Proofs.Ytkjcedlgljeoiaa

/- Contract: spec.ChNumbers. -/
namespace Go.Proofs.Ytkjcedlgljeoiaa
open Go.RowKit Go.Lib
set_option linter.unusedVariables false
set_option linter.unusedSimpArgs false

/-- Three numbers as an array's cells. -/
def nC (l : List Int) : Array Value := (l.map (Value.int .i64)).toArray
theorem nC_size (l : List Int) : (nC l).size = l.length := by simp [nC]
theorem nC_get {l : List Int} {k : Nat} (h : k < l.length) : (nC l)[k]? = some (.int .i64 l[k]) := by simp [nC, h]
theorem nC_set (l : List Int) (k : Nat) (x : Int) : (nC l).setIfInBounds k (.int .i64 x) = nC (l.set k x) := by simp [nC, List.map_set]
/-- The numbers that are known so far. -/
def clF (l : List Nat) : List Int := l.map (fun n : Nat => (n : Int)) ++ List.replicate (3 - l.length) 0
theorem clF_len {l : List Nat} (h : l.length ≤ 3) : (clF l).length = 3 := by simp [clF]; omega
theorem clF_set {l : List Nat} {v : Nat} (h : l.length < 3) : (clF l).set l.length (v : Int) = clF (l ++ [v]) := by
  unfold clF
  have e : 3 - l.length = (3 - (l ++ [v]).length) + 1 := by simp; omega
  rw [e, List.replicate_succ, List.set_append_right _ _ (by simp)]
  simp
theorem clF_zero {l : List Nat} (h : l.length < 3) (h2 : l.length < (clF l).length) : (clF l)[l.length] = 0 := by
  unfold clF at h2 ⊢
  rw [List.getElem_append_right (by simp)]
  simp
theorem valL_le : ∀ l : List UInt8, (∀ c ∈ l, digB c = true) → valL l < 10 ^ l.length := by
  refine snoc_ind (fun _ => by decide) (fun l c ih h => ?_)
  have h1 := ih (fun x hx => h x (List.mem_append_left _ hx))
  have h2 := h c (by simp)
  simp only [digB, decide_eq_true_eq] at h2
  rw [valL_snoc, List.length_append, List.length_singleton, Nat.pow_succ]
  omega
theorem pow_le9 {n : Nat} (h : n ≤ 9) : 10 ^ n ≤ 1000000000 := Nat.le_trans (Nat.pow_le_pow_right (by decide) h) (by decide)
theorem wrap_in {x : Int} (h0 : 0 ≤ x) (h1 : x ≤ 9223372036854775807) : IntKind.i64.wrap x = x := IntWalk.i64_in _ (by omega)
/-- A digit more. -/
theorem val_step {pre : List UInt8} {c : UInt8} {x : Int} (hd : ∀ y ∈ pre, digB y = true) (hc : digB c = true) (hx : pre.length ≤ 9 → x = (valL pre : Int)) (hn : (pre ++ [c]).length ≤ 9) :
    IntKind.i64.wrap (IntKind.i64.wrap (10 * x) + ((c.toNat : Int) - 48)) = (valL (pre ++ [c]) : Int) := by
  rw [List.length_append, List.length_singleton] at hn
  have e := hx (by omega)
  have h1 := valL_le pre hd
  have h2 := pow_le9 (n := pre.length) (by omega)
  simp only [digB, decide_eq_true_eq] at hc
  rw [valL_snoc, e, wrap_in (x := 10 * (valL pre : Int)) (by omega) (by omega), wrap_in (by omega) (by omega)]
  omega

theorem pref_none {s : ByteArray} {k p : Nat} {l : List Nat} (h : pref s k = some (l, p)) (hk : k < 3) (hs : stepF s k p = none) : pref s 3 = none := by
  have h1 : pref s (k + 1) = none := by simp only [pref, h, hs]
  have up : ∀ j, pref s j = none → pref s (j + 1) = none := fun j hj => by simp only [pref, hj]
  rcases (by omega : k = 0 ∨ k = 1 ∨ k = 2) with rfl | rfl | rfl
  · exact up 2 (up 1 h1)
  · exact up 2 h1
  · exact h1
theorem get48 {s : ByteArray} {p : Nat} {pre : List UInt8} (ht : tw s p = pre) (h0 : pre ≠ []) : ∃ h : p < s.size, pre.head? = some s[p] := by
  have hp : p < s.size := by
    rcases Nat.lt_or_ge p s.size with h | h
    · exact h
    · rw [tw_end h] at ht; exact absurd ht.symm h0
  refine ⟨hp, ?_⟩
  have hl : p < s.data.toList.length := by simpa using hp
  have h1 := tw_drop s p
  rw [List.drop_eq_getElem_cons hl, ht] at h1
  cases pre with
  | nil => exact absurd rfl h0
  | cons c cs =>
    simp only [List.cons_append, List.cons.injEq] at h1
    simp only [List.head?_cons, Option.some.injEq]
    exact h1.1.symm
theorem step_bad {s : ByteArray} {k p m : Nat} {pre : List UInt8} (ht : tw s p = pre) (hm : m = p + pre.length)
    (h : m = p ∨ 9 < m - p ∨ (1 < m - p ∧ ∃ h : p < s.size, s[p] = 48) ∨ (k < 2 ∧ (s.size ≤ m ∨ ∃ h : m < s.size, s[m] ≠ 46))) : stepF s k p = none := by
  unfold stepF
  rw [ht, ← hm, if_pos ?_]
  rcases h with h | h | ⟨h1, h2, h3⟩ | ⟨h1, h2⟩
  · left; exact List.eq_nil_of_length_eq_zero (by omega)
  · right; left; omega
  · right; right; left
    have h0 : pre ≠ [] := fun e => by rw [e] at hm; simp at hm; omega
    obtain ⟨_, h4⟩ := get48 ht h0
    exact ⟨by omega, by rw [h4, h3]⟩
  · right; right; right
    refine ⟨h1, ?_⟩
    rcases h2 with h2 | ⟨h2, h3⟩
    · rw [List.getElem?_eq_none (by simpa using h2)]; simp
    · rw [List.getElem?_eq_getElem (by simpa using h2)]
      intro e
      injection e with e
      exact h3 e
theorem step_good {s : ByteArray} {k p m : Nat} {pre : List UInt8} (ht : tw s p = pre) (hm : m = p + pre.length)
    (h : ¬ (m = p ∨ 9 < m - p ∨ (1 < m - p ∧ ∃ h : p < s.size, s[p] = 48) ∨ (k < 2 ∧ (s.size ≤ m ∨ ∃ h : m < s.size, s[m] ≠ 46)))) : stepF s k p = some (valL pre, m + 1) ∧ pre.length ≤ 9 := by
  have h9 : pre.length ≤ 9 := by
    rcases Nat.lt_or_ge 9 pre.length with h1 | h1
    · exact absurd (.inr (.inl (by omega))) h
    · exact h1
  refine ⟨?_, h9⟩
  unfold stepF
  rw [ht, ← hm, if_neg ?_]
  rintro (h1 | h1 | ⟨h1, h2⟩ | ⟨h1, h2⟩)
  · exact h (.inl (by rw [hm, h1]; rfl))
  · omega
  · have h0 : pre ≠ [] := fun e => by rw [e] at h1; simp at h1
    obtain ⟨h3, h4⟩ := get48 ht h0
    rw [h4] at h2
    injection h2 with h2
    exact h (.inr (.inr (.inl ⟨by omega, h3, h2⟩)))
  · refine h (.inr (.inr (.inr ⟨h1, ?_⟩)))
    rcases Nat.lt_or_ge m s.size with h3 | h3
    · refine .inr ⟨h3, fun e => h2 ?_⟩
      rw [List.getElem?_eq_getElem (by simpa using h3)]
      congr 1
    · exact .inl h3

set_option maxRecDepth 100000 in
set_option maxHeartbeats 4000000 in
theorem chNums_any (s : ByteArray) (w : World) (hs : s.size ≤ 1000000) :
  Calls Try.prog 82 #[.string s] w fun e w' => e = .returned (.tuple #[.agg (nC ((numsF s).map fun n : Nat => (n : Int))), .bool (plainB s)]) ∧ Below w.heap.size w w' := by
 go_enter Try.func82, Try.ntmps82
 go_wp2_with ((with_reducible refine at_dst (N := 2) rfl ?_); refine ev_alloc rfl 145 rfl _ _ tz145 ?_; intro g w1 hg hB hb; have HB1 : Hid (Blk w1 g 145 (nC (clF []))) := hB; have B1 := Lib.hid hb; clear hB hb)
 go_loopw [4, 5, 6, 7] (fun at_ _ _ i wr => ∃ k p : Nat, ∃ l : List Nat, k ≤ 3 ∧ p ≤ s.size + 1 ∧ l.length = k ∧ i = .int .i64 k ∧ at_ = .int .i64 p ∧ Hid (pref s k = some (l, p)) ∧ Hid (Blk wr g 145 (nC (clF l))) ∧ Hid (Below w.heap.size w wr)) (fun _ _ _ i _ => 3 - (intOf i).toNat)
 case atStart => exact ⟨0, 0, [], by omega, by omega, rfl, rfl, rfl, rfl, HB1, B1⟩
 case round =>
  clear HB1 B1
  obtain ⟨k, p, l, hk, hp, hlen, rfl, rfl, HP, HB, HW⟩ := hrel
  by_cases hk3 : k < 3
  ·have dk : decide ((k : Int) < 3) = true := by simp; omega
   go_upto_block 2 with fail
   clear dk
   obtain ⟨wo, rfl⟩ : ∃ wo : World, wo = wr := ⟨_, rfl⟩
   go_cut [4] (fun at_ wx => ∃ m : Nat, ∃ pre : List UInt8, ∃ x : Int, at_ = .int .i64 m ∧ p ≤ m ∧ m ≤ s.size + 1 ∧ Hid (tw s p = pre ∧ m = p + pre.length ∧ (pre.length ≤ 9 → x = (valL pre : Int))) ∧ Hid (Blk wx g 145 (nC ((clF l).set k x))) ∧ Hid (Below w.heap.size w wx))
   case first =>
    go_wp2_with fail
    go_loopw [4] (fun at_ wr => ∃ m : Nat, ∃ pre : List UInt8, ∃ x : Int, at_ = .int .i64 m ∧ p ≤ m ∧ m ≤ s.size + 1 ∧ Hid (tw s p = pre ++ tw s m ∧ m = p + pre.length ∧ (pre.length ≤ 9 → x = (valL pre : Int))) ∧ Hid (Blk wr g 145 (nC ((clF l).set k x))) ∧ Hid (Below w.heap.size w wr)) (fun at_ _ => s.size + 1 - (intOf at_).toNat)
    case atStart =>
     refine ⟨p, [], 0, rfl, Nat.le_refl _, hp, ⟨by simp, by simp, fun _ => rfl⟩, ?_, HW⟩
     have e : (clF l).set k 0 = clF l := by
      have h3 := clF_len (l := l) (by omega)
      have hz := clF_zero (l := l) (by omega) (by omega)
      subst hlen
      rw [← hz]
      exact List.set_getElem_self _
     rw [e]
     exact HB
    case round =>
     obtain ⟨m, pre, x, rfl, hpm, hm, HT, HB2, HW2⟩ := hrel
     obtain ⟨ht, hmp, hx⟩ := HT.out
     have HX := Lib.hid hx
     have HTT := Lib.hid ht
     have HM := Lib.hid hmp
     clear hx HT hmp
     have c3 := clF_len (l := l) (by omega)
     have hcell : wr.cell? ⟨g, k, none⟩ = some (.int .i64 x) := by
      rw [HB2.out.cell, nC_get (by rw [List.length_set]; omega)]
      simp
     have hfr := HB2.out.frozen k
     by_cases hgo : ∃ h : m < s.size, digB s[m] = true
     ·obtain ⟨hlt, hd⟩ := hgo
      have hsn := tw_digit hlt hd
      have HD := Lib.hid hd
      have d1 : (48 : Int) ≤ (s[m].toNat : Int) := by simp only [digB, decide_eq_true_eq] at hd; omega
      have d2 : (s[m].toNat : Int) ≤ 57 := by simp only [digB, decide_eq_true_eq] at hd; omega
      have b0 : (0 : Int) ≤ (k : Int) := by omega
      have b1 : (k : Int) < 3 := by omega
      have b3 : ((k : Int)).toNat = k := by omega
      have HS := Lib.hid hsn
      clear hd hsn ht
      go_upto_region 7 with fail
      go_region
      go_wp2_with fail
      refine ⟨⟨m + 1, pre ++ [s[m]], wrap64 (wrap64 (10 * x) + ((s[m].toNat : Int) - 48)), by go_num, by omega, by omega, ⟨by rw [HTT.out, HS.out]; simp, by have := HM.out; simp; omega, fun h9 => by rw [← IntWalk.i64_left, ← IntWalk.i64_left]; exact val_step (fun y hy => tw_all y (by rw [HTT.out]; exact List.mem_append_left _ hy)) HD.out HX.out h9⟩, ?_, ?_⟩, ?_⟩
      ·have h1 := HB2.out.set_ k (.int .i64 (wrap64 (wrap64 (10 * x) + ((s[m].toNat : Int) - 48))))
       rw [nC_set, List.set_set] at h1
       exact h1
      ·exact (below_set HW2.out hg k _).drew
      ·simp [intOf]; omega
     ·have hst : tw s m = [] := by
       by_cases hlt : m < s.size
       ·exact tw_stop hlt (by cases hd : digB s[m] with
         | false => rfl
         | true => exact absurd ⟨hlt, hd⟩ hgo)
       ·exact tw_end (by omega)
      rw [hst, List.append_nil] at ht
      have HTW := Lib.hid ht
      by_cases hlt : m < s.size
      ·have hd : digB s[m] = false := by
        cases hd : digB s[m] with
        | false => rfl
        | true => exact absurd ⟨hlt, hd⟩ hgo
       have hrng : (s[m].toNat : Int) < 48 ∨ 57 < (s[m].toNat : Int) := by
        simp only [digB, decide_eq_false_iff_not] at hd; omega
       clear hd hgo ht hst HTT
       rcases hrng with hr | hr
       all_goals
        go_wp2_with fail
        go_meet
        exact ⟨m, pre, x, rfl, hpm, hm, ⟨HTW.out, HM.out, HX.out⟩, HB2, HW2⟩
      ·clear hgo ht hst HTT
       go_wp2_with fail
       go_meet
       exact ⟨m, pre, x, rfl, hpm, hm, ⟨HTW.out, HM.out, HX.out⟩, HB2, HW2⟩
   case rest =>
    obtain ⟨m, pre, x, rfl, hpm, hm, HT, HB2, HW2⟩ := hcut
    obtain ⟨ht, hmp, hx⟩ := HT.out
    have HX := Lib.hid hx
    have HM := Lib.hid hmp
    have HTW := Lib.hid ht
    have hms : p < m → p < s.size ∧ m ≤ s.size := fun h => by
     have h0 : pre ≠ [] := fun e => by rw [e] at hmp; simp at hmp; omega
     obtain ⟨h1, _⟩ := get48 ht h0
     have := tw_le s p (by omega)
     rw [ht] at this
     omega
    have c3 := clF_len (l := l) (by omega)
    have hbad : (m = p ∨ 9 < m - p ∨ (1 < m - p ∧ ∃ h : p < s.size, s[p] = 48) ∨ (k < 2 ∧ (s.size ≤ m ∨ ∃ h : m < s.size, s[m] ≠ 46))) → pref s 3 = none := fun h => pref_none HP.out (by omega) (step_bad HTW.out HM.out h)
    have hgood : ¬ (m = p ∨ 9 < m - p ∨ (1 < m - p ∧ ∃ h : p < s.size, s[p] = 48) ∨ (k < 2 ∧ (s.size ≤ m ∨ ∃ h : m < s.size, s[m] ≠ 46))) → stepF s k p = some (valL pre, m + 1) ∧ pre.length ≤ 9 := fun h => step_good HTW.out HM.out h
    have HBAD := Lib.hid hbad
    have HGOOD := Lib.hid hgood
    have HMS := Lib.hid hms
    have b0 : (0 : Int) ≤ (k : Int) := by omega
    have b1 : (k : Int) < 3 := by omega
    have b2 : (0 : Int) ≤ (p : Int) := by omega
    have b4 : ((p : Int)).toNat = p := by omega
    have b5 : ((m : Int)).toNat = m := by omega
    have b6 : (p : Int) ≤ (m : Int) := by omega
    clear ht hmp hx hms hbad hgood HT
    by_cases hmp : m = p
    ·have d0 : ((m : Int) == (p : Int)) = true := by simp only [beq_iff_eq]; omega
     have HPM := Lib.hid hmp
     clear hmp
     have hnone := HBAD.out (.inl HPM.out)
     have hN : numsF s = [0, 0, 0] := by unfold numsF; rw [hnone]
     have hP : plainB s = false := by unfold plainB; rw [hnone]
     have HN := Lib.hid hN
     have HPL := Lib.hid hP
     clear hnone hN hP HBAD HGOOD
     go_wp2_with (refine ev_store rfl 145 _ _ rfl g _ _ rfl rfl 145 HB2.out tsz145 (by rw [nC_size, List.length_set]; exact c3) rfl ?_; intro w9 hB9 hg9 hz9; have B9 := Lib.hid (below_grown HW2.out hg9 HW2.out.size hg); have HB9 : Hid (Blk w9 g 145 #[.int .i64 0, .int .i64 0, .int .i64 0]) := hB9; clear hB9 hg9 hz9)
     have rl0 : (loadVar 145 ⟨g, 0, none⟩).run Try.prog w9 = .ok (.agg #[.int .i64 0, .int .i64 0, .int .i64 0]) w9 := load_mid (P := Try.prog) _ 145 g 0 145 _ HB9.out 3 (by simp) _ Try.underlying145 rfl tsz145
     refine bodyPost_ret (v := .tuple #[.agg #[.int .i64 0, .int .i64 0, .int .i64 0], .bool false]) (results2 Try.results82 ⟨_, rfl, rl0⟩ rfl) rfl ?_
     exact ⟨by rw [HN.out, HPL.out]; rfl, B9.out⟩
    ·have d0 : ((m : Int) == (p : Int)) = false := by simp only [beq_eq_false_iff_ne, ne_eq]; omega
     obtain ⟨hps, hms⟩ := HMS.out (by omega)
     have hpm2 : p < m := by omega
     clear hmp
     by_cases h9 : 9 < m - p
     ·have d9 : (9 : Int) < (m : Int) - (p : Int) := by omega
      have hnone := HBAD.out (.inr (.inl h9))
      have hN : numsF s = [0, 0, 0] := by unfold numsF; rw [hnone]
      have hP : plainB s = false := by unfold plainB; rw [hnone]
      have HN := Lib.hid hN
      have HPL := Lib.hid hP
      clear hnone hN hP HBAD HGOOD
      go_wp2_with (refine ev_store rfl 145 _ _ rfl g _ _ rfl rfl 145 HB2.out tsz145 (by rw [nC_size, List.length_set]; exact c3) rfl ?_; intro w9 hB9 hg9 hz9; have B9 := Lib.hid (below_grown HW2.out hg9 HW2.out.size hg); have HB9 : Hid (Blk w9 g 145 #[.int .i64 0, .int .i64 0, .int .i64 0]) := hB9; clear hB9 hg9 hz9)
      have rl0 : (loadVar 145 ⟨g, 0, none⟩).run Try.prog w9 = .ok (.agg #[.int .i64 0, .int .i64 0, .int .i64 0]) w9 := load_mid (P := Try.prog) _ 145 g 0 145 _ HB9.out 3 (by simp) _ Try.underlying145 rfl tsz145
      refine bodyPost_ret (v := .tuple #[.agg #[.int .i64 0, .int .i64 0, .int .i64 0], .bool false]) (results2 Try.results82 ⟨_, rfl, rl0⟩ rfl) rfl ?_
      exact ⟨by rw [HN.out, HPL.out]; rfl, B9.out⟩
     have d9 : (m : Int) - (p : Int) ≤ 9 := by omega
     by_cases hz : 1 < m - p ∧ s[p].toNat = 48
     ·obtain ⟨h1, h48⟩ := hz
      have d1 : (1 : Int) < (m : Int) - (p : Int) := by omega
      have d48 : ((s[p].toNat : Int) == 48) = true := by simp only [beq_iff_eq]; omega
      have H48 : Hid (s[p].toNat = 48) := h48
      clear h48
      have hnone := HBAD.out (.inr (.inr (.inl ⟨h1, hps, UInt8.toNat_inj.1 H48.out⟩)))
      have hN : numsF s = [0, 0, 0] := by unfold numsF; rw [hnone]
      have hP : plainB s = false := by unfold plainB; rw [hnone]
      have HN := Lib.hid hN
      have HPL := Lib.hid hP
      clear hnone hN hP HBAD HGOOD
      go_wp2_with (refine ev_store rfl 145 _ _ rfl g _ _ rfl rfl 145 HB2.out tsz145 (by rw [nC_size, List.length_set]; exact c3) rfl ?_; intro w9 hB9 hg9 hz9; have B9 := Lib.hid (below_grown HW2.out hg9 HW2.out.size hg); have HB9 : Hid (Blk w9 g 145 #[.int .i64 0, .int .i64 0, .int .i64 0]) := hB9; clear hB9 hg9 hz9)
      have rl0 : (loadVar 145 ⟨g, 0, none⟩).run Try.prog w9 = .ok (.agg #[.int .i64 0, .int .i64 0, .int .i64 0]) w9 := load_mid (P := Try.prog) _ 145 g 0 145 _ HB9.out 3 (by simp) _ Try.underlying145 rfl tsz145
      refine bodyPost_ret (v := .tuple #[.agg #[.int .i64 0, .int .i64 0, .int .i64 0], .bool false]) (results2 Try.results82 ⟨_, rfl, rl0⟩ rfl) rfl ?_
      exact ⟨by rw [HN.out, HPL.out]; rfl, B9.out⟩
     have HZ := Lib.hid hz
     clear hz
     by_cases h1 : 1 < m - p
     ·have d1 : (1 : Int) < (m : Int) - (p : Int) := by omega
      have n48 : ¬ s[p].toNat = 48 := fun h => HZ.out ⟨h1, h⟩
      have d48 : ((s[p].toNat : Int) == 48) = false := by simp only [beq_eq_false_iff_ne, ne_eq]; omega
      by_cases hk2 : k < 2
      ·by_cases hlt : m < s.size
       ·by_cases h46 : s[m].toNat = 46
        ·have d46 : ((s[m].toNat : Int) == 46) = true := by simp only [beq_iff_eq]; omega
         have d46' : ((s[m].toNat : Int) != 46) = false := by simp; omega
         obtain ⟨hstep, h9⟩ := HGOOD.out (by
          rintro (h | h | ⟨h1, h2, h3⟩ | ⟨h1, h2 | ⟨h2, h3⟩⟩)
          ·omega
          ·omega
          ·have : s[p].toNat = 48 := by rw [h3]; rfl
           omega
          ·omega
          ·exact absurd (UInt8.toNat_inj.1 (show s[m].toNat = 46 by omega)) h3)
         have hx := HX.out h9
         have hpn : pref s (k + 1) = some (l ++ [valL pre], m + 1) := by simp only [pref, HP.out, hstep]
         have HPN := Lib.hid hpn
         have HXX := Lib.hid hx
         clear hstep h9 hx hpn HBAD HGOOD HX HTW HM
         go_wp2_with fail
         refine ⟨⟨k + 1, m + 1, l ++ [valL pre], by omega, by omega, by simp; omega, by go_num, by go_num, HPN, ?_, HW2⟩, ?_⟩
         ·have h1 := HB2.out
          rw [HXX.out, ← hlen, clF_set (by omega)] at h1
          exact h1
         ·simp [intOf]; omega
        ·have d46 : ((s[m].toNat : Int) == 46) = false := by simp only [beq_eq_false_iff_ne, ne_eq]; omega
         have d46' : ((s[m].toNat : Int) != 46) = true := by simp; omega
         have N46 : Hid (s[m] ≠ 46) := fun e => h46 (by rw [e]; rfl)
         clear h46
         have hnone := HBAD.out (.inr (.inr (.inr ⟨hk2, .inr ⟨hlt, N46.out⟩⟩)))
         have hN : numsF s = [0, 0, 0] := by unfold numsF; rw [hnone]
         have hP : plainB s = false := by unfold plainB; rw [hnone]
         have HN := Lib.hid hN
         have HPL := Lib.hid hP
         clear hnone hN hP HBAD HGOOD
         go_wp2_with (refine ev_store rfl 145 _ _ rfl g _ _ rfl rfl 145 HB2.out tsz145 (by rw [nC_size, List.length_set]; exact c3) rfl ?_; intro w9 hB9 hg9 hz9; have B9 := Lib.hid (below_grown HW2.out hg9 HW2.out.size hg); have HB9 : Hid (Blk w9 g 145 #[.int .i64 0, .int .i64 0, .int .i64 0]) := hB9; clear hB9 hg9 hz9)
         have rl0 : (loadVar 145 ⟨g, 0, none⟩).run Try.prog w9 = .ok (.agg #[.int .i64 0, .int .i64 0, .int .i64 0]) w9 := load_mid (P := Try.prog) _ 145 g 0 145 _ HB9.out 3 (by simp) _ Try.underlying145 rfl tsz145
         refine bodyPost_ret (v := .tuple #[.agg #[.int .i64 0, .int .i64 0, .int .i64 0], .bool false]) (results2 Try.results82 ⟨_, rfl, rl0⟩ rfl) rfl ?_
         exact ⟨by rw [HN.out, HPL.out]; rfl, B9.out⟩
       ·have d5 : s.size ≤ m := by omega
        have hnone := HBAD.out (.inr (.inr (.inr ⟨hk2, .inl d5⟩)))
        have hN : numsF s = [0, 0, 0] := by unfold numsF; rw [hnone]
        have hP : plainB s = false := by unfold plainB; rw [hnone]
        have HN := Lib.hid hN
        have HPL := Lib.hid hP
        clear hnone hN hP HBAD HGOOD
        go_wp2_with (refine ev_store rfl 145 _ _ rfl g _ _ rfl rfl 145 HB2.out tsz145 (by rw [nC_size, List.length_set]; exact c3) rfl ?_; intro w9 hB9 hg9 hz9; have B9 := Lib.hid (below_grown HW2.out hg9 HW2.out.size hg); have HB9 : Hid (Blk w9 g 145 #[.int .i64 0, .int .i64 0, .int .i64 0]) := hB9; clear hB9 hg9 hz9)
        have rl0 : (loadVar 145 ⟨g, 0, none⟩).run Try.prog w9 = .ok (.agg #[.int .i64 0, .int .i64 0, .int .i64 0]) w9 := load_mid (P := Try.prog) _ 145 g 0 145 _ HB9.out 3 (by simp) _ Try.underlying145 rfl tsz145
        refine bodyPost_ret (v := .tuple #[.agg #[.int .i64 0, .int .i64 0, .int .i64 0], .bool false]) (results2 Try.results82 ⟨_, rfl, rl0⟩ rfl) rfl ?_
        exact ⟨by rw [HN.out, HPL.out]; rfl, B9.out⟩
      ·have d2 : (2 : Int) ≤ (k : Int) := by omega
       obtain ⟨hstep, h9⟩ := HGOOD.out (by
        rintro (h | h | ⟨h1, h2, h3⟩ | ⟨h1, h2 | ⟨h2, h3⟩⟩)
        ·omega
        ·omega
        ·have : s[p].toNat = 48 := by rw [h3]; rfl
         omega
        ·omega
        ·exact absurd (UInt8.toNat_inj.1 (show s[m].toNat = 46 by omega)) h3)
       have hx := HX.out h9
       have hpn : pref s (k + 1) = some (l ++ [valL pre], m + 1) := by simp only [pref, HP.out, hstep]
       have HPN := Lib.hid hpn
       have HXX := Lib.hid hx
       clear hstep h9 hx hpn HBAD HGOOD HX HTW HM
       go_wp2_with fail
       refine ⟨⟨k + 1, m + 1, l ++ [valL pre], by omega, by omega, by simp; omega, by go_num, by go_num, HPN, ?_, HW2⟩, ?_⟩
       ·have h1 := HB2.out
        rw [HXX.out, ← hlen, clF_set (by omega)] at h1
        exact h1
       ·simp [intOf]; omega
     ·have d1 : (m : Int) - (p : Int) ≤ 1 := by omega
      by_cases hk2 : k < 2
      ·by_cases hlt : m < s.size
       ·by_cases h46 : s[m].toNat = 46
        ·have d46 : ((s[m].toNat : Int) == 46) = true := by simp only [beq_iff_eq]; omega
         have d46' : ((s[m].toNat : Int) != 46) = false := by simp; omega
         obtain ⟨hstep, h9⟩ := HGOOD.out (by
          rintro (h | h | ⟨h1, h2, h3⟩ | ⟨h1, h2 | ⟨h2, h3⟩⟩)
          ·omega
          ·omega
          ·have : s[p].toNat = 48 := by rw [h3]; rfl
           omega
          ·omega
          ·exact absurd (UInt8.toNat_inj.1 (show s[m].toNat = 46 by omega)) h3)
         have hx := HX.out h9
         have hpn : pref s (k + 1) = some (l ++ [valL pre], m + 1) := by simp only [pref, HP.out, hstep]
         have HPN := Lib.hid hpn
         have HXX := Lib.hid hx
         clear hstep h9 hx hpn HBAD HGOOD HX HTW HM
         go_wp2_with fail
         refine ⟨⟨k + 1, m + 1, l ++ [valL pre], by omega, by omega, by simp; omega, by go_num, by go_num, HPN, ?_, HW2⟩, ?_⟩
         ·have h1 := HB2.out
          rw [HXX.out, ← hlen, clF_set (by omega)] at h1
          exact h1
         ·simp [intOf]; omega
        ·have d46 : ((s[m].toNat : Int) == 46) = false := by simp only [beq_eq_false_iff_ne, ne_eq]; omega
         have d46' : ((s[m].toNat : Int) != 46) = true := by simp; omega
         have N46 : Hid (s[m] ≠ 46) := fun e => h46 (by rw [e]; rfl)
         clear h46
         have hnone := HBAD.out (.inr (.inr (.inr ⟨hk2, .inr ⟨hlt, N46.out⟩⟩)))
         have hN : numsF s = [0, 0, 0] := by unfold numsF; rw [hnone]
         have hP : plainB s = false := by unfold plainB; rw [hnone]
         have HN := Lib.hid hN
         have HPL := Lib.hid hP
         clear hnone hN hP HBAD HGOOD
         go_wp2_with (refine ev_store rfl 145 _ _ rfl g _ _ rfl rfl 145 HB2.out tsz145 (by rw [nC_size, List.length_set]; exact c3) rfl ?_; intro w9 hB9 hg9 hz9; have B9 := Lib.hid (below_grown HW2.out hg9 HW2.out.size hg); have HB9 : Hid (Blk w9 g 145 #[.int .i64 0, .int .i64 0, .int .i64 0]) := hB9; clear hB9 hg9 hz9)
         have rl0 : (loadVar 145 ⟨g, 0, none⟩).run Try.prog w9 = .ok (.agg #[.int .i64 0, .int .i64 0, .int .i64 0]) w9 := load_mid (P := Try.prog) _ 145 g 0 145 _ HB9.out 3 (by simp) _ Try.underlying145 rfl tsz145
         refine bodyPost_ret (v := .tuple #[.agg #[.int .i64 0, .int .i64 0, .int .i64 0], .bool false]) (results2 Try.results82 ⟨_, rfl, rl0⟩ rfl) rfl ?_
         exact ⟨by rw [HN.out, HPL.out]; rfl, B9.out⟩
       ·have d5 : s.size ≤ m := by omega
        have hnone := HBAD.out (.inr (.inr (.inr ⟨hk2, .inl d5⟩)))
        have hN : numsF s = [0, 0, 0] := by unfold numsF; rw [hnone]
        have hP : plainB s = false := by unfold plainB; rw [hnone]
        have HN := Lib.hid hN
        have HPL := Lib.hid hP
        clear hnone hN hP HBAD HGOOD
        go_wp2_with (refine ev_store rfl 145 _ _ rfl g _ _ rfl rfl 145 HB2.out tsz145 (by rw [nC_size, List.length_set]; exact c3) rfl ?_; intro w9 hB9 hg9 hz9; have B9 := Lib.hid (below_grown HW2.out hg9 HW2.out.size hg); have HB9 : Hid (Blk w9 g 145 #[.int .i64 0, .int .i64 0, .int .i64 0]) := hB9; clear hB9 hg9 hz9)
        have rl0 : (loadVar 145 ⟨g, 0, none⟩).run Try.prog w9 = .ok (.agg #[.int .i64 0, .int .i64 0, .int .i64 0]) w9 := load_mid (P := Try.prog) _ 145 g 0 145 _ HB9.out 3 (by simp) _ Try.underlying145 rfl tsz145
        refine bodyPost_ret (v := .tuple #[.agg #[.int .i64 0, .int .i64 0, .int .i64 0], .bool false]) (results2 Try.results82 ⟨_, rfl, rl0⟩ rfl) rfl ?_
        exact ⟨by rw [HN.out, HPL.out]; rfl, B9.out⟩
      ·have d2 : (2 : Int) ≤ (k : Int) := by omega
       obtain ⟨hstep, h9⟩ := HGOOD.out (by
        rintro (h | h | ⟨h1, h2, h3⟩ | ⟨h1, h2 | ⟨h2, h3⟩⟩)
        ·omega
        ·omega
        ·have : s[p].toNat = 48 := by rw [h3]; rfl
         omega
        ·omega
        ·exact absurd (UInt8.toNat_inj.1 (show s[m].toNat = 46 by omega)) h3)
       have hx := HX.out h9
       have hpn : pref s (k + 1) = some (l ++ [valL pre], m + 1) := by simp only [pref, HP.out, hstep]
       have HPN := Lib.hid hpn
       have HXX := Lib.hid hx
       clear hstep h9 hx hpn HBAD HGOOD HX HTW HM
       go_wp2_with fail
       refine ⟨⟨k + 1, m + 1, l ++ [valL pre], by omega, by omega, by simp; omega, by go_num, by go_num, HPN, ?_, HW2⟩, ?_⟩
       ·have h1 := HB2.out
        rw [HXX.out, ← hlen, clF_set (by omega)] at h1
        exact h1
       ·simp [intOf]; omega
  ·obtain rfl : k = 3 := by omega
   have hN : numsF s = l := by unfold numsF; rw [HP.out]
   have hpl : plainB s = decide (p = s.size + 1) := by unfold plainB; rw [HP.out]
   have hcl : clF l = l.map fun n : Nat => (n : Int) := by unfold clF; rw [hlen]; simp
   rw [hcl] at HB
   have c3 : (l.map fun n : Nat => (n : Int)).length = 3 := by simp [hlen]
   have HN := Lib.hid hN
   have HPL := Lib.hid hpl
   clear hN hpl hcl hk3 HP
   obtain ⟨x0, x1, x2, hl3⟩ : ∃ x0 x1 x2, (l.map fun n : Nat => (n : Int)) = [x0, x1, x2] := by
    rcases hq : (l.map fun n : Nat => (n : Int)) with _ | ⟨x0, _ | ⟨x1, _ | ⟨x2, _ | ⟨x3, r⟩⟩⟩⟩ <;> rw [hq] at c3 <;> simp at c3
    exact ⟨x0, x1, x2, rfl⟩
   rw [hl3] at HB
   have HL3 := Lib.hid hl3
   have HB9 : Hid (Blk wr g 145 #[.int .i64 x0, .int .i64 x1, .int .i64 x2]) := HB
   clear HB c3 hl3
   by_cases he : p = s.size + 1
   ·have d0 : ((p : Int) == (s.size : Int) + 1) = true := by simp only [beq_iff_eq]; omega
    have HE := Lib.hid he
    clear he
    go_wp2_with (first
     | ((with_reducible refine at_dst (N := 82) rfl ?_); refine ev_loadB rfl 145 _ rfl g rfl 145 _ HB9.out _ Try.underlying145 rfl tsz145 ?_)
     | (refine ev_store rfl 145 _ _ rfl g _ _ rfl rfl 145 HB9.out tsz145 rfl rfl ?_; intro w9 hB8 hg9 hz9; have B9 := Lib.hid (below_grown HW.out hg9 HW.out.size hg); have HB8 : Hid (Blk w9 g 145 #[.int .i64 x0, .int .i64 x1, .int .i64 x2]) := hB8; clear hB8 hg9 hz9))
    have rl0 : (loadVar 145 ⟨g, 0, none⟩).run Try.prog w9 = .ok (.agg #[.int .i64 x0, .int .i64 x1, .int .i64 x2]) w9 := load_mid (P := Try.prog) _ 145 g 0 145 _ HB8.out 3 (by simp) _ Try.underlying145 rfl tsz145
    refine bodyPost_ret (v := .tuple #[.agg #[.int .i64 x0, .int .i64 x1, .int .i64 x2], .bool true]) (results2 Try.results82 ⟨_, rfl, rl0⟩ rfl) rfl ?_
    refine ⟨?_, B9.out⟩
    rw [HN.out, HL3.out, HPL.out]
    simp [HE.out, nC]
   ·have d0 : ((p : Int) == (s.size : Int) + 1) = false := by simp only [beq_eq_false_iff_ne, ne_eq]; omega
    have HE := Lib.hid he
    clear he
    go_wp2_with (first
     | ((with_reducible refine at_dst (N := 82) rfl ?_); refine ev_loadB rfl 145 _ rfl g rfl 145 _ HB9.out _ Try.underlying145 rfl tsz145 ?_)
     | (refine ev_store rfl 145 _ _ rfl g _ _ rfl rfl 145 HB9.out tsz145 rfl rfl ?_; intro w9 hB8 hg9 hz9; have B9 := Lib.hid (below_grown HW.out hg9 HW.out.size hg); have HB8 : Hid (Blk w9 g 145 #[.int .i64 x0, .int .i64 x1, .int .i64 x2]) := hB8; clear hB8 hg9 hz9))
    have rl0 : (loadVar 145 ⟨g, 0, none⟩).run Try.prog w9 = .ok (.agg #[.int .i64 x0, .int .i64 x1, .int .i64 x2]) w9 := load_mid (P := Try.prog) _ 145 g 0 145 _ HB8.out 3 (by simp) _ Try.underlying145 rfl tsz145
    refine bodyPost_ret (v := .tuple #[.agg #[.int .i64 x0, .int .i64 x1, .int .i64 x2], .bool false]) (results2 Try.results82 ⟨_, rfl, rl0⟩ rfl) rfl ?_
    refine ⟨?_, B9.out⟩
    rw [HN.out, HL3.out, HPL.out]
    simp [HE.out, nC]
end Go.Proofs.Ytkjcedlgljeoiaa

/- Contract: semver.NewVersion of a plain version. -/
namespace Go.Proofs.Ytkjcedlgljeoiaa
open Go.RowKit Go.Lib
set_option linter.unusedVariables false
set_option linter.unusedSimpArgs false

/-- A version's cells. -/
def vC (l : List Int) (s : ByteArray) : Array Value := (l.map (Value.int .i64) ++ [Value.string s]).toArray
theorem vC_get {l : List Int} {s : ByteArray} {k : Nat} (h : k < l.length) : (vC l s)[k]? = some (.int .i64 l[k]) := by
  simp [vC, List.getElem?_append_left, h]
theorem vC_set {l : List Int} {s : ByteArray} {k : Nat} (h : k < l.length) (x : Int) : (vC l s).setIfInBounds k (.int .i64 x) = vC (l.set k x) s := by
  simp [vC, List.map_set, List.set_append_left, h]
theorem tw_get {s : ByteArray} {p j : Nat} (h : j < (tw s p).length) : ∃ h2 : p + j < s.size, (tw s p)[j] = s[p + j] ∧ digB s[p + j] = true := by
  have h1 := tw_drop s p
  have hlen : j < (s.data.toList.drop p).length := by rw [h1, List.length_append]; omega
  have h2 : p + j < s.size := by simp at hlen; omega
  refine ⟨h2, ?_⟩
  have e : (s.data.toList.drop p)[j]? = some (tw s p)[j] := by rw [h1, List.getElem?_append_left h]; exact List.getElem?_eq_getElem h
  rw [List.getElem?_drop] at e
  obtain ⟨h3, h4⟩ := List.getElem?_eq_some_iff.1 e
  have h5 : (tw s p)[j] = s[p + j] := h4.symm
  exact ⟨h5, by rw [← h5]; exact tw_all _ (List.getElem_mem h)⟩
theorem tw_next {s : ByteArray} {p : Nat} (h : p + (tw s p).length < s.size) : digB s[p + (tw s p).length] = false := by
  cases hd : digB s[p + (tw s p).length] with
  | false => rfl
  | true =>
    exfalso
    have hp : p ≤ s.size := by omega
    have h1 := tw_drop s p
    have hl : p + (tw s p).length < s.data.toList.length := by simpa using h
    rw [List.drop_eq_getElem_cons hl] at h1
    have h2 : (s.data.toList.drop p).takeWhile digB = tw s p := rfl
    rw [h1, List.takeWhile_append_of_pos tw_all] at h2
    have e : s.data.toList[p + (tw s p).length] = s[p + (tw s p).length] := rfl
    rw [List.takeWhile_cons, e, hd] at h2
    have := congrArg List.length h2
    simp at this
theorem take_val {l : List UInt8} {j : Nat} (h : j < l.length) : valL (l.take (j + 1)) = 10 * valL (l.take j) + (l[j].toNat - 48) := by
  rw [List.take_succ_eq_append_getElem h, valL_snoc]
/-- The numbers of a plain version, one by one. -/
theorem plain_steps {s : ByteArray} (h : plainB s = true) {k p : Nat} {l : List Nat} (hp : pref s k = some (l, p)) (hk : k < 3) :
    stepF s k p = some (valL (tw s p), p + (tw s p).length + 1) ∧ pref s (k + 1) = some (l ++ [valL (tw s p)], p + (tw s p).length + 1) ∧ 0 < (tw s p).length ∧ (tw s p).length ≤ 9 ∧ (1 < (tw s p).length → ∃ h : p < s.size, s[p] ≠ 48) ∧
    (k < 2 → ∃ h : p + (tw s p).length < s.size, s[p + (tw s p).length] = 46) ∧ (k = 2 → p + (tw s p).length = s.size) := by
  cases hs : stepF s k p with
  | none =>
    have := pref_none hp hk hs
    unfold plainB at h
    rw [this] at h
    cases h
  | some y =>
    obtain ⟨v, e⟩ := y
    obtain ⟨a1, a2, a3, a4, a5, a6⟩ := stepF_some hs
    subst a1; subst a2
    have hpn : pref s (k + 1) = some (l ++ [valL (tw s p)], p + (tw s p).length + 1) := by simp only [pref, hp, hs]
    have hpos : 0 < (tw s p).length := List.length_pos_iff.2 a3
    refine ⟨rfl, hpn, hpos, a4, fun h1 => ?_, fun h2 => ?_, fun h2 => ?_⟩
    · obtain ⟨h3, h4⟩ := get48 (s := s) (p := p) rfl a3
      exact ⟨h3, fun e => a5 h1 (by rw [h4, e])⟩
    · obtain ⟨h3, h4⟩ := List.getElem?_eq_some_iff.1 (a6 h2)
      exact ⟨by simpa using h3, h4⟩
    · subst h2
      unfold plainB at h
      rw [hpn] at h
      simp only [decide_eq_true_eq] at h
      omega

set_option maxRecDepth 100000 in
set_option maxHeartbeats 8000000 in
theorem newVer_plain (s : ByteArray) (w : World) (hs : s.size ≤ 1000000) (hp : plainB s = true) :
  Calls Try.prog 171 #[.string s] w fun e w' => ∃ g, e = .returned (.tuple #[.pointer (some ⟨g, 0, none⟩), .nilIface]) ∧ w.heap.size ≤ g ∧ Blk w' g 278 (vC ((numsF s).map fun n : Nat => (n : Int)) s) ∧ Below w.heap.size w w' := by
 have hchars : ∀ j, ∀ h : j < s.size, digB s[j] = true ∨ s[j] = 46 := by
  obtain ⟨p, q, r, e, _, a⟩ := pref_text hp
  intro j h
  have hm : s[j] ∈ s.data.toList := List.getElem_mem (by simpa using h)
  rw [e] at hm
  simp only [List.mem_append, List.mem_cons] at hm
  rcases hm with hm | hm | hm | hm | hm
  ·exact .inl ((a p (by simp)).2.2.1 _ hm)
  ·exact .inr hm
  ·exact .inl ((a q (by simp)).2.2.1 _ hm)
  ·exact .inr hm
  ·exact .inl ((a r (by simp)).2.2.1 _ hm)
 obtain ⟨hpos, hfirst⟩ : ∃ h : 0 < s.size, digB s[0] = true := by
  have h1 := (plain_steps hp (k := 0) (p := 0) (l := []) rfl (by omega)).2.2.1
  obtain ⟨h2, _, h3⟩ := tw_get h1
  exact ⟨by omega, by simpa using h3⟩
 have HC := Lib.hid hchars
 have HP := Lib.hid hp
 have f1 : (48 : Int) ≤ (s[0].toNat : Int) := by simp only [digB, decide_eq_true_eq] at hfirst; omega
 have f2 : (s[0].toNat : Int) ≤ 57 := by simp only [digB, decide_eq_true_eq] at hfirst; omega
 have f3 : ((s[0].toNat : Int) != 118) = true := by simp; omega
 have e0 : ¬ s.toList = [] := by
  rw [ByteArray.toList_eq]
  intro e
  have h3 : s.data.toList.length = 0 := by rw [e]; rfl
  rw [Array.length_toList] at h3
  have h4 : s.size = 0 := h3
  omega
 have e1 : s.toList.isEmpty = false := by simp [e0]
 clear hchars hp hfirst
 go_enter Try.func171, Try.ntmps171
 go_upto_block 0 with fail
 go_cut [4] (fun _ wx => wx = w)
 case first =>
  clear f1 f2 f3 e0 e1
  go_wp2_with fail
  go_loop [4] (fun i => ∃ k : Nat, k ≤ s.size ∧ i = .int .i64 k) (fun i => s.size - (intOf i).toNat)
  case atStart => exact ⟨0, Nat.zero_le _, rfl⟩
  case round =>
   obtain ⟨k, hk, rfl⟩ := hrel
   by_cases hlt : k < s.size
   ·rcases HC.out k hlt with hd | hd
    ·have d1 : (48 : Int) ≤ (s[k].toNat : Int) := by simp only [digB, decide_eq_true_eq] at hd; omega
     have d2 : (s[k].toNat : Int) ≤ 57 := by simp only [digB, decide_eq_true_eq] at hd; omega
     clear hd
     go_wp2_with fail
     go_round
     case rel => exact ⟨k + 1, by omega, by go_num⟩
     case measure => simp [intOf]; omega
    ·have d1 : s[k].toNat = 46 := by rw [hd]; rfl
     have d2 : (s[k].toNat : Int) < 48 := by omega
     have d3 : (s[k].toNat : Int) < 97 := by omega
     have d4 : (s[k].toNat : Int) < 65 := by omega
     have d5 : ((s[k].toNat : Int) == 46) = true := by simp only [beq_iff_eq]; omega
     clear hd d1
     go_wp2_with fail
     go_round
     case rel => exact ⟨k + 1, by omega, by go_num⟩
     case measure => simp [intOf]; omega
   ·go_wp2_with fail
    go_meet
    rfl
 case rest =>
  obtain rfl : w = wc := hcut.symm
  go_upto_block 2 with ((with_reducible refine at_dst (N := 75) rfl ?_); refine ev_box rfl 278 _ rfl _ rfl ?_; intro g w1 hg hB hb; have HB1 : Hid (Blk w1 g 278 (vC (clF []) s)) := hB; have B1 := Lib.hid hb; clear hB hb)
  clear f1 f2 f3 e0 e1
  go_wp2_with fail
  go_loopw [7, 8, 9] (fun at_ i _ wr => ∃ k p : Nat, ∃ l : List Nat, k ≤ 3 ∧ p ≤ s.size + 1 ∧ l.length = k ∧ i = .int .i64 k ∧ at_ = .int .i64 p ∧ Hid (pref s k = some (l, p)) ∧ Hid (Blk wr g 278 (vC (clF l) s)) ∧ Hid (Below w.heap.size w wr)) (fun _ i _ _ => 3 - (intOf i).toNat)
  case atStart => exact ⟨0, 0, [], by omega, by omega, rfl, rfl, rfl, rfl, HB1, B1⟩
  case round =>
   clear HB1 B1
   obtain ⟨k, p, l, hk, hp, hlen, rfl, rfl, HPR, HB, HW⟩ := hrel
   by_cases hk3 : k < 3
   ·obtain ⟨st1, st2, st3, st4, st5, st6, st7⟩ := plain_steps HP.out HPR.out hk3
    have HN := Lib.hid st2
    have H5 := Lib.hid st5
    have H6 := Lib.hid st6
    have H7 := Lib.hid st7
    have hple : p ≤ s.size := by
     obtain ⟨h2, _⟩ := tw_get st3
     omega
    have hend := tw_le s p hple
    clear st1 st2 st5 st6 st7
    obtain ⟨n, hn⟩ : ∃ n, n = (tw s p).length := ⟨_, rfl⟩
    have HNN := Lib.hid hn
    rw [← hn] at st3 st4 hend
    clear hn
    have dk : decide ((k : Int) < 3) = true := by simp; omega
    go_upto_block 4 with fail
    clear dk
    obtain ⟨wo, rfl⟩ : ∃ wo : World, wo = wr := ⟨_, rfl⟩
    go_cut [7] (fun at_ wx => at_ = .int .i64 (p + n : Nat) ∧ Hid (Blk wx g 278 (vC ((clF l).set k (valL (tw s p) : Int)) s)) ∧ Hid (Below w.heap.size w wx))
    case first =>
     go_wp2_with fail
     go_loopw [7] (fun at_ wr => ∃ j : Nat, j ≤ n ∧ at_ = .int .i64 (p + j : Nat) ∧ Hid (Blk wr g 278 (vC ((clF l).set k (valL ((tw s p).take j) : Int)) s)) ∧ Hid (Below w.heap.size w wr)) (fun at_ _ => p + n - (intOf at_).toNat)
     case atStart =>
      refine ⟨0, by omega, by simp, ?_, HW⟩
      have e : (clF l).set k 0 = clF l := by
       have h3 := clF_len (l := l) (by omega)
       have hz := clF_zero (l := l) (by omega) (by omega)
       subst hlen
       rw [← hz]
       exact List.set_getElem_self _
      show Blk _ _ _ _
      rw [List.take_zero, show ((valL [] : Nat) : Int) = 0 from rfl, e]
      exact HB
     case round =>
      obtain ⟨j, hj, rfl, HB2, HW2⟩ := hrel
      have c3 := clF_len (l := l) (by omega)
      have hfr := HB2.out.frozen k
      by_cases hlt : j < n
      ·obtain ⟨h2, hge, hd⟩ := tw_get (s := s) (p := p) (j := j) (by have := HNN.out; omega)
       obtain ⟨x, hx⟩ : ∃ x : Nat, x = valL ((tw s p).take j) := ⟨_, rfl⟩
       have hx1 : x < 1000000000 := by
        have h1 := valL_le ((tw s p).take j) (fun c hc => tw_all c (List.mem_of_mem_take hc))
        have h3 := pow_le9 (n := ((tw s p).take j).length) (by rw [List.length_take]; omega)
        omega
       have hcell : wr.cell? ⟨g, k, none⟩ = some (.int .i64 (x : Int)) := by
        rw [HB2.out.cell, vC_get (by rw [List.length_set]; omega)]
        simp [hx]
       have hval : valL ((tw s p).take (j + 1)) = 10 * x + (s[p + j].toNat - 48) := by
        rw [take_val (by have := HNN.out; omega), hx, hge]
       have HV := Lib.hid hval
       have d1 : (48 : Int) ≤ (s[p + j].toNat : Int) := by simp only [digB, decide_eq_true_eq] at hd; omega
       have d2 : (s[p + j].toNat : Int) ≤ 57 := by simp only [digB, decide_eq_true_eq] at hd; omega
       have b0 : (0 : Int) ≤ (k : Int) := by omega
       have b1 : (k : Int) < 3 := by omega
       have b3 : ((k : Int)).toNat = k := by omega
       have b4 : ((p : Int) + (j : Int)).toNat = p + j := by omega
       clear hd hval hx hge
       go_upto_region 16 with fail
       go_region
       go_wp2_with fail
       refine ⟨⟨j + 1, by omega, by go_num, ?_, (below_set HW2.out hg k _).drew⟩, by simp [intOf]; omega⟩
       have h1 := HB2.out.set_ k (.int .i64 ((x : Int) * 10 + ((s[p + j].toNat : Int) - 48)))
       rw [vC_set (by rw [List.length_set]; omega), List.set_set] at h1
       have e : ((valL ((tw s p).take (j + 1)) : Nat) : Int) = (x : Int) * 10 + ((s[p + j].toNat : Int) - 48) := by rw [HV.out]; omega
       rw [e]
       exact h1
      ·obtain rfl : j = n := by omega
       have HB3 : Hid (Blk wr g 278 (vC ((clF l).set k (valL (tw s p) : Int)) s)) := by
        have h1 := HB2.out
        rw [List.take_of_length_le (by have := HNN.out; omega)] at h1
        exact h1
       by_cases hin : p + j < s.size
       ·have hd := tw_next (s := s) (p := p) (by have := HNN.out; omega)
        have hrng : (s[p + j].toNat : Int) < 48 ∨ 57 < (s[p + j].toNat : Int) := by
         have hn := HNN.out
         subst hn
         simp only [digB, decide_eq_false_iff_not] at hd
         omega
        have b4 : ((p : Int) + (j : Int)).toNat = p + j := by omega
        clear hd
        rcases hrng with hr | hr
        all_goals
         go_wp2_with fail
         go_meet
         exact ⟨rfl, HB3, HW2⟩
       ·go_wp2_with fail
        go_meet
        exact ⟨rfl, HB3, HW2⟩
    case rest =>
     obtain ⟨rfl, HB2, HW2⟩ := hcut
     have hn0 : ((p + n : Nat) : Int) = (p : Int) + (n : Int) := by simp
     have HB3 : Hid (Blk wc g 278 (vC (clF (l ++ [valL (tw s p)])) s)) := by
      have h1 := HB2.out
      rw [← hlen, clF_set (by omega)] at h1
      exact h1
     have hlen2 : (l ++ [valL (tw s p)]).length = k + 1 := by simp [hlen]
     have HN2 : Hid (pref s (k + 1) = some (l ++ [valL (tw s p)], p + n + 1)) := by
      have h1 := HN.out
      have hn := HNN.out
      rw [← hn] at h1
      exact h1
     have hps : p < s.size := by
      obtain ⟨h2, _⟩ := tw_get (s := s) (p := p) (j := 0) (by have := HNN.out; omega)
      omega
     have t1 : ((p : Int) + (n : Int) == (p : Int)) = false := by simp only [beq_eq_false_iff_ne, ne_eq]; omega
     have hz : 1 < n → s[p].toNat ≠ 48 := fun h => by
      obtain ⟨_, h3⟩ := H5.out (by have := HNN.out; omega)
      exact fun e => h3 (UInt8.toNat_inj.1 e)
     have h46 : k < 2 → ∃ h : p + n < s.size, s[p + n].toNat = 46 := fun h => by
      have hn := HNN.out
      subst hn
      obtain ⟨h3, h4⟩ := H6.out h
      exact ⟨h3, by rw [h4]; rfl⟩
     have hk2 : k = 2 → p + n = s.size := fun h => by
      have hn := HNN.out
      subst hn
      exact H7.out h
     have HZ := Lib.hid hz
     have H46 := Lib.hid h46
     have HK2 := Lib.hid hk2
     clear HB2 hz h46 hk2 HNN H5 H6 H7 HN
     have b0 : (0 : Int) ≤ (k : Int) := by omega
     have b4 : ((p : Int) + (n : Int)).toNat = p + n := by omega
     have b5 : ((p : Int)).toNat = p := by omega
     by_cases h48 : s[p].toNat = 48
     ·have hn1 : n ≤ 1 := by
       rcases Nat.lt_or_ge 1 n with h | h
       ·exact absurd h48 (HZ.out h)
       ·exact h
      have d48 : ((s[p].toNat : Int) == 48) = true := by simp only [beq_iff_eq]; omega
      have dn : (p : Int) + (n : Int) - (p : Int) ≤ 1 := by omega
      clear h48
      rcases (by omega : k < 2 ∨ k = 2) with hk2 | hk2
      ·obtain ⟨hm, h46⟩ := H46.out hk2
       have d1 : ((s[p + n].toNat : Int) == 46) = true := by simp only [beq_iff_eq]; omega
       have d2 : ((s[p + n].toNat : Int) != 46) = false := by simp; omega
       have d3 : ((p : Int) + (n : Int) == (s.size : Int)) = false := by simp only [beq_eq_false_iff_ne, ne_eq]; omega
       have d4 : ((k : Int) == 2) = false := by simp only [beq_eq_false_iff_ne, ne_eq]; omega
       have d5 : (k : Int) < 2 := by omega
       clear h46
       go_wp2_with fail
       refine ⟨⟨k + 1, p + n + 1, l ++ [valL (tw s p)], by omega, by omega, hlen2, by go_num, by go_num, HN2, HB3, HW2⟩, by simp [intOf]; omega⟩
      ·have hm := HK2.out hk2
       have d3 : (s.size : Int) ≤ (p : Int) + (n : Int) := by omega
       have d4 : ((k : Int) == 2) = true := by simp only [beq_iff_eq]; omega
       have d5 : (2 : Int) ≤ (k : Int) := by omega
       have HM := Lib.hid hm
       have HKK := Lib.hid hk2
       clear hm hk2
       go_wp2_with fail
       refine ⟨⟨k + 1, p + n + 1, l ++ [valL (tw s p)], by omega, by omega, hlen2, by go_num, by go_num, HN2, HB3, HW2⟩, by simp [intOf]; omega⟩
     ·have d48 : ((s[p].toNat : Int) == 48) = false := by simp only [beq_eq_false_iff_ne, ne_eq]; omega
      clear h48
      rcases (by omega : k < 2 ∨ k = 2) with hk2 | hk2
      ·obtain ⟨hm, h46⟩ := H46.out hk2
       have d1 : ((s[p + n].toNat : Int) == 46) = true := by simp only [beq_iff_eq]; omega
       have d2 : ((s[p + n].toNat : Int) != 46) = false := by simp; omega
       have d3 : ((p : Int) + (n : Int) == (s.size : Int)) = false := by simp only [beq_eq_false_iff_ne, ne_eq]; omega
       have d4 : ((k : Int) == 2) = false := by simp only [beq_eq_false_iff_ne, ne_eq]; omega
       have d5 : (k : Int) < 2 := by omega
       clear h46
       go_wp2_with fail
       refine ⟨⟨k + 1, p + n + 1, l ++ [valL (tw s p)], by omega, by omega, hlen2, by go_num, by go_num, HN2, HB3, HW2⟩, by simp [intOf]; omega⟩
      ·have hm := HK2.out hk2
       have d3 : (s.size : Int) ≤ (p : Int) + (n : Int) := by omega
       have d4 : ((k : Int) == 2) = true := by simp only [beq_iff_eq]; omega
       have d5 : (2 : Int) ≤ (k : Int) := by omega
       have HM := Lib.hid hm
       have HKK := Lib.hid hk2
       clear hm hk2
       go_wp2_with fail
       refine ⟨⟨k + 1, p + n + 1, l ++ [valL (tw s p)], by omega, by omega, hlen2, by go_num, by go_num, HN2, HB3, HW2⟩, by simp [intOf]; omega⟩
   ·obtain rfl : k = 3 := by omega
    have hN : numsF s = l := by unfold numsF; rw [HPR.out]
    have hcl : clF l = l.map fun n : Nat => (n : Int) := by unfold clF; rw [hlen]; simp
    rw [hcl] at HB
    have HN := Lib.hid hN
    clear hN hcl hk3 HPR
    go_wp2_with fail
    go_ret2
    exact ⟨g, rfl, hg, by rw [HN.out]; exact HB.out, HW.out⟩
end Go.Proofs.Ytkjcedlgljeoiaa

/- Contracts: semver.NewVersion of what is none, Compare, Equal. -/
namespace Go.Proofs.Ytkjcedlgljeoiaa
open Go.RowKit Go.Lib
set_option linter.unusedVariables false
set_option linter.unusedSimpArgs false



/-- One list of numbers against another one. -/
def cmpL : List Int → List Int → Int
  | x :: xs, y :: ys => if x = y then cmpL xs ys else x - y
  | _, _ => 0
theorem cmpL_at : ∀ {l m : List Int} {k : Nat} (hl : k < l.length) (hm : k < m.length), (∀ j, ∀ h1 : j < l.length, ∀ h2 : j < m.length, j < k → l[j] = m[j]) → l[k] ≠ m[k] → cmpL l m = l[k] - m[k]
  | x :: xs, y :: ys, 0, _, _, _, hn => by
    simp only [List.getElem_cons_zero, ne_eq] at hn
    simp [cmpL, hn]
  | x :: xs, y :: ys, k + 1, hl, hm, he, hn => by
    have h0 := he 0 (by simp) (by simp) (by omega)
    simp only [List.getElem_cons_zero] at h0
    simp only [cmpL, h0, if_true, List.getElem_cons_succ]
    exact cmpL_at (by simpa using hl) (by simpa using hm) (fun j h1 h2 h3 => by have := he (j + 1) (by simp; omega) (by simp; omega) (by omega); exact this) (by simpa using hn)
  | [], _, k, hl, _, _, _ => by simp at hl
  | _ :: _, [], k, _, hm, _, _ => by simp at hm
theorem cmpL_eq : ∀ {l : List Int}, cmpL l l = 0
  | [] => rfl
  | x :: xs => by simp [cmpL]; exact cmpL_eq
theorem cmpL_zero : ∀ {l m : List Int}, l.length = m.length → cmpL l m = 0 → l = m
  | [], [], _, _ => rfl
  | x :: xs, y :: ys, hl, h => by
    by_cases e : x = y
    · subst e
      simp only [cmpL, if_true] at h
      rw [cmpL_zero (by simpa using hl) h]
    · simp only [cmpL, if_neg e] at h
      omega
  | [], _ :: _, hl, _ => by simp at hl
  | _ :: _, [], hl, _ => by simp at hl
set_option maxRecDepth 100000 in
set_option maxHeartbeats 4000000 in
theorem compare_any (g g2 : Nat) (l m : List Int) (s t : ByteArray) (w : World) (h : Blk w g 278 (vC l s)) (h2 : Blk w g2 278 (vC m t)) (hl : l.length = 3) (hm : m.length = 3) (bl : ∀ x ∈ l, 0 ≤ x ∧ x < 1000000000) (bm : ∀ x ∈ m, 0 ≤ x ∧ x < 1000000000) :
    Calls Try.prog 201 #[.pointer (some ⟨g, 0, none⟩), .pointer (some ⟨g2, 0, none⟩)] w fun e w' => e = .returned (.int .i64 (cmpL l m)) ∧ Below w.heap.size w w' := by
  have H := Lib.hid h
  have H2 := Lib.hid h2
  have BL := Lib.hid bl
  have BM := Lib.hid bm
  have HL := Lib.hid hl
  have HM := Lib.hid hm
  clear h h2 bl bm hl hm
  go_enter Try.func201, Try.ntmps201
  go_wp2_with fail
  go_loopw [5, 6] (fun _ i wr => ∃ k : Nat, k ≤ 3 ∧ i = .int .i64 k ∧ Hid (∀ j, ∀ h1 : j < l.length, ∀ h2 : j < m.length, j < k → l[j] = m[j]) ∧ Hid (Below w.heap.size w wr)) (fun _ i _ => 3 - (intOf i).toNat)
  case atStart => exact ⟨0, by omega, rfl, fun j _ _ h0 => by omega, Below.refl _ _⟩
  case round =>
    obtain ⟨k, hk, rfl, HA, HB⟩ := hrel
    by_cases hlt : k < 3
    · have k1 : k < l.length := by have := HL.out; omega
      have k2 : k < m.length := by have := HM.out; omega
      obtain ⟨x, hx⟩ : ∃ x, x = l[k] := ⟨_, rfl⟩
      obtain ⟨y, hy⟩ : ∃ y, y = m[k] := ⟨_, rfl⟩
      have c1 : wr.cell? ⟨g, k, none⟩ = some (.int .i64 x) := by rw [(H.out.below HB.out).cell, vC_get k1, hx]
      have c2 : wr.cell? ⟨g2, k, none⟩ = some (.int .i64 y) := by rw [(H2.out.below HB.out).cell, vC_get k2, hy]
      have bx := BL.out x (by rw [hx]; exact List.getElem_mem _)
      have by_ := BM.out y (by rw [hy]; exact List.getElem_mem _)
      obtain ⟨x0, x1⟩ := bx
      obtain ⟨y0, y1⟩ := by_
      have b0 : (0 : Int) ≤ (k : Int) := by omega
      have b1 : (k : Int) < 3 := by omega
      have b3 : ((k : Int)).toNat = k := by omega
      have HXX := Lib.hid hx
      have HYY := Lib.hid hy
      clear hx hy
      by_cases hxy : x = y
      · have d1 : (x != y) = false := by simp [hxy]
        have HE := Lib.hid hxy
        clear hxy
        go_wp2_with fail
        go_quiet (fail)
        go_wp2_with fail
        have HA2 : Hid (∀ j, ∀ h1 : j < l.length, ∀ h2 : j < m.length, j < k + 1 → l[j] = m[j]) := fun j h1 h2 h3 => by
          by_cases e : j = k
          · subst e; rw [← HXX.out, ← HYY.out]; exact HE.out
          · exact HA.out j h1 h2 (by omega)
        refine ⟨⟨k + 1, by omega, by go_num, HA2, below_drewN1 HB.out _⟩, by simp [intOf]; omega⟩
      · have d1 : (x != y) = true := by simp [hxy]
        have HE := Lib.hid hxy
        clear hxy
        go_wp2_with fail
        go_quiet (fail)
        go_wp2_with fail
        go_quiet (fail)
        go_wp2_with fail
        go_ret
        exact ⟨ret_int (by rw [cmpL_at k1 k2 HA.out (by rw [← HXX.out, ← HYY.out]; exact HE.out), ← HXX.out, ← HYY.out]), below_drewN1 (below_drewN1 HB.out _) _⟩
    · obtain rfl : k = 3 := by omega
      go_wp2_with fail
      go_ret
      have e : l = m := List.ext_getElem (by rw [HL.out, HM.out]) fun j h1 h2 => HA.out j h1 h2 (by have := HL.out; omega)
      exact ⟨ret_int (by rw [e]; exact cmpL_eq.symm), HB.out⟩
set_option maxRecDepth 100000 in
theorem equal_any (g g2 : Nat) (l m : List Int) (s t : ByteArray) (w : World) (h : Blk w g 278 (vC l s)) (h2 : Blk w g2 278 (vC m t)) (hl : l.length = 3) (hm : m.length = 3) (bl : ∀ x ∈ l, 0 ≤ x ∧ x < 1000000000) (bm : ∀ x ∈ m, 0 ≤ x ∧ x < 1000000000) :
    Calls Try.prog 198 #[.pointer (some ⟨g, 0, none⟩), .pointer (some ⟨g2, 0, none⟩)] w fun e w' => e = .returned (.bool (decide (l = m))) ∧ Below w.heap.size w w' := by
  have hc := fun W (a : Blk W g 278 (vC l s)) (b : Blk W g2 278 (vC m t)) => compare_any g g2 l m s t W a b hl hm bl bm
  have hz : (cmpL l m == 0) = decide (l = m) := by
    rw [Bool.eq_iff_iff]
    simp only [beq_iff_eq, decide_eq_true_eq]
    exact ⟨fun e => cmpL_zero (by rw [hl, hm]) e, fun e => by rw [e]; exact cmpL_eq⟩
  have H := Lib.hid h
  have H2 := Lib.hid h2
  have HC := Lib.hid hc
  have HZ := Lib.hid hz
  clear h h2 hc hz bl bm
  go_enter Try.func198, Try.ntmps198
  go_wp2_with (go_at_call 201; (with_reducible refine (HC.out _ H.out H2.out).mono ?_); rintro e w1 ⟨rfl, hb⟩)
  go_ret
  exact ⟨ret_bool (by first | exact HZ.out | simpa using HZ.out), hb⟩
end Go.Proofs.Ytkjcedlgljeoiaa

/- Contracts: ChVersion, versionEquals, VersionEquals; FnVersionEquals: the walk. -/
namespace Go.Proofs.Ytkjcedlgljeoiaa
open Go.RowKit Go.Lib
set_option linter.unusedVariables false
set_option linter.unusedSimpArgs false
theorem nums_len (s : ByteArray) : ((numsF s).map fun n : Nat => (n : Int)).length = 3 := by
  unfold numsF
  cases h : pref s 3 with
  | none => rfl
  | some x => obtain ⟨l, p⟩ := x; simp [pref_len h]
theorem nums_bd {s : ByteArray} (h : plainB s = true) : ∀ x ∈ (numsF s).map (fun n : Nat => (n : Int)), 0 ≤ x ∧ x < 1000000000 := by
  obtain ⟨p, q, r, _, n, a⟩ := pref_text h
  intro x hx
  have hb : ∀ t ∈ [p, q, r], (valL t : Int) < 1000000000 := fun t ht => by
    have h1 := valL_le t (a t ht).2.2.1
    have h2 := pow_le9 (a t ht).2.1
    omega
  rw [n] at hx
  simp only [List.map_cons, List.map_nil, List.mem_cons, List.not_mem_nil, or_false] at hx
  rcases hx with rfl | rfl | rfl
  · exact ⟨by omega, hb p (by simp)⟩
  · exact ⟨by omega, hb q (by simp)⟩
  · exact ⟨by omega, hb r (by simp)⟩
/-- How versions are equal. -/
def eqvF (s t : ByteArray) : Bool := if errB s then decide (s = t) else if errB t then false else decide (numsF s = numsF t)
theorem eqvF_eq {s t : ByteArray} (hs : plainB s = true ∨ errB s = true) (ht : plainB t = true ∨ errB t = true) : eqvF s t = decide (s = t) := by
  unfold eqvF
  split
  · rfl
  · rename_i h1
    have p1 : plainB s = true := hs.resolve_right h1
    split
    · rename_i h2
      symm
      rw [decide_eq_false_iff_not]
      intro e
      subst e
      exact h1 h2
    · rename_i h2
      have p2 : plainB t = true := ht.resolve_right h2
      by_cases e : s = t
      · subst e; simp
      · have : numsF s ≠ numsF t := fun h => e (nums_inj p1 p2 h)
        simp [e, this]
end Go.Proofs.Ytkjcedlgljeoiaa

/- laws.chSome, ixVersion, ixEntry. -/
namespace Go.Proofs.Ytkjcedlgljeoiaa
open Go.RowKit Go.Lib
set_option linter.unusedVariables false
set_option linter.unusedSimpArgs false
theorem someF_len (xs : List ByteArray) : (someF xs).length ≤ 6 := by unfold someF; simp; omega
theorem take_six {xs : List ByteArray} {i : Nat} (h1 : i ≤ xs.length) (h2 : i ≤ 6) (h : xs.length ≤ i ∨ 6 ≤ i) : xs.take i = xs.take 6 := by
  rcases h with h | h
  · rw [List.take_of_length_le h, List.take_of_length_le (by omega)]
  · rw [show i = 6 by omega]
section
variable {a : Act} {o : Oper} {w : World} {P : Program}
theorem r_remn {t t2 : TypeId} {x y : Operand} (ho : o.op = .binOp .rem t x y t2) {k : IntKind} {p q : Int} {n m : Nat} (hx : a.eval x = .int k p) (hp : p = n) (hy : a.eval y = .int k q) (hq : q = m) (hm : m ≠ 0) : (execOp a.eval o).run P w = .ok (.value (.int k ((n % m : Nat) : Int))) w := by
  subst hp hq
  have ht : (n : Int).tmod (m : Int) = ((n % m : Nat) : Int) := rfl
  generalize ((n % m : Nat) : Int) = z at *
  unfold execOp
  simp only [ho, hx, hy]
  simp [eqGuard, binOp, Op.intDiv, hm, ht]
theorem r_quon {t t2 : TypeId} {x y : Operand} (ho : o.op = .binOp .quo t x y t2) {p q : Int} {n m : Nat} (hx : a.eval x = .int .i64 p) (hp : p = n) (hy : a.eval y = .int .i64 q) (hq : q = m) (hm : m ≠ 0) (hn : n ≤ 9223372036854775807) : (execOp a.eval o).run P w = .ok (.value (.int .i64 ((n / m : Nat) : Int))) w := by
  subst hp hq
  have ht : (n : Int).tdiv (m : Int) = ((n / m : Nat) : Int) := rfl
  have hd := Nat.div_le_self n m
  generalize n / m = d at *
  have hw : IntKind.i64.wrap ((n : Int).tdiv (m : Int)) = (d : Int) := by rw [ht]; exact wr64 rfl (by omega) (by omega)
  generalize (d : Int) = z at *
  unfold execOp
  simp only [ho, hx, hy]
  simp only [eqGuard, binOp, Op.intDiv, if_neg (show ¬ (m : Int) = 0 by omega), hw]
  rfl
end
def ixvF (n : Nat) : ByteArray := ⟨#[UInt8.ofNat (48 + n % 3), 46, UInt8.ofNat (48 + n / 3 % 4), 46, UInt8.ofNat (48 + n / 12 % 10)]⟩
theorem ixv_cells (n : Nat) : [Value.int .u8 (48 + ↑(n % 3)), .int .u8 46, .int .u8 (48 + ↑(n / 3 % 4)), .int .u8 46, .int .u8 (48 + ↑(n / 12 % 10))] = strCells (ixvF n) := by
  have h : ∀ k : Nat, k < 100 → (((UInt8.ofNat (48 + k)).toNat : Nat) : Int) = 48 + (k : Int) := fun k hk => by rw [UInt8.toNat_ofNat']; omega
  show _ = [Value.int .u8 _, Value.int .u8 _, Value.int .u8 _, Value.int .u8 _, Value.int .u8 _]
  rw [h (n % 3) (by omega), h (n / 3 % 4) (by omega), h (n / 12 % 10) (by omega)]
  rfl
/-- An entry of an index, as the laws make them. -/
def ixE (nm ver desc dig : ByteArray) (B : Option Addr) (b : Nat) (es : List ByteArray) : Ty69 := { fNil := false, fBare := false, fMeta := { fName := nm, fHome := ⟨#[]⟩, fVersion := ver, fDescription := desc, fIcon := ⟨#[]⟩, fAPIVersion := ⟨#[118, 50]⟩, fCondition := ⟨#[]⟩, fTags := ⟨#[]⟩, fAppVersion := ⟨#[]⟩, fKubeVersion := ⟨#[]⟩, fType := ⟨#[]⟩, fSources_a := none, fSources_c := 0, fSources := [], fKeywords_a := none, fKeywords_c := 0, fKeywords := [], fMaintainers_a := none, fMaintainers_c := 0, fMaintainers := [], fDependencies_a := none, fDependencies_c := 0, fDependencies := [] }, fURLs_a := B, fURLs_c := b, fURLs := es, fDigest := dig }
set_option maxRecDepth 100000 in
set_option maxHeartbeats 20000000 in
theorem chSome_sp (A : Option Addr) (c : Nat) (xs : List ByteArray) (R : Ctx) (L : List SA) (w : World) (S : Sp R w (L)) (h0 : Rf R L fun w => Sl w (A) (strs xs)) (hx : ∀ x ∈ xs, x.size ≤ 9223372036854775807) :
  Calls Try.prog 83 #[.slice (A) (xs.length) (c)] w fun e w' => ∃ B : Option Addr, ∃ b : Nat, e = .returned (.slice B ((someF xs).length) b) ∧ Sp R w' (SA.own (.slice B (someF xs).length b) 9 1 ((someF xs).length) (strs (someF xs)) :: L) := by
 have hl_xs : xs.length ≤ 9223372036854775807 := by have := (h0 _ S).1; simpa [strs, ptrs, pps] using this
 refine fw_enter (fn := Try.f83) rfl rfl 24 rfl (Nat.le_of_ble_eq_true rfl) ?_
 intro a0 F0
 refine wp_seq_k fun K1 hK1 => ?_
 refine wp_region_lit ?_
 refine op_q F0 (.slice none 0 0) ?_; intro a2 F2
 refine wpList_nil ?_
 refine hK1 _ _ ?_; clear hK1 K1
 refine wp_seq_k fun K3 hK3 => ?_
 refine wp_region_lit ?_
 refine op_q F2 (.slice none 0 0) ?_; intro a4 F4
 refine wpList_nil ?_
 refine hK3 _ _ ?_; clear hK3 K3
 refine wp_seq_k fun K5 hK5 => ?_
 refine wp_seq_k fun K6 hK6 => ?_
 refine wp_region_lit ?_
 refine op_q F4 (.int .i64 0) ?_; intro a7 F7
 refine wpList_nil ?_
 refine hK6 _ _ ?_; clear hK6 K6
 refine wp_block ?_
 refine fw_loop (fun m' a' w' => ∃ B : Option Addr, ∃ b : Nat, ∃ es : List ByteArray, ∃ i : Nat, xs.length - i = m' ∧ Fr 24 [] a' [(0, .slice (A) (xs.length) (c)), (2, .slice none 0 0), (3, .slice B es.length b), (4, .int .i64 (↑i))] ∧ Sp R w' (SA.own (.slice B es.length b) 9 1 es.length (strs es) :: L) ∧ (i ≤ xs.length) ∧ (i ≤ 6) ∧ (es = (xs.take i).map ascF) ∧ (es.length = i)) _ ⟨none, 0, [], 0, rfl, (F7.kk 0 (F7.kk 2 (F7.kk 3 (F7.kk 4 F7.nil)))), (Sp.nilown S), (by first | omega | (with_reducible assumption) | (simp; done)), (by first | omega | (with_reducible assumption) | (simp; done)), rfl, rfl⟩ ?_
 rintro m8 a8 w8 ⟨B, b, es, i, hm8, F8, S8, hi, hi6, hes, hel⟩ K8 hK8
 refine wp_seq_k fun K9 hK9 => ?_
 refine wp_seq_k fun K10 hK10 => ?_
 refine wp_region_lit ?_
 refine op_q F8 (.int .i64 (↑i)) ?_; intro a11 F11
 refine op_q F11 (.slice (A) (xs.length) (c)) ?_; intro a12 F12
 refine op_q F12 (.int .i64 (↑xs.length)) ?_; intro a13 F13
 refine op_q F13 (.bool (decide ((↑i : Int) < ↑xs.length))) ?_; intro a14 F14
 refine op_q F14 (.bool (decide ((↑i : Int) < ↑xs.length))) ?_; intro a15 F15
 rcases btf (decide ((↑i : Int) < ↑xs.length)) with hc16 | hc16
 ·have hlt_i : i < xs.length := by have := of_decide_eq_true hc16; omega
  have hxi : xs[i].size ≤ 9223372036854775807 := hx _ (List.getElem_mem hlt_i)
  obtain ⟨ad17, hA17⟩ := (h0 _ S8.drop).addr (by simp [strs]; omega)
  have F18 := F15.sb 8 (by kernel_rfl) hc16
  have F19 := F18.sb 9 (by kernel_rfl) hc16
  refine op_wq F19 ?_
  refine op_q F19 (.int .i64 (↑i)) ?_; intro a20 F20
  refine op_wq F20 ?_
  refine op_q F20 (.bool (decide ((↑i : Int) < 6))) ?_; intro a21 F21
  refine op_q F21 (.bool (decide ((↑i : Int) < 6))) ?_; intro a22 F22
  refine wpList_nil ?_
  refine hK10 _ _ ?_; clear hK10 K10
  rcases btf (decide ((↑i : Int) < 6)) with hc23 | hc23
  ·have h6i : i < 6 := by have := of_decide_eq_true hc23; omega
   have F24 := F22.sb 11 (by kernel_rfl) hc23
   have F25 := F24.sb 12 (by kernel_rfl) hc23
   refine wp_cond_true (F25.ev (by kernel_rfl)) ?_
   refine wp_skip ?_
   refine hK9 _ _ ?_; clear hK9 K9
   refine wp_seq_k fun K26 hK26 => ?_
   refine wp_block ?_
   refine wp_region_lit ?_
   refine op_q F25 (.slice B es.length b) ?_; intro a27 F27
   refine op_q F27 (.slice (A) (xs.length) (c)) ?_; intro a28 F28
   refine op_q F28 (.int .i64 (↑i)) ?_; intro a29 F29
   refine op_rq (v := .pointer (some (ad17.add i))) F29 (r_ix rfl Try.underlying22 1 (by kernel_rfl) (F29.e (.slice (A) (xs.length) (c))) hA17 (F29.e (.int .i64 (↑i))) i (by first | rfl | omega | simp) (by first | omega | (simp; done) | (simp; omega)) (by simp only [Nat.mul_one])) ?_; intro a30 F30
   refine op_rq (v := .string xs[i]) F30 (r_ld rfl (F30.e (.pointer (some (ad17.add i)))) (v := .string xs[i]) ((h0 _ S8.drop).elA hA17 (j := i) (by simp only [strs, List.getElem?_map, List.getElem?_eq_getElem hlt_i]; rfl)) Try.underlying9 rfl) ?_; intro a31 F31
   refine op_cq F31 (f := 33) (args := #[.string xs[i]]) (chAscii_any xs[i] _ (by first | omega | (simp; done) | (simp; omega))) ?_
   rintro _ w32 ⟨rfl, hb_32⟩
   refine ⟨_, rfl, ?_⟩
   intro a33 F33
   have S32 := S8.below hb_32
   refine op_sq F33 (s_news F33 9 #[.string (ascF xs[i])] 1 (by kernel_rfl) (by kernel_rfl) (by kernel_rfl) S32) ?_
   rintro _ _ w35 ⟨g33, rfl, rfl⟩ S35 a35 F35
   refine op_sq F35 (s_app rfl Try.underlying22 1 _ tin9 rfl rfl (F35.e (.slice B es.length b)) S35.p1 ([Value.string (ascF xs[i])]) (F35.e (.slice (some ⟨g33, 0, none⟩) 1 1)) ((S35.bk 0 rfl).sl (by simp)) rfl (by simp [Value.oneCell']) (by omega) (by omega) (n' := (es ++ [ascF xs[i]]).length) (by first | (simp; done) | (simp; omega)) (cs' := strs (es ++ [ascF xs[i]])) (by simp [strs])) ?_
   rintro _ _ w37 ⟨A36, c36, rfl, rfl⟩ S37 a37 F37
   refine op_q F37 (.slice A36 ((es ++ [ascF xs[i]]).length) c36) ?_; intro a38 F38
   refine wpList_nil ?_
   refine hK26 _ _ ?_; clear hK26 K26
   refine wp_region_lit ?_
   refine op_q F38 (.int .i64 (↑i)) ?_; intro a39 F39
   refine op_rq (v := .int .i64 (↑(i + 1))) F39 (r_add (z := ↑(i + 1)) rfl (F39.e (.int .i64 (↑i))) (F39.e (.int .i64 1)) (wr64 (by omega) (by omega) (by omega))) ?_; intro a40 F40
   refine op_q F40 (.int .i64 (↑(i + 1))) ?_; intro a41 F41
   refine wpList_nil ?_
   exact hK8 _ _ _ (by first | omega | (simp; omega)) ⟨A36, c36, es ++ [ascF xs[i]], i + 1, rfl, (F41.kk 0 (F41.kk 2 (F41.kk 3 (F41.kk 4 F41.nil)))), S37.p1.drop, (by first | omega | (with_reducible assumption) | (simp; done)), (by first | omega | (with_reducible assumption) | (simp; done)), (by rw [hes, List.take_succ_eq_append_getElem hlt_i, List.map_append, List.map_cons, List.map_nil]), (by simp [hel])⟩
  ·have hsix : xs.length ≤ i ∨ 6 ≤ i := .inr (by have := of_decide_eq_false hc23; omega)
   obtain rfl : es = someF xs := by rw [hes, take_six hi hi6 hsix]; rfl
   have F42 := F22.sb 11 (by kernel_rfl) hc23
   have F43 := F42.sb 12 (by kernel_rfl) hc23
   refine wp_cond_false (F43.ev (by kernel_rfl)) ?_
   refine wp_exit ?_
   refine ex_then ?_; clear hK9 K9
   refine ex_then ?_
   refine ex_in ?_
   refine hK5 _ _ ?_; clear hK5 K5
   refine wp_seq_k fun K44 hK44 => ?_
   refine wp_region_lit ?_
   refine op_q F43 (.slice B (someF xs).length b) ?_; intro a45 F45
   refine op_q F45 (.slice B (someF xs).length b) ?_; intro a46 F46
   refine wpList_nil ?_
   refine hK44 _ _ ?_; clear hK44 K44
   refine wp_ret ?_
   refine (F46.res1 rfl (v := .slice B (someF xs).length b) (by kernel_rfl) ?_).1
   exact ⟨B, b, rfl, S8⟩
 ·have hsix : xs.length ≤ i ∨ 6 ≤ i := .inl (by have := of_decide_eq_false hc16; omega)
  obtain rfl : es = someF xs := by rw [hes, take_six hi hi6 hsix]; rfl
  have F47 := F15.sb 8 (by kernel_rfl) hc16
  have F48 := F47.sb 9 (by kernel_rfl) hc16
  refine op_kq F48 ?_; intro a49 F49
  refine op_kq F49 ?_; intro a50 F50
  refine op_q F50 (.bool false) ?_; intro a51 F51
  refine wpList_nil ?_
  refine hK10 _ _ ?_; clear hK10 K10
  refine wp_cond_false (F51.ev (by kernel_rfl)) ?_
  refine wp_exit ?_
  refine ex_then ?_; clear hK9 K9
  refine ex_then ?_
  refine ex_in ?_
  refine hK5 _ _ ?_; clear hK5 K5
  refine wp_seq_k fun K52 hK52 => ?_
  refine wp_region_lit ?_
  refine op_q F51 (.slice B (someF xs).length b) ?_; intro a53 F53
  refine op_q F53 (.slice B (someF xs).length b) ?_; intro a54 F54
  refine wpList_nil ?_
  refine hK52 _ _ ?_; clear hK52 K52
  refine wp_ret ?_
  refine (F54.res1 rfl (v := .slice B (someF xs).length b) (by kernel_rfl) ?_).1
  exact ⟨B, b, rfl, S8⟩
set_option maxRecDepth 100000 in
set_option maxHeartbeats 20000000 in
theorem ixVersion_sp (s : ByteArray) (R : Ctx) (L : List SA) (w : World) (S : Sp R w (L))  (hs : s.size ≤ 9223372036854775807) :
  Calls Try.prog 51 #[.string s] w fun e w' => ∃ v : ByteArray, e = .returned (.string v) ∧ Sp R w' (L) ∧ (∃ n, v = ixvF n) := by
 refine fw_enter (fn := Try.f51) rfl rfl 35 rfl (Nat.le_of_ble_eq_true rfl) ?_
 intro a0 F0
 refine wp_seq_k fun K1 hK1 => ?_
 refine wp_region_lit ?_
 refine op_q F0 (.string ⟨#[]⟩) ?_; intro a2 F2
 refine wpList_nil ?_
 refine hK1 _ _ ?_; clear hK1 K1
 refine wp_seq_k fun K3 hK3 => ?_
 refine wp_region_lit ?_
 refine op_q F2 (.int .i64 0) ?_; intro a4 F4
 refine wpList_nil ?_
 refine hK3 _ _ ?_; clear hK3 K3
 refine wp_seq_k fun K5 hK5 => ?_
 refine wp_seq_k fun K6 hK6 => ?_
 refine wp_region_lit ?_
 refine op_q F4 (.int .i64 0) ?_; intro a7 F7
 refine wpList_nil ?_
 refine hK6 _ _ ?_; clear hK6 K6
 refine wp_block ?_
 refine fw_loop (fun m' a' w' => ∃ n : Nat, ∃ i : Nat, s.size - i = m' ∧ Fr 35 [] a' [(0, .string s), (2, .string ⟨#[]⟩), (3, .int .i64 (↑n)), (4, .int .i64 (↑i))] ∧ Sp R w' (L) ∧ (i ≤ s.size) ∧ (n ≤ 100400)) _ ⟨0, 0, rfl, (F7.kk 0 (F7.kk 2 (F7.kk 3 (F7.kk 4 F7.nil)))), S, (by first | omega | (with_reducible assumption) | (simp; done)), (by first | omega | (with_reducible assumption) | (simp; done))⟩ ?_
 rintro m8 a8 w8 ⟨n, i, hm8, F8, S8, hi, hn⟩ K8 hK8
 by_cases hlt_i : i < s.size
 ·have hc_i : decide ((↑i : Int) < ↑s.size) = true := by first | (simp; done) | (simp; omega)
  have hbn : s[i].toNat < 256 := s[i].toNat_lt
  refine wp_seq_k fun K9 hK9 => ?_
  refine wp_seq_k fun K10 hK10 => ?_
  refine wp_region_lit ?_
  refine op_q F8 (.int .i64 (↑i)) ?_; intro a11 F11
  refine op_q F11 (.string s) ?_; intro a12 F12
  refine op_q F12 (.int .i64 (↑s.size)) ?_; intro a13 F13
  refine op_q F13 (.bool (decide ((↑i : Int) < ↑s.size))) ?_; intro a14 F14
  have F15 := F14.sb 8 (by kernel_rfl) hc_i
  refine wpList_nil ?_
  refine hK10 _ _ ?_; clear hK10 K10
  refine wp_cond_true (F15.ev (by kernel_rfl)) ?_
  refine wp_skip ?_
  refine hK9 _ _ ?_; clear hK9 K9
  refine wp_seq_k fun K16 hK16 => ?_
  refine wp_block ?_
  refine wp_region_lit ?_
  refine op_q F15 (.int .i64 (↑n)) ?_; intro a17 F17
  refine op_rq (v := .int .i64 (31 * ↑n)) F17 (r_mul (z := (31 * ↑n)) rfl (F17.e (.int .i64 31)) (F17.e (.int .i64 (↑n))) (wr64 (by omega) (by omega) (by omega))) ?_; intro a18 F18
  refine op_rq (v := .int .i64 (↑(31 * n % 100003))) F18 (r_remn rfl (F18.e (.int .i64 (31 * ↑n))) (n := (31 * n)) (by omega) (F18.e (.int .i64 100003)) (m := 100003) (by omega) (by omega)) ?_; intro a19 F19
  refine op_q F19 (.string s) ?_; intro a20 F20
  refine op_q F20 (.int .i64 (↑i)) ?_; intro a21 F21
  refine op_rq (v := .int .u8 (↑s[i].toNat)) F21 (r_index rfl Try.underlying9 (F21.e (.string s)) (F21.e (.int .i64 (↑i))) i (by first | rfl | omega | simp) (by first | omega | (simp; done) | (simp; omega))) ?_; intro a22 F22
  refine op_rq (v := .int .i64 (↑s[i].toNat)) F22 (r_cvi rfl Try.underlying5 Try.underlying3 (F22.e (.int .u8 (↑s[i].toNat))) (wr64 (by omega) (by omega) (by omega))) ?_; intro a23 F23
  refine op_rq (v := .int .i64 (↑(31 * n % 100003 + s[i].toNat))) F23 (r_add (z := ↑(31 * n % 100003 + s[i].toNat)) rfl (F23.e (.int .i64 (↑(31 * n % 100003)))) (F23.e (.int .i64 (↑s[i].toNat))) (wr64 (by omega) (by omega) (by omega))) ?_; intro a24 F24
  refine op_q F24 (.int .i64 (↑(31 * n % 100003 + s[i].toNat))) ?_; intro a25 F25
  refine wpList_nil ?_
  refine hK16 _ _ ?_; clear hK16 K16
  refine wp_region_lit ?_
  refine op_q F25 (.int .i64 (↑i)) ?_; intro a26 F26
  refine op_rq (v := .int .i64 (↑(i + 1))) F26 (r_add (z := ↑(i + 1)) rfl (F26.e (.int .i64 (↑i))) (F26.e (.int .i64 1)) (wr64 (by omega) (by omega) (by omega))) ?_; intro a27 F27
  refine op_q F27 (.int .i64 (↑(i + 1))) ?_; intro a28 F28
  refine wpList_nil ?_
  exact hK8 _ _ _ (by first | omega | (simp; omega)) ⟨31 * n % 100003 + s[i].toNat, i + 1, rfl, (F28.kk 0 (F28.kk 2 (F28.kk 3 (F28.kk 4 F28.nil)))), S8, (by first | omega | (with_reducible assumption) | (simp; done)), (by have := hbn; omega)⟩
 ·have hc_i : decide ((↑i : Int) < ↑s.size) = false := by first | (simp; done) | (simp; omega)
  obtain rfl : i = s.size := by omega
  refine wp_seq_k fun K29 hK29 => ?_
  refine wp_seq_k fun K30 hK30 => ?_
  refine wp_region_lit ?_
  refine op_q F8 (.int .i64 (↑s.size)) ?_; intro a31 F31
  refine op_q F31 (.string s) ?_; intro a32 F32
  refine op_q F32 (.int .i64 (↑s.size)) ?_; intro a33 F33
  refine op_q F33 (.bool (decide ((↑s.size : Int) < ↑s.size))) ?_; intro a34 F34
  have F35 := F34.sb 8 (by kernel_rfl) hc_i
  refine wpList_nil ?_
  refine hK30 _ _ ?_; clear hK30 K30
  refine wp_cond_false (F35.ev (by kernel_rfl)) ?_
  refine wp_exit ?_
  refine ex_then ?_; clear hK29 K29
  refine ex_then ?_
  refine ex_in ?_
  refine hK5 _ _ ?_; clear hK5 K5
  refine wp_seq_k fun K36 hK36 => ?_
  refine wp_region_lit ?_
  refine op_q F35 (.int .i64 (↑n)) ?_; intro a37 F37
  refine op_rq (v := .int .i64 (↑(n % 3))) F37 (r_remn rfl (F37.e (.int .i64 (↑n))) (n := n) (by omega) (F37.e (.int .i64 3)) (m := 3) (by omega) (by omega)) ?_; intro a38 F38
  refine op_rq (v := .int .i64 (↑(48 + (n % 3)))) F38 (r_add (z := ↑(48 + (n % 3))) rfl (F38.e (.int .i64 48)) (F38.e (.int .i64 (↑(n % 3)))) (wr64 (by omega) (by omega) (by omega))) ?_; intro a39 F39
  refine op_rq (v := .int .u8 (↑(48 + (n % 3)))) F39 (r_cvi rfl Try.underlying3 Try.underlying5 (F39.e (.int .i64 (↑(48 + (n % 3))))) (wru8 (by omega) (by omega) (by omega))) ?_; intro a40 F40
  refine op_q F40 (.int .i64 (↑n)) ?_; intro a41 F41
  refine op_rq (v := .int .i64 (↑(n / 3))) F41 (r_quon rfl (F41.e (.int .i64 (↑n))) (n := n) (by omega) (F41.e (.int .i64 3)) (m := 3) (by omega) (by omega) (by omega)) ?_; intro a42 F42
  refine op_rq (v := .int .i64 (↑(n / 3 % 4))) F42 (r_remn rfl (F42.e (.int .i64 (↑(n / 3)))) (n := (n / 3)) (by omega) (F42.e (.int .i64 4)) (m := 4) (by omega) (by omega)) ?_; intro a43 F43
  refine op_rq (v := .int .i64 (↑(48 + (n / 3 % 4)))) F43 (r_add (z := ↑(48 + (n / 3 % 4))) rfl (F43.e (.int .i64 48)) (F43.e (.int .i64 (↑(n / 3 % 4)))) (wr64 (by omega) (by omega) (by omega))) ?_; intro a44 F44
  refine op_rq (v := .int .u8 (↑(48 + (n / 3 % 4)))) F44 (r_cvi rfl Try.underlying3 Try.underlying5 (F44.e (.int .i64 (↑(48 + (n / 3 % 4))))) (wru8 (by omega) (by omega) (by omega))) ?_; intro a45 F45
  refine op_q F45 (.int .i64 (↑n)) ?_; intro a46 F46
  refine op_rq (v := .int .i64 (↑(n / 12))) F46 (r_quon rfl (F46.e (.int .i64 (↑n))) (n := n) (by omega) (F46.e (.int .i64 12)) (m := 12) (by omega) (by omega) (by omega)) ?_; intro a47 F47
  refine op_rq (v := .int .i64 (↑(n / 12 % 10))) F47 (r_remn rfl (F47.e (.int .i64 (↑(n / 12)))) (n := (n / 12)) (by omega) (F47.e (.int .i64 10)) (m := 10) (by omega) (by omega)) ?_; intro a48 F48
  refine op_rq (v := .int .i64 (↑(48 + (n / 12 % 10)))) F48 (r_add (z := ↑(48 + (n / 12 % 10))) rfl (F48.e (.int .i64 48)) (F48.e (.int .i64 (↑(n / 12 % 10)))) (wr64 (by omega) (by omega) (by omega))) ?_; intro a49 F49
  refine op_rq (v := .int .u8 (↑(48 + (n / 12 % 10)))) F49 (r_cvi rfl Try.underlying3 Try.underlying5 (F49.e (.int .i64 (↑(48 + (n / 12 % 10))))) (wru8 (by omega) (by omega) (by omega))) ?_; intro a50 F50
  refine op_sq F50 (s_news F50 5 #[.int .u8 (↑(48 + (n % 3))), .int .u8 46, .int .u8 (↑(48 + (n / 3 % 4))), .int .u8 46, .int .u8 (↑(48 + (n / 12 % 10)))] 5 (by kernel_rfl) (by kernel_rfl) (by kernel_rfl) S8) ?_
  rintro _ _ w52 ⟨g50, rfl, rfl⟩ S52 a52 F52
  have S53 : Sp R w52 (SA.own (.slice (some ⟨g50, 0, none⟩) 5 5) 5 1 5 (strCells (ixvF n)) :: L) := Sp.ofblk (sz := 1) (m := 5) S52 rfl (by omega) (ixv_cells n)
  refine op_rq (v := .string (ixvF n)) F52 (r_b2s rfl Try.underlying148 Try.underlying5 Try.underlying9 (F52.e (.slice (some ⟨g50, 0, none⟩) 5 5)) (b := ixvF n) (S53.ow 0 rfl)) ?_; intro a54 F54
  refine op_q F54 (.string (ixvF n)) ?_; intro a55 F55
  refine wpList_nil ?_
  refine hK36 _ _ ?_; clear hK36 K36
  refine wp_ret ?_
  refine (F55.res1 rfl (v := .string (ixvF n)) (by kernel_rfl) ?_).1
  exact ⟨ixvF n, rfl, S53.drop, ⟨n, rfl⟩⟩
abbrev zq17 (x0 : Ty69) : Array Value := #[.bool x0.fNil, .bool x0.fBare, .string x0.fMeta.fName, .string x0.fMeta.fHome, .string x0.fMeta.fVersion, .string x0.fMeta.fDescription, .string x0.fMeta.fIcon, .string x0.fMeta.fAPIVersion, .string x0.fMeta.fCondition, .string x0.fMeta.fTags, .string x0.fMeta.fAppVersion, .string x0.fMeta.fKubeVersion, .string x0.fMeta.fType, .slice (x0.fMeta.fSources_a) (x0.fMeta.fSources.length) (x0.fMeta.fSources_c), .slice (x0.fMeta.fKeywords_a) (x0.fMeta.fKeywords.length) (x0.fMeta.fKeywords_c), .slice (x0.fMeta.fMaintainers_a) (x0.fMeta.fMaintainers.length) (x0.fMeta.fMaintainers_c), .slice (x0.fMeta.fDependencies_a) (x0.fMeta.fDependencies.length) (x0.fMeta.fDependencies_c), .slice (x0.fURLs_a) (x0.fURLs.length) (x0.fURLs_c), .string x0.fDigest]
abbrev zq18 : Array Value := #[.bool false, .bool false, .string ⟨#[]⟩, .string ⟨#[]⟩, .string ⟨#[]⟩, .string ⟨#[]⟩, .string ⟨#[]⟩, .string ⟨#[]⟩, .string ⟨#[]⟩, .string ⟨#[]⟩, .string ⟨#[]⟩, .string ⟨#[]⟩, .string ⟨#[]⟩, .slice none 0 0, .slice none 0 0, .slice none 0 0, .slice none 0 0, .slice none 0 0, .string ⟨#[]⟩]
set_option maxRecDepth 100000 in
set_option maxHeartbeats 20000000 in
theorem ixEntry_sp (x : Ty69) (nm : ByteArray) (R : Ctx) (L : List SA) (w : World) (S : Sp R w (L)) (h0 : Rf R L fun w => Sl w (x.fURLs_a) (strs x.fURLs)) (hx : ∀ u ∈ x.fURLs, u.size ≤ 9223372036854775807) (hv : x.fMeta.fVersion.size ≤ 9223372036854775807) (hd : x.fMeta.fDescription.size ≤ 9223372036854775807) (hg : x.fDigest.size ≤ 9223372036854775807) :
  Calls Try.prog 34 #[.agg #[.bool x.fNil, .bool x.fBare, .string x.fMeta.fName, .string x.fMeta.fHome, .string x.fMeta.fVersion, .string x.fMeta.fDescription, .string x.fMeta.fIcon, .string x.fMeta.fAPIVersion, .string x.fMeta.fCondition, .string x.fMeta.fTags, .string x.fMeta.fAppVersion, .string x.fMeta.fKubeVersion, .string x.fMeta.fType, .slice (x.fMeta.fSources_a) (x.fMeta.fSources.length) (x.fMeta.fSources_c), .slice (x.fMeta.fKeywords_a) (x.fMeta.fKeywords.length) (x.fMeta.fKeywords_c), .slice (x.fMeta.fMaintainers_a) (x.fMeta.fMaintainers.length) (x.fMeta.fMaintainers_c), .slice (x.fMeta.fDependencies_a) (x.fMeta.fDependencies.length) (x.fMeta.fDependencies_c), .slice (x.fURLs_a) (x.fURLs.length) (x.fURLs_c), .string x.fDigest], .string nm] w fun e w' => ∃ v : ByteArray, ∃ Bu : Option Addr, ∃ bu : Nat, e = .returned (.agg #[.bool false, .bool false, .string nm, .string ⟨#[]⟩, .string v, .string (ascF x.fMeta.fDescription), .string ⟨#[]⟩, .string ⟨#[118, 50]⟩, .string ⟨#[]⟩, .string ⟨#[]⟩, .string ⟨#[]⟩, .string ⟨#[]⟩, .string ⟨#[]⟩, .slice none 0 0, .slice none 0 0, .slice none 0 0, .slice none 0 0, .slice Bu ((someF x.fURLs).length) bu, .string (ascF x.fDigest)]) ∧ Sp R w' (SA.own (.slice Bu (someF x.fURLs).length bu) 9 1 ((someF x.fURLs).length) (strs (someF x.fURLs)) :: L) ∧ (∃ n, v = ixvF n) := by
 have hl_x_fURLs : x.fURLs.length ≤ 9223372036854775807 := by have := (h0 _ S).1; simpa [strs, ptrs, pps] using this
 refine fw_enter (fn := Try.f34) rfl rfl 24 rfl (Nat.le_of_ble_eq_true rfl) ?_
 intro a0 F0
 refine wp_seq_k fun K1 hK1 => ?_
 refine wp_region_lit ?_
 refine op_sq F0 (s_newp F0 69 (zq17 x) (by kernel_rfl) (by kernel_rfl) (by kernel_rfl) S) ?_
 rintro _ _ w3 ⟨g1, rfl, rfl⟩ S3 a3 F3
 refine op_sq F3 (s_newp F3 69 zq18 (by kernel_rfl) (by kernel_rfl) (by kernel_rfl) S3) ?_
 rintro _ _ w5 ⟨g3, rfl, rfl⟩ S5 a5 F5
 refine wpList_nil ?_
 refine hK1 _ _ ?_; clear hK1 K1
 refine wp_seq_k fun K6 hK6 => ?_
 refine wp_region_sepF (L0 := SA.blk g3 69 zq18 :: SA.blk g1 69 (zq17 x) :: L) [some [], some [], some [(1, 7)], some [(2, 8)], some [(3, 9)], some [], some [(5, 11)], some [(6, 12)], some [(7, 13)], some [(0, 6), (3, 9), (4, 10), (8, 14)], some [], none] [.v 6 (.string nm), .v 7 (.pointer (some ⟨g1, 2, none⟩)), .v 8 (.pointer (some ⟨g1, 4, none⟩)), .v 9 (.string x.fMeta.fVersion), .p 10 (SA.emp) (fun _ vv AA => ∃ v38 : ByteArray, vv = .string v38 ∧ AA = SA.emp ∧ (∃ n, v38 = ixvF n)), .v 11 (.pointer (some ⟨g1, 2, none⟩)), .v 12 (.pointer (some ⟨g1, 5, none⟩)), .v 13 (.string x.fMeta.fDescription), .v 14 (.string (ascF x.fMeta.fDescription)), .p 15 (SA.emp) (fun env vv AA => ∃ v38x : ByteArray, (env.getD 2 undef) = .string v38x ∧ vv = .agg #[.string nm, .string ⟨#[]⟩, .string v38x, .string (ascF x.fMeta.fDescription), .string ⟨#[]⟩, .string ⟨#[118, 50]⟩, .string ⟨#[]⟩, .string ⟨#[]⟩, .string ⟨#[]⟩, .string ⟨#[]⟩, .string ⟨#[]⟩, .slice none 0 0, .slice none 0 0, .slice none 0 0, .slice none 0 0] ∧ AA = SA.emp), .p 5 (SA.emp) (fun _ vv AA => ∃ g52 : Nat, vv = .pointer (some ⟨g52, 0, none⟩) ∧ AA = SA.blk g52 26 zq8), .n SA.emp (fun _ _ A => A = SA.emp)] [] F5 rfl (by kernel_rfl) S5.emp.emp.emp ?_ ?_
 ·refine ⟨?_, ?_, ?_, ?_, ?_, ?_, ?_, ?_, ?_, ?_, ?_, trivial⟩
  ·intro w30 M30
   intro a30 F30 S30
   refine obl_of (by rfl) ?_
   exact s_p F30 (v := .string nm) (by kernel_rfl) (by kernel_rfl) (by kernel_rfl) S30
  ·intro w31 M31
   intro a31 F31 S31
   refine obl_of (by rfl) ?_
   exact s_p F31 (v := .pointer (some ⟨g1, 2, none⟩)) (by kernel_rfl) (by kernel_rfl) (by kernel_rfl) S31
  ·intro w32 M32
   intro a32 F32 S32
   refine obl_of (by rfl) ?_
   exact s_p F32 (v := .pointer (some ⟨g1, 4, none⟩)) (by kernel_rfl) (by kernel_rfl) (by kernel_rfl) S32
  ·intro w34 M34
   intro a34 F34 S34
   refine obl_of (by rfl) ?_
   exact s_r (v := .string x.fMeta.fVersion) (r_ld rfl (F34.e (.pointer (some ⟨g1, 4, none⟩))) (v := .string x.fMeta.fVersion) (((Sp.dropM S34.drop).bk 1 rfl).cell 4) Try.underlying9 rfl) S34
  ·intro w36 M36
   intro a36 F36 S36
   refine obl_of (by rfl) ?_
   refine s_c F36 (f := 51) (args := #[.string x.fMeta.fVersion]) (by kernel_rfl) (by kernel_rfl) (by kernel_rfl) (ixVersion_sp x.fMeta.fVersion _ _ _ S36.drop (by first | omega | (simp; done) | (simp; omega))) ?_
   rintro _ _ ⟨v38, rfl, S38, hp0_38⟩
   exact ⟨_, _, rfl, ⟨v38, rfl, rfl, hp0_38⟩, S38.emp⟩
  ·intro w39 M39
   intro a39 F39 S39
   refine obl_of (by rfl) ?_
   exact s_p F39 (v := .pointer (some ⟨g1, 2, none⟩)) (by kernel_rfl) (by kernel_rfl) (by kernel_rfl) S39
  ·intro w40 M40
   intro a40 F40 S40
   refine obl_of (by rfl) ?_
   exact s_p F40 (v := .pointer (some ⟨g1, 5, none⟩)) (by kernel_rfl) (by kernel_rfl) (by kernel_rfl) S40
  ·intro w42 M42
   intro a42 F42 S42
   refine obl_of (by rfl) ?_
   exact s_r (v := .string x.fMeta.fDescription) (r_ld rfl (F42.e (.pointer (some ⟨g1, 5, none⟩))) (v := .string x.fMeta.fDescription) (((Sp.dropM S42.drop).bk 1 rfl).cell 5) Try.underlying9 rfl) S42
  ·intro w44 M44
   intro a44 F44 S44
   refine obl_of (by rfl) ?_
   refine s_c F44 (f := 33) (args := #[.string x.fMeta.fDescription]) (by kernel_rfl) (by kernel_rfl) (by kernel_rfl) (chAscii_any x.fMeta.fDescription _ (by first | omega | (simp; done) | (simp; omega))) ?_
   rintro _ _ ⟨rfl, hb_46⟩
   exact ⟨_, _, rfl, ⟨rfl, rfl⟩, S44.below hb_46⟩
  ·intro w47 M47
   rintro _ _ ⟨v38, rfl, rfl, hp0_38⟩ hA50
   intro a47 F47 S47
   refine obl_of (by rfl) ?_
   exact sAt_mono (s_p F47 (v := .agg #[.string nm, .string ⟨#[]⟩, .string v38, .string (ascF x.fMeta.fDescription), .string ⟨#[]⟩, .string ⟨#[118, 50]⟩, .string ⟨#[]⟩, .string ⟨#[]⟩, .string ⟨#[]⟩, .string ⟨#[]⟩, .string ⟨#[]⟩, .slice none 0 0, .slice none 0 0, .slice none 0 0, .slice none 0 0]) (by kernel_rfl) (by kernel_rfl) (by kernel_rfl) S47) fun _ _ ⟨e1, e2⟩ => ⟨v38, (by kernel_rfl), e1, e2⟩
  ·intro w52 M52
   intro a52 F52 S52
   refine obl_of (by rfl) ?_
   exact s_newp F52 26 zq8 (by kernel_rfl) (by kernel_rfl) (by kernel_rfl) S52.drop
 ·rintro _ _ ⟨v38, rfl, rfl, hp0_38⟩
  rintro _ _ ⟨v38x, e9_2, rfl, rfl⟩
  have e9_2 := envE_at (v := .string v38) e9_2 (by kernel_rfl)
  obtain rfl : v38 = v38x := by cases e9_2; rfl
  clear e9_2
  rintro _ _ ⟨g52, rfl, rfl⟩
  intro a54 w53 F54 S53
  have S55 : Sp R w53 (SA.blk g52 26 zq8 :: SA.blk g3 69 zq18 :: SA.blk g1 69 (zq17 x) :: L) := S53.p1.drop.p1.drop
  refine op_sq0 F54 (s_stb rfl (F54.e (.pointer (some ⟨g52, 0, none⟩))) (F54.e (.agg #[.string nm, .string ⟨#[]⟩, .string v38, .string (ascF x.fMeta.fDescription), .string ⟨#[]⟩, .string ⟨#[118, 50]⟩, .string ⟨#[]⟩, .string ⟨#[]⟩, .string ⟨#[]⟩, .string ⟨#[]⟩, .string ⟨#[]⟩, .slice none 0 0, .slice none 0 0, .slice none 0 0, .slice none 0 0])) S55 (by kernel_rfl) rfl (by kernel_rfl)) ?_
  rintro _ _ w56 rfl S56 F56
  refine wpList_nil ?_
  refine hK6 _ _ ?_; clear hK6 K6
  refine wp_seq_k fun K57 hK57 => ?_
  refine wp_region_sepF (L0 := SA.blk g52 26 #[.string nm, .string ⟨#[]⟩, .string v38, .string (ascF x.fMeta.fDescription), .string ⟨#[]⟩, .string ⟨#[118, 50]⟩, .string ⟨#[]⟩, .string ⟨#[]⟩, .string ⟨#[]⟩, .string ⟨#[]⟩, .string ⟨#[]⟩, .slice none 0 0, .slice none 0 0, .slice none 0 0, .slice none 0 0] :: SA.blk g3 69 zq18 :: SA.blk g1 69 (zq17 x) :: L) [some [], some [], some [(1, 17)], some [(2, 18)], some [], some [(4, 20)], some [(5, 21)], some [(0, 16), (2, 18), (3, 19), (6, 22)], none] [.v 16 (.agg #[.string nm, .string ⟨#[]⟩, .string v38, .string (ascF x.fMeta.fDescription), .string ⟨#[]⟩, .string ⟨#[118, 50]⟩, .string ⟨#[]⟩, .string ⟨#[]⟩, .string ⟨#[]⟩, .string ⟨#[]⟩, .string ⟨#[]⟩, .slice none 0 0, .slice none 0 0, .slice none 0 0, .slice none 0 0]), .v 17 (.pointer (some ⟨g1, 17, none⟩)), .v 18 (.slice (x.fURLs_a) (x.fURLs.length) (x.fURLs_c)), .p 19 (SA.emp) (fun _ vv AA => ∃ B82 : Option Addr, ∃ b82 : Nat, vv = .slice B82 ((someF x.fURLs).length) b82 ∧ AA = SA.own (.slice B82 (someF x.fURLs).length b82) 9 1 ((someF x.fURLs).length) (strs (someF x.fURLs))), .v 20 (.pointer (some ⟨g1, 18, none⟩)), .v 21 (.string x.fDigest), .v 22 (.string (ascF x.fDigest)), .p 23 (SA.emp) (fun env vv AA => ∃ B82x : Option Addr, ∃ b82x : Nat, (env.getD 2 undef) = .slice B82x ((someF x.fURLs).length) b82x ∧ vv = .agg #[.bool false, .bool false, .string nm, .string ⟨#[]⟩, .string v38, .string (ascF x.fMeta.fDescription), .string ⟨#[]⟩, .string ⟨#[118, 50]⟩, .string ⟨#[]⟩, .string ⟨#[]⟩, .string ⟨#[]⟩, .string ⟨#[]⟩, .string ⟨#[]⟩, .slice none 0 0, .slice none 0 0, .slice none 0 0, .slice none 0 0, .slice B82x ((someF x.fURLs).length) b82x, .string (ascF x.fDigest)] ∧ AA = SA.emp), .n SA.emp (fun _ _ A => A = SA.emp)] [] F56 rfl (by kernel_rfl) S56.emp.emp ?_ ?_
  ·refine ⟨?_, ?_, ?_, ?_, ?_, ?_, ?_, ?_, trivial⟩
   ·intro w76 M76
    intro a76 F76 S76
    refine obl_of (by rfl) ?_
    exact s_r (v := .agg #[.string nm, .string ⟨#[]⟩, .string v38, .string (ascF x.fMeta.fDescription), .string ⟨#[]⟩, .string ⟨#[118, 50]⟩, .string ⟨#[]⟩, .string ⟨#[]⟩, .string ⟨#[]⟩, .string ⟨#[]⟩, .string ⟨#[]⟩, .slice none 0 0, .slice none 0 0, .slice none 0 0, .slice none 0 0]) (r_ldm rfl (F76.e (.pointer (some ⟨g52, 0, none⟩))) ((Sp.dropM S76.drop).bk 0 rfl) 15 (by kernel_rfl) Try.underlying26 rfl (by kernel_rfl) (v := #[.string nm, .string ⟨#[]⟩, .string v38, .string (ascF x.fMeta.fDescription), .string ⟨#[]⟩, .string ⟨#[118, 50]⟩, .string ⟨#[]⟩, .string ⟨#[]⟩, .string ⟨#[]⟩, .string ⟨#[]⟩, .string ⟨#[]⟩, .slice none 0 0, .slice none 0 0, .slice none 0 0, .slice none 0 0]) (by kernel_rfl)) S76
   ·intro w77 M77
    intro a77 F77 S77
    refine obl_of (by rfl) ?_
    exact s_p F77 (v := .pointer (some ⟨g1, 17, none⟩)) (by kernel_rfl) (by kernel_rfl) (by kernel_rfl) S77
   ·intro w78 M78
    intro a78 F78 S78
    refine obl_of (by rfl) ?_
    exact s_r (v := .slice (x.fURLs_a) (x.fURLs.length) (x.fURLs_c)) (r_ld rfl (F78.e (.pointer (some ⟨g1, 17, none⟩))) (v := .slice (x.fURLs_a) (x.fURLs.length) (x.fURLs_c)) (((Sp.dropM S78.drop).bk 2 rfl).cell 17) Try.underlying22 rfl) S78
   ·intro w80 M80
    intro a80 F80 S80
    refine obl_of (by rfl) ?_
    refine s_c F80 (f := 83) (args := #[.slice (x.fURLs_a) (x.fURLs.length) (x.fURLs_c)]) (by kernel_rfl) (by kernel_rfl) (by kernel_rfl) (chSome_sp x.fURLs_a x.fURLs_c x.fURLs _ _ _ S80.drop (fun w S => h0 w (Sp.dropM S).drop.drop.drop) (by first | omega | (simp; done) | (simp; omega))) ?_
    rintro _ _ ⟨B82, b82, rfl, S82⟩
    exact ⟨_, _, rfl, ⟨B82, b82, rfl, rfl⟩, S82⟩
   ·intro w83 M83
    intro a83 F83 S83
    refine obl_of (by rfl) ?_
    exact s_p F83 (v := .pointer (some ⟨g1, 18, none⟩)) (by kernel_rfl) (by kernel_rfl) (by kernel_rfl) S83
   ·intro w84 M84
    intro a84 F84 S84
    refine obl_of (by rfl) ?_
    exact s_r (v := .string x.fDigest) (r_ld rfl (F84.e (.pointer (some ⟨g1, 18, none⟩))) (v := .string x.fDigest) (((Sp.dropM S84.drop).bk 2 rfl).cell 18) Try.underlying9 rfl) S84
   ·intro w86 M86
    intro a86 F86 S86
    refine obl_of (by rfl) ?_
    refine s_c F86 (f := 33) (args := #[.string x.fDigest]) (by kernel_rfl) (by kernel_rfl) (by kernel_rfl) (chAscii_any x.fDigest _ (by first | omega | (simp; done) | (simp; omega))) ?_
    rintro _ _ ⟨rfl, hb_88⟩
    exact ⟨_, _, rfl, ⟨rfl, rfl⟩, S86.below hb_88⟩
   ·intro w89 M89
    rintro _ _ ⟨B82, b82, rfl, rfl⟩ hA92
    intro a89 F89 S89
    refine obl_of (by rfl) ?_
    exact sAt_mono (s_p F89 (v := .agg #[.bool false, .bool false, .string nm, .string ⟨#[]⟩, .string v38, .string (ascF x.fMeta.fDescription), .string ⟨#[]⟩, .string ⟨#[118, 50]⟩, .string ⟨#[]⟩, .string ⟨#[]⟩, .string ⟨#[]⟩, .string ⟨#[]⟩, .string ⟨#[]⟩, .slice none 0 0, .slice none 0 0, .slice none 0 0, .slice none 0 0, .slice B82 ((someF x.fURLs).length) b82, .string (ascF x.fDigest)]) (by kernel_rfl) (by kernel_rfl) (by kernel_rfl) S89) fun _ _ ⟨e1, e2⟩ => ⟨B82, b82, (by kernel_rfl), e1, e2⟩
  ·rintro _ _ ⟨B82, b82, rfl, rfl⟩
   rintro _ _ ⟨B82x, b82x, e7_2, rfl, rfl⟩
   have e7_2 := envE_at (v := .slice B82 ((someF x.fURLs).length) b82) e7_2 (by kernel_rfl)
   obtain ⟨rfl, rfl⟩ : B82 = B82x ∧ b82 = b82x := by cases e7_2; exact ⟨rfl, rfl⟩
   clear e7_2
   intro a95 w94 F95 S94
   have S96 : Sp R w94 (SA.own (.slice B82 (someF x.fURLs).length b82) 9 1 ((someF x.fURLs).length) (strs (someF x.fURLs)) :: SA.blk g52 26 #[.string nm, .string ⟨#[]⟩, .string v38, .string (ascF x.fMeta.fDescription), .string ⟨#[]⟩, .string ⟨#[118, 50]⟩, .string ⟨#[]⟩, .string ⟨#[]⟩, .string ⟨#[]⟩, .string ⟨#[]⟩, .string ⟨#[]⟩, .slice none 0 0, .slice none 0 0, .slice none 0 0, .slice none 0 0] :: SA.blk g3 69 zq18 :: SA.blk g1 69 (zq17 x) :: L) := S94.drop
   refine op_sq0 F95 (s_stb rfl (F95.e (.pointer (some ⟨g3, 0, none⟩))) (F95.e (.agg #[.bool false, .bool false, .string nm, .string ⟨#[]⟩, .string v38, .string (ascF x.fMeta.fDescription), .string ⟨#[]⟩, .string ⟨#[118, 50]⟩, .string ⟨#[]⟩, .string ⟨#[]⟩, .string ⟨#[]⟩, .string ⟨#[]⟩, .string ⟨#[]⟩, .slice none 0 0, .slice none 0 0, .slice none 0 0, .slice none 0 0, .slice B82 ((someF x.fURLs).length) b82, .string (ascF x.fDigest)])) S96.p2 (by kernel_rfl) rfl (by kernel_rfl)) ?_
   rintro _ _ w97 rfl S97 F97
   refine wpList_nil ?_
   refine hK57 _ _ ?_; clear hK57 K57
   refine wp_ret ?_
   refine (F97.resC (results1 (v := .agg #[.bool false, .bool false, .string nm, .string ⟨#[]⟩, .string v38, .string (ascF x.fMeta.fDescription), .string ⟨#[]⟩, .string ⟨#[118, 50]⟩, .string ⟨#[]⟩, .string ⟨#[]⟩, .string ⟨#[]⟩, .string ⟨#[]⟩, .string ⟨#[]⟩, .slice none 0 0, .slice none 0 0, .slice none 0 0, .slice none 0 0, .slice B82 ((someF x.fURLs).length) b82, .string (ascF x.fDigest)]) Try.results34 (F97.rvc (p := ⟨g3, 0, none⟩) (by kernel_rfl) (ld_mid (S97.bk 0 rfl) 19 (by kernel_rfl) Try.underlying69 rfl (by kernel_rfl) (v := #[.bool false, .bool false, .string nm, .string ⟨#[]⟩, .string v38, .string (ascF x.fMeta.fDescription), .string ⟨#[]⟩, .string ⟨#[118, 50]⟩, .string ⟨#[]⟩, .string ⟨#[]⟩, .string ⟨#[]⟩, .string ⟨#[]⟩, .string ⟨#[]⟩, .slice none 0 0, .slice none 0 0, .slice none 0 0, .slice none 0 0, .slice B82 ((someF x.fURLs).length) b82, .string (ascF x.fDigest)]) (by kernel_rfl)))) ?_).1
   exact ⟨v38, B82, b82, rfl, S97.drop.p1.drop.p1.drop, (by first | (with_reducible assumption) | omega)⟩
end Go.Proofs.Ytkjcedlgljeoiaa

/- Contracts: transform, ZzTransform, Transform. -/
namespace Go.Proofs.Ytkjcedlgljeoiaa
open Go.RowKit Go.Lib

abbrev markS : ByteArray := ⟨#[60, 67, 72, 65, 82, 84, 78, 65, 77, 69, 62]⟩
end Go.Proofs.Ytkjcedlgljeoiaa

/- Contract: HlAll. -/
namespace Go.Proofs.Ytkjcedlgljeoiaa
open Go.RowKit Go.Lib

def okB (set : ByteArray) (c : UInt8) : Bool := alnumU c.toNat || set.data.toList.any fun x => x == c
def allB (s set : ByteArray) : Bool := (s.data.toList.all fun c => okB set c) && !s.data.toList.isEmpty

def inSet (set : ByteArray) (j : Nat) (c : UInt8) : Bool := (set.data.toList.take j).any fun x => x == c

end Go.Proofs.Ytkjcedlgljeoiaa

/- Bytes that are names: special, alnum, hlSpecial, hlName. -/
namespace Go.Proofs.Ytkjcedlgljeoiaa
open Go.RowKit Go.Lib

def spU (n : Nat) : Bool := n == 42 || n == 35 || n == 36 || n == 64 || n == 33 || n == 63 || n == 45 || (48 ≤ n && n ≤ 57)
def nmU (n : Nat) : Bool := n == 95 || alnumU n
theorem enc_one {n : Nat} (h : n ≤ 127) : Utf8.encode (n : Int) = ⟨#[UInt8.ofNat n]⟩ := by
  have H : ((List.range 128).all fun n => decide ((Utf8.encode (n : Int)).data.toList = [UInt8.ofNat n])) = true := by kernel_rfl
  have := List.all_eq_true.1 H n (List.mem_range.2 (by omega))
  exact ByteArray.ext (Array.ext' (by simpa using this))
def sevenB : List ByteArray := [⟨#[42]⟩, ⟨#[35]⟩, ⟨#[36]⟩, ⟨#[64]⟩, ⟨#[33]⟩, ⟨#[63]⟩, ⟨#[45]⟩]
end Go.Proofs.Ytkjcedlgljeoiaa

/- FnHlTransform: the plain law and the walk. -/
namespace Go.Proofs.Ytkjcedlgljeoiaa
open Go.RowKit Go.Lib

/-- No byte of s is '<'. -/
def noLt (s : ByteArray) : Prop := ∀ j, ∀ h : j < s.size, s[j].toNat ≠ 60
end Go.Proofs.Ytkjcedlgljeoiaa

/- Contracts: hlShort, hlSame, hlPieces, HlLines. -/
namespace Go.Proofs.Ytkjcedlgljeoiaa
open Go.RowKit Go.Lib

def shortS (s : ByteArray) : Bool := decide (s.size ≤ 100) && s.data.toList.all fun c => decide (c.toNat ≤ 127)
def shortB (xs : List ByteArray) : Bool := decide (xs.length ≤ 30) && xs.all shortS

end Go.Proofs.Ytkjcedlgljeoiaa

/- spec.HlPlain, laws.hlWord, plain.Base; plain versions and their pieces. -/
namespace Go.Proofs.Ytkjcedlgljeoiaa
open Go.RowKit Go.Lib
set_option linter.unusedVariables false
set_option linter.unusedSimpArgs false
def catL (c : UInt8) : List ByteArray → List UInt8
  | [] => []
  | [x] => x.data.toList
  | x :: y :: l => x.data.toList ++ c :: catL c (y :: l)
theorem bytes_eqL {a b : ByteArray} (h : (a.toList == b.toList) = true) : a = b := by
  have e := eq_of_beq h
  rw [Go.ByteArray.toList_eq, Go.ByteArray.toList_eq] at e
  exact ByteArray.ext (Array.toList_inj.1 e)
def okN (p : ByteArray) : Bool := decide (0 < p.size) && (decide (p.size ≤ 9) && (p.data.toList.all digB && !(decide (1 < p.size) && p.data.toList.head? == some 48)))
def hpB (s : ByteArray) : Bool := (splitF ⟨#[46]⟩ (s.size + 1) s).all okN && (splitF ⟨#[46]⟩ (s.size + 1) s).length == 3
end Go.Proofs.Ytkjcedlgljeoiaa

/- spec.HlPlain, laws.hlWord, plain.Base. -/
namespace Go.Proofs.Ytkjcedlgljeoiaa
open Go.RowKit Go.Lib
set_option linter.unusedVariables false
set_option linter.unusedSimpArgs false
theorem emp_sz {a : ByteArray} (h : (a.toList == (⟨#[]⟩ : ByteArray).toList) = true) : a.size = 0 := by rw [bytes_eqL h]; rfl
theorem emp_pos {a : ByteArray} (h : (a.toList == (⟨#[]⟩ : ByteArray).toList) = false) : 0 < a.size := by
  rcases Nat.eq_zero_or_pos a.size with h0 | h0
  · have e : a = ⟨#[]⟩ := bytes_nil h0
    rw [e, beq_self_eq_true] at h; cases h
  · exact h0
def wB (s : ByteArray) : Bool := (s.data.toList.all fun c => decide (119 ≤ c.toNat) && decide (c.toNat ≤ 122)) && !(s.toList == (⟨#[]⟩ : ByteArray).toList)
end Go.Proofs.Ytkjcedlgljeoiaa

/- Maps with texts for keys, as parts of memory. -/
namespace Go.Proofs.Ytkjcedlgljeoiaa
open Go.RowKit Go.Lib

theorem Mp.stab {P : Program} {k : TypeId} {w w' : World} {g n : Nat} {f : ByteArray → Option Value} (h : Mp P k w g n f) (hk : w'.heap[g]? = w.heap[g]?) : Mp P k w' g n f := by
  obtain ⟨D, ⟨es, cl, h1, h2⟩, r⟩ := h
  exact ⟨D, ⟨es, cl, hk.trans h1, h2⟩, r⟩
/-- A map of at most n entries that has, at s, what f says. -/
def SA.mpo (P : Program) (k : TypeId) (g n : Nat) (f : ByteArray → Option Value) : SA :=
  ⟨fun w F => Mp P k w g n f ∧ ∀ j, F j ↔ j = g, fun h hk => ⟨h.1.stab (hk g ((h.2 g).2 rfl)), h.2⟩, fun h j hj => by rw [(h.2 j).1 hj]; exact h.1.lt⟩
section
variable {P : Program} {ops : Array Oper} {o : Oper} {a : Act} {w : World} {R : Ctx} {L : List SA} {k t e : TypeId} {g n : Nat} {f : ByteArray → Option Value}
theorem Sp.mpm (S : Sp R w L) (hm : SA.mpo P k g n f ∈ L) : Mp P k w g n f := let ⟨_, h, _⟩ := S.mem hm; h
theorem Sp.mpa (i : Nat) (S : Sp R w L) (hm : L[i]? = some (SA.mpo P k g n f)) : Mp P k w g n f := S.mpm (List.mem_of_getElem? hm)
theorem s_mkmap (ho : o.op = .makeMap t none) (k : TypeId) (S : Sp R w L) : sAt P R L o a w (fun v A => ∃ g : Nat, v = .map (some g) ∧ A = SA.mpo P k g 0 fun _ => none) := by
  unfold sAt execOp
  simp only [ho]
  have hr := run_makeMap (P := P) t w
  simp only [Option.map_none, hr, Sem.run_bind, Sem.run_pure, Result.andThen_ok]
  refine ⟨_, ⟨_, rfl, rfl⟩, S.new ((Below.refl _ _).alloc (Nat.le_refl _) _) (F := fun j => j = w.heap.size) ⟨Mp.new w P k, fun j => Iff.rfl⟩ fun j hj => by rw [hj]; exact Nat.le_refl _⟩
theorem s_mput {m x y : Operand} (ho : o.op = .mapUpdate t m x y) (hk : P.underlying k = some .string) (ht : P.underlying t = some (.map k e)) (hm : a.eval m = .map (some g)) {s : ByteArray} (hx : a.eval x = .string s) {v : Value} (hy : a.eval y = v)
    (S : Sp R w (SA.mpo P k g n f :: L)) (hn : n < maxLen) (hs : s.size ≤ maxLen) : sAt P R L o a w (fun _ A => A = SA.mpo P k g (n + 1) (fput f s v)) := by
  obtain ⟨D, hown, hM, hf⟩ := S.mpa 0 rfl
  obtain ⟨w', hrun, h1, h2⟩ := hown.update (Maps.string_keyed hk) ht hn (Go.WideMaps.keyOf_string_mk hk hs) (val := v) (d := .held v) (ps := []) rfl
  unfold sAt execOp
  simp only [ho, hm, hx, hy, hrun, Sem.run_bind, Sem.run_pure, Result.andThen_ok]
  refine ⟨_, rfl, S.upd h2.os h2.tape h2.output fun F hF => ⟨F, ⟨⟨_, h1, hM.put _ _, fun u => ?_⟩, hF.2⟩, fun k h => .inl h, fun j hj hn => h2.block j hj fun e => hn ((hF.2 j).2 (Option.some.inj e))⟩⟩
  by_cases e1 : u = s
  · subst e1
    simp only [fput, if_true]
    exact ⟨Maps.has_put_same hM (kS_key _) _, fun v' hv' z => by injection hv' with hv'; subst hv'; exact Maps.atKey_put_same hM (kS_key _) _ _⟩
  · have hne : kS u ≠ kS s := fun h => e1 (kS_inj h)
    simp only [fput, if_neg e1]
    obtain ⟨f1, f2⟩ := hf u
    refine ⟨?_, fun v' hv' z => ?_⟩
    · rw [← f1]; exact Maps.has_put_other hne _
    · rw [← f2 v' hv' z]; exact Maps.atKey_put_other hne _ _
theorem r_mlookok {m x : Operand} (ho : o.op = .lookup t m x true) (hk : P.underlying k = some .string) (ht : P.underlying t = some (.map k e)) {z : Value} (hz : (zeroValue e).run P w = .ok z w) (hm : a.eval m = .map (some g)) {s : ByteArray} (hx : a.eval x = .string s)
    (H : Mp P k w g n f) (hs : s.size ≤ maxLen) {u : Value} {b : Bool} (hv : f s = if b then some u else none) (hz2 : b = false → u = z) : (execOp a.eval o).run P w = .ok (.value (.tuple #[u, .bool b])) w := by
  obtain ⟨D, hown, _, hf⟩ := H
  obtain ⟨v, ps, hrun, hv2⟩ := hown.look_ok (Maps.string_keyed hk) ht hz (zd := .held z) (zp := []) rfl (Go.WideMaps.keyOf_string_mk hk hs)
  obtain ⟨h1, h2⟩ := hf s
  have hb : Maps.has D (kS s) = b := by rw [h1, hv]; cases b <;> rfl
  have e0 : v = u := by
    cases b with
    | false =>
      have e1 : D.atKey (.string s.data.toList) (.held z) = .held z := Maps.atKey_of_not_has (k := kS s) hb (.held z)
      rw [e1] at hv2
      simp only [heldR, Option.some.injEq, Prod.mk.injEq, DataW.held.injEq] at hv2
      rw [hv2.1, hz2 rfl]
    | true =>
      have e1 : D.atKey (.string s.data.toList) (.held z) = .held u := h2 u hv _
      rw [e1] at hv2
      simp only [heldR, Option.some.injEq, Prod.mk.injEq, DataW.held.injEq] at hv2
      exact hv2.1
  unfold execOp
  simp only [ho, hm, hx, Sem.run_bind, hrun, Result.andThen_ok, Sem.run_pure]
  rw [e0, show Maps.has D (.string s.data.toList) = b from hb]
end
end Go.Proofs.Ytkjcedlgljeoiaa

/- laws.chWord. -/
namespace Go.Proofs.Ytkjcedlgljeoiaa
open Go.RowKit Go.Lib
set_option linter.unusedVariables false
set_option linter.unusedSimpArgs false
/-- One to eight small letters. -/
def WordOk (b : ByteArray) : Prop := 0 < b.size ∧ b.size ≤ 8 ∧ ∀ j, ∀ h : j < b.size, 97 ≤ b[j].toNat ∧ b[j].toNat ≤ 122
theorem let_snoc {b : ByteArray} {n : Nat} (h : ∀ j, ∀ h : j < b.size, 97 ≤ b[j].toNat ∧ b[j].toNat ≤ 122) (hn : n < 26) : ∀ j, ∀ h : j < (b ++ (⟨#[UInt8.ofNat (97 + n)]⟩ : ByteArray)).size, 97 ≤ (b ++ (⟨#[UInt8.ofNat (97 + n)]⟩ : ByteArray))[j].toNat ∧ (b ++ (⟨#[UInt8.ofNat (97 + n)]⟩ : ByteArray))[j].toNat ≤ 122 := fun j hj => by
  by_cases hlt : j < b.size
  · rw [ByteArray.getElem_append_left hlt]; exact h j hlt
  · have hz : (⟨#[UInt8.ofNat (97 + n)]⟩ : ByteArray).size = 1 := rfl
    rw [ByteArray.size_append, hz] at hj
    have e : j - b.size = 0 := by omega
    rw [ByteArray.getElem_append_right (by omega)]
    simp only [e]
    have : ((⟨#[UInt8.ofNat (97 + n)]⟩ : ByteArray)[0]'(by show 0 < 1; omega)).toNat = 97 + n := by show (UInt8.ofNat (97 + n)).toNat = _; rw [UInt8.toNat_ofNat']; omega
    rw [this]; omega
theorem r_rune {a : Act} {o : Oper} {w : World} {P : Program} {src dst : TypeId} {x : Operand} (ho : o.op = .convert src dst x) {k : IntKind} {k2 : IntKind} (hs : P.underlying src = some (.int k2)) (hd : P.underlying dst = some .string) {z : Int} {n : Nat} (hx : a.eval x = .int k z) (hz : z = n) (hn : n ≤ 127) : (execOp a.eval o).run P w = .ok (.value (.string ⟨#[UInt8.ofNat n]⟩)) w := by
  subst hz
  rw [← enc_one hn]
  unfold execOp
  simp [ho, hx, convert, Sem.run_bind, run_underlying hs w, run_underlying hd w, Conv.intToString]
theorem x_word : WordOk ⟨#[120]⟩ := ⟨by decide, by decide, fun j h => by
  have hz : (⟨#[120]⟩ : ByteArray).size = 1 := rfl
  have : j = 0 := by omega
  subst this; show 97 ≤ (120 : UInt8).toNat ∧ (120 : UInt8).toNat ≤ 122; decide⟩
set_option maxRecDepth 100000 in
set_option maxHeartbeats 20000000 in
theorem chWord_sp (s : ByteArray) (R : Ctx) (L : List SA) (w : World) (S : Sp R w (L))  (hs : s.size ≤ 9223372036854775807) :
  Calls Try.prog 50 #[.string s] w fun e w' => ∃ b : ByteArray, e = .returned (.string b) ∧ Sp R w' (L) ∧ (WordOk b) := by
 refine fw_enter (fn := Try.f50) rfl rfl 28 rfl (Nat.le_of_ble_eq_true rfl) ?_
 intro a0 F0
 refine wp_seq_k fun K1 hK1 => ?_
 refine wp_region_lit ?_
 refine op_q F0 (.string ⟨#[]⟩) ?_; intro a2 F2
 refine wpList_nil ?_
 refine hK1 _ _ ?_; clear hK1 K1
 refine wp_seq_k fun K3 hK3 => ?_
 refine wp_region_lit ?_
 refine op_q F2 (.string ⟨#[]⟩) ?_; intro a4 F4
 refine wpList_nil ?_
 refine hK3 _ _ ?_; clear hK3 K3
 refine wp_seq_k fun K5 hK5 => ?_
 refine wp_seq_k fun K6 hK6 => ?_
 refine wp_region_lit ?_
 refine op_q F4 (.int .i64 0) ?_; intro a7 F7
 refine wpList_nil ?_
 refine hK6 _ _ ?_; clear hK6 K6
 refine wp_block ?_
 refine fw_loop (fun m' a' w' => ∃ b : ByteArray, ∃ i : Nat, s.size - i = m' ∧ Fr 28 [] a' [(0, .string s), (2, .string ⟨#[]⟩), (3, .string b), (4, .int .i64 (↑i))] ∧ Sp R w' (L) ∧ (i ≤ s.size) ∧ (b.size ≤ 8) ∧ (∀ j, ∀ h : j < b.size, 97 ≤ b[j].toNat ∧ b[j].toNat ≤ 122)) _ ⟨⟨#[]⟩, 0, rfl, (F7.kk 0 (F7.kk 2 (F7.kk 3 (F7.kk 4 F7.nil)))), S, (by first | omega | (with_reducible assumption) | (simp; done)), (by decide), (fun j h => absurd h (Nat.not_lt_zero _))⟩ ?_
 rintro m8 a8 w8 ⟨b, i, hm8, F8, S8, hi, hb8, hbl⟩ K8 hK8
 refine wp_seq_k fun K9 hK9 => ?_
 refine wp_seq_k fun K10 hK10 => ?_
 refine wp_region_lit ?_
 refine op_q F8 (.int .i64 (↑i)) ?_; intro a11 F11
 refine op_q F11 (.string s) ?_; intro a12 F12
 refine op_q F12 (.int .i64 (↑s.size)) ?_; intro a13 F13
 refine op_q F13 (.bool (decide ((↑i : Int) < ↑s.size))) ?_; intro a14 F14
 refine op_q F14 (.bool (decide ((↑i : Int) < ↑s.size))) ?_; intro a15 F15
 rcases btf (decide ((↑i : Int) < ↑s.size)) with hc16 | hc16
 ·have hlt_i : i < s.size := by have := of_decide_eq_true hc16; omega
  have hbn : s[i].toNat < 256 := s[i].toNat_lt
  have F17 := F15.sb 8 (by kernel_rfl) hc16
  have F18 := F17.sb 9 (by kernel_rfl) hc16
  refine op_wq F18 ?_
  refine op_q F18 (.string b) ?_; intro a19 F19
  refine op_wq F19 ?_
  refine op_q F19 (.int .i64 (↑b.size)) ?_; intro a20 F20
  refine op_wq F20 ?_
  refine op_q F20 (.bool (decide ((↑b.size : Int) < 8))) ?_; intro a21 F21
  refine op_q F21 (.bool (decide ((↑b.size : Int) < 8))) ?_; intro a22 F22
  refine wpList_nil ?_
  refine hK10 _ _ ?_; clear hK10 K10
  rcases btf (decide ((↑b.size : Int) < 8)) with hc23 | hc23
  ·have hc23p := of_decide_eq_true hc23
   have F24 := F22.sb 12 (by kernel_rfl) hc23
   have F25 := F24.sb 13 (by kernel_rfl) hc23
   refine wp_cond_true (F25.ev (by kernel_rfl)) ?_
   refine wp_skip ?_
   refine hK9 _ _ ?_; clear hK9 K9
   refine wp_seq_k fun K26 hK26 => ?_
   refine wp_block ?_
   refine wp_region_lit ?_
   refine op_q F25 (.string b) ?_; intro a27 F27
   refine op_q F27 (.string s) ?_; intro a28 F28
   refine op_q F28 (.int .i64 (↑i)) ?_; intro a29 F29
   refine op_rq (v := .int .u8 (↑s[i].toNat)) F29 (r_index rfl Try.underlying9 (F29.e (.string s)) (F29.e (.int .i64 (↑i))) i (by first | rfl | omega | simp) (by first | omega | (simp; done) | (simp; omega))) ?_; intro a30 F30
   refine op_rq (v := .int .u8 (↑(s[i].toNat % 26))) F30 (r_remn rfl (F30.e (.int .u8 (↑s[i].toNat))) (n := s[i].toNat) (by omega) (F30.e (.int .u8 26)) (m := 26) (by omega) (by omega)) ?_; intro a31 F31
   refine op_rq (v := .int .u8 (↑(97 + (s[i].toNat % 26)))) F31 (r_add (z := ↑(97 + (s[i].toNat % 26))) rfl (F31.e (.int .u8 97)) (F31.e (.int .u8 (↑(s[i].toNat % 26)))) (wru8 (by omega) (by omega) (by omega))) ?_; intro a32 F32
   refine op_rq (v := .int .i32 (↑(97 + (s[i].toNat % 26)))) F32 (r_cvi rfl Try.underlying5 Try.underlying21 (F32.e (.int .u8 (↑(97 + (s[i].toNat % 26))))) (wri32 (by omega) (by omega) (by omega))) ?_; intro a33 F33
   refine op_rq (v := .string (⟨#[UInt8.ofNat (97 + (s[i].toNat % 26))]⟩ : ByteArray)) F33 (r_rune rfl Try.underlying21 Try.underlying9 (F33.e (.int .i32 (↑(97 + (s[i].toNat % 26))))) (n := (97 + (s[i].toNat % 26))) (by omega) (by omega)) ?_; intro a34 F34
   refine op_rq (v := .string (b ++ (⟨#[UInt8.ofNat (97 + (s[i].toNat % 26))]⟩ : ByteArray))) F34 (r_sadd rfl (F34.e (.string b)) (F34.e (.string (⟨#[UInt8.ofNat (97 + (s[i].toNat % 26))]⟩ : ByteArray))) (by show b.size + (⟨#[UInt8.ofNat (97 + (s[i].toNat % 26))]⟩ : ByteArray).size ≤ 9223372036854775807; show b.size + 1 ≤ 9223372036854775807; omega)) ?_; intro a35 F35
   refine op_q F35 (.string (b ++ (⟨#[UInt8.ofNat (97 + (s[i].toNat % 26))]⟩ : ByteArray))) ?_; intro a36 F36
   refine wpList_nil ?_
   refine hK26 _ _ ?_; clear hK26 K26
   refine wp_region_lit ?_
   refine op_q F36 (.int .i64 (↑i)) ?_; intro a37 F37
   refine op_rq (v := .int .i64 (↑(i + 1))) F37 (r_add (z := ↑(i + 1)) rfl (F37.e (.int .i64 (↑i))) (F37.e (.int .i64 1)) (wr64 (by omega) (by omega) (by omega))) ?_; intro a38 F38
   refine op_q F38 (.int .i64 (↑(i + 1))) ?_; intro a39 F39
   refine wpList_nil ?_
   exact hK8 _ _ _ (by first | omega | (simp; omega)) ⟨b ++ (⟨#[UInt8.ofNat (97 + (s[i].toNat % 26))]⟩ : ByteArray), i + 1, rfl, (F39.kk 0 (F39.kk 2 (F39.kk 3 (F39.kk 4 F39.nil)))), S8, (by first | omega | (with_reducible assumption) | (simp; done)), (by rw [ByteArray.size_append]; show b.size + 1 ≤ 8; omega), (let_snoc hbl (by omega))⟩
  ·have hc23p := of_decide_eq_false hc23
   have F40 := F22.sb 12 (by kernel_rfl) hc23
   have F41 := F40.sb 13 (by kernel_rfl) hc23
   refine wp_cond_false (F41.ev (by kernel_rfl)) ?_
   refine wp_exit ?_
   refine ex_then ?_; clear hK9 K9
   refine ex_then ?_
   refine ex_in ?_
   refine hK5 _ _ ?_; clear hK5 K5
   refine wp_seq_k fun K42 hK42 => ?_
   refine wp_seq_k fun K43 hK43 => ?_
   refine wp_region_lit ?_
   refine op_q F41 (.string b) ?_; intro a44 F44
   refine op_q F44 (.bool (b.toList == (⟨#[]⟩ : ByteArray).toList)) ?_; intro a45 F45
   refine wpList_nil ?_
   refine hK43 _ _ ?_; clear hK43 K43
   rcases btf (b.toList == (⟨#[]⟩ : ByteArray).toList) with hc46 | hc46
   ·have F47 := F45.sb 26 (by kernel_rfl) hc46
    refine wp_cond_true (F47.ev (by kernel_rfl)) ?_
    refine wp_seq_k fun K48 hK48 => ?_
    refine wp_region_lit ?_
    refine op_q F47 (.string ⟨#[120]⟩) ?_; intro a49 F49
    refine wpList_nil ?_
    refine hK48 _ _ ?_; clear hK48 K48
    refine wp_ret ?_
    refine ret_then ?_
    refine (F49.res1 rfl (v := .string ⟨#[120]⟩) (by kernel_rfl) ?_).1
    exact ⟨(⟨#[120]⟩ : ByteArray), rfl, S8, x_word⟩
   ·have F50 := F45.sb 26 (by kernel_rfl) hc46
    refine wp_cond_false (F50.ev (by kernel_rfl)) ?_
    refine wp_skip ?_
    refine hK42 _ _ ?_; clear hK42 K42
    refine wp_seq_k fun K51 hK51 => ?_
    refine wp_region_lit ?_
    refine op_q F50 (.string b) ?_; intro a52 F52
    refine op_q F52 (.string b) ?_; intro a53 F53
    refine wpList_nil ?_
    refine hK51 _ _ ?_; clear hK51 K51
    refine wp_ret ?_
    refine (F53.res1 rfl (v := .string b) (by kernel_rfl) ?_).1
    exact ⟨b, rfl, S8, ⟨emp_pos hc46, hb8, hbl⟩⟩
 ·have hc16p := of_decide_eq_false hc16
  have F54 := F15.sb 8 (by kernel_rfl) hc16
  have F55 := F54.sb 9 (by kernel_rfl) hc16
  refine op_kq F55 ?_; intro a56 F56
  refine op_kq F56 ?_; intro a57 F57
  refine op_kq F57 ?_; intro a58 F58
  refine op_q F58 (.bool false) ?_; intro a59 F59
  refine wpList_nil ?_
  refine hK10 _ _ ?_; clear hK10 K10
  refine wp_cond_false (F59.ev (by kernel_rfl)) ?_
  refine wp_exit ?_
  refine ex_then ?_; clear hK9 K9
  refine ex_then ?_
  refine ex_in ?_
  refine hK5 _ _ ?_; clear hK5 K5
  refine wp_seq_k fun K60 hK60 => ?_
  refine wp_seq_k fun K61 hK61 => ?_
  refine wp_region_lit ?_
  refine op_q F59 (.string b) ?_; intro a62 F62
  refine op_q F62 (.bool (b.toList == (⟨#[]⟩ : ByteArray).toList)) ?_; intro a63 F63
  refine wpList_nil ?_
  refine hK61 _ _ ?_; clear hK61 K61
  rcases btf (b.toList == (⟨#[]⟩ : ByteArray).toList) with hc64 | hc64
  ·have F65 := F63.sb 26 (by kernel_rfl) hc64
   refine wp_cond_true (F65.ev (by kernel_rfl)) ?_
   refine wp_seq_k fun K66 hK66 => ?_
   refine wp_region_lit ?_
   refine op_q F65 (.string ⟨#[120]⟩) ?_; intro a67 F67
   refine wpList_nil ?_
   refine hK66 _ _ ?_; clear hK66 K66
   refine wp_ret ?_
   refine ret_then ?_
   refine (F67.res1 rfl (v := .string ⟨#[120]⟩) (by kernel_rfl) ?_).1
   exact ⟨(⟨#[120]⟩ : ByteArray), rfl, S8, x_word⟩
  ·have F68 := F63.sb 26 (by kernel_rfl) hc64
   refine wp_cond_false (F68.ev (by kernel_rfl)) ?_
   refine wp_skip ?_
   refine hK60 _ _ ?_; clear hK60 K60
   refine wp_seq_k fun K69 hK69 => ?_
   refine wp_region_lit ?_
   refine op_q F68 (.string b) ?_; intro a70 F70
   refine op_q F70 (.string b) ?_; intro a71 F71
   refine wpList_nil ?_
   refine hK69 _ _ ?_; clear hK69 K69
   refine wp_ret ?_
   refine (F71.res1 rfl (v := .string b) (by kernel_rfl) ?_).1
   exact ⟨b, rfl, S8, ⟨emp_pos hc64, hb8, hbl⟩⟩
end Go.Proofs.Ytkjcedlgljeoiaa

