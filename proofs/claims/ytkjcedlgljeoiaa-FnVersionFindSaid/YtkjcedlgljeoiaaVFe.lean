/- Texts Vf5, laid together. -/
import Derived.WalkKit
import Derived.WalkLawsBesides
import Derived.WalkSpells
import Derived.Lib.Hide
import Derived.Deep.RegionWith
import Derived.Deep.DeepCutAuto
import Derived.Deep.QuietTactic
import Derived.BigQuiet
import Derived.Laws.OwnMore
import Derived.Deep.LoopGhost
import Derived.KernelRfl
import Derived.Deep.WholeRow
import Derived.StillTail
import Derived.SliceStrings
import Derived.Deep.Slices
import Derived.Deep.Fields
import Derived.ChangeSame
import Derived.Deep.MidRow
import Derived.Maps.AppendAt
import Derived.Lib.AppendStr
import Derived.Lib.ConvBytes
import Derived.Laws.BytesArg
import Derived.Deep.RegionLaw
import Derived.OwnWalk
import Derived.Maps.OwnSet
import Derived.Maps.OwnOps
import Derived.ArgAppend
import Derived.Defers
import Derived.Recover
import Derived.Laws.Pointers
import Derived.Laws.StructEq
import Derived.IntWalk
import Derived.Test.YtkjcedlgljeoiaaProg
import Derived.BigRegion
import Derived.Deep.CutBlock
import Derived.Test.YtkjcedlgljeoiaaVFd
/- spec.IxSameEntry of the same; the walk of FnVersionFind. -/
namespace Go.Proofs.Ytkjcedlgljeoiaa
open Go.RowKit Go.Lib
set_option linter.unusedVariables false
set_option linter.unusedSimpArgs false
set_option maxRecDepth 100000 in
set_option maxHeartbeats 20000000 in
theorem sameEnt0_yes (x : Ty69) (y : Ty69) (R : Ctx) (L : List SA) (w : World) (S : Sp R w (L)) (h0 : Rf R L fun w => Sl w (x.fURLs_a) (strs x.fURLs)) (h1 : Rf R L fun w => Sl w (y.fURLs_a) (strs y.fURLs)) (h2 : Rf R L fun w => MetaAt w x.fMeta) (h3 : Rf R L fun w => MetaAt w y.fMeta) (he : entS x = entS y) :
    Calls Try.prog 88 #[.agg #[.bool x.fNil, .bool x.fBare, .string x.fMeta.fName, .string x.fMeta.fHome, .string x.fMeta.fVersion, .string x.fMeta.fDescription, .string x.fMeta.fIcon, .string x.fMeta.fAPIVersion, .string x.fMeta.fCondition, .string x.fMeta.fTags, .string x.fMeta.fAppVersion, .string x.fMeta.fKubeVersion, .string x.fMeta.fType, .slice (x.fMeta.fSources_a) (x.fMeta.fSources.length) (x.fMeta.fSources_c), .slice (x.fMeta.fKeywords_a) (x.fMeta.fKeywords.length) (x.fMeta.fKeywords_c), .slice (x.fMeta.fMaintainers_a) (x.fMeta.fMaintainers.length) (x.fMeta.fMaintainers_c), .slice (x.fMeta.fDependencies_a) (x.fMeta.fDependencies.length) (x.fMeta.fDependencies_c), .slice (x.fURLs_a) (x.fURLs.length) (x.fURLs_c), .string x.fDigest], .agg #[.bool y.fNil, .bool y.fBare, .string y.fMeta.fName, .string y.fMeta.fHome, .string y.fMeta.fVersion, .string y.fMeta.fDescription, .string y.fMeta.fIcon, .string y.fMeta.fAPIVersion, .string y.fMeta.fCondition, .string y.fMeta.fTags, .string y.fMeta.fAppVersion, .string y.fMeta.fKubeVersion, .string y.fMeta.fType, .slice (y.fMeta.fSources_a) (y.fMeta.fSources.length) (y.fMeta.fSources_c), .slice (y.fMeta.fKeywords_a) (y.fMeta.fKeywords.length) (y.fMeta.fKeywords_c), .slice (y.fMeta.fMaintainers_a) (y.fMeta.fMaintainers.length) (y.fMeta.fMaintainers_c), .slice (y.fMeta.fDependencies_a) (y.fMeta.fDependencies.length) (y.fMeta.fDependencies_c), .slice (y.fURLs_a) (y.fURLs.length) (y.fURLs_c), .string y.fDigest]] w fun e w' => e = .returned (.bool true) ∧ Sp R w' (L) := by
  have hl_x_fURLs : x.fURLs.length ≤ 9223372036854775807 := by have := (h0 _ S).1; simpa [strs, ptrs, pps] using this
  have hl_y_fURLs : y.fURLs.length ≤ 9223372036854775807 := by have := (h1 _ S).1; simpa [strs, ptrs, pps] using this
  have hE : ∀ {α : Type} (f : Ty69 → α), f (entS x) = f (entS y) := fun f => by rw [he]
  have hn_Nil : x.fNil = y.fNil := hE (·.fNil)
  have hn_Bare : x.fBare = y.fBare := hE (·.fBare)
  have hn_Digest : x.fDigest = y.fDigest := hE (·.fDigest)
  have heU : y.fURLs = x.fURLs := (hE (·.fURLs)).symm
  have heM : metS x.fMeta = metS y.fMeta := hE (·.fMeta)
  refine fw_enter (fn := Try.f88) rfl rfl 38 rfl (Nat.le_of_ble_eq_true rfl) ?_
  intro a0 F0
  refine wp_seq_k fun K1 hK1 => ?_
  refine wp_region_lit ?_
  refine op_sq F0 (s_newp F0 69 #[.bool x.fNil, .bool x.fBare, .string x.fMeta.fName, .string x.fMeta.fHome, .string x.fMeta.fVersion, .string x.fMeta.fDescription, .string x.fMeta.fIcon, .string x.fMeta.fAPIVersion, .string x.fMeta.fCondition, .string x.fMeta.fTags, .string x.fMeta.fAppVersion, .string x.fMeta.fKubeVersion, .string x.fMeta.fType, .slice (x.fMeta.fSources_a) (x.fMeta.fSources.length) (x.fMeta.fSources_c), .slice (x.fMeta.fKeywords_a) (x.fMeta.fKeywords.length) (x.fMeta.fKeywords_c), .slice (x.fMeta.fMaintainers_a) (x.fMeta.fMaintainers.length) (x.fMeta.fMaintainers_c), .slice (x.fMeta.fDependencies_a) (x.fMeta.fDependencies.length) (x.fMeta.fDependencies_c), .slice (x.fURLs_a) (x.fURLs.length) (x.fURLs_c), .string x.fDigest] (by kernel_rfl) (by kernel_rfl) (by kernel_rfl) S) ?_
  rintro _ _ w3 ⟨g1, rfl, rfl⟩ S3 a3 F3
  refine op_sq F3 (s_newp F3 69 #[.bool y.fNil, .bool y.fBare, .string y.fMeta.fName, .string y.fMeta.fHome, .string y.fMeta.fVersion, .string y.fMeta.fDescription, .string y.fMeta.fIcon, .string y.fMeta.fAPIVersion, .string y.fMeta.fCondition, .string y.fMeta.fTags, .string y.fMeta.fAppVersion, .string y.fMeta.fKubeVersion, .string y.fMeta.fType, .slice (y.fMeta.fSources_a) (y.fMeta.fSources.length) (y.fMeta.fSources_c), .slice (y.fMeta.fKeywords_a) (y.fMeta.fKeywords.length) (y.fMeta.fKeywords_c), .slice (y.fMeta.fMaintainers_a) (y.fMeta.fMaintainers.length) (y.fMeta.fMaintainers_c), .slice (y.fMeta.fDependencies_a) (y.fMeta.fDependencies.length) (y.fMeta.fDependencies_c), .slice (y.fURLs_a) (y.fURLs.length) (y.fURLs_c), .string y.fDigest] (by kernel_rfl) (by kernel_rfl) (by kernel_rfl) S3) ?_
  rintro _ _ w5 ⟨g3, rfl, rfl⟩ S5 a5 F5
  refine op_q F5 (.bool false) ?_; intro a6 F6
  refine wpList_nil ?_
  refine hK1 _ _ ?_; clear hK1 K1
  refine wp_seq_k fun K7 hK7 => ?_
  refine wp_region_lit ?_
  refine op_q F6 (.pointer (some ⟨g1, 0, none⟩)) ?_; intro a8 F8
  refine op_rq (v := .bool x.fNil) F8 (r_ld rfl (F8.e (.pointer (some ⟨g1, 0, none⟩))) (v := .bool x.fNil) ((S5.bk 1 rfl).cell 0) Try.underlying4 rfl) ?_; intro a9 F9
  refine op_q F9 (.pointer (some ⟨g3, 0, none⟩)) ?_; intro a10 F10
  refine op_rq (v := .bool y.fNil) F10 (r_ld rfl (F10.e (.pointer (some ⟨g3, 0, none⟩))) (v := .bool y.fNil) ((S5.bk 0 rfl).cell 0) Try.underlying4 rfl) ?_; intro a11 F11
  refine op_q F11 (.bool (x.fNil == y.fNil)) ?_; intro a12 F12
  refine op_q F12 (.bool (x.fNil == y.fNil)) ?_; intro a13 F13
  have hc14 : (x.fNil == y.fNil) = true := (by rw [hn_Nil]; exact beq_self_eq_true _)
  have F15 := F13.sb 9 (by kernel_rfl) hc14
  have F16 := F15.sb 10 (by kernel_rfl) hc14
  refine op_wq F16 ?_
  refine op_q F16 (.pointer (some ⟨g1, 1, none⟩)) ?_; intro a17 F17
  refine op_wq F17 ?_
  refine op_rq (v := .bool x.fBare) F17 (r_ld rfl (F17.e (.pointer (some ⟨g1, 1, none⟩))) (v := .bool x.fBare) ((S5.bk 1 rfl).cell 1) Try.underlying4 rfl) ?_; intro a18 F18
  refine op_wq F18 ?_
  refine op_q F18 (.pointer (some ⟨g3, 1, none⟩)) ?_; intro a19 F19
  refine op_wq F19 ?_
  refine op_rq (v := .bool y.fBare) F19 (r_ld rfl (F19.e (.pointer (some ⟨g3, 1, none⟩))) (v := .bool y.fBare) ((S5.bk 0 rfl).cell 1) Try.underlying4 rfl) ?_; intro a20 F20
  refine op_wq F20 ?_
  refine op_q F20 (.bool (x.fBare == y.fBare)) ?_; intro a21 F21
  refine op_q F21 (.bool (x.fBare == y.fBare)) ?_; intro a22 F22
  refine op_q F22 (.bool (x.fBare == y.fBare)) ?_; intro a23 F23
  have hc24 : (x.fBare == y.fBare) = true := (by rw [hn_Bare]; exact beq_self_eq_true _)
  have F25 := F23.sb 15 (by kernel_rfl) hc24
  have F26 := F25.sb 16 (by kernel_rfl) hc24
  have F27 := F26.sb 17 (by kernel_rfl) hc24
  refine op_wq F27 ?_
  refine op_q F27 (.pointer (some ⟨g1, 18, none⟩)) ?_; intro a28 F28
  refine op_wq F28 ?_
  refine op_rq (v := .string x.fDigest) F28 (r_ld rfl (F28.e (.pointer (some ⟨g1, 18, none⟩))) (v := .string x.fDigest) ((S5.bk 1 rfl).cell 18) Try.underlying9 rfl) ?_; intro a29 F29
  refine op_wq F29 ?_
  refine op_q F29 (.pointer (some ⟨g3, 18, none⟩)) ?_; intro a30 F30
  refine op_wq F30 ?_
  refine op_rq (v := .string y.fDigest) F30 (r_ld rfl (F30.e (.pointer (some ⟨g3, 18, none⟩))) (v := .string y.fDigest) ((S5.bk 0 rfl).cell 18) Try.underlying9 rfl) ?_; intro a31 F31
  refine op_wq F31 ?_
  refine op_q F31 (.bool (x.fDigest.toList == y.fDigest.toList)) ?_; intro a32 F32
  refine op_q F32 (.bool (x.fDigest.toList == y.fDigest.toList)) ?_; intro a33 F33
  refine op_q F33 (.bool (x.fDigest.toList == y.fDigest.toList)) ?_; intro a34 F34
  have hc35 : (x.fDigest.toList == y.fDigest.toList) = true := (by rw [hn_Digest]; exact beq_self_eq_true _)
  have F36 := F34.sb 22 (by kernel_rfl) hc35
  have F37 := F36.sb 23 (by kernel_rfl) hc35
  have F38 := F37.sb 24 (by kernel_rfl) hc35
  refine op_wq F38 ?_
  refine op_q F38 (.pointer (some ⟨g1, 17, none⟩)) ?_; intro a39 F39
  refine op_wq F39 ?_
  refine op_rq (v := .slice (x.fURLs_a) (x.fURLs.length) (x.fURLs_c)) F39 (r_ld rfl (F39.e (.pointer (some ⟨g1, 17, none⟩))) (v := .slice (x.fURLs_a) (x.fURLs.length) (x.fURLs_c)) ((S5.bk 1 rfl).cell 17) Try.underlying22 rfl) ?_; intro a40 F40
  refine op_wq F40 ?_
  refine op_q F40 (.pointer (some ⟨g3, 17, none⟩)) ?_; intro a41 F41
  refine op_wq F41 ?_
  refine op_rq (v := .slice (y.fURLs_a) (y.fURLs.length) (y.fURLs_c)) F41 (r_ld rfl (F41.e (.pointer (some ⟨g3, 17, none⟩))) (v := .slice (y.fURLs_a) (y.fURLs.length) (y.fURLs_c)) ((S5.bk 0 rfl).cell 17) Try.underlying22 rfl) ?_; intro a42 F42
  refine op_wq F42 ?_
  refine op_cq F42 (f := 123) (args := #[.slice (x.fURLs_a) (x.fURLs.length) (x.fURLs_c), .slice (y.fURLs_a) (y.fURLs.length) (y.fURLs_c)]) (chTexts_eq x.fURLs_a x.fURLs_c x.fURLs y.fURLs_a y.fURLs_c y.fURLs _ _ _ S5 (fun w S => h0 w S.drop.drop) (fun w S => h1 w S.drop.drop) (by with_reducible assumption)) ?_
  rintro _ w43 ⟨rfl, S43⟩
  refine ⟨_, rfl, ?_⟩
  intro a44 F44
  refine op_q F44 (.bool true) ?_; intro a45 F45
  refine op_q F45 (.bool true) ?_; intro a46 F46
  refine op_wq F46 ?_
  refine op_q F46 (.pointer (some ⟨g1, 2, none⟩)) ?_; intro a47 F47
  refine op_wq F47 ?_
  refine op_rq (v := .agg #[.string x.fMeta.fName, .string x.fMeta.fHome, .string x.fMeta.fVersion, .string x.fMeta.fDescription, .string x.fMeta.fIcon, .string x.fMeta.fAPIVersion, .string x.fMeta.fCondition, .string x.fMeta.fTags, .string x.fMeta.fAppVersion, .string x.fMeta.fKubeVersion, .string x.fMeta.fType, .slice (x.fMeta.fSources_a) (x.fMeta.fSources.length) (x.fMeta.fSources_c), .slice (x.fMeta.fKeywords_a) (x.fMeta.fKeywords.length) (x.fMeta.fKeywords_c), .slice (x.fMeta.fMaintainers_a) (x.fMeta.fMaintainers.length) (x.fMeta.fMaintainers_c), .slice (x.fMeta.fDependencies_a) (x.fMeta.fDependencies.length) (x.fMeta.fDependencies_c)]) F47 (r_ldm rfl (F47.e (.pointer (some ⟨g1, 2, none⟩))) (S43.bk 1 rfl) 15 (by kernel_rfl) Try.underlying26 rfl (by kernel_rfl) (v := #[.string x.fMeta.fName, .string x.fMeta.fHome, .string x.fMeta.fVersion, .string x.fMeta.fDescription, .string x.fMeta.fIcon, .string x.fMeta.fAPIVersion, .string x.fMeta.fCondition, .string x.fMeta.fTags, .string x.fMeta.fAppVersion, .string x.fMeta.fKubeVersion, .string x.fMeta.fType, .slice (x.fMeta.fSources_a) (x.fMeta.fSources.length) (x.fMeta.fSources_c), .slice (x.fMeta.fKeywords_a) (x.fMeta.fKeywords.length) (x.fMeta.fKeywords_c), .slice (x.fMeta.fMaintainers_a) (x.fMeta.fMaintainers.length) (x.fMeta.fMaintainers_c), .slice (x.fMeta.fDependencies_a) (x.fMeta.fDependencies.length) (x.fMeta.fDependencies_c)]) (by kernel_rfl)) ?_; intro a48 F48
  refine op_wq F48 ?_
  refine op_q F48 (.pointer (some ⟨g3, 2, none⟩)) ?_; intro a49 F49
  refine op_wq F49 ?_
  refine op_rq (v := .agg #[.string y.fMeta.fName, .string y.fMeta.fHome, .string y.fMeta.fVersion, .string y.fMeta.fDescription, .string y.fMeta.fIcon, .string y.fMeta.fAPIVersion, .string y.fMeta.fCondition, .string y.fMeta.fTags, .string y.fMeta.fAppVersion, .string y.fMeta.fKubeVersion, .string y.fMeta.fType, .slice (y.fMeta.fSources_a) (y.fMeta.fSources.length) (y.fMeta.fSources_c), .slice (y.fMeta.fKeywords_a) (y.fMeta.fKeywords.length) (y.fMeta.fKeywords_c), .slice (y.fMeta.fMaintainers_a) (y.fMeta.fMaintainers.length) (y.fMeta.fMaintainers_c), .slice (y.fMeta.fDependencies_a) (y.fMeta.fDependencies.length) (y.fMeta.fDependencies_c)]) F49 (r_ldm rfl (F49.e (.pointer (some ⟨g3, 2, none⟩))) (S43.bk 0 rfl) 15 (by kernel_rfl) Try.underlying26 rfl (by kernel_rfl) (v := #[.string y.fMeta.fName, .string y.fMeta.fHome, .string y.fMeta.fVersion, .string y.fMeta.fDescription, .string y.fMeta.fIcon, .string y.fMeta.fAPIVersion, .string y.fMeta.fCondition, .string y.fMeta.fTags, .string y.fMeta.fAppVersion, .string y.fMeta.fKubeVersion, .string y.fMeta.fType, .slice (y.fMeta.fSources_a) (y.fMeta.fSources.length) (y.fMeta.fSources_c), .slice (y.fMeta.fKeywords_a) (y.fMeta.fKeywords.length) (y.fMeta.fKeywords_c), .slice (y.fMeta.fMaintainers_a) (y.fMeta.fMaintainers.length) (y.fMeta.fMaintainers_c), .slice (y.fMeta.fDependencies_a) (y.fMeta.fDependencies.length) (y.fMeta.fDependencies_c)]) (by kernel_rfl)) ?_; intro a50 F50
  refine op_wq F50 ?_
  refine op_cq F50 (f := 62) (args := #[.agg #[.string x.fMeta.fName, .string x.fMeta.fHome, .string x.fMeta.fVersion, .string x.fMeta.fDescription, .string x.fMeta.fIcon, .string x.fMeta.fAPIVersion, .string x.fMeta.fCondition, .string x.fMeta.fTags, .string x.fMeta.fAppVersion, .string x.fMeta.fKubeVersion, .string x.fMeta.fType, .slice (x.fMeta.fSources_a) (x.fMeta.fSources.length) (x.fMeta.fSources_c), .slice (x.fMeta.fKeywords_a) (x.fMeta.fKeywords.length) (x.fMeta.fKeywords_c), .slice (x.fMeta.fMaintainers_a) (x.fMeta.fMaintainers.length) (x.fMeta.fMaintainers_c), .slice (x.fMeta.fDependencies_a) (x.fMeta.fDependencies.length) (x.fMeta.fDependencies_c)], .agg #[.string y.fMeta.fName, .string y.fMeta.fHome, .string y.fMeta.fVersion, .string y.fMeta.fDescription, .string y.fMeta.fIcon, .string y.fMeta.fAPIVersion, .string y.fMeta.fCondition, .string y.fMeta.fTags, .string y.fMeta.fAppVersion, .string y.fMeta.fKubeVersion, .string y.fMeta.fType, .slice (y.fMeta.fSources_a) (y.fMeta.fSources.length) (y.fMeta.fSources_c), .slice (y.fMeta.fKeywords_a) (y.fMeta.fKeywords.length) (y.fMeta.fKeywords_c), .slice (y.fMeta.fMaintainers_a) (y.fMeta.fMaintainers.length) (y.fMeta.fMaintainers_c), .slice (y.fMeta.fDependencies_a) (y.fMeta.fDependencies.length) (y.fMeta.fDependencies_c)]]) (sameMeta_yes x.fMeta y.fMeta _ _ _ S43 (fun w S => h2 w S.drop.drop) (fun w S => h3 w S.drop.drop) (by with_reducible assumption)) ?_
  rintro _ w51 ⟨rfl, S51⟩
  refine ⟨_, rfl, ?_⟩
  intro a52 F52
  refine op_q F52 (.bool true) ?_; intro a53 F53
  refine op_q F53 (.bool true) ?_; intro a54 F54
  refine wpList_nil ?_
  refine hK7 _ _ ?_; clear hK7 K7
  refine wp_ret ?_
  refine (F54.res1 rfl (v := .bool true) (by kernel_rfl) ?_).1
  exact ⟨rfl, S51.drop.drop⟩
set_option maxRecDepth 100000 in
set_option maxHeartbeats 20000000 in
theorem sameEnt_yes (x : Ty69) (y : Ty69) (R : Ctx) (L : List SA) (w : World) (S : Sp R w (L)) (h0 : Rf R L fun w => Sl w (x.fURLs_a) (strs x.fURLs)) (h1 : Rf R L fun w => Sl w (y.fURLs_a) (strs y.fURLs)) (h2 : Rf R L fun w => MetaAt w x.fMeta) (h3 : Rf R L fun w => MetaAt w y.fMeta) (he : entS x = entS y) :
    Calls Try.prog 36 #[.agg #[.bool x.fNil, .bool x.fBare, .string x.fMeta.fName, .string x.fMeta.fHome, .string x.fMeta.fVersion, .string x.fMeta.fDescription, .string x.fMeta.fIcon, .string x.fMeta.fAPIVersion, .string x.fMeta.fCondition, .string x.fMeta.fTags, .string x.fMeta.fAppVersion, .string x.fMeta.fKubeVersion, .string x.fMeta.fType, .slice (x.fMeta.fSources_a) (x.fMeta.fSources.length) (x.fMeta.fSources_c), .slice (x.fMeta.fKeywords_a) (x.fMeta.fKeywords.length) (x.fMeta.fKeywords_c), .slice (x.fMeta.fMaintainers_a) (x.fMeta.fMaintainers.length) (x.fMeta.fMaintainers_c), .slice (x.fMeta.fDependencies_a) (x.fMeta.fDependencies.length) (x.fMeta.fDependencies_c), .slice (x.fURLs_a) (x.fURLs.length) (x.fURLs_c), .string x.fDigest], .agg #[.bool y.fNil, .bool y.fBare, .string y.fMeta.fName, .string y.fMeta.fHome, .string y.fMeta.fVersion, .string y.fMeta.fDescription, .string y.fMeta.fIcon, .string y.fMeta.fAPIVersion, .string y.fMeta.fCondition, .string y.fMeta.fTags, .string y.fMeta.fAppVersion, .string y.fMeta.fKubeVersion, .string y.fMeta.fType, .slice (y.fMeta.fSources_a) (y.fMeta.fSources.length) (y.fMeta.fSources_c), .slice (y.fMeta.fKeywords_a) (y.fMeta.fKeywords.length) (y.fMeta.fKeywords_c), .slice (y.fMeta.fMaintainers_a) (y.fMeta.fMaintainers.length) (y.fMeta.fMaintainers_c), .slice (y.fMeta.fDependencies_a) (y.fMeta.fDependencies.length) (y.fMeta.fDependencies_c), .slice (y.fURLs_a) (y.fURLs.length) (y.fURLs_c), .string y.fDigest]] w fun e w' => e = .returned (.bool true) ∧ Sp R w' (L) := by
  have hl_x_fURLs : x.fURLs.length ≤ 9223372036854775807 := by have := (h0 _ S).1; simpa [strs, ptrs, pps] using this
  have hl_y_fURLs : y.fURLs.length ≤ 9223372036854775807 := by have := (h1 _ S).1; simpa [strs, ptrs, pps] using this
  refine fw_enter (fn := Try.f36) rfl rfl 8 rfl (Nat.le_of_ble_eq_true rfl) ?_
  intro a0 F0
  refine wp_seq_k fun K1 hK1 => ?_
  refine wp_region_lit ?_
  refine op_sq F0 (s_newp F0 69 #[.bool x.fNil, .bool x.fBare, .string x.fMeta.fName, .string x.fMeta.fHome, .string x.fMeta.fVersion, .string x.fMeta.fDescription, .string x.fMeta.fIcon, .string x.fMeta.fAPIVersion, .string x.fMeta.fCondition, .string x.fMeta.fTags, .string x.fMeta.fAppVersion, .string x.fMeta.fKubeVersion, .string x.fMeta.fType, .slice (x.fMeta.fSources_a) (x.fMeta.fSources.length) (x.fMeta.fSources_c), .slice (x.fMeta.fKeywords_a) (x.fMeta.fKeywords.length) (x.fMeta.fKeywords_c), .slice (x.fMeta.fMaintainers_a) (x.fMeta.fMaintainers.length) (x.fMeta.fMaintainers_c), .slice (x.fMeta.fDependencies_a) (x.fMeta.fDependencies.length) (x.fMeta.fDependencies_c), .slice (x.fURLs_a) (x.fURLs.length) (x.fURLs_c), .string x.fDigest] (by kernel_rfl) (by kernel_rfl) (by kernel_rfl) S) ?_
  rintro _ _ w3 ⟨g1, rfl, rfl⟩ S3 a3 F3
  refine op_sq F3 (s_newp F3 69 #[.bool y.fNil, .bool y.fBare, .string y.fMeta.fName, .string y.fMeta.fHome, .string y.fMeta.fVersion, .string y.fMeta.fDescription, .string y.fMeta.fIcon, .string y.fMeta.fAPIVersion, .string y.fMeta.fCondition, .string y.fMeta.fTags, .string y.fMeta.fAppVersion, .string y.fMeta.fKubeVersion, .string y.fMeta.fType, .slice (y.fMeta.fSources_a) (y.fMeta.fSources.length) (y.fMeta.fSources_c), .slice (y.fMeta.fKeywords_a) (y.fMeta.fKeywords.length) (y.fMeta.fKeywords_c), .slice (y.fMeta.fMaintainers_a) (y.fMeta.fMaintainers.length) (y.fMeta.fMaintainers_c), .slice (y.fMeta.fDependencies_a) (y.fMeta.fDependencies.length) (y.fMeta.fDependencies_c), .slice (y.fURLs_a) (y.fURLs.length) (y.fURLs_c), .string y.fDigest] (by kernel_rfl) (by kernel_rfl) (by kernel_rfl) S3) ?_
  rintro _ _ w5 ⟨g3, rfl, rfl⟩ S5 a5 F5
  refine op_q F5 (.bool false) ?_; intro a6 F6
  refine wpList_nil ?_
  refine hK1 _ _ ?_; clear hK1 K1
  refine wp_seq_k fun K7 hK7 => ?_
  refine wp_region_lit ?_
  refine op_rq (v := .agg #[.bool x.fNil, .bool x.fBare, .string x.fMeta.fName, .string x.fMeta.fHome, .string x.fMeta.fVersion, .string x.fMeta.fDescription, .string x.fMeta.fIcon, .string x.fMeta.fAPIVersion, .string x.fMeta.fCondition, .string x.fMeta.fTags, .string x.fMeta.fAppVersion, .string x.fMeta.fKubeVersion, .string x.fMeta.fType, .slice (x.fMeta.fSources_a) (x.fMeta.fSources.length) (x.fMeta.fSources_c), .slice (x.fMeta.fKeywords_a) (x.fMeta.fKeywords.length) (x.fMeta.fKeywords_c), .slice (x.fMeta.fMaintainers_a) (x.fMeta.fMaintainers.length) (x.fMeta.fMaintainers_c), .slice (x.fMeta.fDependencies_a) (x.fMeta.fDependencies.length) (x.fMeta.fDependencies_c), .slice (x.fURLs_a) (x.fURLs.length) (x.fURLs_c), .string x.fDigest]) F6 (r_ldm rfl (F6.e (.pointer (some ⟨g1, 0, none⟩))) (S5.bk 1 rfl) 19 (by kernel_rfl) Try.underlying69 rfl (by kernel_rfl) (v := #[.bool x.fNil, .bool x.fBare, .string x.fMeta.fName, .string x.fMeta.fHome, .string x.fMeta.fVersion, .string x.fMeta.fDescription, .string x.fMeta.fIcon, .string x.fMeta.fAPIVersion, .string x.fMeta.fCondition, .string x.fMeta.fTags, .string x.fMeta.fAppVersion, .string x.fMeta.fKubeVersion, .string x.fMeta.fType, .slice (x.fMeta.fSources_a) (x.fMeta.fSources.length) (x.fMeta.fSources_c), .slice (x.fMeta.fKeywords_a) (x.fMeta.fKeywords.length) (x.fMeta.fKeywords_c), .slice (x.fMeta.fMaintainers_a) (x.fMeta.fMaintainers.length) (x.fMeta.fMaintainers_c), .slice (x.fMeta.fDependencies_a) (x.fMeta.fDependencies.length) (x.fMeta.fDependencies_c), .slice (x.fURLs_a) (x.fURLs.length) (x.fURLs_c), .string x.fDigest]) (by kernel_rfl)) ?_; intro a8 F8
  refine op_rq (v := .agg #[.bool y.fNil, .bool y.fBare, .string y.fMeta.fName, .string y.fMeta.fHome, .string y.fMeta.fVersion, .string y.fMeta.fDescription, .string y.fMeta.fIcon, .string y.fMeta.fAPIVersion, .string y.fMeta.fCondition, .string y.fMeta.fTags, .string y.fMeta.fAppVersion, .string y.fMeta.fKubeVersion, .string y.fMeta.fType, .slice (y.fMeta.fSources_a) (y.fMeta.fSources.length) (y.fMeta.fSources_c), .slice (y.fMeta.fKeywords_a) (y.fMeta.fKeywords.length) (y.fMeta.fKeywords_c), .slice (y.fMeta.fMaintainers_a) (y.fMeta.fMaintainers.length) (y.fMeta.fMaintainers_c), .slice (y.fMeta.fDependencies_a) (y.fMeta.fDependencies.length) (y.fMeta.fDependencies_c), .slice (y.fURLs_a) (y.fURLs.length) (y.fURLs_c), .string y.fDigest]) F8 (r_ldm rfl (F8.e (.pointer (some ⟨g3, 0, none⟩))) (S5.bk 0 rfl) 19 (by kernel_rfl) Try.underlying69 rfl (by kernel_rfl) (v := #[.bool y.fNil, .bool y.fBare, .string y.fMeta.fName, .string y.fMeta.fHome, .string y.fMeta.fVersion, .string y.fMeta.fDescription, .string y.fMeta.fIcon, .string y.fMeta.fAPIVersion, .string y.fMeta.fCondition, .string y.fMeta.fTags, .string y.fMeta.fAppVersion, .string y.fMeta.fKubeVersion, .string y.fMeta.fType, .slice (y.fMeta.fSources_a) (y.fMeta.fSources.length) (y.fMeta.fSources_c), .slice (y.fMeta.fKeywords_a) (y.fMeta.fKeywords.length) (y.fMeta.fKeywords_c), .slice (y.fMeta.fMaintainers_a) (y.fMeta.fMaintainers.length) (y.fMeta.fMaintainers_c), .slice (y.fMeta.fDependencies_a) (y.fMeta.fDependencies.length) (y.fMeta.fDependencies_c), .slice (y.fURLs_a) (y.fURLs.length) (y.fURLs_c), .string y.fDigest]) (by kernel_rfl)) ?_; intro a9 F9
  refine op_cq F9 (f := 88) (args := #[.agg #[.bool x.fNil, .bool x.fBare, .string x.fMeta.fName, .string x.fMeta.fHome, .string x.fMeta.fVersion, .string x.fMeta.fDescription, .string x.fMeta.fIcon, .string x.fMeta.fAPIVersion, .string x.fMeta.fCondition, .string x.fMeta.fTags, .string x.fMeta.fAppVersion, .string x.fMeta.fKubeVersion, .string x.fMeta.fType, .slice (x.fMeta.fSources_a) (x.fMeta.fSources.length) (x.fMeta.fSources_c), .slice (x.fMeta.fKeywords_a) (x.fMeta.fKeywords.length) (x.fMeta.fKeywords_c), .slice (x.fMeta.fMaintainers_a) (x.fMeta.fMaintainers.length) (x.fMeta.fMaintainers_c), .slice (x.fMeta.fDependencies_a) (x.fMeta.fDependencies.length) (x.fMeta.fDependencies_c), .slice (x.fURLs_a) (x.fURLs.length) (x.fURLs_c), .string x.fDigest], .agg #[.bool y.fNil, .bool y.fBare, .string y.fMeta.fName, .string y.fMeta.fHome, .string y.fMeta.fVersion, .string y.fMeta.fDescription, .string y.fMeta.fIcon, .string y.fMeta.fAPIVersion, .string y.fMeta.fCondition, .string y.fMeta.fTags, .string y.fMeta.fAppVersion, .string y.fMeta.fKubeVersion, .string y.fMeta.fType, .slice (y.fMeta.fSources_a) (y.fMeta.fSources.length) (y.fMeta.fSources_c), .slice (y.fMeta.fKeywords_a) (y.fMeta.fKeywords.length) (y.fMeta.fKeywords_c), .slice (y.fMeta.fMaintainers_a) (y.fMeta.fMaintainers.length) (y.fMeta.fMaintainers_c), .slice (y.fMeta.fDependencies_a) (y.fMeta.fDependencies.length) (y.fMeta.fDependencies_c), .slice (y.fURLs_a) (y.fURLs.length) (y.fURLs_c), .string y.fDigest]]) (sameEnt0_yes x y _ _ _ S5 (fun w S => h0 w S.drop.drop) (fun w S => h1 w S.drop.drop) (fun w S => h2 w S.drop.drop) (fun w S => h3 w S.drop.drop) (by with_reducible assumption)) ?_
  rintro _ w10 ⟨rfl, S10⟩
  refine ⟨_, rfl, ?_⟩
  intro a11 F11
  refine op_q F11 (.bool true) ?_; intro a12 F12
  refine wpList_nil ?_
  refine hK7 _ _ ?_; clear hK7 K7
  refine wp_ret ?_
  refine (F12.res1 rfl (v := .bool true) (by kernel_rfl) ?_).1
  exact ⟨rfl, S10.drop.drop⟩
/-- The URLs of an entry of one's own. -/
abbrev SA.uv (x : Ty69) : SA := SA.own0 (.slice x.fURLs_a x.fURLs.length x.fURLs_c) 9 1 x.fURLs.length (strs x.fURLs)
def IxIn (x : Ty69) : Prop := ∃ nm s desc dig B b us, x = ixE nm (verF s) desc dig B b us ∧ s.size ≤ 60 ∧ us.length ≤ 6
theorem entT_in {x : Ty69} (h : IxIn x) : entT x = entS x := by obtain ⟨nm, s, desc, dig, B, b, us, rfl, _, _⟩ := h; rfl
theorem in_ok {x : Ty69} (h : IxIn x) : EntOk x := by
  obtain ⟨nm, s, desc, dig, B, b, us, rfl, _, h2⟩ := h
  exact ⟨rfl, rfl, by show us.length ≤ 200; omega, rfl, fun d hd => by cases hd⟩
theorem in_ver {x : Ty69} (h : IxIn x) : VerOk x := by
  obtain ⟨nm, s, desc, dig, B, b, us, rfl, h1, _⟩ := h
  exact ⟨by show (verF s).size ≤ 1000000; have := verF_size s; omega, verF_cases s⟩
theorem in_meta {x : Ty69} (h : IxIn x) (w : World) : MetaAt w x.fMeta := by
  obtain ⟨nm, s, desc, dig, B, b, us, rfl, h1, _⟩ := h
  exact ⟨Sl.nil, Sl.nil, Rows.nil, Rows.nil, fun d hd => by cases hd⟩
theorem in_urls {x : Ty69} (h : IxIn x) : x.fURLs.length ≤ 6 := by
  obtain ⟨nm, s, desc, dig, B, b, us, rfl, _, h2⟩ := h; exact h2
theorem Sp.uvAt {R : Ctx} {w : World} {L : List SA} {xs : List Ty69} (i : Nat) (S : Sp R w L) (hm : L[i]? = some (SA.stars (xs.map SA.uv))) (hin : ∀ x ∈ xs, IxIn x) : ∀ x ∈ xs, Sl w x.fURLs_a (strs x.fURLs) ∧ MetaAt w x.fMeta := fun x hx => by
  obtain ⟨L', S'⟩ := S.at i hm
  have S2 := Sp.stars.1 S'
  exact ⟨own0_sl1 (S2.ow0m (List.mem_append_left _ (List.mem_map.2 ⟨x, hx, rfl⟩))) (by have := in_urls (hin x hx); omega), in_meta (hin x hx) w⟩
theorem Sp.evAt {R : Ctx} {w : World} {L : List SA} {y x : Ty69} (i : Nat) (S : Sp R w L) (hm : L[i]? = some (SA.ev y)) (he : entS y = entS x) (hx : IxIn x) : Sl w y.fURLs_a (strs y.fURLs) ∧ MetaAt w y.fMeta := by
  obtain ⟨L', S'⟩ := S.at i hm
  have S2 := Sp.star.1 S'
  have hE : ∀ {α : Type} (f : Ty69 → α), f (entS y) = f (entS x) := fun f => by rw [he]
  have hu : y.fURLs = x.fURLs := hE (·.fURLs)
  have h6 := in_urls hx
  obtain ⟨nm, s, desc, dig, B, b, us, rfl, _, _⟩ := hx
  have e1 : y.fMeta.fSources = [] := hE (·.fMeta.fSources)
  have e2 : y.fMeta.fKeywords = [] := hE (·.fMeta.fKeywords)
  have e3 : y.fMeta.fMaintainers = [] := hE (·.fMeta.fMaintainers)
  have e4 : y.fMeta.fDependencies.map depS = [] := hE (·.fMeta.fDependencies)
  have e4 : y.fMeta.fDependencies = [] := by simpa using e4
  exact ⟨own0_sl1 (S2.ow0 1 rfl) (by rw [hu]; omega), S2.mvF (by rw [e1]; decide) (by rw [e2]; decide) (by rw [e3]; decide) (by rw [e4]; decide) (by rw [e4]; exact fun d hd => by cases hd)⟩
/-- The first one that is wanted, or none. -/
def AtR (v : ByteArray) (xs : List Ty69) (at_ : Int) : Prop := (at_ = -1 ∧ ∀ x ∈ xs, vtst v x = false) ∨ ∃ (k : Nat) (h : k < xs.length), at_ = k ∧ vtst v xs[k] = true ∧ ∀ j, ∀ h : j < xs.length, j < k → vtst v xs[j] = false
/-- The same, for those from m on. -/
def AtM (v : ByteArray) (xs : List Ty69) (at_ : Int) (m : Nat) : Prop := (at_ = -1 ∧ ∀ j, ∀ h : j < xs.length, m ≤ j → vtst v xs[j] = false) ∨ ∃ (k : Nat) (h : k < xs.length), m ≤ k ∧ at_ = k ∧ vtst v xs[k] = true ∧ ∀ j, ∀ h : j < xs.length, m ≤ j → j < k → vtst v xs[j] = false
theorem atM_0 {v : ByteArray} {xs : List Ty69} {at_ : Int} (h : AtM v xs at_ 0) : AtR v xs at_ := by
  rcases h with ⟨h1, h2⟩ | ⟨k, h, _, h1, h2, h3⟩
  · exact .inl ⟨h1, fun x hx => by obtain ⟨j, hj, rfl⟩ := List.mem_iff_getElem.1 hx; exact h2 j hj (Nat.zero_le _)⟩
  · exact .inr ⟨k, h, h1, h2, fun j hj hjk => h3 j hj (Nat.zero_le _) hjk⟩
theorem atM_yes {v : ByteArray} {xs : List Ty69} {m : Nat} (hm : m - 1 < xs.length) (h : vtst v xs[m - 1] = true) : AtM v xs ((m - 1 : Nat) : Int) (m - 1) :=
  .inr ⟨m - 1, hm, Nat.le_refl _, rfl, h, fun j _ h1 h2 => by omega⟩
theorem atM_no {v : ByteArray} {xs : List Ty69} {at_ : Int} {m : Nat} (hm0 : 0 < m) (hm : m - 1 < xs.length) (H : AtM v xs at_ m) (h : vtst v xs[m - 1] = false) : AtM v xs at_ (m - 1) := by
  have hone : ∀ j, ∀ hj : j < xs.length, m - 1 ≤ j → ¬ m ≤ j → vtst v xs[j] = false := fun j hj h1 h2 => by
    have : j = m - 1 := by omega
    subst this; exact h
  rcases H with ⟨h1, h2⟩ | ⟨k, hk, hmk, h1, h2, h3⟩
  · exact .inl ⟨h1, fun j hj hmj => by by_cases c : m ≤ j; exact h2 j hj c; exact hone j hj hmj c⟩
  · exact .inr ⟨k, hk, by omega, h1, h2, fun j hj hmj hjk => by by_cases c : m ≤ j; exact h3 j hj c hjk; exact hone j hj hmj c⟩
theorem found_none {v : ByteArray} {xs : List Ty69} {y : Ty69} {f : Int} (h : FoundE v xs y f) (h2 : ∀ x ∈ xs, vtst v x = false) : f = 1 := by
  rcases h with ⟨_, k, hk, h3, _⟩ | ⟨h, _⟩
  · rw [h2 _ (List.getElem_mem hk)] at h3; cases h3
  · exact h
theorem found_some {v : ByteArray} {xs : List Ty69} {y : Ty69} {f : Int} {k : Nat} (h : FoundE v xs y f) (hk : k < xs.length) (h2 : vtst v xs[k] = true) (h3 : ∀ j, ∀ h : j < xs.length, j < k → vtst v xs[j] = false) : f = 0 ∧ entS y = entT xs[k] := by
  rcases h with ⟨h, k', hk', h4, h5, h6⟩ | ⟨_, h⟩
  · have : k' = k := by
      rcases Nat.lt_trichotomy k' k with c | c | c
      · rw [h3 k' hk' c] at h4; cases h4
      · exact c
      · rw [h5 k hk c] at h2; cases h2
    subst this
    exact ⟨h, h6⟩
  · rw [h _ (List.getElem_mem hk)] at h2; cases h2
theorem vtst_ne {v : ByteArray} {x : Ty69} {q : Bool} (hv : plainB v = true ∨ errB v = true) (hx : plainB x.fMeta.fVersion = true ∨ errB x.fMeta.fVersion = true) (h : ((x.fURLs.length : Int) == 0) = false) (h2 : (v.toList == (⟨#[]⟩ : ByteArray).toList) = false) (h3 : (v.toList == x.fMeta.fVersion.toList) = q) : vtst v x = q := by
  refine vtst_eq h h2 ?_
  rw [eqvF_eq hv hx, ← h3]
  cases h : v.toList == x.fMeta.fVersion.toList with
  | true => exact decide_eq_true (bytes_eqL h)
  | false => exact decide_eq_false fun e => by rw [e] at h; rw [beq_self_eq_true] at h; cases h
theorem pos_url {x : Ty69} {q : Bool} (h : decide ((0 : Int) < x.fURLs.length) = q) : ((x.fURLs.length : Int) == 0) = !q := by
  subst h
  by_cases c : x.fURLs.length = 0
  · rw [c]; rfl
  · have : ((x.fURLs.length : Int) == 0) = false := by rw [beq_eq_false_iff_ne]; omega
    rw [this]; simp; omega
theorem fits_ent {x : Ty69} (h : fits81 x = true) : x.fMeta.fVersion.size ≤ 2147483647 ∧ x.fMeta.fDescription.size ≤ 2147483647 ∧ x.fDigest.size ≤ 2147483647 ∧ ∀ u ∈ x.fURLs, u.size ≤ 2147483647 := by
  simp only [fits81, fits37, fits3, Bool.and_eq_true, decide_eq_true_eq, List.all_eq_true] at h
  exact ⟨by omega, by omega, h.2, h.1.2.2⟩

theorem versionFind_one (g gu : Nat) (R : Ctx) (L : List SA) (w : World) (S : Sp R w L) (h0 : Rf R L fun w => Blk w g 69 #[.bool false, .bool false, .string ⟨#[97]⟩, .string ⟨#[]⟩, .string ⟨#[49, 46, 48, 46, 48]⟩, .string ⟨#[]⟩, .string ⟨#[]⟩, .string ⟨#[]⟩, .string ⟨#[]⟩, .string ⟨#[]⟩, .string ⟨#[]⟩, .string ⟨#[]⟩, .string ⟨#[]⟩, .slice none 0 0, .slice none 0 0, .slice none 0 0, .slice none 0 0, .slice (some ⟨gu, 0, none⟩) 1 1, .string ⟨#[]⟩]) (h1 : Rf R L fun w => Blk w gu 9 #[.string ⟨#[117]⟩]) :
    Calls Try.prog 35 #[.string ⟨#[]⟩, .slice (some ⟨g, 0, none⟩) 1 1] w fun e w' => ∃ (y : Ty69) (f : Int), e = .returned (.tuple #[.agg #[.bool y.fNil, .bool y.fBare, .string y.fMeta.fName, .string y.fMeta.fHome, .string y.fMeta.fVersion, .string y.fMeta.fDescription, .string y.fMeta.fIcon, .string y.fMeta.fAPIVersion, .string y.fMeta.fCondition, .string y.fMeta.fTags, .string y.fMeta.fAppVersion, .string y.fMeta.fKubeVersion, .string y.fMeta.fType, .slice y.fMeta.fSources_a y.fMeta.fSources.length y.fMeta.fSources_c, .slice y.fMeta.fKeywords_a y.fMeta.fKeywords.length y.fMeta.fKeywords_c, .slice y.fMeta.fMaintainers_a y.fMeta.fMaintainers.length y.fMeta.fMaintainers_c, .slice y.fMeta.fDependencies_a y.fMeta.fDependencies.length y.fMeta.fDependencies_c, .slice y.fURLs_a y.fURLs.length y.fURLs_c, .string y.fDigest], .int .i64 f]) ∧ Sp R w' (SA.ev y :: L) ∧ y.fMeta.fName = ⟨#[97]⟩ := by
  have hok : EntOk ({ fNil := false, fBare := false, fMeta := { fName := ⟨#[97]⟩, fVersion := ⟨#[49, 46, 48, 46, 48]⟩, fHome := ⟨#[]⟩, fDescription := ⟨#[]⟩, fIcon := ⟨#[]⟩, fAPIVersion := ⟨#[]⟩, fCondition := ⟨#[]⟩, fTags := ⟨#[]⟩, fAppVersion := ⟨#[]⟩, fKubeVersion := ⟨#[]⟩, fType := ⟨#[]⟩, fSources_a := none, fSources_c := 0, fSources := [], fKeywords_a := none, fKeywords_c := 0, fKeywords := [], fMaintainers_a := none, fMaintainers_c := 0, fMaintainers := [], fDependencies_a := none, fDependencies_c := 0, fDependencies := [] }, fURLs_a := some ⟨gu, 0, none⟩, fURLs_c := 1, fURLs := [⟨#[117]⟩], fDigest := ⟨#[]⟩ } : Ty69) := ⟨rfl, rfl, by show (1 : Nat) ≤ 200; omega, rfl, fun d hd => by cases hd⟩
  refine (versionFind_sp ⟨#[]⟩ (some ⟨g, 0, none⟩) 1 [({ fNil := false, fBare := false, fMeta := { fName := ⟨#[97]⟩, fVersion := ⟨#[49, 46, 48, 46, 48]⟩, fHome := ⟨#[]⟩, fDescription := ⟨#[]⟩, fIcon := ⟨#[]⟩, fAPIVersion := ⟨#[]⟩, fCondition := ⟨#[]⟩, fTags := ⟨#[]⟩, fAppVersion := ⟨#[]⟩, fKubeVersion := ⟨#[]⟩, fType := ⟨#[]⟩, fSources_a := none, fSources_c := 0, fSources := [], fKeywords_a := none, fKeywords_c := 0, fKeywords := [], fMaintainers_a := none, fMaintainers_c := 0, fMaintainers := [], fDependencies_a := none, fDependencies_c := 0, fDependencies := [] }, fURLs_a := some ⟨gu, 0, none⟩, fURLs_c := 1, fURLs := [⟨#[117]⟩], fDigest := ⟨#[]⟩ } : Ty69)] R L w S (fun w S => ?_) (fun w S x hx => ?_) (fun x hx => ?_) (fun x hx => ?_) (by decide) (.inr (by decide)) (by show (1 : Nat) ≤ 200; omega)).mono ?_
  · exact own_rowsT1 (n := 1) (c := 1) (e := 69) (own_of_blk (h0 w S) (Nat.zero_le _) rfl (by omega)) rfl (by decide) (fun x => x.len) (by omega)
  · obtain rfl := List.mem_singleton.1 hx
    exact ⟨(h1 w S).sl (by simp), Sl.nil, Sl.nil, Rows.nil, Rows.nil, fun d hd => by cases hd⟩
  · obtain rfl := List.mem_singleton.1 hx; exact hok
  · obtain rfl := List.mem_singleton.1 hx; exact ⟨by show (5 : Nat) ≤ 1000000; omega, .inl (show plainB ⟨#[49, 46, 48, 46, 48]⟩ = true by decide)⟩
  · rintro e w' ⟨y, f, he, hS, hf⟩
    refine ⟨y, f, he, hS, ?_⟩
    rcases hf with ⟨_, k, hk, _, _, h5⟩ | ⟨_, h⟩
    · have hk0 : k = 0 := by simp at hk; omega
      subst hk0
      have := congrArg (fun z : Ty69 => z.fMeta.fName) h5
      exact this
    · have := h _ (List.mem_singleton.2 rfl)
      rw [vtst_emp (x := ({ fNil := false, fBare := false, fMeta := { fName := ⟨#[97]⟩, fVersion := ⟨#[49, 46, 48, 46, 48]⟩, fHome := ⟨#[]⟩, fDescription := ⟨#[]⟩, fIcon := ⟨#[]⟩, fAPIVersion := ⟨#[]⟩, fCondition := ⟨#[]⟩, fTags := ⟨#[]⟩, fAppVersion := ⟨#[]⟩, fKubeVersion := ⟨#[]⟩, fType := ⟨#[]⟩, fSources_a := none, fSources_c := 0, fSources := [], fKeywords_a := none, fKeywords_c := 0, fKeywords := [], fMaintainers_a := none, fMaintainers_c := 0, fMaintainers := [], fDependencies_a := none, fDependencies_c := 0, fDependencies := [] }, fURLs_a := some ⟨gu, 0, none⟩, fURLs_c := 1, fURLs := [⟨#[117]⟩], fDigest := ⟨#[]⟩ } : Ty69)) rfl (beq_self_eq_true _)] at this; cases this
set_option maxRecDepth 100000 in
set_option maxHeartbeats 20000000 in
theorem versionLaw_sp (v0 : ByteArray) (A : Option Addr) (c : Nat) (xs : List Ty69) (R : Ctx) (L : List SA) (w : World) (S : Sp R w (L)) (h0 : Rf R L fun w => Rows w (A) 19 (xs.map Ty69.cells)) (h1 : Rf R L fun w => Ty69.oks xs w)  :
    Calls Try.prog 7 #[.string v0, .slice (A) (xs.length) (c)] w fun e w' => e = .returned (.bool true) ∧ Sp R w' (L) := by
  have hl_xs : xs.length ≤ 9223372036854775807 := by have := (h0 _ S).1; simpa [strs, ptrs, pps] using this
  refine fw_enter (fn := Try.f7) rfl rfl 123 rfl (Nat.le_of_ble_eq_true rfl) ?_
  intro a0 F0
  refine wp_seq_k fun K1 hK1 => ?_
  refine wp_region_lit ?_
  refine op_q F0 (.bool false) ?_; intro a2 F2
  refine wpList_nil ?_
  refine hK1 _ _ ?_; clear hK1 K1
  refine wp_seq_k fun K3 hK3 => ?_
  refine wp_seq_k fun K4 hK4 => ?_
  refine wp_region_lit ?_
  refine op_q F2 (.string v0) ?_; intro a5 F5
  refine op_q F5 (.int .i64 (↑v0.size)) ?_; intro a6 F6
  refine op_q F6 (.bool (decide ((2147483647 : Int) < ↑v0.size))) ?_; intro a7 F7
  refine op_q F7 (.bool (decide ((2147483647 : Int) < ↑v0.size))) ?_; intro a8 F8
  rcases btf (decide ((2147483647 : Int) < ↑v0.size)) with hc9 | hc9
  · have hc9p := of_decide_eq_true hc9
    have F10 := F8.sb 16 (by kernel_rfl) hc9
    have F11 := F10.sb 17 (by kernel_rfl) hc9
    refine op_kq F11 ?_; intro a12 F12
    refine op_kq F12 ?_; intro a13 F13
    refine op_kq F13 ?_; intro a14 F14
    refine op_q F14 (.bool true) ?_; intro a15 F15
    refine wpList_nil ?_
    refine hK4 _ _ ?_; clear hK4 K4
    refine wp_cond_true (F15.ev (by kernel_rfl)) ?_
    refine wp_seq_k fun K16 hK16 => ?_
    refine wp_region_lit ?_
    refine op_q F15 (.bool true) ?_; intro a17 F17
    refine wpList_nil ?_
    refine hK16 _ _ ?_; clear hK16 K16
    refine wp_ret ?_
    refine ret_then ?_
    refine (F17.res1 rfl (v := .bool true) (by kernel_rfl) ?_).1
    exact ⟨rfl, S⟩
  · have hc9p := of_decide_eq_false hc9
    have F18 := F8.sb 16 (by kernel_rfl) hc9
    have F19 := F18.sb 17 (by kernel_rfl) hc9
    refine op_wq F19 ?_
    refine op_q F19 (.slice (A) (xs.length) (c)) ?_; intro a20 F20
    refine op_wq F20 ?_
    refine op_cq F20 (f := 31) (args := #[.slice (A) (xs.length) (c)]) (fits31_any A c xs _ (h0 _ S) (h1 _ S)) ?_
    rintro _ w21 ⟨rfl, hb_21⟩
    refine ⟨_, rfl, ?_⟩
    intro a22 F22
    have S21 := S.below hb_21
    refine op_wq F22 ?_
    refine op_q F22 (.bool (!(fits31 xs))) ?_; intro a23 F23
    refine op_q F23 (.bool (!(fits31 xs))) ?_; intro a24 F24
    refine wpList_nil ?_
    refine hK4 _ _ ?_; clear hK4 K4
    rcases btf (fits31 xs) with hc25 | hc25
    · have hfx : ∀ x ∈ xs, fits81 x = true := by simp only [fits31, Bool.and_eq_true, List.all_eq_true] at hc25; exact hc25.2
      have F26 := F24.sb 19 (by kernel_rfl) hc25
      have F27 := F26.sb 20 (by kernel_rfl) (show (!(fits31 xs)) = false by rw [hc25]; rfl)
      have F28 := F27.sb 21 (by kernel_rfl) (show (!(fits31 xs)) = false by rw [hc25]; rfl)
      refine wp_cond_false (F28.ev (by kernel_rfl)) ?_
      refine wp_skip ?_
      refine hK3 _ _ ?_; clear hK3 K3
      refine wp_seq_k fun K29 hK29 => ?_
      refine wp_region_lit ?_
      refine op_q F28 (.string v0) ?_; intro a30 F30
      refine op_cq F30 (f := 33) (args := #[.string v0]) (chAscii_any v0 _ (by first | omega | (simp; done) | (simp; omega))) ?_
      rintro _ w31 ⟨rfl, hb_31⟩
      refine ⟨_, rfl, ?_⟩
      intro a32 F32
      have S31 := S21.below hb_31
      refine op_cq F32 (f := 32) (args := #[.string (ascF v0)]) (chVer_any (ascF v0) _ (by have := asc_size v0; omega)) ?_
      rintro _ w33 ⟨rfl, hb_33⟩
      refine ⟨_, rfl, ?_⟩
      intro a34 F34
      have S33 := S31.below hb_33
      refine op_q F34 (.string (verF (ascF v0))) ?_; intro a35 F35
      refine wpList_nil ?_
      refine hK29 _ _ ?_; clear hK29 K29
      refine wp_seq_k fun K36 hK36 => ?_
      refine wp_region_lit ?_
      refine op_q F35 (.slice none 0 0) ?_; intro a37 F37
      refine wpList_nil ?_
      refine hK36 _ _ ?_; clear hK36 K36
      refine fw_cut (fun a' w' => ∃ B : Option Addr, ∃ b : Nat, ∃ ins : List Ty69, Fr 123 [] a' [(0, .string (verF (ascF v0))), (4, .bool false), (5, .slice B ins.length b)] ∧ Sp R w' (SA.own (.slice B ins.length b) 69 19 ins.length (flatC Ty69.cells ins) :: SA.stars (ins.map SA.uv) :: L) ∧ (ins.length ≤ 8) ∧ (∀ x ∈ ins, IxIn x)) ?_ ?_
      · intro K38 hK38
        refine wp_seq_k fun K39 hK39 => ?_
        refine wp_region_lit ?_
        refine op_q F37 (.int .i64 0) ?_; intro a40 F40
        refine wpList_nil ?_
        refine hK39 _ _ ?_; clear hK39 K39
        refine wp_block ?_
        have S41 : Sp R w33 (SA.stars ([].map SA.uv) :: L) := (Sp.stars (l := [])).2 S33
        refine fw_loop (fun m' a' w' => ∃ B : Option Addr, ∃ b : Nat, ∃ ins : List Ty69, ∃ i : Nat, xs.length - i = m' ∧ Fr 123 [] a' [(0, .string (verF (ascF v0))), (1, .slice (A) (xs.length) (c)), (4, .bool false), (5, .slice B i b), (6, .int .i64 (↑i))] ∧ Sp R w' (SA.own (.slice B i b) 69 19 i (flatC Ty69.cells ins) :: SA.stars (ins.map SA.uv) :: L) ∧ (i ≤ xs.length) ∧ (i ≤ 8) ∧ (ins.length = i) ∧ (∀ x ∈ ins, IxIn x)) _ ⟨none, 0, [], 0, rfl, (F40.kk 0 (F40.kk 1 (F40.kk 4 (F40.kk 5 (F40.kk 6 F40.nil))))), (Sp.nilown S41), (by first | omega | (with_reducible assumption) | (simp; done)), (by first | omega | (with_reducible assumption) | (simp; done)), rfl, (fun x hx => by cases hx)⟩ ?_
        rintro m42 a42 w42 ⟨B, b, ins, i, hm42, F42, S42, hi, hi8, hil, hin⟩ K42 hK42
        refine wp_seq_k fun K43 hK43 => ?_
        refine wp_seq_k fun K44 hK44 => ?_
        refine wp_region_lit ?_
        refine op_q F42 (.int .i64 (↑i)) ?_; intro a45 F45
        refine op_q F45 (.slice (A) (xs.length) (c)) ?_; intro a46 F46
        refine op_q F46 (.int .i64 (↑xs.length)) ?_; intro a47 F47
        refine op_q F47 (.bool (decide ((↑i : Int) < ↑xs.length))) ?_; intro a48 F48
        refine op_q F48 (.bool (decide ((↑i : Int) < ↑xs.length))) ?_; intro a49 F49
        rcases btf (decide ((↑i : Int) < ↑xs.length)) with hc50 | hc50
        · have hlt_i : i < xs.length := by have := of_decide_eq_true hc50; omega
          obtain ⟨hzv, hzd, hzg, hzu⟩ := fits_ent (hfx _ (List.getElem_mem hlt_i))
          have hzu2 : ∀ u ∈ xs[i].fURLs, u.size ≤ 9223372036854775807 := fun u hu => by have := hzu u hu; omega
          have hku : Rf R L fun w => Sl w xs[i].fURLs_a (strs xs[i].fURLs) := fun w S => Ty69.ok_sURLs (h1 w S _ (List.getElem_mem hlt_i))
          obtain ⟨ad51, hA51⟩ := (h0 _ S42.drop.drop).addr (by simp; omega)
          have F52 := F49.sb 28 (by kernel_rfl) hc50
          have F53 := F52.sb 29 (by kernel_rfl) hc50
          refine op_wq F53 ?_
          refine op_q F53 (.int .i64 (↑i)) ?_; intro a54 F54
          refine op_wq F54 ?_
          refine op_q F54 (.bool (decide ((↑i : Int) < 8))) ?_; intro a55 F55
          refine op_q F55 (.bool (decide ((↑i : Int) < 8))) ?_; intro a56 F56
          refine wpList_nil ?_
          refine hK44 _ _ ?_; clear hK44 K44
          rcases btf (decide ((↑i : Int) < 8)) with hc57 | hc57
          · have h8i : i < 8 := by have := of_decide_eq_true hc57; omega
            have F58 := F56.sb 31 (by kernel_rfl) hc57
            have F59 := F58.sb 32 (by kernel_rfl) hc57
            refine wp_cond_true (F59.ev (by kernel_rfl)) ?_
            refine wp_skip ?_
            refine hK43 _ _ ?_; clear hK43 K43
            refine wp_seq_k fun K60 hK60 => ?_
            refine wp_block ?_
            refine wp_seq_k fun K61 hK61 => ?_
            refine wp_region_lit ?_
            refine op_q F59 (.slice (A) (xs.length) (c)) ?_; intro a62 F62
            refine op_q F62 (.int .i64 (↑i)) ?_; intro a63 F63
            refine op_rq (v := .pointer (some (ad51.add (i * 19)))) F63 (r_ix rfl Try.underlying65 19 (by kernel_rfl) (F63.e (.slice (A) (xs.length) (c))) hA51 (F63.e (.int .i64 (↑i))) i (by first | rfl | omega | simp) (by first | omega | (simp; done) | (simp; omega)) (rfl)) ?_; intro a64 F64
            refine op_rq (v := .agg #[.bool xs[i].fNil, .bool xs[i].fBare, .string xs[i].fMeta.fName, .string xs[i].fMeta.fHome, .string xs[i].fMeta.fVersion, .string xs[i].fMeta.fDescription, .string xs[i].fMeta.fIcon, .string xs[i].fMeta.fAPIVersion, .string xs[i].fMeta.fCondition, .string xs[i].fMeta.fTags, .string xs[i].fMeta.fAppVersion, .string xs[i].fMeta.fKubeVersion, .string xs[i].fMeta.fType, .slice xs[i].fMeta.fSources_a xs[i].fMeta.fSources.length xs[i].fMeta.fSources_c, .slice xs[i].fMeta.fKeywords_a xs[i].fMeta.fKeywords.length xs[i].fMeta.fKeywords_c, .slice xs[i].fMeta.fMaintainers_a xs[i].fMeta.fMaintainers.length xs[i].fMeta.fMaintainers_c, .slice xs[i].fMeta.fDependencies_a xs[i].fMeta.fDependencies.length xs[i].fMeta.fDependencies_c, .slice xs[i].fURLs_a xs[i].fURLs.length xs[i].fURLs_c, .string xs[i].fDigest]) F64 (r_ldR rfl (F64.e (.pointer (some (ad51.add (i * 19))))) (cs := [.bool xs[i].fNil, .bool xs[i].fBare, .string xs[i].fMeta.fName, .string xs[i].fMeta.fHome, .string xs[i].fMeta.fVersion, .string xs[i].fMeta.fDescription, .string xs[i].fMeta.fIcon, .string xs[i].fMeta.fAPIVersion, .string xs[i].fMeta.fCondition, .string xs[i].fMeta.fTags, .string xs[i].fMeta.fAppVersion, .string xs[i].fMeta.fKubeVersion, .string xs[i].fMeta.fType, .slice xs[i].fMeta.fSources_a xs[i].fMeta.fSources.length xs[i].fMeta.fSources_c, .slice xs[i].fMeta.fKeywords_a xs[i].fMeta.fKeywords.length xs[i].fMeta.fKeywords_c, .slice xs[i].fMeta.fMaintainers_a xs[i].fMeta.fMaintainers.length xs[i].fMeta.fMaintainers_c, .slice xs[i].fMeta.fDependencies_a xs[i].fMeta.fDependencies.length xs[i].fMeta.fDependencies_c, .slice xs[i].fURLs_a xs[i].fURLs.length xs[i].fURLs_c, .string xs[i].fDigest]) ((h0 _ S42.drop.drop).elA hA51 (j := i) (row := xs[i].cells) (by rw [List.getElem?_map, List.getElem?_eq_getElem hlt_i]; rfl)) Try.underlying69 rfl (by kernel_rfl) (v := #[.bool xs[i].fNil, .bool xs[i].fBare, .string xs[i].fMeta.fName, .string xs[i].fMeta.fHome, .string xs[i].fMeta.fVersion, .string xs[i].fMeta.fDescription, .string xs[i].fMeta.fIcon, .string xs[i].fMeta.fAPIVersion, .string xs[i].fMeta.fCondition, .string xs[i].fMeta.fTags, .string xs[i].fMeta.fAppVersion, .string xs[i].fMeta.fKubeVersion, .string xs[i].fMeta.fType, .slice xs[i].fMeta.fSources_a xs[i].fMeta.fSources.length xs[i].fMeta.fSources_c, .slice xs[i].fMeta.fKeywords_a xs[i].fMeta.fKeywords.length xs[i].fMeta.fKeywords_c, .slice xs[i].fMeta.fMaintainers_a xs[i].fMeta.fMaintainers.length xs[i].fMeta.fMaintainers_c, .slice xs[i].fMeta.fDependencies_a xs[i].fMeta.fDependencies.length xs[i].fMeta.fDependencies_c, .slice xs[i].fURLs_a xs[i].fURLs.length xs[i].fURLs_c, .string xs[i].fDigest]) (by kernel_rfl)) ?_; intro a65 F65
            refine op_cq F65 (f := 34) (args := #[.agg #[.bool xs[i].fNil, .bool xs[i].fBare, .string xs[i].fMeta.fName, .string xs[i].fMeta.fHome, .string xs[i].fMeta.fVersion, .string xs[i].fMeta.fDescription, .string xs[i].fMeta.fIcon, .string xs[i].fMeta.fAPIVersion, .string xs[i].fMeta.fCondition, .string xs[i].fMeta.fTags, .string xs[i].fMeta.fAppVersion, .string xs[i].fMeta.fKubeVersion, .string xs[i].fMeta.fType, .slice xs[i].fMeta.fSources_a xs[i].fMeta.fSources.length xs[i].fMeta.fSources_c, .slice xs[i].fMeta.fKeywords_a xs[i].fMeta.fKeywords.length xs[i].fMeta.fKeywords_c, .slice xs[i].fMeta.fMaintainers_a xs[i].fMeta.fMaintainers.length xs[i].fMeta.fMaintainers_c, .slice xs[i].fMeta.fDependencies_a xs[i].fMeta.fDependencies.length xs[i].fMeta.fDependencies_c, .slice xs[i].fURLs_a xs[i].fURLs.length xs[i].fURLs_c, .string xs[i].fDigest], .string ⟨#[97]⟩]) (ixEntry_sp xs[i] ⟨#[97]⟩ _ _ _ S42 (fun w S => hku w S.drop.drop) (by first | omega | (simp; done) | (simp; omega)) (by first | omega | (simp; done) | (simp; omega)) (by first | omega | (simp; done) | (simp; omega)) (by first | omega | (simp; done) | (simp; omega))) ?_
            rintro _ w66 ⟨v66, Bu66, bu66, rfl, S66, hp0_66⟩
            refine ⟨_, rfl, ?_⟩
            intro a67 F67
            refine op_sq F67 (s_newp F67 69 #[.bool false, .bool false, .string ⟨#[]⟩, .string ⟨#[]⟩, .string ⟨#[]⟩, .string ⟨#[]⟩, .string ⟨#[]⟩, .string ⟨#[]⟩, .string ⟨#[]⟩, .string ⟨#[]⟩, .string ⟨#[]⟩, .string ⟨#[]⟩, .string ⟨#[]⟩, .slice none 0 0, .slice none 0 0, .slice none 0 0, .slice none 0 0, .slice none 0 0, .string ⟨#[]⟩] (by kernel_rfl) (by kernel_rfl) (by kernel_rfl) S66) ?_
            rintro _ _ w69 ⟨g67, rfl, rfl⟩ S69 a69 F69
            refine op_sq0 F69 (s_stb rfl (F69.e (.pointer (some ⟨g67, 0, none⟩))) (F69.e (.agg #[.bool false, .bool false, .string ⟨#[97]⟩, .string ⟨#[]⟩, .string v66, .string (ascF xs[i].fMeta.fDescription), .string ⟨#[]⟩, .string ⟨#[118, 50]⟩, .string ⟨#[]⟩, .string ⟨#[]⟩, .string ⟨#[]⟩, .string ⟨#[]⟩, .string ⟨#[]⟩, .slice none 0 0, .slice none 0 0, .slice none 0 0, .slice none 0 0, .slice Bu66 ((someF xs[i].fURLs).length) bu66, .string (ascF xs[i].fDigest)])) S69 (by kernel_rfl) rfl (by kernel_rfl)) ?_
            rintro _ _ w70 rfl S70 F70
            refine wpList_nil ?_
            refine hK61 _ _ ?_; clear hK61 K61
            refine wp_seq_k fun K71 hK71 => ?_
            refine wp_region_lit ?_
            refine op_q F70 (.slice (A) (xs.length) (c)) ?_; intro a72 F72
            refine op_q F72 (.int .i64 (↑i)) ?_; intro a73 F73
            refine op_rq (v := .pointer (some (ad51.add (i * 19)))) F73 (r_ix rfl Try.underlying65 19 (by kernel_rfl) (F73.e (.slice (A) (xs.length) (c))) hA51 (F73.e (.int .i64 (↑i))) i (by first | rfl | omega | simp) (by first | omega | (simp; done) | (simp; omega)) (rfl)) ?_; intro a74 F74
            refine op_q F74 (.pointer (some ⟨(ad51.add (i * 19)).block, (ad51.add (i * 19)).off + 2, none⟩)) ?_; intro a75 F75
            refine op_q F75 (.pointer (some ⟨(ad51.add (i * 19)).block, (ad51.add (i * 19)).off + 4, none⟩)) ?_; intro a76 F76
            refine op_rq (v := .string xs[i].fMeta.fVersion) F76 (r_ld rfl (F76.e (.pointer (some ⟨(ad51.add (i * 19)).block, (ad51.add (i * 19)).off + 4, none⟩))) (v := .string xs[i].fMeta.fVersion) (cellj ((h0 _ S70.drop.drop.drop.drop).elA hA51 (j := i) (row := xs[i].cells) (by rw [List.getElem?_map, List.getElem?_eq_getElem hlt_i]; rfl)) 3 rfl) Try.underlying9 rfl) ?_; intro a77 F77
            refine op_cq F77 (f := 33) (args := #[.string xs[i].fMeta.fVersion]) (chAscii_any xs[i].fMeta.fVersion _ (by first | omega | (simp; done) | (simp; omega))) ?_
            rintro _ w78 ⟨rfl, hb_78⟩
            refine ⟨_, rfl, ?_⟩
            intro a79 F79
            have S78 := S70.below hb_78
            refine op_cq F79 (f := 32) (args := #[.string (ascF xs[i].fMeta.fVersion)]) (chVer_any (ascF xs[i].fMeta.fVersion) _ (by have := asc_size xs[i].fMeta.fVersion; omega)) ?_
            rintro _ w80 ⟨rfl, hb_80⟩
            refine ⟨_, rfl, ?_⟩
            intro a81 F81
            have S80 := S78.below hb_80
            refine op_q F81 (.pointer (some ⟨g67, 2, none⟩)) ?_; intro a82 F82
            refine op_q F82 (.pointer (some ⟨g67, 4, none⟩)) ?_; intro a83 F83
            refine op_sq0 F83 (s_st rfl (F83.e (.pointer (some ⟨g67, 4, none⟩))) (F83.e (.string (verF (ascF xs[i].fMeta.fVersion)))) S80 (by kernel_rfl) rfl rfl rfl (cs := #[.bool false, .bool false, .string ⟨#[97]⟩, .string ⟨#[]⟩, .string (verF (ascF xs[i].fMeta.fVersion)), .string (ascF xs[i].fMeta.fDescription), .string ⟨#[]⟩, .string ⟨#[118, 50]⟩, .string ⟨#[]⟩, .string ⟨#[]⟩, .string ⟨#[]⟩, .string ⟨#[]⟩, .string ⟨#[]⟩, .slice none 0 0, .slice none 0 0, .slice none 0 0, .slice none 0 0, .slice Bu66 ((someF xs[i].fURLs).length) bu66, .string (ascF xs[i].fDigest)]) (by kernel_rfl)) ?_
            rintro _ _ w84 rfl S84 F84
            refine wpList_nil ?_
            refine hK71 _ _ ?_; clear hK71 K71
            refine wp_region_lit ?_
            refine op_q F84 (.slice B i b) ?_; intro a85 F85
            refine op_rq (v := .agg #[.bool false, .bool false, .string ⟨#[97]⟩, .string ⟨#[]⟩, .string (verF (ascF xs[i].fMeta.fVersion)), .string (ascF xs[i].fMeta.fDescription), .string ⟨#[]⟩, .string ⟨#[118, 50]⟩, .string ⟨#[]⟩, .string ⟨#[]⟩, .string ⟨#[]⟩, .string ⟨#[]⟩, .string ⟨#[]⟩, .slice none 0 0, .slice none 0 0, .slice none 0 0, .slice none 0 0, .slice Bu66 ((someF xs[i].fURLs).length) bu66, .string (ascF xs[i].fDigest)]) F85 (r_ldm rfl (F85.e (.pointer (some ⟨g67, 0, none⟩))) (S84.bk 0 rfl) 19 (by kernel_rfl) Try.underlying69 rfl (by kernel_rfl) (v := #[.bool false, .bool false, .string ⟨#[97]⟩, .string ⟨#[]⟩, .string (verF (ascF xs[i].fMeta.fVersion)), .string (ascF xs[i].fMeta.fDescription), .string ⟨#[]⟩, .string ⟨#[118, 50]⟩, .string ⟨#[]⟩, .string ⟨#[]⟩, .string ⟨#[]⟩, .string ⟨#[]⟩, .string ⟨#[]⟩, .slice none 0 0, .slice none 0 0, .slice none 0 0, .slice none 0 0, .slice Bu66 ((someF xs[i].fURLs).length) bu66, .string (ascF xs[i].fDigest)]) (by kernel_rfl)) ?_; intro a86 F86
            refine op_sq F86 (s_news F86 69 #[.bool false, .bool false, .string ⟨#[97]⟩, .string ⟨#[]⟩, .string (verF (ascF xs[i].fMeta.fVersion)), .string (ascF xs[i].fMeta.fDescription), .string ⟨#[]⟩, .string ⟨#[118, 50]⟩, .string ⟨#[]⟩, .string ⟨#[]⟩, .string ⟨#[]⟩, .string ⟨#[]⟩, .string ⟨#[]⟩, .slice none 0 0, .slice none 0 0, .slice none 0 0, .slice none 0 0, .slice Bu66 ((someF xs[i].fURLs).length) bu66, .string (ascF xs[i].fDigest)] 1 (by kernel_rfl) (by kernel_rfl) (by kernel_rfl) S84) ?_
            rintro _ _ w88 ⟨g86, rfl, rfl⟩ S88 a88 F88
            refine op_sq F88 (s_app rfl Try.underlying65 19 _ tin69 rfl rfl (F88.e (.slice B i b)) S88.p3 ([Value.bool false, .bool false, .string ⟨#[97]⟩, .string ⟨#[]⟩, .string (verF (ascF xs[i].fMeta.fVersion)), .string (ascF xs[i].fMeta.fDescription), .string ⟨#[]⟩, .string ⟨#[118, 50]⟩, .string ⟨#[]⟩, .string ⟨#[]⟩, .string ⟨#[]⟩, .string ⟨#[]⟩, .string ⟨#[]⟩, .slice none 0 0, .slice none 0 0, .slice none 0 0, .slice none 0 0, .slice Bu66 ((someF xs[i].fURLs).length) bu66, .string (ascF xs[i].fDigest)]) (F88.e (.slice (some ⟨g86, 0, none⟩) 1 1)) ((S88.bk 0 rfl).sl (by simp)) rfl (by simp [Value.oneCell']) (by omega) (by omega) (n' := i + 1) (by omega) (cs' := flatC Ty69.cells (ins ++ [ixE ⟨#[97]⟩ (verF (ascF xs[i].fMeta.fVersion)) (ascF xs[i].fMeta.fDescription) (ascF xs[i].fDigest) Bu66 bu66 (someF xs[i].fURLs)])) (by rw [flatC_snoc]; rfl)) ?_
            rintro _ _ w90 ⟨A89, c89, rfl, rfl⟩ S90 a90 F90
            refine op_q F90 (.slice A89 (i + 1) c89) ?_; intro a91 F91
            refine wpList_nil ?_
            refine hK60 _ _ ?_; clear hK60 K60
            refine wp_region_lit ?_
            refine op_q F91 (.int .i64 (↑i)) ?_; intro a92 F92
            refine op_rq (v := .int .i64 (↑(i + 1))) F92 (r_add (z := ↑(i + 1)) rfl (F92.e (.int .i64 (↑i))) (F92.e (.int .i64 1)) (wr64 (by omega) (by omega) (by omega))) ?_; intro a93 F93
            refine op_q F93 (.int .i64 (↑(i + 1))) ?_; intro a94 F94
            refine wpList_nil ?_
            have S95 : Sp R w90 (SA.uv (ixE ⟨#[97]⟩ (verF (ascF xs[i].fMeta.fVersion)) (ascF xs[i].fMeta.fDescription) (ascF xs[i].fDigest) Bu66 bu66 (someF xs[i].fURLs)) :: SA.own (.slice A89 (i + 1) c89) 69 19 (i + 1) (flatC Ty69.cells (ins ++ [ixE ⟨#[97]⟩ (verF (ascF xs[i].fMeta.fVersion)) (ascF xs[i].fMeta.fDescription) (ascF xs[i].fDigest) Bu66 bu66 (someF xs[i].fURLs)])) :: SA.blk g86 69 #[.bool false, .bool false, .string ⟨#[97]⟩, .string ⟨#[]⟩, .string (verF (ascF xs[i].fMeta.fVersion)), .string (ascF xs[i].fMeta.fDescription), .string ⟨#[]⟩, .string ⟨#[118, 50]⟩, .string ⟨#[]⟩, .string ⟨#[]⟩, .string ⟨#[]⟩, .string ⟨#[]⟩, .string ⟨#[]⟩, .slice none 0 0, .slice none 0 0, .slice none 0 0, .slice none 0 0, .slice Bu66 ((someF xs[i].fURLs).length) bu66, .string (ascF xs[i].fDigest)] :: SA.blk g67 69 #[.bool false, .bool false, .string ⟨#[97]⟩, .string ⟨#[]⟩, .string (verF (ascF xs[i].fMeta.fVersion)), .string (ascF xs[i].fMeta.fDescription), .string ⟨#[]⟩, .string ⟨#[118, 50]⟩, .string ⟨#[]⟩, .string ⟨#[]⟩, .string ⟨#[]⟩, .string ⟨#[]⟩, .string ⟨#[]⟩, .slice none 0 0, .slice none 0 0, .slice none 0 0, .slice none 0 0, .slice Bu66 ((someF xs[i].fURLs).length) bu66, .string (ascF xs[i].fDigest)] :: SA.stars (ins.map SA.uv) :: L) := (Sp.own0_of S90.p3 : Sp R w90 (SA.uv (ixE ⟨#[97]⟩ (verF (ascF xs[i].fMeta.fVersion)) (ascF xs[i].fMeta.fDescription) (ascF xs[i].fDigest) Bu66 bu66 (someF xs[i].fURLs)) :: _))
            have S96 : Sp R w90 (SA.stars ((ins ++ [ixE ⟨#[97]⟩ (verF (ascF xs[i].fMeta.fVersion)) (ascF xs[i].fMeta.fDescription) (ascF xs[i].fDigest) Bu66 bu66 (someF xs[i].fURLs)]).map SA.uv) :: SA.own (.slice A89 (i + 1) c89) 69 19 (i + 1) (flatC Ty69.cells (ins ++ [ixE ⟨#[97]⟩ (verF (ascF xs[i].fMeta.fVersion)) (ascF xs[i].fMeta.fDescription) (ascF xs[i].fDigest) Bu66 bu66 (someF xs[i].fURLs)])) :: SA.blk g86 69 #[.bool false, .bool false, .string ⟨#[97]⟩, .string ⟨#[]⟩, .string (verF (ascF xs[i].fMeta.fVersion)), .string (ascF xs[i].fMeta.fDescription), .string ⟨#[]⟩, .string ⟨#[118, 50]⟩, .string ⟨#[]⟩, .string ⟨#[]⟩, .string ⟨#[]⟩, .string ⟨#[]⟩, .string ⟨#[]⟩, .slice none 0 0, .slice none 0 0, .slice none 0 0, .slice none 0 0, .slice Bu66 ((someF xs[i].fURLs).length) bu66, .string (ascF xs[i].fDigest)] :: SA.blk g67 69 #[.bool false, .bool false, .string ⟨#[97]⟩, .string ⟨#[]⟩, .string (verF (ascF xs[i].fMeta.fVersion)), .string (ascF xs[i].fMeta.fDescription), .string ⟨#[]⟩, .string ⟨#[118, 50]⟩, .string ⟨#[]⟩, .string ⟨#[]⟩, .string ⟨#[]⟩, .string ⟨#[]⟩, .string ⟨#[]⟩, .slice none 0 0, .slice none 0 0, .slice none 0 0, .slice none 0 0, .slice Bu66 ((someF xs[i].fURLs).length) bu66, .string (ascF xs[i].fDigest)] :: L) := by rw [List.map_append, List.map_cons, List.map_nil]; exact stars_snoc S95.p4.p1
            exact hK42 _ _ _ (by first | omega | (simp; omega)) ⟨A89, c89, ins ++ [ixE ⟨#[97]⟩ (verF (ascF xs[i].fMeta.fVersion)) (ascF xs[i].fMeta.fDescription) (ascF xs[i].fDigest) Bu66 bu66 (someF xs[i].fURLs)], i + 1, rfl, (F94.kk 0 (F94.kk 1 (F94.kk 4 (F94.kk 5 (F94.kk 6 F94.nil))))), S96.p2.drop.p2.drop.p1, (by first | omega | (with_reducible assumption) | (simp; done)), (by first | omega | (with_reducible assumption) | (simp; done)), (by simp [hil]), (fun x hx => (List.mem_append.1 hx).elim (hin x) (fun hx => by obtain rfl := List.mem_singleton.1 hx; exact ⟨_, _, _, _, _, _, _, rfl, asc_size _, someF_len _⟩))⟩
          · have F97 := F56.sb 31 (by kernel_rfl) hc57
            have F98 := F97.sb 32 (by kernel_rfl) hc57
            subst hil
            refine wp_cond_false (F98.ev (by kernel_rfl)) ?_
            refine wp_exit ?_
            refine ex_then ?_; clear hK43 K43
            refine ex_then ?_
            refine ex_in ?_
            exact hK38 _ _ ⟨B, b, ins, (F98.kk 0 (F98.kk 4 (F98.kk 5 F98.nil))), S42.p1.p1, (by first | omega | (with_reducible assumption) | (simp; done)), (by first | omega | (with_reducible assumption) | (simp; done))⟩
        · have F99 := F49.sb 28 (by kernel_rfl) hc50
          have F100 := F99.sb 29 (by kernel_rfl) hc50
          subst hil
          refine op_kq F100 ?_; intro a101 F101
          refine op_kq F101 ?_; intro a102 F102
          refine op_q F102 (.bool false) ?_; intro a103 F103
          refine wpList_nil ?_
          refine hK44 _ _ ?_; clear hK44 K44
          refine wp_cond_false (F103.ev (by kernel_rfl)) ?_
          refine wp_exit ?_
          refine ex_then ?_; clear hK43 K43
          refine ex_then ?_
          refine ex_in ?_
          exact hK38 _ _ ⟨B, b, ins, (F103.kk 0 (F103.kk 4 (F103.kk 5 F103.nil))), S42.p1.p1, (by first | omega | (with_reducible assumption) | (simp; done)), (by first | omega | (with_reducible assumption) | (simp; done))⟩
      · rintro a104 w104 ⟨B, b, ins, F104, S104, hi8, hin⟩
        refine wp_seq_k fun K105 hK105 => ?_
        refine wp_region_lit ?_
        refine op_q F104 (.int .i64 (-1)) ?_; intro a106 F106
        refine wpList_nil ?_
        refine hK105 _ _ ?_; clear hK105 K105
        refine wp_seq_k fun K107 hK107 => ?_
        refine wp_seq_k fun K108 hK108 => ?_
        refine wp_region_lit ?_
        refine op_q F106 (.slice B ins.length b) ?_; intro a109 F109
        refine op_q F109 (.int .i64 (↑ins.length)) ?_; intro a110 F110
        refine op_rq (v := .int .i64 (↑ins.length - 1)) F110 (r_sub (z := (↑ins.length - 1)) rfl (F110.e (.int .i64 (↑ins.length))) (F110.e (.int .i64 1)) (wr64 (by omega) (by omega) (by omega))) ?_; intro a111 F111
        refine op_q F111 (.int .i64 (↑ins.length - 1)) ?_; intro a112 F112
        refine wpList_nil ?_
        refine hK108 _ _ ?_; clear hK108 K108
        refine wp_block ?_
        refine fw_loop (fun m' a' w' => ∃ at_ : Int, ∃ m : Nat, m = m' ∧ Fr 123 [] a' [(0, .string (verF (ascF v0))), (4, .bool false), (5, .slice B ins.length b), (8, .int .i64 at_), (9, .int .i64 (↑m - 1))] ∧ Sp R w' (SA.own (.slice B ins.length b) 69 19 ins.length (flatC Ty69.cells ins) :: SA.stars (ins.map SA.uv) :: L) ∧ (m ≤ ins.length) ∧ (AtM (verF (ascF v0)) ins at_ m)) _ ⟨-1, ins.length, rfl, (F112.kk 0 (F112.kk 4 (F112.kk 5 (F112.kk 8 (F112.kk 9 F112.nil))))), S104.p1.p1, (by first | omega | (with_reducible assumption) | (simp; done)), (.inl ⟨rfl, fun j hj hm => by omega⟩)⟩ ?_
        rintro m113 a113 w113 ⟨at_, m, hm113, F113, S113, hm, hatm⟩ K113 hK113
        refine wp_seq_k fun K114 hK114 => ?_
        refine wp_seq_k fun K115 hK115 => ?_
        refine wp_region_lit ?_
        refine op_q F113 (.int .i64 (↑m - 1)) ?_; intro a116 F116
        refine op_q F116 (.bool (decide ((0 : Int) ≤ (↑m - 1)))) ?_; intro a117 F117
        refine wpList_nil ?_
        refine hK115 _ _ ?_; clear hK115 K115
        rcases btf (decide ((0 : Int) ≤ (↑m - 1))) with hc118 | hc118
        · have hm0 : 0 < m := by have := of_decide_eq_true hc118; omega
          have hm1 : m - 1 < ins.length := by omega
          have hvm := in_ver (hin _ (List.getElem_mem hm1))
          obtain ⟨ad119, hA119⟩ := (own_rowsT1 (S113.ow 0 rfl) (by first | rfl | (simp; done) | omega) (by decide) (fun x => x.len) (by first | omega | (simp; omega))).addr (by simp; omega)
          have F120 := F117.sb 58 (by kernel_rfl) hc118
          refine wp_cond_true (F120.ev (by kernel_rfl)) ?_
          refine wp_skip ?_
          refine hK114 _ _ ?_; clear hK114 K114
          refine wp_seq_k fun K121 hK121 => ?_
          refine wp_block ?_
          refine wp_seq_k fun K122 hK122 => ?_
          refine wp_region_lit ?_
          refine op_q F120 (.slice B ins.length b) ?_; intro a123 F123
          refine op_q F123 (.int .i64 (↑m - 1)) ?_; intro a124 F124
          refine op_rq (v := .pointer (some (ad119.add ((m - 1) * 19)))) F124 (r_ix rfl Try.underlying65 19 (by kernel_rfl) (F124.e (.slice B ins.length b)) hA119 (F124.e (.int .i64 (↑m - 1))) (m - 1) (by first | rfl | omega | simp) (by first | omega | (simp; done) | (simp; omega)) (rfl)) ?_; intro a125 F125
          refine op_q F125 (.pointer (some ⟨(ad119.add ((m - 1) * 19)).block, (ad119.add ((m - 1) * 19)).off + 17, none⟩)) ?_; intro a126 F126
          refine op_rq (v := .slice (ins[m - 1].fURLs_a) (ins[m - 1].fURLs.length) (ins[m - 1].fURLs_c)) F126 (r_ld rfl (F126.e (.pointer (some ⟨(ad119.add ((m - 1) * 19)).block, (ad119.add ((m - 1) * 19)).off + 17, none⟩))) (v := .slice (ins[m - 1].fURLs_a) (ins[m - 1].fURLs.length) (ins[m - 1].fURLs_c)) (cellj ((own_rowsT1 (S113.ow 0 rfl) (by first | rfl | (simp; done) | omega) (by decide) (fun x => x.len) (by first | omega | (simp; omega))).elA hA119 (j := m - 1) (row := ins[m - 1].cells) (by rw [List.getElem?_map, List.getElem?_eq_getElem hm1]; rfl)) 16 rfl) Try.underlying22 rfl) ?_; intro a127 F127
          refine op_q F127 (.int .i64 (↑(ins[m - 1].fURLs.length))) ?_; intro a128 F128
          refine op_q F128 (.bool (decide ((0 : Int) < ↑(ins[m - 1].fURLs.length)))) ?_; intro a129 F129
          refine op_q F129 (.bool (decide ((0 : Int) < ↑(ins[m - 1].fURLs.length)))) ?_; intro a130 F130
          rcases btf (decide ((0 : Int) < ↑(ins[m - 1].fURLs.length))) with hc131 | hc131
          · have hc131p := of_decide_eq_true hc131
            have F132 := F130.sb 67 (by kernel_rfl) hc131
            have F133 := F132.sb 68 (by kernel_rfl) hc131
            refine op_wq F133 ?_
            refine op_q F133 (.string (verF (ascF v0))) ?_; intro a134 F134
            refine op_wq F134 ?_
            refine op_q F134 (.bool ((verF (ascF v0)).toList == (⟨#[]⟩ : ByteArray).toList)) ?_; intro a135 F135
            refine op_wq F135 ?_
            refine op_q F135 (.bool ((verF (ascF v0)).toList == (⟨#[]⟩ : ByteArray).toList)) ?_; intro a136 F136
            rcases btf ((verF (ascF v0)).toList == (⟨#[]⟩ : ByteArray).toList) with hc137 | hc137
            · have F138 := F136.sb 70 (by kernel_rfl) hc137
              have F139 := F138.sb 71 (by kernel_rfl) hc137
              refine op_kq F139 ?_; intro a140 F140
              refine op_kq F140 ?_; intro a141 F141
              refine op_kq F141 ?_; intro a142 F142
              refine op_kq F142 ?_; intro a143 F143
              refine op_kq F143 ?_; intro a144 F144
              refine op_kq F144 ?_; intro a145 F145
              refine op_kq F145 ?_; intro a146 F146
              refine op_kq F146 ?_; intro a147 F147
              refine op_wq F147 ?_
              refine op_q F147 (.bool true) ?_; intro a148 F148
              refine op_q F148 (.bool true) ?_; intro a149 F149
              refine wpList_nil ?_
              refine hK122 _ _ ?_; clear hK122 K122
              refine wp_cond_true (F149.ev (by kernel_rfl)) ?_
              refine wp_region_lit ?_
              refine op_q F149 (.int .i64 (↑m - 1)) ?_; intro a150 F150
              refine op_q F150 (.int .i64 (↑m - 1)) ?_; intro a151 F151
              refine wpList_nil ?_
              refine hK121 _ _ ?_; clear hK121 K121
              refine wp_region_lit ?_
              refine op_q F151 (.int .i64 (↑m - 1)) ?_; intro a152 F152
              refine op_rq (v := .int .i64 (↑(m - 1) - 1)) F152 (r_sub (z := (↑(m - 1) - 1)) rfl (F152.e (.int .i64 (↑m - 1))) (F152.e (.int .i64 1)) (wr64 (by omega) (by omega) (by omega))) ?_; intro a153 F153
              refine op_q F153 (.int .i64 (↑(m - 1) - 1)) ?_; intro a154 F154
              refine wpList_nil ?_
              exact hK113 _ _ _ (by first | omega | (simp; omega)) ⟨(↑m - 1), m - 1, rfl, (F154.kk 0 (F154.kk 4 (F154.kk 5 (F154.kk 8 (F154.kk 9 F154.nil))))), S113.p1.p1, (by first | omega | (with_reducible assumption) | (simp; done)), (by have := atM_yes hm1 (vtst_emp (pos_url hc131) hc137); rw [show ((m - 1 : Nat) : Int) = ↑m - 1 by omega] at this; exact this)⟩
            · have F155 := F136.sb 70 (by kernel_rfl) hc137
              have F156 := F155.sb 71 (by kernel_rfl) hc137
              refine op_wq F156 ?_
              refine op_q F156 (.string (verF (ascF v0))) ?_; intro a157 F157
              refine op_wq F157 ?_
              refine op_q F157 (.slice B ins.length b) ?_; intro a158 F158
              refine op_wq F158 ?_
              refine op_q F158 (.int .i64 (↑m - 1)) ?_; intro a159 F159
              refine op_wq F159 ?_
              refine op_rq (v := .pointer (some (ad119.add ((m - 1) * 19)))) F159 (r_ix rfl Try.underlying65 19 (by kernel_rfl) (F159.e (.slice B ins.length b)) hA119 (F159.e (.int .i64 (↑m - 1))) (m - 1) (by first | rfl | omega | simp) (by first | omega | (simp; done) | (simp; omega)) (rfl)) ?_; intro a160 F160
              refine op_wq F160 ?_
              refine op_q F160 (.pointer (some ⟨(ad119.add ((m - 1) * 19)).block, (ad119.add ((m - 1) * 19)).off + 2, none⟩)) ?_; intro a161 F161
              refine op_wq F161 ?_
              refine op_q F161 (.pointer (some ⟨(ad119.add ((m - 1) * 19)).block, (ad119.add ((m - 1) * 19)).off + 4, none⟩)) ?_; intro a162 F162
              refine op_wq F162 ?_
              refine op_rq (v := .string (ins[m - 1].fMeta.fVersion)) F162 (r_ld rfl (F162.e (.pointer (some ⟨(ad119.add ((m - 1) * 19)).block, (ad119.add ((m - 1) * 19)).off + 4, none⟩))) (v := .string (ins[m - 1].fMeta.fVersion)) (cellj ((own_rowsT1 (S113.ow 0 rfl) (by first | rfl | (simp; done) | omega) (by decide) (fun x => x.len) (by first | omega | (simp; omega))).elA hA119 (j := m - 1) (row := ins[m - 1].cells) (by rw [List.getElem?_map, List.getElem?_eq_getElem hm1]; rfl)) 3 rfl) Try.underlying9 rfl) ?_; intro a163 F163
              refine op_wq F163 ?_
              refine op_q F163 (.bool ((verF (ascF v0)).toList == (ins[m - 1].fMeta.fVersion).toList)) ?_; intro a164 F164
              refine op_wq F164 ?_
              refine op_q F164 (.bool ((verF (ascF v0)).toList == (ins[m - 1].fMeta.fVersion).toList)) ?_; intro a165 F165
              refine op_q F165 (.bool ((verF (ascF v0)).toList == (ins[m - 1].fMeta.fVersion).toList)) ?_; intro a166 F166
              refine wpList_nil ?_
              refine hK122 _ _ ?_; clear hK122 K122
              rcases btf ((verF (ascF v0)).toList == (ins[m - 1].fMeta.fVersion).toList) with hc167 | hc167
              · have F168 := F166.sb 79 (by kernel_rfl) hc167
                have F169 := F168.sb 80 (by kernel_rfl) hc167
                have F170 := F169.sb 81 (by kernel_rfl) hc167
                refine wp_cond_true (F170.ev (by kernel_rfl)) ?_
                refine wp_region_lit ?_
                refine op_q F170 (.int .i64 (↑m - 1)) ?_; intro a171 F171
                refine op_q F171 (.int .i64 (↑m - 1)) ?_; intro a172 F172
                refine wpList_nil ?_
                refine hK121 _ _ ?_; clear hK121 K121
                refine wp_region_lit ?_
                refine op_q F172 (.int .i64 (↑m - 1)) ?_; intro a173 F173
                refine op_rq (v := .int .i64 (↑(m - 1) - 1)) F173 (r_sub (z := (↑(m - 1) - 1)) rfl (F173.e (.int .i64 (↑m - 1))) (F173.e (.int .i64 1)) (wr64 (by omega) (by omega) (by omega))) ?_; intro a174 F174
                refine op_q F174 (.int .i64 (↑(m - 1) - 1)) ?_; intro a175 F175
                refine wpList_nil ?_
                exact hK113 _ _ _ (by first | omega | (simp; omega)) ⟨(↑m - 1), m - 1, rfl, (F175.kk 0 (F175.kk 4 (F175.kk 5 (F175.kk 8 (F175.kk 9 F175.nil))))), S113.p1.p1, (by first | omega | (with_reducible assumption) | (simp; done)), (by have := atM_yes hm1 (vtst_ne (verF_cases _) hvm.2 (pos_url hc131) hc137 hc167); rw [show ((m - 1 : Nat) : Int) = ↑m - 1 by omega] at this; exact this)⟩
              · have F176 := F166.sb 79 (by kernel_rfl) hc167
                have F177 := F176.sb 80 (by kernel_rfl) hc167
                have F178 := F177.sb 81 (by kernel_rfl) hc167
                refine wp_cond_false (F178.ev (by kernel_rfl)) ?_
                refine wp_skip ?_
                refine hK121 _ _ ?_; clear hK121 K121
                refine wp_region_lit ?_
                refine op_q F178 (.int .i64 (↑m - 1)) ?_; intro a179 F179
                refine op_rq (v := .int .i64 (↑(m - 1) - 1)) F179 (r_sub (z := (↑(m - 1) - 1)) rfl (F179.e (.int .i64 (↑m - 1))) (F179.e (.int .i64 1)) (wr64 (by omega) (by omega) (by omega))) ?_; intro a180 F180
                refine op_q F180 (.int .i64 (↑(m - 1) - 1)) ?_; intro a181 F181
                refine wpList_nil ?_
                exact hK113 _ _ _ (by first | omega | (simp; omega)) ⟨at_, m - 1, rfl, (F181.kk 0 (F181.kk 4 (F181.kk 5 (F181.kk 8 (F181.kk 9 F181.nil))))), S113.p1.p1, (by first | omega | (with_reducible assumption) | (simp; done)), (atM_no hm0 hm1 hatm (vtst_ne (verF_cases _) hvm.2 (pos_url hc131) hc137 hc167))⟩
          · have hc131p := of_decide_eq_false hc131
            have F182 := F130.sb 67 (by kernel_rfl) hc131
            have F183 := F182.sb 68 (by kernel_rfl) hc131
            refine op_kq F183 ?_; intro a184 F184
            refine op_kq F184 ?_; intro a185 F185
            refine op_kq F185 ?_; intro a186 F186
            refine op_kq F186 ?_; intro a187 F187
            refine op_kq F187 ?_; intro a188 F188
            refine op_kq F188 ?_; intro a189 F189
            refine op_kq F189 ?_; intro a190 F190
            refine op_kq F190 ?_; intro a191 F191
            refine op_kq F191 ?_; intro a192 F192
            refine op_kq F192 ?_; intro a193 F193
            refine op_kq F193 ?_; intro a194 F194
            refine op_kq F194 ?_; intro a195 F195
            refine op_q F195 (.bool false) ?_; intro a196 F196
            refine wpList_nil ?_
            refine hK122 _ _ ?_; clear hK122 K122
            refine wp_cond_false (F196.ev (by kernel_rfl)) ?_
            refine wp_skip ?_
            refine hK121 _ _ ?_; clear hK121 K121
            refine wp_region_lit ?_
            refine op_q F196 (.int .i64 (↑m - 1)) ?_; intro a197 F197
            refine op_rq (v := .int .i64 (↑(m - 1) - 1)) F197 (r_sub (z := (↑(m - 1) - 1)) rfl (F197.e (.int .i64 (↑m - 1))) (F197.e (.int .i64 1)) (wr64 (by omega) (by omega) (by omega))) ?_; intro a198 F198
            refine op_q F198 (.int .i64 (↑(m - 1) - 1)) ?_; intro a199 F199
            refine wpList_nil ?_
            exact hK113 _ _ _ (by first | omega | (simp; omega)) ⟨at_, m - 1, rfl, (F199.kk 0 (F199.kk 4 (F199.kk 5 (F199.kk 8 (F199.kk 9 F199.nil))))), S113.p1.p1, (by first | omega | (with_reducible assumption) | (simp; done)), (atM_no hm0 hm1 hatm (vtst_url (pos_url hc131)))⟩
        · have hm00 : m = 0 := by have := of_decide_eq_false hc118; omega
          have hat := atM_0 (by rw [hm00] at hatm; exact hatm)
          have F200 := F117.sb 58 (by kernel_rfl) hc118
          refine wp_cond_false (F200.ev (by kernel_rfl)) ?_
          refine wp_exit ?_
          refine ex_then ?_; clear hK114 K114
          refine ex_then ?_
          refine ex_in ?_
          refine hK107 _ _ ?_; clear hK107 K107
          refine wp_seq_k fun K201 hK201 => ?_
          rcases hat with ⟨hat1, hall⟩ | ⟨k, hlt_k, hat1, hvt, hvn⟩
          · subst hat1
            refine wp_region_lit ?_
            refine op_q F200 (.string (verF (ascF v0))) ?_; intro a202 F202
            refine op_q F202 (.slice B ins.length b) ?_; intro a203 F203
            refine op_cq F203 (f := 35) (args := #[.string (verF (ascF v0)), .slice B ins.length b]) (versionFind_sp (verF (ascF v0)) B b ins _ _ _ S113 (fun w S => own_rowsT1 (S.ow 0 rfl) (by first | rfl | (simp; done) | omega) (by decide) (fun x => x.len) (by first | omega | (simp; omega))) (fun w S => S.uvAt 1 rfl hin) (fun x hx => in_ok (hin x hx)) (fun x hx => in_ver (hin x hx)) (by have := verF_size (ascF v0); have := asc_size v0; omega) (verF_cases _) (by first | omega | (simp; done) | (simp; omega))) ?_
            rintro _ w204 ⟨y204, f204, rfl, S204, hp0_204⟩
            refine ⟨_, rfl, ?_⟩
            intro a205 F205
            refine op_q F205 (.tuple #[.agg #[.bool y204.fNil, .bool y204.fBare, .string y204.fMeta.fName, .string y204.fMeta.fHome, .string y204.fMeta.fVersion, .string y204.fMeta.fDescription, .string y204.fMeta.fIcon, .string y204.fMeta.fAPIVersion, .string y204.fMeta.fCondition, .string y204.fMeta.fTags, .string y204.fMeta.fAppVersion, .string y204.fMeta.fKubeVersion, .string y204.fMeta.fType, .slice y204.fMeta.fSources_a y204.fMeta.fSources.length y204.fMeta.fSources_c, .slice y204.fMeta.fKeywords_a y204.fMeta.fKeywords.length y204.fMeta.fKeywords_c, .slice y204.fMeta.fMaintainers_a y204.fMeta.fMaintainers.length y204.fMeta.fMaintainers_c, .slice y204.fMeta.fDependencies_a y204.fMeta.fDependencies.length y204.fMeta.fDependencies_c, .slice y204.fURLs_a y204.fURLs.length y204.fURLs_c, .string y204.fDigest], .int .i64 f204]) ?_; intro a206 F206
            refine op_q F206 (.agg #[.bool y204.fNil, .bool y204.fBare, .string y204.fMeta.fName, .string y204.fMeta.fHome, .string y204.fMeta.fVersion, .string y204.fMeta.fDescription, .string y204.fMeta.fIcon, .string y204.fMeta.fAPIVersion, .string y204.fMeta.fCondition, .string y204.fMeta.fTags, .string y204.fMeta.fAppVersion, .string y204.fMeta.fKubeVersion, .string y204.fMeta.fType, .slice y204.fMeta.fSources_a y204.fMeta.fSources.length y204.fMeta.fSources_c, .slice y204.fMeta.fKeywords_a y204.fMeta.fKeywords.length y204.fMeta.fKeywords_c, .slice y204.fMeta.fMaintainers_a y204.fMeta.fMaintainers.length y204.fMeta.fMaintainers_c, .slice y204.fMeta.fDependencies_a y204.fMeta.fDependencies.length y204.fMeta.fDependencies_c, .slice y204.fURLs_a y204.fURLs.length y204.fURLs_c, .string y204.fDigest]) ?_; intro a207 F207
            refine op_q F207 (.int .i64 f204) ?_; intro a208 F208
            refine op_sq F208 (s_newp F208 69 #[.bool false, .bool false, .string ⟨#[]⟩, .string ⟨#[]⟩, .string ⟨#[]⟩, .string ⟨#[]⟩, .string ⟨#[]⟩, .string ⟨#[]⟩, .string ⟨#[]⟩, .string ⟨#[]⟩, .string ⟨#[]⟩, .string ⟨#[]⟩, .string ⟨#[]⟩, .slice none 0 0, .slice none 0 0, .slice none 0 0, .slice none 0 0, .slice none 0 0, .string ⟨#[]⟩] (by kernel_rfl) (by kernel_rfl) (by kernel_rfl) S204) ?_
            rintro _ _ w210 ⟨g208, rfl, rfl⟩ S210 a210 F210
            refine op_sq0 F210 (s_stb rfl (F210.e (.pointer (some ⟨g208, 0, none⟩))) (F210.e (.agg #[.bool y204.fNil, .bool y204.fBare, .string y204.fMeta.fName, .string y204.fMeta.fHome, .string y204.fMeta.fVersion, .string y204.fMeta.fDescription, .string y204.fMeta.fIcon, .string y204.fMeta.fAPIVersion, .string y204.fMeta.fCondition, .string y204.fMeta.fTags, .string y204.fMeta.fAppVersion, .string y204.fMeta.fKubeVersion, .string y204.fMeta.fType, .slice y204.fMeta.fSources_a y204.fMeta.fSources.length y204.fMeta.fSources_c, .slice y204.fMeta.fKeywords_a y204.fMeta.fKeywords.length y204.fMeta.fKeywords_c, .slice y204.fMeta.fMaintainers_a y204.fMeta.fMaintainers.length y204.fMeta.fMaintainers_c, .slice y204.fMeta.fDependencies_a y204.fMeta.fDependencies.length y204.fMeta.fDependencies_c, .slice y204.fURLs_a y204.fURLs.length y204.fURLs_c, .string y204.fDigest])) S210 (by kernel_rfl) rfl (by kernel_rfl)) ?_
            rintro _ _ w211 rfl S211 F211
            refine op_q F211 (.int .i64 f204) ?_; intro a212 F212
            refine wpList_nil ?_
            refine hK201 _ _ ?_; clear hK201 K201
            refine wp_seq_k fun K213 hK213 => ?_
            refine wp_region_lit ?_
            refine op_q F212 (.agg #[.string ⟨#[97]⟩, .string ⟨#[]⟩, .string ⟨#[49, 46, 48, 46, 48]⟩, .string ⟨#[]⟩, .string ⟨#[]⟩, .string ⟨#[]⟩, .string ⟨#[]⟩, .string ⟨#[]⟩, .string ⟨#[]⟩, .string ⟨#[]⟩, .string ⟨#[]⟩, .slice none 0 0, .slice none 0 0, .slice none 0 0, .slice none 0 0]) ?_; intro a214 F214
            refine op_sq F214 (s_news F214 9 #[.string ⟨#[117]⟩] 1 (by kernel_rfl) (by kernel_rfl) (by kernel_rfl) S211) ?_
            rintro _ _ w216 ⟨g214, rfl, rfl⟩ S216 a216 F216
            refine op_q F216 (.agg #[.bool false, .bool false, .string ⟨#[97]⟩, .string ⟨#[]⟩, .string ⟨#[49, 46, 48, 46, 48]⟩, .string ⟨#[]⟩, .string ⟨#[]⟩, .string ⟨#[]⟩, .string ⟨#[]⟩, .string ⟨#[]⟩, .string ⟨#[]⟩, .string ⟨#[]⟩, .string ⟨#[]⟩, .slice none 0 0, .slice none 0 0, .slice none 0 0, .slice none 0 0, .slice (some ⟨g214, 0, none⟩) 1 1, .string ⟨#[]⟩]) ?_; intro a217 F217
            refine op_sq F217 (s_news F217 69 #[.bool false, .bool false, .string ⟨#[97]⟩, .string ⟨#[]⟩, .string ⟨#[49, 46, 48, 46, 48]⟩, .string ⟨#[]⟩, .string ⟨#[]⟩, .string ⟨#[]⟩, .string ⟨#[]⟩, .string ⟨#[]⟩, .string ⟨#[]⟩, .string ⟨#[]⟩, .string ⟨#[]⟩, .slice none 0 0, .slice none 0 0, .slice none 0 0, .slice none 0 0, .slice (some ⟨g214, 0, none⟩) 1 1, .string ⟨#[]⟩] 1 (by kernel_rfl) (by kernel_rfl) (by kernel_rfl) S216) ?_
            rintro _ _ w219 ⟨g217, rfl, rfl⟩ S219 a219 F219
            refine op_cq F219 (f := 35) (args := #[.string ⟨#[]⟩, .slice (some ⟨g217, 0, none⟩) 1 1]) (versionFind_one g217 g214 _ _ _ S219 (fun w S => S.bk 0 rfl) (fun w S => S.bk 1 rfl)) ?_
            rintro _ w220 ⟨y220, f220, rfl, S220, hp0_220⟩
            refine ⟨_, rfl, ?_⟩
            intro a221 F221
            refine op_q F221 (.tuple #[.agg #[.bool y220.fNil, .bool y220.fBare, .string y220.fMeta.fName, .string y220.fMeta.fHome, .string y220.fMeta.fVersion, .string y220.fMeta.fDescription, .string y220.fMeta.fIcon, .string y220.fMeta.fAPIVersion, .string y220.fMeta.fCondition, .string y220.fMeta.fTags, .string y220.fMeta.fAppVersion, .string y220.fMeta.fKubeVersion, .string y220.fMeta.fType, .slice y220.fMeta.fSources_a y220.fMeta.fSources.length y220.fMeta.fSources_c, .slice y220.fMeta.fKeywords_a y220.fMeta.fKeywords.length y220.fMeta.fKeywords_c, .slice y220.fMeta.fMaintainers_a y220.fMeta.fMaintainers.length y220.fMeta.fMaintainers_c, .slice y220.fMeta.fDependencies_a y220.fMeta.fDependencies.length y220.fMeta.fDependencies_c, .slice y220.fURLs_a y220.fURLs.length y220.fURLs_c, .string y220.fDigest], .int .i64 f220]) ?_; intro a222 F222
            refine op_q F222 (.agg #[.bool y220.fNil, .bool y220.fBare, .string y220.fMeta.fName, .string y220.fMeta.fHome, .string y220.fMeta.fVersion, .string y220.fMeta.fDescription, .string y220.fMeta.fIcon, .string y220.fMeta.fAPIVersion, .string y220.fMeta.fCondition, .string y220.fMeta.fTags, .string y220.fMeta.fAppVersion, .string y220.fMeta.fKubeVersion, .string y220.fMeta.fType, .slice y220.fMeta.fSources_a y220.fMeta.fSources.length y220.fMeta.fSources_c, .slice y220.fMeta.fKeywords_a y220.fMeta.fKeywords.length y220.fMeta.fKeywords_c, .slice y220.fMeta.fMaintainers_a y220.fMeta.fMaintainers.length y220.fMeta.fMaintainers_c, .slice y220.fMeta.fDependencies_a y220.fMeta.fDependencies.length y220.fMeta.fDependencies_c, .slice y220.fURLs_a y220.fURLs.length y220.fURLs_c, .string y220.fDigest]) ?_; intro a223 F223
            refine op_q F223 (.int .i64 f220) ?_; intro a224 F224
            refine op_sq F224 (s_newp F224 69 #[.bool false, .bool false, .string ⟨#[]⟩, .string ⟨#[]⟩, .string ⟨#[]⟩, .string ⟨#[]⟩, .string ⟨#[]⟩, .string ⟨#[]⟩, .string ⟨#[]⟩, .string ⟨#[]⟩, .string ⟨#[]⟩, .string ⟨#[]⟩, .string ⟨#[]⟩, .slice none 0 0, .slice none 0 0, .slice none 0 0, .slice none 0 0, .slice none 0 0, .string ⟨#[]⟩] (by kernel_rfl) (by kernel_rfl) (by kernel_rfl) S220) ?_
            rintro _ _ w226 ⟨g224, rfl, rfl⟩ S226 a226 F226
            refine op_sq0 F226 (s_stb rfl (F226.e (.pointer (some ⟨g224, 0, none⟩))) (F226.e (.agg #[.bool y220.fNil, .bool y220.fBare, .string y220.fMeta.fName, .string y220.fMeta.fHome, .string y220.fMeta.fVersion, .string y220.fMeta.fDescription, .string y220.fMeta.fIcon, .string y220.fMeta.fAPIVersion, .string y220.fMeta.fCondition, .string y220.fMeta.fTags, .string y220.fMeta.fAppVersion, .string y220.fMeta.fKubeVersion, .string y220.fMeta.fType, .slice y220.fMeta.fSources_a y220.fMeta.fSources.length y220.fMeta.fSources_c, .slice y220.fMeta.fKeywords_a y220.fMeta.fKeywords.length y220.fMeta.fKeywords_c, .slice y220.fMeta.fMaintainers_a y220.fMeta.fMaintainers.length y220.fMeta.fMaintainers_c, .slice y220.fMeta.fDependencies_a y220.fMeta.fDependencies.length y220.fMeta.fDependencies_c, .slice y220.fURLs_a y220.fURLs.length y220.fURLs_c, .string y220.fDigest])) S226 (by kernel_rfl) rfl (by kernel_rfl)) ?_
            rintro _ _ w227 rfl S227 F227
            refine op_q F227 (.int .i64 f220) ?_; intro a228 F228
            refine wpList_nil ?_
            refine hK213 _ _ ?_; clear hK213 K213
            refine wp_seq_k fun K229 hK229 => ?_
            refine wp_seq_k fun K230 hK230 => ?_
            obtain rfl := found_none hp0_204 hall
            refine wp_region_lit ?_
            refine op_q F228 (.int .i64 (-1)) ?_; intro a231 F231
            refine op_q F231 (.bool true) ?_; intro a232 F232
            refine wpList_nil ?_
            refine hK230 _ _ ?_; clear hK230 K230
            refine wp_cond_true (F232.ev (by kernel_rfl)) ?_
            refine wp_seq_k fun K233 hK233 => ?_
            refine wp_region_lit ?_
            refine op_q F232 (.int .i64 1) ?_; intro a234 F234
            refine op_q F234 (.bool true) ?_; intro a235 F235
            refine op_q F235 (.bool true) ?_; intro a236 F236
            refine op_wq F236 ?_
            refine op_q F236 (.pointer (some ⟨g224, 2, none⟩)) ?_; intro a237 F237
            refine op_wq F237 ?_
            refine op_q F237 (.pointer (some ⟨g224, 2, none⟩)) ?_; intro a238 F238
            refine op_wq F238 ?_
            refine op_rq (v := .string y220.fMeta.fName) F238 (r_ld rfl (F238.e (.pointer (some ⟨g224, 2, none⟩))) (v := .string y220.fMeta.fName) ((S227.bk 0 rfl).cell 2) Try.underlying9 rfl) ?_; intro a239 F239
            refine op_wq F239 ?_
            refine op_q F239 (.bool (y220.fMeta.fName.toList == (⟨#[97]⟩ : ByteArray).toList)) ?_; intro a240 F240
            refine op_q F240 (.bool (y220.fMeta.fName.toList == (⟨#[97]⟩ : ByteArray).toList)) ?_; intro a241 F241
            refine op_q F241 (.bool (y220.fMeta.fName.toList == (⟨#[97]⟩ : ByteArray).toList)) ?_; intro a242 F242
            refine wpList_nil ?_
            refine hK233 _ _ ?_; clear hK233 K233
            refine wp_ret ?_
            refine ret_then ?_
            refine (F242.res1 rfl (v := .bool (y220.fMeta.fName.toList == (⟨#[97]⟩ : ByteArray).toList)) (by kernel_rfl) ?_).1
            exact ⟨(ret_bool (by rw [hp0_220]; exact beq_self_eq_true _)), S227.drop.drop.drop.drop.drop.drop.drop.drop⟩
          · subst hat1
            refine wp_region_lit ?_
            refine op_q F200 (.string (verF (ascF v0))) ?_; intro a243 F243
            refine op_q F243 (.slice B ins.length b) ?_; intro a244 F244
            refine op_cq F244 (f := 35) (args := #[.string (verF (ascF v0)), .slice B ins.length b]) (versionFind_sp (verF (ascF v0)) B b ins _ _ _ S113 (fun w S => own_rowsT1 (S.ow 0 rfl) (by first | rfl | (simp; done) | omega) (by decide) (fun x => x.len) (by first | omega | (simp; omega))) (fun w S => S.uvAt 1 rfl hin) (fun x hx => in_ok (hin x hx)) (fun x hx => in_ver (hin x hx)) (by have := verF_size (ascF v0); have := asc_size v0; omega) (verF_cases _) (by first | omega | (simp; done) | (simp; omega))) ?_
            rintro _ w245 ⟨y245, f245, rfl, S245, hp0_245⟩
            refine ⟨_, rfl, ?_⟩
            intro a246 F246
            refine op_q F246 (.tuple #[.agg #[.bool y245.fNil, .bool y245.fBare, .string y245.fMeta.fName, .string y245.fMeta.fHome, .string y245.fMeta.fVersion, .string y245.fMeta.fDescription, .string y245.fMeta.fIcon, .string y245.fMeta.fAPIVersion, .string y245.fMeta.fCondition, .string y245.fMeta.fTags, .string y245.fMeta.fAppVersion, .string y245.fMeta.fKubeVersion, .string y245.fMeta.fType, .slice y245.fMeta.fSources_a y245.fMeta.fSources.length y245.fMeta.fSources_c, .slice y245.fMeta.fKeywords_a y245.fMeta.fKeywords.length y245.fMeta.fKeywords_c, .slice y245.fMeta.fMaintainers_a y245.fMeta.fMaintainers.length y245.fMeta.fMaintainers_c, .slice y245.fMeta.fDependencies_a y245.fMeta.fDependencies.length y245.fMeta.fDependencies_c, .slice y245.fURLs_a y245.fURLs.length y245.fURLs_c, .string y245.fDigest], .int .i64 f245]) ?_; intro a247 F247
            refine op_q F247 (.agg #[.bool y245.fNil, .bool y245.fBare, .string y245.fMeta.fName, .string y245.fMeta.fHome, .string y245.fMeta.fVersion, .string y245.fMeta.fDescription, .string y245.fMeta.fIcon, .string y245.fMeta.fAPIVersion, .string y245.fMeta.fCondition, .string y245.fMeta.fTags, .string y245.fMeta.fAppVersion, .string y245.fMeta.fKubeVersion, .string y245.fMeta.fType, .slice y245.fMeta.fSources_a y245.fMeta.fSources.length y245.fMeta.fSources_c, .slice y245.fMeta.fKeywords_a y245.fMeta.fKeywords.length y245.fMeta.fKeywords_c, .slice y245.fMeta.fMaintainers_a y245.fMeta.fMaintainers.length y245.fMeta.fMaintainers_c, .slice y245.fMeta.fDependencies_a y245.fMeta.fDependencies.length y245.fMeta.fDependencies_c, .slice y245.fURLs_a y245.fURLs.length y245.fURLs_c, .string y245.fDigest]) ?_; intro a248 F248
            refine op_q F248 (.int .i64 f245) ?_; intro a249 F249
            refine op_sq F249 (s_newp F249 69 #[.bool false, .bool false, .string ⟨#[]⟩, .string ⟨#[]⟩, .string ⟨#[]⟩, .string ⟨#[]⟩, .string ⟨#[]⟩, .string ⟨#[]⟩, .string ⟨#[]⟩, .string ⟨#[]⟩, .string ⟨#[]⟩, .string ⟨#[]⟩, .string ⟨#[]⟩, .slice none 0 0, .slice none 0 0, .slice none 0 0, .slice none 0 0, .slice none 0 0, .string ⟨#[]⟩] (by kernel_rfl) (by kernel_rfl) (by kernel_rfl) S245) ?_
            rintro _ _ w251 ⟨g249, rfl, rfl⟩ S251 a251 F251
            refine op_sq0 F251 (s_stb rfl (F251.e (.pointer (some ⟨g249, 0, none⟩))) (F251.e (.agg #[.bool y245.fNil, .bool y245.fBare, .string y245.fMeta.fName, .string y245.fMeta.fHome, .string y245.fMeta.fVersion, .string y245.fMeta.fDescription, .string y245.fMeta.fIcon, .string y245.fMeta.fAPIVersion, .string y245.fMeta.fCondition, .string y245.fMeta.fTags, .string y245.fMeta.fAppVersion, .string y245.fMeta.fKubeVersion, .string y245.fMeta.fType, .slice y245.fMeta.fSources_a y245.fMeta.fSources.length y245.fMeta.fSources_c, .slice y245.fMeta.fKeywords_a y245.fMeta.fKeywords.length y245.fMeta.fKeywords_c, .slice y245.fMeta.fMaintainers_a y245.fMeta.fMaintainers.length y245.fMeta.fMaintainers_c, .slice y245.fMeta.fDependencies_a y245.fMeta.fDependencies.length y245.fMeta.fDependencies_c, .slice y245.fURLs_a y245.fURLs.length y245.fURLs_c, .string y245.fDigest])) S251 (by kernel_rfl) rfl (by kernel_rfl)) ?_
            rintro _ _ w252 rfl S252 F252
            refine op_q F252 (.int .i64 f245) ?_; intro a253 F253
            refine wpList_nil ?_
            refine hK201 _ _ ?_; clear hK201 K201
            refine wp_seq_k fun K254 hK254 => ?_
            refine wp_region_lit ?_
            refine op_q F253 (.agg #[.string ⟨#[97]⟩, .string ⟨#[]⟩, .string ⟨#[49, 46, 48, 46, 48]⟩, .string ⟨#[]⟩, .string ⟨#[]⟩, .string ⟨#[]⟩, .string ⟨#[]⟩, .string ⟨#[]⟩, .string ⟨#[]⟩, .string ⟨#[]⟩, .string ⟨#[]⟩, .slice none 0 0, .slice none 0 0, .slice none 0 0, .slice none 0 0]) ?_; intro a255 F255
            refine op_sq F255 (s_news F255 9 #[.string ⟨#[117]⟩] 1 (by kernel_rfl) (by kernel_rfl) (by kernel_rfl) S252) ?_
            rintro _ _ w257 ⟨g255, rfl, rfl⟩ S257 a257 F257
            refine op_q F257 (.agg #[.bool false, .bool false, .string ⟨#[97]⟩, .string ⟨#[]⟩, .string ⟨#[49, 46, 48, 46, 48]⟩, .string ⟨#[]⟩, .string ⟨#[]⟩, .string ⟨#[]⟩, .string ⟨#[]⟩, .string ⟨#[]⟩, .string ⟨#[]⟩, .string ⟨#[]⟩, .string ⟨#[]⟩, .slice none 0 0, .slice none 0 0, .slice none 0 0, .slice none 0 0, .slice (some ⟨g255, 0, none⟩) 1 1, .string ⟨#[]⟩]) ?_; intro a258 F258
            refine op_sq F258 (s_news F258 69 #[.bool false, .bool false, .string ⟨#[97]⟩, .string ⟨#[]⟩, .string ⟨#[49, 46, 48, 46, 48]⟩, .string ⟨#[]⟩, .string ⟨#[]⟩, .string ⟨#[]⟩, .string ⟨#[]⟩, .string ⟨#[]⟩, .string ⟨#[]⟩, .string ⟨#[]⟩, .string ⟨#[]⟩, .slice none 0 0, .slice none 0 0, .slice none 0 0, .slice none 0 0, .slice (some ⟨g255, 0, none⟩) 1 1, .string ⟨#[]⟩] 1 (by kernel_rfl) (by kernel_rfl) (by kernel_rfl) S257) ?_
            rintro _ _ w260 ⟨g258, rfl, rfl⟩ S260 a260 F260
            refine op_cq F260 (f := 35) (args := #[.string ⟨#[]⟩, .slice (some ⟨g258, 0, none⟩) 1 1]) (versionFind_one g258 g255 _ _ _ S260 (fun w S => S.bk 0 rfl) (fun w S => S.bk 1 rfl)) ?_
            rintro _ w261 ⟨y261, f261, rfl, S261, hp0_261⟩
            refine ⟨_, rfl, ?_⟩
            intro a262 F262
            refine op_q F262 (.tuple #[.agg #[.bool y261.fNil, .bool y261.fBare, .string y261.fMeta.fName, .string y261.fMeta.fHome, .string y261.fMeta.fVersion, .string y261.fMeta.fDescription, .string y261.fMeta.fIcon, .string y261.fMeta.fAPIVersion, .string y261.fMeta.fCondition, .string y261.fMeta.fTags, .string y261.fMeta.fAppVersion, .string y261.fMeta.fKubeVersion, .string y261.fMeta.fType, .slice y261.fMeta.fSources_a y261.fMeta.fSources.length y261.fMeta.fSources_c, .slice y261.fMeta.fKeywords_a y261.fMeta.fKeywords.length y261.fMeta.fKeywords_c, .slice y261.fMeta.fMaintainers_a y261.fMeta.fMaintainers.length y261.fMeta.fMaintainers_c, .slice y261.fMeta.fDependencies_a y261.fMeta.fDependencies.length y261.fMeta.fDependencies_c, .slice y261.fURLs_a y261.fURLs.length y261.fURLs_c, .string y261.fDigest], .int .i64 f261]) ?_; intro a263 F263
            refine op_q F263 (.agg #[.bool y261.fNil, .bool y261.fBare, .string y261.fMeta.fName, .string y261.fMeta.fHome, .string y261.fMeta.fVersion, .string y261.fMeta.fDescription, .string y261.fMeta.fIcon, .string y261.fMeta.fAPIVersion, .string y261.fMeta.fCondition, .string y261.fMeta.fTags, .string y261.fMeta.fAppVersion, .string y261.fMeta.fKubeVersion, .string y261.fMeta.fType, .slice y261.fMeta.fSources_a y261.fMeta.fSources.length y261.fMeta.fSources_c, .slice y261.fMeta.fKeywords_a y261.fMeta.fKeywords.length y261.fMeta.fKeywords_c, .slice y261.fMeta.fMaintainers_a y261.fMeta.fMaintainers.length y261.fMeta.fMaintainers_c, .slice y261.fMeta.fDependencies_a y261.fMeta.fDependencies.length y261.fMeta.fDependencies_c, .slice y261.fURLs_a y261.fURLs.length y261.fURLs_c, .string y261.fDigest]) ?_; intro a264 F264
            refine op_q F264 (.int .i64 f261) ?_; intro a265 F265
            refine op_sq F265 (s_newp F265 69 #[.bool false, .bool false, .string ⟨#[]⟩, .string ⟨#[]⟩, .string ⟨#[]⟩, .string ⟨#[]⟩, .string ⟨#[]⟩, .string ⟨#[]⟩, .string ⟨#[]⟩, .string ⟨#[]⟩, .string ⟨#[]⟩, .string ⟨#[]⟩, .string ⟨#[]⟩, .slice none 0 0, .slice none 0 0, .slice none 0 0, .slice none 0 0, .slice none 0 0, .string ⟨#[]⟩] (by kernel_rfl) (by kernel_rfl) (by kernel_rfl) S261) ?_
            rintro _ _ w267 ⟨g265, rfl, rfl⟩ S267 a267 F267
            refine op_sq0 F267 (s_stb rfl (F267.e (.pointer (some ⟨g265, 0, none⟩))) (F267.e (.agg #[.bool y261.fNil, .bool y261.fBare, .string y261.fMeta.fName, .string y261.fMeta.fHome, .string y261.fMeta.fVersion, .string y261.fMeta.fDescription, .string y261.fMeta.fIcon, .string y261.fMeta.fAPIVersion, .string y261.fMeta.fCondition, .string y261.fMeta.fTags, .string y261.fMeta.fAppVersion, .string y261.fMeta.fKubeVersion, .string y261.fMeta.fType, .slice y261.fMeta.fSources_a y261.fMeta.fSources.length y261.fMeta.fSources_c, .slice y261.fMeta.fKeywords_a y261.fMeta.fKeywords.length y261.fMeta.fKeywords_c, .slice y261.fMeta.fMaintainers_a y261.fMeta.fMaintainers.length y261.fMeta.fMaintainers_c, .slice y261.fMeta.fDependencies_a y261.fMeta.fDependencies.length y261.fMeta.fDependencies_c, .slice y261.fURLs_a y261.fURLs.length y261.fURLs_c, .string y261.fDigest])) S267 (by kernel_rfl) rfl (by kernel_rfl)) ?_
            rintro _ _ w268 rfl S268 F268
            refine op_q F268 (.int .i64 f261) ?_; intro a269 F269
            refine wpList_nil ?_
            refine hK254 _ _ ?_; clear hK254 K254
            refine wp_seq_k fun K270 hK270 => ?_
            refine wp_seq_k fun K271 hK271 => ?_
            obtain ⟨hf0, hee⟩ := found_some hp0_245 hlt_k hvt hvn
            subst hf0
            rw [entT_in (hin _ (List.getElem_mem hlt_k))] at hee
            obtain ⟨ad272, hA272⟩ := (own_rowsT1 (S268.ow 6 rfl) (by first | rfl | (simp; done) | omega) (by decide) (fun x => x.len) (by first | omega | (simp; omega))).addr (by simp; omega)
            refine wp_region_lit ?_
            refine op_q F269 (.int .i64 (↑k)) ?_; intro a273 F273
            refine op_q F273 (.bool (decide ((↑k : Int) < 0))) ?_; intro a274 F274
            refine wpList_nil ?_
            refine hK271 _ _ ?_; clear hK271 K271
            have hc275 : (decide ((↑k : Int) < 0)) = false := (by first | (simp; done) | (simp; omega))
            have F276 := F274.sb 98 (by kernel_rfl) hc275
            refine wp_cond_false (F276.ev (by kernel_rfl)) ?_
            refine wp_skip ?_
            refine hK270 _ _ ?_; clear hK270 K270
            refine wp_seq_k fun K277 hK277 => ?_
            refine wp_region_sepF (L0 := SA.blk g265 69 #[.bool y261.fNil, .bool y261.fBare, .string y261.fMeta.fName, .string y261.fMeta.fHome, .string y261.fMeta.fVersion, .string y261.fMeta.fDescription, .string y261.fMeta.fIcon, .string y261.fMeta.fAPIVersion, .string y261.fMeta.fCondition, .string y261.fMeta.fTags, .string y261.fMeta.fAppVersion, .string y261.fMeta.fKubeVersion, .string y261.fMeta.fType, .slice y261.fMeta.fSources_a y261.fMeta.fSources.length y261.fMeta.fSources_c, .slice y261.fMeta.fKeywords_a y261.fMeta.fKeywords.length y261.fMeta.fKeywords_c, .slice y261.fMeta.fMaintainers_a y261.fMeta.fMaintainers.length y261.fMeta.fMaintainers_c, .slice y261.fMeta.fDependencies_a y261.fMeta.fDependencies.length y261.fMeta.fDependencies_c, .slice y261.fURLs_a y261.fURLs.length y261.fURLs_c, .string y261.fDigest] :: SA.ev y261 :: SA.blk g258 69 #[.bool false, .bool false, .string ⟨#[97]⟩, .string ⟨#[]⟩, .string ⟨#[49, 46, 48, 46, 48]⟩, .string ⟨#[]⟩, .string ⟨#[]⟩, .string ⟨#[]⟩, .string ⟨#[]⟩, .string ⟨#[]⟩, .string ⟨#[]⟩, .string ⟨#[]⟩, .string ⟨#[]⟩, .slice none 0 0, .slice none 0 0, .slice none 0 0, .slice none 0 0, .slice (some ⟨g255, 0, none⟩) 1 1, .string ⟨#[]⟩] :: SA.blk g255 9 #[.string ⟨#[117]⟩] :: SA.blk g249 69 #[.bool y245.fNil, .bool y245.fBare, .string y245.fMeta.fName, .string y245.fMeta.fHome, .string y245.fMeta.fVersion, .string y245.fMeta.fDescription, .string y245.fMeta.fIcon, .string y245.fMeta.fAPIVersion, .string y245.fMeta.fCondition, .string y245.fMeta.fTags, .string y245.fMeta.fAppVersion, .string y245.fMeta.fKubeVersion, .string y245.fMeta.fType, .slice y245.fMeta.fSources_a y245.fMeta.fSources.length y245.fMeta.fSources_c, .slice y245.fMeta.fKeywords_a y245.fMeta.fKeywords.length y245.fMeta.fKeywords_c, .slice y245.fMeta.fMaintainers_a y245.fMeta.fMaintainers.length y245.fMeta.fMaintainers_c, .slice y245.fMeta.fDependencies_a y245.fMeta.fDependencies.length y245.fMeta.fDependencies_c, .slice y245.fURLs_a y245.fURLs.length y245.fURLs_c, .string y245.fDigest] :: SA.ev y245 :: SA.own (.slice B ins.length b) 69 19 ins.length (flatC Ty69.cells ins) :: SA.stars (ins.map SA.uv) :: L) [some [], some [(0, 107)], some [(1, 108)], some [(2, 109)], some [(2, 109)], some [(2, 109)], some [(2, 109), (4, 111), (5, 112)], some [(2, 109), (6, 113)], some [(2, 109), (3, 110), (7, 114)], some [(2, 109), (8, 115)], some [(9, 116)], some [(10, 117)], some [(10, 117), (11, 118)], some [(10, 117), (12, 119)], some [(10, 117), (13, 120)], some [(10, 117), (14, 121)], some [(15, 122)]] [.v 107 (.int .i64 0), .v 108 (.bool true), .v 109 (.bool true), .v 110 (.agg #[.bool y245.fNil, .bool y245.fBare, .string y245.fMeta.fName, .string y245.fMeta.fHome, .string y245.fMeta.fVersion, .string y245.fMeta.fDescription, .string y245.fMeta.fIcon, .string y245.fMeta.fAPIVersion, .string y245.fMeta.fCondition, .string y245.fMeta.fTags, .string y245.fMeta.fAppVersion, .string y245.fMeta.fKubeVersion, .string y245.fMeta.fType, .slice y245.fMeta.fSources_a y245.fMeta.fSources.length y245.fMeta.fSources_c, .slice y245.fMeta.fKeywords_a y245.fMeta.fKeywords.length y245.fMeta.fKeywords_c, .slice y245.fMeta.fMaintainers_a y245.fMeta.fMaintainers.length y245.fMeta.fMaintainers_c, .slice y245.fMeta.fDependencies_a y245.fMeta.fDependencies.length y245.fMeta.fDependencies_c, .slice y245.fURLs_a y245.fURLs.length y245.fURLs_c, .string y245.fDigest]), .v 111 (.slice B ins.length b), .v 112 (.int .i64 (↑k)), .v 113 (.pointer (some (ad272.add (k * 19)))), .v 114 (.agg #[.bool ins[k].fNil, .bool ins[k].fBare, .string ins[k].fMeta.fName, .string ins[k].fMeta.fHome, .string ins[k].fMeta.fVersion, .string ins[k].fMeta.fDescription, .string ins[k].fMeta.fIcon, .string ins[k].fMeta.fAPIVersion, .string ins[k].fMeta.fCondition, .string ins[k].fMeta.fTags, .string ins[k].fMeta.fAppVersion, .string ins[k].fMeta.fKubeVersion, .string ins[k].fMeta.fType, .slice ins[k].fMeta.fSources_a ins[k].fMeta.fSources.length ins[k].fMeta.fSources_c, .slice ins[k].fMeta.fKeywords_a ins[k].fMeta.fKeywords.length ins[k].fMeta.fKeywords_c, .slice ins[k].fMeta.fMaintainers_a ins[k].fMeta.fMaintainers.length ins[k].fMeta.fMaintainers_c, .slice ins[k].fMeta.fDependencies_a ins[k].fMeta.fDependencies.length ins[k].fMeta.fDependencies_c, .slice ins[k].fURLs_a ins[k].fURLs.length ins[k].fURLs_c, .string ins[k].fDigest]), .v 115 (.bool true), .v 116 (.bool true), .v 117 (.bool true), .v 118 (.pointer (some ⟨g265, 2, none⟩)), .v 119 (.pointer (some ⟨g265, 2, none⟩)), .v 120 (.string y261.fMeta.fName), .v 121 (.bool (y261.fMeta.fName.toList == (⟨#[97]⟩ : ByteArray).toList)), .v 122 (.bool (y261.fMeta.fName.toList == (⟨#[97]⟩ : ByteArray).toList)), .v 4 (.bool (y261.fMeta.fName.toList == (⟨#[97]⟩ : ByteArray).toList))] [] F276 rfl (by kernel_rfl) S268 ?_ ?_
            · refine ⟨?_, ?_, ?_, ?_, ?_, ?_, ?_, ?_, ?_, ?_, ?_, ?_, ?_, ?_, ?_, ?_, ?_, trivial⟩
              · intro w322 M322
                intro a322 F322 S322
                refine obl_of (by rfl) ?_
                exact s_p F322 (v := .int .i64 0) (by kernel_rfl) (by kernel_rfl) (by kernel_rfl) S322
              · intro w323 M323
                intro a323 F323 S323
                refine obl_of (by rfl) ?_
                exact s_p F323 (v := .bool true) (by kernel_rfl) (by kernel_rfl) (by kernel_rfl) S323
              · intro w325 M325
                intro a325 F325 S325
                refine obl_of (by rfl) ?_
                exact s_p F325 (v := .bool true) (by kernel_rfl) (by kernel_rfl) (by kernel_rfl) S325
              · intro w327 M327
                intro a327 F327 S327
                refine obl_yes (F327.wanted (q := true) (by kernel_rfl) (by intro t ht; injection ht with ht; subst ht; exact nble rfl)) ?_
                exact s_r (v := .agg #[.bool y245.fNil, .bool y245.fBare, .string y245.fMeta.fName, .string y245.fMeta.fHome, .string y245.fMeta.fVersion, .string y245.fMeta.fDescription, .string y245.fMeta.fIcon, .string y245.fMeta.fAPIVersion, .string y245.fMeta.fCondition, .string y245.fMeta.fTags, .string y245.fMeta.fAppVersion, .string y245.fMeta.fKubeVersion, .string y245.fMeta.fType, .slice y245.fMeta.fSources_a y245.fMeta.fSources.length y245.fMeta.fSources_c, .slice y245.fMeta.fKeywords_a y245.fMeta.fKeywords.length y245.fMeta.fKeywords_c, .slice y245.fMeta.fMaintainers_a y245.fMeta.fMaintainers.length y245.fMeta.fMaintainers_c, .slice y245.fMeta.fDependencies_a y245.fMeta.fDependencies.length y245.fMeta.fDependencies_c, .slice y245.fURLs_a y245.fURLs.length y245.fURLs_c, .string y245.fDigest]) (r_ldm rfl (F327.e (.pointer (some ⟨g249, 0, none⟩))) ((Sp.dropM S327.drop).bk 4 rfl) 19 (by kernel_rfl) Try.underlying69 rfl (by kernel_rfl) (v := #[.bool y245.fNil, .bool y245.fBare, .string y245.fMeta.fName, .string y245.fMeta.fHome, .string y245.fMeta.fVersion, .string y245.fMeta.fDescription, .string y245.fMeta.fIcon, .string y245.fMeta.fAPIVersion, .string y245.fMeta.fCondition, .string y245.fMeta.fTags, .string y245.fMeta.fAppVersion, .string y245.fMeta.fKubeVersion, .string y245.fMeta.fType, .slice y245.fMeta.fSources_a y245.fMeta.fSources.length y245.fMeta.fSources_c, .slice y245.fMeta.fKeywords_a y245.fMeta.fKeywords.length y245.fMeta.fKeywords_c, .slice y245.fMeta.fMaintainers_a y245.fMeta.fMaintainers.length y245.fMeta.fMaintainers_c, .slice y245.fMeta.fDependencies_a y245.fMeta.fDependencies.length y245.fMeta.fDependencies_c, .slice y245.fURLs_a y245.fURLs.length y245.fURLs_c, .string y245.fDigest]) (by kernel_rfl)) S327
              · intro w329 M329
                intro a329 F329 S329
                refine obl_yes (F329.wanted (q := true) (by kernel_rfl) (by intro t ht; injection ht with ht; subst ht; exact nble rfl)) ?_
                exact s_p F329 (v := .slice B ins.length b) (by kernel_rfl) (by kernel_rfl) (by kernel_rfl) S329
              · intro w331 M331
                intro a331 F331 S331
                refine obl_yes (F331.wanted (q := true) (by kernel_rfl) (by intro t ht; injection ht with ht; subst ht; exact nble rfl)) ?_
                exact s_p F331 (v := .int .i64 (↑k)) (by kernel_rfl) (by kernel_rfl) (by kernel_rfl) S331
              · intro w333 M333
                intro a333 F333 S333
                refine obl_yes (F333.wanted (q := true) (by kernel_rfl) (by intro t ht; injection ht with ht; subst ht; exact nble rfl)) ?_
                exact s_r (v := .pointer (some (ad272.add (k * 19)))) (r_ix rfl Try.underlying65 19 (by kernel_rfl) (F333.e (.slice B ins.length b)) hA272 (F333.e (.int .i64 (↑k))) k (by first | rfl | omega | simp) (by first | omega | (simp; done) | (simp; omega)) (rfl)) S333
              · intro w337 M337
                intro a337 F337 S337
                refine obl_yes (F337.wanted (q := true) (by kernel_rfl) (by intro t ht; injection ht with ht; subst ht; exact nble rfl)) ?_
                exact s_r (v := .agg #[.bool ins[k].fNil, .bool ins[k].fBare, .string ins[k].fMeta.fName, .string ins[k].fMeta.fHome, .string ins[k].fMeta.fVersion, .string ins[k].fMeta.fDescription, .string ins[k].fMeta.fIcon, .string ins[k].fMeta.fAPIVersion, .string ins[k].fMeta.fCondition, .string ins[k].fMeta.fTags, .string ins[k].fMeta.fAppVersion, .string ins[k].fMeta.fKubeVersion, .string ins[k].fMeta.fType, .slice ins[k].fMeta.fSources_a ins[k].fMeta.fSources.length ins[k].fMeta.fSources_c, .slice ins[k].fMeta.fKeywords_a ins[k].fMeta.fKeywords.length ins[k].fMeta.fKeywords_c, .slice ins[k].fMeta.fMaintainers_a ins[k].fMeta.fMaintainers.length ins[k].fMeta.fMaintainers_c, .slice ins[k].fMeta.fDependencies_a ins[k].fMeta.fDependencies.length ins[k].fMeta.fDependencies_c, .slice ins[k].fURLs_a ins[k].fURLs.length ins[k].fURLs_c, .string ins[k].fDigest]) (r_ldR rfl (F337.e (.pointer (some (ad272.add (k * 19))))) (cs := [.bool ins[k].fNil, .bool ins[k].fBare, .string ins[k].fMeta.fName, .string ins[k].fMeta.fHome, .string ins[k].fMeta.fVersion, .string ins[k].fMeta.fDescription, .string ins[k].fMeta.fIcon, .string ins[k].fMeta.fAPIVersion, .string ins[k].fMeta.fCondition, .string ins[k].fMeta.fTags, .string ins[k].fMeta.fAppVersion, .string ins[k].fMeta.fKubeVersion, .string ins[k].fMeta.fType, .slice ins[k].fMeta.fSources_a ins[k].fMeta.fSources.length ins[k].fMeta.fSources_c, .slice ins[k].fMeta.fKeywords_a ins[k].fMeta.fKeywords.length ins[k].fMeta.fKeywords_c, .slice ins[k].fMeta.fMaintainers_a ins[k].fMeta.fMaintainers.length ins[k].fMeta.fMaintainers_c, .slice ins[k].fMeta.fDependencies_a ins[k].fMeta.fDependencies.length ins[k].fMeta.fDependencies_c, .slice ins[k].fURLs_a ins[k].fURLs.length ins[k].fURLs_c, .string ins[k].fDigest]) ((own_rowsT1 ((Sp.dropM S337.drop).ow 6 rfl) (by first | rfl | (simp; done) | omega) (by decide) (fun x => x.len) (by first | omega | (simp; omega))).elA hA272 (j := k) (row := ins[k].cells) (by rw [List.getElem?_map, List.getElem?_eq_getElem hlt_k]; rfl)) Try.underlying69 rfl (by kernel_rfl) (v := #[.bool ins[k].fNil, .bool ins[k].fBare, .string ins[k].fMeta.fName, .string ins[k].fMeta.fHome, .string ins[k].fMeta.fVersion, .string ins[k].fMeta.fDescription, .string ins[k].fMeta.fIcon, .string ins[k].fMeta.fAPIVersion, .string ins[k].fMeta.fCondition, .string ins[k].fMeta.fTags, .string ins[k].fMeta.fAppVersion, .string ins[k].fMeta.fKubeVersion, .string ins[k].fMeta.fType, .slice ins[k].fMeta.fSources_a ins[k].fMeta.fSources.length ins[k].fMeta.fSources_c, .slice ins[k].fMeta.fKeywords_a ins[k].fMeta.fKeywords.length ins[k].fMeta.fKeywords_c, .slice ins[k].fMeta.fMaintainers_a ins[k].fMeta.fMaintainers.length ins[k].fMeta.fMaintainers_c, .slice ins[k].fMeta.fDependencies_a ins[k].fMeta.fDependencies.length ins[k].fMeta.fDependencies_c, .slice ins[k].fURLs_a ins[k].fURLs.length ins[k].fURLs_c, .string ins[k].fDigest]) (by kernel_rfl)) S337
              · intro w340 M340
                intro a340 F340 S340
                refine obl_yes (F340.wanted (q := true) (by kernel_rfl) (by intro t ht; injection ht with ht; subst ht; exact nble rfl)) ?_
                refine s_c F340 (f := 36) (args := #[.agg #[.bool y245.fNil, .bool y245.fBare, .string y245.fMeta.fName, .string y245.fMeta.fHome, .string y245.fMeta.fVersion, .string y245.fMeta.fDescription, .string y245.fMeta.fIcon, .string y245.fMeta.fAPIVersion, .string y245.fMeta.fCondition, .string y245.fMeta.fTags, .string y245.fMeta.fAppVersion, .string y245.fMeta.fKubeVersion, .string y245.fMeta.fType, .slice y245.fMeta.fSources_a y245.fMeta.fSources.length y245.fMeta.fSources_c, .slice y245.fMeta.fKeywords_a y245.fMeta.fKeywords.length y245.fMeta.fKeywords_c, .slice y245.fMeta.fMaintainers_a y245.fMeta.fMaintainers.length y245.fMeta.fMaintainers_c, .slice y245.fMeta.fDependencies_a y245.fMeta.fDependencies.length y245.fMeta.fDependencies_c, .slice y245.fURLs_a y245.fURLs.length y245.fURLs_c, .string y245.fDigest], .agg #[.bool ins[k].fNil, .bool ins[k].fBare, .string ins[k].fMeta.fName, .string ins[k].fMeta.fHome, .string ins[k].fMeta.fVersion, .string ins[k].fMeta.fDescription, .string ins[k].fMeta.fIcon, .string ins[k].fMeta.fAPIVersion, .string ins[k].fMeta.fCondition, .string ins[k].fMeta.fTags, .string ins[k].fMeta.fAppVersion, .string ins[k].fMeta.fKubeVersion, .string ins[k].fMeta.fType, .slice ins[k].fMeta.fSources_a ins[k].fMeta.fSources.length ins[k].fMeta.fSources_c, .slice ins[k].fMeta.fKeywords_a ins[k].fMeta.fKeywords.length ins[k].fMeta.fKeywords_c, .slice ins[k].fMeta.fMaintainers_a ins[k].fMeta.fMaintainers.length ins[k].fMeta.fMaintainers_c, .slice ins[k].fMeta.fDependencies_a ins[k].fMeta.fDependencies.length ins[k].fMeta.fDependencies_c, .slice ins[k].fURLs_a ins[k].fURLs.length ins[k].fURLs_c, .string ins[k].fDigest]]) (by kernel_rfl) (by kernel_rfl) (by kernel_rfl) (sameEnt_yes y245 ins[k] _ _ _ S340.drop (fun w S => (Sp.evAt 5 (Sp.dropM S) rfl hee (hin _ (List.getElem_mem hlt_k))).1) (fun w S => ((Sp.dropM S).uvAt 7 rfl hin _ (List.getElem_mem hlt_k)).1) (fun w S => (Sp.evAt 5 (Sp.dropM S) rfl hee (hin _ (List.getElem_mem hlt_k))).2) (fun w S => ((Sp.dropM S).uvAt 7 rfl hin _ (List.getElem_mem hlt_k)).2) (by with_reducible assumption)) ?_
                rintro _ _ ⟨rfl, S344⟩
                exact ⟨_, _, rfl, ⟨rfl, rfl⟩, S344.emp⟩
              · intro w345 M345
                intro a345 F345 S345
                refine obl_of (by rfl) ?_
                exact s_p F345 (v := .bool true) (by kernel_rfl) (by kernel_rfl) (by kernel_rfl) S345
              · intro w348 M348
                intro a348 F348 S348
                refine obl_of (by rfl) ?_
                exact s_p F348 (v := .bool true) (by kernel_rfl) (by kernel_rfl) (by kernel_rfl) S348
              · intro w350 M350
                intro a350 F350 S350
                refine obl_yes (F350.wanted (q := true) (by kernel_rfl) (by intro t ht; injection ht with ht; subst ht; exact nble rfl)) ?_
                exact s_p F350 (v := .pointer (some ⟨g265, 2, none⟩)) (by kernel_rfl) (by kernel_rfl) (by kernel_rfl) S350
              · intro w352 M352
                intro a352 F352 S352
                refine obl_yes (F352.wanted (q := true) (by kernel_rfl) (by intro t ht; injection ht with ht; subst ht; exact nble rfl)) ?_
                exact s_p F352 (v := .pointer (some ⟨g265, 2, none⟩)) (by kernel_rfl) (by kernel_rfl) (by kernel_rfl) S352
              · intro w355 M355
                intro a355 F355 S355
                refine obl_yes (F355.wanted (q := true) (by kernel_rfl) (by intro t ht; injection ht with ht; subst ht; exact nble rfl)) ?_
                exact s_r (v := .string y261.fMeta.fName) (r_ld rfl (F355.e (.pointer (some ⟨g265, 2, none⟩))) (v := .string y261.fMeta.fName) (((Sp.dropM S355.drop).bk 0 rfl).cell 2) Try.underlying9 rfl) S355
              · intro w358 M358
                intro a358 F358 S358
                refine obl_yes (F358.wanted (q := true) (by kernel_rfl) (by intro t ht; injection ht with ht; subst ht; exact nble rfl)) ?_
                exact s_p F358 (v := .bool (y261.fMeta.fName.toList == (⟨#[97]⟩ : ByteArray).toList)) (by kernel_rfl) (by kernel_rfl) (by kernel_rfl) S358
              · intro w361 M361
                intro a361 F361 S361
                refine obl_of (by rfl) ?_
                exact s_p F361 (v := .bool (y261.fMeta.fName.toList == (⟨#[97]⟩ : ByteArray).toList)) (by kernel_rfl) (by kernel_rfl) (by kernel_rfl) S361
              · intro w364 M364
                intro a364 F364 S364
                refine obl_of (by rfl) ?_
                exact s_p F364 (v := .bool (y261.fMeta.fName.toList == (⟨#[97]⟩ : ByteArray).toList)) (by kernel_rfl) (by kernel_rfl) (by kernel_rfl) S364
            · intro a367 w366 F367 S366
              have S368 : Sp R w366 (SA.blk g265 69 #[.bool y261.fNil, .bool y261.fBare, .string y261.fMeta.fName, .string y261.fMeta.fHome, .string y261.fMeta.fVersion, .string y261.fMeta.fDescription, .string y261.fMeta.fIcon, .string y261.fMeta.fAPIVersion, .string y261.fMeta.fCondition, .string y261.fMeta.fTags, .string y261.fMeta.fAppVersion, .string y261.fMeta.fKubeVersion, .string y261.fMeta.fType, .slice y261.fMeta.fSources_a y261.fMeta.fSources.length y261.fMeta.fSources_c, .slice y261.fMeta.fKeywords_a y261.fMeta.fKeywords.length y261.fMeta.fKeywords_c, .slice y261.fMeta.fMaintainers_a y261.fMeta.fMaintainers.length y261.fMeta.fMaintainers_c, .slice y261.fMeta.fDependencies_a y261.fMeta.fDependencies.length y261.fMeta.fDependencies_c, .slice y261.fURLs_a y261.fURLs.length y261.fURLs_c, .string y261.fDigest] :: SA.ev y261 :: SA.blk g258 69 #[.bool false, .bool false, .string ⟨#[97]⟩, .string ⟨#[]⟩, .string ⟨#[49, 46, 48, 46, 48]⟩, .string ⟨#[]⟩, .string ⟨#[]⟩, .string ⟨#[]⟩, .string ⟨#[]⟩, .string ⟨#[]⟩, .string ⟨#[]⟩, .string ⟨#[]⟩, .string ⟨#[]⟩, .slice none 0 0, .slice none 0 0, .slice none 0 0, .slice none 0 0, .slice (some ⟨g255, 0, none⟩) 1 1, .string ⟨#[]⟩] :: SA.blk g255 9 #[.string ⟨#[117]⟩] :: SA.blk g249 69 #[.bool y245.fNil, .bool y245.fBare, .string y245.fMeta.fName, .string y245.fMeta.fHome, .string y245.fMeta.fVersion, .string y245.fMeta.fDescription, .string y245.fMeta.fIcon, .string y245.fMeta.fAPIVersion, .string y245.fMeta.fCondition, .string y245.fMeta.fTags, .string y245.fMeta.fAppVersion, .string y245.fMeta.fKubeVersion, .string y245.fMeta.fType, .slice y245.fMeta.fSources_a y245.fMeta.fSources.length y245.fMeta.fSources_c, .slice y245.fMeta.fKeywords_a y245.fMeta.fKeywords.length y245.fMeta.fKeywords_c, .slice y245.fMeta.fMaintainers_a y245.fMeta.fMaintainers.length y245.fMeta.fMaintainers_c, .slice y245.fMeta.fDependencies_a y245.fMeta.fDependencies.length y245.fMeta.fDependencies_c, .slice y245.fURLs_a y245.fURLs.length y245.fURLs_c, .string y245.fDigest] :: SA.ev y245 :: SA.own (.slice B ins.length b) 69 19 ins.length (flatC Ty69.cells ins) :: SA.stars (ins.map SA.uv) :: L) := S366
              refine wpList_nil ?_
              refine hK277 _ _ ?_; clear hK277 K277
              refine wp_ret ?_
              refine (F367.res1 rfl (v := .bool (y261.fMeta.fName.toList == (⟨#[97]⟩ : ByteArray).toList)) (by kernel_rfl) ?_).1
              exact ⟨(ret_bool (by rw [hp0_261]; exact beq_self_eq_true _)), S368.drop.drop.drop.drop.drop.drop.drop.drop⟩
    · have F369 := F24.sb 19 (by kernel_rfl) hc25
      have F370 := F369.sb 20 (by kernel_rfl) (show (!(fits31 xs)) = true by rw [hc25]; rfl)
      have F371 := F370.sb 21 (by kernel_rfl) (show (!(fits31 xs)) = true by rw [hc25]; rfl)
      refine wp_cond_true (F371.ev (by kernel_rfl)) ?_
      refine wp_seq_k fun K372 hK372 => ?_
      refine wp_region_lit ?_
      refine op_q F371 (.bool true) ?_; intro a373 F373
      refine wpList_nil ?_
      refine hK372 _ _ ?_; clear hK372 K372
      refine wp_ret ?_
      refine ret_then ?_
      refine (F373.res1 rfl (v := .bool true) (by kernel_rfl) ?_).1
      exact ⟨rfl, S21⟩
theorem fnVersionFind_walk (v0 : ByteArray) (A : Option Addr) (c : Nat) (xs : List Ty69) (w : World) (_y0 : v0.size ≤ maxLen) (y1 : Rows w A 19 (xs.map Ty69.cells)) (_z1 : xs.length ≤ c) (u1 : ∀ x ∈ xs, x.ok w) : Calls Try.prog 7 #[.string v0, .slice A xs.length c] w fun e w' => e = .returned (.bool true) ∧ Below w.heap.size w w' := by
  exact (versionLaw_sp v0 A c xs _ [] w (Sp.start w) (Rf.of fun _ hb => y1.below hb) (Rf.of fun _ hb => Ty69.oks.below u1 hb)).mono fun _ _ ⟨he, hS⟩ => ⟨he, Sp.below_of hS⟩
end Go.Proofs.Ytkjcedlgljeoiaa

