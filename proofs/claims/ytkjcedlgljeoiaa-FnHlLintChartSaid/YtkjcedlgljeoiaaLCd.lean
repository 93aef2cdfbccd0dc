/- Texts Lc6, laid together. -/
import Derived.WalkKit
import Derived.WalkLawsBesides
import Derived.WalkSpells
import Derived.Lib.Hide
import Derived.Deep.RegionWith
import Derived.Deep.DeepCutAuto
import Derived.Deep.QuietTactic
import Derived.BigQuiet
import Derived.Laws.OwnMore
import Derived.Deep.LoopGhost
import Derived.KernelRfl
import Derived.Deep.WholeRow
import Derived.StillTail
import Derived.SliceStrings
import Derived.Deep.Slices
import Derived.Deep.Fields
import Derived.ChangeSame
import Derived.Deep.MidRow
import Derived.Maps.AppendAt
import Derived.Lib.AppendStr
import Derived.Lib.ConvBytes
import Derived.Laws.BytesArg
import Derived.Deep.RegionLaw
import Derived.OwnWalk
import Derived.Maps.OwnSet
import Derived.Maps.OwnOps
import Derived.ArgAppend
import Derived.Defers
import Derived.Recover
import Derived.Laws.Pointers
import Derived.Laws.StructEq
import Derived.IntWalk
import Derived.Test.YtkjcedlgljeoiaaProg
import Derived.BigRegion
import Derived.Deep.CutBlock
import Derived.Test.YtkjcedlgljeoiaaLCc
/- The walk of FnHlLintChart. -/
namespace Go.Proofs.Ytkjcedlgljeoiaa
open Go.RowKit Go.Lib
set_option linter.unusedVariables false
set_option linter.unusedSimpArgs false
theorem short_len {xs : List ByteArray} (h : shortB xs = true) : xs.length ≤ 30 := by
  unfold shortB at h
  rw [Bool.and_eq_true] at h
  exact of_decide_eq_true h.1
theorem short_all {xs : List ByteArray} (h : shortB xs = true) : ∀ x ∈ xs, x.size ≤ 100 := fun x hx => by
  unfold shortB at h
  rw [Bool.and_eq_true, List.all_eq_true] at h
  have := h.2 x hx
  unfold shortS at this
  rw [Bool.and_eq_true] at this
  exact of_decide_eq_true this.1
theorem fits_dep {m : Ty26} (h : fits37 m = true) : ∀ d ∈ m.fDependencies, d.fName.size ≤ 2147483647 ∧ d.fRepository.size ≤ 2147483647 ∧ d.fCondition.size ≤ 2147483647 ∧ d.fAlias.size ≤ 2147483647 := fun d hd => by
  simp only [fits37, Bool.and_eq_true] at h
  have h2 := h.2
  unfold fits90 at h2
  rw [Bool.and_eq_true, List.all_eq_true] at h2
  have h3 := h2.2 d hd
  simp only [fits152, Bool.and_eq_true, decide_eq_true_eq] at h3
  omega
theorem lper_snoc {ps : List Ty78} {k : Nat} (h : k < ps.length) : lper (ps.take (k + 1)) = (lper (ps.take k) || (ps[k].fNil || (ps[k].fName.toList == (⟨#[]⟩ : ByteArray).toList))) := by
  unfold lper
  rw [List.take_succ_eq_append_getElem h, List.any_append]; simp
theorem hp_empty {s : ByteArray} (h : s.size = 0) : hpB s = plainB s := by rw [bytes_nil h]; decide
theorem hp_yes {s : ByteArray} (h : hpB s = true) : hpB s = plainB s := by rw [h, hp_plain h]
theorem hp_word {s : ByteArray} (h : wB s = true) : hpB s = plainB s := by
  rw [errB_plain (w_err h)]
  cases hc : hpB s with
  | false => rfl
  | true => have := hp_plain hc; rw [errB_plain (w_err h)] at this; cases this
theorem sl_end {s : ByteArray} {sl : Bool} {i : Nat} (hi : s.size ≤ i) (h1 : sl = true → slB s = true) (h2 : sl = false → ∀ j, ∀ h : j < s.size, j < i → s[j].toNat ≠ 47) : sl = slB s := by
  cases sl with
  | true => exact (h1 rfl).symm
  | false =>
    cases hc : slB s with
    | false => rfl
    | true =>
      obtain ⟨j, hj, e⟩ := slB_ex hc
      exact absurd e (h2 rfl j hj (by omega))
theorem e_name {m : Ty26} : lname m = cond (m.fName.toList == (⟨#[]⟩ : ByteArray).toList) true (cond (slB m.fName) (!(m.fName.toList == (⟨#[47]⟩ : ByteArray).toList)) false) := by
  unfold lname
  cases m.fName.toList == (⟨#[]⟩ : ByteArray).toList <;> cases slB m.fName <;> cases m.fName.toList == (⟨#[47]⟩ : ByteArray).toList <;> rfl
theorem beq_sw (a b : ByteArray) : (a.toList == b.toList) = (b.toList == a.toList) := Bool.eq_iff_iff.2 (by rw [beq_iff_eq, beq_iff_eq]; exact ⟨Eq.symm, Eq.symm⟩)
theorem e_ty {a : ByteArray} : decide ((0 : Int) < a.size) = !(a.toList == (⟨#[]⟩ : ByteArray).toList) := by
  rcases Nat.eq_zero_or_pos a.size with h | h
  · rw [sz_emp h]; simp [h]
  · rw [emp_no h]; simp; omega
theorem e_type {m : Ty26} : ltype m = cond (m.fType.toList == (⟨#[]⟩ : ByteArray).toList) false (!(m.fAPIVersion.toList == (⟨#[118, 50]⟩ : ByteArray).toList)) := by
  unfold ltype isV2
  rw [e_ty]
  cases m.fType.toList == (⟨#[]⟩ : ByteArray).toList <;> cases m.fAPIVersion.toList == (⟨#[118, 50]⟩ : ByteArray).toList <;> rfl
theorem e_dep {m : Ty26} : ldep m = cond (decide ((0 : Int) < m.fDependencies.length)) (!(m.fAPIVersion.toList == (⟨#[118, 50]⟩ : ByteArray).toList)) false := by
  unfold ldep isV2
  cases decide ((0 : Int) < m.fDependencies.length) <;> rfl
theorem e_api {m : Ty26} : lapi m = !(oneOf m.fAPIVersion [⟨#[118, 49]⟩, ⟨#[118, 50]⟩]) := by
  unfold lapi isV1 isV2 oneOf
  simp only [List.any_cons, List.any_nil, Bool.or_false]
  rw [beq_sw ⟨#[118, 49]⟩ m.fAPIVersion, beq_sw ⟨#[118, 50]⟩ m.fAPIVersion]
  cases h0 : m.fAPIVersion.toList == (⟨#[]⟩ : ByteArray).toList with
  | true =>
    have e : m.fAPIVersion = ⟨#[]⟩ := bytes_eqL h0
    rw [e, beq_sw ⟨#[]⟩ ⟨#[118, 49]⟩, beq_sw ⟨#[]⟩ ⟨#[118, 50]⟩, emp_no (a := ⟨#[118, 49]⟩) (by decide), emp_no (a := ⟨#[118, 50]⟩) (by decide)]
    rfl
  | false =>
    cases m.fAPIVersion.toList == (⟨#[118, 49]⟩ : ByteArray).toList <;> cases m.fAPIVersion.toList == (⟨#[118, 50]⟩ : ByteArray).toList <;> rfl
theorem hlShort5 (a b c d e : ByteArray) (g : Nat) (w : World) (h : Blk w g 9 #[.string a, .string b, .string c, .string d, .string e]) : Calls Try.prog 19 #[.slice (some ⟨g, 0, none⟩) 5 5] w fun e' w' => e' = .returned (.bool (shortB [a, b, c, d, e])) ∧ w = w' :=
  hlShort_any _ 5 [a, b, c, d, e] w (h.sl (by simp))
theorem hlShort1L (a : ByteArray) (g : Nat) (w : World) (h : Blk w g 9 #[.string a]) : Calls Try.prog 19 #[.slice (some ⟨g, 0, none⟩) 1 1] w fun e' w' => e' = .returned (.bool (shortB [a])) ∧ w = w' :=
  hlShort_any _ 1 [a] w (h.sl (by simp))
theorem oneOf2 (s a b : ByteArray) (g : Nat) (w : World) (h : Blk w g 9 #[.string a, .string b]) : Calls Try.prog 41 #[.string s, .slice (some ⟨g, 0, none⟩) 2 2] w fun e' w' => e' = .returned (.bool (oneOf s [a, b])) ∧ w = w' :=
  oneOf_any s _ 2 [a, b] w (h.sl (by simp))
set_option maxRecDepth 100000 in
set_option maxHeartbeats 20000000 in
theorem lintLaw_sp (m : Ty26) (R : Ctx) (L : List SA) (w : World) (S : Sp R w (L)) (h0 : Rf R L fun w => Sl w (m.fSources_a) (strs m.fSources)) (h1 : Rf R L fun w => Sl w (m.fKeywords_a) (strs m.fKeywords)) (h2 : Rf R L fun w => Rows w (m.fMaintainers_a) 4 (m.fMaintainers.map Ty78.cells)) (h3 : Rf R L fun w => Rows w (m.fDependencies_a) 7 (m.fDependencies.map Ty80.cells)) (h4 : Rf R L fun w => ∀ d ∈ m.fDependencies, Sl w d.fTags_a (strs d.fTags)) (h5 : Rf R L fun w => Ty26.ok m w)  :
    Calls Try.prog 8 #[.agg #[.string m.fName, .string m.fHome, .string m.fVersion, .string m.fDescription, .string m.fIcon, .string m.fAPIVersion, .string m.fCondition, .string m.fTags, .string m.fAppVersion, .string m.fKubeVersion, .string m.fType, .slice (m.fSources_a) (m.fSources.length) (m.fSources_c), .slice (m.fKeywords_a) (m.fKeywords.length) (m.fKeywords_c), .slice (m.fMaintainers_a) (m.fMaintainers.length) (m.fMaintainers_c), .slice (m.fDependencies_a) (m.fDependencies.length) (m.fDependencies_c)]] w fun e w' => e = .returned (.bool true) ∧ Sp R w' (L) := by
  have hl_m_fSources : m.fSources.length ≤ 9223372036854775807 := by have := (h0 _ S).1; simpa [strs, ptrs, pps] using this
  have hl_m_fKeywords : m.fKeywords.length ≤ 9223372036854775807 := by have := (h1 _ S).1; simpa [strs, ptrs, pps] using this
  have hl_m_fMaintainers : m.fMaintainers.length ≤ 9223372036854775807 := by have := (h2 _ S).1; simpa [strs, ptrs, pps] using this
  have hl_m_fDependencies : m.fDependencies.length ≤ 9223372036854775807 := by have := (h3 _ S).1; simpa [strs, ptrs, pps] using this
  refine fw_enter (fn := Try.f8) rfl rfl 228 rfl (Nat.le_of_ble_eq_true rfl) ?_
  intro a0 F0
  refine wp_seq_k fun K1 hK1 => ?_
  refine wp_region_lit ?_
  refine op_sq F0 (s_newp F0 26 #[.string m.fName, .string m.fHome, .string m.fVersion, .string m.fDescription, .string m.fIcon, .string m.fAPIVersion, .string m.fCondition, .string m.fTags, .string m.fAppVersion, .string m.fKubeVersion, .string m.fType, .slice (m.fSources_a) (m.fSources.length) (m.fSources_c), .slice (m.fKeywords_a) (m.fKeywords.length) (m.fKeywords_c), .slice (m.fMaintainers_a) (m.fMaintainers.length) (m.fMaintainers_c), .slice (m.fDependencies_a) (m.fDependencies.length) (m.fDependencies_c)] (by kernel_rfl) (by kernel_rfl) (by kernel_rfl) S) ?_
  rintro _ _ w3 ⟨g1, rfl, rfl⟩ S3 a3 F3
  refine op_q F3 (.bool false) ?_; intro a4 F4
  refine wpList_nil ?_
  refine hK1 _ _ ?_; clear hK1 K1
  refine wp_seq_k fun K5 hK5 => ?_
  refine wp_seq_k fun K6 hK6 => ?_
  refine wp_region_lit ?_
  refine op_rq (v := .agg #[.string m.fName, .string m.fHome, .string m.fVersion, .string m.fDescription, .string m.fIcon, .string m.fAPIVersion, .string m.fCondition, .string m.fTags, .string m.fAppVersion, .string m.fKubeVersion, .string m.fType, .slice (m.fSources_a) (m.fSources.length) (m.fSources_c), .slice (m.fKeywords_a) (m.fKeywords.length) (m.fKeywords_c), .slice (m.fMaintainers_a) (m.fMaintainers.length) (m.fMaintainers_c), .slice (m.fDependencies_a) (m.fDependencies.length) (m.fDependencies_c)]) F4 (r_ldm rfl (F4.e (.pointer (some ⟨g1, 0, none⟩))) (S3.bk 0 rfl) 15 (by kernel_rfl) Try.underlying26 rfl (by kernel_rfl) (v := #[.string m.fName, .string m.fHome, .string m.fVersion, .string m.fDescription, .string m.fIcon, .string m.fAPIVersion, .string m.fCondition, .string m.fTags, .string m.fAppVersion, .string m.fKubeVersion, .string m.fType, .slice (m.fSources_a) (m.fSources.length) (m.fSources_c), .slice (m.fKeywords_a) (m.fKeywords.length) (m.fKeywords_c), .slice (m.fMaintainers_a) (m.fMaintainers.length) (m.fMaintainers_c), .slice (m.fDependencies_a) (m.fDependencies.length) (m.fDependencies_c)]) (by kernel_rfl)) ?_; intro a7 F7
  refine op_cq F7 (f := 37) (args := #[.agg #[.string m.fName, .string m.fHome, .string m.fVersion, .string m.fDescription, .string m.fIcon, .string m.fAPIVersion, .string m.fCondition, .string m.fTags, .string m.fAppVersion, .string m.fKubeVersion, .string m.fType, .slice (m.fSources_a) (m.fSources.length) (m.fSources_c), .slice (m.fKeywords_a) (m.fKeywords.length) (m.fKeywords_c), .slice (m.fMaintainers_a) (m.fMaintainers.length) (m.fMaintainers_c), .slice (m.fDependencies_a) (m.fDependencies.length) (m.fDependencies_c)]]) (fits37_any m _ (h5 _ S3.drop)) ?_
  rintro _ w8 ⟨rfl, hb_8⟩
  refine ⟨_, rfl, ?_⟩
  intro a9 F9
  have S8 := S3.below hb_8
  refine op_q F9 (.bool (!(fits37 m))) ?_; intro a10 F10
  refine wpList_nil ?_
  refine hK6 _ _ ?_; clear hK6 K6
  rcases btf (fits37 m) with hc11 | hc11
  · have hfd := fits_dep hc11
    have F12 := F10.sb 16 (by kernel_rfl) hc11
    have F13 := F12.sb 17 (by kernel_rfl) (show (!(fits37 m)) = false by rw [hc11]; rfl)
    refine wp_cond_false (F13.ev (by kernel_rfl)) ?_
    refine wp_skip ?_
    refine hK5 _ _ ?_; clear hK5 K5
    refine fw_cut (fun a' w' => Fr 228 [] a' [(1, .pointer (some ⟨g1, 0, none⟩))] ∧ Sp R w' (SA.blk g1 26 #[.string m.fName, .string m.fHome, .string m.fVersion, .string m.fDescription, .string m.fIcon, .string m.fAPIVersion, .string m.fCondition, .string m.fTags, .string m.fAppVersion, .string m.fKubeVersion, .string m.fType, .slice (m.fSources_a) (m.fSources.length) (m.fSources_c), .slice (m.fKeywords_a) (m.fKeywords.length) (m.fKeywords_c), .slice (m.fMaintainers_a) (m.fMaintainers.length) (m.fMaintainers_c), .slice (m.fDependencies_a) (m.fDependencies.length) (m.fDependencies_c)] :: L) ∧ (m.fVersion.size = 0 ∨ plainB m.fVersion = true ∨ errB m.fVersion = true) ∧ (hpB m.fVersion = plainB m.fVersion) ∧ (m.fName.size ≤ 100) ∧ (m.fVersion.size ≤ 100) ∧ (m.fMaintainers.length ≤ 10) ∧ (m.fDependencies.length ≤ 10) ∧ (m.fSources.length ≤ 30) ∧ (m.fKeywords.length ≤ 30)) ?_ ?_
    · intro K14 hK14
      refine wp_seq_k fun K15 hK15 => ?_
      refine wp_region_lit ?_
      refine op_q F13 (.pointer (some ⟨g1, 0, none⟩)) ?_; intro a16 F16
      refine op_rq (v := .string m.fName) F16 (r_ld rfl (F16.e (.pointer (some ⟨g1, 0, none⟩))) (v := .string m.fName) ((S8.bk 0 rfl).cell 0) Try.underlying9 rfl) ?_; intro a17 F17
      refine op_q F17 (.pointer (some ⟨g1, 5, none⟩)) ?_; intro a18 F18
      refine op_rq (v := .string m.fAPIVersion) F18 (r_ld rfl (F18.e (.pointer (some ⟨g1, 5, none⟩))) (v := .string m.fAPIVersion) ((S8.bk 0 rfl).cell 5) Try.underlying9 rfl) ?_; intro a19 F19
      refine op_q F19 (.pointer (some ⟨g1, 2, none⟩)) ?_; intro a20 F20
      refine op_rq (v := .string m.fVersion) F20 (r_ld rfl (F20.e (.pointer (some ⟨g1, 2, none⟩))) (v := .string m.fVersion) ((S8.bk 0 rfl).cell 2) Try.underlying9 rfl) ?_; intro a21 F21
      refine op_q F21 (.pointer (some ⟨g1, 4, none⟩)) ?_; intro a22 F22
      refine op_rq (v := .string m.fIcon) F22 (r_ld rfl (F22.e (.pointer (some ⟨g1, 4, none⟩))) (v := .string m.fIcon) ((S8.bk 0 rfl).cell 4) Try.underlying9 rfl) ?_; intro a23 F23
      refine op_q F23 (.pointer (some ⟨g1, 10, none⟩)) ?_; intro a24 F24
      refine op_rq (v := .string m.fType) F24 (r_ld rfl (F24.e (.pointer (some ⟨g1, 10, none⟩))) (v := .string m.fType) ((S8.bk 0 rfl).cell 10) Try.underlying9 rfl) ?_; intro a25 F25
      refine op_sq F25 (s_news F25 9 #[.string m.fName, .string m.fAPIVersion, .string m.fVersion, .string m.fIcon, .string m.fType] 5 (by kernel_rfl) (by kernel_rfl) (by kernel_rfl) S8) ?_
      rintro _ _ w27 ⟨g25, rfl, rfl⟩ S27 a27 F27
      refine op_cq F27 (f := 19) (args := #[.slice (some ⟨g25, 0, none⟩) 5 5]) (hlShort5 m.fName m.fAPIVersion m.fVersion m.fIcon m.fType g25 _ (S27.bk 0 rfl)) ?_
      rintro _ _ ⟨rfl, rfl⟩
      refine ⟨_, rfl, ?_⟩
      intro a29 F29
      refine op_q F29 (.bool (!(shortB [m.fName, m.fAPIVersion, m.fVersion, m.fIcon, m.fType]))) ?_; intro a30 F30
      refine op_q F30 (.bool (!(shortB [m.fName, m.fAPIVersion, m.fVersion, m.fIcon, m.fType]))) ?_; intro a31 F31
      rcases btf (shortB [m.fName, m.fAPIVersion, m.fVersion, m.fIcon, m.fType]) with hc32 | hc32
      · have hs5 := short_all hc32
        have hn100 : m.fName.size ≤ 100 := hs5 _ (by simp)
        have hv100 : m.fVersion.size ≤ 100 := hs5 _ (by simp)
        have F33 := F31.sb 29 (by kernel_rfl) hc32
        have F34 := F33.sb 30 (by kernel_rfl) (show (!(shortB [m.fName, m.fAPIVersion, m.fVersion, m.fIcon, m.fType])) = false by rw [hc32]; rfl)
        have F35 := F34.sb 31 (by kernel_rfl) (show (!(shortB [m.fName, m.fAPIVersion, m.fVersion, m.fIcon, m.fType])) = false by rw [hc32]; rfl)
        refine op_wq F35 ?_
        refine op_q F35 (.pointer (some ⟨g1, 13, none⟩)) ?_; intro a36 F36
        refine op_wq F36 ?_
        refine op_rq (v := .slice (m.fMaintainers_a) (m.fMaintainers.length) (m.fMaintainers_c)) F36 (r_ld rfl (F36.e (.pointer (some ⟨g1, 13, none⟩))) (v := .slice (m.fMaintainers_a) (m.fMaintainers.length) (m.fMaintainers_c)) ((S27.bk 1 rfl).cell 13) Try.underlying23 rfl) ?_; intro a37 F37
        refine op_wq F37 ?_
        refine op_q F37 (.int .i64 (↑m.fMaintainers.length)) ?_; intro a38 F38
        refine op_wq F38 ?_
        refine op_q F38 (.bool (decide ((10 : Int) < ↑m.fMaintainers.length))) ?_; intro a39 F39
        refine op_q F39 (.bool (decide ((10 : Int) < ↑m.fMaintainers.length))) ?_; intro a40 F40
        refine op_q F40 (.bool (decide ((10 : Int) < ↑m.fMaintainers.length))) ?_; intro a41 F41
        rcases btf (decide ((10 : Int) < ↑m.fMaintainers.length)) with hc42 | hc42
        · have hc42p := of_decide_eq_true hc42
          have F43 := F41.sb 35 (by kernel_rfl) hc42
          have F44 := F43.sb 36 (by kernel_rfl) hc42
          have F45 := F44.sb 37 (by kernel_rfl) hc42
          refine op_kq F45 ?_; intro a46 F46
          refine op_kq F46 ?_; intro a47 F47
          refine op_kq F47 ?_; intro a48 F48
          refine op_kq F48 ?_; intro a49 F49
          refine op_q F49 (.bool true) ?_; intro a50 F50
          refine op_q F50 (.bool true) ?_; intro a51 F51
          refine op_kq F51 ?_; intro a52 F52
          refine op_kq F52 ?_; intro a53 F53
          refine op_kq F53 ?_; intro a54 F54
          refine op_kq F54 ?_; intro a55 F55
          refine op_q F55 (.bool true) ?_; intro a56 F56
          refine op_q F56 (.bool true) ?_; intro a57 F57
          refine op_kq F57 ?_; intro a58 F58
          refine op_kq F58 ?_; intro a59 F59
          refine op_kq F59 ?_; intro a60 F60
          refine op_kq F60 ?_; intro a61 F61
          refine op_q F61 (.bool true) ?_; intro a62 F62
          refine op_q F62 (.bool true) ?_; intro a63 F63
          refine op_kq F63 ?_; intro a64 F64
          refine op_kq F64 ?_; intro a65 F65
          refine op_kq F65 ?_; intro a66 F66
          refine op_kq F66 ?_; intro a67 F67
          refine op_kq F67 ?_; intro a68 F68
          refine op_kq F68 ?_; intro a69 F69
          refine op_kq F69 ?_; intro a70 F70
          refine op_kq F70 ?_; intro a71 F71
          refine op_kq F71 ?_; intro a72 F72
          refine op_kq F72 ?_; intro a73 F73
          refine op_kq F73 ?_; intro a74 F74
          refine op_kq F74 ?_; intro a75 F75
          refine op_kq F75 ?_; intro a76 F76
          refine op_kq F76 ?_; intro a77 F77
          refine op_kq F77 ?_; intro a78 F78
          refine op_q F78 (.bool true) ?_; intro a79 F79
          refine wpList_nil ?_
          refine hK15 _ _ ?_; clear hK15 K15
          refine wp_cond_true (F79.ev (by kernel_rfl)) ?_
          refine wp_seq_k fun K80 hK80 => ?_
          refine wp_region_lit ?_
          refine op_q F79 (.bool true) ?_; intro a81 F81
          refine wpList_nil ?_
          refine hK80 _ _ ?_; clear hK80 K80
          refine wp_ret ?_
          refine ret_then ?_
          refine (F81.res1 rfl (v := .bool true) (by kernel_rfl) ?_).1
          exact ⟨rfl, S27.drop.drop⟩
        · have hc42p := of_decide_eq_false hc42
          have F82 := F41.sb 35 (by kernel_rfl) hc42
          have F83 := F82.sb 36 (by kernel_rfl) hc42
          have F84 := F83.sb 37 (by kernel_rfl) hc42
          refine op_wq F84 ?_
          refine op_q F84 (.pointer (some ⟨g1, 14, none⟩)) ?_; intro a85 F85
          refine op_wq F85 ?_
          refine op_rq (v := .slice (m.fDependencies_a) (m.fDependencies.length) (m.fDependencies_c)) F85 (r_ld rfl (F85.e (.pointer (some ⟨g1, 14, none⟩))) (v := .slice (m.fDependencies_a) (m.fDependencies.length) (m.fDependencies_c)) ((S27.bk 1 rfl).cell 14) Try.underlying24 rfl) ?_; intro a86 F86
          refine op_wq F86 ?_
          refine op_q F86 (.int .i64 (↑m.fDependencies.length)) ?_; intro a87 F87
          refine op_wq F87 ?_
          refine op_q F87 (.bool (decide ((10 : Int) < ↑m.fDependencies.length))) ?_; intro a88 F88
          refine op_q F88 (.bool (decide ((10 : Int) < ↑m.fDependencies.length))) ?_; intro a89 F89
          refine op_q F89 (.bool (decide ((10 : Int) < ↑m.fDependencies.length))) ?_; intro a90 F90
          rcases btf (decide ((10 : Int) < ↑m.fDependencies.length)) with hc91 | hc91
          · have hc91p := of_decide_eq_true hc91
            have F92 := F90.sb 41 (by kernel_rfl) hc91
            have F93 := F92.sb 42 (by kernel_rfl) hc91
            have F94 := F93.sb 43 (by kernel_rfl) hc91
            refine op_kq F94 ?_; intro a95 F95
            refine op_kq F95 ?_; intro a96 F96
            refine op_kq F96 ?_; intro a97 F97
            refine op_kq F97 ?_; intro a98 F98
            refine op_q F98 (.bool true) ?_; intro a99 F99
            refine op_q F99 (.bool true) ?_; intro a100 F100
            refine op_kq F100 ?_; intro a101 F101
            refine op_kq F101 ?_; intro a102 F102
            refine op_kq F102 ?_; intro a103 F103
            refine op_kq F103 ?_; intro a104 F104
            refine op_q F104 (.bool true) ?_; intro a105 F105
            refine op_q F105 (.bool true) ?_; intro a106 F106
            refine op_kq F106 ?_; intro a107 F107
            refine op_kq F107 ?_; intro a108 F108
            refine op_kq F108 ?_; intro a109 F109
            refine op_kq F109 ?_; intro a110 F110
            refine op_kq F110 ?_; intro a111 F111
            refine op_kq F111 ?_; intro a112 F112
            refine op_kq F112 ?_; intro a113 F113
            refine op_kq F113 ?_; intro a114 F114
            refine op_kq F114 ?_; intro a115 F115
            refine op_kq F115 ?_; intro a116 F116
            refine op_kq F116 ?_; intro a117 F117
            refine op_kq F117 ?_; intro a118 F118
            refine op_kq F118 ?_; intro a119 F119
            refine op_kq F119 ?_; intro a120 F120
            refine op_kq F120 ?_; intro a121 F121
            refine op_q F121 (.bool true) ?_; intro a122 F122
            refine wpList_nil ?_
            refine hK15 _ _ ?_; clear hK15 K15
            refine wp_cond_true (F122.ev (by kernel_rfl)) ?_
            refine wp_seq_k fun K123 hK123 => ?_
            refine wp_region_lit ?_
            refine op_q F122 (.bool true) ?_; intro a124 F124
            refine wpList_nil ?_
            refine hK123 _ _ ?_; clear hK123 K123
            refine wp_ret ?_
            refine ret_then ?_
            refine (F124.res1 rfl (v := .bool true) (by kernel_rfl) ?_).1
            exact ⟨rfl, S27.drop.drop⟩
          · have hc91p := of_decide_eq_false hc91
            have F125 := F90.sb 41 (by kernel_rfl) hc91
            have F126 := F125.sb 42 (by kernel_rfl) hc91
            have F127 := F126.sb 43 (by kernel_rfl) hc91
            refine op_wq F127 ?_
            refine op_q F127 (.pointer (some ⟨g1, 11, none⟩)) ?_; intro a128 F128
            refine op_wq F128 ?_
            refine op_rq (v := .slice (m.fSources_a) (m.fSources.length) (m.fSources_c)) F128 (r_ld rfl (F128.e (.pointer (some ⟨g1, 11, none⟩))) (v := .slice (m.fSources_a) (m.fSources.length) (m.fSources_c)) ((S27.bk 1 rfl).cell 11) Try.underlying22 rfl) ?_; intro a129 F129
            refine op_wq F129 ?_
            refine op_cq F129 (f := 19) (args := #[.slice (m.fSources_a) (m.fSources.length) (m.fSources_c)]) (hlShort_any m.fSources_a m.fSources_c m.fSources _ (h0 _ S27.drop.drop)) ?_
            rintro _ _ ⟨rfl, rfl⟩
            refine ⟨_, rfl, ?_⟩
            intro a131 F131
            refine op_wq F131 ?_
            refine op_q F131 (.bool (!(shortB m.fSources))) ?_; intro a132 F132
            refine op_q F132 (.bool (!(shortB m.fSources))) ?_; intro a133 F133
            refine op_q F133 (.bool (!(shortB m.fSources))) ?_; intro a134 F134
            rcases btf (shortB m.fSources) with hc135 | hc135
            · have hl3 := short_len hc135
              have F136 := F134.sb 46 (by kernel_rfl) hc135
              have F137 := F136.sb 47 (by kernel_rfl) (show (!(shortB m.fSources)) = false by rw [hc135]; rfl)
              have F138 := F137.sb 48 (by kernel_rfl) (show (!(shortB m.fSources)) = false by rw [hc135]; rfl)
              have F139 := F138.sb 49 (by kernel_rfl) (show (!(shortB m.fSources)) = false by rw [hc135]; rfl)
              refine op_wq F139 ?_
              refine op_q F139 (.pointer (some ⟨g1, 12, none⟩)) ?_; intro a140 F140
              refine op_wq F140 ?_
              refine op_rq (v := .slice (m.fKeywords_a) (m.fKeywords.length) (m.fKeywords_c)) F140 (r_ld rfl (F140.e (.pointer (some ⟨g1, 12, none⟩))) (v := .slice (m.fKeywords_a) (m.fKeywords.length) (m.fKeywords_c)) ((S27.bk 1 rfl).cell 12) Try.underlying22 rfl) ?_; intro a141 F141
              refine op_wq F141 ?_
              refine op_cq F141 (f := 19) (args := #[.slice (m.fKeywords_a) (m.fKeywords.length) (m.fKeywords_c)]) (hlShort_any m.fKeywords_a m.fKeywords_c m.fKeywords _ (h1 _ S27.drop.drop)) ?_
              rintro _ _ ⟨rfl, rfl⟩
              refine ⟨_, rfl, ?_⟩
              intro a143 F143
              refine op_wq F143 ?_
              refine op_q F143 (.bool (!(shortB m.fKeywords))) ?_; intro a144 F144
              refine op_q F144 (.bool (!(shortB m.fKeywords))) ?_; intro a145 F145
              refine op_q F145 (.bool (!(shortB m.fKeywords))) ?_; intro a146 F146
              rcases btf (shortB m.fKeywords) with hc147 | hc147
              · have hl4 := short_len hc147
                have F148 := F146.sb 52 (by kernel_rfl) hc147
                have F149 := F148.sb 53 (by kernel_rfl) (show (!(shortB m.fKeywords)) = false by rw [hc147]; rfl)
                have F150 := F149.sb 54 (by kernel_rfl) (show (!(shortB m.fKeywords)) = false by rw [hc147]; rfl)
                have F151 := F150.sb 55 (by kernel_rfl) (show (!(shortB m.fKeywords)) = false by rw [hc147]; rfl)
                refine op_wq F151 ?_
                refine op_q F151 (.pointer (some ⟨g1, 2, none⟩)) ?_; intro a152 F152
                refine op_wq F152 ?_
                refine op_rq (v := .string m.fVersion) F152 (r_ld rfl (F152.e (.pointer (some ⟨g1, 2, none⟩))) (v := .string m.fVersion) ((S27.bk 1 rfl).cell 2) Try.underlying9 rfl) ?_; intro a153 F153
                refine op_wq F153 ?_
                refine op_q F153 (.bool (!(m.fVersion.toList == (⟨#[]⟩ : ByteArray).toList))) ?_; intro a154 F154
                refine op_wq F154 ?_
                refine op_q F154 (.bool (!(m.fVersion.toList == (⟨#[]⟩ : ByteArray).toList))) ?_; intro a155 F155
                rcases btf (m.fVersion.toList == (⟨#[]⟩ : ByteArray).toList) with hc156 | hc156
                · have F157 := F155.sb 58 (by kernel_rfl) (show (!(m.fVersion.toList == (⟨#[]⟩ : ByteArray).toList)) = false by rw [hc156]; rfl)
                  have F158 := F157.sb 59 (by kernel_rfl) (show (!(m.fVersion.toList == (⟨#[]⟩ : ByteArray).toList)) = false by rw [hc156]; rfl)
                  refine op_kq F158 ?_; intro a159 F159
                  refine op_kq F159 ?_; intro a160 F160
                  refine op_kq F160 ?_; intro a161 F161
                  refine op_kq F161 ?_; intro a162 F162
                  refine op_wq F162 ?_
                  refine op_q F162 (.bool false) ?_; intro a163 F163
                  refine op_wq F163 ?_
                  refine op_q F163 (.bool false) ?_; intro a164 F164
                  refine op_kq F164 ?_; intro a165 F165
                  refine op_kq F165 ?_; intro a166 F166
                  refine op_kq F166 ?_; intro a167 F167
                  refine op_kq F167 ?_; intro a168 F168
                  refine op_wq F168 ?_
                  refine op_q F168 (.bool false) ?_; intro a169 F169
                  refine op_q F169 (.bool false) ?_; intro a170 F170
                  refine wpList_nil ?_
                  refine hK15 _ _ ?_; clear hK15 K15
                  refine wp_cond_false (F170.ev (by kernel_rfl)) ?_
                  refine wp_skip ?_
                  exact hK14 _ _ ⟨(F170.kk 1 F170.nil), S27.drop, .inl (emp_sz hc156), (hp_empty (emp_sz hc156)), (by first | omega | (with_reducible assumption) | (simp; done)), (by first | omega | (with_reducible assumption) | (simp; done)), (by first | omega | (with_reducible assumption) | (simp; done)), (by first | omega | (with_reducible assumption) | (simp; done)), (by first | omega | (with_reducible assumption) | (simp; done)), (by first | omega | (with_reducible assumption) | (simp; done))⟩
                · have F171 := F155.sb 58 (by kernel_rfl) (show (!(m.fVersion.toList == (⟨#[]⟩ : ByteArray).toList)) = true by rw [hc156]; rfl)
                  have F172 := F171.sb 59 (by kernel_rfl) (show (!(m.fVersion.toList == (⟨#[]⟩ : ByteArray).toList)) = true by rw [hc156]; rfl)
                  refine op_wq F172 ?_
                  refine op_q F172 (.pointer (some ⟨g1, 2, none⟩)) ?_; intro a173 F173
                  refine op_wq F173 ?_
                  refine op_rq (v := .string m.fVersion) F173 (r_ld rfl (F173.e (.pointer (some ⟨g1, 2, none⟩))) (v := .string m.fVersion) ((S27.bk 1 rfl).cell 2) Try.underlying9 rfl) ?_; intro a174 F174
                  refine op_wq F174 ?_
                  refine op_cq F174 (f := 38) (args := #[.string m.fVersion]) (hlPlain_any m.fVersion _ _ _ _ S27 (by first | omega | (simp; done) | (simp; omega)) rfl) ?_
                  rintro _ w175 ⟨rfl, S175⟩
                  refine ⟨_, rfl, ?_⟩
                  intro a176 F176
                  refine op_wq F176 ?_
                  refine op_q F176 (.bool (!(hpB m.fVersion))) ?_; intro a177 F177
                  refine op_wq F177 ?_
                  refine op_q F177 (.bool (!(hpB m.fVersion))) ?_; intro a178 F178
                  refine op_wq F178 ?_
                  refine op_q F178 (.bool (!(hpB m.fVersion))) ?_; intro a179 F179
                  rcases btf (hpB m.fVersion) with hc180 | hc180
                  · have F181 := F179.sb 62 (by kernel_rfl) hc180
                    have F182 := F181.sb 63 (by kernel_rfl) (show (!(hpB m.fVersion)) = false by rw [hc180]; rfl)
                    have F183 := F182.sb 64 (by kernel_rfl) (show (!(hpB m.fVersion)) = false by rw [hc180]; rfl)
                    have F184 := F183.sb 65 (by kernel_rfl) (show (!(hpB m.fVersion)) = false by rw [hc180]; rfl)
                    refine op_kq F184 ?_; intro a185 F185
                    refine op_kq F185 ?_; intro a186 F186
                    refine op_kq F186 ?_; intro a187 F187
                    refine op_kq F187 ?_; intro a188 F188
                    refine op_wq F188 ?_
                    refine op_q F188 (.bool false) ?_; intro a189 F189
                    refine op_q F189 (.bool false) ?_; intro a190 F190
                    refine wpList_nil ?_
                    refine hK15 _ _ ?_; clear hK15 K15
                    refine wp_cond_false (F190.ev (by kernel_rfl)) ?_
                    refine wp_skip ?_
                    exact hK14 _ _ ⟨(F190.kk 1 F190.nil), S175.drop, .inr (.inl (hp_plain hc180)), (hp_yes hc180), (by first | omega | (with_reducible assumption) | (simp; done)), (by first | omega | (with_reducible assumption) | (simp; done)), (by first | omega | (with_reducible assumption) | (simp; done)), (by first | omega | (with_reducible assumption) | (simp; done)), (by first | omega | (with_reducible assumption) | (simp; done)), (by first | omega | (with_reducible assumption) | (simp; done))⟩
                  · have F191 := F179.sb 62 (by kernel_rfl) hc180
                    have F192 := F191.sb 63 (by kernel_rfl) (show (!(hpB m.fVersion)) = true by rw [hc180]; rfl)
                    have F193 := F192.sb 64 (by kernel_rfl) (show (!(hpB m.fVersion)) = true by rw [hc180]; rfl)
                    have F194 := F193.sb 65 (by kernel_rfl) (show (!(hpB m.fVersion)) = true by rw [hc180]; rfl)
                    refine op_wq F194 ?_
                    refine op_q F194 (.pointer (some ⟨g1, 2, none⟩)) ?_; intro a195 F195
                    refine op_wq F195 ?_
                    refine op_rq (v := .string m.fVersion) F195 (r_ld rfl (F195.e (.pointer (some ⟨g1, 2, none⟩))) (v := .string m.fVersion) ((S175.bk 1 rfl).cell 2) Try.underlying9 rfl) ?_; intro a196 F196
                    refine op_wq F196 ?_
                    refine op_cq F196 (f := 39) (args := #[.string m.fVersion]) (hlWord_any m.fVersion _ _ _ S175 (by first | omega | (simp; done) | (simp; omega))) ?_
                    rintro _ w197 ⟨rfl, S197⟩
                    refine ⟨_, rfl, ?_⟩
                    intro a198 F198
                    refine op_wq F198 ?_
                    refine op_q F198 (.bool (!(wB m.fVersion))) ?_; intro a199 F199
                    refine op_wq F199 ?_
                    refine op_q F199 (.bool (!(wB m.fVersion))) ?_; intro a200 F200
                    refine op_q F200 (.bool (!(wB m.fVersion))) ?_; intro a201 F201
                    refine wpList_nil ?_
                    refine hK15 _ _ ?_; clear hK15 K15
                    rcases btf (wB m.fVersion) with hc202 | hc202
                    · have F203 := F201.sb 68 (by kernel_rfl) hc202
                      have F204 := F203.sb 69 (by kernel_rfl) (show (!(wB m.fVersion)) = false by rw [hc202]; rfl)
                      have F205 := F204.sb 70 (by kernel_rfl) (show (!(wB m.fVersion)) = false by rw [hc202]; rfl)
                      have F206 := F205.sb 71 (by kernel_rfl) (show (!(wB m.fVersion)) = false by rw [hc202]; rfl)
                      refine wp_cond_false (F206.ev (by kernel_rfl)) ?_
                      refine wp_skip ?_
                      exact hK14 _ _ ⟨(F206.kk 1 F206.nil), S197.drop, .inr (.inr (w_err hc202)), (hp_word hc202), (by first | omega | (with_reducible assumption) | (simp; done)), (by first | omega | (with_reducible assumption) | (simp; done)), (by first | omega | (with_reducible assumption) | (simp; done)), (by first | omega | (with_reducible assumption) | (simp; done)), (by first | omega | (with_reducible assumption) | (simp; done)), (by first | omega | (with_reducible assumption) | (simp; done))⟩
                    · have F207 := F201.sb 68 (by kernel_rfl) hc202
                      have F208 := F207.sb 69 (by kernel_rfl) (show (!(wB m.fVersion)) = true by rw [hc202]; rfl)
                      have F209 := F208.sb 70 (by kernel_rfl) (show (!(wB m.fVersion)) = true by rw [hc202]; rfl)
                      have F210 := F209.sb 71 (by kernel_rfl) (show (!(wB m.fVersion)) = true by rw [hc202]; rfl)
                      refine wp_cond_true (F210.ev (by kernel_rfl)) ?_
                      refine wp_seq_k fun K211 hK211 => ?_
                      refine wp_region_lit ?_
                      refine op_q F210 (.bool true) ?_; intro a212 F212
                      refine wpList_nil ?_
                      refine hK211 _ _ ?_; clear hK211 K211
                      refine wp_ret ?_
                      refine ret_then ?_
                      refine (F212.res1 rfl (v := .bool true) (by kernel_rfl) ?_).1
                      exact ⟨rfl, S197.drop.drop⟩
              · have F213 := F146.sb 52 (by kernel_rfl) hc147
                have F214 := F213.sb 53 (by kernel_rfl) (show (!(shortB m.fKeywords)) = true by rw [hc147]; rfl)
                have F215 := F214.sb 54 (by kernel_rfl) (show (!(shortB m.fKeywords)) = true by rw [hc147]; rfl)
                have F216 := F215.sb 55 (by kernel_rfl) (show (!(shortB m.fKeywords)) = true by rw [hc147]; rfl)
                refine op_kq F216 ?_; intro a217 F217
                refine op_kq F217 ?_; intro a218 F218
                refine op_kq F218 ?_; intro a219 F219
                refine op_kq F219 ?_; intro a220 F220
                refine op_kq F220 ?_; intro a221 F221
                refine op_kq F221 ?_; intro a222 F222
                refine op_kq F222 ?_; intro a223 F223
                refine op_kq F223 ?_; intro a224 F224
                refine op_kq F224 ?_; intro a225 F225
                refine op_kq F225 ?_; intro a226 F226
                refine op_kq F226 ?_; intro a227 F227
                refine op_kq F227 ?_; intro a228 F228
                refine op_kq F228 ?_; intro a229 F229
                refine op_kq F229 ?_; intro a230 F230
                refine op_kq F230 ?_; intro a231 F231
                refine op_q F231 (.bool true) ?_; intro a232 F232
                refine wpList_nil ?_
                refine hK15 _ _ ?_; clear hK15 K15
                refine wp_cond_true (F232.ev (by kernel_rfl)) ?_
                refine wp_seq_k fun K233 hK233 => ?_
                refine wp_region_lit ?_
                refine op_q F232 (.bool true) ?_; intro a234 F234
                refine wpList_nil ?_
                refine hK233 _ _ ?_; clear hK233 K233
                refine wp_ret ?_
                refine ret_then ?_
                refine (F234.res1 rfl (v := .bool true) (by kernel_rfl) ?_).1
                exact ⟨rfl, S27.drop.drop⟩
            · have F235 := F134.sb 46 (by kernel_rfl) hc135
              have F236 := F235.sb 47 (by kernel_rfl) (show (!(shortB m.fSources)) = true by rw [hc135]; rfl)
              have F237 := F236.sb 48 (by kernel_rfl) (show (!(shortB m.fSources)) = true by rw [hc135]; rfl)
              have F238 := F237.sb 49 (by kernel_rfl) (show (!(shortB m.fSources)) = true by rw [hc135]; rfl)
              refine op_kq F238 ?_; intro a239 F239
              refine op_kq F239 ?_; intro a240 F240
              refine op_kq F240 ?_; intro a241 F241
              refine op_kq F241 ?_; intro a242 F242
              refine op_q F242 (.bool true) ?_; intro a243 F243
              refine op_q F243 (.bool true) ?_; intro a244 F244
              refine op_kq F244 ?_; intro a245 F245
              refine op_kq F245 ?_; intro a246 F246
              refine op_kq F246 ?_; intro a247 F247
              refine op_kq F247 ?_; intro a248 F248
              refine op_kq F248 ?_; intro a249 F249
              refine op_kq F249 ?_; intro a250 F250
              refine op_kq F250 ?_; intro a251 F251
              refine op_kq F251 ?_; intro a252 F252
              refine op_kq F252 ?_; intro a253 F253
              refine op_kq F253 ?_; intro a254 F254
              refine op_kq F254 ?_; intro a255 F255
              refine op_kq F255 ?_; intro a256 F256
              refine op_kq F256 ?_; intro a257 F257
              refine op_kq F257 ?_; intro a258 F258
              refine op_kq F258 ?_; intro a259 F259
              refine op_q F259 (.bool true) ?_; intro a260 F260
              refine wpList_nil ?_
              refine hK15 _ _ ?_; clear hK15 K15
              refine wp_cond_true (F260.ev (by kernel_rfl)) ?_
              refine wp_seq_k fun K261 hK261 => ?_
              refine wp_region_lit ?_
              refine op_q F260 (.bool true) ?_; intro a262 F262
              refine wpList_nil ?_
              refine hK261 _ _ ?_; clear hK261 K261
              refine wp_ret ?_
              refine ret_then ?_
              refine (F262.res1 rfl (v := .bool true) (by kernel_rfl) ?_).1
              exact ⟨rfl, S27.drop.drop⟩
      · have F263 := F31.sb 29 (by kernel_rfl) hc32
        have F264 := F263.sb 30 (by kernel_rfl) (show (!(shortB [m.fName, m.fAPIVersion, m.fVersion, m.fIcon, m.fType])) = true by rw [hc32]; rfl)
        have F265 := F264.sb 31 (by kernel_rfl) (show (!(shortB [m.fName, m.fAPIVersion, m.fVersion, m.fIcon, m.fType])) = true by rw [hc32]; rfl)
        refine op_kq F265 ?_; intro a266 F266
        refine op_kq F266 ?_; intro a267 F267
        refine op_kq F267 ?_; intro a268 F268
        refine op_kq F268 ?_; intro a269 F269
        refine op_q F269 (.bool true) ?_; intro a270 F270
        refine op_q F270 (.bool true) ?_; intro a271 F271
        refine op_kq F271 ?_; intro a272 F272
        refine op_kq F272 ?_; intro a273 F273
        refine op_kq F273 ?_; intro a274 F274
        refine op_kq F274 ?_; intro a275 F275
        refine op_q F275 (.bool true) ?_; intro a276 F276
        refine op_q F276 (.bool true) ?_; intro a277 F277
        refine op_kq F277 ?_; intro a278 F278
        refine op_kq F278 ?_; intro a279 F279
        refine op_kq F279 ?_; intro a280 F280
        refine op_kq F280 ?_; intro a281 F281
        refine op_q F281 (.bool true) ?_; intro a282 F282
        refine op_q F282 (.bool true) ?_; intro a283 F283
        refine op_kq F283 ?_; intro a284 F284
        refine op_kq F284 ?_; intro a285 F285
        refine op_kq F285 ?_; intro a286 F286
        refine op_kq F286 ?_; intro a287 F287
        refine op_q F287 (.bool true) ?_; intro a288 F288
        refine op_q F288 (.bool true) ?_; intro a289 F289
        refine op_kq F289 ?_; intro a290 F290
        refine op_kq F290 ?_; intro a291 F291
        refine op_kq F291 ?_; intro a292 F292
        refine op_kq F292 ?_; intro a293 F293
        refine op_kq F293 ?_; intro a294 F294
        refine op_kq F294 ?_; intro a295 F295
        refine op_kq F295 ?_; intro a296 F296
        refine op_kq F296 ?_; intro a297 F297
        refine op_kq F297 ?_; intro a298 F298
        refine op_kq F298 ?_; intro a299 F299
        refine op_kq F299 ?_; intro a300 F300
        refine op_kq F300 ?_; intro a301 F301
        refine op_kq F301 ?_; intro a302 F302
        refine op_kq F302 ?_; intro a303 F303
        refine op_kq F303 ?_; intro a304 F304
        refine op_q F304 (.bool true) ?_; intro a305 F305
        refine wpList_nil ?_
        refine hK15 _ _ ?_; clear hK15 K15
        refine wp_cond_true (F305.ev (by kernel_rfl)) ?_
        refine wp_seq_k fun K306 hK306 => ?_
        refine wp_region_lit ?_
        refine op_q F305 (.bool true) ?_; intro a307 F307
        refine wpList_nil ?_
        refine hK306 _ _ ?_; clear hK306 K306
        refine wp_ret ?_
        refine ret_then ?_
        refine (F307.res1 rfl (v := .bool true) (by kernel_rfl) ?_).1
        exact ⟨rfl, S27.drop.drop⟩
    · rintro a308 w308 ⟨F308, S308, hv, hhp, hn100, hv100, hl1, hl2, hl3, hl4⟩
      refine wp_seq_k fun K309 hK309 => ?_
      refine wp_region_lit ?_
      refine op_q F308 (.bool false) ?_; intro a310 F310
      refine wpList_nil ?_
      refine hK309 _ _ ?_; clear hK309 K309
      refine wp_seq_k fun K311 hK311 => ?_
      refine wp_seq_k fun K312 hK312 => ?_
      refine wp_region_lit ?_
      refine op_q F310 (.pointer (some ⟨g1, 0, none⟩)) ?_; intro a313 F313
      refine op_rq (v := .string m.fName) F313 (r_ld rfl (F313.e (.pointer (some ⟨g1, 0, none⟩))) (v := .string m.fName) ((S308.bk 0 rfl).cell 0) Try.underlying9 rfl) ?_; intro a314 F314
      refine op_q F314 (.int .i64 (↑m.fName.size)) ?_; intro a315 F315
      refine op_q F315 (.int .i64 0) ?_; intro a316 F316
      refine wpList_nil ?_
      refine hK312 _ _ ?_; clear hK312 K312
      refine wp_block ?_
      refine fw_loop (fun m' a' w' => ∃ sl : Bool, ∃ i : Nat, m.fName.size - i = m' ∧ Fr 228 [] a' [(1, .pointer (some ⟨g1, 0, none⟩)), (3, .bool sl), (74, .int .i64 (↑m.fName.size)), (75, .int .i64 (↑i))] ∧ Sp R w' (SA.blk g1 26 #[.string m.fName, .string m.fHome, .string m.fVersion, .string m.fDescription, .string m.fIcon, .string m.fAPIVersion, .string m.fCondition, .string m.fTags, .string m.fAppVersion, .string m.fKubeVersion, .string m.fType, .slice (m.fSources_a) (m.fSources.length) (m.fSources_c), .slice (m.fKeywords_a) (m.fKeywords.length) (m.fKeywords_c), .slice (m.fMaintainers_a) (m.fMaintainers.length) (m.fMaintainers_c), .slice (m.fDependencies_a) (m.fDependencies.length) (m.fDependencies_c)] :: L) ∧ (i ≤ m.fName.size) ∧ (sl = true → slB m.fName = true) ∧ (sl = false → ∀ j, ∀ h : j < m.fName.size, j < i → m.fName[j].toNat ≠ 47)) _ ⟨false, 0, rfl, (F316.kk 1 (F316.kk 3 (F316.kk 74 (F316.kk 75 F316.nil)))), S308, (by first | omega | (with_reducible assumption) | (simp; done)), (fun h => by cases h), (fun _ j _ h => absurd h (Nat.not_lt_zero _))⟩ ?_
      rintro m317 a317 w317 ⟨sl, i, hm317, F317, S317, hi, hs1, hs2⟩ K317 hK317
      by_cases hlt_i : i < m.fName.size
      · have hc_i : decide ((↑i : Int) < ↑m.fName.size) = true := by first | (simp; done) | (simp; omega)
        refine wp_seq_k fun K318 hK318 => ?_
        refine wp_region_lit ?_
        refine op_q F317 (.bool (decide ((↑i : Int) < ↑m.fName.size))) ?_; intro a319 F319
        have F320 := F319.sb 76 (by kernel_rfl) hc_i
        refine wpList_nil ?_
        refine hK318 _ _ ?_; clear hK318 K318
        refine wp_seq_k fun K321 hK321 => ?_
        refine wp_cond_true (F320.ev (by kernel_rfl)) ?_
        refine wp_skip ?_
        refine hK321 _ _ ?_; clear hK321 K321
        refine wp_seq_k fun K322 hK322 => ?_
        refine wp_block ?_
        refine wp_seq_k fun K323 hK323 => ?_
        refine wp_region_lit ?_
        refine op_q F320 (.int .i64 (↑i)) ?_; intro a324 F324
        refine op_q F324 (.int .i64 (↑i)) ?_; intro a325 F325
        refine wpList_nil ?_
        refine hK323 _ _ ?_; clear hK323 K323
        refine wp_region_lit ?_
        refine op_q F325 (.bool sl) ?_; intro a326 F326
        refine op_q F326 (.bool sl) ?_; intro a327 F327
        rcases btf (sl) with hc328 | hc328
        · have F329 := F327.sb 3 (by kernel_rfl) hc328
          have F330 := F329.sb 78 (by kernel_rfl) hc328
          have F331 := F330.sb 79 (by kernel_rfl) hc328
          refine op_kq F331 ?_; intro a332 F332
          refine op_kq F332 ?_; intro a333 F333
          refine op_kq F333 ?_; intro a334 F334
          refine op_kq F334 ?_; intro a335 F335
          refine op_kq F335 ?_; intro a336 F336
          refine op_q F336 (.bool true) ?_; intro a337 F337
          refine op_q F337 (.bool true) ?_; intro a338 F338
          refine wpList_nil ?_
          refine hK322 _ _ ?_; clear hK322 K322
          refine wp_region_lit ?_
          refine op_rq (v := .int .i64 (↑(i + 1))) F338 (r_add (z := ↑(i + 1)) rfl (F338.e (.int .i64 (↑i))) (F338.e (.int .i64 1)) (wr64 (by omega) (by omega) (by omega))) ?_; intro a339 F339
          refine op_q F339 (.int .i64 (↑(i + 1))) ?_; intro a340 F340
          refine wpList_nil ?_
          exact hK317 _ _ _ (by first | omega | (simp; omega)) ⟨true, i + 1, rfl, (F340.kk 1 (F340.k 3 (by rw [hc328]; kernel_rfl) (F340.kk 74 (F340.kk 75 F340.nil)))), S317, (by first | omega | (with_reducible assumption) | (simp; done)), (fun _ => hs1 hc328), (fun h => by cases h)⟩
        · have F341 := F327.sb 3 (by kernel_rfl) hc328
          have F342 := F341.sb 78 (by kernel_rfl) hc328
          have F343 := F342.sb 79 (by kernel_rfl) hc328
          refine op_wq F343 ?_
          refine op_q F343 (.pointer (some ⟨g1, 0, none⟩)) ?_; intro a344 F344
          refine op_wq F344 ?_
          refine op_rq (v := .string m.fName) F344 (r_ld rfl (F344.e (.pointer (some ⟨g1, 0, none⟩))) (v := .string m.fName) ((S317.bk 0 rfl).cell 0) Try.underlying9 rfl) ?_; intro a345 F345
          refine op_wq F345 ?_
          refine op_q F345 (.int .i64 (↑i)) ?_; intro a346 F346
          refine op_wq F346 ?_
          refine op_rq (v := .int .u8 (↑m.fName[i].toNat)) F346 (r_index rfl Try.underlying9 (F346.e (.string m.fName)) (F346.e (.int .i64 (↑i))) i (by first | rfl | omega | simp) (by first | omega | (simp; done) | (simp; omega))) ?_; intro a347 F347
          refine op_wq F347 ?_
          refine op_q F347 (.bool ((↑m.fName[i].toNat : Int) == 47)) ?_; intro a348 F348
          refine op_q F348 (.bool ((↑m.fName[i].toNat : Int) == 47)) ?_; intro a349 F349
          refine op_q F349 (.bool ((↑m.fName[i].toNat : Int) == 47)) ?_; intro a350 F350
          refine wpList_nil ?_
          refine hK322 _ _ ?_; clear hK322 K322
          refine wp_region_lit ?_
          refine op_rq (v := .int .i64 (↑(i + 1))) F350 (r_add (z := ↑(i + 1)) rfl (F350.e (.int .i64 (↑i))) (F350.e (.int .i64 1)) (wr64 (by omega) (by omega) (by omega))) ?_; intro a351 F351
          refine op_q F351 (.int .i64 (↑(i + 1))) ?_; intro a352 F352
          refine wpList_nil ?_
          exact hK317 _ _ _ (by first | omega | (simp; omega)) ⟨(↑m.fName[i].toNat : Int) == 47, i + 1, rfl, (F352.kk 1 (F352.kk 3 (F352.kk 74 (F352.kk 75 F352.nil)))), S317, (by first | omega | (with_reducible assumption) | (simp; done)), (fun h => slB_at hlt_i (by have := eq_of_beq h; omega)), (fun h j hj hji => (Nat.lt_succ_iff_lt_or_eq.1 hji).elim (hs2 hc328 j hj) (fun e => by subst e; have := beq_eq_false_iff_ne.1 h; omega))⟩
      · have hc_i : decide ((↑i : Int) < ↑m.fName.size) = false := by first | (simp; done) | (simp; omega)
        have hsle := sl_end (by omega) hs1 hs2
        refine wp_seq_k fun K353 hK353 => ?_
        refine wp_region_lit ?_
        refine op_q F317 (.bool (decide ((↑i : Int) < ↑m.fName.size))) ?_; intro a354 F354
        have F355 := F354.sb 76 (by kernel_rfl) hc_i
        refine wpList_nil ?_
        refine hK353 _ _ ?_; clear hK353 K353
        refine wp_seq_k fun K356 hK356 => ?_
        refine wp_cond_false (F355.ev (by kernel_rfl)) ?_
        refine wp_exit ?_
        refine ex_then ?_; clear hK356 K356
        refine ex_then ?_
        refine ex_in ?_
        refine hK311 _ _ ?_; clear hK311 K311
        refine wp_seq_k fun K357 hK357 => ?_
        refine wp_region_lit ?_
        refine op_q F355 (.bool false) ?_; intro a358 F358
        refine wpList_nil ?_
        refine hK357 _ _ ?_; clear hK357 K357
        refine wp_seq_k fun K359 hK359 => ?_
        refine wp_seq_k fun K360 hK360 => ?_
        refine wp_region_lit ?_
        refine op_q F358 (.pointer (some ⟨g1, 13, none⟩)) ?_; intro a361 F361
        refine op_rq (v := .slice (m.fMaintainers_a) (m.fMaintainers.length) (m.fMaintainers_c)) F361 (r_ld rfl (F361.e (.pointer (some ⟨g1, 13, none⟩))) (v := .slice (m.fMaintainers_a) (m.fMaintainers.length) (m.fMaintainers_c)) ((S317.bk 0 rfl).cell 13) Try.underlying23 rfl) ?_; intro a362 F362
        refine op_q F362 (.int .i64 (↑m.fMaintainers.length)) ?_; intro a363 F363
        refine op_q F363 (.int .i64 0) ?_; intro a364 F364
        refine wpList_nil ?_
        refine hK360 _ _ ?_; clear hK360 K360
        refine wp_block ?_
        refine fw_loop (fun m' a' w' => ∃ pe : Bool, ∃ k : Nat, m.fMaintainers.length - k = m' ∧ Fr 228 [] a' [(1, .pointer (some ⟨g1, 0, none⟩)), (3, .bool sl), (5, .bool pe), (88, .slice (m.fMaintainers_a) (m.fMaintainers.length) (m.fMaintainers_c)), (89, .int .i64 (↑m.fMaintainers.length)), (90, .int .i64 (↑k))] ∧ Sp R w' (SA.blk g1 26 #[.string m.fName, .string m.fHome, .string m.fVersion, .string m.fDescription, .string m.fIcon, .string m.fAPIVersion, .string m.fCondition, .string m.fTags, .string m.fAppVersion, .string m.fKubeVersion, .string m.fType, .slice (m.fSources_a) (m.fSources.length) (m.fSources_c), .slice (m.fKeywords_a) (m.fKeywords.length) (m.fKeywords_c), .slice (m.fMaintainers_a) (m.fMaintainers.length) (m.fMaintainers_c), .slice (m.fDependencies_a) (m.fDependencies.length) (m.fDependencies_c)] :: L) ∧ (k ≤ m.fMaintainers.length) ∧ (∀ j, ∀ h : j < m.fMaintainers.length, j < k → m.fMaintainers[j].fEmail.size = 0 ∧ m.fMaintainers[j].fURL.size = 0) ∧ (pe = lper (m.fMaintainers.take k))) _ ⟨false, 0, rfl, (F364.kk 1 (F364.kk 3 (F364.kk 5 (F364.kk 88 (F364.kk 89 (F364.kk 90 F364.nil)))))), S317, (by first | omega | (with_reducible assumption) | (simp; done)), (fun j _ h => absurd h (Nat.not_lt_zero _)), rfl⟩ ?_
        rintro m365 a365 w365 ⟨pe, k, hm365, F365, S365, hk, hpe1, hpe2⟩ K365 hK365
        by_cases hlt_k : k < m.fMaintainers.length
        · have hc_k : decide ((↑k : Int) < ↑m.fMaintainers.length) = true := by first | (simp; done) | (simp; omega)
          obtain ⟨ad366, hA366⟩ := (h2 _ S365.drop).addr (by simp; omega)
          refine wp_seq_k fun K367 hK367 => ?_
          refine wp_region_lit ?_
          refine op_q F365 (.bool (decide ((↑k : Int) < ↑m.fMaintainers.length))) ?_; intro a368 F368
          have F369 := F368.sb 91 (by kernel_rfl) hc_k
          refine wpList_nil ?_
          refine hK367 _ _ ?_; clear hK367 K367
          refine wp_seq_k fun K370 hK370 => ?_
          refine wp_cond_true (F369.ev (by kernel_rfl)) ?_
          refine wp_skip ?_
          refine hK370 _ _ ?_; clear hK370 K370
          refine wp_seq_k fun K371 hK371 => ?_
          refine wp_block ?_
          refine wp_seq_k fun K372 hK372 => ?_
          refine wp_region_lit ?_
          refine op_rq (v := .pointer (some (ad366.add (k * 4)))) F369 (r_ix rfl Try.underlying23 4 (by kernel_rfl) (F369.e (.slice (m.fMaintainers_a) (m.fMaintainers.length) (m.fMaintainers_c))) hA366 (F369.e (.int .i64 (↑k))) k (by first | rfl | omega | simp) (by first | omega | (simp; done) | (simp; omega)) (rfl)) ?_; intro a373 F373
          refine op_rq (v := .agg #[.bool m.fMaintainers[k].fNil, .string m.fMaintainers[k].fName, .string m.fMaintainers[k].fEmail, .string m.fMaintainers[k].fURL]) F373 (r_ldR rfl (F373.e (.pointer (some (ad366.add (k * 4))))) (cs := [.bool m.fMaintainers[k].fNil, .string m.fMaintainers[k].fName, .string m.fMaintainers[k].fEmail, .string m.fMaintainers[k].fURL]) ((h2 _ S365.drop).elA hA366 (j := k) (row := m.fMaintainers[k].cells) (by rw [List.getElem?_map, List.getElem?_eq_getElem hlt_k]; rfl)) Try.underlying78 rfl (by kernel_rfl) (v := #[.bool m.fMaintainers[k].fNil, .string m.fMaintainers[k].fName, .string m.fMaintainers[k].fEmail, .string m.fMaintainers[k].fURL]) (by kernel_rfl)) ?_; intro a374 F374
          refine op_sq F374 (s_newp F374 78 #[.bool false, .string ⟨#[]⟩, .string ⟨#[]⟩, .string ⟨#[]⟩] (by kernel_rfl) (by kernel_rfl) (by kernel_rfl) S365) ?_
          rintro _ _ w376 ⟨g374, rfl, rfl⟩ S376 a376 F376
          refine op_sq0 F376 (s_stb rfl (F376.e (.pointer (some ⟨g374, 0, none⟩))) (F376.e (.agg #[.bool m.fMaintainers[k].fNil, .string m.fMaintainers[k].fName, .string m.fMaintainers[k].fEmail, .string m.fMaintainers[k].fURL])) S376 (by kernel_rfl) rfl (by kernel_rfl)) ?_
          rintro _ _ w377 rfl S377 F377
          refine wpList_nil ?_
          refine hK372 _ _ ?_; clear hK372 K372
          refine wp_seq_k fun K378 hK378 => ?_
          refine wp_seq_k fun K379 hK379 => ?_
          refine wp_region_lit ?_
          refine op_q F377 (.pointer (some ⟨g374, 1, none⟩)) ?_; intro a380 F380
          refine op_rq (v := .string m.fMaintainers[k].fName) F380 (r_ld rfl (F380.e (.pointer (some ⟨g374, 1, none⟩))) (v := .string m.fMaintainers[k].fName) ((S377.bk 0 rfl).cell 1) Try.underlying9 rfl) ?_; intro a381 F381
          refine op_sq F381 (s_news F381 9 #[.string m.fMaintainers[k].fName] 1 (by kernel_rfl) (by kernel_rfl) (by kernel_rfl) S377) ?_
          rintro _ _ w383 ⟨g381, rfl, rfl⟩ S383 a383 F383
          refine op_cq F383 (f := 19) (args := #[.slice (some ⟨g381, 0, none⟩) 1 1]) (hlShort1L m.fMaintainers[k].fName g381 _ (S383.bk 0 rfl)) ?_
          rintro _ _ ⟨rfl, rfl⟩
          refine ⟨_, rfl, ?_⟩
          intro a385 F385
          refine op_q F385 (.bool (!(shortB [m.fMaintainers[k].fName]))) ?_; intro a386 F386
          refine op_q F386 (.bool (!(shortB [m.fMaintainers[k].fName]))) ?_; intro a387 F387
          rcases btf (shortB [m.fMaintainers[k].fName]) with hc388 | hc388
          · have F389 := F387.sb 97 (by kernel_rfl) hc388
            have F390 := F389.sb 98 (by kernel_rfl) (show (!(shortB [m.fMaintainers[k].fName])) = false by rw [hc388]; rfl)
            have F391 := F390.sb 99 (by kernel_rfl) (show (!(shortB [m.fMaintainers[k].fName])) = false by rw [hc388]; rfl)
            refine op_wq F391 ?_
            refine op_q F391 (.pointer (some ⟨g374, 2, none⟩)) ?_; intro a392 F392
            refine op_wq F392 ?_
            refine op_rq (v := .string m.fMaintainers[k].fEmail) F392 (r_ld rfl (F392.e (.pointer (some ⟨g374, 2, none⟩))) (v := .string m.fMaintainers[k].fEmail) ((S383.bk 1 rfl).cell 2) Try.underlying9 rfl) ?_; intro a393 F393
            refine op_wq F393 ?_
            refine op_q F393 (.bool (!(m.fMaintainers[k].fEmail.toList == (⟨#[]⟩ : ByteArray).toList))) ?_; intro a394 F394
            refine op_q F394 (.bool (!(m.fMaintainers[k].fEmail.toList == (⟨#[]⟩ : ByteArray).toList))) ?_; intro a395 F395
            refine op_q F395 (.bool (!(m.fMaintainers[k].fEmail.toList == (⟨#[]⟩ : ByteArray).toList))) ?_; intro a396 F396
            rcases btf (m.fMaintainers[k].fEmail.toList == (⟨#[]⟩ : ByteArray).toList) with hc397 | hc397
            · have F398 := F396.sb 102 (by kernel_rfl) (show (!(m.fMaintainers[k].fEmail.toList == (⟨#[]⟩ : ByteArray).toList)) = false by rw [hc397]; rfl)
              have F399 := F398.sb 103 (by kernel_rfl) (show (!(m.fMaintainers[k].fEmail.toList == (⟨#[]⟩ : ByteArray).toList)) = false by rw [hc397]; rfl)
              have F400 := F399.sb 104 (by kernel_rfl) (show (!(m.fMaintainers[k].fEmail.toList == (⟨#[]⟩ : ByteArray).toList)) = false by rw [hc397]; rfl)
              refine op_wq F400 ?_
              refine op_q F400 (.pointer (some ⟨g374, 3, none⟩)) ?_; intro a401 F401
              refine op_wq F401 ?_
              refine op_rq (v := .string m.fMaintainers[k].fURL) F401 (r_ld rfl (F401.e (.pointer (some ⟨g374, 3, none⟩))) (v := .string m.fMaintainers[k].fURL) ((S383.bk 1 rfl).cell 3) Try.underlying9 rfl) ?_; intro a402 F402
              refine op_wq F402 ?_
              refine op_q F402 (.bool (!(m.fMaintainers[k].fURL.toList == (⟨#[]⟩ : ByteArray).toList))) ?_; intro a403 F403
              refine op_q F403 (.bool (!(m.fMaintainers[k].fURL.toList == (⟨#[]⟩ : ByteArray).toList))) ?_; intro a404 F404
              refine wpList_nil ?_
              refine hK379 _ _ ?_; clear hK379 K379
              rcases btf (m.fMaintainers[k].fURL.toList == (⟨#[]⟩ : ByteArray).toList) with hc405 | hc405
              · have F406 := F404.sb 107 (by kernel_rfl) (show (!(m.fMaintainers[k].fURL.toList == (⟨#[]⟩ : ByteArray).toList)) = false by rw [hc405]; rfl)
                have F407 := F406.sb 108 (by kernel_rfl) (show (!(m.fMaintainers[k].fURL.toList == (⟨#[]⟩ : ByteArray).toList)) = false by rw [hc405]; rfl)
                refine wp_cond_false (F407.ev (by kernel_rfl)) ?_
                refine wp_skip ?_
                refine hK378 _ _ ?_; clear hK378 K378
                refine wp_region_lit ?_
                refine op_q F407 (.bool pe) ?_; intro a408 F408
                refine op_q F408 (.bool pe) ?_; intro a409 F409
                rcases btf (pe) with hc410 | hc410
                · have F411 := F409.sb 5 (by kernel_rfl) hc410
                  have F412 := F411.sb 109 (by kernel_rfl) hc410
                  have F413 := F412.sb 110 (by kernel_rfl) hc410
                  refine op_kq F413 ?_; intro a414 F414
                  refine op_kq F414 ?_; intro a415 F415
                  refine op_q F415 (.bool true) ?_; intro a416 F416
                  refine op_q F416 (.bool true) ?_; intro a417 F417
                  refine op_kq F417 ?_; intro a418 F418
                  refine op_kq F418 ?_; intro a419 F419
                  refine op_kq F419 ?_; intro a420 F420
                  refine op_q F420 (.bool true) ?_; intro a421 F421
                  refine op_q F421 (.bool true) ?_; intro a422 F422
                  refine wpList_nil ?_
                  refine hK371 _ _ ?_; clear hK371 K371
                  refine wp_region_lit ?_
                  refine op_rq (v := .int .i64 (↑(k + 1))) F422 (r_add (z := ↑(k + 1)) rfl (F422.e (.int .i64 (↑k))) (F422.e (.int .i64 1)) (wr64 (by omega) (by omega) (by omega))) ?_; intro a423 F423
                  refine op_q F423 (.int .i64 (↑(k + 1))) ?_; intro a424 F424
                  refine wpList_nil ?_
                  exact hK365 _ _ _ (by first | omega | (simp; omega)) ⟨true, k + 1, rfl, (F424.kk 1 (F424.kk 3 (F424.k 5 (by rw [hc410]; kernel_rfl) (F424.kk 88 (F424.kk 89 (F424.kk 90 F424.nil)))))), S383.drop.drop, (by first | omega | (with_reducible assumption) | (simp; done)), (fun j hj h => (Nat.lt_succ_iff_lt_or_eq.1 h).elim (hpe1 j hj) (fun e => by subst e; exact ⟨emp_sz hc397, emp_sz hc405⟩)), (by rw [lper_snoc hlt_k]; rw [← hpe2, hc410]; rfl)⟩
                · have F425 := F409.sb 5 (by kernel_rfl) hc410
                  have F426 := F425.sb 109 (by kernel_rfl) hc410
                  have F427 := F426.sb 110 (by kernel_rfl) hc410
                  refine op_wq F427 ?_
                  refine op_q F427 (.pointer (some ⟨g374, 0, none⟩)) ?_; intro a428 F428
                  refine op_wq F428 ?_
                  refine op_rq (v := .bool m.fMaintainers[k].fNil) F428 (r_ld rfl (F428.e (.pointer (some ⟨g374, 0, none⟩))) (v := .bool m.fMaintainers[k].fNil) ((S383.bk 1 rfl).cell 0) Try.underlying4 rfl) ?_; intro a429 F429
                  refine op_q F429 (.bool m.fMaintainers[k].fNil) ?_; intro a430 F430
                  refine op_q F430 (.bool m.fMaintainers[k].fNil) ?_; intro a431 F431
                  rcases btf (m.fMaintainers[k].fNil) with hc432 | hc432
                  · have F433 := F431.sb 112 (by kernel_rfl) hc432
                    have F434 := F433.sb 113 (by kernel_rfl) hc432
                    have F435 := F434.sb 114 (by kernel_rfl) hc432
                    refine op_kq F435 ?_; intro a436 F436
                    refine op_kq F436 ?_; intro a437 F437
                    refine op_kq F437 ?_; intro a438 F438
                    refine op_q F438 (.bool true) ?_; intro a439 F439
                    refine op_q F439 (.bool true) ?_; intro a440 F440
                    refine wpList_nil ?_
                    refine hK371 _ _ ?_; clear hK371 K371
                    refine wp_region_lit ?_
                    refine op_rq (v := .int .i64 (↑(k + 1))) F440 (r_add (z := ↑(k + 1)) rfl (F440.e (.int .i64 (↑k))) (F440.e (.int .i64 1)) (wr64 (by omega) (by omega) (by omega))) ?_; intro a441 F441
                    refine op_q F441 (.int .i64 (↑(k + 1))) ?_; intro a442 F442
                    refine wpList_nil ?_
                    exact hK365 _ _ _ (by first | omega | (simp; omega)) ⟨true, k + 1, rfl, (F442.kk 1 (F442.kk 3 (F442.k 5 (by rw [hc410]; kernel_rfl) (F442.kk 88 (F442.kk 89 (F442.kk 90 F442.nil)))))), S383.drop.drop, (by first | omega | (with_reducible assumption) | (simp; done)), (fun j hj h => (Nat.lt_succ_iff_lt_or_eq.1 h).elim (hpe1 j hj) (fun e => by subst e; exact ⟨emp_sz hc397, emp_sz hc405⟩)), (by rw [lper_snoc hlt_k]; rw [hc432]; simp)⟩
                  · have F443 := F431.sb 112 (by kernel_rfl) hc432
                    have F444 := F443.sb 113 (by kernel_rfl) hc432
                    have F445 := F444.sb 114 (by kernel_rfl) hc432
                    refine op_wq F445 ?_
                    refine op_q F445 (.pointer (some ⟨g374, 1, none⟩)) ?_; intro a446 F446
                    refine op_wq F446 ?_
                    refine op_rq (v := .string m.fMaintainers[k].fName) F446 (r_ld rfl (F446.e (.pointer (some ⟨g374, 1, none⟩))) (v := .string m.fMaintainers[k].fName) ((S383.bk 1 rfl).cell 1) Try.underlying9 rfl) ?_; intro a447 F447
                    refine op_wq F447 ?_
                    refine op_q F447 (.bool (m.fMaintainers[k].fName.toList == (⟨#[]⟩ : ByteArray).toList)) ?_; intro a448 F448
                    refine op_q F448 (.bool (m.fMaintainers[k].fName.toList == (⟨#[]⟩ : ByteArray).toList)) ?_; intro a449 F449
                    refine op_q F449 (.bool (m.fMaintainers[k].fName.toList == (⟨#[]⟩ : ByteArray).toList)) ?_; intro a450 F450
                    refine wpList_nil ?_
                    refine hK371 _ _ ?_; clear hK371 K371
                    refine wp_region_lit ?_
                    refine op_rq (v := .int .i64 (↑(k + 1))) F450 (r_add (z := ↑(k + 1)) rfl (F450.e (.int .i64 (↑k))) (F450.e (.int .i64 1)) (wr64 (by omega) (by omega) (by omega))) ?_; intro a451 F451
                    refine op_q F451 (.int .i64 (↑(k + 1))) ?_; intro a452 F452
                    refine wpList_nil ?_
                    exact hK365 _ _ _ (by first | omega | (simp; omega)) ⟨m.fMaintainers[k].fName.toList == (⟨#[]⟩ : ByteArray).toList, k + 1, rfl, (F452.kk 1 (F452.kk 3 (F452.kk 5 (F452.kk 88 (F452.kk 89 (F452.kk 90 F452.nil)))))), S383.drop.drop, (by first | omega | (with_reducible assumption) | (simp; done)), (fun j hj h => (Nat.lt_succ_iff_lt_or_eq.1 h).elim (hpe1 j hj) (fun e => by subst e; exact ⟨emp_sz hc397, emp_sz hc405⟩)), (by rw [lper_snoc hlt_k]; rw [← hpe2, hc410, hc432, Bool.false_or, Bool.false_or])⟩
              · have F453 := F404.sb 107 (by kernel_rfl) (show (!(m.fMaintainers[k].fURL.toList == (⟨#[]⟩ : ByteArray).toList)) = true by rw [hc405]; rfl)
                have F454 := F453.sb 108 (by kernel_rfl) (show (!(m.fMaintainers[k].fURL.toList == (⟨#[]⟩ : ByteArray).toList)) = true by rw [hc405]; rfl)
                refine wp_cond_true (F454.ev (by kernel_rfl)) ?_
                refine wp_seq_k fun K455 hK455 => ?_
                refine wp_region_lit ?_
                refine op_q F454 (.bool true) ?_; intro a456 F456
                refine wpList_nil ?_
                refine hK455 _ _ ?_; clear hK455 K455
                refine wp_ret ?_
                refine ret_then ?_
                refine ret_in ?_
                refine ret_then ?_
                refine ret_then ?_
                refine ret_in ?_
                refine ret_then ?_
                refine (F456.res1 rfl (v := .bool true) (by kernel_rfl) ?_).1
                exact ⟨rfl, S383.drop.drop.drop⟩
            · have F457 := F396.sb 102 (by kernel_rfl) (show (!(m.fMaintainers[k].fEmail.toList == (⟨#[]⟩ : ByteArray).toList)) = true by rw [hc397]; rfl)
              have F458 := F457.sb 103 (by kernel_rfl) (show (!(m.fMaintainers[k].fEmail.toList == (⟨#[]⟩ : ByteArray).toList)) = true by rw [hc397]; rfl)
              have F459 := F458.sb 104 (by kernel_rfl) (show (!(m.fMaintainers[k].fEmail.toList == (⟨#[]⟩ : ByteArray).toList)) = true by rw [hc397]; rfl)
              refine op_kq F459 ?_; intro a460 F460
              refine op_kq F460 ?_; intro a461 F461
              refine op_kq F461 ?_; intro a462 F462
              refine op_q F462 (.bool true) ?_; intro a463 F463
              refine wpList_nil ?_
              refine hK379 _ _ ?_; clear hK379 K379
              refine wp_cond_true (F463.ev (by kernel_rfl)) ?_
              refine wp_seq_k fun K464 hK464 => ?_
              refine wp_region_lit ?_
              refine op_q F463 (.bool true) ?_; intro a465 F465
              refine wpList_nil ?_
              refine hK464 _ _ ?_; clear hK464 K464
              refine wp_ret ?_
              refine ret_then ?_
              refine ret_in ?_
              refine ret_then ?_
              refine ret_then ?_
              refine ret_in ?_
              refine ret_then ?_
              refine (F465.res1 rfl (v := .bool true) (by kernel_rfl) ?_).1
              exact ⟨rfl, S383.drop.drop.drop⟩
          · have F466 := F387.sb 97 (by kernel_rfl) hc388
            have F467 := F466.sb 98 (by kernel_rfl) (show (!(shortB [m.fMaintainers[k].fName])) = true by rw [hc388]; rfl)
            have F468 := F467.sb 99 (by kernel_rfl) (show (!(shortB [m.fMaintainers[k].fName])) = true by rw [hc388]; rfl)
            refine op_kq F468 ?_; intro a469 F469
            refine op_kq F469 ?_; intro a470 F470
            refine op_kq F470 ?_; intro a471 F471
            refine op_q F471 (.bool true) ?_; intro a472 F472
            refine op_q F472 (.bool true) ?_; intro a473 F473
            refine op_kq F473 ?_; intro a474 F474
            refine op_kq F474 ?_; intro a475 F475
            refine op_kq F475 ?_; intro a476 F476
            refine op_q F476 (.bool true) ?_; intro a477 F477
            refine wpList_nil ?_
            refine hK379 _ _ ?_; clear hK379 K379
            refine wp_cond_true (F477.ev (by kernel_rfl)) ?_
            refine wp_seq_k fun K478 hK478 => ?_
            refine wp_region_lit ?_
            refine op_q F477 (.bool true) ?_; intro a479 F479
            refine wpList_nil ?_
            refine hK478 _ _ ?_; clear hK478 K478
            refine wp_ret ?_
            refine ret_then ?_
            refine ret_in ?_
            refine ret_then ?_
            refine ret_then ?_
            refine ret_in ?_
            refine ret_then ?_
            refine (F479.res1 rfl (v := .bool true) (by kernel_rfl) ?_).1
            exact ⟨rfl, S383.drop.drop.drop⟩
        · have hc_k : decide ((↑k : Int) < ↑m.fMaintainers.length) = false := by first | (simp; done) | (simp; omega)
          have hpe : ∀ p ∈ m.fMaintainers, p.fEmail.size = 0 ∧ p.fURL.size = 0 := fun p hp => by obtain ⟨j, hj, rfl⟩ := List.mem_iff_getElem.1 hp; exact hpe1 j hj (by omega)
          have hpee : pe = lper m.fMaintainers := by rw [hpe2, List.take_of_length_le (by omega)]
          refine wp_seq_k fun K480 hK480 => ?_
          refine wp_region_lit ?_
          refine op_q F365 (.bool (decide ((↑k : Int) < ↑m.fMaintainers.length))) ?_; intro a481 F481
          have F482 := F481.sb 91 (by kernel_rfl) hc_k
          refine wpList_nil ?_
          refine hK480 _ _ ?_; clear hK480 K480
          refine wp_seq_k fun K483 hK483 => ?_
          refine wp_cond_false (F482.ev (by kernel_rfl)) ?_
          refine wp_exit ?_
          refine ex_then ?_; clear hK483 K483
          refine ex_then ?_
          refine ex_in ?_
          refine hK359 _ _ ?_; clear hK359 K359
          refine wp_seq_k fun K484 hK484 => ?_
          refine wp_seq_k fun K485 hK485 => ?_
          refine wp_region_lit ?_
          refine op_q F482 (.pointer (some ⟨g1, 14, none⟩)) ?_; intro a486 F486
          refine op_rq (v := .slice (m.fDependencies_a) (m.fDependencies.length) (m.fDependencies_c)) F486 (r_ld rfl (F486.e (.pointer (some ⟨g1, 14, none⟩))) (v := .slice (m.fDependencies_a) (m.fDependencies.length) (m.fDependencies_c)) ((S365.bk 0 rfl).cell 14) Try.underlying24 rfl) ?_; intro a487 F487
          refine op_q F487 (.int .i64 (↑m.fDependencies.length)) ?_; intro a488 F488
          refine op_q F488 (.int .i64 0) ?_; intro a489 F489
          refine wpList_nil ?_
          refine hK485 _ _ ?_; clear hK485 K485
          refine wp_block ?_
          refine fw_loop (fun m' a' w' => ∃ q : Nat, m.fDependencies.length - q = m' ∧ Fr 228 [] a' [(1, .pointer (some ⟨g1, 0, none⟩)), (3, .bool sl), (5, .bool pe), (121, .slice (m.fDependencies_a) (m.fDependencies.length) (m.fDependencies_c)), (122, .int .i64 (↑m.fDependencies.length)), (123, .int .i64 (↑q))] ∧ Sp R w' (SA.blk g1 26 #[.string m.fName, .string m.fHome, .string m.fVersion, .string m.fDescription, .string m.fIcon, .string m.fAPIVersion, .string m.fCondition, .string m.fTags, .string m.fAppVersion, .string m.fKubeVersion, .string m.fType, .slice (m.fSources_a) (m.fSources.length) (m.fSources_c), .slice (m.fKeywords_a) (m.fKeywords.length) (m.fKeywords_c), .slice (m.fMaintainers_a) (m.fMaintainers.length) (m.fMaintainers_c), .slice (m.fDependencies_a) (m.fDependencies.length) (m.fDependencies_c)] :: L) ∧ (q ≤ m.fDependencies.length) ∧ (∀ j, ∀ h : j < m.fDependencies.length, j < q → m.fDependencies[j].fTags.length = 0)) _ ⟨0, rfl, (F489.kk 1 (F489.kk 3 (F489.kk 5 (F489.kk 121 (F489.kk 122 (F489.kk 123 F489.nil)))))), S365, (by first | omega | (with_reducible assumption) | (simp; done)), (fun j _ h => absurd h (Nat.not_lt_zero _))⟩ ?_
          rintro m490 a490 w490 ⟨q, hm490, F490, S490, hq, htg⟩ K490 hK490
          by_cases hlt_q : q < m.fDependencies.length
          · have hc_q : decide ((↑q : Int) < ↑m.fDependencies.length) = true := by first | (simp; done) | (simp; omega)
            have hdz := hfd _ (List.getElem_mem hlt_q)
            obtain ⟨hd1, hd2, hd3, hd4⟩ := hdz
            obtain ⟨ad491, hA491⟩ := (h3 _ S490.drop).addr (by simp; omega)
            refine wp_seq_k fun K492 hK492 => ?_
            refine wp_region_lit ?_
            refine op_q F490 (.bool (decide ((↑q : Int) < ↑m.fDependencies.length))) ?_; intro a493 F493
            have F494 := F493.sb 124 (by kernel_rfl) hc_q
            refine wpList_nil ?_
            refine hK492 _ _ ?_; clear hK492 K492
            refine wp_seq_k fun K495 hK495 => ?_
            refine wp_cond_true (F494.ev (by kernel_rfl)) ?_
            refine wp_skip ?_
            refine hK495 _ _ ?_; clear hK495 K495
            refine wp_seq_k fun K496 hK496 => ?_
            refine wp_block ?_
            refine wp_seq_k fun K497 hK497 => ?_
            refine wp_region_lit ?_
            refine op_rq (v := .pointer (some (ad491.add (q * 7)))) F494 (r_ix rfl Try.underlying24 7 (by kernel_rfl) (F494.e (.slice (m.fDependencies_a) (m.fDependencies.length) (m.fDependencies_c))) hA491 (F494.e (.int .i64 (↑q))) q (by first | rfl | omega | simp) (by first | omega | (simp; done) | (simp; omega)) (rfl)) ?_; intro a498 F498
            refine op_rq (v := .agg #[.bool m.fDependencies[q].fNil, .string m.fDependencies[q].fName, .string m.fDependencies[q].fVersion, .string m.fDependencies[q].fRepository, .string m.fDependencies[q].fCondition, .slice m.fDependencies[q].fTags_a m.fDependencies[q].fTags.length m.fDependencies[q].fTags_c, .string m.fDependencies[q].fAlias]) F498 (r_ldR rfl (F498.e (.pointer (some (ad491.add (q * 7))))) (cs := [.bool m.fDependencies[q].fNil, .string m.fDependencies[q].fName, .string m.fDependencies[q].fVersion, .string m.fDependencies[q].fRepository, .string m.fDependencies[q].fCondition, .slice m.fDependencies[q].fTags_a m.fDependencies[q].fTags.length m.fDependencies[q].fTags_c, .string m.fDependencies[q].fAlias]) ((h3 _ S490.drop).elA hA491 (j := q) (row := m.fDependencies[q].cells) (by rw [List.getElem?_map, List.getElem?_eq_getElem hlt_q]; rfl)) Try.underlying80 rfl (by kernel_rfl) (v := #[.bool m.fDependencies[q].fNil, .string m.fDependencies[q].fName, .string m.fDependencies[q].fVersion, .string m.fDependencies[q].fRepository, .string m.fDependencies[q].fCondition, .slice m.fDependencies[q].fTags_a m.fDependencies[q].fTags.length m.fDependencies[q].fTags_c, .string m.fDependencies[q].fAlias]) (by kernel_rfl)) ?_; intro a499 F499
            refine op_sq F499 (s_newp F499 80 #[.bool false, .string ⟨#[]⟩, .string ⟨#[]⟩, .string ⟨#[]⟩, .string ⟨#[]⟩, .slice none 0 0, .string ⟨#[]⟩] (by kernel_rfl) (by kernel_rfl) (by kernel_rfl) S490) ?_
            rintro _ _ w501 ⟨g499, rfl, rfl⟩ S501 a501 F501
            refine op_sq0 F501 (s_stb rfl (F501.e (.pointer (some ⟨g499, 0, none⟩))) (F501.e (.agg #[.bool m.fDependencies[q].fNil, .string m.fDependencies[q].fName, .string m.fDependencies[q].fVersion, .string m.fDependencies[q].fRepository, .string m.fDependencies[q].fCondition, .slice m.fDependencies[q].fTags_a m.fDependencies[q].fTags.length m.fDependencies[q].fTags_c, .string m.fDependencies[q].fAlias])) S501 (by kernel_rfl) rfl (by kernel_rfl)) ?_
            rintro _ _ w502 rfl S502 F502
            refine wpList_nil ?_
            refine hK497 _ _ ?_; clear hK497 K497
            refine wp_seq_k fun K503 hK503 => ?_
            refine wp_region_lit ?_
            refine op_q F502 (.pointer (some ⟨g499, 1, none⟩)) ?_; intro a504 F504
            refine op_rq (v := .string m.fDependencies[q].fName) F504 (r_ld rfl (F504.e (.pointer (some ⟨g499, 1, none⟩))) (v := .string m.fDependencies[q].fName) ((S502.bk 0 rfl).cell 1) Try.underlying9 rfl) ?_; intro a505 F505
            refine op_cq F505 (f := 40) (args := #[.string m.fDependencies[q].fName]) (hlSmall_any m.fDependencies[q].fName _ _ _ S502 (by first | omega | (simp; done) | (simp; omega))) ?_
            rintro _ w506 ⟨rfl, S506⟩
            refine ⟨_, rfl, ?_⟩
            intro a507 F507
            refine op_q F507 (.bool (!(smallB m.fDependencies[q].fName))) ?_; intro a508 F508
            refine op_q F508 (.bool (!(smallB m.fDependencies[q].fName))) ?_; intro a509 F509
            rcases btf (smallB m.fDependencies[q].fName) with hc510 | hc510
            · have F511 := F509.sb 129 (by kernel_rfl) hc510
              have F512 := F511.sb 130 (by kernel_rfl) (show (!(smallB m.fDependencies[q].fName)) = false by rw [hc510]; rfl)
              have F513 := F512.sb 131 (by kernel_rfl) (show (!(smallB m.fDependencies[q].fName)) = false by rw [hc510]; rfl)
              refine op_wq F513 ?_
              refine op_q F513 (.pointer (some ⟨g499, 2, none⟩)) ?_; intro a514 F514
              refine op_wq F514 ?_
              refine op_rq (v := .string m.fDependencies[q].fVersion) F514 (r_ld rfl (F514.e (.pointer (some ⟨g499, 2, none⟩))) (v := .string m.fDependencies[q].fVersion) ((S506.bk 0 rfl).cell 2) Try.underlying9 rfl) ?_; intro a515 F515
              refine op_wq F515 ?_
              refine op_q F515 (.bool (!(m.fDependencies[q].fVersion.toList == (⟨#[49, 46, 48, 46, 48]⟩ : ByteArray).toList))) ?_; intro a516 F516
              refine op_q F516 (.bool (!(m.fDependencies[q].fVersion.toList == (⟨#[49, 46, 48, 46, 48]⟩ : ByteArray).toList))) ?_; intro a517 F517
              refine op_q F517 (.bool (!(m.fDependencies[q].fVersion.toList == (⟨#[49, 46, 48, 46, 48]⟩ : ByteArray).toList))) ?_; intro a518 F518
              rcases btf (m.fDependencies[q].fVersion.toList == (⟨#[49, 46, 48, 46, 48]⟩ : ByteArray).toList) with hc519 | hc519
              · have F520 := F518.sb 134 (by kernel_rfl) (show (!(m.fDependencies[q].fVersion.toList == (⟨#[49, 46, 48, 46, 48]⟩ : ByteArray).toList)) = false by rw [hc519]; rfl)
                have F521 := F520.sb 135 (by kernel_rfl) (show (!(m.fDependencies[q].fVersion.toList == (⟨#[49, 46, 48, 46, 48]⟩ : ByteArray).toList)) = false by rw [hc519]; rfl)
                have F522 := F521.sb 136 (by kernel_rfl) (show (!(m.fDependencies[q].fVersion.toList == (⟨#[49, 46, 48, 46, 48]⟩ : ByteArray).toList)) = false by rw [hc519]; rfl)
                refine op_wq F522 ?_
                refine op_q F522 (.pointer (some ⟨g499, 0, none⟩)) ?_; intro a523 F523
                refine op_wq F523 ?_
                refine op_rq (v := .bool m.fDependencies[q].fNil) F523 (r_ld rfl (F523.e (.pointer (some ⟨g499, 0, none⟩))) (v := .bool m.fDependencies[q].fNil) ((S506.bk 0 rfl).cell 0) Try.underlying4 rfl) ?_; intro a524 F524
                refine op_q F524 (.bool m.fDependencies[q].fNil) ?_; intro a525 F525
                refine op_q F525 (.bool m.fDependencies[q].fNil) ?_; intro a526 F526
                rcases btf (m.fDependencies[q].fNil) with hc527 | hc527
                · have F528 := F526.sb 138 (by kernel_rfl) hc527
                  have F529 := F528.sb 139 (by kernel_rfl) hc527
                  have F530 := F529.sb 140 (by kernel_rfl) hc527
                  refine op_kq F530 ?_; intro a531 F531
                  refine op_kq F531 ?_; intro a532 F532
                  refine op_kq F532 ?_; intro a533 F533
                  refine op_kq F533 ?_; intro a534 F534
                  refine op_kq F534 ?_; intro a535 F535
                  refine op_kq F535 ?_; intro a536 F536
                  refine op_kq F536 ?_; intro a537 F537
                  refine op_kq F537 ?_; intro a538 F538
                  refine op_kq F538 ?_; intro a539 F539
                  refine op_q F539 (.bool true) ?_; intro a540 F540
                  refine op_q F540 (.bool true) ?_; intro a541 F541
                  refine op_kq F541 ?_; intro a542 F542
                  refine op_kq F542 ?_; intro a543 F543
                  refine op_kq F543 ?_; intro a544 F544
                  refine op_kq F544 ?_; intro a545 F545
                  refine op_q F545 (.bool true) ?_; intro a546 F546
                  refine wpList_nil ?_
                  refine hK503 _ _ ?_; clear hK503 K503
                  refine wp_cond_true (F546.ev (by kernel_rfl)) ?_
                  refine wp_seq_k fun K547 hK547 => ?_
                  refine wp_region_lit ?_
                  refine op_q F546 (.bool true) ?_; intro a548 F548
                  refine wpList_nil ?_
                  refine hK547 _ _ ?_; clear hK547 K547
                  refine wp_ret ?_
                  refine ret_in ?_
                  refine ret_then ?_
                  refine ret_then ?_
                  refine ret_in ?_
                  refine ret_then ?_
                  refine (F548.res1 rfl (v := .bool true) (by kernel_rfl) ?_).1
                  exact ⟨rfl, S506.drop.drop⟩
                · have F549 := F526.sb 138 (by kernel_rfl) hc527
                  have F550 := F549.sb 139 (by kernel_rfl) hc527
                  have F551 := F550.sb 140 (by kernel_rfl) hc527
                  refine op_wq F551 ?_
                  refine op_q F551 (.pointer (some ⟨g499, 3, none⟩)) ?_; intro a552 F552
                  refine op_wq F552 ?_
                  refine op_rq (v := .string m.fDependencies[q].fRepository) F552 (r_ld rfl (F552.e (.pointer (some ⟨g499, 3, none⟩))) (v := .string m.fDependencies[q].fRepository) ((S506.bk 0 rfl).cell 3) Try.underlying9 rfl) ?_; intro a553 F553
                  refine op_wq F553 ?_
                  refine op_q F553 (.pointer (some ⟨g499, 4, none⟩)) ?_; intro a554 F554
                  refine op_wq F554 ?_
                  refine op_rq (v := .string m.fDependencies[q].fCondition) F554 (r_ld rfl (F554.e (.pointer (some ⟨g499, 4, none⟩))) (v := .string m.fDependencies[q].fCondition) ((S506.bk 0 rfl).cell 4) Try.underlying9 rfl) ?_; intro a555 F555
                  refine op_wq F555 ?_
                  refine op_rq (v := .string (m.fDependencies[q].fRepository ++ m.fDependencies[q].fCondition)) F555 (r_sadd rfl (F555.e (.string m.fDependencies[q].fRepository)) (F555.e (.string m.fDependencies[q].fCondition)) (by show m.fDependencies[q].fRepository.size + m.fDependencies[q].fCondition.size ≤ 9223372036854775807; first | omega | (simp only [ByteArray.size_append, ByteArray.size_extract]; omega) | (simp; omega))) ?_; intro a556 F556
                  refine op_wq F556 ?_
                  refine op_q F556 (.pointer (some ⟨g499, 6, none⟩)) ?_; intro a557 F557
                  refine op_wq F557 ?_
                  refine op_rq (v := .string m.fDependencies[q].fAlias) F557 (r_ld rfl (F557.e (.pointer (some ⟨g499, 6, none⟩))) (v := .string m.fDependencies[q].fAlias) ((S506.bk 0 rfl).cell 6) Try.underlying9 rfl) ?_; intro a558 F558
                  refine op_wq F558 ?_
                  refine op_rq (v := .string ((m.fDependencies[q].fRepository ++ m.fDependencies[q].fCondition) ++ m.fDependencies[q].fAlias)) F558 (r_sadd rfl (F558.e (.string (m.fDependencies[q].fRepository ++ m.fDependencies[q].fCondition))) (F558.e (.string m.fDependencies[q].fAlias)) (by show (m.fDependencies[q].fRepository ++ m.fDependencies[q].fCondition).size + m.fDependencies[q].fAlias.size ≤ 9223372036854775807; first | omega | (simp only [ByteArray.size_append, ByteArray.size_extract]; omega) | (simp; omega))) ?_; intro a559 F559
                  refine op_wq F559 ?_
                  refine op_q F559 (.bool (!(((m.fDependencies[q].fRepository ++ m.fDependencies[q].fCondition) ++ m.fDependencies[q].fAlias).toList == (⟨#[]⟩ : ByteArray).toList))) ?_; intro a560 F560
                  refine op_q F560 (.bool (!(((m.fDependencies[q].fRepository ++ m.fDependencies[q].fCondition) ++ m.fDependencies[q].fAlias).toList == (⟨#[]⟩ : ByteArray).toList))) ?_; intro a561 F561
                  refine op_q F561 (.bool (!(((m.fDependencies[q].fRepository ++ m.fDependencies[q].fCondition) ++ m.fDependencies[q].fAlias).toList == (⟨#[]⟩ : ByteArray).toList))) ?_; intro a562 F562
                  rcases btf (((m.fDependencies[q].fRepository ++ m.fDependencies[q].fCondition) ++ m.fDependencies[q].fAlias).toList == (⟨#[]⟩ : ByteArray).toList) with hc563 | hc563
                  · have F564 := F562.sb 149 (by kernel_rfl) (show (!(((m.fDependencies[q].fRepository ++ m.fDependencies[q].fCondition) ++ m.fDependencies[q].fAlias).toList == (⟨#[]⟩ : ByteArray).toList)) = false by rw [hc563]; rfl)
                    have F565 := F564.sb 150 (by kernel_rfl) (show (!(((m.fDependencies[q].fRepository ++ m.fDependencies[q].fCondition) ++ m.fDependencies[q].fAlias).toList == (⟨#[]⟩ : ByteArray).toList)) = false by rw [hc563]; rfl)
                    have F566 := F565.sb 151 (by kernel_rfl) (show (!(((m.fDependencies[q].fRepository ++ m.fDependencies[q].fCondition) ++ m.fDependencies[q].fAlias).toList == (⟨#[]⟩ : ByteArray).toList)) = false by rw [hc563]; rfl)
                    refine op_wq F566 ?_
                    refine op_q F566 (.pointer (some ⟨g499, 5, none⟩)) ?_; intro a567 F567
                    refine op_wq F567 ?_
                    refine op_rq (v := .slice m.fDependencies[q].fTags_a m.fDependencies[q].fTags.length m.fDependencies[q].fTags_c) F567 (r_ld rfl (F567.e (.pointer (some ⟨g499, 5, none⟩))) (v := .slice m.fDependencies[q].fTags_a m.fDependencies[q].fTags.length m.fDependencies[q].fTags_c) ((S506.bk 0 rfl).cell 5) Try.underlying22 rfl) ?_; intro a568 F568
                    refine op_wq F568 ?_
                    refine op_q F568 (.int .i64 (↑m.fDependencies[q].fTags.length)) ?_; intro a569 F569
                    refine op_wq F569 ?_
                    refine op_q F569 (.bool (decide ((0 : Int) < ↑m.fDependencies[q].fTags.length))) ?_; intro a570 F570
                    refine op_q F570 (.bool (decide ((0 : Int) < ↑m.fDependencies[q].fTags.length))) ?_; intro a571 F571
                    refine wpList_nil ?_
                    refine hK503 _ _ ?_; clear hK503 K503
                    rcases btf (decide ((0 : Int) < ↑m.fDependencies[q].fTags.length)) with hc572 | hc572
                    · have hc572p := of_decide_eq_true hc572
                      have F573 := F571.sb 155 (by kernel_rfl) hc572
                      have F574 := F573.sb 156 (by kernel_rfl) hc572
                      refine wp_cond_true (F574.ev (by kernel_rfl)) ?_
                      refine wp_seq_k fun K575 hK575 => ?_
                      refine wp_region_lit ?_
                      refine op_q F574 (.bool true) ?_; intro a576 F576
                      refine wpList_nil ?_
                      refine hK575 _ _ ?_; clear hK575 K575
                      refine wp_ret ?_
                      refine ret_in ?_
                      refine ret_then ?_
                      refine ret_then ?_
                      refine ret_in ?_
                      refine ret_then ?_
                      refine (F576.res1 rfl (v := .bool true) (by kernel_rfl) ?_).1
                      exact ⟨rfl, S506.drop.drop⟩
                    · have hc572p := of_decide_eq_false hc572
                      have F577 := F571.sb 155 (by kernel_rfl) hc572
                      have F578 := F577.sb 156 (by kernel_rfl) hc572
                      refine wp_cond_false (F578.ev (by kernel_rfl)) ?_
                      refine wp_skip ?_
                      refine hK496 _ _ ?_; clear hK496 K496
                      refine wp_region_lit ?_
                      refine op_rq (v := .int .i64 (↑(q + 1))) F578 (r_add (z := ↑(q + 1)) rfl (F578.e (.int .i64 (↑q))) (F578.e (.int .i64 1)) (wr64 (by omega) (by omega) (by omega))) ?_; intro a579 F579
                      refine op_q F579 (.int .i64 (↑(q + 1))) ?_; intro a580 F580
                      refine wpList_nil ?_
                      exact hK490 _ _ _ (by first | omega | (simp; omega)) ⟨q + 1, rfl, (F580.kk 1 (F580.kk 3 (F580.kk 5 (F580.kk 121 (F580.kk 122 (F580.kk 123 F580.nil)))))), S506.drop, (by first | omega | (with_reducible assumption) | (simp; done)), (fun j hj h => (Nat.lt_succ_iff_lt_or_eq.1 h).elim (htg j hj) (fun e => by subst e; omega))⟩
                  · have F581 := F562.sb 149 (by kernel_rfl) (show (!(((m.fDependencies[q].fRepository ++ m.fDependencies[q].fCondition) ++ m.fDependencies[q].fAlias).toList == (⟨#[]⟩ : ByteArray).toList)) = true by rw [hc563]; rfl)
                    have F582 := F581.sb 150 (by kernel_rfl) (show (!(((m.fDependencies[q].fRepository ++ m.fDependencies[q].fCondition) ++ m.fDependencies[q].fAlias).toList == (⟨#[]⟩ : ByteArray).toList)) = true by rw [hc563]; rfl)
                    have F583 := F582.sb 151 (by kernel_rfl) (show (!(((m.fDependencies[q].fRepository ++ m.fDependencies[q].fCondition) ++ m.fDependencies[q].fAlias).toList == (⟨#[]⟩ : ByteArray).toList)) = true by rw [hc563]; rfl)
                    refine op_kq F583 ?_; intro a584 F584
                    refine op_kq F584 ?_; intro a585 F585
                    refine op_kq F585 ?_; intro a586 F586
                    refine op_kq F586 ?_; intro a587 F587
                    refine op_q F587 (.bool true) ?_; intro a588 F588
                    refine wpList_nil ?_
                    refine hK503 _ _ ?_; clear hK503 K503
                    refine wp_cond_true (F588.ev (by kernel_rfl)) ?_
                    refine wp_seq_k fun K589 hK589 => ?_
                    refine wp_region_lit ?_
                    refine op_q F588 (.bool true) ?_; intro a590 F590
                    refine wpList_nil ?_
                    refine hK589 _ _ ?_; clear hK589 K589
                    refine wp_ret ?_
                    refine ret_in ?_
                    refine ret_then ?_
                    refine ret_then ?_
                    refine ret_in ?_
                    refine ret_then ?_
                    refine (F590.res1 rfl (v := .bool true) (by kernel_rfl) ?_).1
                    exact ⟨rfl, S506.drop.drop⟩
              · have F591 := F518.sb 134 (by kernel_rfl) (show (!(m.fDependencies[q].fVersion.toList == (⟨#[49, 46, 48, 46, 48]⟩ : ByteArray).toList)) = true by rw [hc519]; rfl)
                have F592 := F591.sb 135 (by kernel_rfl) (show (!(m.fDependencies[q].fVersion.toList == (⟨#[49, 46, 48, 46, 48]⟩ : ByteArray).toList)) = true by rw [hc519]; rfl)
                have F593 := F592.sb 136 (by kernel_rfl) (show (!(m.fDependencies[q].fVersion.toList == (⟨#[49, 46, 48, 46, 48]⟩ : ByteArray).toList)) = true by rw [hc519]; rfl)
                refine op_kq F593 ?_; intro a594 F594
                refine op_kq F594 ?_; intro a595 F595
                refine op_q F595 (.bool true) ?_; intro a596 F596
                refine op_q F596 (.bool true) ?_; intro a597 F597
                refine op_kq F597 ?_; intro a598 F598
                refine op_kq F598 ?_; intro a599 F599
                refine op_kq F599 ?_; intro a600 F600
                refine op_kq F600 ?_; intro a601 F601
                refine op_kq F601 ?_; intro a602 F602
                refine op_kq F602 ?_; intro a603 F603
                refine op_kq F603 ?_; intro a604 F604
                refine op_kq F604 ?_; intro a605 F605
                refine op_kq F605 ?_; intro a606 F606
                refine op_q F606 (.bool true) ?_; intro a607 F607
                refine op_q F607 (.bool true) ?_; intro a608 F608
                refine op_kq F608 ?_; intro a609 F609
                refine op_kq F609 ?_; intro a610 F610
                refine op_kq F610 ?_; intro a611 F611
                refine op_kq F611 ?_; intro a612 F612
                refine op_q F612 (.bool true) ?_; intro a613 F613
                refine wpList_nil ?_
                refine hK503 _ _ ?_; clear hK503 K503
                refine wp_cond_true (F613.ev (by kernel_rfl)) ?_
                refine wp_seq_k fun K614 hK614 => ?_
                refine wp_region_lit ?_
                refine op_q F613 (.bool true) ?_; intro a615 F615
                refine wpList_nil ?_
                refine hK614 _ _ ?_; clear hK614 K614
                refine wp_ret ?_
                refine ret_in ?_
                refine ret_then ?_
                refine ret_then ?_
                refine ret_in ?_
                refine ret_then ?_
                refine (F615.res1 rfl (v := .bool true) (by kernel_rfl) ?_).1
                exact ⟨rfl, S506.drop.drop⟩
            · have F616 := F509.sb 129 (by kernel_rfl) hc510
              have F617 := F616.sb 130 (by kernel_rfl) (show (!(smallB m.fDependencies[q].fName)) = true by rw [hc510]; rfl)
              have F618 := F617.sb 131 (by kernel_rfl) (show (!(smallB m.fDependencies[q].fName)) = true by rw [hc510]; rfl)
              refine op_kq F618 ?_; intro a619 F619
              refine op_kq F619 ?_; intro a620 F620
              refine op_kq F620 ?_; intro a621 F621
              refine op_q F621 (.bool true) ?_; intro a622 F622
              refine op_q F622 (.bool true) ?_; intro a623 F623
              refine op_kq F623 ?_; intro a624 F624
              refine op_kq F624 ?_; intro a625 F625
              refine op_q F625 (.bool true) ?_; intro a626 F626
              refine op_q F626 (.bool true) ?_; intro a627 F627
              refine op_kq F627 ?_; intro a628 F628
              refine op_kq F628 ?_; intro a629 F629
              refine op_kq F629 ?_; intro a630 F630
              refine op_kq F630 ?_; intro a631 F631
              refine op_kq F631 ?_; intro a632 F632
              refine op_kq F632 ?_; intro a633 F633
              refine op_kq F633 ?_; intro a634 F634
              refine op_kq F634 ?_; intro a635 F635
              refine op_kq F635 ?_; intro a636 F636
              refine op_q F636 (.bool true) ?_; intro a637 F637
              refine op_q F637 (.bool true) ?_; intro a638 F638
              refine op_kq F638 ?_; intro a639 F639
              refine op_kq F639 ?_; intro a640 F640
              refine op_kq F640 ?_; intro a641 F641
              refine op_kq F641 ?_; intro a642 F642
              refine op_q F642 (.bool true) ?_; intro a643 F643
              refine wpList_nil ?_
              refine hK503 _ _ ?_; clear hK503 K503
              refine wp_cond_true (F643.ev (by kernel_rfl)) ?_
              refine wp_seq_k fun K644 hK644 => ?_
              refine wp_region_lit ?_
              refine op_q F643 (.bool true) ?_; intro a645 F645
              refine wpList_nil ?_
              refine hK644 _ _ ?_; clear hK644 K644
              refine wp_ret ?_
              refine ret_in ?_
              refine ret_then ?_
              refine ret_then ?_
              refine ret_in ?_
              refine ret_then ?_
              refine (F645.res1 rfl (v := .bool true) (by kernel_rfl) ?_).1
              exact ⟨rfl, S506.drop.drop⟩
          · have hc_q : decide ((↑q : Int) < ↑m.fDependencies.length) = false := by first | (simp; done) | (simp; omega)
            have hm5 : ∀ d ∈ m.fDependencies, d.fTags.length ≤ 1000000 := fun d hd => by obtain ⟨j, hj, rfl⟩ := List.mem_iff_getElem.1 hd; have := htg j hj (by omega); omega
            have hf : mfitsB m = true := by simp only [mfitsB, Bool.and_eq_true, decide_eq_true_eq]; omega
            refine wp_seq_k fun K646 hK646 => ?_
            refine wp_region_lit ?_
            refine op_q F490 (.bool (decide ((↑q : Int) < ↑m.fDependencies.length))) ?_; intro a647 F647
            have F648 := F647.sb 124 (by kernel_rfl) hc_q
            refine wpList_nil ?_
            refine hK646 _ _ ?_; clear hK646 K646
            refine wp_seq_k fun K649 hK649 => ?_
            refine wp_cond_false (F648.ev (by kernel_rfl)) ?_
            refine wp_exit ?_
            refine ex_then ?_; clear hK649 K649
            refine ex_then ?_
            refine ex_in ?_
            refine hK484 _ _ ?_; clear hK484 K484
            refine wp_seq_k fun K650 hK650 => ?_
            obtain ⟨tb0, htb0⟩ : ∃ b : Bool, b = (m.fName.toList == (⟨#[]⟩ : ByteArray).toList) := ⟨_, rfl⟩
            obtain ⟨tb1, htb1⟩ : ∃ b : Bool, b = (m.fName.toList == (⟨#[47]⟩ : ByteArray).toList) := ⟨_, rfl⟩
            obtain ⟨tb2, htb2⟩ : ∃ b : Bool, b = (m.fIcon.toList == (⟨#[]⟩ : ByteArray).toList) := ⟨_, rfl⟩
            obtain ⟨tb3, htb3⟩ : ∃ b : Bool, b = (m.fType.toList == (⟨#[]⟩ : ByteArray).toList) := ⟨_, rfl⟩
            obtain ⟨tb4, htb4⟩ : ∃ b : Bool, b = (m.fAPIVersion.toList == (⟨#[118, 50]⟩ : ByteArray).toList) := ⟨_, rfl⟩
            obtain ⟨tb5, htb5⟩ : ∃ b : Bool, b = (decide ((0 : Int) < ↑m.fDependencies.length)) := ⟨_, rfl⟩
            refine wp_region_sepF (L0 := SA.blk g1 26 #[.string m.fName, .string m.fHome, .string m.fVersion, .string m.fDescription, .string m.fIcon, .string m.fAPIVersion, .string m.fCondition, .string m.fTags, .string m.fAppVersion, .string m.fKubeVersion, .string m.fType, .slice (m.fSources_a) (m.fSources.length) (m.fSources_c), .slice (m.fKeywords_a) (m.fKeywords.length) (m.fKeywords_c), .slice (m.fMaintainers_a) (m.fMaintainers.length) (m.fMaintainers_c), .slice (m.fDependencies_a) (m.fDependencies.length) (m.fDependencies_c)] :: L) [some [], some [(0, 158)], some [(1, 159)], some [(2, 160)], some [(3, 161)], some [(3, 161), (4, 162)], some [(5, 163)], some [(5, 163), (6, 164)], some [(5, 163), (7, 165)], some [(3, 161), (5, 163), (8, 166)], some [(3, 161), (9, 167)], some [], some [(11, 169)], some [], some [(12, 170), (13, 171)], some [(14, 172)], some [], some [(16, 174)], some [(17, 175)], some [(18, 176)], some [], some [], some [(21, 179)], some [(22, 180)], some [], some [(24, 182)], some [(25, 183)], some [(26, 184)], some [(27, 185)], some [(27, 185), (28, 186)], some [(27, 185), (29, 187)], some [(27, 185), (30, 188)], some [], some [(32, 190)], some [(33, 191)], some [(34, 192)], some [(35, 193)], some [(36, 194)], some [(36, 194), (37, 195)], some [(36, 194), (38, 196)], some [(36, 194), (39, 197)], some [(10, 168), (15, 173), (19, 177), (20, 178), (23, 181), (31, 189), (40, 198)], some [(10, 168), (15, 173), (19, 177), (20, 178), (23, 181), (31, 189), (40, 198), (41, 199)]] [.v 158 (.pointer (some ⟨g1, 0, none⟩)), .v 159 (.string m.fName), .v 160 (.bool tb0), .v 161 (.bool tb0), .v 162 (cnd (tb0) (undef) (Value.bool sl)), .v 163 (cnd (tb0) (undef) (Value.bool sl)), .v 164 (cnd (tb0) (undef) (cnd (sl) (Value.pointer (some ⟨g1, 0, none⟩)) (undef))), .v 165 (cnd (tb0) (undef) (cnd (sl) (Value.string m.fName) (undef))), .v 166 (cnd (tb0) (undef) (cnd (sl) (Value.bool (!(tb1))) (undef))), .v 167 (cnd (tb0) (undef) (Value.bool (cond (sl) (!(tb1)) (false)))), .v 168 (.bool (cond (tb0) (true) (cond (sl) (!(tb1)) (false)))), .v 169 (.pointer (some ⟨g1, 5, none⟩)), .v 170 (.string m.fAPIVersion), .p 171 (SA.emp) (fun _ vv AA => ∃ g925 : Nat, vv = .slice (some ⟨g925, 0, none⟩) 2 2 ∧ AA = SA.blk g925 9 #[.string ⟨#[118, 49]⟩, .string ⟨#[118, 50]⟩]), .v 172 (.bool (oneOf m.fAPIVersion [⟨#[118, 49]⟩, ⟨#[118, 50]⟩])), .v 173 (.bool (!(oneOf m.fAPIVersion [⟨#[118, 49]⟩, ⟨#[118, 50]⟩]))), .v 174 (.pointer (some ⟨g1, 2, none⟩)), .v 175 (.string m.fVersion), .v 176 (.bool (hpB m.fVersion)), .v 177 (.bool (!(hpB m.fVersion))), .v 178 (.bool pe), .v 179 (.pointer (some ⟨g1, 4, none⟩)), .v 180 (.string m.fIcon), .v 181 (.bool tb2), .v 182 (.pointer (some ⟨g1, 10, none⟩)), .v 183 (.string m.fType), .v 184 (.bool (!(tb3))), .v 185 (.bool (!(tb3))), .v 186 (cnd (tb3) (undef) (Value.pointer (some ⟨g1, 5, none⟩))), .v 187 (cnd (tb3) (undef) (Value.string m.fAPIVersion)), .v 188 (cnd (tb3) (undef) (Value.bool (!(tb4)))), .v 189 (.bool (cond (tb3) (false) (!(tb4)))), .v 190 (.pointer (some ⟨g1, 14, none⟩)), .v 191 (.slice (m.fDependencies_a) (m.fDependencies.length) (m.fDependencies_c)), .v 192 (.int .i64 (↑m.fDependencies.length)), .v 193 (.bool tb5), .v 194 (.bool tb5), .v 195 (cnd (tb5) (Value.pointer (some ⟨g1, 5, none⟩)) (undef)), .v 196 (cnd (tb5) (Value.string m.fAPIVersion) (undef)), .v 197 (cnd (tb5) (Value.bool (!(tb4))) (undef)), .v 198 (.bool (cond (tb5) (!(tb4)) (false))), .p 199 (SA.emp) (fun _ vv AA => ∃ g1027 : Nat, vv = .slice (some ⟨g1027, 0, none⟩) 7 7 ∧ AA = SA.blk g1027 4 #[.bool (cond (tb0) (true) (cond (sl) (!(tb1)) (false))), .bool (!(oneOf m.fAPIVersion [⟨#[118, 49]⟩, ⟨#[118, 50]⟩])), .bool (!(hpB m.fVersion)), .bool pe, .bool tb2, .bool (cond (tb3) (false) (!(tb4))), .bool (cond (tb5) (!(tb4)) (false))]), .p 10 (SA.emp) (fun env vv AA => ∃ g1027x : Nat, (env.getD 7 undef) = .slice (some ⟨g1027x, 0, none⟩) 7 7 ∧ vv = .slice (some ⟨g1027x, 0, none⟩) 7 7 ∧ AA = SA.emp)] [] F648 rfl (by kernel_rfl) S490.emp.emp.emp ?_ ?_
            · refine ⟨?_, ?_, ?_, ?_, ?_, ?_, ?_, ?_, ?_, ?_, ?_, ?_, ?_, ?_, ?_, ?_, ?_, ?_, ?_, ?_, ?_, ?_, ?_, ?_, ?_, ?_, ?_, ?_, ?_, ?_, ?_, ?_, ?_, ?_, ?_, ?_, ?_, ?_, ?_, ?_, ?_, ?_, ?_, trivial⟩
              · intro w844 M844
                intro a844 F844 S844
                refine obl_of (by rfl) ?_
                exact s_p F844 (v := .pointer (some ⟨g1, 0, none⟩)) (by kernel_rfl) (by kernel_rfl) (by kernel_rfl) S844
              · intro w845 M845
                intro a845 F845 S845
                refine obl_of (by rfl) ?_
                exact s_r (v := .string m.fName) (r_ld rfl (F845.e (.pointer (some ⟨g1, 0, none⟩))) (v := .string m.fName) (((Sp.dropM S845.drop).bk 0 rfl).cell 0) Try.underlying9 rfl) S845
              · intro w847 M847
                intro a847 F847 S847
                refine obl_of (by rfl) ?_
                exact s_pb F847 (b := m.fName.toList == (⟨#[]⟩ : ByteArray).toList) htb0.symm (by kernel_rfl) (by kernel_rfl) (by kernel_rfl) S847
              · intro w849 M849
                intro a849 F849 S849
                refine obl_of (by rfl) ?_
                exact s_p F849 (v := .bool tb0) (by kernel_rfl) (by kernel_rfl) (by kernel_rfl) S849
              · intro w851 M851
                intro a851 F851 S851
                rcases btf (tb0) with hq853 | hq853
                · have F854 := F851.sb 161 (by kernel_rfl) hq853
                  exact obl_no (by rfl) (F854.wanted (q := false) (by kernel_rfl) (by intro t ht; injection ht with ht; subst ht; exact nble rfl)) ⟨(eqVt hq853 rfl), rfl⟩
                · have F855 := F851.sb 161 (by kernel_rfl) hq853
                  refine obl_yes (F855.wanted (q := true) (by kernel_rfl) (by intro t ht; injection ht with ht; subst ht; exact nble rfl)) ?_
                  exact sAt_mono (s_p F855 (v := .bool sl) (by kernel_rfl) (by kernel_rfl) (by kernel_rfl) S851) fun _ _ ⟨e1, e2⟩ => ⟨e1.trans (eqVf hq853 rfl), e2⟩
              · intro w856 M856
                intro a856 F856 S856
                rcases btf (tb0) with hq859 | hq859
                · have F860 := F856.sb 161 (by kernel_rfl) hq859
                  have F861 := F860.cvt 162 (b := tb0) (x := undef) (y := (Value.bool sl)) (by kernel_rfl) hq859
                  exact obl_no (by rfl) (F861.wanted (q := false) (by kernel_rfl) (by intro t ht; injection ht with ht; subst ht; exact nble rfl)) ⟨(eqVt hq859 rfl), rfl⟩
                · have F862 := F856.sb 161 (by kernel_rfl) hq859
                  have F863 := F862.cvf 162 (b := tb0) (x := undef) (y := (Value.bool sl)) (by kernel_rfl) hq859
                  refine obl_yes (F863.wanted (q := true) (by kernel_rfl) (by intro t ht; injection ht with ht; subst ht; exact nble rfl)) ?_
                  exact sAt_mono (s_p F863 (v := .bool sl) (by kernel_rfl) (by kernel_rfl) (by kernel_rfl) S856) fun _ _ ⟨e1, e2⟩ => ⟨e1.trans (eqVf hq859 rfl), e2⟩
              · intro w864 M864
                intro a864 F864 S864
                rcases btf (tb0) with hq866 | hq866
                · have F867 := F864.cvt 163 (b := tb0) (x := undef) (y := (Value.bool sl)) (by kernel_rfl) hq866
                  exact obl_no (by rfl) (F867.wanted (q := false) (by kernel_rfl) (by intro t ht; injection ht with ht; subst ht; exact nble rfl)) ⟨(eqVt hq866 rfl), rfl⟩
                · have F868 := F864.cvf 163 (b := tb0) (x := undef) (y := (Value.bool sl)) (by kernel_rfl) hq866
                  rcases btf (sl) with hq869 | hq869
                  · have F870 := F868.sb 163 (by kernel_rfl) hq869
                    refine obl_yes (F870.wanted (q := true) (by kernel_rfl) (by intro t ht; injection ht with ht; subst ht; exact nble rfl)) ?_
                    exact sAt_mono (s_p F870 (v := .pointer (some ⟨g1, 0, none⟩)) (by kernel_rfl) (by kernel_rfl) (by kernel_rfl) S864) fun _ _ ⟨e1, e2⟩ => ⟨e1.trans (eqVf hq866 (eqVt hq869 rfl)), e2⟩
                  · have F871 := F868.sb 163 (by kernel_rfl) hq869
                    exact obl_no (by rfl) (F871.wanted (q := false) (by kernel_rfl) (by intro t ht; injection ht with ht; subst ht; exact nble rfl)) ⟨(eqVf hq866 (eqVf hq869 rfl)), rfl⟩
              · intro w872 M872
                intro a872 F872 S872
                rcases btf (tb0) with hq875 | hq875
                · have F876 := F872.cvt 163 (b := tb0) (x := undef) (y := (Value.bool sl)) (by kernel_rfl) hq875
                  have F877 := F876.cvt 164 (b := tb0) (x := undef) (y := (cnd (sl) (Value.pointer (some ⟨g1, 0, none⟩)) (undef))) (by kernel_rfl) hq875
                  exact obl_no (by rfl) (F877.wanted (q := false) (by kernel_rfl) (by intro t ht; injection ht with ht; subst ht; exact nble rfl)) ⟨(eqVt hq875 rfl), rfl⟩
                · have F878 := F872.cvf 163 (b := tb0) (x := undef) (y := (Value.bool sl)) (by kernel_rfl) hq875
                  have F879 := F878.cvf 164 (b := tb0) (x := undef) (y := (cnd (sl) (Value.pointer (some ⟨g1, 0, none⟩)) (undef))) (by kernel_rfl) hq875
                  rcases btf (sl) with hq880 | hq880
                  · have F881 := F879.sb 163 (by kernel_rfl) hq880
                    have F882 := F881.cvt 164 (b := sl) (x := (Value.pointer (some ⟨g1, 0, none⟩))) (y := undef) (by kernel_rfl) hq880
                    refine obl_yes (F882.wanted (q := true) (by kernel_rfl) (by intro t ht; injection ht with ht; subst ht; exact nble rfl)) ?_
                    exact sAt_mono (s_r (v := .string m.fName) (r_ld rfl (F882.e (.pointer (some ⟨g1, 0, none⟩))) (v := .string m.fName) (((Sp.dropM S872.drop).bk 0 rfl).cell 0) Try.underlying9 rfl) S872) fun _ _ ⟨e1, e2⟩ => ⟨e1.trans (eqVf hq875 (eqVt hq880 rfl)), e2⟩
                  · have F883 := F879.sb 163 (by kernel_rfl) hq880
                    have F884 := F883.cvf 164 (b := sl) (x := (Value.pointer (some ⟨g1, 0, none⟩))) (y := undef) (by kernel_rfl) hq880
                    exact obl_no (by rfl) (F884.wanted (q := false) (by kernel_rfl) (by intro t ht; injection ht with ht; subst ht; exact nble rfl)) ⟨(eqVf hq875 (eqVf hq880 rfl)), rfl⟩
              · intro w885 M885
                intro a885 F885 S885
                rcases btf (tb0) with hq888 | hq888
                · have F889 := F885.cvt 163 (b := tb0) (x := undef) (y := (Value.bool sl)) (by kernel_rfl) hq888
                  have F890 := F889.cvt 165 (b := tb0) (x := undef) (y := (cnd (sl) (Value.string m.fName) (undef))) (by kernel_rfl) hq888
                  exact obl_no (by rfl) (F890.wanted (q := false) (by kernel_rfl) (by intro t ht; injection ht with ht; subst ht; exact nble rfl)) ⟨(eqVt hq888 rfl), rfl⟩
                · have F891 := F885.cvf 163 (b := tb0) (x := undef) (y := (Value.bool sl)) (by kernel_rfl) hq888
                  have F892 := F891.cvf 165 (b := tb0) (x := undef) (y := (cnd (sl) (Value.string m.fName) (undef))) (by kernel_rfl) hq888
                  rcases btf (sl) with hq893 | hq893
                  · have F894 := F892.sb 163 (by kernel_rfl) hq893
                    have F895 := F894.cvt 165 (b := sl) (x := (Value.string m.fName)) (y := undef) (by kernel_rfl) hq893
                    refine obl_yes (F895.wanted (q := true) (by kernel_rfl) (by intro t ht; injection ht with ht; subst ht; exact nble rfl)) ?_
                    exact sAt_mono (s_pb F895 (b := !(m.fName.toList == (⟨#[47]⟩ : ByteArray).toList)) (show (!(m.fName.toList == (⟨#[47]⟩ : ByteArray).toList)) = (!tb1) by rw [htb1.symm]) (by kernel_rfl) (by kernel_rfl) (by kernel_rfl) S885) fun _ _ ⟨e1, e2⟩ => ⟨e1.trans (eqVf hq888 (eqVt hq893 rfl)), e2⟩
                  · have F896 := F892.sb 163 (by kernel_rfl) hq893
                    have F897 := F896.cvf 165 (b := sl) (x := (Value.string m.fName)) (y := undef) (by kernel_rfl) hq893
                    exact obl_no (by rfl) (F897.wanted (q := false) (by kernel_rfl) (by intro t ht; injection ht with ht; subst ht; exact nble rfl)) ⟨(eqVf hq888 (eqVf hq893 rfl)), rfl⟩
              · intro w898 M898
                intro a898 F898 S898
                rcases btf (tb0) with hq902 | hq902
                · have F903 := F898.sb 161 (by kernel_rfl) hq902
                  have F904 := F903.cvt 163 (b := tb0) (x := undef) (y := (Value.bool sl)) (by kernel_rfl) hq902
                  have F905 := F904.cvt 166 (b := tb0) (x := undef) (y := (cnd (sl) (Value.bool (!(tb1))) (undef))) (by kernel_rfl) hq902
                  exact obl_no (by rfl) (F905.wanted (q := false) (by kernel_rfl) (by intro t ht; injection ht with ht; subst ht; exact nble rfl)) ⟨(eqVt hq902 rfl), rfl⟩
                · have F906 := F898.sb 161 (by kernel_rfl) hq902
                  have F907 := F906.cvf 163 (b := tb0) (x := undef) (y := (Value.bool sl)) (by kernel_rfl) hq902
                  have F908 := F907.cvf 166 (b := tb0) (x := undef) (y := (cnd (sl) (Value.bool (!(tb1))) (undef))) (by kernel_rfl) hq902
                  rcases btf (sl) with hq909 | hq909
                  · have F910 := F908.sb 163 (by kernel_rfl) hq909
                    have F911 := F910.cvt 166 (b := sl) (x := (Value.bool (!(tb1)))) (y := undef) (by kernel_rfl) hq909
                    refine obl_yes (F911.wanted (q := true) (by kernel_rfl) (by intro t ht; injection ht with ht; subst ht; exact nble rfl)) ?_
                    exact sAt_mono (s_p F911 (v := .bool (!(tb1))) (by kernel_rfl) (by kernel_rfl) (by kernel_rfl) S898) fun _ _ ⟨e1, e2⟩ => ⟨e1.trans (eqVf hq902 (eqBt hq909 rfl)), e2⟩
                  · have F912 := F908.sb 163 (by kernel_rfl) hq909
                    have F913 := F912.cvf 166 (b := sl) (x := (Value.bool (!(tb1)))) (y := undef) (by kernel_rfl) hq909
                    refine obl_yes (F913.wanted (q := true) (by kernel_rfl) (by intro t ht; injection ht with ht; subst ht; exact nble rfl)) ?_
                    exact sAt_mono (s_p F913 (v := .bool false) (by kernel_rfl) (by kernel_rfl) (by kernel_rfl) S898) fun _ _ ⟨e1, e2⟩ => ⟨e1.trans (eqVf hq902 (eqBf hq909 rfl)), e2⟩
              · intro w914 M914
                intro a914 F914 S914
                rcases btf (tb0) with hq917 | hq917
                · have F918 := F914.sb 161 (by kernel_rfl) hq917
                  have F919 := F918.cvt 167 (b := tb0) (x := undef) (y := (Value.bool (cond (sl) (!(tb1)) (false)))) (by kernel_rfl) hq917
                  refine obl_of (by rfl) ?_
                  exact sAt_mono (s_p F919 (v := .bool true) (by kernel_rfl) (by kernel_rfl) (by kernel_rfl) S914) fun _ _ ⟨e1, e2⟩ => ⟨e1.trans (eqBt hq917 rfl), e2⟩
                · have F920 := F914.sb 161 (by kernel_rfl) hq917
                  have F921 := F920.cvf 167 (b := tb0) (x := undef) (y := (Value.bool (cond (sl) (!(tb1)) (false)))) (by kernel_rfl) hq917
                  refine obl_of (by rfl) ?_
                  exact sAt_mono (s_p F921 (v := .bool (cond (sl) (!(tb1)) (false))) (by kernel_rfl) (by kernel_rfl) (by kernel_rfl) S914) fun _ _ ⟨e1, e2⟩ => ⟨e1.trans (eqBf hq917 rfl), e2⟩
              · intro w922 M922
                intro a922 F922 S922
                refine obl_of (by rfl) ?_
                exact s_p F922 (v := .pointer (some ⟨g1, 5, none⟩)) (by kernel_rfl) (by kernel_rfl) (by kernel_rfl) S922
              · intro w923 M923
                intro a923 F923 S923
                refine obl_of (by rfl) ?_
                exact s_r (v := .string m.fAPIVersion) (r_ld rfl (F923.e (.pointer (some ⟨g1, 5, none⟩))) (v := .string m.fAPIVersion) (((Sp.dropM S923.drop).bk 0 rfl).cell 5) Try.underlying9 rfl) S923
              · intro w925 M925
                intro a925 F925 S925
                refine obl_of (by rfl) ?_
                exact s_news F925 9 #[.string ⟨#[118, 49]⟩, .string ⟨#[118, 50]⟩] 2 (by kernel_rfl) (by kernel_rfl) (by kernel_rfl) S925.drop
              · intro w926 M926
                rintro _ _ ⟨g925, rfl, rfl⟩ hA928
                intro a926 F926 S926
                refine obl_of (by rfl) ?_
                refine s_c F926 (f := 41) (args := #[.string m.fAPIVersion, .slice (some ⟨g925, 0, none⟩) 2 2]) (by kernel_rfl) (by kernel_rfl) (by kernel_rfl) (oneOf2 m.fAPIVersion ⟨#[118, 49]⟩ ⟨#[118, 50]⟩ g925 _ (Sp.bkm (S926.drop) hA928)) ?_
                rintro _ _ ⟨rfl, rfl⟩
                exact ⟨_, _, rfl, ⟨rfl, rfl⟩, S926⟩
              · intro w930 M930
                intro a930 F930 S930
                refine obl_of (by rfl) ?_
                exact s_p F930 (v := .bool (!(oneOf m.fAPIVersion [⟨#[118, 49]⟩, ⟨#[118, 50]⟩]))) (by kernel_rfl) (by kernel_rfl) (by kernel_rfl) S930
              · intro w932 M932
                intro a932 F932 S932
                refine obl_of (by rfl) ?_
                exact s_p F932 (v := .pointer (some ⟨g1, 2, none⟩)) (by kernel_rfl) (by kernel_rfl) (by kernel_rfl) S932
              · intro w933 M933
                intro a933 F933 S933
                refine obl_of (by rfl) ?_
                exact s_r (v := .string m.fVersion) (r_ld rfl (F933.e (.pointer (some ⟨g1, 2, none⟩))) (v := .string m.fVersion) (((Sp.dropM S933.drop).bk 0 rfl).cell 2) Try.underlying9 rfl) S933
              · intro w935 M935
                intro a935 F935 S935
                refine obl_of (by rfl) ?_
                refine s_c F935 (f := 38) (args := #[.string m.fVersion]) (by kernel_rfl) (by kernel_rfl) (by kernel_rfl) (hlPlain_any m.fVersion _ _ _ _ S935.drop (by first | omega | (simp; done) | (simp; omega)) rfl) ?_
                rintro _ _ ⟨rfl, S937⟩
                exact ⟨_, _, rfl, ⟨rfl, rfl⟩, S937.emp⟩
              · intro w938 M938
                intro a938 F938 S938
                refine obl_of (by rfl) ?_
                exact s_p F938 (v := .bool (!(hpB m.fVersion))) (by kernel_rfl) (by kernel_rfl) (by kernel_rfl) S938
              · intro w940 M940
                intro a940 F940 S940
                refine obl_of (by rfl) ?_
                exact s_p F940 (v := .bool pe) (by kernel_rfl) (by kernel_rfl) (by kernel_rfl) S940
              · intro w941 M941
                intro a941 F941 S941
                refine obl_of (by rfl) ?_
                exact s_p F941 (v := .pointer (some ⟨g1, 4, none⟩)) (by kernel_rfl) (by kernel_rfl) (by kernel_rfl) S941
              · intro w942 M942
                intro a942 F942 S942
                refine obl_of (by rfl) ?_
                exact s_r (v := .string m.fIcon) (r_ld rfl (F942.e (.pointer (some ⟨g1, 4, none⟩))) (v := .string m.fIcon) (((Sp.dropM S942.drop).bk 0 rfl).cell 4) Try.underlying9 rfl) S942
              · intro w944 M944
                intro a944 F944 S944
                refine obl_of (by rfl) ?_
                exact s_pb F944 (b := m.fIcon.toList == (⟨#[]⟩ : ByteArray).toList) htb2.symm (by kernel_rfl) (by kernel_rfl) (by kernel_rfl) S944
              · intro w946 M946
                intro a946 F946 S946
                refine obl_of (by rfl) ?_
                exact s_p F946 (v := .pointer (some ⟨g1, 10, none⟩)) (by kernel_rfl) (by kernel_rfl) (by kernel_rfl) S946
              · intro w947 M947
                intro a947 F947 S947
                refine obl_of (by rfl) ?_
                exact s_r (v := .string m.fType) (r_ld rfl (F947.e (.pointer (some ⟨g1, 10, none⟩))) (v := .string m.fType) (((Sp.dropM S947.drop).bk 0 rfl).cell 10) Try.underlying9 rfl) S947
              · intro w949 M949
                intro a949 F949 S949
                refine obl_of (by rfl) ?_
                exact s_pb F949 (b := !(m.fType.toList == (⟨#[]⟩ : ByteArray).toList)) (show (!(m.fType.toList == (⟨#[]⟩ : ByteArray).toList)) = (!tb3) by rw [htb3.symm]) (by kernel_rfl) (by kernel_rfl) (by kernel_rfl) S949
              · intro w951 M951
                intro a951 F951 S951
                refine obl_of (by rfl) ?_
                exact s_p F951 (v := .bool (!(tb3))) (by kernel_rfl) (by kernel_rfl) (by kernel_rfl) S951
              · intro w953 M953
                intro a953 F953 S953
                rcases btf (tb3) with hq955 | hq955
                · have F956 := F953.sb 185 (by kernel_rfl) (show (!(tb3)) = false by rw [hq955]; rfl)
                  exact obl_no (by rfl) (F956.wanted (q := false) (by kernel_rfl) (by intro t ht; injection ht with ht; subst ht; exact nble rfl)) ⟨(eqVt hq955 rfl), rfl⟩
                · have F957 := F953.sb 185 (by kernel_rfl) (show (!(tb3)) = true by rw [hq955]; rfl)
                  refine obl_yes (F957.wanted (q := true) (by kernel_rfl) (by intro t ht; injection ht with ht; subst ht; exact nble rfl)) ?_
                  exact sAt_mono (s_p F957 (v := .pointer (some ⟨g1, 5, none⟩)) (by kernel_rfl) (by kernel_rfl) (by kernel_rfl) S953) fun _ _ ⟨e1, e2⟩ => ⟨e1.trans (eqVf hq955 rfl), e2⟩
              · intro w958 M958
                intro a958 F958 S958
                rcases btf (tb3) with hq961 | hq961
                · have F962 := F958.sb 185 (by kernel_rfl) (show (!(tb3)) = false by rw [hq961]; rfl)
                  have F963 := F962.cvt 186 (b := tb3) (x := undef) (y := (Value.pointer (some ⟨g1, 5, none⟩))) (by kernel_rfl) hq961
                  exact obl_no (by rfl) (F963.wanted (q := false) (by kernel_rfl) (by intro t ht; injection ht with ht; subst ht; exact nble rfl)) ⟨(eqVt hq961 rfl), rfl⟩
                · have F964 := F958.sb 185 (by kernel_rfl) (show (!(tb3)) = true by rw [hq961]; rfl)
                  have F965 := F964.cvf 186 (b := tb3) (x := undef) (y := (Value.pointer (some ⟨g1, 5, none⟩))) (by kernel_rfl) hq961
                  refine obl_yes (F965.wanted (q := true) (by kernel_rfl) (by intro t ht; injection ht with ht; subst ht; exact nble rfl)) ?_
                  exact sAt_mono (s_r (v := .string m.fAPIVersion) (r_ld rfl (F965.e (.pointer (some ⟨g1, 5, none⟩))) (v := .string m.fAPIVersion) (((Sp.dropM S958.drop).bk 0 rfl).cell 5) Try.underlying9 rfl) S958) fun _ _ ⟨e1, e2⟩ => ⟨e1.trans (eqVf hq961 rfl), e2⟩
              · intro w966 M966
                intro a966 F966 S966
                rcases btf (tb3) with hq969 | hq969
                · have F970 := F966.sb 185 (by kernel_rfl) (show (!(tb3)) = false by rw [hq969]; rfl)
                  have F971 := F970.cvt 187 (b := tb3) (x := undef) (y := (Value.string m.fAPIVersion)) (by kernel_rfl) hq969
                  exact obl_no (by rfl) (F971.wanted (q := false) (by kernel_rfl) (by intro t ht; injection ht with ht; subst ht; exact nble rfl)) ⟨(eqVt hq969 rfl), rfl⟩
                · have F972 := F966.sb 185 (by kernel_rfl) (show (!(tb3)) = true by rw [hq969]; rfl)
                  have F973 := F972.cvf 187 (b := tb3) (x := undef) (y := (Value.string m.fAPIVersion)) (by kernel_rfl) hq969
                  refine obl_yes (F973.wanted (q := true) (by kernel_rfl) (by intro t ht; injection ht with ht; subst ht; exact nble rfl)) ?_
                  exact sAt_mono (s_pb F973 (b := !(m.fAPIVersion.toList == (⟨#[118, 50]⟩ : ByteArray).toList)) (show (!(m.fAPIVersion.toList == (⟨#[118, 50]⟩ : ByteArray).toList)) = (!tb4) by rw [htb4.symm]) (by kernel_rfl) (by kernel_rfl) (by kernel_rfl) S966) fun _ _ ⟨e1, e2⟩ => ⟨e1.trans (eqVf hq969 rfl), e2⟩
              · intro w974 M974
                intro a974 F974 S974
                rcases btf (tb3) with hq977 | hq977
                · have F978 := F974.sb 185 (by kernel_rfl) (show (!(tb3)) = false by rw [hq977]; rfl)
                  have F979 := F978.cvt 188 (b := tb3) (x := undef) (y := (Value.bool (!(tb4)))) (by kernel_rfl) hq977
                  refine obl_of (by rfl) ?_
                  exact sAt_mono (s_p F979 (v := .bool false) (by kernel_rfl) (by kernel_rfl) (by kernel_rfl) S974) fun _ _ ⟨e1, e2⟩ => ⟨e1.trans (eqBt hq977 rfl), e2⟩
                · have F980 := F974.sb 185 (by kernel_rfl) (show (!(tb3)) = true by rw [hq977]; rfl)
                  have F981 := F980.cvf 188 (b := tb3) (x := undef) (y := (Value.bool (!(tb4)))) (by kernel_rfl) hq977
                  refine obl_of (by rfl) ?_
                  exact sAt_mono (s_p F981 (v := .bool (!(tb4))) (by kernel_rfl) (by kernel_rfl) (by kernel_rfl) S974) fun _ _ ⟨e1, e2⟩ => ⟨e1.trans (eqBf hq977 rfl), e2⟩
              · intro w982 M982
                intro a982 F982 S982
                refine obl_of (by rfl) ?_
                exact s_p F982 (v := .pointer (some ⟨g1, 14, none⟩)) (by kernel_rfl) (by kernel_rfl) (by kernel_rfl) S982
              · intro w983 M983
                intro a983 F983 S983
                refine obl_of (by rfl) ?_
                exact s_r (v := .slice (m.fDependencies_a) (m.fDependencies.length) (m.fDependencies_c)) (r_ld rfl (F983.e (.pointer (some ⟨g1, 14, none⟩))) (v := .slice (m.fDependencies_a) (m.fDependencies.length) (m.fDependencies_c)) (((Sp.dropM S983.drop).bk 0 rfl).cell 14) Try.underlying24 rfl) S983
              · intro w985 M985
                intro a985 F985 S985
                refine obl_of (by rfl) ?_
                exact s_p F985 (v := .int .i64 (↑m.fDependencies.length)) (by kernel_rfl) (by kernel_rfl) (by kernel_rfl) S985
              · intro w987 M987
                intro a987 F987 S987
                refine obl_of (by rfl) ?_
                exact s_pb F987 (b := decide ((0 : Int) < ↑m.fDependencies.length)) htb5.symm (by kernel_rfl) (by kernel_rfl) (by kernel_rfl) S987
              · intro w989 M989
                intro a989 F989 S989
                refine obl_of (by rfl) ?_
                exact s_p F989 (v := .bool tb5) (by kernel_rfl) (by kernel_rfl) (by kernel_rfl) S989
              · intro w991 M991
                intro a991 F991 S991
                rcases btf (tb5) with hq993 | hq993
                · have F994 := F991.sb 194 (by kernel_rfl) hq993
                  refine obl_yes (F994.wanted (q := true) (by kernel_rfl) (by intro t ht; injection ht with ht; subst ht; exact nble rfl)) ?_
                  exact sAt_mono (s_p F994 (v := .pointer (some ⟨g1, 5, none⟩)) (by kernel_rfl) (by kernel_rfl) (by kernel_rfl) S991) fun _ _ ⟨e1, e2⟩ => ⟨e1.trans (eqVt hq993 rfl), e2⟩
                · have F995 := F991.sb 194 (by kernel_rfl) hq993
                  exact obl_no (by rfl) (F995.wanted (q := false) (by kernel_rfl) (by intro t ht; injection ht with ht; subst ht; exact nble rfl)) ⟨(eqVf hq993 rfl), rfl⟩
              · intro w996 M996
                intro a996 F996 S996
                rcases btf (tb5) with hq999 | hq999
                · have F1000 := F996.sb 194 (by kernel_rfl) hq999
                  have F1001 := F1000.cvt 195 (b := tb5) (x := (Value.pointer (some ⟨g1, 5, none⟩))) (y := undef) (by kernel_rfl) hq999
                  refine obl_yes (F1001.wanted (q := true) (by kernel_rfl) (by intro t ht; injection ht with ht; subst ht; exact nble rfl)) ?_
                  exact sAt_mono (s_r (v := .string m.fAPIVersion) (r_ld rfl (F1001.e (.pointer (some ⟨g1, 5, none⟩))) (v := .string m.fAPIVersion) (((Sp.dropM S996.drop).bk 0 rfl).cell 5) Try.underlying9 rfl) S996) fun _ _ ⟨e1, e2⟩ => ⟨e1.trans (eqVt hq999 rfl), e2⟩
                · have F1002 := F996.sb 194 (by kernel_rfl) hq999
                  have F1003 := F1002.cvf 195 (b := tb5) (x := (Value.pointer (some ⟨g1, 5, none⟩))) (y := undef) (by kernel_rfl) hq999
                  exact obl_no (by rfl) (F1003.wanted (q := false) (by kernel_rfl) (by intro t ht; injection ht with ht; subst ht; exact nble rfl)) ⟨(eqVf hq999 rfl), rfl⟩
              · intro w1004 M1004
                intro a1004 F1004 S1004
                rcases btf (tb5) with hq1007 | hq1007
                · have F1008 := F1004.sb 194 (by kernel_rfl) hq1007
                  have F1009 := F1008.cvt 196 (b := tb5) (x := (Value.string m.fAPIVersion)) (y := undef) (by kernel_rfl) hq1007
                  refine obl_yes (F1009.wanted (q := true) (by kernel_rfl) (by intro t ht; injection ht with ht; subst ht; exact nble rfl)) ?_
                  exact sAt_mono (s_pb F1009 (b := !(m.fAPIVersion.toList == (⟨#[118, 50]⟩ : ByteArray).toList)) (show (!(m.fAPIVersion.toList == (⟨#[118, 50]⟩ : ByteArray).toList)) = (!tb4) by rw [htb4.symm]) (by kernel_rfl) (by kernel_rfl) (by kernel_rfl) S1004) fun _ _ ⟨e1, e2⟩ => ⟨e1.trans (eqVt hq1007 rfl), e2⟩
                · have F1010 := F1004.sb 194 (by kernel_rfl) hq1007
                  have F1011 := F1010.cvf 196 (b := tb5) (x := (Value.string m.fAPIVersion)) (y := undef) (by kernel_rfl) hq1007
                  exact obl_no (by rfl) (F1011.wanted (q := false) (by kernel_rfl) (by intro t ht; injection ht with ht; subst ht; exact nble rfl)) ⟨(eqVf hq1007 rfl), rfl⟩
              · intro w1012 M1012
                intro a1012 F1012 S1012
                rcases btf (tb5) with hq1015 | hq1015
                · have F1016 := F1012.sb 194 (by kernel_rfl) hq1015
                  have F1017 := F1016.cvt 197 (b := tb5) (x := (Value.bool (!(tb4)))) (y := undef) (by kernel_rfl) hq1015
                  refine obl_of (by rfl) ?_
                  exact sAt_mono (s_p F1017 (v := .bool (!(tb4))) (by kernel_rfl) (by kernel_rfl) (by kernel_rfl) S1012) fun _ _ ⟨e1, e2⟩ => ⟨e1.trans (eqBt hq1015 rfl), e2⟩
                · have F1018 := F1012.sb 194 (by kernel_rfl) hq1015
                  have F1019 := F1018.cvf 197 (b := tb5) (x := (Value.bool (!(tb4)))) (y := undef) (by kernel_rfl) hq1015
                  refine obl_of (by rfl) ?_
                  exact sAt_mono (s_p F1019 (v := .bool false) (by kernel_rfl) (by kernel_rfl) (by kernel_rfl) S1012) fun _ _ ⟨e1, e2⟩ => ⟨e1.trans (eqBf hq1015 rfl), e2⟩
              · intro w1020 M1020
                intro a1020 F1020 S1020
                refine obl_of (by rfl) ?_
                exact s_news F1020 4 #[.bool (cond (tb0) (true) (cond (sl) (!(tb1)) (false))), .bool (!(oneOf m.fAPIVersion [⟨#[118, 49]⟩, ⟨#[118, 50]⟩])), .bool (!(hpB m.fVersion)), .bool pe, .bool tb2, .bool (cond (tb3) (false) (!(tb4))), .bool (cond (tb5) (!(tb4)) (false))] 7 (by kernel_rfl) (by kernel_rfl) (by kernel_rfl) S1020.drop
              · intro w1028 M1028
                rintro _ _ ⟨g1027, rfl, rfl⟩ hA1036
                intro a1028 F1028 S1028
                refine obl_of (by rfl) ?_
                exact sAt_mono (s_p F1028 (v := .slice (some ⟨g1027, 0, none⟩) 7 7) (by kernel_rfl) (by kernel_rfl) (by kernel_rfl) S1028) fun _ _ ⟨e1, e2⟩ => ⟨g1027, (by kernel_rfl), e1, e2⟩
            · rintro _ _ ⟨g925, rfl, rfl⟩
              rintro _ _ ⟨g1027, rfl, rfl⟩
              rintro _ _ ⟨g1027x, e42_7, rfl, rfl⟩
              have e42_7 := envE_at (v := .slice (some ⟨g1027, 0, none⟩) 7 7) e42_7 (by kernel_rfl)
              obtain rfl : g1027 = g1027x := by cases e42_7; rfl
              clear e42_7
              intro a1038 w1037 F1038 S1037
              have S1039 : Sp R w1037 (SA.blk g1027 4 #[.bool (cond (tb0) (true) (cond (sl) (!(tb1)) (false))), .bool (!(oneOf m.fAPIVersion [⟨#[118, 49]⟩, ⟨#[118, 50]⟩])), .bool (!(hpB m.fVersion)), .bool pe, .bool tb2, .bool (cond (tb3) (false) (!(tb4))), .bool (cond (tb5) (!(tb4)) (false))] :: SA.blk g925 9 #[.string ⟨#[118, 49]⟩, .string ⟨#[118, 50]⟩] :: SA.blk g1 26 #[.string m.fName, .string m.fHome, .string m.fVersion, .string m.fDescription, .string m.fIcon, .string m.fAPIVersion, .string m.fCondition, .string m.fTags, .string m.fAppVersion, .string m.fKubeVersion, .string m.fType, .slice (m.fSources_a) (m.fSources.length) (m.fSources_c), .slice (m.fKeywords_a) (m.fKeywords.length) (m.fKeywords_c), .slice (m.fMaintainers_a) (m.fMaintainers.length) (m.fMaintainers_c), .slice (m.fDependencies_a) (m.fDependencies.length) (m.fDependencies_c)] :: L) := S1037.drop
              refine wpList_nil ?_
              refine hK650 _ _ ?_; clear hK650 K650
              refine wp_seq_k fun K1040 hK1040 => ?_
              refine wp_region_lit ?_
              refine op_rq (v := .agg #[.string m.fName, .string m.fHome, .string m.fVersion, .string m.fDescription, .string m.fIcon, .string m.fAPIVersion, .string m.fCondition, .string m.fTags, .string m.fAppVersion, .string m.fKubeVersion, .string m.fType, .slice (m.fSources_a) (m.fSources.length) (m.fSources_c), .slice (m.fKeywords_a) (m.fKeywords.length) (m.fKeywords_c), .slice (m.fMaintainers_a) (m.fMaintainers.length) (m.fMaintainers_c), .slice (m.fDependencies_a) (m.fDependencies.length) (m.fDependencies_c)]) F1038 (r_ldm rfl (F1038.e (.pointer (some ⟨g1, 0, none⟩))) (S1039.bk 2 rfl) 15 (by kernel_rfl) Try.underlying26 rfl (by kernel_rfl) (v := #[.string m.fName, .string m.fHome, .string m.fVersion, .string m.fDescription, .string m.fIcon, .string m.fAPIVersion, .string m.fCondition, .string m.fTags, .string m.fAppVersion, .string m.fKubeVersion, .string m.fType, .slice (m.fSources_a) (m.fSources.length) (m.fSources_c), .slice (m.fKeywords_a) (m.fKeywords.length) (m.fKeywords_c), .slice (m.fMaintainers_a) (m.fMaintainers.length) (m.fMaintainers_c), .slice (m.fDependencies_a) (m.fDependencies.length) (m.fDependencies_c)]) (by kernel_rfl)) ?_; intro a1041 F1041
              refine op_cq F1041 (f := 42) (args := #[.agg #[.string m.fName, .string m.fHome, .string m.fVersion, .string m.fDescription, .string m.fIcon, .string m.fAPIVersion, .string m.fCondition, .string m.fTags, .string m.fAppVersion, .string m.fKubeVersion, .string m.fType, .slice (m.fSources_a) (m.fSources.length) (m.fSources_c), .slice (m.fKeywords_a) (m.fKeywords.length) (m.fKeywords_c), .slice (m.fMaintainers_a) (m.fMaintainers.length) (m.fMaintainers_c), .slice (m.fDependencies_a) (m.fDependencies.length) (m.fDependencies_c)]]) (lintChart_sp m _ _ _ S1039 (fun w S => h0 w S.drop.drop.drop) (fun w S => h1 w S.drop.drop.drop) (fun w S => h2 w S.drop.drop.drop) (fun w S => h3 w S.drop.drop.drop) (fun w S => h4 w S.drop.drop.drop) (by first | omega | (simp; done) | (simp; omega)) (by first | omega | (simp; done) | (simp; omega)) (by first | omega | (simp; done) | (simp; omega)) (by first | omega | (simp; done) | (simp; omega)) (by first | omega | (simp; done) | (simp; omega)) (by with_reducible assumption) (by first | omega | (simp; done) | (simp; omega)) (by first | omega | (simp; done) | (simp; omega)) hv hpe) ?_
              rintro _ w1042 ⟨Ab1042, cb1042, bs1042, rfl, S1042, hp0_1042⟩
              refine ⟨_, rfl, ?_⟩
              intro a1043 F1043
              refine op_q F1043 (.tuple #[.slice Ab1042 bs1042.length cb1042, .int .i64 0]) ?_; intro a1044 F1044
              refine op_q F1044 (.slice Ab1042 bs1042.length cb1042) ?_; intro a1045 F1045
              refine op_q F1045 (.int .i64 0) ?_; intro a1046 F1046
              refine op_q F1046 (.slice Ab1042 bs1042.length cb1042) ?_; intro a1047 F1047
              refine op_q F1047 (.int .i64 0) ?_; intro a1048 F1048
              refine wpList_nil ?_
              refine hK1040 _ _ ?_; clear hK1040 K1040
              refine wp_seq_k fun K1049 hK1049 => ?_
              refine wp_seq_k fun K1050 hK1050 => ?_
              refine wp_region_lit ?_
              refine op_q F1048 (.int .i64 0) ?_; intro a1051 F1051
              refine op_q F1051 (.bool false) ?_; intro a1052 F1052
              refine op_q F1052 (.bool false) ?_; intro a1053 F1053
              refine op_wq F1053 ?_
              refine op_q F1053 (.slice Ab1042 bs1042.length cb1042) ?_; intro a1054 F1054
              refine op_wq F1054 ?_
              refine op_q F1054 (.int .i64 (↑bs1042.length)) ?_; intro a1055 F1055
              refine op_wq F1055 ?_
              refine op_q F1055 (.slice (some ⟨g1027, 0, none⟩) 7 7) ?_; intro a1056 F1056
              refine op_wq F1056 ?_
              refine op_q F1056 (.int .i64 7) ?_; intro a1057 F1057
              refine op_wq F1057 ?_
              refine op_q F1057 (.bool (!((↑bs1042.length : Int) == 7))) ?_; intro a1058 F1058
              refine op_q F1058 (.bool (!((↑bs1042.length : Int) == 7))) ?_; intro a1059 F1059
              refine wpList_nil ?_
              refine hK1050 _ _ ?_; clear hK1050 K1050
              have hc1060 : ((↑bs1042.length : Int) == 7) = true := (by rw [hp0_1042]; rfl)
              have F1061 := F1059.sb 212 (by kernel_rfl) (show (!((↑bs1042.length : Int) == 7)) = false by rw [hc1060]; rfl)
              have F1062 := F1061.sb 213 (by kernel_rfl) (show (!((↑bs1042.length : Int) == 7)) = false by rw [hc1060]; rfl)
              refine wp_cond_false (F1062.ev (by kernel_rfl)) ?_
              refine wp_skip ?_
              refine hK1049 _ _ ?_; clear hK1049 K1049
              refine wp_seq_k fun K1063 hK1063 => ?_
              refine wp_seq_k fun K1064 hK1064 => ?_
              refine wp_region_lit ?_
              refine op_q F1062 (.slice (some ⟨g1027, 0, none⟩) 7 7) ?_; intro a1065 F1065
              refine op_q F1065 (.int .i64 7) ?_; intro a1066 F1066
              refine op_q F1066 (.int .i64 0) ?_; intro a1067 F1067
              refine wpList_nil ?_
              refine hK1064 _ _ ?_; clear hK1064 K1064
              refine wp_block ?_
              obtain ⟨wl, hwl⟩ : ∃ wl : List Bool, wl = [cond (tb0) (true) (cond (sl) (!(tb1)) (false)), !(oneOf m.fAPIVersion [⟨#[118, 49]⟩, ⟨#[118, 50]⟩]), !(hpB m.fVersion), pe, tb2, cond (tb3) (false) (!(tb4)), cond (tb5) (!(tb4)) (false)] := ⟨_, rfl⟩
              have hwl7 : wl.length = 7 := by rw [hwl]; rfl
              have S1068 : Sp R w1042 (SA.own (.slice (some ⟨g1027, 0, none⟩) wl.length 7) 4 1 wl.length (bools wl) :: SA.own (.slice Ab1042 bs1042.length cb1042) 4 1 bs1042.length (bools bs1042) :: SA.blk g925 9 #[.string ⟨#[118, 49]⟩, .string ⟨#[118, 50]⟩] :: SA.blk g1 26 #[.string m.fName, .string m.fHome, .string m.fVersion, .string m.fDescription, .string m.fIcon, .string m.fAPIVersion, .string m.fCondition, .string m.fTags, .string m.fAppVersion, .string m.fKubeVersion, .string m.fType, .slice (m.fSources_a) (m.fSources.length) (m.fSources_c), .slice (m.fKeywords_a) (m.fKeywords.length) (m.fKeywords_c), .slice (m.fMaintainers_a) (m.fMaintainers.length) (m.fMaintainers_c), .slice (m.fDependencies_a) (m.fDependencies.length) (m.fDependencies_c)] :: L) := by rw [hwl]; exact Sp.ofblk (sz := 1) (m := 7) S1042.p1 rfl (by omega) rfl
              have hw : bs1042 = wl := by rw [hp0_1042, hwl, e_name, e_api, e_type, e_dep, ← hsle, ← hhp, ← hpee, ← htb0, ← htb1, ← htb2, ← htb3, ← htb4, ← htb5]
              have hbl7 : bs1042.length = 7 := by rw [hw]; exact hwl7
              refine fw_loop (fun m' a' w' => ∃ i : Nat, 7 - i = m' ∧ Fr 228 [] a' [(10, .slice (some ⟨g1027, 0, none⟩) 7 7), (11, .slice Ab1042 bs1042.length cb1042), (214, .slice (some ⟨g1027, 0, none⟩) 7 7), (215, .int .i64 7), (216, .int .i64 (↑i))] ∧ Sp R w' (SA.own (.slice (some ⟨g1027, 0, none⟩) wl.length 7) 4 1 wl.length (bools wl) :: SA.own (.slice Ab1042 bs1042.length cb1042) 4 1 bs1042.length (bools bs1042) :: SA.blk g925 9 #[.string ⟨#[118, 49]⟩, .string ⟨#[118, 50]⟩] :: SA.blk g1 26 #[.string m.fName, .string m.fHome, .string m.fVersion, .string m.fDescription, .string m.fIcon, .string m.fAPIVersion, .string m.fCondition, .string m.fTags, .string m.fAppVersion, .string m.fKubeVersion, .string m.fType, .slice (m.fSources_a) (m.fSources.length) (m.fSources_c), .slice (m.fKeywords_a) (m.fKeywords.length) (m.fKeywords_c), .slice (m.fMaintainers_a) (m.fMaintainers.length) (m.fMaintainers_c), .slice (m.fDependencies_a) (m.fDependencies.length) (m.fDependencies_c)] :: L) ∧ (i ≤ 7)) _ ⟨0, rfl, (F1067.kk 10 (F1067.kk 11 (F1067.kk 214 (F1067.kk 215 (F1067.kk 216 F1067.nil))))), S1068.p3.p3.p3.p3, (by first | omega | (with_reducible assumption) | (simp; done))⟩ ?_
              rintro m1069 a1069 w1069 ⟨i, hm1069, F1069, S1069, hi⟩ K1069 hK1069
              by_cases hlt_i : i < 7
              · have hc_i : decide ((↑i : Int) < 7) = true := by first | (simp; done) | (simp; omega)
                obtain ⟨ad1070, hA1070⟩ := (own_sl1 (S1069.ow 1 rfl) (by first | omega | (simp; omega))).addr (by simp [bools]; omega)
                refine wp_seq_k fun K1071 hK1071 => ?_
                refine wp_region_lit ?_
                refine op_q F1069 (.bool (decide ((↑i : Int) < 7))) ?_; intro a1072 F1072
                have F1073 := F1072.sb 217 (by kernel_rfl) hc_i
                refine wpList_nil ?_
                refine hK1071 _ _ ?_; clear hK1071 K1071
                refine wp_seq_k fun K1074 hK1074 => ?_
                refine wp_cond_true (F1073.ev (by kernel_rfl)) ?_
                refine wp_skip ?_
                refine hK1074 _ _ ?_; clear hK1074 K1074
                refine wp_seq_k fun K1075 hK1075 => ?_
                refine wp_block ?_
                refine wp_seq_k fun K1076 hK1076 => ?_
                refine wp_region_lit ?_
                refine op_q F1073 (.int .i64 (↑i)) ?_; intro a1077 F1077
                refine op_rq (v := .pointer (some ⟨g1027, i, none⟩)) F1077 (r_ix rfl Try.underlying82 1 (by kernel_rfl) (F1077.e (.slice (some ⟨g1027, 0, none⟩) 7 7)) rfl (F1077.e (.int .i64 (↑i))) i (by first | rfl | omega | simp) (by first | omega | (simp; done) | (simp; omega)) (by simp only [add_blk, Nat.mul_one])) ?_; intro a1078 F1078
                refine op_rq (v := .bool wl[i]) F1078 (r_ld rfl (F1078.e (.pointer (some ⟨g1027, i, none⟩))) (v := .bool wl[i]) ((own_sl1 (S1069.ow 0 rfl) (by first | omega | (simp; omega))).elz (j := i) (by simp [bools, List.getElem?_eq_getElem (show i < wl.length by omega)])) Try.underlying4 rfl) ?_; intro a1079 F1079
                refine op_q F1079 (.int .i64 (↑i)) ?_; intro a1080 F1080
                refine op_q F1080 (.bool wl[i]) ?_; intro a1081 F1081
                refine wpList_nil ?_
                refine hK1076 _ _ ?_; clear hK1076 K1076
                refine wp_seq_k fun K1082 hK1082 => ?_
                refine wp_region_lit ?_
                refine op_q F1081 (.slice Ab1042 bs1042.length cb1042) ?_; intro a1083 F1083
                refine op_q F1083 (.int .i64 (↑i)) ?_; intro a1084 F1084
                refine op_rq (v := .pointer (some (ad1070.add i))) F1084 (r_ix rfl Try.underlying82 1 (by kernel_rfl) (F1084.e (.slice Ab1042 bs1042.length cb1042)) hA1070 (F1084.e (.int .i64 (↑i))) i (by first | rfl | omega | simp) (by first | omega | (simp; done) | (simp; omega)) (by simp only [Nat.mul_one])) ?_; intro a1085 F1085
                refine op_rq (v := .bool bs1042[i]) F1085 (r_ld rfl (F1085.e (.pointer (some (ad1070.add i)))) (v := .bool bs1042[i]) ((own_sl1 (S1069.ow 1 rfl) (by first | omega | (simp; omega))).elA hA1070 (j := i) (by simp [bools, List.getElem?_eq_getElem (show i < bs1042.length by omega)])) Try.underlying4 rfl) ?_; intro a1086 F1086
                refine op_q F1086 (.bool wl[i]) ?_; intro a1087 F1087
                refine op_q F1087 (.bool (!(bs1042[i] == wl[i]))) ?_; intro a1088 F1088
                refine wpList_nil ?_
                refine hK1082 _ _ ?_; clear hK1082 K1082
                have hc1089 : (bs1042[i] == wl[i]) = true := (beq_iff_eq.2 (List.getElem_of_eq hw _))
                have F1090 := F1088.sb 226 (by kernel_rfl) (show (!(bs1042[i] == wl[i])) = false by rw [hc1089]; rfl)
                refine wp_cond_false (F1090.ev (by kernel_rfl)) ?_
                refine wp_skip ?_
                refine hK1075 _ _ ?_; clear hK1075 K1075
                refine wp_region_lit ?_
                refine op_rq (v := .int .i64 (↑(i + 1))) F1090 (r_add (z := ↑(i + 1)) rfl (F1090.e (.int .i64 (↑i))) (F1090.e (.int .i64 1)) (wr64 (by omega) (by omega) (by omega))) ?_; intro a1091 F1091
                refine op_q F1091 (.int .i64 (↑(i + 1))) ?_; intro a1092 F1092
                refine wpList_nil ?_
                exact hK1069 _ _ _ (by first | omega | (simp; omega)) ⟨i + 1, rfl, (F1092.kk 10 (F1092.kk 11 (F1092.kk 214 (F1092.kk 215 (F1092.kk 216 F1092.nil))))), S1069.p3.p3.p3.p3, (by first | omega | (with_reducible assumption) | (simp; done))⟩
              · have hc_i : decide ((↑i : Int) < 7) = false := by first | (simp; done) | (simp; omega)
                refine wp_seq_k fun K1093 hK1093 => ?_
                refine wp_region_lit ?_
                refine op_q F1069 (.bool (decide ((↑i : Int) < 7))) ?_; intro a1094 F1094
                have F1095 := F1094.sb 217 (by kernel_rfl) hc_i
                refine wpList_nil ?_
                refine hK1093 _ _ ?_; clear hK1093 K1093
                refine wp_seq_k fun K1096 hK1096 => ?_
                refine wp_cond_false (F1095.ev (by kernel_rfl)) ?_
                refine wp_exit ?_
                refine ex_then ?_; clear hK1096 K1096
                refine ex_then ?_
                refine ex_in ?_
                refine hK1063 _ _ ?_; clear hK1063 K1063
                refine wp_seq_k fun K1097 hK1097 => ?_
                refine wp_region_lit ?_
                refine op_q F1095 (.bool true) ?_; intro a1098 F1098
                refine wpList_nil ?_
                refine hK1097 _ _ ?_; clear hK1097 K1097
                refine wp_ret ?_
                refine (F1098.res1 rfl (v := .bool true) (by kernel_rfl) ?_).1
                exact ⟨rfl, S1069.drop.drop.drop.drop⟩
  · have F1099 := F10.sb 16 (by kernel_rfl) hc11
    have F1100 := F1099.sb 17 (by kernel_rfl) (show (!(fits37 m)) = true by rw [hc11]; rfl)
    refine wp_cond_true (F1100.ev (by kernel_rfl)) ?_
    refine wp_seq_k fun K1101 hK1101 => ?_
    refine wp_region_lit ?_
    refine op_q F1100 (.bool true) ?_; intro a1102 F1102
    refine wpList_nil ?_
    refine hK1101 _ _ ?_; clear hK1101 K1101
    refine wp_ret ?_
    refine ret_then ?_
    refine (F1102.res1 rfl (v := .bool true) (by kernel_rfl) ?_).1
    exact ⟨rfl, S8.drop⟩
theorem fnHlLintChart_walk (m : Ty26) (w : World) (u : m.ok w) : Calls Try.prog 8 #[.agg m.cells.toArray] w fun e w' => e = .returned (.bool true) ∧ Below w.heap.size w w' := by
  exact (lintLaw_sp m _ [] w (Sp.start w) (Rf.of fun _ hb => (Ty26.ok_sSources u).below hb) (Rf.of fun _ hb => (Ty26.ok_sKeywords u).below hb) (Rf.of fun _ hb => (Ty26.ok_rMaintainers u).below hb) (Rf.of fun _ hb => (Ty26.ok_rDependencies u).below hb) (Rf.of fun _ hb d hd => (Ty80.ok_sTags (Ty26.ok_oDependencies u d hd)).below hb) (Rf.of fun _ hb => Ty26.ok.below u hb)).mono fun _ _ ⟨he, hS⟩ => ⟨he, Sp.below_of hS⟩
end Go.Proofs.Ytkjcedlgljeoiaa

