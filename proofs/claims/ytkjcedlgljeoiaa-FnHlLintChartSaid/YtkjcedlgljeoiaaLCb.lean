/- Texts Me1, P3, Fz, P4, P5, P6, T0, Q1, Q2, N0, A0, A8, V0, Lc1, Lc2, laid together. -/
import Derived.WalkKit
import Derived.WalkLawsBesides
import Derived.WalkSpells
import Derived.Lib.Hide
import Derived.Deep.RegionWith
import Derived.Deep.DeepCutAuto
import Derived.Deep.QuietTactic
import Derived.BigQuiet
import Derived.Laws.OwnMore
import Derived.Deep.LoopGhost
import Derived.KernelRfl
import Derived.Deep.WholeRow
import Derived.StillTail
import Derived.SliceStrings
import Derived.Deep.Slices
import Derived.Deep.Fields
import Derived.ChangeSame
import Derived.Deep.MidRow
import Derived.Maps.AppendAt
import Derived.Lib.AppendStr
import Derived.Lib.ConvBytes
import Derived.Laws.BytesArg
import Derived.Deep.RegionLaw
import Derived.OwnWalk
import Derived.Maps.OwnSet
import Derived.Maps.OwnOps
import Derived.ArgAppend
import Derived.Defers
import Derived.Recover
import Derived.Laws.Pointers
import Derived.Laws.StructEq
import Derived.IntWalk
import Derived.Test.YtkjcedlgljeoiaaProg
import Derived.BigRegion
import Derived.Deep.CutBlock
import Derived.Test.YtkjcedlgljeoiaaLCa
/- Metadata of charts in memory: maintainers, dependencies; impl.personOf, dependencyOf, metaFits, metaOf. -/
namespace Go.Proofs.Ytkjcedlgljeoiaa
open Go.RowKit Go.Lib
set_option linter.unusedVariables false
set_option linter.unusedSimpArgs false
def SA.per (q : Option Addr) (p : Ty78) : SA := cond p.fNil (SA.pure (q = none)) (SA.ex fun g : Nat => SA.star (SA.pure (q = some ⟨g, 0, none⟩)) (SA.blk g 270 #[.string p.fName, .string p.fEmail, .string p.fURL]))
def SA.dep (q : Option Addr) (d : Ty80) : SA := cond d.fNil (SA.pure (q = none)) (SA.ex fun g : Nat => SA.ex fun A : Option Addr => SA.ex fun c : Nat => SA.star (SA.pure (q = some ⟨g, 0, none⟩)) (SA.star (SA.blk g 262 #[.string d.fName, .string d.fVersion, .string d.fRepository, .string d.fCondition, .slice A d.fTags.length c, .bool false, .slice none 0 0, .string d.fAlias]) (SA.own0 (.slice A d.fTags.length c) 9 1 d.fTags.length (strs d.fTags))))
section
variable {R : Ctx} {w : World} {L : List SA} {q : Option Addr} {p : Ty78} {d : Ty80} {g c : Nat} {A : Option Addr}
theorem Sp.per_nil (h : p.fNil = true) (S : Sp R w L) : Sp R w (SA.per none p :: L) := by
  unfold SA.per; rw [h]; exact Sp.pure.2 ⟨rfl, S⟩
theorem Sp.per_some (h : p.fNil = false) (S : Sp R w (SA.blk g 270 #[.string p.fName, .string p.fEmail, .string p.fURL] :: L)) : Sp R w (SA.per (some ⟨g, 0, none⟩) p :: L) := by
  unfold SA.per; rw [h]; exact Sp.ex.2 ⟨g, Sp.star.2 (Sp.pure.2 ⟨rfl, S⟩)⟩
theorem Sp.dep_nil (h : d.fNil = true) (S : Sp R w L) : Sp R w (SA.dep none d :: L) := by
  unfold SA.dep; rw [h]; exact Sp.pure.2 ⟨rfl, S⟩
theorem Sp.dep_some (h : d.fNil = false) (S : Sp R w (SA.blk g 262 #[.string d.fName, .string d.fVersion, .string d.fRepository, .string d.fCondition, .slice A d.fTags.length c, .bool false, .slice none 0 0, .string d.fAlias] :: SA.own0 (.slice A d.fTags.length c) 9 1 d.fTags.length (strs d.fTags) :: L)) : Sp R w (SA.dep (some ⟨g, 0, none⟩) d :: L) := by
  unfold SA.dep; rw [h]; exact Sp.ex.2 ⟨g, Sp.ex.2 ⟨A, Sp.ex.2 ⟨c, Sp.star.2 (Sp.pure.2 ⟨rfl, Sp.star.2 S⟩)⟩⟩⟩
end
def mfitsB (m : Ty26) : Bool := decide ((m.fSources.length : Int) ≤ 200) && (decide ((m.fKeywords.length : Int) ≤ 200) && (decide ((m.fMaintainers.length : Int) ≤ 200) && decide ((m.fDependencies.length : Int) ≤ 200)))
set_option maxRecDepth 100000 in
set_option maxHeartbeats 20000000 in
theorem personOf_sp (p : Ty78) (R : Ctx) (L : List SA) (w : World) (S : Sp R w (L))   :
    Calls Try.prog 160 #[.agg #[.bool p.fNil, .string p.fName, .string p.fEmail, .string p.fURL]] w fun e w' => ∃ q : Option Addr, e = .returned (.pointer q) ∧ Sp R w' (SA.per q p :: L) := by
  refine fw_enter (fn := Try.f160) rfl rfl 13 rfl (Nat.le_of_ble_eq_true rfl) ?_
  intro a0 F0
  refine wp_seq_k fun K1 hK1 => ?_
  refine wp_region_lit ?_
  refine op_sq F0 (s_newp F0 78 #[.bool p.fNil, .string p.fName, .string p.fEmail, .string p.fURL] (by kernel_rfl) (by kernel_rfl) (by kernel_rfl) S) ?_
  rintro _ _ w3 ⟨g1, rfl, rfl⟩ S3 a3 F3
  refine op_q F3 (.pointer none) ?_; intro a4 F4
  refine wpList_nil ?_
  refine hK1 _ _ ?_; clear hK1 K1
  refine wp_seq_k fun K5 hK5 => ?_
  refine wp_seq_k fun K6 hK6 => ?_
  refine wp_region_lit ?_
  refine op_q F4 (.pointer (some ⟨g1, 0, none⟩)) ?_; intro a7 F7
  refine op_rq (v := .bool p.fNil) F7 (r_ld rfl (F7.e (.pointer (some ⟨g1, 0, none⟩))) (v := .bool p.fNil) ((S3.bk 0 rfl).cell 0) Try.underlying4 rfl) ?_; intro a8 F8
  refine wpList_nil ?_
  refine hK6 _ _ ?_; clear hK6 K6
  rcases btf (p.fNil) with hc9 | hc9
  · have F10 := F8.sb 4 (by kernel_rfl) hc9
    refine wp_cond_true (F10.ev (by kernel_rfl)) ?_
    refine wp_seq_k fun K11 hK11 => ?_
    refine wp_region_lit ?_
    refine op_q F10 (.pointer none) ?_; intro a12 F12
    refine wpList_nil ?_
    refine hK11 _ _ ?_; clear hK11 K11
    refine wp_ret ?_
    refine ret_then ?_
    have S13 : Sp R w3 (SA.per none p :: SA.blk g1 78 #[.bool p.fNil, .string p.fName, .string p.fEmail, .string p.fURL] :: L) := Sp.per_nil hc9 S3
    refine (F12.res1 rfl (v := .pointer none) (by kernel_rfl) ?_).1
    exact ⟨none, rfl, S13.p1.drop⟩
  · have F14 := F8.sb 4 (by kernel_rfl) hc9
    refine wp_cond_false (F14.ev (by kernel_rfl)) ?_
    refine wp_skip ?_
    refine hK5 _ _ ?_; clear hK5 K5
    refine wp_seq_k fun K15 hK15 => ?_
    refine wp_region_lit ?_
    refine op_q F14 (.pointer (some ⟨g1, 1, none⟩)) ?_; intro a16 F16
    refine op_rq (v := .string p.fName) F16 (r_ld rfl (F16.e (.pointer (some ⟨g1, 1, none⟩))) (v := .string p.fName) ((S3.bk 0 rfl).cell 1) Try.underlying9 rfl) ?_; intro a17 F17
    refine op_q F17 (.pointer (some ⟨g1, 2, none⟩)) ?_; intro a18 F18
    refine op_rq (v := .string p.fEmail) F18 (r_ld rfl (F18.e (.pointer (some ⟨g1, 2, none⟩))) (v := .string p.fEmail) ((S3.bk 0 rfl).cell 2) Try.underlying9 rfl) ?_; intro a19 F19
    refine op_q F19 (.pointer (some ⟨g1, 3, none⟩)) ?_; intro a20 F20
    refine op_rq (v := .string p.fURL) F20 (r_ld rfl (F20.e (.pointer (some ⟨g1, 3, none⟩))) (v := .string p.fURL) ((S3.bk 0 rfl).cell 3) Try.underlying9 rfl) ?_; intro a21 F21
    refine op_q F21 (.agg #[.string p.fName, .string p.fEmail, .string p.fURL]) ?_; intro a22 F22
    refine op_sq F22 (s_newp F22 270 #[.string p.fName, .string p.fEmail, .string p.fURL] (by kernel_rfl) (by kernel_rfl) (by kernel_rfl) S3) ?_
    rintro _ _ w24 ⟨g22, rfl, rfl⟩ S24 a24 F24
    refine op_q F24 (.pointer (some ⟨g22, 0, none⟩)) ?_; intro a25 F25
    refine wpList_nil ?_
    refine hK15 _ _ ?_; clear hK15 K15
    refine wp_ret ?_
    have S26 : Sp R w24 (SA.per (some ⟨g22, 0, none⟩) p :: SA.blk g1 78 #[.bool p.fNil, .string p.fName, .string p.fEmail, .string p.fURL] :: L) := Sp.per_some hc9 S24
    refine (F25.res1 rfl (v := .pointer (some ⟨g22, 0, none⟩)) (by kernel_rfl) ?_).1
    exact ⟨some ⟨g22, 0, none⟩, rfl, S26.p1.drop⟩
set_option maxRecDepth 100000 in
set_option maxHeartbeats 20000000 in
theorem dependencyOf_sp (d : Ty80) (R : Ctx) (L : List SA) (w : World) (S : Sp R w (L)) (h0 : Rf R L fun w => Sl w (d.fTags_a) (strs d.fTags)) (hz : d.fTags.length ≤ 1000000) :
    Calls Try.prog 161 #[.agg #[.bool d.fNil, .string d.fName, .string d.fVersion, .string d.fRepository, .string d.fCondition, .slice (d.fTags_a) (d.fTags.length) (d.fTags_c), .string d.fAlias]] w fun e w' => ∃ q : Option Addr, e = .returned (.pointer q) ∧ Sp R w' (SA.dep q d :: L) := by
  have hl_d_fTags : d.fTags.length ≤ 9223372036854775807 := by have := (h0 _ S).1; simpa [strs, ptrs, pps] using this
  refine fw_enter (fn := Try.f161) rfl rfl 21 rfl (Nat.le_of_ble_eq_true rfl) ?_
  intro a0 F0
  refine wp_seq_k fun K1 hK1 => ?_
  refine wp_region_lit ?_
  refine op_sq F0 (s_newp F0 80 #[.bool d.fNil, .string d.fName, .string d.fVersion, .string d.fRepository, .string d.fCondition, .slice (d.fTags_a) (d.fTags.length) (d.fTags_c), .string d.fAlias] (by kernel_rfl) (by kernel_rfl) (by kernel_rfl) S) ?_
  rintro _ _ w3 ⟨g1, rfl, rfl⟩ S3 a3 F3
  refine op_q F3 (.pointer none) ?_; intro a4 F4
  refine wpList_nil ?_
  refine hK1 _ _ ?_; clear hK1 K1
  refine wp_seq_k fun K5 hK5 => ?_
  refine wp_seq_k fun K6 hK6 => ?_
  refine wp_region_lit ?_
  refine op_q F4 (.pointer (some ⟨g1, 0, none⟩)) ?_; intro a7 F7
  refine op_rq (v := .bool d.fNil) F7 (r_ld rfl (F7.e (.pointer (some ⟨g1, 0, none⟩))) (v := .bool d.fNil) ((S3.bk 0 rfl).cell 0) Try.underlying4 rfl) ?_; intro a8 F8
  refine wpList_nil ?_
  refine hK6 _ _ ?_; clear hK6 K6
  rcases btf (d.fNil) with hc9 | hc9
  · have F10 := F8.sb 4 (by kernel_rfl) hc9
    refine wp_cond_true (F10.ev (by kernel_rfl)) ?_
    refine wp_seq_k fun K11 hK11 => ?_
    refine wp_region_lit ?_
    refine op_q F10 (.pointer none) ?_; intro a12 F12
    refine wpList_nil ?_
    refine hK11 _ _ ?_; clear hK11 K11
    refine wp_ret ?_
    refine ret_then ?_
    have S13 : Sp R w3 (SA.dep none d :: SA.blk g1 80 #[.bool d.fNil, .string d.fName, .string d.fVersion, .string d.fRepository, .string d.fCondition, .slice (d.fTags_a) (d.fTags.length) (d.fTags_c), .string d.fAlias] :: L) := Sp.dep_nil hc9 S3
    refine (F12.res1 rfl (v := .pointer none) (by kernel_rfl) ?_).1
    exact ⟨none, rfl, S13.p1.drop⟩
  · have F14 := F8.sb 4 (by kernel_rfl) hc9
    refine wp_cond_false (F14.ev (by kernel_rfl)) ?_
    refine wp_skip ?_
    refine hK5 _ _ ?_; clear hK5 K5
    refine wp_seq_k fun K15 hK15 => ?_
    refine wp_region_sepF (L0 := SA.blk g1 80 #[.bool d.fNil, .string d.fName, .string d.fVersion, .string d.fRepository, .string d.fCondition, .slice (d.fTags_a) (d.fTags.length) (d.fTags_c), .string d.fAlias] :: L) [some [], some [(0, 5)], some [], some [(2, 7)], some [], some [(4, 9)], some [], some [(6, 11)], some [], some [], some [(9, 14)], some [(8, 13), (10, 15)], some [], some [(12, 17)], some [(1, 6), (3, 8), (5, 10), (7, 12), (8, 13), (10, 15), (11, 16), (13, 18)], some [(1, 6), (3, 8), (5, 10), (7, 12), (8, 13), (10, 15), (11, 16), (13, 18), (14, 19)], some [(1, 6), (3, 8), (5, 10), (7, 12), (8, 13), (10, 15), (11, 16), (13, 18), (14, 19), (15, 20)]] [.v 5 (.pointer (some ⟨g1, 1, none⟩)), .v 6 (.string d.fName), .v 7 (.pointer (some ⟨g1, 2, none⟩)), .v 8 (.string d.fVersion), .v 9 (.pointer (some ⟨g1, 3, none⟩)), .v 10 (.string d.fRepository), .v 11 (.pointer (some ⟨g1, 4, none⟩)), .v 12 (.string d.fCondition), .p 13 (SA.emp) (fun _ vv AA => ∃ g81 : Nat, vv = .slice (some ⟨g81, 0, none⟩) 0 0 ∧ AA = SA.blk g81 9 #[]), .v 14 (.pointer (some ⟨g1, 5, none⟩)), .v 15 (.slice (d.fTags_a) (d.fTags.length) (d.fTags_c)), .p 16 (SA.emp) (fun _ vv AA => ∃ A88 : Option Addr, ∃ c88 : Nat, vv = .slice A88 d.fTags.length c88 ∧ AA = SA.own0 (.slice A88 d.fTags.length c88) 9 1 d.fTags.length (strs d.fTags)), .v 17 (.pointer (some ⟨g1, 6, none⟩)), .v 18 (.string d.fAlias), .p 19 (SA.emp) (fun env vv AA => ∃ A88x : Option Addr, ∃ c88x : Nat, (env.getD 6 undef) = .slice A88x d.fTags.length c88x ∧ vv = .agg #[.string d.fName, .string d.fVersion, .string d.fRepository, .string d.fCondition, .slice A88x d.fTags.length c88x, .bool false, .slice none 0 0, .string d.fAlias] ∧ AA = SA.emp), .p 20 (SA.emp) (fun env vv AA => ∃ A88x : Option Addr, ∃ c88x : Nat, ∃ g110 : Nat, (env.getD 6 undef) = .slice A88x d.fTags.length c88x ∧ vv = .pointer (some ⟨g110, 0, none⟩) ∧ AA = SA.blk g110 262 #[.string d.fName, .string d.fVersion, .string d.fRepository, .string d.fCondition, .slice A88x d.fTags.length c88x, .bool false, .slice none 0 0, .string d.fAlias]), .p 2 (SA.emp) (fun env vv AA => ∃ g110x : Nat, (env.getD 9 undef) = .pointer (some ⟨g110x, 0, none⟩) ∧ vv = .pointer (some ⟨g110x, 0, none⟩) ∧ AA = SA.emp)] [] F14 rfl (by kernel_rfl) S3.emp.emp.emp.emp.emp ?_ ?_
    · refine ⟨?_, ?_, ?_, ?_, ?_, ?_, ?_, ?_, ?_, ?_, ?_, ?_, ?_, ?_, ?_, ?_, ?_, trivial⟩
      · intro w69 M69
        intro a69 F69 S69
        refine obl_of (by rfl) ?_
        exact s_p F69 (v := .pointer (some ⟨g1, 1, none⟩)) (by kernel_rfl) (by kernel_rfl) (by kernel_rfl) S69
      · intro w70 M70
        intro a70 F70 S70
        refine obl_of (by rfl) ?_
        exact s_r (v := .string d.fName) (r_ld rfl (F70.e (.pointer (some ⟨g1, 1, none⟩))) (v := .string d.fName) (((Sp.dropM S70.drop).bk 0 rfl).cell 1) Try.underlying9 rfl) S70
      · intro w72 M72
        intro a72 F72 S72
        refine obl_of (by rfl) ?_
        exact s_p F72 (v := .pointer (some ⟨g1, 2, none⟩)) (by kernel_rfl) (by kernel_rfl) (by kernel_rfl) S72
      · intro w73 M73
        intro a73 F73 S73
        refine obl_of (by rfl) ?_
        exact s_r (v := .string d.fVersion) (r_ld rfl (F73.e (.pointer (some ⟨g1, 2, none⟩))) (v := .string d.fVersion) (((Sp.dropM S73.drop).bk 0 rfl).cell 2) Try.underlying9 rfl) S73
      · intro w75 M75
        intro a75 F75 S75
        refine obl_of (by rfl) ?_
        exact s_p F75 (v := .pointer (some ⟨g1, 3, none⟩)) (by kernel_rfl) (by kernel_rfl) (by kernel_rfl) S75
      · intro w76 M76
        intro a76 F76 S76
        refine obl_of (by rfl) ?_
        exact s_r (v := .string d.fRepository) (r_ld rfl (F76.e (.pointer (some ⟨g1, 3, none⟩))) (v := .string d.fRepository) (((Sp.dropM S76.drop).bk 0 rfl).cell 3) Try.underlying9 rfl) S76
      · intro w78 M78
        intro a78 F78 S78
        refine obl_of (by rfl) ?_
        exact s_p F78 (v := .pointer (some ⟨g1, 4, none⟩)) (by kernel_rfl) (by kernel_rfl) (by kernel_rfl) S78
      · intro w79 M79
        intro a79 F79 S79
        refine obl_of (by rfl) ?_
        exact s_r (v := .string d.fCondition) (r_ld rfl (F79.e (.pointer (some ⟨g1, 4, none⟩))) (v := .string d.fCondition) (((Sp.dropM S79.drop).bk 0 rfl).cell 4) Try.underlying9 rfl) S79
      · intro w81 M81
        intro a81 F81 S81
        refine obl_of (by rfl) ?_
        exact s_news F81 9 #[] 0 (by kernel_rfl) (by kernel_rfl) (by kernel_rfl) S81.drop
      · intro w82 M82
        intro a82 F82 S82
        refine obl_of (by rfl) ?_
        exact s_p F82 (v := .pointer (some ⟨g1, 5, none⟩)) (by kernel_rfl) (by kernel_rfl) (by kernel_rfl) S82
      · intro w83 M83
        intro a83 F83 S83
        refine obl_of (by rfl) ?_
        exact s_r (v := .slice (d.fTags_a) (d.fTags.length) (d.fTags_c)) (r_ld rfl (F83.e (.pointer (some ⟨g1, 5, none⟩))) (v := .slice (d.fTags_a) (d.fTags.length) (d.fTags_c)) (((Sp.dropM S83.drop).bk 0 rfl).cell 5) Try.underlying22 rfl) S83
      · intro w85 M85
        rintro _ _ ⟨g81, rfl, rfl⟩ hA86
        intro a85 F85 S85
        refine obl_of (by rfl) ?_
        exact s_app0 rfl Try.underlying22 1 _ tin9 rfl rfl (F85.e (.slice (some ⟨g81, 0, none⟩) 0 0)) S85.drop (strs d.fTags) (F85.e (.slice (d.fTags_a) (d.fTags.length) (d.fTags_c))) (h0 _ (Sp.dropM S85.drop).drop) (by first | (simp [strs, ptrs, pps]; done) | (simp [strs, ptrs, pps]; omega)) (by omega) (by omega)
      · intro w89 M89
        intro a89 F89 S89
        refine obl_of (by rfl) ?_
        exact s_p F89 (v := .pointer (some ⟨g1, 6, none⟩)) (by kernel_rfl) (by kernel_rfl) (by kernel_rfl) S89
      · intro w90 M90
        intro a90 F90 S90
        refine obl_of (by rfl) ?_
        exact s_r (v := .string d.fAlias) (r_ld rfl (F90.e (.pointer (some ⟨g1, 6, none⟩))) (v := .string d.fAlias) (((Sp.dropM S90.drop).bk 0 rfl).cell 6) Try.underlying9 rfl) S90
      · intro w92 M92
        rintro _ _ ⟨g81, rfl, rfl⟩ hA97
        rintro _ _ ⟨A88, c88, rfl, rfl⟩ hA99
        intro a92 F92 S92
        refine obl_of (by rfl) ?_
        exact sAt_mono (s_p F92 (v := .agg #[.string d.fName, .string d.fVersion, .string d.fRepository, .string d.fCondition, .slice A88 d.fTags.length c88, .bool false, .slice none 0 0, .string d.fAlias]) (by kernel_rfl) (by kernel_rfl) (by kernel_rfl) S92) fun _ _ ⟨e1, e2⟩ => ⟨A88, c88, (by kernel_rfl), e1, e2⟩
      · intro w101 M101
        rintro _ _ ⟨g81, rfl, rfl⟩ hA106
        rintro _ _ ⟨A88, c88, rfl, rfl⟩ hA108
        rintro _ _ ⟨A88x, c88x, e14_6, rfl, rfl⟩ hA110
        have e14_6 := envE_at (v := .slice A88 d.fTags.length c88) e14_6 (by kernel_rfl)
        obtain ⟨rfl, rfl⟩ : A88 = A88x ∧ c88 = c88x := by cases e14_6; exact ⟨rfl, rfl⟩
        clear e14_6
        intro a101 F101 S101
        refine obl_of (by rfl) ?_
        exact sAt_mono (s_newp F101 262 #[.string d.fName, .string d.fVersion, .string d.fRepository, .string d.fCondition, .slice A88 d.fTags.length c88, .bool false, .slice none 0 0, .string d.fAlias] (by kernel_rfl) (by kernel_rfl) (by kernel_rfl) S101.drop) fun _ _ ⟨g110, e1, e2⟩ => ⟨A88, c88, g110, (by kernel_rfl), e1, e2⟩
      · intro w111 M111
        rintro _ _ ⟨g81, rfl, rfl⟩ hA116
        rintro _ _ ⟨A88, c88, rfl, rfl⟩ hA118
        rintro _ _ ⟨A88x, c88x, e14_6, rfl, rfl⟩ hA120
        have e14_6 := envE_at (v := .slice A88 d.fTags.length c88) e14_6 (by kernel_rfl)
        obtain ⟨rfl, rfl⟩ : A88 = A88x ∧ c88 = c88x := by cases e14_6; exact ⟨rfl, rfl⟩
        clear e14_6
        rintro _ _ ⟨A88x, c88x, g110, e15_6, rfl, rfl⟩ hA121
        have e15_6 := envE_at (v := .slice A88 d.fTags.length c88) e15_6 (by kernel_rfl)
        obtain ⟨rfl, rfl⟩ : A88 = A88x ∧ c88 = c88x := by cases e15_6; exact ⟨rfl, rfl⟩
        clear e15_6
        intro a111 F111 S111
        refine obl_of (by rfl) ?_
        exact sAt_mono (s_p F111 (v := .pointer (some ⟨g110, 0, none⟩)) (by kernel_rfl) (by kernel_rfl) (by kernel_rfl) S111) fun _ _ ⟨e1, e2⟩ => ⟨g110, (by kernel_rfl), e1, e2⟩
    · rintro _ _ ⟨g81, rfl, rfl⟩
      rintro _ _ ⟨A88, c88, rfl, rfl⟩
      rintro _ _ ⟨A88x, c88x, e14_6, rfl, rfl⟩
      have e14_6 := envE_at (v := .slice A88 d.fTags.length c88) e14_6 (by kernel_rfl)
      obtain ⟨rfl, rfl⟩ : A88 = A88x ∧ c88 = c88x := by cases e14_6; exact ⟨rfl, rfl⟩
      clear e14_6
      rintro _ _ ⟨A88x, c88x, g110, e15_6, rfl, rfl⟩
      have e15_6 := envE_at (v := .slice A88 d.fTags.length c88) e15_6 (by kernel_rfl)
      obtain ⟨rfl, rfl⟩ : A88 = A88x ∧ c88 = c88x := by cases e15_6; exact ⟨rfl, rfl⟩
      clear e15_6
      rintro _ _ ⟨g110x, e16_9, rfl, rfl⟩
      have e16_9 := envE_at (v := .pointer (some ⟨g110, 0, none⟩)) e16_9 (by kernel_rfl)
      obtain rfl : g110 = g110x := by cases e16_9; rfl
      clear e16_9
      intro a123 w122 F123 S122
      have S124 : Sp R w122 (SA.blk g110 262 #[.string d.fName, .string d.fVersion, .string d.fRepository, .string d.fCondition, .slice A88 d.fTags.length c88, .bool false, .slice none 0 0, .string d.fAlias] :: SA.own0 (.slice A88 d.fTags.length c88) 9 1 d.fTags.length (strs d.fTags) :: SA.blk g81 9 #[] :: SA.blk g1 80 #[.bool d.fNil, .string d.fName, .string d.fVersion, .string d.fRepository, .string d.fCondition, .slice (d.fTags_a) (d.fTags.length) (d.fTags_c), .string d.fAlias] :: L) := S122.drop.p1.drop
      refine wpList_nil ?_
      refine hK15 _ _ ?_; clear hK15 K15
      refine wp_ret ?_
      have S125 : Sp R w122 (SA.dep (some ⟨g110, 0, none⟩) d :: SA.blk g81 9 #[] :: SA.blk g1 80 #[.bool d.fNil, .string d.fName, .string d.fVersion, .string d.fRepository, .string d.fCondition, .slice (d.fTags_a) (d.fTags.length) (d.fTags_c), .string d.fAlias] :: L) := Sp.dep_some hc9 S124.p1.p1
      refine (F123.res1 rfl (v := .pointer (some ⟨g110, 0, none⟩)) (by kernel_rfl) ?_).1
      exact ⟨some ⟨g110, 0, none⟩, rfl, S125.p1.drop.p1.drop⟩
set_option maxRecDepth 100000 in
set_option maxHeartbeats 20000000 in
theorem metaFits_sp (m : Ty26) (R : Ctx) (L : List SA) (w : World) (S : Sp R w (L))   :
    Calls Try.prog 93 #[.agg #[.string m.fName, .string m.fHome, .string m.fVersion, .string m.fDescription, .string m.fIcon, .string m.fAPIVersion, .string m.fCondition, .string m.fTags, .string m.fAppVersion, .string m.fKubeVersion, .string m.fType, .slice (m.fSources_a) (m.fSources.length) (m.fSources_c), .slice (m.fKeywords_a) (m.fKeywords.length) (m.fKeywords_c), .slice (m.fMaintainers_a) (m.fMaintainers.length) (m.fMaintainers_c), .slice (m.fDependencies_a) (m.fDependencies.length) (m.fDependencies_c)]] w fun e w' => e = .returned (.bool (mfitsB m)) ∧ Sp R w' (L) := by
  refine fw_enter (fn := Try.f93) rfl rfl 25 rfl (Nat.le_of_ble_eq_true rfl) ?_
  intro a0 F0
  refine wp_seq_k fun K1 hK1 => ?_
  refine wp_region_lit ?_
  refine op_sq F0 (s_newp F0 26 #[.string m.fName, .string m.fHome, .string m.fVersion, .string m.fDescription, .string m.fIcon, .string m.fAPIVersion, .string m.fCondition, .string m.fTags, .string m.fAppVersion, .string m.fKubeVersion, .string m.fType, .slice (m.fSources_a) (m.fSources.length) (m.fSources_c), .slice (m.fKeywords_a) (m.fKeywords.length) (m.fKeywords_c), .slice (m.fMaintainers_a) (m.fMaintainers.length) (m.fMaintainers_c), .slice (m.fDependencies_a) (m.fDependencies.length) (m.fDependencies_c)] (by kernel_rfl) (by kernel_rfl) (by kernel_rfl) S) ?_
  rintro _ _ w3 ⟨g1, rfl, rfl⟩ S3 a3 F3
  refine op_q F3 (.bool false) ?_; intro a4 F4
  refine wpList_nil ?_
  refine hK1 _ _ ?_; clear hK1 K1
  refine wp_seq_k fun K5 hK5 => ?_
  refine wp_region_lit ?_
  refine op_q F4 (.pointer (some ⟨g1, 11, none⟩)) ?_; intro a6 F6
  refine op_rq (v := .slice (m.fSources_a) (m.fSources.length) (m.fSources_c)) F6 (r_ld rfl (F6.e (.pointer (some ⟨g1, 11, none⟩))) (v := .slice (m.fSources_a) (m.fSources.length) (m.fSources_c)) ((S3.bk 0 rfl).cell 11) Try.underlying22 rfl) ?_; intro a7 F7
  refine op_q F7 (.int .i64 (↑m.fSources.length)) ?_; intro a8 F8
  refine op_q F8 (.bool (decide ((↑m.fSources.length : Int) ≤ 200))) ?_; intro a9 F9
  refine op_q F9 (.bool (decide ((↑m.fSources.length : Int) ≤ 200))) ?_; intro a10 F10
  rcases btf (decide ((↑m.fSources.length : Int) ≤ 200)) with hc11 | hc11
  · have hc11p := of_decide_eq_true hc11
    have F12 := F10.sb 6 (by kernel_rfl) hc11
    have F13 := F12.sb 7 (by kernel_rfl) hc11
    refine op_wq F13 ?_
    refine op_q F13 (.pointer (some ⟨g1, 12, none⟩)) ?_; intro a14 F14
    refine op_wq F14 ?_
    refine op_rq (v := .slice (m.fKeywords_a) (m.fKeywords.length) (m.fKeywords_c)) F14 (r_ld rfl (F14.e (.pointer (some ⟨g1, 12, none⟩))) (v := .slice (m.fKeywords_a) (m.fKeywords.length) (m.fKeywords_c)) ((S3.bk 0 rfl).cell 12) Try.underlying22 rfl) ?_; intro a15 F15
    refine op_wq F15 ?_
    refine op_q F15 (.int .i64 (↑m.fKeywords.length)) ?_; intro a16 F16
    refine op_wq F16 ?_
    refine op_q F16 (.bool (decide ((↑m.fKeywords.length : Int) ≤ 200))) ?_; intro a17 F17
    refine op_q F17 (.bool (decide ((↑m.fKeywords.length : Int) ≤ 200))) ?_; intro a18 F18
    refine op_q F18 (.bool (decide ((↑m.fKeywords.length : Int) ≤ 200))) ?_; intro a19 F19
    rcases btf (decide ((↑m.fKeywords.length : Int) ≤ 200)) with hc20 | hc20
    · have hc20p := of_decide_eq_true hc20
      have F21 := F19.sb 11 (by kernel_rfl) hc20
      have F22 := F21.sb 12 (by kernel_rfl) hc20
      have F23 := F22.sb 13 (by kernel_rfl) hc20
      refine op_wq F23 ?_
      refine op_q F23 (.pointer (some ⟨g1, 13, none⟩)) ?_; intro a24 F24
      refine op_wq F24 ?_
      refine op_rq (v := .slice (m.fMaintainers_a) (m.fMaintainers.length) (m.fMaintainers_c)) F24 (r_ld rfl (F24.e (.pointer (some ⟨g1, 13, none⟩))) (v := .slice (m.fMaintainers_a) (m.fMaintainers.length) (m.fMaintainers_c)) ((S3.bk 0 rfl).cell 13) Try.underlying23 rfl) ?_; intro a25 F25
      refine op_wq F25 ?_
      refine op_q F25 (.int .i64 (↑m.fMaintainers.length)) ?_; intro a26 F26
      refine op_wq F26 ?_
      refine op_q F26 (.bool (decide ((↑m.fMaintainers.length : Int) ≤ 200))) ?_; intro a27 F27
      refine op_q F27 (.bool (decide ((↑m.fMaintainers.length : Int) ≤ 200))) ?_; intro a28 F28
      refine op_q F28 (.bool (decide ((↑m.fMaintainers.length : Int) ≤ 200))) ?_; intro a29 F29
      rcases btf (decide ((↑m.fMaintainers.length : Int) ≤ 200)) with hc30 | hc30
      · have hc30p := of_decide_eq_true hc30
        have F31 := F29.sb 17 (by kernel_rfl) hc30
        have F32 := F31.sb 18 (by kernel_rfl) hc30
        have F33 := F32.sb 19 (by kernel_rfl) hc30
        refine op_wq F33 ?_
        refine op_q F33 (.pointer (some ⟨g1, 14, none⟩)) ?_; intro a34 F34
        refine op_wq F34 ?_
        refine op_rq (v := .slice (m.fDependencies_a) (m.fDependencies.length) (m.fDependencies_c)) F34 (r_ld rfl (F34.e (.pointer (some ⟨g1, 14, none⟩))) (v := .slice (m.fDependencies_a) (m.fDependencies.length) (m.fDependencies_c)) ((S3.bk 0 rfl).cell 14) Try.underlying24 rfl) ?_; intro a35 F35
        refine op_wq F35 ?_
        refine op_q F35 (.int .i64 (↑m.fDependencies.length)) ?_; intro a36 F36
        refine op_wq F36 ?_
        refine op_q F36 (.bool (decide ((↑m.fDependencies.length : Int) ≤ 200))) ?_; intro a37 F37
        refine op_q F37 (.bool (decide ((↑m.fDependencies.length : Int) ≤ 200))) ?_; intro a38 F38
        refine op_q F38 (.bool (decide ((↑m.fDependencies.length : Int) ≤ 200))) ?_; intro a39 F39
        refine wpList_nil ?_
        refine hK5 _ _ ?_; clear hK5 K5
        refine wp_ret ?_
        refine (F39.res1 rfl (v := .bool (decide ((↑m.fDependencies.length : Int) ≤ 200))) (by kernel_rfl) ?_).1
        exact ⟨(ret_bool (by simp only [mfitsB, hc11, hc20, hc30, Bool.true_and, Bool.and_true, Bool.false_and, Bool.and_false])), S3.drop⟩
      · have hc30p := of_decide_eq_false hc30
        have F40 := F29.sb 17 (by kernel_rfl) hc30
        have F41 := F40.sb 18 (by kernel_rfl) hc30
        have F42 := F41.sb 19 (by kernel_rfl) hc30
        refine op_kq F42 ?_; intro a43 F43
        refine op_kq F43 ?_; intro a44 F44
        refine op_kq F44 ?_; intro a45 F45
        refine op_kq F45 ?_; intro a46 F46
        refine op_q F46 (.bool false) ?_; intro a47 F47
        refine op_q F47 (.bool false) ?_; intro a48 F48
        refine wpList_nil ?_
        refine hK5 _ _ ?_; clear hK5 K5
        refine wp_ret ?_
        refine (F48.res1 rfl (v := .bool false) (by kernel_rfl) ?_).1
        exact ⟨(ret_bool (by simp only [mfitsB, hc11, hc20, hc30, Bool.true_and, Bool.and_true, Bool.false_and, Bool.and_false])), S3.drop⟩
    · have hc20p := of_decide_eq_false hc20
      have F49 := F19.sb 11 (by kernel_rfl) hc20
      have F50 := F49.sb 12 (by kernel_rfl) hc20
      have F51 := F50.sb 13 (by kernel_rfl) hc20
      refine op_kq F51 ?_; intro a52 F52
      refine op_kq F52 ?_; intro a53 F53
      refine op_kq F53 ?_; intro a54 F54
      refine op_kq F54 ?_; intro a55 F55
      refine op_q F55 (.bool false) ?_; intro a56 F56
      refine op_q F56 (.bool false) ?_; intro a57 F57
      refine op_kq F57 ?_; intro a58 F58
      refine op_kq F58 ?_; intro a59 F59
      refine op_kq F59 ?_; intro a60 F60
      refine op_kq F60 ?_; intro a61 F61
      refine op_q F61 (.bool false) ?_; intro a62 F62
      refine op_q F62 (.bool false) ?_; intro a63 F63
      refine wpList_nil ?_
      refine hK5 _ _ ?_; clear hK5 K5
      refine wp_ret ?_
      refine (F63.res1 rfl (v := .bool false) (by kernel_rfl) ?_).1
      exact ⟨(ret_bool (by simp only [mfitsB, hc11, hc20, Bool.true_and, Bool.and_true, Bool.false_and, Bool.and_false])), S3.drop⟩
  · have hc11p := of_decide_eq_false hc11
    have F64 := F10.sb 6 (by kernel_rfl) hc11
    have F65 := F64.sb 7 (by kernel_rfl) hc11
    refine op_kq F65 ?_; intro a66 F66
    refine op_kq F66 ?_; intro a67 F67
    refine op_kq F67 ?_; intro a68 F68
    refine op_kq F68 ?_; intro a69 F69
    refine op_q F69 (.bool false) ?_; intro a70 F70
    refine op_q F70 (.bool false) ?_; intro a71 F71
    refine op_kq F71 ?_; intro a72 F72
    refine op_kq F72 ?_; intro a73 F73
    refine op_kq F73 ?_; intro a74 F74
    refine op_kq F74 ?_; intro a75 F75
    refine op_q F75 (.bool false) ?_; intro a76 F76
    refine op_q F76 (.bool false) ?_; intro a77 F77
    refine op_kq F77 ?_; intro a78 F78
    refine op_kq F78 ?_; intro a79 F79
    refine op_kq F79 ?_; intro a80 F80
    refine op_kq F80 ?_; intro a81 F81
    refine op_q F81 (.bool false) ?_; intro a82 F82
    refine op_q F82 (.bool false) ?_; intro a83 F83
    refine wpList_nil ?_
    refine hK5 _ _ ?_; clear hK5 K5
    refine wp_ret ?_
    refine (F83.res1 rfl (v := .bool false) (by kernel_rfl) ?_).1
    exact ⟨(ret_bool (by simp only [mfitsB, hc11, Bool.true_and, Bool.and_true, Bool.false_and, Bool.and_false])), S3.drop⟩
set_option maxRecDepth 100000 in
set_option maxHeartbeats 20000000 in
theorem metaOf_sp (m : Ty26) (R : Ctx) (L : List SA) (w : World) (S : Sp R w (L)) (h0 : Rf R L fun w => Sl w (m.fSources_a) (strs m.fSources)) (h1 : Rf R L fun w => Sl w (m.fKeywords_a) (strs m.fKeywords)) (h2 : Rf R L fun w => Rows w (m.fMaintainers_a) 4 (m.fMaintainers.map Ty78.cells)) (h3 : Rf R L fun w => Rows w (m.fDependencies_a) 7 (m.fDependencies.map Ty80.cells)) (h4 : Rf R L fun w => ∀ d ∈ m.fDependencies, Sl w d.fTags_a (strs d.fTags)) (hm1 : m.fSources.length ≤ 1000000) (hm2 : m.fKeywords.length ≤ 1000000) (hm3 : m.fMaintainers.length ≤ 1000000) (hm4 : m.fDependencies.length ≤ 1000000) (hm5 : ∀ d ∈ m.fDependencies, d.fTags.length ≤ 1000000) :
    Calls Try.prog 95 #[.agg #[.string m.fName, .string m.fHome, .string m.fVersion, .string m.fDescription, .string m.fIcon, .string m.fAPIVersion, .string m.fCondition, .string m.fTags, .string m.fAppVersion, .string m.fKubeVersion, .string m.fType, .slice (m.fSources_a) (m.fSources.length) (m.fSources_c), .slice (m.fKeywords_a) (m.fKeywords.length) (m.fKeywords_c), .slice (m.fMaintainers_a) (m.fMaintainers.length) (m.fMaintainers_c), .slice (m.fDependencies_a) (m.fDependencies.length) (m.fDependencies_c)]] w fun e w' => ∃ g : Nat, ∃ A1 : Option Addr, ∃ c1 : Nat, ∃ A2 : Option Addr, ∃ c2 : Nat, ∃ A3 : Option Addr, ∃ c3 : Nat, ∃ qs : List (Option Addr), ∃ A4 : Option Addr, ∃ c4 : Nat, ∃ us : List (Option Addr), e = .returned (.pointer (some ⟨g, 0, none⟩)) ∧ Sp R w' (SA.blk g 237 #[.string (m.fName), .string (m.fHome), .slice A1 (m.fSources.length) c1, .string (m.fVersion), .string (m.fDescription), .slice A2 (m.fKeywords.length) c2, .slice A3 qs.length c3, .string (m.fIcon), .string (m.fAPIVersion), .string (m.fCondition), .string (m.fTags), .string (m.fAppVersion), .bool false, .map none, .string (m.fKubeVersion), .slice A4 us.length c4, .string (m.fType)] :: SA.own0 (.slice A1 m.fSources.length c1) 9 1 (m.fSources.length) (strs m.fSources) :: SA.own0 (.slice A2 m.fKeywords.length c2) 9 1 (m.fKeywords.length) (strs m.fKeywords) :: SA.own (.slice A3 qs.length c3) 238 1 qs.length (pps qs) :: SA.zips SA.per qs m.fMaintainers :: SA.own (.slice A4 us.length c4) 240 1 us.length (pps us) :: SA.zips SA.dep us m.fDependencies :: L) := by
  have hl_m_fSources : m.fSources.length ≤ 9223372036854775807 := by have := (h0 _ S).1; simpa [strs, ptrs, pps] using this
  have hl_m_fKeywords : m.fKeywords.length ≤ 9223372036854775807 := by have := (h1 _ S).1; simpa [strs, ptrs, pps] using this
  have hl_m_fMaintainers : m.fMaintainers.length ≤ 9223372036854775807 := by have := (h2 _ S).1; simpa [strs, ptrs, pps] using this
  have hl_m_fDependencies : m.fDependencies.length ≤ 9223372036854775807 := by have := (h3 _ S).1; simpa [strs, ptrs, pps] using this
  refine fw_enter (fn := Try.f95) rfl rfl 79 rfl (Nat.le_of_ble_eq_true rfl) ?_
  intro a0 F0
  refine wp_seq_k fun K1 hK1 => ?_
  refine wp_region_lit ?_
  refine op_sq F0 (s_newp F0 26 #[.string m.fName, .string m.fHome, .string m.fVersion, .string m.fDescription, .string m.fIcon, .string m.fAPIVersion, .string m.fCondition, .string m.fTags, .string m.fAppVersion, .string m.fKubeVersion, .string m.fType, .slice (m.fSources_a) (m.fSources.length) (m.fSources_c), .slice (m.fKeywords_a) (m.fKeywords.length) (m.fKeywords_c), .slice (m.fMaintainers_a) (m.fMaintainers.length) (m.fMaintainers_c), .slice (m.fDependencies_a) (m.fDependencies.length) (m.fDependencies_c)] (by kernel_rfl) (by kernel_rfl) (by kernel_rfl) S) ?_
  rintro _ _ w3 ⟨g1, rfl, rfl⟩ S3 a3 F3
  refine op_q F3 (.pointer none) ?_; intro a4 F4
  refine wpList_nil ?_
  refine hK1 _ _ ?_; clear hK1 K1
  refine wp_seq_k fun K5 hK5 => ?_
  refine wp_region_sepF (L0 := SA.blk g1 26 #[.string m.fName, .string m.fHome, .string m.fVersion, .string m.fDescription, .string m.fIcon, .string m.fAPIVersion, .string m.fCondition, .string m.fTags, .string m.fAppVersion, .string m.fKubeVersion, .string m.fType, .slice (m.fSources_a) (m.fSources.length) (m.fSources_c), .slice (m.fKeywords_a) (m.fKeywords.length) (m.fKeywords_c), .slice (m.fMaintainers_a) (m.fMaintainers.length) (m.fMaintainers_c), .slice (m.fDependencies_a) (m.fDependencies.length) (m.fDependencies_c)] :: L) [some [], some [(0, 8)], some [], some [(2, 10)], some [], some [], some [(5, 13)], some [(4, 12), (6, 14)], some [], some [(8, 16)], some [], some [(10, 18)], some [], some [], some [(13, 21)], some [(12, 20), (14, 22)], some [], some [(16, 24)], some [], some [(18, 26)], some [], some [(20, 28)], some [], some [(22, 30)], some [], some [(24, 32)], some [], some [(26, 34)], some [], some [(28, 36)], some [(1, 9), (3, 11), (4, 12), (6, 14), (7, 15), (9, 17), (11, 19), (12, 20), (14, 22), (15, 23), (17, 25), (19, 27), (21, 29), (23, 31), (25, 33), (27, 35), (29, 37)], some [(1, 9), (3, 11), (4, 12), (6, 14), (7, 15), (9, 17), (11, 19), (12, 20), (14, 22), (15, 23), (17, 25), (19, 27), (21, 29), (23, 31), (25, 33), (27, 35), (29, 37), (30, 38)], some [(1, 9), (3, 11), (4, 12), (6, 14), (7, 15), (9, 17), (11, 19), (12, 20), (14, 22), (15, 23), (17, 25), (19, 27), (21, 29), (23, 31), (25, 33), (27, 35), (29, 37), (30, 38), (31, 39)]] [.v 8 (.pointer (some ⟨g1, 0, none⟩)), .v 9 (.string m.fName), .v 10 (.pointer (some ⟨g1, 1, none⟩)), .v 11 (.string m.fHome), .p 12 (SA.emp) (fun _ vv AA => ∃ g118 : Nat, vv = .slice (some ⟨g118, 0, none⟩) 0 0 ∧ AA = SA.blk g118 9 #[]), .v 13 (.pointer (some ⟨g1, 11, none⟩)), .v 14 (.slice (m.fSources_a) (m.fSources.length) (m.fSources_c)), .p 15 (SA.emp) (fun _ vv AA => ∃ A125 : Option Addr, ∃ c125 : Nat, vv = .slice A125 m.fSources.length c125 ∧ AA = SA.own0 (.slice A125 m.fSources.length c125) 9 1 m.fSources.length (strs m.fSources)), .v 16 (.pointer (some ⟨g1, 2, none⟩)), .v 17 (.string m.fVersion), .v 18 (.pointer (some ⟨g1, 3, none⟩)), .v 19 (.string m.fDescription), .p 20 (SA.emp) (fun _ vv AA => ∃ g132 : Nat, vv = .slice (some ⟨g132, 0, none⟩) 0 0 ∧ AA = SA.blk g132 9 #[]), .v 21 (.pointer (some ⟨g1, 12, none⟩)), .v 22 (.slice (m.fKeywords_a) (m.fKeywords.length) (m.fKeywords_c)), .p 23 (SA.emp) (fun _ vv AA => ∃ A139 : Option Addr, ∃ c139 : Nat, vv = .slice A139 m.fKeywords.length c139 ∧ AA = SA.own0 (.slice A139 m.fKeywords.length c139) 9 1 m.fKeywords.length (strs m.fKeywords)), .v 24 (.pointer (some ⟨g1, 4, none⟩)), .v 25 (.string m.fIcon), .v 26 (.pointer (some ⟨g1, 5, none⟩)), .v 27 (.string m.fAPIVersion), .v 28 (.pointer (some ⟨g1, 6, none⟩)), .v 29 (.string m.fCondition), .v 30 (.pointer (some ⟨g1, 7, none⟩)), .v 31 (.string m.fTags), .v 32 (.pointer (some ⟨g1, 8, none⟩)), .v 33 (.string m.fAppVersion), .v 34 (.pointer (some ⟨g1, 9, none⟩)), .v 35 (.string m.fKubeVersion), .v 36 (.pointer (some ⟨g1, 10, none⟩)), .v 37 (.string m.fType), .p 38 (SA.emp) (fun env vv AA => ∃ A125x : Option Addr, ∃ c125x : Nat, ∃ A139x : Option Addr, ∃ c139x : Nat, (env.getD 4 undef) = .slice A125x m.fSources.length c125x ∧ (env.getD 9 undef) = .slice A139x m.fKeywords.length c139x ∧ vv = .agg #[.string m.fName, .string m.fHome, .slice A125x m.fSources.length c125x, .string m.fVersion, .string m.fDescription, .slice A139x m.fKeywords.length c139x, .slice none 0 0, .string m.fIcon, .string m.fAPIVersion, .string m.fCondition, .string m.fTags, .string m.fAppVersion, .bool false, .map none, .string m.fKubeVersion, .slice none 0 0, .string m.fType] ∧ AA = SA.emp), .p 39 (SA.emp) (fun env vv AA => ∃ A125x : Option Addr, ∃ c125x : Nat, ∃ A139x : Option Addr, ∃ c139x : Nat, ∃ g197 : Nat, (env.getD 4 undef) = .slice A125x m.fSources.length c125x ∧ (env.getD 9 undef) = .slice A139x m.fKeywords.length c139x ∧ vv = .pointer (some ⟨g197, 0, none⟩) ∧ AA = SA.blk g197 237 #[.string m.fName, .string m.fHome, .slice A125x m.fSources.length c125x, .string m.fVersion, .string m.fDescription, .slice A139x m.fKeywords.length c139x, .slice none 0 0, .string m.fIcon, .string m.fAPIVersion, .string m.fCondition, .string m.fTags, .string m.fAppVersion, .bool false, .map none, .string m.fKubeVersion, .slice none 0 0, .string m.fType]), .p 3 (SA.emp) (fun env vv AA => ∃ g197x : Nat, (env.getD 18 undef) = .pointer (some ⟨g197x, 0, none⟩) ∧ vv = .pointer (some ⟨g197x, 0, none⟩) ∧ AA = SA.emp)] [] F4 rfl (by kernel_rfl) S3.emp.emp.emp.emp.emp.emp.emp ?_ ?_
  · refine ⟨?_, ?_, ?_, ?_, ?_, ?_, ?_, ?_, ?_, ?_, ?_, ?_, ?_, ?_, ?_, ?_, ?_, ?_, ?_, ?_, ?_, ?_, ?_, ?_, ?_, ?_, ?_, ?_, ?_, ?_, ?_, ?_, ?_, trivial⟩
    · intro w112 M112
      intro a112 F112 S112
      refine obl_of (by rfl) ?_
      exact s_p F112 (v := .pointer (some ⟨g1, 0, none⟩)) (by kernel_rfl) (by kernel_rfl) (by kernel_rfl) S112
    · intro w113 M113
      intro a113 F113 S113
      refine obl_of (by rfl) ?_
      exact s_r (v := .string m.fName) (r_ld rfl (F113.e (.pointer (some ⟨g1, 0, none⟩))) (v := .string m.fName) (((Sp.dropM S113.drop).bk 0 rfl).cell 0) Try.underlying9 rfl) S113
    · intro w115 M115
      intro a115 F115 S115
      refine obl_of (by rfl) ?_
      exact s_p F115 (v := .pointer (some ⟨g1, 1, none⟩)) (by kernel_rfl) (by kernel_rfl) (by kernel_rfl) S115
    · intro w116 M116
      intro a116 F116 S116
      refine obl_of (by rfl) ?_
      exact s_r (v := .string m.fHome) (r_ld rfl (F116.e (.pointer (some ⟨g1, 1, none⟩))) (v := .string m.fHome) (((Sp.dropM S116.drop).bk 0 rfl).cell 1) Try.underlying9 rfl) S116
    · intro w118 M118
      intro a118 F118 S118
      refine obl_of (by rfl) ?_
      exact s_news F118 9 #[] 0 (by kernel_rfl) (by kernel_rfl) (by kernel_rfl) S118.drop
    · intro w119 M119
      intro a119 F119 S119
      refine obl_of (by rfl) ?_
      exact s_p F119 (v := .pointer (some ⟨g1, 11, none⟩)) (by kernel_rfl) (by kernel_rfl) (by kernel_rfl) S119
    · intro w120 M120
      intro a120 F120 S120
      refine obl_of (by rfl) ?_
      exact s_r (v := .slice (m.fSources_a) (m.fSources.length) (m.fSources_c)) (r_ld rfl (F120.e (.pointer (some ⟨g1, 11, none⟩))) (v := .slice (m.fSources_a) (m.fSources.length) (m.fSources_c)) (((Sp.dropM S120.drop).bk 0 rfl).cell 11) Try.underlying22 rfl) S120
    · intro w122 M122
      rintro _ _ ⟨g118, rfl, rfl⟩ hA123
      intro a122 F122 S122
      refine obl_of (by rfl) ?_
      exact s_app0 rfl Try.underlying22 1 _ tin9 rfl rfl (F122.e (.slice (some ⟨g118, 0, none⟩) 0 0)) S122.drop (strs m.fSources) (F122.e (.slice (m.fSources_a) (m.fSources.length) (m.fSources_c))) (h0 _ (Sp.dropM S122.drop).drop) (by first | (simp [strs, ptrs, pps]; done) | (simp [strs, ptrs, pps]; omega)) (by omega) (by omega)
    · intro w126 M126
      intro a126 F126 S126
      refine obl_of (by rfl) ?_
      exact s_p F126 (v := .pointer (some ⟨g1, 2, none⟩)) (by kernel_rfl) (by kernel_rfl) (by kernel_rfl) S126
    · intro w127 M127
      intro a127 F127 S127
      refine obl_of (by rfl) ?_
      exact s_r (v := .string m.fVersion) (r_ld rfl (F127.e (.pointer (some ⟨g1, 2, none⟩))) (v := .string m.fVersion) (((Sp.dropM S127.drop).bk 0 rfl).cell 2) Try.underlying9 rfl) S127
    · intro w129 M129
      intro a129 F129 S129
      refine obl_of (by rfl) ?_
      exact s_p F129 (v := .pointer (some ⟨g1, 3, none⟩)) (by kernel_rfl) (by kernel_rfl) (by kernel_rfl) S129
    · intro w130 M130
      intro a130 F130 S130
      refine obl_of (by rfl) ?_
      exact s_r (v := .string m.fDescription) (r_ld rfl (F130.e (.pointer (some ⟨g1, 3, none⟩))) (v := .string m.fDescription) (((Sp.dropM S130.drop).bk 0 rfl).cell 3) Try.underlying9 rfl) S130
    · intro w132 M132
      intro a132 F132 S132
      refine obl_of (by rfl) ?_
      exact s_news F132 9 #[] 0 (by kernel_rfl) (by kernel_rfl) (by kernel_rfl) S132.drop
    · intro w133 M133
      intro a133 F133 S133
      refine obl_of (by rfl) ?_
      exact s_p F133 (v := .pointer (some ⟨g1, 12, none⟩)) (by kernel_rfl) (by kernel_rfl) (by kernel_rfl) S133
    · intro w134 M134
      intro a134 F134 S134
      refine obl_of (by rfl) ?_
      exact s_r (v := .slice (m.fKeywords_a) (m.fKeywords.length) (m.fKeywords_c)) (r_ld rfl (F134.e (.pointer (some ⟨g1, 12, none⟩))) (v := .slice (m.fKeywords_a) (m.fKeywords.length) (m.fKeywords_c)) (((Sp.dropM S134.drop).bk 0 rfl).cell 12) Try.underlying22 rfl) S134
    · intro w136 M136
      rintro _ _ ⟨g132, rfl, rfl⟩ hA137
      intro a136 F136 S136
      refine obl_of (by rfl) ?_
      exact s_app0 rfl Try.underlying22 1 _ tin9 rfl rfl (F136.e (.slice (some ⟨g132, 0, none⟩) 0 0)) S136.drop (strs m.fKeywords) (F136.e (.slice (m.fKeywords_a) (m.fKeywords.length) (m.fKeywords_c))) (h1 _ (Sp.dropM S136.drop).drop) (by first | (simp [strs, ptrs, pps]; done) | (simp [strs, ptrs, pps]; omega)) (by omega) (by omega)
    · intro w140 M140
      intro a140 F140 S140
      refine obl_of (by rfl) ?_
      exact s_p F140 (v := .pointer (some ⟨g1, 4, none⟩)) (by kernel_rfl) (by kernel_rfl) (by kernel_rfl) S140
    · intro w141 M141
      intro a141 F141 S141
      refine obl_of (by rfl) ?_
      exact s_r (v := .string m.fIcon) (r_ld rfl (F141.e (.pointer (some ⟨g1, 4, none⟩))) (v := .string m.fIcon) (((Sp.dropM S141.drop).bk 0 rfl).cell 4) Try.underlying9 rfl) S141
    · intro w143 M143
      intro a143 F143 S143
      refine obl_of (by rfl) ?_
      exact s_p F143 (v := .pointer (some ⟨g1, 5, none⟩)) (by kernel_rfl) (by kernel_rfl) (by kernel_rfl) S143
    · intro w144 M144
      intro a144 F144 S144
      refine obl_of (by rfl) ?_
      exact s_r (v := .string m.fAPIVersion) (r_ld rfl (F144.e (.pointer (some ⟨g1, 5, none⟩))) (v := .string m.fAPIVersion) (((Sp.dropM S144.drop).bk 0 rfl).cell 5) Try.underlying9 rfl) S144
    · intro w146 M146
      intro a146 F146 S146
      refine obl_of (by rfl) ?_
      exact s_p F146 (v := .pointer (some ⟨g1, 6, none⟩)) (by kernel_rfl) (by kernel_rfl) (by kernel_rfl) S146
    · intro w147 M147
      intro a147 F147 S147
      refine obl_of (by rfl) ?_
      exact s_r (v := .string m.fCondition) (r_ld rfl (F147.e (.pointer (some ⟨g1, 6, none⟩))) (v := .string m.fCondition) (((Sp.dropM S147.drop).bk 0 rfl).cell 6) Try.underlying9 rfl) S147
    · intro w149 M149
      intro a149 F149 S149
      refine obl_of (by rfl) ?_
      exact s_p F149 (v := .pointer (some ⟨g1, 7, none⟩)) (by kernel_rfl) (by kernel_rfl) (by kernel_rfl) S149
    · intro w150 M150
      intro a150 F150 S150
      refine obl_of (by rfl) ?_
      exact s_r (v := .string m.fTags) (r_ld rfl (F150.e (.pointer (some ⟨g1, 7, none⟩))) (v := .string m.fTags) (((Sp.dropM S150.drop).bk 0 rfl).cell 7) Try.underlying9 rfl) S150
    · intro w152 M152
      intro a152 F152 S152
      refine obl_of (by rfl) ?_
      exact s_p F152 (v := .pointer (some ⟨g1, 8, none⟩)) (by kernel_rfl) (by kernel_rfl) (by kernel_rfl) S152
    · intro w153 M153
      intro a153 F153 S153
      refine obl_of (by rfl) ?_
      exact s_r (v := .string m.fAppVersion) (r_ld rfl (F153.e (.pointer (some ⟨g1, 8, none⟩))) (v := .string m.fAppVersion) (((Sp.dropM S153.drop).bk 0 rfl).cell 8) Try.underlying9 rfl) S153
    · intro w155 M155
      intro a155 F155 S155
      refine obl_of (by rfl) ?_
      exact s_p F155 (v := .pointer (some ⟨g1, 9, none⟩)) (by kernel_rfl) (by kernel_rfl) (by kernel_rfl) S155
    · intro w156 M156
      intro a156 F156 S156
      refine obl_of (by rfl) ?_
      exact s_r (v := .string m.fKubeVersion) (r_ld rfl (F156.e (.pointer (some ⟨g1, 9, none⟩))) (v := .string m.fKubeVersion) (((Sp.dropM S156.drop).bk 0 rfl).cell 9) Try.underlying9 rfl) S156
    · intro w158 M158
      intro a158 F158 S158
      refine obl_of (by rfl) ?_
      exact s_p F158 (v := .pointer (some ⟨g1, 10, none⟩)) (by kernel_rfl) (by kernel_rfl) (by kernel_rfl) S158
    · intro w159 M159
      intro a159 F159 S159
      refine obl_of (by rfl) ?_
      exact s_r (v := .string m.fType) (r_ld rfl (F159.e (.pointer (some ⟨g1, 10, none⟩))) (v := .string m.fType) (((Sp.dropM S159.drop).bk 0 rfl).cell 10) Try.underlying9 rfl) S159
    · intro w161 M161
      rintro _ _ ⟨g118, rfl, rfl⟩ hA164
      rintro _ _ ⟨A125, c125, rfl, rfl⟩ hA166
      rintro _ _ ⟨g132, rfl, rfl⟩ hA169
      rintro _ _ ⟨A139, c139, rfl, rfl⟩ hA171
      intro a161 F161 S161
      refine obl_of (by rfl) ?_
      exact sAt_mono (s_p F161 (v := .agg #[.string m.fName, .string m.fHome, .slice A125 m.fSources.length c125, .string m.fVersion, .string m.fDescription, .slice A139 m.fKeywords.length c139, .slice none 0 0, .string m.fIcon, .string m.fAPIVersion, .string m.fCondition, .string m.fTags, .string m.fAppVersion, .bool false, .map none, .string m.fKubeVersion, .slice none 0 0, .string m.fType]) (by kernel_rfl) (by kernel_rfl) (by kernel_rfl) S161) fun _ _ ⟨e1, e2⟩ => ⟨A125, c125, A139, c139, (by kernel_rfl), (by kernel_rfl), e1, e2⟩
    · intro w179 M179
      rintro _ _ ⟨g118, rfl, rfl⟩ hA182
      rintro _ _ ⟨A125, c125, rfl, rfl⟩ hA184
      rintro _ _ ⟨g132, rfl, rfl⟩ hA187
      rintro _ _ ⟨A139, c139, rfl, rfl⟩ hA189
      rintro _ _ ⟨A125x, c125x, A139x, c139x, e30_4, e30_9, rfl, rfl⟩ hA197
      have e30_4 := envE_at (v := .slice A125 m.fSources.length c125) e30_4 (by kernel_rfl)
      have e30_9 := envE_at (v := .slice A139 m.fKeywords.length c139) e30_9 (by kernel_rfl)
      obtain ⟨rfl, rfl, rfl, rfl⟩ : A125 = A125x ∧ c125 = c125x ∧ A139 = A139x ∧ c139 = c139x := by cases e30_4; cases e30_9; exact ⟨rfl, rfl, rfl, rfl⟩
      clear e30_4 e30_9
      intro a179 F179 S179
      refine obl_of (by rfl) ?_
      exact sAt_mono (s_newp F179 237 #[.string m.fName, .string m.fHome, .slice A125 m.fSources.length c125, .string m.fVersion, .string m.fDescription, .slice A139 m.fKeywords.length c139, .slice none 0 0, .string m.fIcon, .string m.fAPIVersion, .string m.fCondition, .string m.fTags, .string m.fAppVersion, .bool false, .map none, .string m.fKubeVersion, .slice none 0 0, .string m.fType] (by kernel_rfl) (by kernel_rfl) (by kernel_rfl) S179.drop) fun _ _ ⟨g197, e1, e2⟩ => ⟨A125, c125, A139, c139, g197, (by kernel_rfl), (by kernel_rfl), e1, e2⟩
    · intro w198 M198
      rintro _ _ ⟨g118, rfl, rfl⟩ hA201
      rintro _ _ ⟨A125, c125, rfl, rfl⟩ hA203
      rintro _ _ ⟨g132, rfl, rfl⟩ hA206
      rintro _ _ ⟨A139, c139, rfl, rfl⟩ hA208
      rintro _ _ ⟨A125x, c125x, A139x, c139x, e30_4, e30_9, rfl, rfl⟩ hA216
      have e30_4 := envE_at (v := .slice A125 m.fSources.length c125) e30_4 (by kernel_rfl)
      have e30_9 := envE_at (v := .slice A139 m.fKeywords.length c139) e30_9 (by kernel_rfl)
      obtain ⟨rfl, rfl, rfl, rfl⟩ : A125 = A125x ∧ c125 = c125x ∧ A139 = A139x ∧ c139 = c139x := by cases e30_4; cases e30_9; exact ⟨rfl, rfl, rfl, rfl⟩
      clear e30_4 e30_9
      rintro _ _ ⟨A125x, c125x, A139x, c139x, g197, e31_4, e31_9, rfl, rfl⟩ hA217
      have e31_4 := envE_at (v := .slice A125 m.fSources.length c125) e31_4 (by kernel_rfl)
      have e31_9 := envE_at (v := .slice A139 m.fKeywords.length c139) e31_9 (by kernel_rfl)
      obtain ⟨rfl, rfl, rfl, rfl⟩ : A125 = A125x ∧ c125 = c125x ∧ A139 = A139x ∧ c139 = c139x := by cases e31_4; cases e31_9; exact ⟨rfl, rfl, rfl, rfl⟩
      clear e31_4 e31_9
      intro a198 F198 S198
      refine obl_of (by rfl) ?_
      exact sAt_mono (s_p F198 (v := .pointer (some ⟨g197, 0, none⟩)) (by kernel_rfl) (by kernel_rfl) (by kernel_rfl) S198) fun _ _ ⟨e1, e2⟩ => ⟨g197, (by kernel_rfl), e1, e2⟩
  · rintro _ _ ⟨g118, rfl, rfl⟩
    rintro _ _ ⟨A125, c125, rfl, rfl⟩
    rintro _ _ ⟨g132, rfl, rfl⟩
    rintro _ _ ⟨A139, c139, rfl, rfl⟩
    rintro _ _ ⟨A125x, c125x, A139x, c139x, e30_4, e30_9, rfl, rfl⟩
    have e30_4 := envE_at (v := .slice A125 m.fSources.length c125) e30_4 (by kernel_rfl)
    have e30_9 := envE_at (v := .slice A139 m.fKeywords.length c139) e30_9 (by kernel_rfl)
    obtain ⟨rfl, rfl, rfl, rfl⟩ : A125 = A125x ∧ c125 = c125x ∧ A139 = A139x ∧ c139 = c139x := by cases e30_4; cases e30_9; exact ⟨rfl, rfl, rfl, rfl⟩
    clear e30_4 e30_9
    rintro _ _ ⟨A125x, c125x, A139x, c139x, g197, e31_4, e31_9, rfl, rfl⟩
    have e31_4 := envE_at (v := .slice A125 m.fSources.length c125) e31_4 (by kernel_rfl)
    have e31_9 := envE_at (v := .slice A139 m.fKeywords.length c139) e31_9 (by kernel_rfl)
    obtain ⟨rfl, rfl, rfl, rfl⟩ : A125 = A125x ∧ c125 = c125x ∧ A139 = A139x ∧ c139 = c139x := by cases e31_4; cases e31_9; exact ⟨rfl, rfl, rfl, rfl⟩
    clear e31_4 e31_9
    rintro _ _ ⟨g197x, e32_18, rfl, rfl⟩
    have e32_18 := envE_at (v := .pointer (some ⟨g197, 0, none⟩)) e32_18 (by kernel_rfl)
    obtain rfl : g197 = g197x := by cases e32_18; rfl
    clear e32_18
    intro a219 w218 F219 S218
    have S220 : Sp R w218 (SA.blk g197 237 #[.string m.fName, .string m.fHome, .slice A125 m.fSources.length c125, .string m.fVersion, .string m.fDescription, .slice A139 m.fKeywords.length c139, .slice none 0 0, .string m.fIcon, .string m.fAPIVersion, .string m.fCondition, .string m.fTags, .string m.fAppVersion, .bool false, .map none, .string m.fKubeVersion, .slice none 0 0, .string m.fType] :: SA.own0 (.slice A139 m.fKeywords.length c139) 9 1 m.fKeywords.length (strs m.fKeywords) :: SA.blk g132 9 #[] :: SA.own0 (.slice A125 m.fSources.length c125) 9 1 m.fSources.length (strs m.fSources) :: SA.blk g118 9 #[] :: SA.blk g1 26 #[.string m.fName, .string m.fHome, .string m.fVersion, .string m.fDescription, .string m.fIcon, .string m.fAPIVersion, .string m.fCondition, .string m.fTags, .string m.fAppVersion, .string m.fKubeVersion, .string m.fType, .slice (m.fSources_a) (m.fSources.length) (m.fSources_c), .slice (m.fKeywords_a) (m.fKeywords.length) (m.fKeywords_c), .slice (m.fMaintainers_a) (m.fMaintainers.length) (m.fMaintainers_c), .slice (m.fDependencies_a) (m.fDependencies.length) (m.fDependencies_c)] :: L) := S218.drop.p1.drop
    refine wpList_nil ?_
    refine hK5 _ _ ?_; clear hK5 K5
    refine wp_seq_k fun K221 hK221 => ?_
    refine wp_seq_k fun K222 hK222 => ?_
    refine wp_region_lit ?_
    refine op_q F219 (.pointer (some ⟨g1, 13, none⟩)) ?_; intro a223 F223
    refine op_rq (v := .slice (m.fMaintainers_a) (m.fMaintainers.length) (m.fMaintainers_c)) F223 (r_ld rfl (F223.e (.pointer (some ⟨g1, 13, none⟩))) (v := .slice (m.fMaintainers_a) (m.fMaintainers.length) (m.fMaintainers_c)) ((S220.bk 5 rfl).cell 13) Try.underlying23 rfl) ?_; intro a224 F224
    refine op_q F224 (.int .i64 (↑m.fMaintainers.length)) ?_; intro a225 F225
    refine op_q F225 (.int .i64 0) ?_; intro a226 F226
    refine wpList_nil ?_
    refine hK222 _ _ ?_; clear hK222 K222
    refine wp_block ?_
    have S227 : Sp R w218 (SA.zips SA.per [] (m.fMaintainers.take 0) :: SA.blk g197 237 #[.string m.fName, .string m.fHome, .slice A125 m.fSources.length c125, .string m.fVersion, .string m.fDescription, .slice A139 m.fKeywords.length c139, .slice none 0 0, .string m.fIcon, .string m.fAPIVersion, .string m.fCondition, .string m.fTags, .string m.fAppVersion, .bool false, .map none, .string m.fKubeVersion, .slice none 0 0, .string m.fType] :: SA.own0 (.slice A139 m.fKeywords.length c139) 9 1 m.fKeywords.length (strs m.fKeywords) :: SA.blk g132 9 #[] :: SA.own0 (.slice A125 m.fSources.length c125) 9 1 m.fSources.length (strs m.fSources) :: SA.blk g118 9 #[] :: SA.blk g1 26 #[.string m.fName, .string m.fHome, .string m.fVersion, .string m.fDescription, .string m.fIcon, .string m.fAPIVersion, .string m.fCondition, .string m.fTags, .string m.fAppVersion, .string m.fKubeVersion, .string m.fType, .slice (m.fSources_a) (m.fSources.length) (m.fSources_c), .slice (m.fKeywords_a) (m.fKeywords.length) (m.fKeywords_c), .slice (m.fMaintainers_a) (m.fMaintainers.length) (m.fMaintainers_c), .slice (m.fDependencies_a) (m.fDependencies.length) (m.fDependencies_c)] :: L) := Sp.znil S220
    have S228 := Sp.nilown (e := 238) (sz := 1) S227
    refine fw_loop (fun m' a' w' => ∃ A3 : Option Addr, ∃ c3 : Nat, ∃ qs : List (Option Addr), ∃ k : Nat, m.fMaintainers.length - k = m' ∧ Fr 79 [] a' [(1, .pointer (some ⟨g1, 0, none⟩)), (2, .pointer none), (3, .pointer (some ⟨g197, 0, none⟩)), (41, .slice (m.fMaintainers_a) (m.fMaintainers.length) (m.fMaintainers_c)), (42, .int .i64 (↑m.fMaintainers.length)), (43, .int .i64 (↑k))] ∧ Sp R w' (SA.blk g197 237 #[.string m.fName, .string m.fHome, .slice A125 m.fSources.length c125, .string m.fVersion, .string m.fDescription, .slice A139 m.fKeywords.length c139, .slice A3 qs.length c3, .string m.fIcon, .string m.fAPIVersion, .string m.fCondition, .string m.fTags, .string m.fAppVersion, .bool false, .map none, .string m.fKubeVersion, .slice none 0 0, .string m.fType] :: SA.own (.slice A3 qs.length c3) 238 1 qs.length (pps qs) :: SA.zips SA.per qs (m.fMaintainers.take k) :: SA.own0 (.slice A139 m.fKeywords.length c139) 9 1 m.fKeywords.length (strs m.fKeywords) :: SA.own0 (.slice A125 m.fSources.length c125) 9 1 m.fSources.length (strs m.fSources) :: SA.blk g1 26 #[.string m.fName, .string m.fHome, .string m.fVersion, .string m.fDescription, .string m.fIcon, .string m.fAPIVersion, .string m.fCondition, .string m.fTags, .string m.fAppVersion, .string m.fKubeVersion, .string m.fType, .slice (m.fSources_a) (m.fSources.length) (m.fSources_c), .slice (m.fKeywords_a) (m.fKeywords.length) (m.fKeywords_c), .slice (m.fMaintainers_a) (m.fMaintainers.length) (m.fMaintainers_c), .slice (m.fDependencies_a) (m.fDependencies.length) (m.fDependencies_c)] :: L) ∧ (k ≤ m.fMaintainers.length) ∧ (qs.length = k)) _ ⟨none, 0, [], 0, rfl, (F226.kk 1 (F226.kk 2 (F226.kk 3 (F226.kk 41 (F226.kk 42 (F226.kk 43 F226.nil)))))), S228.p4.drop.p5.drop.p5.p5.p5.p4.p4.p5, (by first | omega | (with_reducible assumption) | (simp; done)), rfl⟩ ?_
    rintro m229 a229 w229 ⟨A3, c3, qs, k, hm229, F229, S229, hk, hql⟩ K229 hK229
    by_cases hlt_k : k < m.fMaintainers.length
    · have hc_k : decide ((↑k : Int) < ↑m.fMaintainers.length) = true := by first | (simp; done) | (simp; omega)
      obtain ⟨ad230, hA230⟩ := (h2 _ S229.drop.drop.drop.drop.drop.drop).addr (by simp; omega)
      refine wp_seq_k fun K231 hK231 => ?_
      refine wp_region_lit ?_
      refine op_q F229 (.bool (decide ((↑k : Int) < ↑m.fMaintainers.length))) ?_; intro a232 F232
      have F233 := F232.sb 44 (by kernel_rfl) hc_k
      refine wpList_nil ?_
      refine hK231 _ _ ?_; clear hK231 K231
      refine wp_seq_k fun K234 hK234 => ?_
      refine wp_cond_true (F233.ev (by kernel_rfl)) ?_
      refine wp_skip ?_
      refine hK234 _ _ ?_; clear hK234 K234
      refine wp_seq_k fun K235 hK235 => ?_
      refine wp_block ?_
      refine wp_seq_k fun K236 hK236 => ?_
      refine wp_region_lit ?_
      refine op_rq (v := .pointer (some (ad230.add (k * 4)))) F233 (r_ix rfl Try.underlying23 4 (by kernel_rfl) (F233.e (.slice (m.fMaintainers_a) (m.fMaintainers.length) (m.fMaintainers_c))) hA230 (F233.e (.int .i64 (↑k))) k (by first | rfl | omega | simp) (by first | omega | (simp; done) | (simp; omega)) (rfl)) ?_; intro a237 F237
      refine op_rq (v := .agg #[.bool m.fMaintainers[k].fNil, .string m.fMaintainers[k].fName, .string m.fMaintainers[k].fEmail, .string m.fMaintainers[k].fURL]) F237 (r_ldR rfl (F237.e (.pointer (some (ad230.add (k * 4))))) (cs := [.bool m.fMaintainers[k].fNil, .string m.fMaintainers[k].fName, .string m.fMaintainers[k].fEmail, .string m.fMaintainers[k].fURL]) ((h2 _ S229.drop.drop.drop.drop.drop.drop).elA hA230 (j := k) (row := m.fMaintainers[k].cells) (by rw [List.getElem?_map, List.getElem?_eq_getElem hlt_k]; rfl)) Try.underlying78 rfl (by kernel_rfl) (v := #[.bool m.fMaintainers[k].fNil, .string m.fMaintainers[k].fName, .string m.fMaintainers[k].fEmail, .string m.fMaintainers[k].fURL]) (by kernel_rfl)) ?_; intro a238 F238
      refine op_sq F238 (s_newp F238 78 #[.bool false, .string ⟨#[]⟩, .string ⟨#[]⟩, .string ⟨#[]⟩] (by kernel_rfl) (by kernel_rfl) (by kernel_rfl) S229) ?_
      rintro _ _ w240 ⟨g238, rfl, rfl⟩ S240 a240 F240
      refine op_sq0 F240 (s_stb rfl (F240.e (.pointer (some ⟨g238, 0, none⟩))) (F240.e (.agg #[.bool m.fMaintainers[k].fNil, .string m.fMaintainers[k].fName, .string m.fMaintainers[k].fEmail, .string m.fMaintainers[k].fURL])) S240 (by kernel_rfl) rfl (by kernel_rfl)) ?_
      rintro _ _ w241 rfl S241 F241
      refine wpList_nil ?_
      refine hK236 _ _ ?_; clear hK236 K236
      refine wp_region_sepF (L0 := SA.blk g238 78 #[.bool m.fMaintainers[k].fNil, .string m.fMaintainers[k].fName, .string m.fMaintainers[k].fEmail, .string m.fMaintainers[k].fURL] :: SA.blk g197 237 #[.string m.fName, .string m.fHome, .slice A125 m.fSources.length c125, .string m.fVersion, .string m.fDescription, .slice A139 m.fKeywords.length c139, .slice A3 qs.length c3, .string m.fIcon, .string m.fAPIVersion, .string m.fCondition, .string m.fTags, .string m.fAppVersion, .bool false, .map none, .string m.fKubeVersion, .slice none 0 0, .string m.fType] :: SA.zips SA.per qs (m.fMaintainers.take k) :: SA.own0 (.slice A139 m.fKeywords.length c139) 9 1 m.fKeywords.length (strs m.fKeywords) :: SA.own0 (.slice A125 m.fSources.length c125) 9 1 m.fSources.length (strs m.fSources) :: SA.blk g1 26 #[.string m.fName, .string m.fHome, .string m.fVersion, .string m.fDescription, .string m.fIcon, .string m.fAPIVersion, .string m.fCondition, .string m.fTags, .string m.fAppVersion, .string m.fKubeVersion, .string m.fType, .slice (m.fSources_a) (m.fSources.length) (m.fSources_c), .slice (m.fKeywords_a) (m.fKeywords.length) (m.fKeywords_c), .slice (m.fMaintainers_a) (m.fMaintainers.length) (m.fMaintainers_c), .slice (m.fDependencies_a) (m.fDependencies.length) (m.fDependencies_c)] :: L) [some [], some [], some [(1, 48)], some [(2, 49)], some [(3, 50)], some [], some [(5, 52)], some [(5, 52), (6, 53)], some [(4, 51), (5, 52), (6, 53), (7, 54)], some [(0, 47)], some [(9, 56)], none] [.v 47 (.pointer (some ⟨g197, 0, none⟩)), .v 48 (.pointer (some ⟨g197, 0, none⟩)), .v 49 (.pointer (some ⟨g197, 0, none⟩)), .v 50 (.pointer (some ⟨g197, 6, none⟩)), .v 51 (.slice A3 qs.length c3), .v 52 (.agg #[.bool m.fMaintainers[k].fNil, .string m.fMaintainers[k].fName, .string m.fMaintainers[k].fEmail, .string m.fMaintainers[k].fURL]), .p 53 (SA.emp) (fun _ vv AA => ∃ q278 : Option Addr, vv = .pointer q278 ∧ AA = SA.per q278 m.fMaintainers[k]), .p 54 (SA.emp) (fun env vv AA => ∃ q278x : Option Addr, ∃ g281 : Nat, (env.getD 1 undef) = .pointer q278x ∧ vv = .slice (some ⟨g281, 0, none⟩) 1 1 ∧ AA = SA.blk g281 238 #[.pointer q278x]), .p 55 (SA.own (.slice A3 qs.length c3) 238 1 qs.length (pps qs)) (fun env vv AA => ∃ q278x : Option Addr, ∃ A287 : Option Addr, ∃ c287 : Nat, (env.getD 2 undef) = .pointer q278x ∧ vv = .slice A287 ((qs ++ [q278x]).length) c287 ∧ AA = SA.own (.slice A287 ((qs ++ [q278x]).length) c287) 238 1 ((qs ++ [q278x]).length) (pps (qs ++ [q278x]))), .v 56 (.pointer (some ⟨g197, 0, none⟩)), .v 57 (.pointer (some ⟨g197, 6, none⟩)), .n SA.emp (fun _ _ A => A = SA.emp)] [] F241 rfl (by kernel_rfl) S241.p2.emp.emp ?_ ?_
      · refine ⟨?_, ?_, ?_, ?_, ?_, ?_, ?_, ?_, ?_, ?_, ?_, trivial⟩
        · intro w267 M267
          intro a267 F267 S267
          refine obl_of (by rfl) ?_
          exact s_p F267 (v := .pointer (some ⟨g197, 0, none⟩)) (by kernel_rfl) (by kernel_rfl) (by kernel_rfl) S267
        · intro w268 M268
          intro a268 F268 S268
          refine obl_of (by rfl) ?_
          exact s_p F268 (v := .pointer (some ⟨g197, 0, none⟩)) (by kernel_rfl) (by kernel_rfl) (by kernel_rfl) S268
        · intro w269 M269
          intro a269 F269 S269
          refine obl_of (by rfl) ?_
          exact s_p F269 (v := .pointer (some ⟨g197, 0, none⟩)) (by kernel_rfl) (by kernel_rfl) (by kernel_rfl) S269
        · intro w271 M271
          intro a271 F271 S271
          refine obl_of (by rfl) ?_
          exact s_p F271 (v := .pointer (some ⟨g197, 6, none⟩)) (by kernel_rfl) (by kernel_rfl) (by kernel_rfl) S271
        · intro w273 M273
          intro a273 F273 S273
          refine obl_of (by rfl) ?_
          exact s_r (v := .slice A3 qs.length c3) (r_ld rfl (F273.e (.pointer (some ⟨g197, 6, none⟩))) (v := .slice A3 qs.length c3) (((Sp.dropM S273.drop).bk 1 rfl).cell 6) Try.underlying233 rfl) S273
        · intro w275 M275
          intro a275 F275 S275
          refine obl_of (by rfl) ?_
          exact s_r (v := .agg #[.bool m.fMaintainers[k].fNil, .string m.fMaintainers[k].fName, .string m.fMaintainers[k].fEmail, .string m.fMaintainers[k].fURL]) (r_ldm rfl (F275.e (.pointer (some ⟨g238, 0, none⟩))) ((Sp.dropM S275.drop).bk 0 rfl) 4 (by kernel_rfl) Try.underlying78 rfl (by kernel_rfl) (v := #[.bool m.fMaintainers[k].fNil, .string m.fMaintainers[k].fName, .string m.fMaintainers[k].fEmail, .string m.fMaintainers[k].fURL]) (by kernel_rfl)) S275
        · intro w276 M276
          intro a276 F276 S276
          refine obl_of (by rfl) ?_
          refine s_c F276 (f := 160) (args := #[.agg #[.bool m.fMaintainers[k].fNil, .string m.fMaintainers[k].fName, .string m.fMaintainers[k].fEmail, .string m.fMaintainers[k].fURL]]) (by kernel_rfl) (by kernel_rfl) (by kernel_rfl) (personOf_sp m.fMaintainers[k] _ _ _ S276.drop ) ?_
          rintro _ _ ⟨q278, rfl, S278⟩
          exact ⟨_, _, rfl, ⟨q278, rfl, rfl⟩, S278⟩
        · intro w279 M279
          rintro _ _ ⟨q278, rfl, rfl⟩ hA281
          intro a279 F279 S279
          refine obl_of (by rfl) ?_
          exact sAt_mono (s_news F279 238 #[.pointer q278] 1 (by kernel_rfl) (by kernel_rfl) (by kernel_rfl) S279.drop) fun _ _ ⟨g281, e1, e2⟩ => ⟨q278, g281, (by kernel_rfl), e1, e2⟩
        · intro w282 M282
          rintro _ _ ⟨q278, rfl, rfl⟩ hA285
          rintro _ _ ⟨q278x, g281, e7_1, rfl, rfl⟩ hA286
          have e7_1 := envE_at (v := .pointer q278) e7_1 (by kernel_rfl)
          obtain rfl : q278 = q278x := by cases e7_1; rfl
          clear e7_1
          intro a282 F282 S282
          refine obl_of (by rfl) ?_
          exact sAt_mono (s_app rfl Try.underlying233 1 _ tin238 rfl rfl (F282.e (.slice A3 qs.length c3)) S282 ([Value.pointer q278]) (F282.e (.slice (some ⟨g281, 0, none⟩) 1 1)) ((Sp.bkm S282.drop hA286).sl (by simp)) rfl (by simp [Value.oneCell']) (by omega) (by omega) (n' := (qs ++ [q278]).length) (by first | (simp; done) | (simp; omega)) (cs' := pps (qs ++ [q278])) (by simp [pps])) fun _ _ ⟨A287, c287, e1, e2⟩ => ⟨q278, A287, c287, (by kernel_rfl), e1, e2⟩
        · intro w288 M288
          intro a288 F288 S288
          refine obl_of (by rfl) ?_
          exact s_p F288 (v := .pointer (some ⟨g197, 0, none⟩)) (by kernel_rfl) (by kernel_rfl) (by kernel_rfl) S288
        · intro w290 M290
          intro a290 F290 S290
          refine obl_of (by rfl) ?_
          exact s_p F290 (v := .pointer (some ⟨g197, 6, none⟩)) (by kernel_rfl) (by kernel_rfl) (by kernel_rfl) S290
      · rintro _ _ ⟨q278, rfl, rfl⟩
        rintro _ _ ⟨q278x, g281, e7_1, rfl, rfl⟩
        have e7_1 := envE_at (v := .pointer q278) e7_1 (by kernel_rfl)
        obtain rfl : q278 = q278x := by cases e7_1; rfl
        clear e7_1
        rintro _ _ ⟨q278x, A287, c287, e8_2, rfl, rfl⟩
        have e8_2 := envE_at (v := .pointer q278) e8_2 (by kernel_rfl)
        obtain rfl : q278 = q278x := by cases e8_2; rfl
        clear e8_2
        intro a293 w292 F293 S292
        have S294 : Sp R w292 (SA.own (.slice A287 ((qs ++ [q278]).length) c287) 238 1 ((qs ++ [q278]).length) (pps (qs ++ [q278])) :: SA.blk g281 238 #[.pointer q278] :: SA.per q278 m.fMaintainers[k] :: SA.blk g238 78 #[.bool m.fMaintainers[k].fNil, .string m.fMaintainers[k].fName, .string m.fMaintainers[k].fEmail, .string m.fMaintainers[k].fURL] :: SA.blk g197 237 #[.string m.fName, .string m.fHome, .slice A125 m.fSources.length c125, .string m.fVersion, .string m.fDescription, .slice A139 m.fKeywords.length c139, .slice A3 qs.length c3, .string m.fIcon, .string m.fAPIVersion, .string m.fCondition, .string m.fTags, .string m.fAppVersion, .bool false, .map none, .string m.fKubeVersion, .slice none 0 0, .string m.fType] :: SA.zips SA.per qs (m.fMaintainers.take k) :: SA.own0 (.slice A139 m.fKeywords.length c139) 9 1 m.fKeywords.length (strs m.fKeywords) :: SA.own0 (.slice A125 m.fSources.length c125) 9 1 m.fSources.length (strs m.fSources) :: SA.blk g1 26 #[.string m.fName, .string m.fHome, .string m.fVersion, .string m.fDescription, .string m.fIcon, .string m.fAPIVersion, .string m.fCondition, .string m.fTags, .string m.fAppVersion, .string m.fKubeVersion, .string m.fType, .slice (m.fSources_a) (m.fSources.length) (m.fSources_c), .slice (m.fKeywords_a) (m.fKeywords.length) (m.fKeywords_c), .slice (m.fMaintainers_a) (m.fMaintainers.length) (m.fMaintainers_c), .slice (m.fDependencies_a) (m.fDependencies.length) (m.fDependencies_c)] :: L) := S292
        refine op_sq0 F293 (s_st rfl (F293.e (.pointer (some ⟨g197, 6, none⟩))) (F293.e (.slice A287 ((qs ++ [q278]).length) c287)) S294.p4 (by kernel_rfl) rfl rfl rfl (cs := #[.string m.fName, .string m.fHome, .slice A125 m.fSources.length c125, .string m.fVersion, .string m.fDescription, .slice A139 m.fKeywords.length c139, .slice A287 ((qs ++ [q278]).length) c287, .string m.fIcon, .string m.fAPIVersion, .string m.fCondition, .string m.fTags, .string m.fAppVersion, .bool false, .map none, .string m.fKubeVersion, .slice none 0 0, .string m.fType]) (by kernel_rfl)) ?_
        rintro _ _ w295 rfl S295 F295
        refine wpList_nil ?_
        refine hK235 _ _ ?_; clear hK235 K235
        refine wp_region_lit ?_
        refine op_rq (v := .int .i64 (↑(k + 1))) F295 (r_add (z := ↑(k + 1)) rfl (F295.e (.int .i64 (↑k))) (F295.e (.int .i64 1)) (wr64 (by omega) (by omega) (by omega))) ?_; intro a296 F296
        refine op_q F296 (.int .i64 (↑(k + 1))) ?_; intro a297 F297
        refine wpList_nil ?_
        have S298 : Sp R w295 (SA.zips SA.per (qs ++ [q278]) (m.fMaintainers.take (k + 1)) :: SA.blk g197 237 #[.string m.fName, .string m.fHome, .slice A125 m.fSources.length c125, .string m.fVersion, .string m.fDescription, .slice A139 m.fKeywords.length c139, .slice A287 ((qs ++ [q278]).length) c287, .string m.fIcon, .string m.fAPIVersion, .string m.fCondition, .string m.fTags, .string m.fAppVersion, .bool false, .map none, .string m.fKubeVersion, .slice none 0 0, .string m.fType] :: SA.own (.slice A287 ((qs ++ [q278]).length) c287) 238 1 ((qs ++ [q278]).length) (pps (qs ++ [q278])) :: SA.blk g281 238 #[.pointer q278] :: SA.blk g238 78 #[.bool m.fMaintainers[k].fNil, .string m.fMaintainers[k].fName, .string m.fMaintainers[k].fEmail, .string m.fMaintainers[k].fURL] :: SA.own0 (.slice A139 m.fKeywords.length c139) 9 1 m.fKeywords.length (strs m.fKeywords) :: SA.own0 (.slice A125 m.fSources.length c125) 9 1 m.fSources.length (strs m.fSources) :: SA.blk g1 26 #[.string m.fName, .string m.fHome, .string m.fVersion, .string m.fDescription, .string m.fIcon, .string m.fAPIVersion, .string m.fCondition, .string m.fTags, .string m.fAppVersion, .string m.fKubeVersion, .string m.fType, .slice (m.fSources_a) (m.fSources.length) (m.fSources_c), .slice (m.fKeywords_a) (m.fKeywords.length) (m.fKeywords_c), .slice (m.fMaintainers_a) (m.fMaintainers.length) (m.fMaintainers_c), .slice (m.fDependencies_a) (m.fDependencies.length) (m.fDependencies_c)] :: L) := by rw [List.take_succ_eq_append_getElem hlt_k]; exact Sp.zsnoc S295.p5.p4
        exact hK229 _ _ _ (by first | omega | (simp; omega)) ⟨A287, c287, qs ++ [q278], k + 1, rfl, (F297.kk 1 (F297.kk 2 (F297.kk 3 (F297.kk 41 (F297.kk 42 (F297.kk 43 F297.nil)))))), S298.p3.drop.p3.drop.p5.p5.p5.p3.p5.p5, (by first | omega | (with_reducible assumption) | (simp; done)), (by simp [hql])⟩
    · have hc_k : decide ((↑k : Int) < ↑m.fMaintainers.length) = false := by first | (simp; done) | (simp; omega)
      obtain rfl : k = m.fMaintainers.length := by omega
      rw [List.take_length] at S229
      refine wp_seq_k fun K299 hK299 => ?_
      refine wp_region_lit ?_
      refine op_q F229 (.bool (decide ((↑m.fMaintainers.length : Int) < ↑m.fMaintainers.length))) ?_; intro a300 F300
      have F301 := F300.sb 44 (by kernel_rfl) hc_k
      refine wpList_nil ?_
      refine hK299 _ _ ?_; clear hK299 K299
      refine wp_seq_k fun K302 hK302 => ?_
      refine wp_cond_false (F301.ev (by kernel_rfl)) ?_
      refine wp_exit ?_
      refine ex_then ?_; clear hK302 K302
      refine ex_then ?_
      refine ex_in ?_
      refine hK221 _ _ ?_; clear hK221 K221
      refine wp_seq_k fun K303 hK303 => ?_
      refine wp_seq_k fun K304 hK304 => ?_
      refine wp_region_lit ?_
      refine op_q F301 (.pointer (some ⟨g1, 14, none⟩)) ?_; intro a305 F305
      refine op_rq (v := .slice (m.fDependencies_a) (m.fDependencies.length) (m.fDependencies_c)) F305 (r_ld rfl (F305.e (.pointer (some ⟨g1, 14, none⟩))) (v := .slice (m.fDependencies_a) (m.fDependencies.length) (m.fDependencies_c)) ((S229.bk 5 rfl).cell 14) Try.underlying24 rfl) ?_; intro a306 F306
      refine op_q F306 (.int .i64 (↑m.fDependencies.length)) ?_; intro a307 F307
      refine op_q F307 (.int .i64 0) ?_; intro a308 F308
      refine wpList_nil ?_
      refine hK304 _ _ ?_; clear hK304 K304
      refine wp_block ?_
      have S309 : Sp R w229 (SA.zips SA.dep [] (m.fDependencies.take 0) :: SA.blk g197 237 #[.string m.fName, .string m.fHome, .slice A125 m.fSources.length c125, .string m.fVersion, .string m.fDescription, .slice A139 m.fKeywords.length c139, .slice A3 qs.length c3, .string m.fIcon, .string m.fAPIVersion, .string m.fCondition, .string m.fTags, .string m.fAppVersion, .bool false, .map none, .string m.fKubeVersion, .slice none 0 0, .string m.fType] :: SA.own (.slice A3 qs.length c3) 238 1 qs.length (pps qs) :: SA.zips SA.per qs m.fMaintainers :: SA.own0 (.slice A139 m.fKeywords.length c139) 9 1 m.fKeywords.length (strs m.fKeywords) :: SA.own0 (.slice A125 m.fSources.length c125) 9 1 m.fSources.length (strs m.fSources) :: SA.blk g1 26 #[.string m.fName, .string m.fHome, .string m.fVersion, .string m.fDescription, .string m.fIcon, .string m.fAPIVersion, .string m.fCondition, .string m.fTags, .string m.fAppVersion, .string m.fKubeVersion, .string m.fType, .slice (m.fSources_a) (m.fSources.length) (m.fSources_c), .slice (m.fKeywords_a) (m.fKeywords.length) (m.fKeywords_c), .slice (m.fMaintainers_a) (m.fMaintainers.length) (m.fMaintainers_c), .slice (m.fDependencies_a) (m.fDependencies.length) (m.fDependencies_c)] :: L) := Sp.znil S229
      have S310 := Sp.nilown (e := 240) (sz := 1) S309
      refine fw_loop (fun m' a' w' => ∃ A4 : Option Addr, ∃ c4 : Nat, ∃ us : List (Option Addr), ∃ j : Nat, m.fDependencies.length - j = m' ∧ Fr 79 [] a' [(2, .pointer none), (3, .pointer (some ⟨g197, 0, none⟩)), (60, .slice (m.fDependencies_a) (m.fDependencies.length) (m.fDependencies_c)), (61, .int .i64 (↑m.fDependencies.length)), (62, .int .i64 (↑j))] ∧ Sp R w' (SA.blk g197 237 #[.string m.fName, .string m.fHome, .slice A125 m.fSources.length c125, .string m.fVersion, .string m.fDescription, .slice A139 m.fKeywords.length c139, .slice A3 qs.length c3, .string m.fIcon, .string m.fAPIVersion, .string m.fCondition, .string m.fTags, .string m.fAppVersion, .bool false, .map none, .string m.fKubeVersion, .slice A4 us.length c4, .string m.fType] :: SA.own (.slice A4 us.length c4) 240 1 us.length (pps us) :: SA.zips SA.dep us (m.fDependencies.take j) :: SA.own (.slice A3 qs.length c3) 238 1 qs.length (pps qs) :: SA.zips SA.per qs m.fMaintainers :: SA.own0 (.slice A139 m.fKeywords.length c139) 9 1 m.fKeywords.length (strs m.fKeywords) :: SA.own0 (.slice A125 m.fSources.length c125) 9 1 m.fSources.length (strs m.fSources) :: SA.blk g1 26 #[.string m.fName, .string m.fHome, .string m.fVersion, .string m.fDescription, .string m.fIcon, .string m.fAPIVersion, .string m.fCondition, .string m.fTags, .string m.fAppVersion, .string m.fKubeVersion, .string m.fType, .slice (m.fSources_a) (m.fSources.length) (m.fSources_c), .slice (m.fKeywords_a) (m.fKeywords.length) (m.fKeywords_c), .slice (m.fMaintainers_a) (m.fMaintainers.length) (m.fMaintainers_c), .slice (m.fDependencies_a) (m.fDependencies.length) (m.fDependencies_c)] :: L) ∧ (j ≤ m.fDependencies.length) ∧ (us.length = j)) _ ⟨none, 0, [], 0, rfl, (F308.kk 2 (F308.kk 3 (F308.kk 60 (F308.kk 61 (F308.kk 62 F308.nil))))), S310.p7.p7.p7.p7.p7.p6.p6.p7, (by first | omega | (with_reducible assumption) | (simp; done)), rfl⟩ ?_
      rintro m311 a311 w311 ⟨A4, c4, us, j, hm311, F311, S311, hj, hul⟩ K311 hK311
      by_cases hlt_j : j < m.fDependencies.length
      · have hc_j : decide ((↑j : Int) < ↑m.fDependencies.length) = true := by first | (simp; done) | (simp; omega)
        obtain ⟨ad312, hA312⟩ := (h3 _ S311.drop.drop.drop.drop.drop.drop.drop.drop).addr (by simp; omega)
        have htg : Rf R L fun w => Sl w m.fDependencies[j].fTags_a (strs m.fDependencies[j].fTags) := fun w S => h4 w S _ (List.getElem_mem hlt_j)
        have htz : m.fDependencies[j].fTags.length ≤ 1000000 := hm5 _ (List.getElem_mem hlt_j)
        refine wp_seq_k fun K313 hK313 => ?_
        refine wp_region_lit ?_
        refine op_q F311 (.bool (decide ((↑j : Int) < ↑m.fDependencies.length))) ?_; intro a314 F314
        have F315 := F314.sb 63 (by kernel_rfl) hc_j
        refine wpList_nil ?_
        refine hK313 _ _ ?_; clear hK313 K313
        refine wp_seq_k fun K316 hK316 => ?_
        refine wp_cond_true (F315.ev (by kernel_rfl)) ?_
        refine wp_skip ?_
        refine hK316 _ _ ?_; clear hK316 K316
        refine wp_seq_k fun K317 hK317 => ?_
        refine wp_block ?_
        refine wp_seq_k fun K318 hK318 => ?_
        refine wp_region_lit ?_
        refine op_rq (v := .pointer (some (ad312.add (j * 7)))) F315 (r_ix rfl Try.underlying24 7 (by kernel_rfl) (F315.e (.slice (m.fDependencies_a) (m.fDependencies.length) (m.fDependencies_c))) hA312 (F315.e (.int .i64 (↑j))) j (by first | rfl | omega | simp) (by first | omega | (simp; done) | (simp; omega)) (rfl)) ?_; intro a319 F319
        refine op_rq (v := .agg #[.bool m.fDependencies[j].fNil, .string m.fDependencies[j].fName, .string m.fDependencies[j].fVersion, .string m.fDependencies[j].fRepository, .string m.fDependencies[j].fCondition, .slice m.fDependencies[j].fTags_a m.fDependencies[j].fTags.length m.fDependencies[j].fTags_c, .string m.fDependencies[j].fAlias]) F319 (r_ldR rfl (F319.e (.pointer (some (ad312.add (j * 7))))) (cs := [.bool m.fDependencies[j].fNil, .string m.fDependencies[j].fName, .string m.fDependencies[j].fVersion, .string m.fDependencies[j].fRepository, .string m.fDependencies[j].fCondition, .slice m.fDependencies[j].fTags_a m.fDependencies[j].fTags.length m.fDependencies[j].fTags_c, .string m.fDependencies[j].fAlias]) ((h3 _ S311.drop.drop.drop.drop.drop.drop.drop.drop).elA hA312 (j := j) (row := m.fDependencies[j].cells) (by rw [List.getElem?_map, List.getElem?_eq_getElem hlt_j]; rfl)) Try.underlying80 rfl (by kernel_rfl) (v := #[.bool m.fDependencies[j].fNil, .string m.fDependencies[j].fName, .string m.fDependencies[j].fVersion, .string m.fDependencies[j].fRepository, .string m.fDependencies[j].fCondition, .slice m.fDependencies[j].fTags_a m.fDependencies[j].fTags.length m.fDependencies[j].fTags_c, .string m.fDependencies[j].fAlias]) (by kernel_rfl)) ?_; intro a320 F320
        refine op_sq F320 (s_newp F320 80 #[.bool false, .string ⟨#[]⟩, .string ⟨#[]⟩, .string ⟨#[]⟩, .string ⟨#[]⟩, .slice none 0 0, .string ⟨#[]⟩] (by kernel_rfl) (by kernel_rfl) (by kernel_rfl) S311) ?_
        rintro _ _ w322 ⟨g320, rfl, rfl⟩ S322 a322 F322
        refine op_sq0 F322 (s_stb rfl (F322.e (.pointer (some ⟨g320, 0, none⟩))) (F322.e (.agg #[.bool m.fDependencies[j].fNil, .string m.fDependencies[j].fName, .string m.fDependencies[j].fVersion, .string m.fDependencies[j].fRepository, .string m.fDependencies[j].fCondition, .slice m.fDependencies[j].fTags_a m.fDependencies[j].fTags.length m.fDependencies[j].fTags_c, .string m.fDependencies[j].fAlias])) S322 (by kernel_rfl) rfl (by kernel_rfl)) ?_
        rintro _ _ w323 rfl S323 F323
        refine wpList_nil ?_
        refine hK318 _ _ ?_; clear hK318 K318
        refine wp_region_sepF (L0 := SA.blk g320 80 #[.bool m.fDependencies[j].fNil, .string m.fDependencies[j].fName, .string m.fDependencies[j].fVersion, .string m.fDependencies[j].fRepository, .string m.fDependencies[j].fCondition, .slice m.fDependencies[j].fTags_a m.fDependencies[j].fTags.length m.fDependencies[j].fTags_c, .string m.fDependencies[j].fAlias] :: SA.blk g197 237 #[.string m.fName, .string m.fHome, .slice A125 m.fSources.length c125, .string m.fVersion, .string m.fDescription, .slice A139 m.fKeywords.length c139, .slice A3 qs.length c3, .string m.fIcon, .string m.fAPIVersion, .string m.fCondition, .string m.fTags, .string m.fAppVersion, .bool false, .map none, .string m.fKubeVersion, .slice A4 us.length c4, .string m.fType] :: SA.zips SA.dep us (m.fDependencies.take j) :: SA.own (.slice A3 qs.length c3) 238 1 qs.length (pps qs) :: SA.zips SA.per qs m.fMaintainers :: SA.own0 (.slice A139 m.fKeywords.length c139) 9 1 m.fKeywords.length (strs m.fKeywords) :: SA.own0 (.slice A125 m.fSources.length c125) 9 1 m.fSources.length (strs m.fSources) :: SA.blk g1 26 #[.string m.fName, .string m.fHome, .string m.fVersion, .string m.fDescription, .string m.fIcon, .string m.fAPIVersion, .string m.fCondition, .string m.fTags, .string m.fAppVersion, .string m.fKubeVersion, .string m.fType, .slice (m.fSources_a) (m.fSources.length) (m.fSources_c), .slice (m.fKeywords_a) (m.fKeywords.length) (m.fKeywords_c), .slice (m.fMaintainers_a) (m.fMaintainers.length) (m.fMaintainers_c), .slice (m.fDependencies_a) (m.fDependencies.length) (m.fDependencies_c)] :: L) [some [], some [], some [(1, 67)], some [(2, 68)], some [(3, 69)], some [], some [(5, 71)], some [(5, 71), (6, 72)], some [(4, 70), (5, 71), (6, 72), (7, 73)], some [(0, 66)], some [(9, 75)], none] [.v 66 (.pointer (some ⟨g197, 0, none⟩)), .v 67 (.pointer (some ⟨g197, 0, none⟩)), .v 68 (.pointer (some ⟨g197, 0, none⟩)), .v 69 (.pointer (some ⟨g197, 15, none⟩)), .v 70 (.slice A4 us.length c4), .v 71 (.agg #[.bool m.fDependencies[j].fNil, .string m.fDependencies[j].fName, .string m.fDependencies[j].fVersion, .string m.fDependencies[j].fRepository, .string m.fDependencies[j].fCondition, .slice m.fDependencies[j].fTags_a m.fDependencies[j].fTags.length m.fDependencies[j].fTags_c, .string m.fDependencies[j].fAlias]), .p 72 (SA.emp) (fun _ vv AA => ∃ q360 : Option Addr, vv = .pointer q360 ∧ AA = SA.dep q360 m.fDependencies[j]), .p 73 (SA.emp) (fun env vv AA => ∃ q360x : Option Addr, ∃ g363 : Nat, (env.getD 1 undef) = .pointer q360x ∧ vv = .slice (some ⟨g363, 0, none⟩) 1 1 ∧ AA = SA.blk g363 240 #[.pointer q360x]), .p 74 (SA.own (.slice A4 us.length c4) 240 1 us.length (pps us)) (fun env vv AA => ∃ q360x : Option Addr, ∃ A369 : Option Addr, ∃ c369 : Nat, (env.getD 2 undef) = .pointer q360x ∧ vv = .slice A369 ((us ++ [q360x]).length) c369 ∧ AA = SA.own (.slice A369 ((us ++ [q360x]).length) c369) 240 1 ((us ++ [q360x]).length) (pps (us ++ [q360x]))), .v 75 (.pointer (some ⟨g197, 0, none⟩)), .v 76 (.pointer (some ⟨g197, 15, none⟩)), .n SA.emp (fun _ _ A => A = SA.emp)] [] F323 rfl (by kernel_rfl) S323.p2.emp.emp ?_ ?_
        · refine ⟨?_, ?_, ?_, ?_, ?_, ?_, ?_, ?_, ?_, ?_, ?_, trivial⟩
          · intro w349 M349
            intro a349 F349 S349
            refine obl_of (by rfl) ?_
            exact s_p F349 (v := .pointer (some ⟨g197, 0, none⟩)) (by kernel_rfl) (by kernel_rfl) (by kernel_rfl) S349
          · intro w350 M350
            intro a350 F350 S350
            refine obl_of (by rfl) ?_
            exact s_p F350 (v := .pointer (some ⟨g197, 0, none⟩)) (by kernel_rfl) (by kernel_rfl) (by kernel_rfl) S350
          · intro w351 M351
            intro a351 F351 S351
            refine obl_of (by rfl) ?_
            exact s_p F351 (v := .pointer (some ⟨g197, 0, none⟩)) (by kernel_rfl) (by kernel_rfl) (by kernel_rfl) S351
          · intro w353 M353
            intro a353 F353 S353
            refine obl_of (by rfl) ?_
            exact s_p F353 (v := .pointer (some ⟨g197, 15, none⟩)) (by kernel_rfl) (by kernel_rfl) (by kernel_rfl) S353
          · intro w355 M355
            intro a355 F355 S355
            refine obl_of (by rfl) ?_
            exact s_r (v := .slice A4 us.length c4) (r_ld rfl (F355.e (.pointer (some ⟨g197, 15, none⟩))) (v := .slice A4 us.length c4) (((Sp.dropM S355.drop).bk 1 rfl).cell 15) Try.underlying235 rfl) S355
          · intro w357 M357
            intro a357 F357 S357
            refine obl_of (by rfl) ?_
            exact s_r (v := .agg #[.bool m.fDependencies[j].fNil, .string m.fDependencies[j].fName, .string m.fDependencies[j].fVersion, .string m.fDependencies[j].fRepository, .string m.fDependencies[j].fCondition, .slice m.fDependencies[j].fTags_a m.fDependencies[j].fTags.length m.fDependencies[j].fTags_c, .string m.fDependencies[j].fAlias]) (r_ldm rfl (F357.e (.pointer (some ⟨g320, 0, none⟩))) ((Sp.dropM S357.drop).bk 0 rfl) 7 (by kernel_rfl) Try.underlying80 rfl (by kernel_rfl) (v := #[.bool m.fDependencies[j].fNil, .string m.fDependencies[j].fName, .string m.fDependencies[j].fVersion, .string m.fDependencies[j].fRepository, .string m.fDependencies[j].fCondition, .slice m.fDependencies[j].fTags_a m.fDependencies[j].fTags.length m.fDependencies[j].fTags_c, .string m.fDependencies[j].fAlias]) (by kernel_rfl)) S357
          · intro w358 M358
            intro a358 F358 S358
            refine obl_of (by rfl) ?_
            refine s_c F358 (f := 161) (args := #[.agg #[.bool m.fDependencies[j].fNil, .string m.fDependencies[j].fName, .string m.fDependencies[j].fVersion, .string m.fDependencies[j].fRepository, .string m.fDependencies[j].fCondition, .slice m.fDependencies[j].fTags_a m.fDependencies[j].fTags.length m.fDependencies[j].fTags_c, .string m.fDependencies[j].fAlias]]) (by kernel_rfl) (by kernel_rfl) (by kernel_rfl) (dependencyOf_sp m.fDependencies[j] _ _ _ S358.drop (fun w S => htg w (Sp.dropM S).drop.drop.drop.drop.drop.drop.drop.drop) (by first | omega | (simp; done) | (simp; omega))) ?_
            rintro _ _ ⟨q360, rfl, S360⟩
            exact ⟨_, _, rfl, ⟨q360, rfl, rfl⟩, S360⟩
          · intro w361 M361
            rintro _ _ ⟨q360, rfl, rfl⟩ hA363
            intro a361 F361 S361
            refine obl_of (by rfl) ?_
            exact sAt_mono (s_news F361 240 #[.pointer q360] 1 (by kernel_rfl) (by kernel_rfl) (by kernel_rfl) S361.drop) fun _ _ ⟨g363, e1, e2⟩ => ⟨q360, g363, (by kernel_rfl), e1, e2⟩
          · intro w364 M364
            rintro _ _ ⟨q360, rfl, rfl⟩ hA367
            rintro _ _ ⟨q360x, g363, e7_1, rfl, rfl⟩ hA368
            have e7_1 := envE_at (v := .pointer q360) e7_1 (by kernel_rfl)
            obtain rfl : q360 = q360x := by cases e7_1; rfl
            clear e7_1
            intro a364 F364 S364
            refine obl_of (by rfl) ?_
            exact sAt_mono (s_app rfl Try.underlying235 1 _ tin240 rfl rfl (F364.e (.slice A4 us.length c4)) S364 ([Value.pointer q360]) (F364.e (.slice (some ⟨g363, 0, none⟩) 1 1)) ((Sp.bkm S364.drop hA368).sl (by simp)) rfl (by simp [Value.oneCell']) (by omega) (by omega) (n' := (us ++ [q360]).length) (by first | (simp; done) | (simp; omega)) (cs' := pps (us ++ [q360])) (by simp [pps])) fun _ _ ⟨A369, c369, e1, e2⟩ => ⟨q360, A369, c369, (by kernel_rfl), e1, e2⟩
          · intro w370 M370
            intro a370 F370 S370
            refine obl_of (by rfl) ?_
            exact s_p F370 (v := .pointer (some ⟨g197, 0, none⟩)) (by kernel_rfl) (by kernel_rfl) (by kernel_rfl) S370
          · intro w372 M372
            intro a372 F372 S372
            refine obl_of (by rfl) ?_
            exact s_p F372 (v := .pointer (some ⟨g197, 15, none⟩)) (by kernel_rfl) (by kernel_rfl) (by kernel_rfl) S372
        · rintro _ _ ⟨q360, rfl, rfl⟩
          rintro _ _ ⟨q360x, g363, e7_1, rfl, rfl⟩
          have e7_1 := envE_at (v := .pointer q360) e7_1 (by kernel_rfl)
          obtain rfl : q360 = q360x := by cases e7_1; rfl
          clear e7_1
          rintro _ _ ⟨q360x, A369, c369, e8_2, rfl, rfl⟩
          have e8_2 := envE_at (v := .pointer q360) e8_2 (by kernel_rfl)
          obtain rfl : q360 = q360x := by cases e8_2; rfl
          clear e8_2
          intro a375 w374 F375 S374
          have S376 : Sp R w374 (SA.own (.slice A369 ((us ++ [q360]).length) c369) 240 1 ((us ++ [q360]).length) (pps (us ++ [q360])) :: SA.blk g363 240 #[.pointer q360] :: SA.dep q360 m.fDependencies[j] :: SA.blk g320 80 #[.bool m.fDependencies[j].fNil, .string m.fDependencies[j].fName, .string m.fDependencies[j].fVersion, .string m.fDependencies[j].fRepository, .string m.fDependencies[j].fCondition, .slice m.fDependencies[j].fTags_a m.fDependencies[j].fTags.length m.fDependencies[j].fTags_c, .string m.fDependencies[j].fAlias] :: SA.blk g197 237 #[.string m.fName, .string m.fHome, .slice A125 m.fSources.length c125, .string m.fVersion, .string m.fDescription, .slice A139 m.fKeywords.length c139, .slice A3 qs.length c3, .string m.fIcon, .string m.fAPIVersion, .string m.fCondition, .string m.fTags, .string m.fAppVersion, .bool false, .map none, .string m.fKubeVersion, .slice A4 us.length c4, .string m.fType] :: SA.zips SA.dep us (m.fDependencies.take j) :: SA.own (.slice A3 qs.length c3) 238 1 qs.length (pps qs) :: SA.zips SA.per qs m.fMaintainers :: SA.own0 (.slice A139 m.fKeywords.length c139) 9 1 m.fKeywords.length (strs m.fKeywords) :: SA.own0 (.slice A125 m.fSources.length c125) 9 1 m.fSources.length (strs m.fSources) :: SA.blk g1 26 #[.string m.fName, .string m.fHome, .string m.fVersion, .string m.fDescription, .string m.fIcon, .string m.fAPIVersion, .string m.fCondition, .string m.fTags, .string m.fAppVersion, .string m.fKubeVersion, .string m.fType, .slice (m.fSources_a) (m.fSources.length) (m.fSources_c), .slice (m.fKeywords_a) (m.fKeywords.length) (m.fKeywords_c), .slice (m.fMaintainers_a) (m.fMaintainers.length) (m.fMaintainers_c), .slice (m.fDependencies_a) (m.fDependencies.length) (m.fDependencies_c)] :: L) := S374
          refine op_sq0 F375 (s_st rfl (F375.e (.pointer (some ⟨g197, 15, none⟩))) (F375.e (.slice A369 ((us ++ [q360]).length) c369)) S376.p4 (by kernel_rfl) rfl rfl rfl (cs := #[.string m.fName, .string m.fHome, .slice A125 m.fSources.length c125, .string m.fVersion, .string m.fDescription, .slice A139 m.fKeywords.length c139, .slice A3 qs.length c3, .string m.fIcon, .string m.fAPIVersion, .string m.fCondition, .string m.fTags, .string m.fAppVersion, .bool false, .map none, .string m.fKubeVersion, .slice A369 ((us ++ [q360]).length) c369, .string m.fType]) (by kernel_rfl)) ?_
          rintro _ _ w377 rfl S377 F377
          refine wpList_nil ?_
          refine hK317 _ _ ?_; clear hK317 K317
          refine wp_region_lit ?_
          refine op_rq (v := .int .i64 (↑(j + 1))) F377 (r_add (z := ↑(j + 1)) rfl (F377.e (.int .i64 (↑j))) (F377.e (.int .i64 1)) (wr64 (by omega) (by omega) (by omega))) ?_; intro a378 F378
          refine op_q F378 (.int .i64 (↑(j + 1))) ?_; intro a379 F379
          refine wpList_nil ?_
          have S380 : Sp R w377 (SA.zips SA.dep (us ++ [q360]) (m.fDependencies.take (j + 1)) :: SA.blk g197 237 #[.string m.fName, .string m.fHome, .slice A125 m.fSources.length c125, .string m.fVersion, .string m.fDescription, .slice A139 m.fKeywords.length c139, .slice A3 qs.length c3, .string m.fIcon, .string m.fAPIVersion, .string m.fCondition, .string m.fTags, .string m.fAppVersion, .bool false, .map none, .string m.fKubeVersion, .slice A369 ((us ++ [q360]).length) c369, .string m.fType] :: SA.own (.slice A369 ((us ++ [q360]).length) c369) 240 1 ((us ++ [q360]).length) (pps (us ++ [q360])) :: SA.blk g363 240 #[.pointer q360] :: SA.blk g320 80 #[.bool m.fDependencies[j].fNil, .string m.fDependencies[j].fName, .string m.fDependencies[j].fVersion, .string m.fDependencies[j].fRepository, .string m.fDependencies[j].fCondition, .slice m.fDependencies[j].fTags_a m.fDependencies[j].fTags.length m.fDependencies[j].fTags_c, .string m.fDependencies[j].fAlias] :: SA.own (.slice A3 qs.length c3) 238 1 qs.length (pps qs) :: SA.zips SA.per qs m.fMaintainers :: SA.own0 (.slice A139 m.fKeywords.length c139) 9 1 m.fKeywords.length (strs m.fKeywords) :: SA.own0 (.slice A125 m.fSources.length c125) 9 1 m.fSources.length (strs m.fSources) :: SA.blk g1 26 #[.string m.fName, .string m.fHome, .string m.fVersion, .string m.fDescription, .string m.fIcon, .string m.fAPIVersion, .string m.fCondition, .string m.fTags, .string m.fAppVersion, .string m.fKubeVersion, .string m.fType, .slice (m.fSources_a) (m.fSources.length) (m.fSources_c), .slice (m.fKeywords_a) (m.fKeywords.length) (m.fKeywords_c), .slice (m.fMaintainers_a) (m.fMaintainers.length) (m.fMaintainers_c), .slice (m.fDependencies_a) (m.fDependencies.length) (m.fDependencies_c)] :: L) := by rw [List.take_succ_eq_append_getElem hlt_j]; exact Sp.zsnoc S377.p5.p4
          exact hK311 _ _ _ (by first | omega | (simp; omega)) ⟨A369, c369, us ++ [q360], j + 1, rfl, (F379.kk 2 (F379.kk 3 (F379.kk 60 (F379.kk 61 (F379.kk 62 F379.nil))))), S380.p3.drop.p3.drop.p7.p7.p7.p7.p7.p5.p7.p7, (by first | omega | (with_reducible assumption) | (simp; done)), (by simp [hul])⟩
      · have hc_j : decide ((↑j : Int) < ↑m.fDependencies.length) = false := by first | (simp; done) | (simp; omega)
        obtain rfl : j = m.fDependencies.length := by omega
        rw [List.take_length] at S311
        refine wp_seq_k fun K381 hK381 => ?_
        refine wp_region_lit ?_
        refine op_q F311 (.bool (decide ((↑m.fDependencies.length : Int) < ↑m.fDependencies.length))) ?_; intro a382 F382
        have F383 := F382.sb 63 (by kernel_rfl) hc_j
        refine wpList_nil ?_
        refine hK381 _ _ ?_; clear hK381 K381
        refine wp_seq_k fun K384 hK384 => ?_
        refine wp_cond_false (F383.ev (by kernel_rfl)) ?_
        refine wp_exit ?_
        refine ex_then ?_; clear hK384 K384
        refine ex_then ?_
        refine ex_in ?_
        refine hK303 _ _ ?_; clear hK303 K303
        refine wp_seq_k fun K385 hK385 => ?_
        refine wp_region_lit ?_
        refine op_q F383 (.pointer (some ⟨g197, 0, none⟩)) ?_; intro a386 F386
        refine op_q F386 (.pointer (some ⟨g197, 0, none⟩)) ?_; intro a387 F387
        refine wpList_nil ?_
        refine hK385 _ _ ?_; clear hK385 K385
        refine wp_ret ?_
        refine (F387.res1 rfl (v := .pointer (some ⟨g197, 0, none⟩)) (by kernel_rfl) ?_).1
        exact ⟨g197, A125, c125, A139, c139, A3, c3, qs, A4, c4, us, rfl, S311.p7.drop.p2.p2.p4.p4.p5.p6.p6⟩
end Go.Proofs.Ytkjcedlgljeoiaa

/- Contracts: zzFits3, HlOneOf, VersionSet.Has, HasVersion. -/
namespace Go.Proofs.Ytkjcedlgljeoiaa
open Go.RowKit Go.Lib

def fits3 (xs : List ByteArray) : Bool := decide (xs.length ≤ 2147483647) && xs.all fun s => decide (s.size ≤ 2147483647)
theorem all_no {α : Type} {p : α → Bool} {xs : List α} {k : Nat} (hk : k < xs.length) (h : p xs[k] = false) : xs.all p = false := by
  rw [List.all_eq_false]
  exact ⟨xs[k], List.getElem_mem hk, by simp [h]⟩
theorem all_yes {α : Type} {p : α → Bool} {xs : List α} (h : ∀ k, ∀ hk : k < xs.length, p xs[k] = true) : xs.all p = true := by
  rw [List.all_eq_true]
  intro c hc
  obtain ⟨k, hk, rfl⟩ := List.mem_iff_getElem.1 hc
  exact h k hk
theorem any_no {α : Type} {p : α → Bool} {xs : List α} (h : ∀ k, ∀ hk : k < xs.length, p xs[k] = false) : xs.any p = false := by
  rw [List.any_eq_false]
  intro c hc
  obtain ⟨k, hk, rfl⟩ := List.mem_iff_getElem.1 hc
  simp [h k hk]
theorem any_yes {α : Type} {p : α → Bool} {xs : List α} {k : Nat} (hk : k < xs.length) (h : p xs[k] = true) : xs.any p = true := by
  rw [List.any_eq_true]
  exact ⟨xs[k], List.getElem_mem hk, h⟩

theorem zzFits3_any (A : Option Addr) (c : Nat) (xs : List ByteArray) (w : World) (h : Sl w A (strs xs)) :
    Calls Try.prog 27 #[.slice A xs.length c] w fun e w' => e = .returned (.bool (fits3 xs)) ∧ w = w' := by
  have hl : xs.length ≤ 9223372036854775807 := by simpa [strs_len] using h.1
  have H := Lib.hid h
  clear h
  by_cases hbig : 2147483647 < xs.length
  · have hf : fits3 xs = false := by simp [fits3]; omega
    have HF := Lib.hid hf
    clear hf H
    go_enter Try.func27, Try.ntmps27
    go_wp2
    go_ret
    exact ⟨ret_bool HF.out.symm, rfl⟩
  · have hle : xs.length ≤ 2147483647 := by omega
    clear hbig
    go_enter Try.func27, Try.ntmps27
    go_wp2
    go_loop [10] (fun i => ∃ k : Nat, k ≤ xs.length ∧ i = .int .i64 k ∧ Hid (∀ j, ∀ hj : j < xs.length, j < k → decide (xs[j].size ≤ 2147483647) = true)) (fun i => xs.length - (intOf i).toNat)
    case atStart => exact ⟨0, Nat.zero_le _, rfl, fun j _ h0 => by omega⟩
    case round =>
      obtain ⟨k, hk, rfl, HA⟩ := hrel
      by_cases hlt : k < xs.length
      · obtain ⟨ad, rfl, hx⟩ := strs_at H.out hlt
        by_cases hs : 2147483647 < xs[k].size
        · have hf : fits3 xs = false := by
            unfold fits3
            rw [all_no (p := fun s : ByteArray => decide (s.size ≤ 2147483647)) hlt (by simp; omega), Bool.and_false]
          have HF := Lib.hid hf
          clear hf H HA
          go_wp2
          go_ret
          exact ⟨ret_bool HF.out.symm, rfl⟩
        · have hs' : xs[k].size ≤ 2147483647 := by omega
          clear hs
          go_wp2
          go_round
          case rel =>
            refine ⟨k + 1, by omega, by go_num, fun j hj hjk => ?_⟩
            by_cases e : j = k
            · subst e; simpa using hs'
            · exact HA.out j hj (by omega)
          case measure => simp [intOf]; omega
      · have hf : fits3 xs = true := by
          unfold fits3
          rw [all_yes (p := fun s : ByteArray => decide (s.size ≤ 2147483647)) (fun j hj => HA.out j hj (by omega)), Bool.and_true]
          simpa using hle
        have HF := Lib.hid hf
        clear hf H HA
        go_wp2
        go_ret
        exact ⟨ret_bool HF.out.symm, rfl⟩

def oneOf (s : ByteArray) (xs : List ByteArray) : Bool := xs.any fun x => x.toList == s.toList
theorem oneOf_any (s : ByteArray) (A : Option Addr) (c : Nat) (xs : List ByteArray) (w : World) (h : Sl w A (strs xs)) :
    Calls Try.prog 41 #[.string s, .slice A xs.length c] w fun e w' => e = .returned (.bool (oneOf s xs)) ∧ w = w' := by
  have hl : xs.length ≤ 9223372036854775807 := by simpa [strs_len] using h.1
  have H := Lib.hid h
  clear h
  go_enter Try.func41, Try.ntmps41
  go_wp2
  go_loop [9] (fun i => ∃ k : Nat, k ≤ xs.length ∧ i = .int .i64 k ∧ Hid (∀ j, ∀ hj : j < xs.length, j < k → (xs[j].toList == s.toList) = false)) (fun i => xs.length - (intOf i).toNat)
  case atStart => exact ⟨0, Nat.zero_le _, rfl, fun j _ h0 => by omega⟩
  case round =>
    obtain ⟨k, hk, rfl, HA⟩ := hrel
    by_cases hlt : k < xs.length
    · obtain ⟨ad, rfl, hx⟩ := strs_at H.out hlt
      cases hb : xs[k].toList == s.toList
      · clear H
        have HB := Lib.hid hb
        go_wp2
        go_round
        case rel =>
          refine ⟨k + 1, by omega, by go_num, fun j hj hjk => ?_⟩
          by_cases e : j = k
          · subst e; exact HB.out
          · exact HA.out j hj (by omega)
        case measure => simp [intOf]; omega
      · have HF := Lib.hid (any_yes (p := fun x : ByteArray => x.toList == s.toList) hlt hb)
        clear H HA
        go_wp2
        go_ret
        exact ⟨ret_bool HF.out.symm, rfl⟩
    · have HF := Lib.hid (any_no (p := fun x : ByteArray => x.toList == s.toList) (fun j hj => HA.out j hj (by omega)))
      clear H HA
      go_wp2
      go_ret
      exact ⟨ret_bool HF.out.symm, rfl⟩
end Go.Proofs.Ytkjcedlgljeoiaa

/- Contracts of size checks. Printed. -/
namespace Go.Proofs.Ytkjcedlgljeoiaa
open Go.RowKit Go.Lib
set_option linter.unusedVariables false
set_option linter.unusedSimpArgs false
def fits68 (x : Ty108) : Bool := decide (x.fKey.size ≤ 2147483647) && decide (x.fText.size ≤ 2147483647)
def fits18 (xs : List Ty108) : Bool := decide (xs.length ≤ 2147483647) && xs.all fits68
def fits190 (x : Ty52) : Bool := decide (x.fName.size ≤ 2147483647) && decide (x.fURL.size ≤ 2147483647)
def fits137 (xs : List Ty52) : Bool := decide (xs.length ≤ 2147483647) && xs.all fits190
def fits74 (x : Ty50) : Bool := (fits137 x.fRepos) && decide (x.fName.size ≤ 2147483647)
def fits24 (xs : List Ty50) : Bool := decide (xs.length ≤ 2147483647) && xs.all fits74
def fits125 (x : Ty94) : Bool := decide (x.fName.size ≤ 2147483647) && decide (x.fData.size ≤ 2147483647)
def fits63 (xs : List Ty94) : Bool := decide (xs.length ≤ 2147483647) && xs.all fits125
def fits151 (x : Ty78) : Bool := decide (x.fName.size ≤ 2147483647) && decide (x.fEmail.size ≤ 2147483647) && decide (x.fURL.size ≤ 2147483647)
set_option maxRecDepth 100000 in
set_option maxHeartbeats 4000000 in
theorem fits151_any (x : Ty78) (w : World) (h0 : Ty78.ok x w)  :
    Calls Try.prog 151 #[.agg #[.bool x.fNil, .string x.fName, .string x.fEmail, .string x.fURL]] w fun e w' => e = .returned (.bool (fits151 x)) ∧ Below w.heap.size w w' := by
  have H0 := Lib.hid h0
  clear h0
  suffices hQ : ∀ Q : Ending → World → Prop, Hid (∀ (e : Ending) (w' : World), (e = .returned (.bool (fits151 x)) ∧ Below w.heap.size w w') → Post1 Q e w') → Calls Try.prog 151 #[.agg #[.bool x.fNil, .string x.fName, .string x.fEmail, .string x.fURL]] w (fun e w' => Post1 Q e w') from hQ (fun e w' => e = .returned (.bool (fits151 x)) ∧ Below w.heap.size w w') (fun _ _ h => by unfold Post1; exact h)
  intro Q HQ
  go_enter Try.func151, Try.ntmps151
  by_cases hc1 : (2147483647 : Int) < ↑x.fName.size
  · have P0 : Hid (decide (x.fName.size ≤ 2147483647) = false) := by show _ = _; simp; omega
    go_wp2_with (first
      | ((with_reducible refine at_dst (N := 1) rfl ?_); refine ev_box rfl 78 _ rfl _ rfl ?_; intro g1 w1 hg hB hb
         have low_g1 := Nat.le_trans (Nat.le_refl _) hg
         have B_w1 := Lib.hid (below_trans (Below.refl _ _) hb)
         have g1_w1 : Hid (Blk w1 g1 78 #[.bool x.fNil, .string x.fName, .string x.fEmail, .string x.fURL]) := hB
         clear hB hb)
      | ((with_reducible refine at_dst (N := 4) rfl ?_); refine ev_ld rfl 9 _ rfl ⟨g1, 1, none⟩ rfl (.string x.fName) (g1_w1.out.cell 1) _ Try.underlying9 rfl ?_))
    go_ret
    exact HQ.out _ _ ⟨ret_bool (by simp only [fits151, P0.out, Bool.and_self, Bool.and_false, Bool.false_and]), B_w1.out⟩
  · have P0 : Hid (decide (x.fName.size ≤ 2147483647) = true) := by show _ = _; simp; omega
    by_cases hc2 : (2147483647 : Int) < ↑x.fEmail.size
    · have P1 : Hid (decide (x.fEmail.size ≤ 2147483647) = false) := by show _ = _; simp; omega
      go_wp2_with (first
        | ((with_reducible refine at_dst (N := 1) rfl ?_); refine ev_box rfl 78 _ rfl _ rfl ?_; intro g1 w1 hg hB hb
           have low_g1 := Nat.le_trans (Nat.le_refl _) hg
           have B_w1 := Lib.hid (below_trans (Below.refl _ _) hb)
           have g1_w1 : Hid (Blk w1 g1 78 #[.bool x.fNil, .string x.fName, .string x.fEmail, .string x.fURL]) := hB
           clear hB hb)
        | ((with_reducible refine at_dst (N := 4) rfl ?_); refine ev_ld rfl 9 _ rfl ⟨g1, 1, none⟩ rfl (.string x.fName) (g1_w1.out.cell 1) _ Try.underlying9 rfl ?_)
        | ((with_reducible refine at_dst (N := 8) rfl ?_); refine ev_ld rfl 9 _ rfl ⟨g1, 2, none⟩ rfl (.string x.fEmail) (g1_w1.out.cell 2) _ Try.underlying9 rfl ?_))
      go_ret
      exact HQ.out _ _ ⟨ret_bool (by simp only [fits151, P0.out, P1.out, Bool.and_self, Bool.and_false, Bool.false_and]), B_w1.out⟩
    · have P1 : Hid (decide (x.fEmail.size ≤ 2147483647) = true) := by show _ = _; simp; omega
      by_cases hc3 : (2147483647 : Int) < ↑x.fURL.size
      · have P2 : Hid (decide (x.fURL.size ≤ 2147483647) = false) := by show _ = _; simp; omega
        go_wp2_with (first
          | ((with_reducible refine at_dst (N := 1) rfl ?_); refine ev_box rfl 78 _ rfl _ rfl ?_; intro g1 w1 hg hB hb
             have low_g1 := Nat.le_trans (Nat.le_refl _) hg
             have B_w1 := Lib.hid (below_trans (Below.refl _ _) hb)
             have g1_w1 : Hid (Blk w1 g1 78 #[.bool x.fNil, .string x.fName, .string x.fEmail, .string x.fURL]) := hB
             clear hB hb)
          | ((with_reducible refine at_dst (N := 4) rfl ?_); refine ev_ld rfl 9 _ rfl ⟨g1, 1, none⟩ rfl (.string x.fName) (g1_w1.out.cell 1) _ Try.underlying9 rfl ?_)
          | ((with_reducible refine at_dst (N := 8) rfl ?_); refine ev_ld rfl 9 _ rfl ⟨g1, 2, none⟩ rfl (.string x.fEmail) (g1_w1.out.cell 2) _ Try.underlying9 rfl ?_)
          | ((with_reducible refine at_dst (N := 12) rfl ?_); refine ev_ld rfl 9 _ rfl ⟨g1, 3, none⟩ rfl (.string x.fURL) (g1_w1.out.cell 3) _ Try.underlying9 rfl ?_))
        go_ret
        exact HQ.out _ _ ⟨ret_bool (by simp only [fits151, P0.out, P1.out, P2.out, Bool.and_self, Bool.and_false, Bool.false_and]), B_w1.out⟩
      · have P2 : Hid (decide (x.fURL.size ≤ 2147483647) = true) := by show _ = _; simp; omega
        go_wp2_with (first
          | ((with_reducible refine at_dst (N := 1) rfl ?_); refine ev_box rfl 78 _ rfl _ rfl ?_; intro g1 w1 hg hB hb
             have low_g1 := Nat.le_trans (Nat.le_refl _) hg
             have B_w1 := Lib.hid (below_trans (Below.refl _ _) hb)
             have g1_w1 : Hid (Blk w1 g1 78 #[.bool x.fNil, .string x.fName, .string x.fEmail, .string x.fURL]) := hB
             clear hB hb)
          | ((with_reducible refine at_dst (N := 4) rfl ?_); refine ev_ld rfl 9 _ rfl ⟨g1, 1, none⟩ rfl (.string x.fName) (g1_w1.out.cell 1) _ Try.underlying9 rfl ?_)
          | ((with_reducible refine at_dst (N := 8) rfl ?_); refine ev_ld rfl 9 _ rfl ⟨g1, 2, none⟩ rfl (.string x.fEmail) (g1_w1.out.cell 2) _ Try.underlying9 rfl ?_)
          | ((with_reducible refine at_dst (N := 12) rfl ?_); refine ev_ld rfl 9 _ rfl ⟨g1, 3, none⟩ rfl (.string x.fURL) (g1_w1.out.cell 3) _ Try.underlying9 rfl ?_))
        go_ret
        exact HQ.out _ _ ⟨ret_bool (by simp only [fits151, P0.out, P1.out, P2.out, Bool.and_self, Bool.and_false, Bool.false_and]), B_w1.out⟩
def fits89 (xs : List Ty78) : Bool := decide (xs.length ≤ 2147483647) && xs.all fits151
set_option maxRecDepth 100000 in
set_option maxHeartbeats 4000000 in
theorem fits89_any (A : Option Addr) (c : Nat) (xs : List Ty78) (w : World) (h0 : Rows w (A) 4 (xs.map Ty78.cells)) (h1 : Ty78.oks xs w)  :
    Calls Try.prog 89 #[.slice (A) (xs.length) (c)] w fun e w' => e = .returned (.bool (fits89 xs)) ∧ Below w.heap.size w w' := by
  have hl_xs : xs.length ≤ 9223372036854775807 := by have := h0.1; simpa [strs, ptrs] using this
  have H0 := Lib.hid h0
  clear h0
  have H1 := Lib.hid h1
  clear h1
  suffices hQ : ∀ Q : Ending → World → Prop, Hid (∀ (e : Ending) (w' : World), (e = .returned (.bool (fits89 xs)) ∧ Below w.heap.size w w') → Post1 Q e w') → Calls Try.prog 89 #[.slice (A) (xs.length) (c)] w (fun e w' => Post1 Q e w') from hQ (fun e w' => e = .returned (.bool (fits89 xs)) ∧ Below w.heap.size w w') (fun _ _ h => by unfold Post1; exact h)
  intro Q HQ
  go_enter Try.func89, Try.ntmps89
  by_cases hc1 : (2147483647 : Int) < ↑xs.length
  · go_wp2_with fail
    go_ret
    exact HQ.out _ _ ⟨ret_bool (by have e : decide (xs.length ≤ 2147483647) = false := (by simp; omega); rw [fits89, e, Bool.false_and]), (Below.refl _ _)⟩
  · go_wp2_with fail
    go_loopw [10] (fun v10 wr => ∃ k : Nat, (k ≤ xs.length) ∧ v10 = .int .i64 (↑k) ∧ Hid ((xs.take k).all fits151 = true) ∧ Hid (Below w.heap.size w wr)) (fun v10 _ => xs.length - (intOf v10).toNat)
    case atStart => exact ⟨0, (by omega), rfl, rfl, (Below.refl _ _)⟩
    case round =>
      obtain ⟨k, hk, rfl, L0_all, L0_B⟩ := hrel
      by_cases hlt_k : k < xs.length
      · obtain ⟨ad_k, rfl⟩ := (H0.out.below L0_B.out).addr (by simp [strs, ptrs]; omega)
        have HE := Lib.hid (Ty78.oks.at H1.out hlt_k)
        cases hc2 : (fits151 xs[k])
        · go_wp2_with (first
            | ((with_reducible refine at_dst (N := 13) rfl ?_); refine ev_loadR rfl 78 _ rfl _ rfl [.bool xs[k].fNil, .string xs[k].fName, .string xs[k].fEmail, .string xs[k].fURL] ((H0.out.below L0_B.out).el (j := k) (row := xs[k].cells) (by simp [hlt_k])) _ Try.underlying78 rfl tsz78 ?_)
            | ((with_reducible refine at_dst (N := 4) rfl ?_); refine ev_alloc rfl 78 rfl _ _ tz78 ?_; intro g4 w1 hg hB hb
               have low_g4 := Nat.le_trans L0_B.out.size hg
               have B_w1 := Lib.hid (below_trans L0_B.out hb)
               have g4_w1 : Hid (Blk w1 g4 78 #[.bool false, .string ⟨#[]⟩, .string ⟨#[]⟩, .string ⟨#[]⟩]) := hB
               clear hB hb)
            | (refine ev_store rfl 78 _ _ rfl g4 _ _ rfl rfl 78 g4_w1.out tsz78 rfl rfl ?_; intro w2 hB hg hz
               have hx := GrX.grown (S := fun k => k = g4) hg rfl
               have B_w2 := Lib.hid (below_grx B_w1.out hx B_w1.out.size (fun k => (fun e => e ▸ low_g4)))
               clear hx
               have g4_w2 : Hid (Blk w2 g4 78 #[.bool xs[k].fNil, .string xs[k].fName, .string xs[k].fEmail, .string xs[k].fURL]) := hB
               clear hB hg hz)
            | ((with_reducible refine at_dst (N := 14) rfl ?_); refine ev_loadB rfl 78 _ rfl g4 rfl 78 _ g4_w2.out _ Try.underlying78 rfl tsz78 ?_)
            | (go_at_call 151; (with_reducible refine (fits151_any xs[k] _ (Ty78.ok.below HE.out B_w2.out)).mono ?_); rintro e w3 ⟨rfl, hb⟩; rw [hc2]
               have g4_w3 := Lib.hid (g4_w2.out.below hb)
               have B_w3 := Lib.hid (below_trans B_w2.out hb)
               clear hb))
          go_ret
          exact HQ.out _ _ ⟨ret_bool (by rw [fits89, all_at hlt_k hc2, Bool.and_false]), B_w3.out⟩
        · go_wp2_with (first
            | ((with_reducible refine at_dst (N := 13) rfl ?_); refine ev_loadR rfl 78 _ rfl _ rfl [.bool xs[k].fNil, .string xs[k].fName, .string xs[k].fEmail, .string xs[k].fURL] ((H0.out.below L0_B.out).el (j := k) (row := xs[k].cells) (by simp [hlt_k])) _ Try.underlying78 rfl tsz78 ?_)
            | ((with_reducible refine at_dst (N := 4) rfl ?_); refine ev_alloc rfl 78 rfl _ _ tz78 ?_; intro g4 w1 hg hB hb
               have low_g4 := Nat.le_trans L0_B.out.size hg
               have B_w1 := Lib.hid (below_trans L0_B.out hb)
               have g4_w1 : Hid (Blk w1 g4 78 #[.bool false, .string ⟨#[]⟩, .string ⟨#[]⟩, .string ⟨#[]⟩]) := hB
               clear hB hb)
            | (refine ev_store rfl 78 _ _ rfl g4 _ _ rfl rfl 78 g4_w1.out tsz78 rfl rfl ?_; intro w2 hB hg hz
               have hx := GrX.grown (S := fun k => k = g4) hg rfl
               have B_w2 := Lib.hid (below_grx B_w1.out hx B_w1.out.size (fun k => (fun e => e ▸ low_g4)))
               clear hx
               have g4_w2 : Hid (Blk w2 g4 78 #[.bool xs[k].fNil, .string xs[k].fName, .string xs[k].fEmail, .string xs[k].fURL]) := hB
               clear hB hg hz)
            | ((with_reducible refine at_dst (N := 14) rfl ?_); refine ev_loadB rfl 78 _ rfl g4 rfl 78 _ g4_w2.out _ Try.underlying78 rfl tsz78 ?_)
            | (go_at_call 151; (with_reducible refine (fits151_any xs[k] _ (Ty78.ok.below HE.out B_w2.out)).mono ?_); rintro e w3 ⟨rfl, hb⟩; rw [hc2]
               have g4_w3 := Lib.hid (g4_w2.out.below hb)
               have B_w3 := Lib.hid (below_trans B_w2.out hb)
               clear hb))
          refine ⟨⟨k + 1, (by omega), by go_num, by show _ = _; rw [all_take hlt_k, L0_all.out, hc2]; rfl, B_w3⟩, ?_⟩
          simp [intOf]; omega
      · obtain rfl : k = xs.length := by omega
        rw [List.take_length] at L0_all
        go_wp2_with fail
        go_ret
        exact HQ.out _ _ ⟨ret_bool (by have e : decide (xs.length ≤ 2147483647) = true := (by simp; omega); rw [fits89, e, L0_all.out]; rfl), L0_B.out⟩
def fits152 (x : Ty80) : Bool := decide (x.fName.size ≤ 2147483647) && decide (x.fVersion.size ≤ 2147483647) && decide (x.fRepository.size ≤ 2147483647) && decide (x.fCondition.size ≤ 2147483647) && (fits3 x.fTags) && decide (x.fAlias.size ≤ 2147483647)
set_option maxRecDepth 100000 in
set_option maxHeartbeats 4000000 in
theorem fits152_any (x : Ty80) (w : World) (h0 : Ty80.ok x w)  :
    Calls Try.prog 152 #[.agg #[.bool x.fNil, .string x.fName, .string x.fVersion, .string x.fRepository, .string x.fCondition, .slice x.fTags_a x.fTags.length x.fTags_c, .string x.fAlias]] w fun e w' => e = .returned (.bool (fits152 x)) ∧ Below w.heap.size w w' := by
  have H0 := Lib.hid h0
  clear h0
  have H0_Tags := Lib.hid (Ty80.ok_sTags H0.out)
  suffices hQ : ∀ Q : Ending → World → Prop, Hid (∀ (e : Ending) (w' : World), (e = .returned (.bool (fits152 x)) ∧ Below w.heap.size w w') → Post1 Q e w') → Calls Try.prog 152 #[.agg #[.bool x.fNil, .string x.fName, .string x.fVersion, .string x.fRepository, .string x.fCondition, .slice x.fTags_a x.fTags.length x.fTags_c, .string x.fAlias]] w (fun e w' => Post1 Q e w') from hQ (fun e w' => e = .returned (.bool (fits152 x)) ∧ Below w.heap.size w w') (fun _ _ h => by unfold Post1; exact h)
  intro Q HQ
  go_enter Try.func152, Try.ntmps152
  by_cases hc1 : (2147483647 : Int) < ↑x.fName.size
  · have P0 : Hid (decide (x.fName.size ≤ 2147483647) = false) := by show _ = _; simp; omega
    go_wp2_with (first
      | ((with_reducible refine at_dst (N := 1) rfl ?_); refine ev_box rfl 80 _ rfl _ rfl ?_; intro g1 w1 hg hB hb
         have low_g1 := Nat.le_trans (Nat.le_refl _) hg
         have B_w1 := Lib.hid (below_trans (Below.refl _ _) hb)
         have g1_w1 : Hid (Blk w1 g1 80 #[.bool x.fNil, .string x.fName, .string x.fVersion, .string x.fRepository, .string x.fCondition, .slice x.fTags_a x.fTags.length x.fTags_c, .string x.fAlias]) := hB
         clear hB hb)
      | ((with_reducible refine at_dst (N := 4) rfl ?_); refine ev_ld rfl 9 _ rfl ⟨g1, 1, none⟩ rfl (.string x.fName) (g1_w1.out.cell 1) _ Try.underlying9 rfl ?_))
    go_ret
    exact HQ.out _ _ ⟨ret_bool (by simp only [fits152, P0.out, Bool.and_self, Bool.and_false, Bool.false_and]), B_w1.out⟩
  · have P0 : Hid (decide (x.fName.size ≤ 2147483647) = true) := by show _ = _; simp; omega
    by_cases hc2 : (2147483647 : Int) < ↑x.fVersion.size
    · have P1 : Hid (decide (x.fVersion.size ≤ 2147483647) = false) := by show _ = _; simp; omega
      go_wp2_with (first
        | ((with_reducible refine at_dst (N := 1) rfl ?_); refine ev_box rfl 80 _ rfl _ rfl ?_; intro g1 w1 hg hB hb
           have low_g1 := Nat.le_trans (Nat.le_refl _) hg
           have B_w1 := Lib.hid (below_trans (Below.refl _ _) hb)
           have g1_w1 : Hid (Blk w1 g1 80 #[.bool x.fNil, .string x.fName, .string x.fVersion, .string x.fRepository, .string x.fCondition, .slice x.fTags_a x.fTags.length x.fTags_c, .string x.fAlias]) := hB
           clear hB hb)
        | ((with_reducible refine at_dst (N := 4) rfl ?_); refine ev_ld rfl 9 _ rfl ⟨g1, 1, none⟩ rfl (.string x.fName) (g1_w1.out.cell 1) _ Try.underlying9 rfl ?_)
        | ((with_reducible refine at_dst (N := 8) rfl ?_); refine ev_ld rfl 9 _ rfl ⟨g1, 2, none⟩ rfl (.string x.fVersion) (g1_w1.out.cell 2) _ Try.underlying9 rfl ?_))
      go_ret
      exact HQ.out _ _ ⟨ret_bool (by simp only [fits152, P0.out, P1.out, Bool.and_self, Bool.and_false, Bool.false_and]), B_w1.out⟩
    · have P1 : Hid (decide (x.fVersion.size ≤ 2147483647) = true) := by show _ = _; simp; omega
      by_cases hc3 : (2147483647 : Int) < ↑x.fRepository.size
      · have P2 : Hid (decide (x.fRepository.size ≤ 2147483647) = false) := by show _ = _; simp; omega
        go_wp2_with (first
          | ((with_reducible refine at_dst (N := 1) rfl ?_); refine ev_box rfl 80 _ rfl _ rfl ?_; intro g1 w1 hg hB hb
             have low_g1 := Nat.le_trans (Nat.le_refl _) hg
             have B_w1 := Lib.hid (below_trans (Below.refl _ _) hb)
             have g1_w1 : Hid (Blk w1 g1 80 #[.bool x.fNil, .string x.fName, .string x.fVersion, .string x.fRepository, .string x.fCondition, .slice x.fTags_a x.fTags.length x.fTags_c, .string x.fAlias]) := hB
             clear hB hb)
          | ((with_reducible refine at_dst (N := 4) rfl ?_); refine ev_ld rfl 9 _ rfl ⟨g1, 1, none⟩ rfl (.string x.fName) (g1_w1.out.cell 1) _ Try.underlying9 rfl ?_)
          | ((with_reducible refine at_dst (N := 8) rfl ?_); refine ev_ld rfl 9 _ rfl ⟨g1, 2, none⟩ rfl (.string x.fVersion) (g1_w1.out.cell 2) _ Try.underlying9 rfl ?_)
          | ((with_reducible refine at_dst (N := 12) rfl ?_); refine ev_ld rfl 9 _ rfl ⟨g1, 3, none⟩ rfl (.string x.fRepository) (g1_w1.out.cell 3) _ Try.underlying9 rfl ?_))
        go_ret
        exact HQ.out _ _ ⟨ret_bool (by simp only [fits152, P0.out, P1.out, P2.out, Bool.and_self, Bool.and_false, Bool.false_and]), B_w1.out⟩
      · have P2 : Hid (decide (x.fRepository.size ≤ 2147483647) = true) := by show _ = _; simp; omega
        by_cases hc4 : (2147483647 : Int) < ↑x.fCondition.size
        · have P3 : Hid (decide (x.fCondition.size ≤ 2147483647) = false) := by show _ = _; simp; omega
          go_wp2_with (first
            | ((with_reducible refine at_dst (N := 1) rfl ?_); refine ev_box rfl 80 _ rfl _ rfl ?_; intro g1 w1 hg hB hb
               have low_g1 := Nat.le_trans (Nat.le_refl _) hg
               have B_w1 := Lib.hid (below_trans (Below.refl _ _) hb)
               have g1_w1 : Hid (Blk w1 g1 80 #[.bool x.fNil, .string x.fName, .string x.fVersion, .string x.fRepository, .string x.fCondition, .slice x.fTags_a x.fTags.length x.fTags_c, .string x.fAlias]) := hB
               clear hB hb)
            | ((with_reducible refine at_dst (N := 4) rfl ?_); refine ev_ld rfl 9 _ rfl ⟨g1, 1, none⟩ rfl (.string x.fName) (g1_w1.out.cell 1) _ Try.underlying9 rfl ?_)
            | ((with_reducible refine at_dst (N := 8) rfl ?_); refine ev_ld rfl 9 _ rfl ⟨g1, 2, none⟩ rfl (.string x.fVersion) (g1_w1.out.cell 2) _ Try.underlying9 rfl ?_)
            | ((with_reducible refine at_dst (N := 12) rfl ?_); refine ev_ld rfl 9 _ rfl ⟨g1, 3, none⟩ rfl (.string x.fRepository) (g1_w1.out.cell 3) _ Try.underlying9 rfl ?_)
            | ((with_reducible refine at_dst (N := 16) rfl ?_); refine ev_ld rfl 9 _ rfl ⟨g1, 4, none⟩ rfl (.string x.fCondition) (g1_w1.out.cell 4) _ Try.underlying9 rfl ?_))
          go_ret
          exact HQ.out _ _ ⟨ret_bool (by simp only [fits152, P0.out, P1.out, P2.out, P3.out, Bool.and_self, Bool.and_false, Bool.false_and]), B_w1.out⟩
        · have P3 : Hid (decide (x.fCondition.size ≤ 2147483647) = true) := by show _ = _; simp; omega
          cases hc5 : (fits3 x.fTags)
          · have P4 := Lib.hid hc5
            go_wp2_with (first
              | ((with_reducible refine at_dst (N := 1) rfl ?_); refine ev_box rfl 80 _ rfl _ rfl ?_; intro g1 w1 hg hB hb
                 have low_g1 := Nat.le_trans (Nat.le_refl _) hg
                 have B_w1 := Lib.hid (below_trans (Below.refl _ _) hb)
                 have g1_w1 : Hid (Blk w1 g1 80 #[.bool x.fNil, .string x.fName, .string x.fVersion, .string x.fRepository, .string x.fCondition, .slice x.fTags_a x.fTags.length x.fTags_c, .string x.fAlias]) := hB
                 clear hB hb)
              | ((with_reducible refine at_dst (N := 4) rfl ?_); refine ev_ld rfl 9 _ rfl ⟨g1, 1, none⟩ rfl (.string x.fName) (g1_w1.out.cell 1) _ Try.underlying9 rfl ?_)
              | ((with_reducible refine at_dst (N := 8) rfl ?_); refine ev_ld rfl 9 _ rfl ⟨g1, 2, none⟩ rfl (.string x.fVersion) (g1_w1.out.cell 2) _ Try.underlying9 rfl ?_)
              | ((with_reducible refine at_dst (N := 12) rfl ?_); refine ev_ld rfl 9 _ rfl ⟨g1, 3, none⟩ rfl (.string x.fRepository) (g1_w1.out.cell 3) _ Try.underlying9 rfl ?_)
              | ((with_reducible refine at_dst (N := 16) rfl ?_); refine ev_ld rfl 9 _ rfl ⟨g1, 4, none⟩ rfl (.string x.fCondition) (g1_w1.out.cell 4) _ Try.underlying9 rfl ?_)
              | ((with_reducible refine at_dst (N := 20) rfl ?_); refine ev_ld rfl 22 _ rfl ⟨g1, 5, none⟩ rfl (.slice x.fTags_a x.fTags.length x.fTags_c) (g1_w1.out.cell 5) _ Try.underlying22 rfl ?_)
              | (go_at_call 27; (with_reducible refine (zzFits3_any x.fTags_a x.fTags_c x.fTags _ (H0_Tags.out.below B_w1.out)).mono ?_); rintro e wq ⟨rfl, rfl⟩; rw [hc5]))
            go_ret
            exact HQ.out _ _ ⟨ret_bool (by simp only [fits152, P0.out, P1.out, P2.out, P3.out, P4.out, Bool.and_self, Bool.and_false, Bool.false_and]), B_w1.out⟩
          · have P4 := Lib.hid hc5
            by_cases hc6 : (2147483647 : Int) < ↑x.fAlias.size
            · have P5 : Hid (decide (x.fAlias.size ≤ 2147483647) = false) := by show _ = _; simp; omega
              go_wp2_with (first
                | ((with_reducible refine at_dst (N := 1) rfl ?_); refine ev_box rfl 80 _ rfl _ rfl ?_; intro g1 w1 hg hB hb
                   have low_g1 := Nat.le_trans (Nat.le_refl _) hg
                   have B_w1 := Lib.hid (below_trans (Below.refl _ _) hb)
                   have g1_w1 : Hid (Blk w1 g1 80 #[.bool x.fNil, .string x.fName, .string x.fVersion, .string x.fRepository, .string x.fCondition, .slice x.fTags_a x.fTags.length x.fTags_c, .string x.fAlias]) := hB
                   clear hB hb)
                | ((with_reducible refine at_dst (N := 4) rfl ?_); refine ev_ld rfl 9 _ rfl ⟨g1, 1, none⟩ rfl (.string x.fName) (g1_w1.out.cell 1) _ Try.underlying9 rfl ?_)
                | ((with_reducible refine at_dst (N := 8) rfl ?_); refine ev_ld rfl 9 _ rfl ⟨g1, 2, none⟩ rfl (.string x.fVersion) (g1_w1.out.cell 2) _ Try.underlying9 rfl ?_)
                | ((with_reducible refine at_dst (N := 12) rfl ?_); refine ev_ld rfl 9 _ rfl ⟨g1, 3, none⟩ rfl (.string x.fRepository) (g1_w1.out.cell 3) _ Try.underlying9 rfl ?_)
                | ((with_reducible refine at_dst (N := 16) rfl ?_); refine ev_ld rfl 9 _ rfl ⟨g1, 4, none⟩ rfl (.string x.fCondition) (g1_w1.out.cell 4) _ Try.underlying9 rfl ?_)
                | ((with_reducible refine at_dst (N := 20) rfl ?_); refine ev_ld rfl 22 _ rfl ⟨g1, 5, none⟩ rfl (.slice x.fTags_a x.fTags.length x.fTags_c) (g1_w1.out.cell 5) _ Try.underlying22 rfl ?_)
                | (go_at_call 27; (with_reducible refine (zzFits3_any x.fTags_a x.fTags_c x.fTags _ (H0_Tags.out.below B_w1.out)).mono ?_); rintro e wq ⟨rfl, rfl⟩; rw [hc5])
                | ((with_reducible refine at_dst (N := 24) rfl ?_); refine ev_ld rfl 9 _ rfl ⟨g1, 6, none⟩ rfl (.string x.fAlias) (g1_w1.out.cell 6) _ Try.underlying9 rfl ?_))
              go_ret
              exact HQ.out _ _ ⟨ret_bool (by simp only [fits152, P0.out, P1.out, P2.out, P3.out, P4.out, P5.out, Bool.and_self, Bool.and_false, Bool.false_and]), B_w1.out⟩
            · have P5 : Hid (decide (x.fAlias.size ≤ 2147483647) = true) := by show _ = _; simp; omega
              go_wp2_with (first
                | ((with_reducible refine at_dst (N := 1) rfl ?_); refine ev_box rfl 80 _ rfl _ rfl ?_; intro g1 w1 hg hB hb
                   have low_g1 := Nat.le_trans (Nat.le_refl _) hg
                   have B_w1 := Lib.hid (below_trans (Below.refl _ _) hb)
                   have g1_w1 : Hid (Blk w1 g1 80 #[.bool x.fNil, .string x.fName, .string x.fVersion, .string x.fRepository, .string x.fCondition, .slice x.fTags_a x.fTags.length x.fTags_c, .string x.fAlias]) := hB
                   clear hB hb)
                | ((with_reducible refine at_dst (N := 4) rfl ?_); refine ev_ld rfl 9 _ rfl ⟨g1, 1, none⟩ rfl (.string x.fName) (g1_w1.out.cell 1) _ Try.underlying9 rfl ?_)
                | ((with_reducible refine at_dst (N := 8) rfl ?_); refine ev_ld rfl 9 _ rfl ⟨g1, 2, none⟩ rfl (.string x.fVersion) (g1_w1.out.cell 2) _ Try.underlying9 rfl ?_)
                | ((with_reducible refine at_dst (N := 12) rfl ?_); refine ev_ld rfl 9 _ rfl ⟨g1, 3, none⟩ rfl (.string x.fRepository) (g1_w1.out.cell 3) _ Try.underlying9 rfl ?_)
                | ((with_reducible refine at_dst (N := 16) rfl ?_); refine ev_ld rfl 9 _ rfl ⟨g1, 4, none⟩ rfl (.string x.fCondition) (g1_w1.out.cell 4) _ Try.underlying9 rfl ?_)
                | ((with_reducible refine at_dst (N := 20) rfl ?_); refine ev_ld rfl 22 _ rfl ⟨g1, 5, none⟩ rfl (.slice x.fTags_a x.fTags.length x.fTags_c) (g1_w1.out.cell 5) _ Try.underlying22 rfl ?_)
                | (go_at_call 27; (with_reducible refine (zzFits3_any x.fTags_a x.fTags_c x.fTags _ (H0_Tags.out.below B_w1.out)).mono ?_); rintro e wq ⟨rfl, rfl⟩; rw [hc5])
                | ((with_reducible refine at_dst (N := 24) rfl ?_); refine ev_ld rfl 9 _ rfl ⟨g1, 6, none⟩ rfl (.string x.fAlias) (g1_w1.out.cell 6) _ Try.underlying9 rfl ?_))
              go_ret
              exact HQ.out _ _ ⟨ret_bool (by simp only [fits152, P0.out, P1.out, P2.out, P3.out, P4.out, P5.out, Bool.and_self, Bool.and_false, Bool.false_and]), B_w1.out⟩
def fits90 (xs : List Ty80) : Bool := decide (xs.length ≤ 2147483647) && xs.all fits152
set_option maxRecDepth 100000 in
set_option maxHeartbeats 4000000 in
theorem fits90_any (A : Option Addr) (c : Nat) (xs : List Ty80) (w : World) (h0 : Rows w (A) 7 (xs.map Ty80.cells)) (h1 : Ty80.oks xs w)  :
    Calls Try.prog 90 #[.slice (A) (xs.length) (c)] w fun e w' => e = .returned (.bool (fits90 xs)) ∧ Below w.heap.size w w' := by
  have hl_xs : xs.length ≤ 9223372036854775807 := by have := h0.1; simpa [strs, ptrs] using this
  have H0 := Lib.hid h0
  clear h0
  have H1 := Lib.hid h1
  clear h1
  suffices hQ : ∀ Q : Ending → World → Prop, Hid (∀ (e : Ending) (w' : World), (e = .returned (.bool (fits90 xs)) ∧ Below w.heap.size w w') → Post1 Q e w') → Calls Try.prog 90 #[.slice (A) (xs.length) (c)] w (fun e w' => Post1 Q e w') from hQ (fun e w' => e = .returned (.bool (fits90 xs)) ∧ Below w.heap.size w w') (fun _ _ h => by unfold Post1; exact h)
  intro Q HQ
  go_enter Try.func90, Try.ntmps90
  by_cases hc1 : (2147483647 : Int) < ↑xs.length
  · go_wp2_with fail
    go_ret
    exact HQ.out _ _ ⟨ret_bool (by have e : decide (xs.length ≤ 2147483647) = false := (by simp; omega); rw [fits90, e, Bool.false_and]), (Below.refl _ _)⟩
  · go_wp2_with fail
    go_loopw [10] (fun v10 wr => ∃ k : Nat, (k ≤ xs.length) ∧ v10 = .int .i64 (↑k) ∧ Hid ((xs.take k).all fits152 = true) ∧ Hid (Below w.heap.size w wr)) (fun v10 _ => xs.length - (intOf v10).toNat)
    case atStart => exact ⟨0, (by omega), rfl, rfl, (Below.refl _ _)⟩
    case round =>
      obtain ⟨k, hk, rfl, L0_all, L0_B⟩ := hrel
      by_cases hlt_k : k < xs.length
      · obtain ⟨ad_k, rfl⟩ := (H0.out.below L0_B.out).addr (by simp [strs, ptrs]; omega)
        have HE := Lib.hid (Ty80.oks.at H1.out hlt_k)
        cases hc2 : (fits152 xs[k])
        · go_wp2_with (first
            | ((with_reducible refine at_dst (N := 13) rfl ?_); refine ev_loadR rfl 80 _ rfl _ rfl [.bool xs[k].fNil, .string xs[k].fName, .string xs[k].fVersion, .string xs[k].fRepository, .string xs[k].fCondition, .slice xs[k].fTags_a xs[k].fTags.length xs[k].fTags_c, .string xs[k].fAlias] ((H0.out.below L0_B.out).el (j := k) (row := xs[k].cells) (by simp [hlt_k])) _ Try.underlying80 rfl tsz80 ?_)
            | ((with_reducible refine at_dst (N := 4) rfl ?_); refine ev_alloc rfl 80 rfl _ _ tz80 ?_; intro g4 w1 hg hB hb
               have low_g4 := Nat.le_trans L0_B.out.size hg
               have B_w1 := Lib.hid (below_trans L0_B.out hb)
               have g4_w1 : Hid (Blk w1 g4 80 #[.bool false, .string ⟨#[]⟩, .string ⟨#[]⟩, .string ⟨#[]⟩, .string ⟨#[]⟩, .slice none 0 0, .string ⟨#[]⟩]) := hB
               clear hB hb)
            | (refine ev_store rfl 80 _ _ rfl g4 _ _ rfl rfl 80 g4_w1.out tsz80 rfl rfl ?_; intro w2 hB hg hz
               have hx := GrX.grown (S := fun k => k = g4) hg rfl
               have B_w2 := Lib.hid (below_grx B_w1.out hx B_w1.out.size (fun k => (fun e => e ▸ low_g4)))
               clear hx
               have g4_w2 : Hid (Blk w2 g4 80 #[.bool xs[k].fNil, .string xs[k].fName, .string xs[k].fVersion, .string xs[k].fRepository, .string xs[k].fCondition, .slice xs[k].fTags_a xs[k].fTags.length xs[k].fTags_c, .string xs[k].fAlias]) := hB
               clear hB hg hz)
            | ((with_reducible refine at_dst (N := 14) rfl ?_); refine ev_loadB rfl 80 _ rfl g4 rfl 80 _ g4_w2.out _ Try.underlying80 rfl tsz80 ?_)
            | (go_at_call 152; (with_reducible refine (fits152_any xs[k] _ (Ty80.ok.below HE.out B_w2.out)).mono ?_); rintro e w3 ⟨rfl, hb⟩; rw [hc2]
               have g4_w3 := Lib.hid (g4_w2.out.below hb)
               have B_w3 := Lib.hid (below_trans B_w2.out hb)
               clear hb))
          go_ret
          exact HQ.out _ _ ⟨ret_bool (by rw [fits90, all_at hlt_k hc2, Bool.and_false]), B_w3.out⟩
        · go_wp2_with (first
            | ((with_reducible refine at_dst (N := 13) rfl ?_); refine ev_loadR rfl 80 _ rfl _ rfl [.bool xs[k].fNil, .string xs[k].fName, .string xs[k].fVersion, .string xs[k].fRepository, .string xs[k].fCondition, .slice xs[k].fTags_a xs[k].fTags.length xs[k].fTags_c, .string xs[k].fAlias] ((H0.out.below L0_B.out).el (j := k) (row := xs[k].cells) (by simp [hlt_k])) _ Try.underlying80 rfl tsz80 ?_)
            | ((with_reducible refine at_dst (N := 4) rfl ?_); refine ev_alloc rfl 80 rfl _ _ tz80 ?_; intro g4 w1 hg hB hb
               have low_g4 := Nat.le_trans L0_B.out.size hg
               have B_w1 := Lib.hid (below_trans L0_B.out hb)
               have g4_w1 : Hid (Blk w1 g4 80 #[.bool false, .string ⟨#[]⟩, .string ⟨#[]⟩, .string ⟨#[]⟩, .string ⟨#[]⟩, .slice none 0 0, .string ⟨#[]⟩]) := hB
               clear hB hb)
            | (refine ev_store rfl 80 _ _ rfl g4 _ _ rfl rfl 80 g4_w1.out tsz80 rfl rfl ?_; intro w2 hB hg hz
               have hx := GrX.grown (S := fun k => k = g4) hg rfl
               have B_w2 := Lib.hid (below_grx B_w1.out hx B_w1.out.size (fun k => (fun e => e ▸ low_g4)))
               clear hx
               have g4_w2 : Hid (Blk w2 g4 80 #[.bool xs[k].fNil, .string xs[k].fName, .string xs[k].fVersion, .string xs[k].fRepository, .string xs[k].fCondition, .slice xs[k].fTags_a xs[k].fTags.length xs[k].fTags_c, .string xs[k].fAlias]) := hB
               clear hB hg hz)
            | ((with_reducible refine at_dst (N := 14) rfl ?_); refine ev_loadB rfl 80 _ rfl g4 rfl 80 _ g4_w2.out _ Try.underlying80 rfl tsz80 ?_)
            | (go_at_call 152; (with_reducible refine (fits152_any xs[k] _ (Ty80.ok.below HE.out B_w2.out)).mono ?_); rintro e w3 ⟨rfl, hb⟩; rw [hc2]
               have g4_w3 := Lib.hid (g4_w2.out.below hb)
               have B_w3 := Lib.hid (below_trans B_w2.out hb)
               clear hb))
          refine ⟨⟨k + 1, (by omega), by go_num, by show _ = _; rw [all_take hlt_k, L0_all.out, hc2]; rfl, B_w3⟩, ?_⟩
          simp [intOf]; omega
      · obtain rfl : k = xs.length := by omega
        rw [List.take_length] at L0_all
        go_wp2_with fail
        go_ret
        exact HQ.out _ _ ⟨ret_bool (by have e : decide (xs.length ≤ 2147483647) = true := (by simp; omega); rw [fits90, e, L0_all.out]; rfl), L0_B.out⟩
def fits37 (x : Ty26) : Bool := decide (x.fName.size ≤ 2147483647) && decide (x.fHome.size ≤ 2147483647) && decide (x.fVersion.size ≤ 2147483647) && decide (x.fDescription.size ≤ 2147483647) && decide (x.fIcon.size ≤ 2147483647) && decide (x.fAPIVersion.size ≤ 2147483647) && decide (x.fCondition.size ≤ 2147483647) && decide (x.fTags.size ≤ 2147483647) && decide (x.fAppVersion.size ≤ 2147483647) && decide (x.fKubeVersion.size ≤ 2147483647) && decide (x.fType.size ≤ 2147483647) && (fits3 x.fSources) && (fits3 x.fKeywords) && (fits89 x.fMaintainers) && (fits90 x.fDependencies)
set_option maxRecDepth 100000 in
set_option maxHeartbeats 4000000 in
theorem fits37_any (x : Ty26) (w : World) (h0 : Ty26.ok x w)  :
    Calls Try.prog 37 #[.agg #[.string x.fName, .string x.fHome, .string x.fVersion, .string x.fDescription, .string x.fIcon, .string x.fAPIVersion, .string x.fCondition, .string x.fTags, .string x.fAppVersion, .string x.fKubeVersion, .string x.fType, .slice x.fSources_a x.fSources.length x.fSources_c, .slice x.fKeywords_a x.fKeywords.length x.fKeywords_c, .slice x.fMaintainers_a x.fMaintainers.length x.fMaintainers_c, .slice x.fDependencies_a x.fDependencies.length x.fDependencies_c]] w fun e w' => e = .returned (.bool (fits37 x)) ∧ Below w.heap.size w w' := by
  have H0 := Lib.hid h0
  clear h0
  have H0_Sources := Lib.hid (Ty26.ok_sSources H0.out)
  have H0_Keywords := Lib.hid (Ty26.ok_sKeywords H0.out)
  have H0_Maintainers := Lib.hid (Ty26.ok_rMaintainers H0.out)
  have H0_Maintainerso := Lib.hid (Ty26.ok_oMaintainers H0.out)
  have H0_Dependencies := Lib.hid (Ty26.ok_rDependencies H0.out)
  have H0_Dependencieso := Lib.hid (Ty26.ok_oDependencies H0.out)
  suffices hQ : ∀ Q : Ending → World → Prop, Hid (∀ (e : Ending) (w' : World), (e = .returned (.bool (fits37 x)) ∧ Below w.heap.size w w') → Post1 Q e w') → Calls Try.prog 37 #[.agg #[.string x.fName, .string x.fHome, .string x.fVersion, .string x.fDescription, .string x.fIcon, .string x.fAPIVersion, .string x.fCondition, .string x.fTags, .string x.fAppVersion, .string x.fKubeVersion, .string x.fType, .slice x.fSources_a x.fSources.length x.fSources_c, .slice x.fKeywords_a x.fKeywords.length x.fKeywords_c, .slice x.fMaintainers_a x.fMaintainers.length x.fMaintainers_c, .slice x.fDependencies_a x.fDependencies.length x.fDependencies_c]] w (fun e w' => Post1 Q e w') from hQ (fun e w' => e = .returned (.bool (fits37 x)) ∧ Below w.heap.size w w') (fun _ _ h => by unfold Post1; exact h)
  intro Q HQ
  go_enter Try.func37, Try.ntmps37
  by_cases hc1 : (2147483647 : Int) < ↑x.fName.size
  · have P0 : Hid (decide (x.fName.size ≤ 2147483647) = false) := by show _ = _; simp; omega
    go_wp2_with (first
      | ((with_reducible refine at_dst (N := 1) rfl ?_); refine ev_box rfl 26 _ rfl _ rfl ?_; intro g1 w1 hg hB hb
         have low_g1 := Nat.le_trans (Nat.le_refl _) hg
         have B_w1 := Lib.hid (below_trans (Below.refl _ _) hb)
         have g1_w1 : Hid (Blk w1 g1 26 #[.string x.fName, .string x.fHome, .string x.fVersion, .string x.fDescription, .string x.fIcon, .string x.fAPIVersion, .string x.fCondition, .string x.fTags, .string x.fAppVersion, .string x.fKubeVersion, .string x.fType, .slice x.fSources_a x.fSources.length x.fSources_c, .slice x.fKeywords_a x.fKeywords.length x.fKeywords_c, .slice x.fMaintainers_a x.fMaintainers.length x.fMaintainers_c, .slice x.fDependencies_a x.fDependencies.length x.fDependencies_c]) := hB
         clear hB hb)
      | ((with_reducible refine at_dst (N := 4) rfl ?_); refine ev_ld rfl 9 _ rfl ⟨g1, 0, none⟩ rfl (.string x.fName) (g1_w1.out.cell 0) _ Try.underlying9 rfl ?_))
    go_ret
    exact HQ.out _ _ ⟨ret_bool (by simp only [fits37, P0.out, Bool.and_self, Bool.and_false, Bool.false_and]), B_w1.out⟩
  · have P0 : Hid (decide (x.fName.size ≤ 2147483647) = true) := by show _ = _; simp; omega
    by_cases hc2 : (2147483647 : Int) < ↑x.fHome.size
    · have P1 : Hid (decide (x.fHome.size ≤ 2147483647) = false) := by show _ = _; simp; omega
      go_wp2_with (first
        | ((with_reducible refine at_dst (N := 1) rfl ?_); refine ev_box rfl 26 _ rfl _ rfl ?_; intro g1 w1 hg hB hb
           have low_g1 := Nat.le_trans (Nat.le_refl _) hg
           have B_w1 := Lib.hid (below_trans (Below.refl _ _) hb)
           have g1_w1 : Hid (Blk w1 g1 26 #[.string x.fName, .string x.fHome, .string x.fVersion, .string x.fDescription, .string x.fIcon, .string x.fAPIVersion, .string x.fCondition, .string x.fTags, .string x.fAppVersion, .string x.fKubeVersion, .string x.fType, .slice x.fSources_a x.fSources.length x.fSources_c, .slice x.fKeywords_a x.fKeywords.length x.fKeywords_c, .slice x.fMaintainers_a x.fMaintainers.length x.fMaintainers_c, .slice x.fDependencies_a x.fDependencies.length x.fDependencies_c]) := hB
           clear hB hb)
        | ((with_reducible refine at_dst (N := 4) rfl ?_); refine ev_ld rfl 9 _ rfl ⟨g1, 0, none⟩ rfl (.string x.fName) (g1_w1.out.cell 0) _ Try.underlying9 rfl ?_)
        | ((with_reducible refine at_dst (N := 8) rfl ?_); refine ev_ld rfl 9 _ rfl ⟨g1, 1, none⟩ rfl (.string x.fHome) (g1_w1.out.cell 1) _ Try.underlying9 rfl ?_))
      go_ret
      exact HQ.out _ _ ⟨ret_bool (by simp only [fits37, P0.out, P1.out, Bool.and_self, Bool.and_false, Bool.false_and]), B_w1.out⟩
    · have P1 : Hid (decide (x.fHome.size ≤ 2147483647) = true) := by show _ = _; simp; omega
      by_cases hc3 : (2147483647 : Int) < ↑x.fVersion.size
      · have P2 : Hid (decide (x.fVersion.size ≤ 2147483647) = false) := by show _ = _; simp; omega
        go_wp2_with (first
          | ((with_reducible refine at_dst (N := 1) rfl ?_); refine ev_box rfl 26 _ rfl _ rfl ?_; intro g1 w1 hg hB hb
             have low_g1 := Nat.le_trans (Nat.le_refl _) hg
             have B_w1 := Lib.hid (below_trans (Below.refl _ _) hb)
             have g1_w1 : Hid (Blk w1 g1 26 #[.string x.fName, .string x.fHome, .string x.fVersion, .string x.fDescription, .string x.fIcon, .string x.fAPIVersion, .string x.fCondition, .string x.fTags, .string x.fAppVersion, .string x.fKubeVersion, .string x.fType, .slice x.fSources_a x.fSources.length x.fSources_c, .slice x.fKeywords_a x.fKeywords.length x.fKeywords_c, .slice x.fMaintainers_a x.fMaintainers.length x.fMaintainers_c, .slice x.fDependencies_a x.fDependencies.length x.fDependencies_c]) := hB
             clear hB hb)
          | ((with_reducible refine at_dst (N := 4) rfl ?_); refine ev_ld rfl 9 _ rfl ⟨g1, 0, none⟩ rfl (.string x.fName) (g1_w1.out.cell 0) _ Try.underlying9 rfl ?_)
          | ((with_reducible refine at_dst (N := 8) rfl ?_); refine ev_ld rfl 9 _ rfl ⟨g1, 1, none⟩ rfl (.string x.fHome) (g1_w1.out.cell 1) _ Try.underlying9 rfl ?_)
          | ((with_reducible refine at_dst (N := 12) rfl ?_); refine ev_ld rfl 9 _ rfl ⟨g1, 2, none⟩ rfl (.string x.fVersion) (g1_w1.out.cell 2) _ Try.underlying9 rfl ?_))
        go_ret
        exact HQ.out _ _ ⟨ret_bool (by simp only [fits37, P0.out, P1.out, P2.out, Bool.and_self, Bool.and_false, Bool.false_and]), B_w1.out⟩
      · have P2 : Hid (decide (x.fVersion.size ≤ 2147483647) = true) := by show _ = _; simp; omega
        by_cases hc4 : (2147483647 : Int) < ↑x.fDescription.size
        · have P3 : Hid (decide (x.fDescription.size ≤ 2147483647) = false) := by show _ = _; simp; omega
          go_wp2_with (first
            | ((with_reducible refine at_dst (N := 1) rfl ?_); refine ev_box rfl 26 _ rfl _ rfl ?_; intro g1 w1 hg hB hb
               have low_g1 := Nat.le_trans (Nat.le_refl _) hg
               have B_w1 := Lib.hid (below_trans (Below.refl _ _) hb)
               have g1_w1 : Hid (Blk w1 g1 26 #[.string x.fName, .string x.fHome, .string x.fVersion, .string x.fDescription, .string x.fIcon, .string x.fAPIVersion, .string x.fCondition, .string x.fTags, .string x.fAppVersion, .string x.fKubeVersion, .string x.fType, .slice x.fSources_a x.fSources.length x.fSources_c, .slice x.fKeywords_a x.fKeywords.length x.fKeywords_c, .slice x.fMaintainers_a x.fMaintainers.length x.fMaintainers_c, .slice x.fDependencies_a x.fDependencies.length x.fDependencies_c]) := hB
               clear hB hb)
            | ((with_reducible refine at_dst (N := 4) rfl ?_); refine ev_ld rfl 9 _ rfl ⟨g1, 0, none⟩ rfl (.string x.fName) (g1_w1.out.cell 0) _ Try.underlying9 rfl ?_)
            | ((with_reducible refine at_dst (N := 8) rfl ?_); refine ev_ld rfl 9 _ rfl ⟨g1, 1, none⟩ rfl (.string x.fHome) (g1_w1.out.cell 1) _ Try.underlying9 rfl ?_)
            | ((with_reducible refine at_dst (N := 12) rfl ?_); refine ev_ld rfl 9 _ rfl ⟨g1, 2, none⟩ rfl (.string x.fVersion) (g1_w1.out.cell 2) _ Try.underlying9 rfl ?_)
            | ((with_reducible refine at_dst (N := 16) rfl ?_); refine ev_ld rfl 9 _ rfl ⟨g1, 3, none⟩ rfl (.string x.fDescription) (g1_w1.out.cell 3) _ Try.underlying9 rfl ?_))
          go_ret
          exact HQ.out _ _ ⟨ret_bool (by simp only [fits37, P0.out, P1.out, P2.out, P3.out, Bool.and_self, Bool.and_false, Bool.false_and]), B_w1.out⟩
        · have P3 : Hid (decide (x.fDescription.size ≤ 2147483647) = true) := by show _ = _; simp; omega
          by_cases hc5 : (2147483647 : Int) < ↑x.fIcon.size
          · have P4 : Hid (decide (x.fIcon.size ≤ 2147483647) = false) := by show _ = _; simp; omega
            go_wp2_with (first
              | ((with_reducible refine at_dst (N := 1) rfl ?_); refine ev_box rfl 26 _ rfl _ rfl ?_; intro g1 w1 hg hB hb
                 have low_g1 := Nat.le_trans (Nat.le_refl _) hg
                 have B_w1 := Lib.hid (below_trans (Below.refl _ _) hb)
                 have g1_w1 : Hid (Blk w1 g1 26 #[.string x.fName, .string x.fHome, .string x.fVersion, .string x.fDescription, .string x.fIcon, .string x.fAPIVersion, .string x.fCondition, .string x.fTags, .string x.fAppVersion, .string x.fKubeVersion, .string x.fType, .slice x.fSources_a x.fSources.length x.fSources_c, .slice x.fKeywords_a x.fKeywords.length x.fKeywords_c, .slice x.fMaintainers_a x.fMaintainers.length x.fMaintainers_c, .slice x.fDependencies_a x.fDependencies.length x.fDependencies_c]) := hB
                 clear hB hb)
              | ((with_reducible refine at_dst (N := 4) rfl ?_); refine ev_ld rfl 9 _ rfl ⟨g1, 0, none⟩ rfl (.string x.fName) (g1_w1.out.cell 0) _ Try.underlying9 rfl ?_)
              | ((with_reducible refine at_dst (N := 8) rfl ?_); refine ev_ld rfl 9 _ rfl ⟨g1, 1, none⟩ rfl (.string x.fHome) (g1_w1.out.cell 1) _ Try.underlying9 rfl ?_)
              | ((with_reducible refine at_dst (N := 12) rfl ?_); refine ev_ld rfl 9 _ rfl ⟨g1, 2, none⟩ rfl (.string x.fVersion) (g1_w1.out.cell 2) _ Try.underlying9 rfl ?_)
              | ((with_reducible refine at_dst (N := 16) rfl ?_); refine ev_ld rfl 9 _ rfl ⟨g1, 3, none⟩ rfl (.string x.fDescription) (g1_w1.out.cell 3) _ Try.underlying9 rfl ?_)
              | ((with_reducible refine at_dst (N := 20) rfl ?_); refine ev_ld rfl 9 _ rfl ⟨g1, 4, none⟩ rfl (.string x.fIcon) (g1_w1.out.cell 4) _ Try.underlying9 rfl ?_))
            go_ret
            exact HQ.out _ _ ⟨ret_bool (by simp only [fits37, P0.out, P1.out, P2.out, P3.out, P4.out, Bool.and_self, Bool.and_false, Bool.false_and]), B_w1.out⟩
          · have P4 : Hid (decide (x.fIcon.size ≤ 2147483647) = true) := by show _ = _; simp; omega
            by_cases hc6 : (2147483647 : Int) < ↑x.fAPIVersion.size
            · have P5 : Hid (decide (x.fAPIVersion.size ≤ 2147483647) = false) := by show _ = _; simp; omega
              go_wp2_with (first
                | ((with_reducible refine at_dst (N := 1) rfl ?_); refine ev_box rfl 26 _ rfl _ rfl ?_; intro g1 w1 hg hB hb
                   have low_g1 := Nat.le_trans (Nat.le_refl _) hg
                   have B_w1 := Lib.hid (below_trans (Below.refl _ _) hb)
                   have g1_w1 : Hid (Blk w1 g1 26 #[.string x.fName, .string x.fHome, .string x.fVersion, .string x.fDescription, .string x.fIcon, .string x.fAPIVersion, .string x.fCondition, .string x.fTags, .string x.fAppVersion, .string x.fKubeVersion, .string x.fType, .slice x.fSources_a x.fSources.length x.fSources_c, .slice x.fKeywords_a x.fKeywords.length x.fKeywords_c, .slice x.fMaintainers_a x.fMaintainers.length x.fMaintainers_c, .slice x.fDependencies_a x.fDependencies.length x.fDependencies_c]) := hB
                   clear hB hb)
                | ((with_reducible refine at_dst (N := 4) rfl ?_); refine ev_ld rfl 9 _ rfl ⟨g1, 0, none⟩ rfl (.string x.fName) (g1_w1.out.cell 0) _ Try.underlying9 rfl ?_)
                | ((with_reducible refine at_dst (N := 8) rfl ?_); refine ev_ld rfl 9 _ rfl ⟨g1, 1, none⟩ rfl (.string x.fHome) (g1_w1.out.cell 1) _ Try.underlying9 rfl ?_)
                | ((with_reducible refine at_dst (N := 12) rfl ?_); refine ev_ld rfl 9 _ rfl ⟨g1, 2, none⟩ rfl (.string x.fVersion) (g1_w1.out.cell 2) _ Try.underlying9 rfl ?_)
                | ((with_reducible refine at_dst (N := 16) rfl ?_); refine ev_ld rfl 9 _ rfl ⟨g1, 3, none⟩ rfl (.string x.fDescription) (g1_w1.out.cell 3) _ Try.underlying9 rfl ?_)
                | ((with_reducible refine at_dst (N := 20) rfl ?_); refine ev_ld rfl 9 _ rfl ⟨g1, 4, none⟩ rfl (.string x.fIcon) (g1_w1.out.cell 4) _ Try.underlying9 rfl ?_)
                | ((with_reducible refine at_dst (N := 24) rfl ?_); refine ev_ld rfl 9 _ rfl ⟨g1, 5, none⟩ rfl (.string x.fAPIVersion) (g1_w1.out.cell 5) _ Try.underlying9 rfl ?_))
              go_ret
              exact HQ.out _ _ ⟨ret_bool (by simp only [fits37, P0.out, P1.out, P2.out, P3.out, P4.out, P5.out, Bool.and_self, Bool.and_false, Bool.false_and]), B_w1.out⟩
            · have P5 : Hid (decide (x.fAPIVersion.size ≤ 2147483647) = true) := by show _ = _; simp; omega
              by_cases hc7 : (2147483647 : Int) < ↑x.fCondition.size
              · have P6 : Hid (decide (x.fCondition.size ≤ 2147483647) = false) := by show _ = _; simp; omega
                go_wp2_with (first
                  | ((with_reducible refine at_dst (N := 1) rfl ?_); refine ev_box rfl 26 _ rfl _ rfl ?_; intro g1 w1 hg hB hb
                     have low_g1 := Nat.le_trans (Nat.le_refl _) hg
                     have B_w1 := Lib.hid (below_trans (Below.refl _ _) hb)
                     have g1_w1 : Hid (Blk w1 g1 26 #[.string x.fName, .string x.fHome, .string x.fVersion, .string x.fDescription, .string x.fIcon, .string x.fAPIVersion, .string x.fCondition, .string x.fTags, .string x.fAppVersion, .string x.fKubeVersion, .string x.fType, .slice x.fSources_a x.fSources.length x.fSources_c, .slice x.fKeywords_a x.fKeywords.length x.fKeywords_c, .slice x.fMaintainers_a x.fMaintainers.length x.fMaintainers_c, .slice x.fDependencies_a x.fDependencies.length x.fDependencies_c]) := hB
                     clear hB hb)
                  | ((with_reducible refine at_dst (N := 4) rfl ?_); refine ev_ld rfl 9 _ rfl ⟨g1, 0, none⟩ rfl (.string x.fName) (g1_w1.out.cell 0) _ Try.underlying9 rfl ?_)
                  | ((with_reducible refine at_dst (N := 8) rfl ?_); refine ev_ld rfl 9 _ rfl ⟨g1, 1, none⟩ rfl (.string x.fHome) (g1_w1.out.cell 1) _ Try.underlying9 rfl ?_)
                  | ((with_reducible refine at_dst (N := 12) rfl ?_); refine ev_ld rfl 9 _ rfl ⟨g1, 2, none⟩ rfl (.string x.fVersion) (g1_w1.out.cell 2) _ Try.underlying9 rfl ?_)
                  | ((with_reducible refine at_dst (N := 16) rfl ?_); refine ev_ld rfl 9 _ rfl ⟨g1, 3, none⟩ rfl (.string x.fDescription) (g1_w1.out.cell 3) _ Try.underlying9 rfl ?_)
                  | ((with_reducible refine at_dst (N := 20) rfl ?_); refine ev_ld rfl 9 _ rfl ⟨g1, 4, none⟩ rfl (.string x.fIcon) (g1_w1.out.cell 4) _ Try.underlying9 rfl ?_)
                  | ((with_reducible refine at_dst (N := 24) rfl ?_); refine ev_ld rfl 9 _ rfl ⟨g1, 5, none⟩ rfl (.string x.fAPIVersion) (g1_w1.out.cell 5) _ Try.underlying9 rfl ?_)
                  | ((with_reducible refine at_dst (N := 28) rfl ?_); refine ev_ld rfl 9 _ rfl ⟨g1, 6, none⟩ rfl (.string x.fCondition) (g1_w1.out.cell 6) _ Try.underlying9 rfl ?_))
                go_ret
                exact HQ.out _ _ ⟨ret_bool (by simp only [fits37, P0.out, P1.out, P2.out, P3.out, P4.out, P5.out, P6.out, Bool.and_self, Bool.and_false, Bool.false_and]), B_w1.out⟩
              · have P6 : Hid (decide (x.fCondition.size ≤ 2147483647) = true) := by show _ = _; simp; omega
                by_cases hc8 : (2147483647 : Int) < ↑x.fTags.size
                · have P7 : Hid (decide (x.fTags.size ≤ 2147483647) = false) := by show _ = _; simp; omega
                  go_wp2_with (first
                    | ((with_reducible refine at_dst (N := 1) rfl ?_); refine ev_box rfl 26 _ rfl _ rfl ?_; intro g1 w1 hg hB hb
                       have low_g1 := Nat.le_trans (Nat.le_refl _) hg
                       have B_w1 := Lib.hid (below_trans (Below.refl _ _) hb)
                       have g1_w1 : Hid (Blk w1 g1 26 #[.string x.fName, .string x.fHome, .string x.fVersion, .string x.fDescription, .string x.fIcon, .string x.fAPIVersion, .string x.fCondition, .string x.fTags, .string x.fAppVersion, .string x.fKubeVersion, .string x.fType, .slice x.fSources_a x.fSources.length x.fSources_c, .slice x.fKeywords_a x.fKeywords.length x.fKeywords_c, .slice x.fMaintainers_a x.fMaintainers.length x.fMaintainers_c, .slice x.fDependencies_a x.fDependencies.length x.fDependencies_c]) := hB
                       clear hB hb)
                    | ((with_reducible refine at_dst (N := 4) rfl ?_); refine ev_ld rfl 9 _ rfl ⟨g1, 0, none⟩ rfl (.string x.fName) (g1_w1.out.cell 0) _ Try.underlying9 rfl ?_)
                    | ((with_reducible refine at_dst (N := 8) rfl ?_); refine ev_ld rfl 9 _ rfl ⟨g1, 1, none⟩ rfl (.string x.fHome) (g1_w1.out.cell 1) _ Try.underlying9 rfl ?_)
                    | ((with_reducible refine at_dst (N := 12) rfl ?_); refine ev_ld rfl 9 _ rfl ⟨g1, 2, none⟩ rfl (.string x.fVersion) (g1_w1.out.cell 2) _ Try.underlying9 rfl ?_)
                    | ((with_reducible refine at_dst (N := 16) rfl ?_); refine ev_ld rfl 9 _ rfl ⟨g1, 3, none⟩ rfl (.string x.fDescription) (g1_w1.out.cell 3) _ Try.underlying9 rfl ?_)
                    | ((with_reducible refine at_dst (N := 20) rfl ?_); refine ev_ld rfl 9 _ rfl ⟨g1, 4, none⟩ rfl (.string x.fIcon) (g1_w1.out.cell 4) _ Try.underlying9 rfl ?_)
                    | ((with_reducible refine at_dst (N := 24) rfl ?_); refine ev_ld rfl 9 _ rfl ⟨g1, 5, none⟩ rfl (.string x.fAPIVersion) (g1_w1.out.cell 5) _ Try.underlying9 rfl ?_)
                    | ((with_reducible refine at_dst (N := 28) rfl ?_); refine ev_ld rfl 9 _ rfl ⟨g1, 6, none⟩ rfl (.string x.fCondition) (g1_w1.out.cell 6) _ Try.underlying9 rfl ?_)
                    | ((with_reducible refine at_dst (N := 32) rfl ?_); refine ev_ld rfl 9 _ rfl ⟨g1, 7, none⟩ rfl (.string x.fTags) (g1_w1.out.cell 7) _ Try.underlying9 rfl ?_))
                  go_ret
                  exact HQ.out _ _ ⟨ret_bool (by simp only [fits37, P0.out, P1.out, P2.out, P3.out, P4.out, P5.out, P6.out, P7.out, Bool.and_self, Bool.and_false, Bool.false_and]), B_w1.out⟩
                · have P7 : Hid (decide (x.fTags.size ≤ 2147483647) = true) := by show _ = _; simp; omega
                  by_cases hc9 : (2147483647 : Int) < ↑x.fAppVersion.size
                  · have P8 : Hid (decide (x.fAppVersion.size ≤ 2147483647) = false) := by show _ = _; simp; omega
                    go_wp2_with (first
                      | ((with_reducible refine at_dst (N := 1) rfl ?_); refine ev_box rfl 26 _ rfl _ rfl ?_; intro g1 w1 hg hB hb
                         have low_g1 := Nat.le_trans (Nat.le_refl _) hg
                         have B_w1 := Lib.hid (below_trans (Below.refl _ _) hb)
                         have g1_w1 : Hid (Blk w1 g1 26 #[.string x.fName, .string x.fHome, .string x.fVersion, .string x.fDescription, .string x.fIcon, .string x.fAPIVersion, .string x.fCondition, .string x.fTags, .string x.fAppVersion, .string x.fKubeVersion, .string x.fType, .slice x.fSources_a x.fSources.length x.fSources_c, .slice x.fKeywords_a x.fKeywords.length x.fKeywords_c, .slice x.fMaintainers_a x.fMaintainers.length x.fMaintainers_c, .slice x.fDependencies_a x.fDependencies.length x.fDependencies_c]) := hB
                         clear hB hb)
                      | ((with_reducible refine at_dst (N := 4) rfl ?_); refine ev_ld rfl 9 _ rfl ⟨g1, 0, none⟩ rfl (.string x.fName) (g1_w1.out.cell 0) _ Try.underlying9 rfl ?_)
                      | ((with_reducible refine at_dst (N := 8) rfl ?_); refine ev_ld rfl 9 _ rfl ⟨g1, 1, none⟩ rfl (.string x.fHome) (g1_w1.out.cell 1) _ Try.underlying9 rfl ?_)
                      | ((with_reducible refine at_dst (N := 12) rfl ?_); refine ev_ld rfl 9 _ rfl ⟨g1, 2, none⟩ rfl (.string x.fVersion) (g1_w1.out.cell 2) _ Try.underlying9 rfl ?_)
                      | ((with_reducible refine at_dst (N := 16) rfl ?_); refine ev_ld rfl 9 _ rfl ⟨g1, 3, none⟩ rfl (.string x.fDescription) (g1_w1.out.cell 3) _ Try.underlying9 rfl ?_)
                      | ((with_reducible refine at_dst (N := 20) rfl ?_); refine ev_ld rfl 9 _ rfl ⟨g1, 4, none⟩ rfl (.string x.fIcon) (g1_w1.out.cell 4) _ Try.underlying9 rfl ?_)
                      | ((with_reducible refine at_dst (N := 24) rfl ?_); refine ev_ld rfl 9 _ rfl ⟨g1, 5, none⟩ rfl (.string x.fAPIVersion) (g1_w1.out.cell 5) _ Try.underlying9 rfl ?_)
                      | ((with_reducible refine at_dst (N := 28) rfl ?_); refine ev_ld rfl 9 _ rfl ⟨g1, 6, none⟩ rfl (.string x.fCondition) (g1_w1.out.cell 6) _ Try.underlying9 rfl ?_)
                      | ((with_reducible refine at_dst (N := 32) rfl ?_); refine ev_ld rfl 9 _ rfl ⟨g1, 7, none⟩ rfl (.string x.fTags) (g1_w1.out.cell 7) _ Try.underlying9 rfl ?_)
                      | ((with_reducible refine at_dst (N := 36) rfl ?_); refine ev_ld rfl 9 _ rfl ⟨g1, 8, none⟩ rfl (.string x.fAppVersion) (g1_w1.out.cell 8) _ Try.underlying9 rfl ?_))
                    go_ret
                    exact HQ.out _ _ ⟨ret_bool (by simp only [fits37, P0.out, P1.out, P2.out, P3.out, P4.out, P5.out, P6.out, P7.out, P8.out, Bool.and_self, Bool.and_false, Bool.false_and]), B_w1.out⟩
                  · have P8 : Hid (decide (x.fAppVersion.size ≤ 2147483647) = true) := by show _ = _; simp; omega
                    by_cases hc10 : (2147483647 : Int) < ↑x.fKubeVersion.size
                    · have P9 : Hid (decide (x.fKubeVersion.size ≤ 2147483647) = false) := by show _ = _; simp; omega
                      go_wp2_with (first
                        | ((with_reducible refine at_dst (N := 1) rfl ?_); refine ev_box rfl 26 _ rfl _ rfl ?_; intro g1 w1 hg hB hb
                           have low_g1 := Nat.le_trans (Nat.le_refl _) hg
                           have B_w1 := Lib.hid (below_trans (Below.refl _ _) hb)
                           have g1_w1 : Hid (Blk w1 g1 26 #[.string x.fName, .string x.fHome, .string x.fVersion, .string x.fDescription, .string x.fIcon, .string x.fAPIVersion, .string x.fCondition, .string x.fTags, .string x.fAppVersion, .string x.fKubeVersion, .string x.fType, .slice x.fSources_a x.fSources.length x.fSources_c, .slice x.fKeywords_a x.fKeywords.length x.fKeywords_c, .slice x.fMaintainers_a x.fMaintainers.length x.fMaintainers_c, .slice x.fDependencies_a x.fDependencies.length x.fDependencies_c]) := hB
                           clear hB hb)
                        | ((with_reducible refine at_dst (N := 4) rfl ?_); refine ev_ld rfl 9 _ rfl ⟨g1, 0, none⟩ rfl (.string x.fName) (g1_w1.out.cell 0) _ Try.underlying9 rfl ?_)
                        | ((with_reducible refine at_dst (N := 8) rfl ?_); refine ev_ld rfl 9 _ rfl ⟨g1, 1, none⟩ rfl (.string x.fHome) (g1_w1.out.cell 1) _ Try.underlying9 rfl ?_)
                        | ((with_reducible refine at_dst (N := 12) rfl ?_); refine ev_ld rfl 9 _ rfl ⟨g1, 2, none⟩ rfl (.string x.fVersion) (g1_w1.out.cell 2) _ Try.underlying9 rfl ?_)
                        | ((with_reducible refine at_dst (N := 16) rfl ?_); refine ev_ld rfl 9 _ rfl ⟨g1, 3, none⟩ rfl (.string x.fDescription) (g1_w1.out.cell 3) _ Try.underlying9 rfl ?_)
                        | ((with_reducible refine at_dst (N := 20) rfl ?_); refine ev_ld rfl 9 _ rfl ⟨g1, 4, none⟩ rfl (.string x.fIcon) (g1_w1.out.cell 4) _ Try.underlying9 rfl ?_)
                        | ((with_reducible refine at_dst (N := 24) rfl ?_); refine ev_ld rfl 9 _ rfl ⟨g1, 5, none⟩ rfl (.string x.fAPIVersion) (g1_w1.out.cell 5) _ Try.underlying9 rfl ?_)
                        | ((with_reducible refine at_dst (N := 28) rfl ?_); refine ev_ld rfl 9 _ rfl ⟨g1, 6, none⟩ rfl (.string x.fCondition) (g1_w1.out.cell 6) _ Try.underlying9 rfl ?_)
                        | ((with_reducible refine at_dst (N := 32) rfl ?_); refine ev_ld rfl 9 _ rfl ⟨g1, 7, none⟩ rfl (.string x.fTags) (g1_w1.out.cell 7) _ Try.underlying9 rfl ?_)
                        | ((with_reducible refine at_dst (N := 36) rfl ?_); refine ev_ld rfl 9 _ rfl ⟨g1, 8, none⟩ rfl (.string x.fAppVersion) (g1_w1.out.cell 8) _ Try.underlying9 rfl ?_)
                        | ((with_reducible refine at_dst (N := 40) rfl ?_); refine ev_ld rfl 9 _ rfl ⟨g1, 9, none⟩ rfl (.string x.fKubeVersion) (g1_w1.out.cell 9) _ Try.underlying9 rfl ?_))
                      go_ret
                      exact HQ.out _ _ ⟨ret_bool (by simp only [fits37, P0.out, P1.out, P2.out, P3.out, P4.out, P5.out, P6.out, P7.out, P8.out, P9.out, Bool.and_self, Bool.and_false, Bool.false_and]), B_w1.out⟩
                    · have P9 : Hid (decide (x.fKubeVersion.size ≤ 2147483647) = true) := by show _ = _; simp; omega
                      by_cases hc11 : (2147483647 : Int) < ↑x.fType.size
                      · have P10 : Hid (decide (x.fType.size ≤ 2147483647) = false) := by show _ = _; simp; omega
                        go_wp2_with (first
                          | ((with_reducible refine at_dst (N := 1) rfl ?_); refine ev_box rfl 26 _ rfl _ rfl ?_; intro g1 w1 hg hB hb
                             have low_g1 := Nat.le_trans (Nat.le_refl _) hg
                             have B_w1 := Lib.hid (below_trans (Below.refl _ _) hb)
                             have g1_w1 : Hid (Blk w1 g1 26 #[.string x.fName, .string x.fHome, .string x.fVersion, .string x.fDescription, .string x.fIcon, .string x.fAPIVersion, .string x.fCondition, .string x.fTags, .string x.fAppVersion, .string x.fKubeVersion, .string x.fType, .slice x.fSources_a x.fSources.length x.fSources_c, .slice x.fKeywords_a x.fKeywords.length x.fKeywords_c, .slice x.fMaintainers_a x.fMaintainers.length x.fMaintainers_c, .slice x.fDependencies_a x.fDependencies.length x.fDependencies_c]) := hB
                             clear hB hb)
                          | ((with_reducible refine at_dst (N := 4) rfl ?_); refine ev_ld rfl 9 _ rfl ⟨g1, 0, none⟩ rfl (.string x.fName) (g1_w1.out.cell 0) _ Try.underlying9 rfl ?_)
                          | ((with_reducible refine at_dst (N := 8) rfl ?_); refine ev_ld rfl 9 _ rfl ⟨g1, 1, none⟩ rfl (.string x.fHome) (g1_w1.out.cell 1) _ Try.underlying9 rfl ?_)
                          | ((with_reducible refine at_dst (N := 12) rfl ?_); refine ev_ld rfl 9 _ rfl ⟨g1, 2, none⟩ rfl (.string x.fVersion) (g1_w1.out.cell 2) _ Try.underlying9 rfl ?_)
                          | ((with_reducible refine at_dst (N := 16) rfl ?_); refine ev_ld rfl 9 _ rfl ⟨g1, 3, none⟩ rfl (.string x.fDescription) (g1_w1.out.cell 3) _ Try.underlying9 rfl ?_)
                          | ((with_reducible refine at_dst (N := 20) rfl ?_); refine ev_ld rfl 9 _ rfl ⟨g1, 4, none⟩ rfl (.string x.fIcon) (g1_w1.out.cell 4) _ Try.underlying9 rfl ?_)
                          | ((with_reducible refine at_dst (N := 24) rfl ?_); refine ev_ld rfl 9 _ rfl ⟨g1, 5, none⟩ rfl (.string x.fAPIVersion) (g1_w1.out.cell 5) _ Try.underlying9 rfl ?_)
                          | ((with_reducible refine at_dst (N := 28) rfl ?_); refine ev_ld rfl 9 _ rfl ⟨g1, 6, none⟩ rfl (.string x.fCondition) (g1_w1.out.cell 6) _ Try.underlying9 rfl ?_)
                          | ((with_reducible refine at_dst (N := 32) rfl ?_); refine ev_ld rfl 9 _ rfl ⟨g1, 7, none⟩ rfl (.string x.fTags) (g1_w1.out.cell 7) _ Try.underlying9 rfl ?_)
                          | ((with_reducible refine at_dst (N := 36) rfl ?_); refine ev_ld rfl 9 _ rfl ⟨g1, 8, none⟩ rfl (.string x.fAppVersion) (g1_w1.out.cell 8) _ Try.underlying9 rfl ?_)
                          | ((with_reducible refine at_dst (N := 40) rfl ?_); refine ev_ld rfl 9 _ rfl ⟨g1, 9, none⟩ rfl (.string x.fKubeVersion) (g1_w1.out.cell 9) _ Try.underlying9 rfl ?_)
                          | ((with_reducible refine at_dst (N := 44) rfl ?_); refine ev_ld rfl 9 _ rfl ⟨g1, 10, none⟩ rfl (.string x.fType) (g1_w1.out.cell 10) _ Try.underlying9 rfl ?_))
                        go_ret
                        exact HQ.out _ _ ⟨ret_bool (by simp only [fits37, P0.out, P1.out, P2.out, P3.out, P4.out, P5.out, P6.out, P7.out, P8.out, P9.out, P10.out, Bool.and_self, Bool.and_false, Bool.false_and]), B_w1.out⟩
                      · have P10 : Hid (decide (x.fType.size ≤ 2147483647) = true) := by show _ = _; simp; omega
                        cases hc12 : (fits3 x.fSources)
                        · have P11 := Lib.hid hc12
                          go_wp2_with (first
                            | ((with_reducible refine at_dst (N := 1) rfl ?_); refine ev_box rfl 26 _ rfl _ rfl ?_; intro g1 w1 hg hB hb
                               have low_g1 := Nat.le_trans (Nat.le_refl _) hg
                               have B_w1 := Lib.hid (below_trans (Below.refl _ _) hb)
                               have g1_w1 : Hid (Blk w1 g1 26 #[.string x.fName, .string x.fHome, .string x.fVersion, .string x.fDescription, .string x.fIcon, .string x.fAPIVersion, .string x.fCondition, .string x.fTags, .string x.fAppVersion, .string x.fKubeVersion, .string x.fType, .slice x.fSources_a x.fSources.length x.fSources_c, .slice x.fKeywords_a x.fKeywords.length x.fKeywords_c, .slice x.fMaintainers_a x.fMaintainers.length x.fMaintainers_c, .slice x.fDependencies_a x.fDependencies.length x.fDependencies_c]) := hB
                               clear hB hb)
                            | ((with_reducible refine at_dst (N := 4) rfl ?_); refine ev_ld rfl 9 _ rfl ⟨g1, 0, none⟩ rfl (.string x.fName) (g1_w1.out.cell 0) _ Try.underlying9 rfl ?_)
                            | ((with_reducible refine at_dst (N := 8) rfl ?_); refine ev_ld rfl 9 _ rfl ⟨g1, 1, none⟩ rfl (.string x.fHome) (g1_w1.out.cell 1) _ Try.underlying9 rfl ?_)
                            | ((with_reducible refine at_dst (N := 12) rfl ?_); refine ev_ld rfl 9 _ rfl ⟨g1, 2, none⟩ rfl (.string x.fVersion) (g1_w1.out.cell 2) _ Try.underlying9 rfl ?_)
                            | ((with_reducible refine at_dst (N := 16) rfl ?_); refine ev_ld rfl 9 _ rfl ⟨g1, 3, none⟩ rfl (.string x.fDescription) (g1_w1.out.cell 3) _ Try.underlying9 rfl ?_)
                            | ((with_reducible refine at_dst (N := 20) rfl ?_); refine ev_ld rfl 9 _ rfl ⟨g1, 4, none⟩ rfl (.string x.fIcon) (g1_w1.out.cell 4) _ Try.underlying9 rfl ?_)
                            | ((with_reducible refine at_dst (N := 24) rfl ?_); refine ev_ld rfl 9 _ rfl ⟨g1, 5, none⟩ rfl (.string x.fAPIVersion) (g1_w1.out.cell 5) _ Try.underlying9 rfl ?_)
                            | ((with_reducible refine at_dst (N := 28) rfl ?_); refine ev_ld rfl 9 _ rfl ⟨g1, 6, none⟩ rfl (.string x.fCondition) (g1_w1.out.cell 6) _ Try.underlying9 rfl ?_)
                            | ((with_reducible refine at_dst (N := 32) rfl ?_); refine ev_ld rfl 9 _ rfl ⟨g1, 7, none⟩ rfl (.string x.fTags) (g1_w1.out.cell 7) _ Try.underlying9 rfl ?_)
                            | ((with_reducible refine at_dst (N := 36) rfl ?_); refine ev_ld rfl 9 _ rfl ⟨g1, 8, none⟩ rfl (.string x.fAppVersion) (g1_w1.out.cell 8) _ Try.underlying9 rfl ?_)
                            | ((with_reducible refine at_dst (N := 40) rfl ?_); refine ev_ld rfl 9 _ rfl ⟨g1, 9, none⟩ rfl (.string x.fKubeVersion) (g1_w1.out.cell 9) _ Try.underlying9 rfl ?_)
                            | ((with_reducible refine at_dst (N := 44) rfl ?_); refine ev_ld rfl 9 _ rfl ⟨g1, 10, none⟩ rfl (.string x.fType) (g1_w1.out.cell 10) _ Try.underlying9 rfl ?_)
                            | ((with_reducible refine at_dst (N := 48) rfl ?_); refine ev_ld rfl 22 _ rfl ⟨g1, 11, none⟩ rfl (.slice x.fSources_a x.fSources.length x.fSources_c) (g1_w1.out.cell 11) _ Try.underlying22 rfl ?_)
                            | (go_at_call 27; (with_reducible refine (zzFits3_any x.fSources_a x.fSources_c x.fSources _ (H0_Sources.out.below B_w1.out)).mono ?_); rintro e wq ⟨rfl, rfl⟩; rw [hc12]))
                          go_ret
                          exact HQ.out _ _ ⟨ret_bool (by simp only [fits37, P0.out, P1.out, P2.out, P3.out, P4.out, P5.out, P6.out, P7.out, P8.out, P9.out, P10.out, P11.out, Bool.and_self, Bool.and_false, Bool.false_and]), B_w1.out⟩
                        · have P11 := Lib.hid hc12
                          cases hc13 : (fits3 x.fKeywords)
                          · have P12 := Lib.hid hc13
                            go_wp2_with (first
                              | ((with_reducible refine at_dst (N := 1) rfl ?_); refine ev_box rfl 26 _ rfl _ rfl ?_; intro g1 w1 hg hB hb
                                 have low_g1 := Nat.le_trans (Nat.le_refl _) hg
                                 have B_w1 := Lib.hid (below_trans (Below.refl _ _) hb)
                                 have g1_w1 : Hid (Blk w1 g1 26 #[.string x.fName, .string x.fHome, .string x.fVersion, .string x.fDescription, .string x.fIcon, .string x.fAPIVersion, .string x.fCondition, .string x.fTags, .string x.fAppVersion, .string x.fKubeVersion, .string x.fType, .slice x.fSources_a x.fSources.length x.fSources_c, .slice x.fKeywords_a x.fKeywords.length x.fKeywords_c, .slice x.fMaintainers_a x.fMaintainers.length x.fMaintainers_c, .slice x.fDependencies_a x.fDependencies.length x.fDependencies_c]) := hB
                                 clear hB hb)
                              | ((with_reducible refine at_dst (N := 4) rfl ?_); refine ev_ld rfl 9 _ rfl ⟨g1, 0, none⟩ rfl (.string x.fName) (g1_w1.out.cell 0) _ Try.underlying9 rfl ?_)
                              | ((with_reducible refine at_dst (N := 8) rfl ?_); refine ev_ld rfl 9 _ rfl ⟨g1, 1, none⟩ rfl (.string x.fHome) (g1_w1.out.cell 1) _ Try.underlying9 rfl ?_)
                              | ((with_reducible refine at_dst (N := 12) rfl ?_); refine ev_ld rfl 9 _ rfl ⟨g1, 2, none⟩ rfl (.string x.fVersion) (g1_w1.out.cell 2) _ Try.underlying9 rfl ?_)
                              | ((with_reducible refine at_dst (N := 16) rfl ?_); refine ev_ld rfl 9 _ rfl ⟨g1, 3, none⟩ rfl (.string x.fDescription) (g1_w1.out.cell 3) _ Try.underlying9 rfl ?_)
                              | ((with_reducible refine at_dst (N := 20) rfl ?_); refine ev_ld rfl 9 _ rfl ⟨g1, 4, none⟩ rfl (.string x.fIcon) (g1_w1.out.cell 4) _ Try.underlying9 rfl ?_)
                              | ((with_reducible refine at_dst (N := 24) rfl ?_); refine ev_ld rfl 9 _ rfl ⟨g1, 5, none⟩ rfl (.string x.fAPIVersion) (g1_w1.out.cell 5) _ Try.underlying9 rfl ?_)
                              | ((with_reducible refine at_dst (N := 28) rfl ?_); refine ev_ld rfl 9 _ rfl ⟨g1, 6, none⟩ rfl (.string x.fCondition) (g1_w1.out.cell 6) _ Try.underlying9 rfl ?_)
                              | ((with_reducible refine at_dst (N := 32) rfl ?_); refine ev_ld rfl 9 _ rfl ⟨g1, 7, none⟩ rfl (.string x.fTags) (g1_w1.out.cell 7) _ Try.underlying9 rfl ?_)
                              | ((with_reducible refine at_dst (N := 36) rfl ?_); refine ev_ld rfl 9 _ rfl ⟨g1, 8, none⟩ rfl (.string x.fAppVersion) (g1_w1.out.cell 8) _ Try.underlying9 rfl ?_)
                              | ((with_reducible refine at_dst (N := 40) rfl ?_); refine ev_ld rfl 9 _ rfl ⟨g1, 9, none⟩ rfl (.string x.fKubeVersion) (g1_w1.out.cell 9) _ Try.underlying9 rfl ?_)
                              | ((with_reducible refine at_dst (N := 44) rfl ?_); refine ev_ld rfl 9 _ rfl ⟨g1, 10, none⟩ rfl (.string x.fType) (g1_w1.out.cell 10) _ Try.underlying9 rfl ?_)
                              | ((with_reducible refine at_dst (N := 48) rfl ?_); refine ev_ld rfl 22 _ rfl ⟨g1, 11, none⟩ rfl (.slice x.fSources_a x.fSources.length x.fSources_c) (g1_w1.out.cell 11) _ Try.underlying22 rfl ?_)
                              | (go_at_call 27; (with_reducible refine (zzFits3_any x.fSources_a x.fSources_c x.fSources _ (H0_Sources.out.below B_w1.out)).mono ?_); rintro e wq ⟨rfl, rfl⟩; rw [hc12])
                              | ((with_reducible refine at_dst (N := 52) rfl ?_); refine ev_ld rfl 22 _ rfl ⟨g1, 12, none⟩ rfl (.slice x.fKeywords_a x.fKeywords.length x.fKeywords_c) (g1_w1.out.cell 12) _ Try.underlying22 rfl ?_)
                              | (go_at_call 27; (with_reducible refine (zzFits3_any x.fKeywords_a x.fKeywords_c x.fKeywords _ (H0_Keywords.out.below B_w1.out)).mono ?_); rintro e wq ⟨rfl, rfl⟩; rw [hc13]))
                            go_ret
                            exact HQ.out _ _ ⟨ret_bool (by simp only [fits37, P0.out, P1.out, P2.out, P3.out, P4.out, P5.out, P6.out, P7.out, P8.out, P9.out, P10.out, P11.out, P12.out, Bool.and_self, Bool.and_false, Bool.false_and]), B_w1.out⟩
                          · have P12 := Lib.hid hc13
                            cases hc14 : (fits89 x.fMaintainers)
                            · have P13 := Lib.hid hc14
                              go_wp2_with (first
                                | ((with_reducible refine at_dst (N := 1) rfl ?_); refine ev_box rfl 26 _ rfl _ rfl ?_; intro g1 w1 hg hB hb
                                   have low_g1 := Nat.le_trans (Nat.le_refl _) hg
                                   have B_w1 := Lib.hid (below_trans (Below.refl _ _) hb)
                                   have g1_w1 : Hid (Blk w1 g1 26 #[.string x.fName, .string x.fHome, .string x.fVersion, .string x.fDescription, .string x.fIcon, .string x.fAPIVersion, .string x.fCondition, .string x.fTags, .string x.fAppVersion, .string x.fKubeVersion, .string x.fType, .slice x.fSources_a x.fSources.length x.fSources_c, .slice x.fKeywords_a x.fKeywords.length x.fKeywords_c, .slice x.fMaintainers_a x.fMaintainers.length x.fMaintainers_c, .slice x.fDependencies_a x.fDependencies.length x.fDependencies_c]) := hB
                                   clear hB hb)
                                | ((with_reducible refine at_dst (N := 4) rfl ?_); refine ev_ld rfl 9 _ rfl ⟨g1, 0, none⟩ rfl (.string x.fName) (g1_w1.out.cell 0) _ Try.underlying9 rfl ?_)
                                | ((with_reducible refine at_dst (N := 8) rfl ?_); refine ev_ld rfl 9 _ rfl ⟨g1, 1, none⟩ rfl (.string x.fHome) (g1_w1.out.cell 1) _ Try.underlying9 rfl ?_)
                                | ((with_reducible refine at_dst (N := 12) rfl ?_); refine ev_ld rfl 9 _ rfl ⟨g1, 2, none⟩ rfl (.string x.fVersion) (g1_w1.out.cell 2) _ Try.underlying9 rfl ?_)
                                | ((with_reducible refine at_dst (N := 16) rfl ?_); refine ev_ld rfl 9 _ rfl ⟨g1, 3, none⟩ rfl (.string x.fDescription) (g1_w1.out.cell 3) _ Try.underlying9 rfl ?_)
                                | ((with_reducible refine at_dst (N := 20) rfl ?_); refine ev_ld rfl 9 _ rfl ⟨g1, 4, none⟩ rfl (.string x.fIcon) (g1_w1.out.cell 4) _ Try.underlying9 rfl ?_)
                                | ((with_reducible refine at_dst (N := 24) rfl ?_); refine ev_ld rfl 9 _ rfl ⟨g1, 5, none⟩ rfl (.string x.fAPIVersion) (g1_w1.out.cell 5) _ Try.underlying9 rfl ?_)
                                | ((with_reducible refine at_dst (N := 28) rfl ?_); refine ev_ld rfl 9 _ rfl ⟨g1, 6, none⟩ rfl (.string x.fCondition) (g1_w1.out.cell 6) _ Try.underlying9 rfl ?_)
                                | ((with_reducible refine at_dst (N := 32) rfl ?_); refine ev_ld rfl 9 _ rfl ⟨g1, 7, none⟩ rfl (.string x.fTags) (g1_w1.out.cell 7) _ Try.underlying9 rfl ?_)
                                | ((with_reducible refine at_dst (N := 36) rfl ?_); refine ev_ld rfl 9 _ rfl ⟨g1, 8, none⟩ rfl (.string x.fAppVersion) (g1_w1.out.cell 8) _ Try.underlying9 rfl ?_)
                                | ((with_reducible refine at_dst (N := 40) rfl ?_); refine ev_ld rfl 9 _ rfl ⟨g1, 9, none⟩ rfl (.string x.fKubeVersion) (g1_w1.out.cell 9) _ Try.underlying9 rfl ?_)
                                | ((with_reducible refine at_dst (N := 44) rfl ?_); refine ev_ld rfl 9 _ rfl ⟨g1, 10, none⟩ rfl (.string x.fType) (g1_w1.out.cell 10) _ Try.underlying9 rfl ?_)
                                | ((with_reducible refine at_dst (N := 48) rfl ?_); refine ev_ld rfl 22 _ rfl ⟨g1, 11, none⟩ rfl (.slice x.fSources_a x.fSources.length x.fSources_c) (g1_w1.out.cell 11) _ Try.underlying22 rfl ?_)
                                | (go_at_call 27; (with_reducible refine (zzFits3_any x.fSources_a x.fSources_c x.fSources _ (H0_Sources.out.below B_w1.out)).mono ?_); rintro e wq ⟨rfl, rfl⟩; rw [hc12])
                                | ((with_reducible refine at_dst (N := 52) rfl ?_); refine ev_ld rfl 22 _ rfl ⟨g1, 12, none⟩ rfl (.slice x.fKeywords_a x.fKeywords.length x.fKeywords_c) (g1_w1.out.cell 12) _ Try.underlying22 rfl ?_)
                                | (go_at_call 27; (with_reducible refine (zzFits3_any x.fKeywords_a x.fKeywords_c x.fKeywords _ (H0_Keywords.out.below B_w1.out)).mono ?_); rintro e wq ⟨rfl, rfl⟩; rw [hc13])
                                | ((with_reducible refine at_dst (N := 56) rfl ?_); refine ev_ld rfl 23 _ rfl ⟨g1, 13, none⟩ rfl (.slice x.fMaintainers_a x.fMaintainers.length x.fMaintainers_c) (g1_w1.out.cell 13) _ Try.underlying23 rfl ?_)
                                | (go_at_call 89; (with_reducible refine (fits89_any x.fMaintainers_a x.fMaintainers_c x.fMaintainers _ (H0_Maintainers.out.below B_w1.out) (Ty78.oks.below H0_Maintainerso.out B_w1.out)).mono ?_); rintro e w2 ⟨rfl, hb⟩; rw [hc14]
                                   have g1_w2 := Lib.hid (g1_w1.out.below hb)
                                   have B_w2 := Lib.hid (below_trans B_w1.out hb)
                                   clear hb))
                              go_ret
                              exact HQ.out _ _ ⟨ret_bool (by simp only [fits37, P0.out, P1.out, P2.out, P3.out, P4.out, P5.out, P6.out, P7.out, P8.out, P9.out, P10.out, P11.out, P12.out, P13.out, Bool.and_self, Bool.and_false, Bool.false_and]), B_w2.out⟩
                            · have P13 := Lib.hid hc14
                              cases hc15 : (fits90 x.fDependencies)
                              · have P14 := Lib.hid hc15
                                go_wp2_with (first
                                  | ((with_reducible refine at_dst (N := 1) rfl ?_); refine ev_box rfl 26 _ rfl _ rfl ?_; intro g1 w1 hg hB hb
                                     have low_g1 := Nat.le_trans (Nat.le_refl _) hg
                                     have B_w1 := Lib.hid (below_trans (Below.refl _ _) hb)
                                     have g1_w1 : Hid (Blk w1 g1 26 #[.string x.fName, .string x.fHome, .string x.fVersion, .string x.fDescription, .string x.fIcon, .string x.fAPIVersion, .string x.fCondition, .string x.fTags, .string x.fAppVersion, .string x.fKubeVersion, .string x.fType, .slice x.fSources_a x.fSources.length x.fSources_c, .slice x.fKeywords_a x.fKeywords.length x.fKeywords_c, .slice x.fMaintainers_a x.fMaintainers.length x.fMaintainers_c, .slice x.fDependencies_a x.fDependencies.length x.fDependencies_c]) := hB
                                     clear hB hb)
                                  | ((with_reducible refine at_dst (N := 4) rfl ?_); refine ev_ld rfl 9 _ rfl ⟨g1, 0, none⟩ rfl (.string x.fName) (g1_w1.out.cell 0) _ Try.underlying9 rfl ?_)
                                  | ((with_reducible refine at_dst (N := 8) rfl ?_); refine ev_ld rfl 9 _ rfl ⟨g1, 1, none⟩ rfl (.string x.fHome) (g1_w1.out.cell 1) _ Try.underlying9 rfl ?_)
                                  | ((with_reducible refine at_dst (N := 12) rfl ?_); refine ev_ld rfl 9 _ rfl ⟨g1, 2, none⟩ rfl (.string x.fVersion) (g1_w1.out.cell 2) _ Try.underlying9 rfl ?_)
                                  | ((with_reducible refine at_dst (N := 16) rfl ?_); refine ev_ld rfl 9 _ rfl ⟨g1, 3, none⟩ rfl (.string x.fDescription) (g1_w1.out.cell 3) _ Try.underlying9 rfl ?_)
                                  | ((with_reducible refine at_dst (N := 20) rfl ?_); refine ev_ld rfl 9 _ rfl ⟨g1, 4, none⟩ rfl (.string x.fIcon) (g1_w1.out.cell 4) _ Try.underlying9 rfl ?_)
                                  | ((with_reducible refine at_dst (N := 24) rfl ?_); refine ev_ld rfl 9 _ rfl ⟨g1, 5, none⟩ rfl (.string x.fAPIVersion) (g1_w1.out.cell 5) _ Try.underlying9 rfl ?_)
                                  | ((with_reducible refine at_dst (N := 28) rfl ?_); refine ev_ld rfl 9 _ rfl ⟨g1, 6, none⟩ rfl (.string x.fCondition) (g1_w1.out.cell 6) _ Try.underlying9 rfl ?_)
                                  | ((with_reducible refine at_dst (N := 32) rfl ?_); refine ev_ld rfl 9 _ rfl ⟨g1, 7, none⟩ rfl (.string x.fTags) (g1_w1.out.cell 7) _ Try.underlying9 rfl ?_)
                                  | ((with_reducible refine at_dst (N := 36) rfl ?_); refine ev_ld rfl 9 _ rfl ⟨g1, 8, none⟩ rfl (.string x.fAppVersion) (g1_w1.out.cell 8) _ Try.underlying9 rfl ?_)
                                  | ((with_reducible refine at_dst (N := 40) rfl ?_); refine ev_ld rfl 9 _ rfl ⟨g1, 9, none⟩ rfl (.string x.fKubeVersion) (g1_w1.out.cell 9) _ Try.underlying9 rfl ?_)
                                  | ((with_reducible refine at_dst (N := 44) rfl ?_); refine ev_ld rfl 9 _ rfl ⟨g1, 10, none⟩ rfl (.string x.fType) (g1_w1.out.cell 10) _ Try.underlying9 rfl ?_)
                                  | ((with_reducible refine at_dst (N := 48) rfl ?_); refine ev_ld rfl 22 _ rfl ⟨g1, 11, none⟩ rfl (.slice x.fSources_a x.fSources.length x.fSources_c) (g1_w1.out.cell 11) _ Try.underlying22 rfl ?_)
                                  | (go_at_call 27; (with_reducible refine (zzFits3_any x.fSources_a x.fSources_c x.fSources _ (H0_Sources.out.below B_w1.out)).mono ?_); rintro e wq ⟨rfl, rfl⟩; rw [hc12])
                                  | ((with_reducible refine at_dst (N := 52) rfl ?_); refine ev_ld rfl 22 _ rfl ⟨g1, 12, none⟩ rfl (.slice x.fKeywords_a x.fKeywords.length x.fKeywords_c) (g1_w1.out.cell 12) _ Try.underlying22 rfl ?_)
                                  | (go_at_call 27; (with_reducible refine (zzFits3_any x.fKeywords_a x.fKeywords_c x.fKeywords _ (H0_Keywords.out.below B_w1.out)).mono ?_); rintro e wq ⟨rfl, rfl⟩; rw [hc13])
                                  | ((with_reducible refine at_dst (N := 56) rfl ?_); refine ev_ld rfl 23 _ rfl ⟨g1, 13, none⟩ rfl (.slice x.fMaintainers_a x.fMaintainers.length x.fMaintainers_c) (g1_w1.out.cell 13) _ Try.underlying23 rfl ?_)
                                  | (go_at_call 89; (with_reducible refine (fits89_any x.fMaintainers_a x.fMaintainers_c x.fMaintainers _ (H0_Maintainers.out.below B_w1.out) (Ty78.oks.below H0_Maintainerso.out B_w1.out)).mono ?_); rintro e w2 ⟨rfl, hb⟩; rw [hc14]
                                     have g1_w2 := Lib.hid (g1_w1.out.below hb)
                                     have B_w2 := Lib.hid (below_trans B_w1.out hb)
                                     clear hb)
                                  | ((with_reducible refine at_dst (N := 60) rfl ?_); refine ev_ld rfl 24 _ rfl ⟨g1, 14, none⟩ rfl (.slice x.fDependencies_a x.fDependencies.length x.fDependencies_c) (g1_w2.out.cell 14) _ Try.underlying24 rfl ?_)
                                  | (go_at_call 90; (with_reducible refine (fits90_any x.fDependencies_a x.fDependencies_c x.fDependencies _ (H0_Dependencies.out.below B_w2.out) (Ty80.oks.below H0_Dependencieso.out B_w2.out)).mono ?_); rintro e w3 ⟨rfl, hb⟩; rw [hc15]
                                     have g1_w3 := Lib.hid (g1_w2.out.below hb)
                                     have B_w3 := Lib.hid (below_trans B_w2.out hb)
                                     clear hb))
                                go_ret
                                exact HQ.out _ _ ⟨ret_bool (by simp only [fits37, P0.out, P1.out, P2.out, P3.out, P4.out, P5.out, P6.out, P7.out, P8.out, P9.out, P10.out, P11.out, P12.out, P13.out, P14.out, Bool.and_self, Bool.and_false, Bool.false_and]), B_w3.out⟩
                              · have P14 := Lib.hid hc15
                                go_wp2_with (first
                                  | ((with_reducible refine at_dst (N := 1) rfl ?_); refine ev_box rfl 26 _ rfl _ rfl ?_; intro g1 w1 hg hB hb
                                     have low_g1 := Nat.le_trans (Nat.le_refl _) hg
                                     have B_w1 := Lib.hid (below_trans (Below.refl _ _) hb)
                                     have g1_w1 : Hid (Blk w1 g1 26 #[.string x.fName, .string x.fHome, .string x.fVersion, .string x.fDescription, .string x.fIcon, .string x.fAPIVersion, .string x.fCondition, .string x.fTags, .string x.fAppVersion, .string x.fKubeVersion, .string x.fType, .slice x.fSources_a x.fSources.length x.fSources_c, .slice x.fKeywords_a x.fKeywords.length x.fKeywords_c, .slice x.fMaintainers_a x.fMaintainers.length x.fMaintainers_c, .slice x.fDependencies_a x.fDependencies.length x.fDependencies_c]) := hB
                                     clear hB hb)
                                  | ((with_reducible refine at_dst (N := 4) rfl ?_); refine ev_ld rfl 9 _ rfl ⟨g1, 0, none⟩ rfl (.string x.fName) (g1_w1.out.cell 0) _ Try.underlying9 rfl ?_)
                                  | ((with_reducible refine at_dst (N := 8) rfl ?_); refine ev_ld rfl 9 _ rfl ⟨g1, 1, none⟩ rfl (.string x.fHome) (g1_w1.out.cell 1) _ Try.underlying9 rfl ?_)
                                  | ((with_reducible refine at_dst (N := 12) rfl ?_); refine ev_ld rfl 9 _ rfl ⟨g1, 2, none⟩ rfl (.string x.fVersion) (g1_w1.out.cell 2) _ Try.underlying9 rfl ?_)
                                  | ((with_reducible refine at_dst (N := 16) rfl ?_); refine ev_ld rfl 9 _ rfl ⟨g1, 3, none⟩ rfl (.string x.fDescription) (g1_w1.out.cell 3) _ Try.underlying9 rfl ?_)
                                  | ((with_reducible refine at_dst (N := 20) rfl ?_); refine ev_ld rfl 9 _ rfl ⟨g1, 4, none⟩ rfl (.string x.fIcon) (g1_w1.out.cell 4) _ Try.underlying9 rfl ?_)
                                  | ((with_reducible refine at_dst (N := 24) rfl ?_); refine ev_ld rfl 9 _ rfl ⟨g1, 5, none⟩ rfl (.string x.fAPIVersion) (g1_w1.out.cell 5) _ Try.underlying9 rfl ?_)
                                  | ((with_reducible refine at_dst (N := 28) rfl ?_); refine ev_ld rfl 9 _ rfl ⟨g1, 6, none⟩ rfl (.string x.fCondition) (g1_w1.out.cell 6) _ Try.underlying9 rfl ?_)
                                  | ((with_reducible refine at_dst (N := 32) rfl ?_); refine ev_ld rfl 9 _ rfl ⟨g1, 7, none⟩ rfl (.string x.fTags) (g1_w1.out.cell 7) _ Try.underlying9 rfl ?_)
                                  | ((with_reducible refine at_dst (N := 36) rfl ?_); refine ev_ld rfl 9 _ rfl ⟨g1, 8, none⟩ rfl (.string x.fAppVersion) (g1_w1.out.cell 8) _ Try.underlying9 rfl ?_)
                                  | ((with_reducible refine at_dst (N := 40) rfl ?_); refine ev_ld rfl 9 _ rfl ⟨g1, 9, none⟩ rfl (.string x.fKubeVersion) (g1_w1.out.cell 9) _ Try.underlying9 rfl ?_)
                                  | ((with_reducible refine at_dst (N := 44) rfl ?_); refine ev_ld rfl 9 _ rfl ⟨g1, 10, none⟩ rfl (.string x.fType) (g1_w1.out.cell 10) _ Try.underlying9 rfl ?_)
                                  | ((with_reducible refine at_dst (N := 48) rfl ?_); refine ev_ld rfl 22 _ rfl ⟨g1, 11, none⟩ rfl (.slice x.fSources_a x.fSources.length x.fSources_c) (g1_w1.out.cell 11) _ Try.underlying22 rfl ?_)
                                  | (go_at_call 27; (with_reducible refine (zzFits3_any x.fSources_a x.fSources_c x.fSources _ (H0_Sources.out.below B_w1.out)).mono ?_); rintro e wq ⟨rfl, rfl⟩; rw [hc12])
                                  | ((with_reducible refine at_dst (N := 52) rfl ?_); refine ev_ld rfl 22 _ rfl ⟨g1, 12, none⟩ rfl (.slice x.fKeywords_a x.fKeywords.length x.fKeywords_c) (g1_w1.out.cell 12) _ Try.underlying22 rfl ?_)
                                  | (go_at_call 27; (with_reducible refine (zzFits3_any x.fKeywords_a x.fKeywords_c x.fKeywords _ (H0_Keywords.out.below B_w1.out)).mono ?_); rintro e wq ⟨rfl, rfl⟩; rw [hc13])
                                  | ((with_reducible refine at_dst (N := 56) rfl ?_); refine ev_ld rfl 23 _ rfl ⟨g1, 13, none⟩ rfl (.slice x.fMaintainers_a x.fMaintainers.length x.fMaintainers_c) (g1_w1.out.cell 13) _ Try.underlying23 rfl ?_)
                                  | (go_at_call 89; (with_reducible refine (fits89_any x.fMaintainers_a x.fMaintainers_c x.fMaintainers _ (H0_Maintainers.out.below B_w1.out) (Ty78.oks.below H0_Maintainerso.out B_w1.out)).mono ?_); rintro e w2 ⟨rfl, hb⟩; rw [hc14]
                                     have g1_w2 := Lib.hid (g1_w1.out.below hb)
                                     have B_w2 := Lib.hid (below_trans B_w1.out hb)
                                     clear hb)
                                  | ((with_reducible refine at_dst (N := 60) rfl ?_); refine ev_ld rfl 24 _ rfl ⟨g1, 14, none⟩ rfl (.slice x.fDependencies_a x.fDependencies.length x.fDependencies_c) (g1_w2.out.cell 14) _ Try.underlying24 rfl ?_)
                                  | (go_at_call 90; (with_reducible refine (fits90_any x.fDependencies_a x.fDependencies_c x.fDependencies _ (H0_Dependencies.out.below B_w2.out) (Ty80.oks.below H0_Dependencieso.out B_w2.out)).mono ?_); rintro e w3 ⟨rfl, hb⟩; rw [hc15]
                                     have g1_w3 := Lib.hid (g1_w2.out.below hb)
                                     have B_w3 := Lib.hid (below_trans B_w2.out hb)
                                     clear hb))
                                go_ret
                                exact HQ.out _ _ ⟨ret_bool (by simp only [fits37, P0.out, P1.out, P2.out, P3.out, P4.out, P5.out, P6.out, P7.out, P8.out, P9.out, P10.out, P11.out, P12.out, P13.out, P14.out, Bool.and_self, Bool.and_false, Bool.false_and]), B_w3.out⟩
def fits81 (x : Ty69) : Bool := (fits37 x.fMeta) && (fits3 x.fURLs) && decide (x.fDigest.size ≤ 2147483647)
def fits31 (xs : List Ty69) : Bool := decide (xs.length ≤ 2147483647) && xs.all fits81
def fits102 (x : Ty103) : Bool := decide (x.fName.size ≤ 2147483647) && (fits31 x.fVersions)
def fits48 (xs : List Ty103) : Bool := decide (xs.length ≤ 2147483647) && xs.all fits102
def fits108 (x : Ty110) : Bool := decide (x.fOS.size ≤ 2147483647) && decide (x.fArch.size ≤ 2147483647) && decide (x.fCommand.size ≤ 2147483647) && (fits3 x.fArgs)
def fits54 (xs : List Ty110) : Bool := decide (xs.length ≤ 2147483647) && xs.all fits108
end Go.Proofs.Ytkjcedlgljeoiaa

/- Contracts: plain.Join, plain.Split, plain.ReplaceAll, Transform. -/
namespace Go.Proofs.Ytkjcedlgljeoiaa
open Go.RowKit Go.Lib

def joinF (sep : ByteArray) : List ByteArray → ByteArray
  | [] => ByteArray.empty
  | [x] => x
  | x :: y :: r => x ++ (sep ++ joinF sep (y :: r))
def szSum (xs : List ByteArray) : Nat := (xs.map ByteArray.size).sum
theorem info9 : (Try.prog.info? 9).map (fun i => (i.zero, i.size, i.bytes)) = some (some (.string ByteArray.empty), 1, 16) := by kernel_rfl


end Go.Proofs.Ytkjcedlgljeoiaa

/- Contracts: plain.Split, plain.ReplaceAll, Transform. -/
namespace Go.Proofs.Ytkjcedlgljeoiaa
open Go.RowKit Go.Lib

def splitF (sep : ByteArray) : Nat → ByteArray → List ByteArray
  | 0, s => [s]
  | k + 1, s => match idxO s sep with
    | some i => s.extract 0 i :: splitF sep k (s.extract (i + sep.size) s.size)
    | none => [s]
theorem idxO_lt {s sub : ByteArray} {i : Nat} (h : idxO s sub = some i) : i + sub.size ≤ s.size := by
  unfold idxO firstN at h
  rw [List.find?_range_eq_some] at h
  have := List.mem_range.1 h.2.1
  omega
theorem splitF_len (sep : ByteArray) (hm : 1 ≤ sep.size) : ∀ (k : Nat) (s : ByteArray), (splitF sep k s).length ≤ s.size + 1
  | 0, s => by simp [splitF]
  | k + 1, s => by
    unfold splitF
    cases h : idxO s sep with
    | none => simp
    | some i =>
      have h1 := idxO_lt h
      have h2 := splitF_len sep hm k (s.extract (i + sep.size) s.size)
      simp [ByteArray.size_extract] at h2 ⊢
      omega


def replF (s old new : ByteArray) : ByteArray := joinF new (splitF old (s.size + 1) s)
theorem splitF_sum (sep : ByteArray) : ∀ (k : Nat) (s : ByteArray), szSum (splitF sep k s) ≤ s.size
  | 0, s => by simp [splitF, szSum]
  | k + 1, s => by
    unfold splitF
    cases h : idxO s sep with
    | none => simp [szSum]
    | some i =>
      have h1 := idxO_lt h
      have h2 := splitF_sum sep k (s.extract (i + sep.size) s.size)
      simp [szSum, ByteArray.size_extract] at h2 ⊢
      omega
end Go.Proofs.Ytkjcedlgljeoiaa

/- Contracts: transform, ZzTransform, Transform. -/
namespace Go.Proofs.Ytkjcedlgljeoiaa
open Go.RowKit Go.Lib

abbrev markS : ByteArray := ⟨#[60, 67, 72, 65, 82, 84, 78, 65, 77, 69, 62]⟩
end Go.Proofs.Ytkjcedlgljeoiaa

/- FnHlTransform: the plain law and the walk. -/
namespace Go.Proofs.Ytkjcedlgljeoiaa
open Go.RowKit Go.Lib

/-- No byte of s is '<'. -/
def noLt (s : ByteArray) : Prop := ∀ j, ∀ h : j < s.size, s[j].toNat ≠ 60
theorem hereB_eq (s sub : ByteArray) (j : Nat) : hereB s sub j = ((s.data.toList.drop j).take sub.size == sub.data.toList) := by
  unfold hereB
  rw [ByteArray.toList_eq, ByteArray.toList_eq, ByteArray.data_extract, Array.toList_extract, List.extract_eq_take_drop]
  simp
end Go.Proofs.Ytkjcedlgljeoiaa

/- Contracts: hlShort, hlSame, hlPieces, HlLines. -/
namespace Go.Proofs.Ytkjcedlgljeoiaa
open Go.RowKit Go.Lib

def shortS (s : ByteArray) : Bool := decide (s.size ≤ 100) && s.data.toList.all fun c => decide (c.toNat ≤ 127)
def shortB (xs : List ByteArray) : Bool := decide (xs.length ≤ 30) && xs.all shortS
theorem shortS_big {s : ByteArray} (h : 100 < s.size) : shortS s = false := by simp [shortS]; omega
theorem shortS_no {s : ByteArray} {k : Nat} (hk : k < s.size) (h : 127 < s[k].toNat) : shortS s = false := by
  unfold shortS
  rw [Bool.and_eq_false_iff]
  right
  rw [List.all_eq_false]
  exact ⟨s[k], Array.mem_toList_iff.2 (Array.getElem_mem _), by simpa using h⟩
theorem shortS_yes {s : ByteArray} (h : s.size ≤ 100) (hb : ∀ k, ∀ hk : k < s.size, s[k].toNat ≤ 127) : shortS s = true := by
  unfold shortS
  have : (s.data.toList.all fun c => decide (c.toNat ≤ 127)) = true := by
    rw [List.all_eq_true]
    intro c hc
    obtain ⟨k, hk, rfl⟩ := List.mem_iff_getElem.1 hc
    exact decide_eq_true (hb k (by simpa using hk))
  rw [this, Bool.and_true]
  simpa using h
set_option maxRecDepth 100000 in
theorem hlShort_any (A : Option Addr) (c : Nat) (xs : List ByteArray) (w : World) (h : Sl w A (strs xs)) :
    Calls Try.prog 19 #[.slice A xs.length c] w fun e w' => e = .returned (.bool (shortB xs)) ∧ w = w' := by
  have hl : xs.length ≤ 9223372036854775807 := by simpa [strs_len] using h.1
  have H := Lib.hid h
  clear h
  by_cases hbig : 30 < xs.length
  · have HF := Lib.hid (show shortB xs = false by simp [shortB]; omega)
    clear H
    go_enter Try.func19, Try.ntmps19
    go_wp2
    go_ret
    exact ⟨ret_bool HF.out.symm, rfl⟩
  · have hle : xs.length ≤ 30 := by omega
    clear hbig
    go_enter Try.func19, Try.ntmps19
    go_wp2
    go_loop [11] (fun i => ∃ k : Nat, k ≤ xs.length ∧ i = .int .i64 k ∧ Hid (∀ j, ∀ hj : j < xs.length, j < k → shortS xs[j] = true)) (fun i => xs.length - (intOf i).toNat)
    case atStart => exact ⟨0, Nat.zero_le _, rfl, fun j _ h0 => by omega⟩
    case round =>
      obtain ⟨k, hk, rfl, HA⟩ := hrel
      by_cases hlt : k < xs.length
      · obtain ⟨ad, rfl, hx⟩ := strs_at H.out hlt
        by_cases hs : 100 < xs[k].size
        · have HF := Lib.hid (show shortB xs = false by unfold shortB; rw [all_no hlt (shortS_big hs), Bool.and_false])
          clear H HA
          go_wp2
          go_ret
          exact ⟨ret_bool HF.out.symm, rfl⟩
        · have hs' : xs[k].size ≤ 100 := by omega
          clear hs
          go_wp2
          go_loop [20] (fun i => ∃ j : Nat, j ≤ xs[k].size ∧ i = .int .i64 j ∧ Hid (∀ q, ∀ h : q < xs[k].size, q < j → xs[k][q].toNat ≤ 127)) (fun i => xs[k].size - (intOf i).toNat)
          case atStart => exact ⟨0, Nat.zero_le _, rfl, fun q h hq => by omega⟩
          case round =>
            obtain ⟨j, hj, rfl, HQ⟩ := hrel
            by_cases hjl : j < xs[k].size
            · by_cases h127 : 127 < xs[k][j].toNat
              · have d1 : decide ((127 : Int) < (xs[k][j].toNat : Int)) = true := by simp; omega
                have HF := Lib.hid (show shortB xs = false by unfold shortB; rw [all_no hlt (shortS_no hjl h127), Bool.and_false])
                clear H HA HQ
                go_wp2
                go_ret
                exact ⟨ret_bool HF.out.symm, rfl⟩
              · have d1 : decide ((127 : Int) < (xs[k][j].toNat : Int)) = false := by simp; omega
                have HQ2 : Hid (∀ q, ∀ h : q < xs[k].size, q < j + 1 → xs[k][q].toNat ≤ 127) := fun q h hq => by
                  by_cases e : q = j
                  · subst e; omega
                  · exact HQ.out q h (by omega)
                clear HQ
                go_wp2
                refine ⟨⟨j + 1, by omega, by go_num, HQ2⟩, ?_⟩
                simp [intOf]; omega
            · have hy := shortS_yes hs' (fun q hq => HQ.out q hq (by omega))
              have HA2 : Hid (∀ j, ∀ hj : j < xs.length, j < k + 1 → shortS xs[j] = true) := fun q hq hqk => by
                by_cases e : q = k
                · subst e; exact hy
                · exact HA.out q hq (by omega)
              clear HQ HA hy
              go_wp2
              refine ⟨⟨k + 1, by omega, by go_num, HA2⟩, ?_⟩
              simp [intOf]; omega
      · have hf : shortB xs = true := by
          unfold shortB
          rw [all_yes (p := shortS) (fun j hj => HA.out j hj (by omega)), Bool.and_true]
          simpa using hle
        have HF := Lib.hid hf
        clear hf H HA
        go_wp2
        go_ret
        exact ⟨ret_bool HF.out.symm, rfl⟩

end Go.Proofs.Ytkjcedlgljeoiaa

/- Contracts: hlPieces, HlLines: the pieces of a text between one byte. -/
namespace Go.Proofs.Ytkjcedlgljeoiaa
open Go.RowKit Go.Lib

theorem here_one {s : ByteArray} {c : UInt8} {j : Nat} (h : j < s.size) : hereB s ⟨#[c]⟩ j = (s[j] == c) := by
  rw [hereB_eq]
  have hl : j < s.data.toList.length := by simpa using h
  rw [List.drop_eq_getElem_cons hl]
  have e : s.data.toList[j] = s[j] := rfl
  rw [e]
  show (List.take 1 _ == [c]) = _
  simp
theorem ext_get {s : ByteArray} {f k : Nat} (h : f + k < s.size) (h2 : k < (s.extract f s.size).size) : (s.extract f s.size)[k] = s[f + k] := by
  rw [ByteArray.getElem_extract]
theorem ext_ext (s : ByteArray) (f a b : Nat) (hb : f + b ≤ s.size) : (s.extract f s.size).extract a b = s.extract (f + a) (f + b) := by
  rw [ByteArray.extract_extract]
  congr 1
  omega
/-- The first place of c behind f. -/
theorem idx_piece {s : ByteArray} {c : UInt8} {f k : Nat} (hf : f ≤ k) (hk : k < s.size) (hno : ∀ j, ∀ h : j < s.size, f ≤ j → j < k → s[j] ≠ c) (he : s[k] = c) : idxO (s.extract f s.size) ⟨#[c]⟩ = some (k - f) := by
  have hsz : (s.extract f s.size).size = s.size - f := by simp [ByteArray.size_extract]
  have h1 : (⟨#[c]⟩ : ByteArray).size = 1 := rfl
  refine firstN_some (by rw [hsz, h1]; omega) (fun j hj => ?_) ?_
  · rw [here_one (by rw [hsz]; omega), ext_get (by omega) _]
    simpa using hno (f + j) (by omega) (by omega) (by omega)
  · rw [here_one (by rw [hsz]; omega), ext_get (by omega) _]
    have e : s[f + (k - f)]'(by omega) = s[k] := by congr 1; omega
    rw [e]; simpa using he
theorem idx_piece_none {s : ByteArray} {c : UInt8} {f : Nat} (hno : ∀ j, ∀ h : j < s.size, f ≤ j → s[j] ≠ c) : idxO (s.extract f s.size) ⟨#[c]⟩ = none := by
  have hsz : (s.extract f s.size).size = s.size - f := by simp [ByteArray.size_extract]
  have h1 : (⟨#[c]⟩ : ByteArray).size = 1 := rfl
  refine firstN_none fun j hj => ?_
  rw [hsz, h1] at hj
  rw [here_one (by rw [hsz]; omega), ext_get (by omega) _]
  simpa using hno (f + j) (by omega) (by omega)
theorem split_step {s : ByteArray} {c : UInt8} {f k K : Nat} (hf : f ≤ k) (hk : k < s.size) (hno : ∀ j, ∀ h : j < s.size, f ≤ j → j < k → s[j] ≠ c) (he : s[k] = c) :
    splitF ⟨#[c]⟩ (K + 1) (s.extract f s.size) = s.extract f k :: splitF ⟨#[c]⟩ K (s.extract (k + 1) s.size) := by
  have hsz : (s.extract f s.size).size = s.size - f := by simp [ByteArray.size_extract]
  have h1 : (⟨#[c]⟩ : ByteArray).size = 1 := rfl
  conv => lhs; unfold splitF
  rw [idx_piece hf hk hno he]
  simp only []
  rw [ext_ext _ _ _ _ (by omega), hsz, h1, ext_ext _ _ _ _ (by omega)]
  have e1 : f + 0 = f := rfl
  have e2 : f + (k - f) = k := by omega
  have e3 : f + (k - f + 1) = k + 1 := by omega
  have e4 : f + (s.size - f) = s.size := by omega
  rw [e1, e2, e3, e4]
theorem split_end {s : ByteArray} {c : UInt8} {f K : Nat} (hno : ∀ j, ∀ h : j < s.size, f ≤ j → s[j] ≠ c) : splitF ⟨#[c]⟩ K (s.extract f s.size) = [s.extract f s.size] := by
  cases K with
  | zero => rfl
  | succ K => unfold splitF; rw [idx_piece_none hno]
theorem ext_whole (s : ByteArray) : s.extract 0 s.size = s := by
  apply ByteArray.ext; simp

set_option maxRecDepth 100000 in
set_option maxHeartbeats 2000000 in
theorem pieces_any (s : ByteArray) (b : UInt8) (w : World) (hs : s.size ≤ 1000000) :
    Calls Try.prog 91 #[.string s, .int .u8 b.toNat] w fun e w' => ∃ v, e = .returned v ∧ w'.ownsRow w.heap.size 9 1 v (splitF ⟨#[b]⟩ (s.size + 1) s).length (strs (splitF ⟨#[b]⟩ (s.size + 1) s)) ∧ Below w.heap.size w w' := by
  go_enter Try.func91, Try.ntmps91
  go_wp2
  go_loopw [5, 6, 10] (fun v f i wr => ∃ (k f0 K : Nat) (done : List ByteArray), k ≤ s.size ∧ f0 ≤ k ∧ i = .int .i64 k ∧ f = .int .i64 f0 ∧ Hid (wr.ownsRow w.heap.size 9 1 v done.length (strs done)) ∧ Hid (Below w.heap.size w wr) ∧
      Hid (done ++ splitF ⟨#[b]⟩ K (s.extract f0 s.size) = splitF ⟨#[b]⟩ (s.size + 1) s) ∧ s.size + 1 ≤ K + f0 ∧ done.length ≤ f0 ∧ Hid (∀ j, ∀ h : j < s.size, f0 ≤ j → j < k → s[j] ≠ b)) (fun _ _ i _ => s.size - (intOf i).toNat)
  case atStart => exact ⟨0, 0, s.size + 1, [], Nat.zero_le _, Nat.le_refl _, rfl, rfl, own_nil _ _ _ _, Below.refl _ _, by show _ = _; rw [ext_whole]; rfl, by omega, Nat.le_refl _, fun j h _ hj => by omega⟩
  case round =>
    obtain ⟨k, f0, K, done, hk, hf, rfl, rfl, HO, HB, HL, hK, hd, HN⟩ := hrel
    by_cases hlt : k < s.size
    · by_cases he : s[k] = b
      · have d1 : ((s[k].toNat : Int) == (b.toNat : Int)) = true := by simp [he]
        obtain ⟨K, rfl⟩ : ∃ q, K = q + 1 := ⟨K - 1, by omega⟩
        have hL2 : (done ++ [s.extract f0 k]) ++ splitF ⟨#[b]⟩ K (s.extract (k + 1) s.size) = splitF ⟨#[b]⟩ (s.size + 1) s := by
          rw [← HL.out, split_step hf hlt HN.out he]; simp
        have HL2 := Lib.hid hL2
        clear hL2 HL HN he
        have hbA : Hid (Below wr.heap.size wr (wr.alloc (.cells #[.string (s.extract f0 k)] 9))) := (Below.refl _ _).alloc (Nat.le_refl _) _
        have hsA : Hid (Sl (wr.alloc (.cells #[.string (s.extract f0 k)] 9)) (some ⟨wr.heap.size, 0, none⟩) (strs [s.extract f0 k])) := (Blk.new wr 9 #[.string (s.extract f0 k)]).sl (by simp)
        go_wp2_with ((with_reducible refine at_dst (N := 24) rfl ?_); refine ev_app (w := wr.alloc (.cells #[.string (s.extract f0 k)] 9)) rfl _ _ 22 9 rfl Try.underlying22 _ 1 16 info9 rfl (by omega) w.heap.size _ _ _ rfl (own_below HO.out hbA.out) _ 1 1 (strs [s.extract f0 k]) rfl hsA.out (by simp [strs]) (by simp [strs, Value.oneCell']) (by omega) (by omega) (Nat.le_trans HB.out.size hbA.out.size) ?_; intro v1 w1 ho1 hg1 hat1
                     have HX := Lib.hid (below_row (below_trans HB.out hbA.out) hg1 (Nat.le_trans HB.out.size hbA.out.size) (own_ge HO.out))
                     have ho2 : w1.ownsRow w.heap.size 9 1 v1 (done ++ [s.extract f0 k]).length (strs (done ++ [s.extract f0 k])) := by simpa [strs] using ho1
                     have HO1 := Lib.hid ho2
                     clear ho1 ho2 hg1 hat1)
        refine ⟨⟨k + 1, k + 1, K, done ++ [s.extract f0 k], by omega, Nat.le_refl _, by go_num, by go_num, HO1, HX, HL2, by omega, by simp; omega, fun j h h1 h2 => by omega⟩, ?_⟩
        simp [intOf]; omega
      · have d1 : ((s[k].toNat : Int) == (b.toNat : Int)) = false := by
          simp only [beq_eq_false_iff_ne, ne_eq]
          intro e
          exact he (UInt8.toNat_inj.1 (by omega))
        have HN2 : Hid (∀ j, ∀ h : j < s.size, f0 ≤ j → j < k + 1 → s[j] ≠ b) := fun j h h1 h2 => by
          by_cases e : j = k
          · subst e; exact he
          · exact HN.out j h h1 (by omega)
        clear HN he
        go_wp2_with fail
        refine ⟨⟨k + 1, f0, K, done, by omega, by omega, by go_num, rfl, HO, HB, HL, hK, hd, HN2⟩, ?_⟩
        simp [intOf]; omega
    · have hL2 : done ++ [s.extract f0 s.size] = splitF ⟨#[b]⟩ (s.size + 1) s := by
        rw [← HL.out, split_end (fun j h h1 => HN.out j h h1 (by omega))]
      have HL2 := Lib.hid hL2
      clear hL2 HL HN
      have hbA : Hid (Below wr.heap.size wr (wr.alloc (.cells #[.string (s.extract f0 s.size)] 9))) := (Below.refl _ _).alloc (Nat.le_refl _) _
      have hsA : Hid (Sl (wr.alloc (.cells #[.string (s.extract f0 s.size)] 9)) (some ⟨wr.heap.size, 0, none⟩) (strs [s.extract f0 s.size])) := (Blk.new wr 9 #[.string (s.extract f0 s.size)]).sl (by simp)
      go_wp2_with ((with_reducible refine at_dst (N := 33) rfl ?_); refine ev_app (w := wr.alloc (.cells #[.string (s.extract f0 s.size)] 9)) rfl _ _ 22 9 rfl Try.underlying22 _ 1 16 info9 rfl (by omega) w.heap.size _ _ _ rfl (own_below HO.out hbA.out) _ 1 1 (strs [s.extract f0 s.size]) rfl hsA.out (by simp [strs]) (by simp [strs, Value.oneCell']) (by omega) (by omega) (Nat.le_trans HB.out.size hbA.out.size) ?_; intro v1 w1 ho1 hg1 hat1
                   have HX := Lib.hid (below_row (below_trans HB.out hbA.out) hg1 (Nat.le_trans HB.out.size hbA.out.size) (own_ge HO.out))
                   have ho2 : w1.ownsRow w.heap.size 9 1 v1 (done ++ [s.extract f0 s.size]).length (strs (done ++ [s.extract f0 s.size])) := by simpa [strs] using ho1
                   have HO1 := Lib.hid ho2
                   clear ho1 ho2 hg1 hat1)
      go_ret
      exact ⟨_, rfl, by rw [← HL2.out]; exact HO1.out, HX.out⟩
end Go.Proofs.Ytkjcedlgljeoiaa

/- Contracts: plain.IsSpace, plain.Sanitize, sanitizeString, ChClean: white made blanks, what is not printed taken out. -/
namespace Go.Proofs.Ytkjcedlgljeoiaa
open Go.RowKit Go.Lib

def isSp (r : Int) : Bool := (decide (9 ≤ r) && decide (r ≤ 13)) || r == 32

def cleanB (c : UInt8) : Option UInt8 := if 9 ≤ c.toNat ∧ c.toNat ≤ 13 then some 32 else if 32 ≤ c.toNat ∧ c.toNat < 127 then some c else none
def cleanL (s : ByteArray) (k : Nat) : List UInt8 := (s.data.toList.take k).filterMap cleanB
def cleanF (s : ByteArray) : ByteArray := ⟨(s.data.toList.filterMap cleanB).toArray⟩
def u8s (l : List UInt8) : List Value := l.map fun c => .int .u8 c.toNat

/-- All bytes are below 128. -/
def asciiB (s : ByteArray) : Prop := ∀ j, ∀ h : j < s.size, s[j].toNat ≤ 127

end Go.Proofs.Ytkjcedlgljeoiaa

/- Contract: chAscii: at most 60 bytes, each below 128. -/
namespace Go.Proofs.Ytkjcedlgljeoiaa
open Go.RowKit Go.Lib

def mskB (c : UInt8) : UInt8 := c &&& 127
/-- The first k bytes masked. -/
def mskF (s : ByteArray) (k : Nat) : ByteArray := ⟨((s.data.toList.take k).map mskB ++ s.data.toList.drop k).toArray⟩
def ascF (s : ByteArray) : ByteArray := mskF (s.extract 0 (min s.size 60)) (min s.size 60)

theorem BB.cell {w : World} {g : Nat} {e : TypeId} {b : ByteArray} (h : BB w g e b) {i : Nat} (hi : i < b.size) : w.cell? ⟨g, i, none⟩ = some (.int .u8 b[i].toNat) := by
  obtain ⟨tail, h⟩ := h
  rw [cell_of_row w g i _ e _ h]
  simp only [List.getElem?_toArray]
  have hl : i < (strCells b).length := by rw [strCells_length]; exact hi
  rw [List.getElem?_append_left hl]
  have hl2 : i < b.data.toList.length := by simpa using hi
  unfold strCells
  rw [List.getElem?_map, List.getElem?_eq_getElem hl2]
  rfl
end Go.Proofs.Ytkjcedlgljeoiaa

/- Words on lists of texts. -/
namespace Go.Proofs.Ytkjcedlgljeoiaa
open Go.RowKit Go.Lib
set_option linter.unusedVariables false
set_option linter.unusedSimpArgs false
theorem below_set {B : Nat} {w w1 : World} (h : Below B w w1) {g : Nat} (hg : B ≤ g) (i : Nat) (u : Value) : Below B w (w1.setCell ⟨g, i, none⟩ u) :=
  ⟨h.os, h.tape, h.output, by simpa [World.setCell] using h.size, fun k hk => (Below.heap_setCell w1 ⟨g, i, none⟩ u k (fun e => by simp at e; omega)).trans (h.block k hk)⟩
def someF (xs : List ByteArray) : List ByteArray := (xs.take 6).map ascF
def cleansF (xs : List ByteArray) : List ByteArray := xs.map cleanF
end Go.Proofs.Ytkjcedlgljeoiaa

/- Plain law: versions as texts; the numbers of a plain one; one text for three numbers. -/
namespace Go.Proofs.Ytkjcedlgljeoiaa
open Go.RowKit Go.Lib

def digB (c : UInt8) : Bool := decide (48 ≤ c.toNat ∧ c.toNat ≤ 57)
def valL (l : List UInt8) : Nat := l.foldl (fun n c => 10 * n + (c.toNat - 48)) 0
def tw (s : ByteArray) (k : Nat) : List UInt8 := (s.data.toList.drop k).takeWhile digB
/-- The number i of a plain version that begins at 'from': its value, and what stands behind the point. -/
def stepF (s : ByteArray) (i from_ : Nat) : Option (Nat × Nat) :=
  if tw s from_ = [] ∨ 9 < (tw s from_).length ∨ (1 < (tw s from_).length ∧ (tw s from_).head? = some 48) ∨ (i < 2 ∧ s.data.toList[from_ + (tw s from_).length]? ≠ some 46) then none
  else some (valL (tw s from_), from_ + (tw s from_).length + 1)
def pref (s : ByteArray) : Nat → Option (List Nat × Nat)
  | 0 => some ([], 0)
  | i + 1 => match pref s i with
    | none => none
    | some (l, p) => match stepF s i p with
      | none => none
      | some (v, e) => some (l ++ [v], e)
def numsF (s : ByteArray) : List Nat := match pref s 3 with | none => [0, 0, 0] | some (l, _) => l
def plainB (s : ByteArray) : Bool := match pref s 3 with | none => false | some (_, e) => decide (e = s.size + 1)

theorem valL_snoc (l : List UInt8) (c : UInt8) : valL (l ++ [c]) = 10 * valL l + (c.toNat - 48) := by simp [valL]
theorem tw_end {s : ByteArray} {k : Nat} (h : s.size ≤ k) : tw s k = [] := by
  unfold tw
  rw [List.drop_of_length_le (by simpa using h)]
  rfl
theorem tw_all {s : ByteArray} {k : Nat} : ∀ c ∈ tw s k, digB c = true := fun c hc => by
  unfold tw at hc
  exact List.all_eq_true.1 (List.all_takeWhile (p := digB)) c hc
theorem tw_le (s : ByteArray) (k : Nat) (hk : k ≤ s.size) : k + (tw s k).length ≤ s.size := by
  have h1 : (tw s k).length ≤ (s.data.toList.drop k).length := (List.takeWhile_sublist _).length_le
  simp at h1
  omega
theorem tw_drop (s : ByteArray) (k : Nat) : s.data.toList.drop k = tw s k ++ s.data.toList.drop (k + (tw s k).length) := by
  have h := List.takeWhile_append_dropWhile (p := digB) (l := s.data.toList.drop k)
  have h2 : (s.data.toList.drop k).dropWhile digB = s.data.toList.drop (k + (tw s k).length) := by
    have h3 : (tw s k ++ (s.data.toList.drop k).dropWhile digB).drop (tw s k).length = (s.data.toList.drop k).dropWhile digB := List.drop_left
    have h4 : tw s k ++ (s.data.toList.drop k).dropWhile digB = s.data.toList.drop k := h
    rw [h4, List.drop_drop] at h3
    exact h3.symm
  rw [← h2]
  exact h.symm
theorem stepF_some {s : ByteArray} {i f v e : Nat} (h : stepF s i f = some (v, e)) :
    v = valL (tw s f) ∧ e = f + (tw s f).length + 1 ∧ tw s f ≠ [] ∧ (tw s f).length ≤ 9 ∧ (1 < (tw s f).length → (tw s f).head? ≠ some 48) ∧ (i < 2 → s.data.toList[f + (tw s f).length]? = some 46) := by
  unfold stepF at h
  split at h
  · cases h
  · rename_i hn
    simp only [Option.some.injEq, Prod.mk.injEq] at h
    refine ⟨h.1.symm, h.2.symm, fun hh => hn (.inl hh), ?_, fun h1 h2 => hn (.inr (.inr (.inl ⟨h1, h2⟩))), fun h1 => ?_⟩
    · rcases Nat.lt_or_ge 9 (tw s f).length with h3 | h3
      · exact absurd (.inr (.inl h3)) hn
      · exact h3
    · by_cases h3 : s.data.toList[f + (tw s f).length]? = some 46
      · exact h3
      · exact absurd (.inr (.inr (.inr ⟨h1, h3⟩))) hn
theorem snoc_ind {α : Type} {M : List α → Prop} (h0 : M []) (hs : ∀ l c, M l → M (l ++ [c])) (l : List α) : M l := by
  have : ∀ m : List α, M m.reverse := fun m => by
    induction m with
    | nil => exact h0
    | cons c m ih => rw [List.reverse_cons]; exact hs _ _ ih
  have h := this l.reverse
  rwa [List.reverse_reverse] at h
/-- What a plain version is. -/
theorem pref_text {s : ByteArray} (h : plainB s = true) : ∃ p q r : List UInt8, s.data.toList = p ++ 46 :: (q ++ 46 :: r) ∧ numsF s = [valL p, valL q, valL r] ∧
    (∀ t ∈ [p, q, r], t ≠ [] ∧ t.length ≤ 9 ∧ (∀ c ∈ t, digB c = true) ∧ (1 < t.length → t.head? ≠ some 48)) := by
  unfold plainB at h
  cases h3 : pref s 3 with
  | none => rw [h3] at h; cases h
  | some x =>
    obtain ⟨l3, e3⟩ := x
    rw [h3] at h
    simp only [decide_eq_true_eq] at h
    have hn : numsF s = l3 := by unfold numsF; rw [h3]
    simp only [pref] at h3
    cases h0 : stepF s 0 0 with
    | none => rw [h0] at h3; simp at h3
    | some y0 =>
      obtain ⟨v0, e0⟩ := y0
      rw [h0] at h3
      simp only [List.nil_append] at h3
      cases h1 : stepF s 1 e0 with
      | none => rw [h1] at h3; simp at h3
      | some y1 =>
        obtain ⟨v1, e1⟩ := y1
        rw [h1] at h3
        simp only at h3
        cases h2 : stepF s 2 e1 with
        | none => rw [h2] at h3; simp at h3
        | some y2 =>
          obtain ⟨v2, e2⟩ := y2
          rw [h2] at h3
          simp only [Option.some.injEq, Prod.mk.injEq] at h3
          obtain ⟨a1, a2, a3, a4, a5, a6⟩ := stepF_some h0
          obtain ⟨b1, b2, b3, b4, b5, b6⟩ := stepF_some h1
          obtain ⟨c1, c2, c3, c4, c5, _⟩ := stepF_some h2
          have cut : ∀ {k : Nat}, s.data.toList[k]? = some 46 → s.data.toList.drop k = 46 :: s.data.toList.drop (k + 1) := fun {k} hk => by
            obtain ⟨hk1, hk2⟩ := List.getElem?_eq_some_iff.1 hk
            rw [List.drop_eq_getElem_cons hk1, hk2]
          refine ⟨tw s 0, tw s e0, tw s e1, ?_, ?_, ?_⟩
          · have d0 := tw_drop s 0
            rw [cut (a6 (by omega)), ← a2] at d0
            rw [tw_drop s e0, cut (b6 (by omega)), ← b2, tw_drop s e1] at d0
            have : s.data.toList.drop (e1 + (tw s e1).length) = [] := List.drop_of_length_le (by simp; omega)
            rw [this, List.append_nil] at d0
            simpa using d0
          · rw [hn, ← h3.1, a1, b1, c1]; rfl
          · intro t ht
            simp only [List.mem_cons, List.not_mem_nil, or_false] at ht
            rcases ht with rfl | rfl | rfl
            · exact ⟨a3, a4, tw_all, a5⟩
            · exact ⟨b3, b4, tw_all, b5⟩
            · exact ⟨c3, c4, tw_all, c5⟩
/-- A text that is no version, in any form. -/
def verC (c : UInt8) : Bool := decide ((48 ≤ c.toNat ∧ c.toNat ≤ 57) ∨ (97 ≤ c.toNat ∧ c.toNat ≤ 122) ∨ (65 ≤ c.toNat ∧ c.toNat ≤ 90) ∨ c.toNat = 46 ∨ c.toNat = 43 ∨ c.toNat = 45)
def leadB (c : UInt8) : Bool := decide (c.toNat = 118 ∨ (48 ≤ c.toNat ∧ c.toNat ≤ 57))
def errB (s : ByteArray) : Bool := !s.data.toList.all verC || (match s.data.toList with | [] => true | c :: _ => !leadB c)
theorem plain_ok {s : ByteArray} (h : plainB s = true) : errB s = false := by
  obtain ⟨p, q, r, e, _, a⟩ := pref_text h
  have dv : ∀ t ∈ [p, q, r], ∀ c ∈ t, verC c = true := fun t ht c hc => by
    have := (a t ht).2.2.1 c hc
    simp only [digB, verC, decide_eq_true_eq] at this ⊢
    omega
  unfold errB
  rw [e]
  have h1 : (p ++ 46 :: (q ++ 46 :: r)).all verC = true := by
    rw [List.all_eq_true]
    intro c hc
    simp only [List.mem_append, List.mem_cons] at hc
    rcases hc with hc | rfl | hc | rfl | hc
    · exact dv p (by simp) c hc
    · decide
    · exact dv q (by simp) c hc
    · decide
    · exact dv r (by simp) c hc
  rw [h1]
  cases p with
  | nil => exact absurd rfl (a [] (by simp)).1
  | cons c p =>
    have := (a (c :: p) (by simp)).2.2.1 c (by simp)
    simp only [digB, decide_eq_true_eq] at this
    simp [leadB]
    omega
/-- ChVersion. -/
def noF : ByteArray := ⟨#[110, 111, 32]⟩
def verF (s : ByteArray) : ByteArray := if plainB s = true ∨ s.data.toList = [] then s else match s.data.toList with | [] => s | c :: _ => if leadB c then noF ++ s else s
end Go.Proofs.Ytkjcedlgljeoiaa

/- spec.HlPlain, laws.hlWord, plain.Base; plain versions and their pieces. -/
namespace Go.Proofs.Ytkjcedlgljeoiaa
open Go.RowKit Go.Lib
set_option linter.unusedVariables false
set_option linter.unusedSimpArgs false
def catL (c : UInt8) : List ByteArray → List UInt8
  | [] => []
  | [x] => x.data.toList
  | x :: y :: l => x.data.toList ++ c :: catL c (y :: l)
theorem bytes_eqL {a b : ByteArray} (h : (a.toList == b.toList) = true) : a = b := by
  have e := eq_of_beq h
  rw [Go.ByteArray.toList_eq, Go.ByteArray.toList_eq] at e
  exact ByteArray.ext (Array.toList_inj.1 e)
theorem splitF_ne (sep s : ByteArray) (k : Nat) : ∃ x l, splitF sep k s = x :: l := by
  cases k with
  | zero => exact ⟨_, _, rfl⟩
  | succ k =>
    unfold splitF
    cases idxO s sep with
    | none => exact ⟨_, _, rfl⟩
    | some i => exact ⟨_, _, rfl⟩
theorem ext_list (s : ByteArray) (i j : Nat) : (s.extract i j).data.toList = (s.data.toList.drop i).take (j - i) := by
  rw [ByteArray.data_extract, Array.toList_extract]
theorem cat_split (c : UInt8) : ∀ (k : Nat) (s : ByteArray), catL c (splitF ⟨#[c]⟩ k s) = s.data.toList
  | 0, s => rfl
  | k + 1, s => by
    unfold splitF
    cases h : idxO s ⟨#[c]⟩ with
    | none => rfl
    | some i =>
      have hlt := idxO_lt h
      have h1 : (⟨#[c]⟩ : ByteArray).size = 1 := rfl
      rw [h1] at hlt
      have hz : s.data.toList.length = s.size := by simp
      have hb : hereB s ⟨#[c]⟩ i = true := by
        unfold idxO firstN at h
        rw [List.find?_range_eq_some] at h
        exact h.1
      have he := bytes_eqL hb
      rw [h1] at he
      have hc : (s.data.toList.drop i).take 1 = [c] := by
        have := congrArg (fun b : ByteArray => b.data.toList) he
        simp only [ext_list] at this
        rw [show i + 1 - i = 1 by omega] at this
        exact this
      obtain ⟨y, l, hl⟩ := splitF_ne ⟨#[c]⟩ (s.extract (i + 1) s.size) k
      have ih := cat_split c k (s.extract (i + 1) s.size)
      show catL c (s.extract 0 i :: splitF ⟨#[c]⟩ k (s.extract (i + 1) s.size)) = _
      rw [hl] at ih ⊢
      show (s.extract 0 i).data.toList ++ c :: catL c (y :: l) = _
      rw [ih, ext_list, ext_list, List.drop_zero, Nat.sub_zero]
      have h3 : (s.data.toList.drop (i + 1)).take (s.size - (i + 1)) = s.data.toList.drop (i + 1) := List.take_of_length_le (by simp)
      rw [h3]
      have h4 : s.data.toList.drop i = c :: s.data.toList.drop (i + 1) := by
        have h5 : i < s.data.toList.length := by omega
        rw [List.drop_eq_getElem_cons h5] at hc ⊢
        simp only [List.take_succ_cons, List.take_zero, List.cons.injEq, and_true] at hc
        rw [hc]
      rw [← h4, List.take_append_drop]
def okN (p : ByteArray) : Bool := decide (0 < p.size) && (decide (p.size ≤ 9) && (p.data.toList.all digB && !(decide (1 < p.size) && p.data.toList.head? == some 48)))
def hpB (s : ByteArray) : Bool := (splitF ⟨#[46]⟩ (s.size + 1) s).all okN && (splitF ⟨#[46]⟩ (s.size + 1) s).length == 3
theorem takeW {p r : List UInt8} (hp : p.all digB = true) (hr : ∀ c, r.head? = some c → digB c = false) : (p ++ r).takeWhile digB = p := by
  induction p with
  | nil =>
    cases r with
    | nil => rfl
    | cons c r => rw [List.nil_append, List.takeWhile_cons, hr c rfl]; rfl
  | cons c p ih =>
    simp only [List.all_cons, Bool.and_eq_true] at hp
    rw [List.cons_append, List.takeWhile_cons, hp.1]
    simp only [if_true]
    rw [ih hp.2]
theorem step_at {s : ByteArray} {i k : Nat} {p : ByteArray} {r : List UInt8} (h : s.data.toList.drop k = p.data.toList ++ r) (hk : k ≤ s.size) (hp : okN p = true) (hr : ∀ c, r.head? = some c → digB c = false) (hi : i < 2 → r.head? = some 46) : stepF s i k = some (valL p.data.toList, k + p.size + 1) := by
  simp only [okN, Bool.and_eq_true, decide_eq_true_eq] at hp
  have ht : tw s k = p.data.toList := by unfold tw; rw [h]; exact takeW hp.2.2.1 hr
  have hz : p.data.toList.length = p.size := by simp
  unfold stepF
  rw [ht, hz, if_neg]
  rintro (h1 | h1 | ⟨h1, h2⟩ | ⟨h1, h2⟩)
  · rw [h1] at hz; simp at hz; omega
  · omega
  · have := hp.2.2.2
    simp [h1, h2] at this
  · apply h2
    have hd : (s.data.toList.drop k)[p.size]? = r.head? := by
      rw [h, List.getElem?_append_right (by omega), hz, Nat.sub_self, List.head?_eq_getElem?]
    rw [List.getElem?_drop] at hd
    rw [hd]; exact hi h1
theorem hp_plain {s : ByteArray} (h : hpB s = true) : plainB s = true := by
  unfold hpB at h
  rw [Bool.and_eq_true] at h
  have hl := eq_of_beq h.2
  have ha := h.1
  have hc := cat_split 46 (s.size + 1) s
  revert hl ha hc
  generalize splitF ⟨#[46]⟩ (s.size + 1) s = l
  intro hl ha hc
  match l, hl with
  | [a, b, c], _ =>
    simp only [List.all_cons, List.all_nil, Bool.and_true, Bool.and_eq_true] at ha
    obtain ⟨h1, h2, h3⟩ := ha
    have hc : a.data.toList ++ 46 :: (b.data.toList ++ 46 :: c.data.toList) = s.data.toList := hc
    have hz : s.data.toList.length = s.size := by simp
    have za : a.data.toList.length = a.size := by simp
    have zb : b.data.toList.length = b.size := by simp
    have zc : c.data.toList.length = c.size := by simp
    have hsz : s.size = a.size + 1 + (b.size + 1) + c.size := by rw [← hz, ← hc]; simp; omega
    have d46 : digB 46 = false := by decide
    have e1 := step_at (s := s) (i := 0) (k := 0) (p := a) (r := 46 :: (b.data.toList ++ 46 :: c.data.toList)) (by rw [List.drop_zero, hc]) (Nat.zero_le _) h1 (fun x hx => by injection hx with hx; rw [← hx]; exact d46) (fun _ => rfl)
    have e2 := step_at (s := s) (i := 1) (k := 0 + a.size + 1) (p := b) (r := 46 :: c.data.toList) (by
      rw [← hc, show 0 + a.size + 1 = a.data.toList.length + 1 by omega, ← List.drop_drop, List.drop_left']; rfl; rfl) (by omega) h2 (fun x hx => by injection hx with hx; rw [← hx]; exact d46) (fun _ => rfl)
    have e3 := step_at (s := s) (i := 2) (k := 0 + a.size + 1 + b.size + 1) (p := c) (r := []) (by
      rw [← hc, List.append_nil, show 0 + a.size + 1 + b.size + 1 = a.data.toList.length + (1 + (b.data.toList.length + 1)) by omega, ← List.drop_drop, List.drop_left' rfl, ← List.drop_drop, List.drop_one, List.tail_cons, ← List.drop_drop, List.drop_left' rfl]; rfl) (by omega) h3 (fun x hx => by cases hx) (fun h => by omega)
    unfold plainB
    simp only [pref, e1, e2, e3]
    simp only [decide_eq_true_eq]
    omega
end Go.Proofs.Ytkjcedlgljeoiaa

/- spec.HlPlain, laws.hlWord, plain.Base. -/
namespace Go.Proofs.Ytkjcedlgljeoiaa
open Go.RowKit Go.Lib
set_option linter.unusedVariables false
set_option linter.unusedSimpArgs false
theorem pieces46_any (s : ByteArray) (ps : List ByteArray) (w : World) (hs : s.size ≤ 1000000) (hps : ps = splitF ⟨#[46]⟩ (s.size + 1) s) :
    Calls Try.prog 91 #[.string s, .int .u8 46] w fun e w' => ∃ (A : Option Addr) (c : Nat), e = .returned (.slice A ps.length c) ∧ w'.ownsRow w.heap.size 9 1 (.slice A ps.length c) ps.length (strs ps) ∧ Below w.heap.size w w' := by
  subst hps
  refine (pieces_any s 46 w hs).mono fun e w' ⟨v, he, ho, hb⟩ => ?_
  obtain ⟨A, c, rfl, _⟩ := own_form ho
  exact ⟨A, c, he, ho, hb⟩
theorem sz_emp {a : ByteArray} (h : a.size = 0) : (a.toList == (⟨#[]⟩ : ByteArray).toList) = true := by rw [bytes_nil h]; exact beq_self_eq_true _
theorem emp_no {a : ByteArray} (h : 0 < a.size) : (a.toList == (⟨#[]⟩ : ByteArray).toList) = false := by
  apply Bool.eq_false_iff.2
  intro e
  have e := bytes_eqL e
  subst e; exact absurd h (by decide)
theorem emp_sz {a : ByteArray} (h : (a.toList == (⟨#[]⟩ : ByteArray).toList) = true) : a.size = 0 := by rw [bytes_eqL h]; rfl
theorem emp_pos {a : ByteArray} (h : (a.toList == (⟨#[]⟩ : ByteArray).toList) = false) : 0 < a.size := by
  rcases Nat.eq_zero_or_pos a.size with h0 | h0
  · have e : a = ⟨#[]⟩ := bytes_nil h0
    rw [e, beq_self_eq_true] at h; cases h
  · exact h0
theorem dig_at {p : ByteArray} {j : Nat} (h : j < p.size) (h1 : 48 ≤ p[j].toNat) (h2 : p[j].toNat ≤ 57) : digB p[j] = true := by unfold digB; simp [h1, h2]
theorem okN_no {p : ByteArray} (h : p.size = 0 ∨ 9 < p.size) : okN p = false := by
  unfold okN
  rcases h with h | h
  · simp [h]
  · have : decide (p.size ≤ 9) = false := by simp; omega
    rw [this]; simp
theorem okN_dig {p : ByteArray} {j : Nat} (h : j < p.size) (hd : p[j].toNat < 48 ∨ 57 < p[j].toNat) : okN p = false := by
  have : p.data.toList.all digB = false := by
    rw [List.all_eq_false]
    exact ⟨p[j], Array.mem_toList_iff.2 (Array.getElem_mem _), by unfold digB; simp; omega⟩
  unfold okN; rw [this]; simp
theorem head_at {p : ByteArray} (h : 0 < p.size) : p.data.toList.head? = some p[0] := by
  rw [List.head?_eq_getElem?, List.getElem?_eq_getElem (by simpa using h)]; rfl
theorem okN_zero {p : ByteArray} (h : 1 < p.size) (h0 : p[0].toNat = 48) : okN p = false := by
  have e : p[0] = 48 := UInt8.toNat_inj.1 h0
  have : (decide (1 < p.size) && p.data.toList.head? == some 48) = true := by rw [head_at (by omega), e]; simp [h]
  unfold okN; rw [this]; simp
theorem okN_yes {p : ByteArray} (h0 : 0 < p.size) (h9 : p.size ≤ 9) (hz : p.size ≤ 1 ∨ ∃ h : 0 < p.size, p[0].toNat ≠ 48) (hd : ∀ j, ∀ h : j < p.size, 48 ≤ p[j].toNat ∧ p[j].toNat ≤ 57) : okN p = true := by
  have h1 : p.data.toList.all digB = true := by
    rw [List.all_eq_true]
    intro c hc
    obtain ⟨j, hj, rfl⟩ := List.mem_iff_getElem.1 hc
    have hj2 : j < p.size := by simpa using hj
    have := hd j hj2
    exact dig_at hj2 this.1 this.2
  have h2 : (decide (1 < p.size) && p.data.toList.head? == some 48) = false := by
    rcases hz with hz | ⟨hp, hz⟩
    · have : decide (1 < p.size) = false := by simp; omega
      rw [this]; rfl
    · rw [head_at hp]
      have : (some p[0] == some (48 : UInt8)) = false := by
        apply Bool.eq_false_iff.2
        intro e
        have e := eq_of_beq e
        injection e with e
        apply hz; rw [e]; rfl
      rw [this]; simp
  unfold okN
  rw [h1, h2]
  simp [h0, h9]
theorem hp_no {s : ByteArray} {ps : List ByteArray} (hps : ps = splitF ⟨#[46]⟩ (s.size + 1) s) {k : Nat} (hk : k < ps.length) (h : okN ps[k] = false) : hpB s = false := by
  subst hps
  unfold hpB
  have : ((splitF ⟨#[46]⟩ (s.size + 1) s).all okN) = false := by
    rw [List.all_eq_false]
    exact ⟨_, List.getElem_mem hk, by rw [h]; simp⟩
  rw [this]; rfl
theorem hp_end {s : ByteArray} {ps : List ByteArray} (hps : ps = splitF ⟨#[46]⟩ (s.size + 1) s) {k : Nat} (hk : ps.length ≤ k) (h : ∀ j, ∀ h : j < ps.length, j < k → okN ps[j] = true) : hpB s = ((ps.length : Int) == 3) := by
  subst hps
  unfold hpB
  have : ((splitF ⟨#[46]⟩ (s.size + 1) s).all okN) = true := by
    rw [List.all_eq_true]
    intro x hx
    obtain ⟨j, hj, rfl⟩ := List.mem_iff_getElem.1 hx
    exact h j hj (by omega)
  rw [this, Bool.true_and]
  generalize (splitF ⟨#[46]⟩ (s.size + 1) s).length = n
  by_cases e : n = 3
  · subst e; rfl
  · have h1 : (n == 3) = false := by simp [e]
    have h2 : ((n : Int) == 3) = false := by simp; omega
    rw [h1, h2]
theorem split_sz {s : ByteArray} {ps : List ByteArray} (hps : ps = splitF ⟨#[46]⟩ (s.size + 1) s) (hs : s.size ≤ 1000000) : (∀ x ∈ ps, x.size ≤ 1000000) ∧ ps.length ≤ 1000001 := by
  subst hps
  refine ⟨fun x hx => ?_, Nat.le_trans (splitF_len _ (by decide) _ _) (by omega)⟩
  have h := splitF_sum ⟨#[46]⟩ (s.size + 1) s
  have h2 : ∀ l : List ByteArray, x ∈ l → x.size ≤ szSum l := fun l => by
    induction l with
    | nil => intro h; cases h
    | cons y l ih =>
      intro hm
      have e : szSum (y :: l) = y.size + szSum l := by simp [szSum]
      rcases List.mem_cons.1 hm with rfl | hm
      · omega
      · have := ih hm; omega
  have := h2 _ hx
  omega
def wB (s : ByteArray) : Bool := (s.data.toList.all fun c => decide (119 ≤ c.toNat) && decide (c.toNat ≤ 122)) && !(s.toList == (⟨#[]⟩ : ByteArray).toList)
theorem wB_no {s : ByteArray} {k : Nat} (hk : k < s.size) (h : s[k].toNat < 119 ∨ 122 < s[k].toNat) : wB s = false := by
  unfold wB
  rw [Bool.and_eq_false_iff]
  left
  rw [List.all_eq_false]
  exact ⟨s[k], Array.mem_toList_iff.2 (Array.getElem_mem _), by simp; omega⟩
theorem wB_yes {s : ByteArray} {k : Nat} (hk : s.size ≤ k) (h : ∀ j, ∀ hj : j < s.size, j < k → 119 ≤ s[j].toNat ∧ s[j].toNat ≤ 122) : wB s = !(s.toList == (⟨#[]⟩ : ByteArray).toList) := by
  unfold wB
  have : (s.data.toList.all fun c => decide (119 ≤ c.toNat) && decide (c.toNat ≤ 122)) = true := by
    rw [List.all_eq_true]
    intro c hc
    obtain ⟨j, hj, rfl⟩ := List.mem_iff_getElem.1 hc
    have hj2 : j < s.size := by simpa using hj
    have h2 := h j hj2 (by omega)
    have e : s.data.toList[j] = s[j] := rfl
    rw [e]; simp [h2]
  rw [this, Bool.true_and]
theorem w_err {s : ByteArray} (h : wB s = true) : errB s = true := by
  unfold wB at h
  rw [Bool.and_eq_true, List.all_eq_true] at h
  have hp : 0 < s.size := emp_pos (by simpa using h.2)
  have h0 := h.1 s[0] (Array.mem_toList_iff.2 (Array.getElem_mem _))
  simp only [Bool.and_eq_true, decide_eq_true_eq] at h0
  unfold errB
  have hh := head_at hp
  cases hl : s.data.toList with
  | nil => simp [hl] at hh
  | cons c l =>
    rw [hl] at hh
    simp only [List.head?_cons, Option.some.injEq] at hh
    subst hh
    have : leadB s[0] = false := by unfold leadB; simp; omega
    simp [this]
set_option maxRecDepth 100000 in
set_option maxHeartbeats 20000000 in
theorem hlPlain_any (s : ByteArray) (ps : List ByteArray) (R : Ctx) (L : List SA) (w : World) (S : Sp R w (L))  (hs : s.size ≤ 1000000) (hps : ps = splitF ⟨#[46]⟩ (s.size + 1) s) :
    Calls Try.prog 38 #[.string s] w fun e w' => e = .returned (.bool (hpB s)) ∧ Sp R w' (L) := by
  obtain ⟨hsp1, hsp2⟩ := split_sz hps hs
  refine fw_enter (fn := Try.f38) rfl rfl 52 rfl (Nat.le_of_ble_eq_true rfl) ?_
  intro a0 F0
  refine wp_seq_k fun K1 hK1 => ?_
  refine wp_region_lit ?_
  refine op_q F0 (.bool false) ?_; intro a2 F2
  refine wpList_nil ?_
  refine hK1 _ _ ?_; clear hK1 K1
  refine wp_seq_k fun K3 hK3 => ?_
  refine wp_region_lit ?_
  refine op_q F2 (.string s) ?_; intro a4 F4
  refine op_cq F4 (f := 91) (args := #[.string s, .int .u8 46]) (pieces46_any s ps _ (by first | omega | (simp; done) | (simp; omega)) hps) ?_
  rintro _ w5 ⟨A5, c5, rfl, hp0_5, hb_5⟩
  refine ⟨_, rfl, ?_⟩
  intro a6 F6
  have S5 := S.newown hb_5 hp0_5
  refine op_q F6 (.slice A5 (ps.length) c5) ?_; intro a7 F7
  refine wpList_nil ?_
  refine hK3 _ _ ?_; clear hK3 K3
  refine wp_seq_k fun K8 hK8 => ?_
  refine wp_seq_k fun K9 hK9 => ?_
  refine wp_region_lit ?_
  refine op_q F7 (.slice A5 (ps.length) c5) ?_; intro a10 F10
  refine op_q F10 (.int .i64 (↑ps.length)) ?_; intro a11 F11
  refine op_q F11 (.int .i64 0) ?_; intro a12 F12
  refine wpList_nil ?_
  refine hK9 _ _ ?_; clear hK9 K9
  refine wp_block ?_
  refine fw_loop (fun m' a' w' => ∃ k : Nat, ps.length - k = m' ∧ Fr 52 [] a' [(3, .slice A5 (ps.length) c5), (9, .slice A5 (ps.length) c5), (10, .int .i64 (↑ps.length)), (11, .int .i64 (↑k))] ∧ Sp R w' (SA.own (.slice A5 ps.length c5) 9 1 ps.length (strs ps) :: L) ∧ (k ≤ ps.length) ∧ (∀ j, ∀ h : j < ps.length, j < k → okN ps[j] = true)) _ ⟨0, rfl, (F12.kk 3 (F12.kk 9 (F12.kk 10 (F12.kk 11 F12.nil)))), S5, (by first | omega | (with_reducible assumption) | (simp; done)), (fun j _ h => absurd h (Nat.not_lt_zero _))⟩ ?_
  rintro m13 a13 w13 ⟨k, hm13, F13, S13, hk, hok⟩ K13 hK13
  by_cases hlt_k : k < ps.length
  · have hc_k : decide ((↑k : Int) < ↑ps.length) = true := by first | (simp; done) | (simp; omega)
    obtain ⟨ad14, hA14⟩ := (own_sl1 (S13.ow 0 rfl) (by first | omega | (simp; omega))).addr (by rw [strs_len]; omega)
    have hpz := hsp1 _ (List.getElem_mem hlt_k)
    refine wp_seq_k fun K15 hK15 => ?_
    refine wp_region_lit ?_
    refine op_q F13 (.bool (decide ((↑k : Int) < ↑ps.length))) ?_; intro a16 F16
    have F17 := F16.sb 12 (by kernel_rfl) hc_k
    refine wpList_nil ?_
    refine hK15 _ _ ?_; clear hK15 K15
    refine wp_seq_k fun K18 hK18 => ?_
    refine wp_cond_true (F17.ev (by kernel_rfl)) ?_
    refine wp_skip ?_
    refine hK18 _ _ ?_; clear hK18 K18
    refine wp_seq_k fun K19 hK19 => ?_
    refine wp_block ?_
    refine wp_seq_k fun K20 hK20 => ?_
    refine wp_region_lit ?_
    refine op_rq (v := .pointer (some (ad14.add k))) F17 (r_ix rfl Try.underlying22 1 (by kernel_rfl) (F17.e (.slice A5 (ps.length) c5)) hA14 (F17.e (.int .i64 (↑k))) k (by first | rfl | omega | simp) (by first | omega | (simp; done) | (simp; omega)) (by simp only [Nat.mul_one])) ?_; intro a21 F21
    refine op_rq (v := .string ps[k]) F21 (r_ld rfl (F21.e (.pointer (some (ad14.add k)))) (v := .string ps[k]) ((own_sl1 (S13.ow 0 rfl) (by first | omega | (simp; omega))).elA hA14 (j := k) (by simp [strs, List.getElem?_eq_getElem hlt_k])) Try.underlying9 rfl) ?_; intro a22 F22
    refine op_q F22 (.string ps[k]) ?_; intro a23 F23
    refine wpList_nil ?_
    refine hK20 _ _ ?_; clear hK20 K20
    refine fw_cut (fun a' w' => Fr 52 [] a' [(3, .slice A5 (ps.length) c5), (5, .string ps[k]), (9, .slice A5 (ps.length) c5), (10, .int .i64 (↑ps.length)), (11, .int .i64 (↑k))] ∧ Sp R w' (SA.own (.slice A5 ps.length c5) 9 1 ps.length (strs ps) :: L) ∧ (ps[k].size ≤ 1 ∨ ∃ h : 0 < ps[k].size, ps[k][0].toNat ≠ 48) ∧ (0 < ps[k].size) ∧ (ps[k].size ≤ 9)) ?_ ?_
    · intro K24 hK24
      refine wp_seq_k fun K25 hK25 => ?_
      refine wp_region_lit ?_
      refine op_q F23 (.string ps[k]) ?_; intro a26 F26
      refine op_q F26 (.int .i64 (↑ps[k].size)) ?_; intro a27 F27
      refine op_q F27 (.bool (decide ((9 : Int) < ↑ps[k].size))) ?_; intro a28 F28
      refine op_q F28 (.bool (decide ((9 : Int) < ↑ps[k].size))) ?_; intro a29 F29
      rcases btf (decide ((9 : Int) < ↑ps[k].size)) with hc30 | hc30
      · have hc30p := of_decide_eq_true hc30
        have F31 := F29.sb 17 (by kernel_rfl) hc30
        have F32 := F31.sb 18 (by kernel_rfl) hc30
        refine op_kq F32 ?_; intro a33 F33
        refine op_kq F33 ?_; intro a34 F34
        refine op_q F34 (.bool true) ?_; intro a35 F35
        refine op_q F35 (.bool true) ?_; intro a36 F36
        refine op_kq F36 ?_; intro a37 F37
        refine op_kq F37 ?_; intro a38 F38
        refine op_kq F38 ?_; intro a39 F39
        refine op_kq F39 ?_; intro a40 F40
        refine op_kq F40 ?_; intro a41 F41
        refine op_kq F41 ?_; intro a42 F42
        refine op_kq F42 ?_; intro a43 F43
        refine op_kq F43 ?_; intro a44 F44
        refine op_q F44 (.bool true) ?_; intro a45 F45
        refine wpList_nil ?_
        refine hK25 _ _ ?_; clear hK25 K25
        refine wp_cond_true (F45.ev (by kernel_rfl)) ?_
        refine wp_seq_k fun K46 hK46 => ?_
        refine wp_region_lit ?_
        refine op_q F45 (.bool false) ?_; intro a47 F47
        refine wpList_nil ?_
        refine hK46 _ _ ?_; clear hK46 K46
        refine wp_ret ?_
        refine ret_then ?_
        refine ret_in ?_
        refine ret_then ?_
        refine ret_then ?_
        refine ret_in ?_
        refine ret_then ?_
        refine (F47.res1 rfl (v := .bool false) (by kernel_rfl) ?_).1
        exact ⟨(ret_bool (hp_no hps hlt_k (okN_no (Or.inr (by omega)))).symm), S13.drop⟩
      · have hc30p := of_decide_eq_false hc30
        have F48 := F29.sb 17 (by kernel_rfl) hc30
        have F49 := F48.sb 18 (by kernel_rfl) hc30
        refine op_wq F49 ?_
        refine op_q F49 (.string ps[k]) ?_; intro a50 F50
        refine op_wq F50 ?_
        refine op_q F50 (.bool (ps[k].toList == (⟨#[]⟩ : ByteArray).toList)) ?_; intro a51 F51
        refine op_q F51 (.bool (ps[k].toList == (⟨#[]⟩ : ByteArray).toList)) ?_; intro a52 F52
        refine op_q F52 (.bool (ps[k].toList == (⟨#[]⟩ : ByteArray).toList)) ?_; intro a53 F53
        rcases btf (ps[k].toList == (⟨#[]⟩ : ByteArray).toList) with hc54 | hc54
        · have F55 := F53.sb 20 (by kernel_rfl) hc54
          have F56 := F55.sb 21 (by kernel_rfl) hc54
          have F57 := F56.sb 22 (by kernel_rfl) hc54
          refine op_kq F57 ?_; intro a58 F58
          refine op_kq F58 ?_; intro a59 F59
          refine op_kq F59 ?_; intro a60 F60
          refine op_kq F60 ?_; intro a61 F61
          refine op_kq F61 ?_; intro a62 F62
          refine op_kq F62 ?_; intro a63 F63
          refine op_kq F63 ?_; intro a64 F64
          refine op_kq F64 ?_; intro a65 F65
          refine op_q F65 (.bool true) ?_; intro a66 F66
          refine wpList_nil ?_
          refine hK25 _ _ ?_; clear hK25 K25
          refine wp_cond_true (F66.ev (by kernel_rfl)) ?_
          refine wp_seq_k fun K67 hK67 => ?_
          refine wp_region_lit ?_
          refine op_q F66 (.bool false) ?_; intro a68 F68
          refine wpList_nil ?_
          refine hK67 _ _ ?_; clear hK67 K67
          refine wp_ret ?_
          refine ret_then ?_
          refine ret_in ?_
          refine ret_then ?_
          refine ret_then ?_
          refine ret_in ?_
          refine ret_then ?_
          refine (F68.res1 rfl (v := .bool false) (by kernel_rfl) ?_).1
          exact ⟨(ret_bool (hp_no hps hlt_k (okN_no (Or.inl (emp_sz hc54)))).symm), S13.drop⟩
        · have hpp := emp_pos hc54
          have F69 := F53.sb 20 (by kernel_rfl) hc54
          have F70 := F69.sb 21 (by kernel_rfl) hc54
          have F71 := F70.sb 22 (by kernel_rfl) hc54
          refine op_wq F71 ?_
          refine op_q F71 (.string ps[k]) ?_; intro a72 F72
          refine op_wq F72 ?_
          refine op_q F72 (.int .i64 (↑ps[k].size)) ?_; intro a73 F73
          refine op_wq F73 ?_
          refine op_q F73 (.bool (decide ((1 : Int) < ↑ps[k].size))) ?_; intro a74 F74
          refine op_wq F74 ?_
          refine op_q F74 (.bool (decide ((1 : Int) < ↑ps[k].size))) ?_; intro a75 F75
          rcases btf (decide ((1 : Int) < ↑ps[k].size)) with hc76 | hc76
          · have hc76p := of_decide_eq_true hc76
            have F77 := F75.sb 25 (by kernel_rfl) hc76
            have F78 := F77.sb 26 (by kernel_rfl) hc76
            refine op_wq F78 ?_
            refine op_q F78 (.string ps[k]) ?_; intro a79 F79
            refine op_wq F79 ?_
            refine op_rq (v := .int .u8 (↑ps[k][0].toNat)) F79 (r_index rfl Try.underlying9 (F79.e (.string ps[k])) (F79.e (.int .i64 0)) 0 (by first | rfl | omega | simp) (by first | omega | (simp; done) | (simp; omega))) ?_; intro a80 F80
            refine op_wq F80 ?_
            refine op_q F80 (.bool ((↑ps[k][0].toNat : Int) == 48)) ?_; intro a81 F81
            refine op_wq F81 ?_
            refine op_q F81 (.bool ((↑ps[k][0].toNat : Int) == 48)) ?_; intro a82 F82
            refine op_q F82 (.bool ((↑ps[k][0].toNat : Int) == 48)) ?_; intro a83 F83
            refine wpList_nil ?_
            refine hK25 _ _ ?_; clear hK25 K25
            rcases btf ((↑ps[k][0].toNat : Int) == 48) with hc84 | hc84
            · have hc84p := eq_of_beq hc84
              have F85 := F83.sb 29 (by kernel_rfl) hc84
              have F86 := F85.sb 30 (by kernel_rfl) hc84
              have F87 := F86.sb 31 (by kernel_rfl) hc84
              refine wp_cond_true (F87.ev (by kernel_rfl)) ?_
              refine wp_seq_k fun K88 hK88 => ?_
              refine wp_region_lit ?_
              refine op_q F87 (.bool false) ?_; intro a89 F89
              refine wpList_nil ?_
              refine hK88 _ _ ?_; clear hK88 K88
              refine wp_ret ?_
              refine ret_then ?_
              refine ret_in ?_
              refine ret_then ?_
              refine ret_then ?_
              refine ret_in ?_
              refine ret_then ?_
              refine (F89.res1 rfl (v := .bool false) (by kernel_rfl) ?_).1
              exact ⟨(ret_bool (hp_no hps hlt_k (okN_zero (by omega) (by omega))).symm), S13.drop⟩
            · have hc84p := ne_of_beq_false hc84
              have F90 := F83.sb 29 (by kernel_rfl) hc84
              have F91 := F90.sb 30 (by kernel_rfl) hc84
              have F92 := F91.sb 31 (by kernel_rfl) hc84
              refine wp_cond_false (F92.ev (by kernel_rfl)) ?_
              refine wp_skip ?_
              exact hK24 _ _ ⟨(F92.kk 3 (F92.kk 5 (F92.kk 9 (F92.kk 10 (F92.kk 11 F92.nil))))), S13, (Or.inr ⟨hpp, by omega⟩), (by first | omega | (with_reducible assumption) | (simp; done)), (by first | omega | (with_reducible assumption) | (simp; done))⟩
          · have hc76p := of_decide_eq_false hc76
            have F93 := F75.sb 25 (by kernel_rfl) hc76
            have F94 := F93.sb 26 (by kernel_rfl) hc76
            refine op_kq F94 ?_; intro a95 F95
            refine op_kq F95 ?_; intro a96 F96
            refine op_kq F96 ?_; intro a97 F97
            refine op_wq F97 ?_
            refine op_q F97 (.bool false) ?_; intro a98 F98
            refine op_q F98 (.bool false) ?_; intro a99 F99
            refine wpList_nil ?_
            refine hK25 _ _ ?_; clear hK25 K25
            refine wp_cond_false (F99.ev (by kernel_rfl)) ?_
            refine wp_skip ?_
            exact hK24 _ _ ⟨(F99.kk 3 (F99.kk 5 (F99.kk 9 (F99.kk 10 (F99.kk 11 F99.nil))))), S13, (Or.inl (by omega)), (by first | omega | (with_reducible assumption) | (simp; done)), (by first | omega | (with_reducible assumption) | (simp; done))⟩
    · rintro a100 w100 ⟨F100, S100, hzz, hpp, hp9⟩
      refine wp_seq_k fun K101 hK101 => ?_
      refine wp_region_lit ?_
      refine op_q F100 (.string ps[k]) ?_; intro a102 F102
      refine op_q F102 (.int .i64 (↑ps[k].size)) ?_; intro a103 F103
      refine op_q F103 (.int .i64 0) ?_; intro a104 F104
      refine wpList_nil ?_
      refine hK101 _ _ ?_; clear hK101 K101
      refine wp_block ?_
      refine fw_loop (fun m' a' w' => ∃ i : Nat, ps[k].size - i = m' ∧ Fr 52 [] a' [(3, .slice A5 (ps.length) c5), (5, .string ps[k]), (9, .slice A5 (ps.length) c5), (10, .int .i64 (↑ps.length)), (11, .int .i64 (↑k)), (33, .int .i64 (↑ps[k].size)), (34, .int .i64 (↑i))] ∧ Sp R w' (SA.own (.slice A5 ps.length c5) 9 1 ps.length (strs ps) :: L) ∧ (i ≤ ps[k].size) ∧ (∀ j, ∀ h : j < ps[k].size, j < i → 48 ≤ ps[k][j].toNat ∧ ps[k][j].toNat ≤ 57)) _ ⟨0, rfl, (F104.kk 3 (F104.kk 5 (F104.kk 9 (F104.kk 10 (F104.kk 11 (F104.kk 33 (F104.kk 34 F104.nil))))))), S100, (by first | omega | (with_reducible assumption) | (simp; done)), (fun j _ h => absurd h (Nat.not_lt_zero _))⟩ ?_
      rintro m105 a105 w105 ⟨i, hm105, F105, S105, hi, hdg⟩ K105 hK105
      by_cases hlt_i : i < ps[k].size
      · have hc_i : decide ((↑i : Int) < ↑ps[k].size) = true := by first | (simp; done) | (simp; omega)
        refine wp_seq_k fun K106 hK106 => ?_
        refine wp_region_lit ?_
        refine op_q F105 (.bool (decide ((↑i : Int) < ↑ps[k].size))) ?_; intro a107 F107
        have F108 := F107.sb 35 (by kernel_rfl) hc_i
        refine wpList_nil ?_
        refine hK106 _ _ ?_; clear hK106 K106
        refine wp_seq_k fun K109 hK109 => ?_
        refine wp_cond_true (F108.ev (by kernel_rfl)) ?_
        refine wp_skip ?_
        refine hK109 _ _ ?_; clear hK109 K109
        refine wp_seq_k fun K110 hK110 => ?_
        refine wp_block ?_
        refine wp_seq_k fun K111 hK111 => ?_
        refine wp_region_lit ?_
        refine op_q F108 (.int .i64 (↑i)) ?_; intro a112 F112
        refine op_q F112 (.int .i64 (↑i)) ?_; intro a113 F113
        refine wpList_nil ?_
        refine hK111 _ _ ?_; clear hK111 K111
        refine wp_seq_k fun K114 hK114 => ?_
        refine wp_region_lit ?_
        refine op_q F113 (.string ps[k]) ?_; intro a115 F115
        refine op_q F115 (.int .i64 (↑i)) ?_; intro a116 F116
        refine op_rq (v := .int .u8 (↑ps[k][i].toNat)) F116 (r_index rfl Try.underlying9 (F116.e (.string ps[k])) (F116.e (.int .i64 (↑i))) i (by first | rfl | omega | simp) (by first | omega | (simp; done) | (simp; omega))) ?_; intro a117 F117
        refine op_q F117 (.bool (decide ((↑ps[k][i].toNat : Int) < 48))) ?_; intro a118 F118
        refine op_q F118 (.bool (decide ((↑ps[k][i].toNat : Int) < 48))) ?_; intro a119 F119
        rcases btf (decide ((↑ps[k][i].toNat : Int) < 48)) with hc120 | hc120
        · have hc120p := of_decide_eq_true hc120
          have F121 := F119.sb 40 (by kernel_rfl) hc120
          have F122 := F121.sb 41 (by kernel_rfl) hc120
          refine op_kq F122 ?_; intro a123 F123
          refine op_kq F123 ?_; intro a124 F124
          refine op_kq F124 ?_; intro a125 F125
          refine op_kq F125 ?_; intro a126 F126
          refine op_q F126 (.bool true) ?_; intro a127 F127
          refine wpList_nil ?_
          refine hK114 _ _ ?_; clear hK114 K114
          refine wp_cond_true (F127.ev (by kernel_rfl)) ?_
          refine wp_seq_k fun K128 hK128 => ?_
          refine wp_region_lit ?_
          refine op_q F127 (.bool false) ?_; intro a129 F129
          refine wpList_nil ?_
          refine hK128 _ _ ?_; clear hK128 K128
          refine wp_ret ?_
          refine ret_in ?_
          refine ret_then ?_
          refine ret_then ?_
          refine ret_in ?_
          refine ret_in ?_
          refine ret_then ?_
          refine ret_then ?_
          refine ret_in ?_
          refine ret_then ?_
          refine (F129.res1 rfl (v := .bool false) (by kernel_rfl) ?_).1
          exact ⟨(ret_bool (hp_no hps hlt_k (okN_dig hlt_i (by omega))).symm), S105.drop⟩
        · have hc120p := of_decide_eq_false hc120
          have F130 := F119.sb 40 (by kernel_rfl) hc120
          have F131 := F130.sb 41 (by kernel_rfl) hc120
          refine op_wq F131 ?_
          refine op_q F131 (.string ps[k]) ?_; intro a132 F132
          refine op_wq F132 ?_
          refine op_q F132 (.int .i64 (↑i)) ?_; intro a133 F133
          refine op_wq F133 ?_
          refine op_rq (v := .int .u8 (↑ps[k][i].toNat)) F133 (r_index rfl Try.underlying9 (F133.e (.string ps[k])) (F133.e (.int .i64 (↑i))) i (by first | rfl | omega | simp) (by first | omega | (simp; done) | (simp; omega))) ?_; intro a134 F134
          refine op_wq F134 ?_
          refine op_q F134 (.bool (decide ((57 : Int) < ↑ps[k][i].toNat))) ?_; intro a135 F135
          refine op_q F135 (.bool (decide ((57 : Int) < ↑ps[k][i].toNat))) ?_; intro a136 F136
          refine wpList_nil ?_
          refine hK114 _ _ ?_; clear hK114 K114
          rcases btf (decide ((57 : Int) < ↑ps[k][i].toNat)) with hc137 | hc137
          · have hc137p := of_decide_eq_true hc137
            have F138 := F136.sb 45 (by kernel_rfl) hc137
            have F139 := F138.sb 46 (by kernel_rfl) hc137
            refine wp_cond_true (F139.ev (by kernel_rfl)) ?_
            refine wp_seq_k fun K140 hK140 => ?_
            refine wp_region_lit ?_
            refine op_q F139 (.bool false) ?_; intro a141 F141
            refine wpList_nil ?_
            refine hK140 _ _ ?_; clear hK140 K140
            refine wp_ret ?_
            refine ret_in ?_
            refine ret_then ?_
            refine ret_then ?_
            refine ret_in ?_
            refine ret_in ?_
            refine ret_then ?_
            refine ret_then ?_
            refine ret_in ?_
            refine ret_then ?_
            refine (F141.res1 rfl (v := .bool false) (by kernel_rfl) ?_).1
            exact ⟨(ret_bool (hp_no hps hlt_k (okN_dig hlt_i (by omega))).symm), S105.drop⟩
          · have hc137p := of_decide_eq_false hc137
            have F142 := F136.sb 45 (by kernel_rfl) hc137
            have F143 := F142.sb 46 (by kernel_rfl) hc137
            refine wp_cond_false (F143.ev (by kernel_rfl)) ?_
            refine wp_skip ?_
            refine hK110 _ _ ?_; clear hK110 K110
            refine wp_region_lit ?_
            refine op_rq (v := .int .i64 (↑(i + 1))) F143 (r_add (z := ↑(i + 1)) rfl (F143.e (.int .i64 (↑i))) (F143.e (.int .i64 1)) (wr64 (by omega) (by omega) (by omega))) ?_; intro a144 F144
            refine op_q F144 (.int .i64 (↑(i + 1))) ?_; intro a145 F145
            refine wpList_nil ?_
            exact hK105 _ _ _ (by first | omega | (simp; omega)) ⟨i + 1, rfl, (F145.kk 3 (F145.kk 5 (F145.kk 9 (F145.kk 10 (F145.kk 11 (F145.kk 33 (F145.kk 34 F145.nil))))))), S105, (by first | omega | (with_reducible assumption) | (simp; done)), (fun j hj h => (Nat.lt_succ_iff_lt_or_eq.1 h).elim (hdg j hj) (fun e => by subst e; omega))⟩
      · have hc_i : decide ((↑i : Int) < ↑ps[k].size) = false := by first | (simp; done) | (simp; omega)
        have okd : okN ps[k] = true := okN_yes hpp (by omega) hzz (fun j hj => hdg j hj (by omega))
        refine wp_seq_k fun K146 hK146 => ?_
        refine wp_region_lit ?_
        refine op_q F105 (.bool (decide ((↑i : Int) < ↑ps[k].size))) ?_; intro a147 F147
        have F148 := F147.sb 35 (by kernel_rfl) hc_i
        refine wpList_nil ?_
        refine hK146 _ _ ?_; clear hK146 K146
        refine wp_seq_k fun K149 hK149 => ?_
        refine wp_cond_false (F148.ev (by kernel_rfl)) ?_
        refine wp_exit ?_
        refine ex_then ?_; clear hK149 K149
        refine ex_then ?_
        refine ex_in ?_
        refine hK19 _ _ ?_; clear hK19 K19
        refine wp_region_lit ?_
        refine op_rq (v := .int .i64 (↑(k + 1))) F148 (r_add (z := ↑(k + 1)) rfl (F148.e (.int .i64 (↑k))) (F148.e (.int .i64 1)) (wr64 (by omega) (by omega) (by omega))) ?_; intro a150 F150
        refine op_q F150 (.int .i64 (↑(k + 1))) ?_; intro a151 F151
        refine wpList_nil ?_
        exact hK13 _ _ _ (by first | omega | (simp; omega)) ⟨k + 1, rfl, (F151.kk 3 (F151.kk 9 (F151.kk 10 (F151.kk 11 F151.nil)))), S105, (by first | omega | (with_reducible assumption) | (simp; done)), (fun j hj h => (Nat.lt_succ_iff_lt_or_eq.1 h).elim (hok j hj) (fun e => by subst e; exact okd))⟩
  · have hc_k : decide ((↑k : Int) < ↑ps.length) = false := by first | (simp; done) | (simp; omega)
    refine wp_seq_k fun K152 hK152 => ?_
    refine wp_region_lit ?_
    refine op_q F13 (.bool (decide ((↑k : Int) < ↑ps.length))) ?_; intro a153 F153
    have F154 := F153.sb 12 (by kernel_rfl) hc_k
    refine wpList_nil ?_
    refine hK152 _ _ ?_; clear hK152 K152
    refine wp_seq_k fun K155 hK155 => ?_
    refine wp_cond_false (F154.ev (by kernel_rfl)) ?_
    refine wp_exit ?_
    refine ex_then ?_; clear hK155 K155
    refine ex_then ?_
    refine ex_in ?_
    refine hK8 _ _ ?_; clear hK8 K8
    refine wp_seq_k fun K156 hK156 => ?_
    refine wp_region_lit ?_
    refine op_q F154 (.slice A5 (ps.length) c5) ?_; intro a157 F157
    refine op_q F157 (.int .i64 (↑ps.length)) ?_; intro a158 F158
    refine op_q F158 (.bool ((↑ps.length : Int) == 3)) ?_; intro a159 F159
    refine op_q F159 (.bool ((↑ps.length : Int) == 3)) ?_; intro a160 F160
    refine wpList_nil ?_
    refine hK156 _ _ ?_; clear hK156 K156
    refine wp_ret ?_
    refine (F160.res1 rfl (v := .bool ((↑ps.length : Int) == 3)) (by kernel_rfl) ?_).1
    exact ⟨(ret_bool (hp_end hps (by omega) hok).symm), S13.drop⟩
set_option maxRecDepth 100000 in
set_option maxHeartbeats 20000000 in
theorem hlWord_any (s : ByteArray) (R : Ctx) (L : List SA) (w : World) (S : Sp R w (L))  (hz : s.size ≤ 4000000000) :
    Calls Try.prog 39 #[.string s] w fun e w' => e = .returned (.bool (wB s)) ∧ Sp R w' (L) := by
  refine fw_enter (fn := Try.f39) rfl rfl 22 rfl (Nat.le_of_ble_eq_true rfl) ?_
  intro a0 F0
  refine wp_seq_k fun K1 hK1 => ?_
  refine wp_region_lit ?_
  refine op_q F0 (.bool false) ?_; intro a2 F2
  refine wpList_nil ?_
  refine hK1 _ _ ?_; clear hK1 K1
  refine wp_seq_k fun K3 hK3 => ?_
  refine wp_seq_k fun K4 hK4 => ?_
  refine wp_region_lit ?_
  refine op_q F2 (.string s) ?_; intro a5 F5
  refine op_q F5 (.int .i64 (↑s.size)) ?_; intro a6 F6
  refine op_q F6 (.int .i64 0) ?_; intro a7 F7
  refine wpList_nil ?_
  refine hK4 _ _ ?_; clear hK4 K4
  refine wp_block ?_
  refine fw_loop (fun m' a' w' => ∃ i : Nat, s.size - i = m' ∧ Fr 22 [] a' [(0, .string s), (5, .int .i64 (↑s.size)), (6, .int .i64 (↑i))] ∧ Sp R w' (L) ∧ (i ≤ s.size) ∧ (∀ j, ∀ hj : j < s.size, j < i → 119 ≤ s[j].toNat ∧ s[j].toNat ≤ 122)) _ ⟨0, rfl, (F7.kk 0 (F7.kk 5 (F7.kk 6 F7.nil))), S, (by first | omega | (with_reducible assumption) | (simp; done)), (fun j _ hj => absurd hj (Nat.not_lt_zero _))⟩ ?_
  rintro m8 a8 w8 ⟨i, hm8, F8, S8, hi, hsm⟩ K8 hK8
  by_cases hlt_i : i < s.size
  · have hc_i : decide ((↑i : Int) < ↑s.size) = true := by first | (simp; done) | (simp; omega)
    refine wp_seq_k fun K9 hK9 => ?_
    refine wp_region_lit ?_
    refine op_q F8 (.bool (decide ((↑i : Int) < ↑s.size))) ?_; intro a10 F10
    have F11 := F10.sb 7 (by kernel_rfl) hc_i
    refine wpList_nil ?_
    refine hK9 _ _ ?_; clear hK9 K9
    refine wp_seq_k fun K12 hK12 => ?_
    refine wp_cond_true (F11.ev (by kernel_rfl)) ?_
    refine wp_skip ?_
    refine hK12 _ _ ?_; clear hK12 K12
    refine wp_seq_k fun K13 hK13 => ?_
    refine wp_block ?_
    refine wp_seq_k fun K14 hK14 => ?_
    refine wp_region_lit ?_
    refine op_q F11 (.int .i64 (↑i)) ?_; intro a15 F15
    refine op_q F15 (.int .i64 (↑i)) ?_; intro a16 F16
    refine wpList_nil ?_
    refine hK14 _ _ ?_; clear hK14 K14
    refine wp_seq_k fun K17 hK17 => ?_
    refine wp_region_lit ?_
    refine op_q F16 (.string s) ?_; intro a18 F18
    refine op_q F18 (.int .i64 (↑i)) ?_; intro a19 F19
    refine op_rq (v := .int .u8 (↑s[i].toNat)) F19 (r_index rfl Try.underlying9 (F19.e (.string s)) (F19.e (.int .i64 (↑i))) i (by first | rfl | omega | simp) (by first | omega | (simp; done) | (simp; omega))) ?_; intro a20 F20
    refine op_q F20 (.bool (decide ((↑s[i].toNat : Int) < 119))) ?_; intro a21 F21
    refine op_q F21 (.bool (decide ((↑s[i].toNat : Int) < 119))) ?_; intro a22 F22
    rcases btf (decide ((↑s[i].toNat : Int) < 119)) with hc23 | hc23
    · have hc23p := of_decide_eq_true hc23
      have F24 := F22.sb 12 (by kernel_rfl) hc23
      have F25 := F24.sb 13 (by kernel_rfl) hc23
      refine op_kq F25 ?_; intro a26 F26
      refine op_kq F26 ?_; intro a27 F27
      refine op_kq F27 ?_; intro a28 F28
      refine op_kq F28 ?_; intro a29 F29
      refine op_q F29 (.bool true) ?_; intro a30 F30
      refine wpList_nil ?_
      refine hK17 _ _ ?_; clear hK17 K17
      refine wp_cond_true (F30.ev (by kernel_rfl)) ?_
      refine wp_seq_k fun K31 hK31 => ?_
      refine wp_region_lit ?_
      refine op_q F30 (.bool false) ?_; intro a32 F32
      refine wpList_nil ?_
      refine hK31 _ _ ?_; clear hK31 K31
      refine wp_ret ?_
      refine ret_in ?_
      refine ret_then ?_
      refine ret_then ?_
      refine ret_in ?_
      refine ret_then ?_
      refine (F32.res1 rfl (v := .bool false) (by kernel_rfl) ?_).1
      exact ⟨(ret_bool (wB_no hlt_i (by omega)).symm), S8⟩
    · have hc23p := of_decide_eq_false hc23
      have F33 := F22.sb 12 (by kernel_rfl) hc23
      have F34 := F33.sb 13 (by kernel_rfl) hc23
      refine op_wq F34 ?_
      refine op_q F34 (.string s) ?_; intro a35 F35
      refine op_wq F35 ?_
      refine op_q F35 (.int .i64 (↑i)) ?_; intro a36 F36
      refine op_wq F36 ?_
      refine op_rq (v := .int .u8 (↑s[i].toNat)) F36 (r_index rfl Try.underlying9 (F36.e (.string s)) (F36.e (.int .i64 (↑i))) i (by first | rfl | omega | simp) (by first | omega | (simp; done) | (simp; omega))) ?_; intro a37 F37
      refine op_wq F37 ?_
      refine op_q F37 (.bool (decide ((122 : Int) < ↑s[i].toNat))) ?_; intro a38 F38
      refine op_q F38 (.bool (decide ((122 : Int) < ↑s[i].toNat))) ?_; intro a39 F39
      refine wpList_nil ?_
      refine hK17 _ _ ?_; clear hK17 K17
      rcases btf (decide ((122 : Int) < ↑s[i].toNat)) with hc40 | hc40
      · have hc40p := of_decide_eq_true hc40
        have F41 := F39.sb 17 (by kernel_rfl) hc40
        have F42 := F41.sb 18 (by kernel_rfl) hc40
        refine wp_cond_true (F42.ev (by kernel_rfl)) ?_
        refine wp_seq_k fun K43 hK43 => ?_
        refine wp_region_lit ?_
        refine op_q F42 (.bool false) ?_; intro a44 F44
        refine wpList_nil ?_
        refine hK43 _ _ ?_; clear hK43 K43
        refine wp_ret ?_
        refine ret_in ?_
        refine ret_then ?_
        refine ret_then ?_
        refine ret_in ?_
        refine ret_then ?_
        refine (F44.res1 rfl (v := .bool false) (by kernel_rfl) ?_).1
        exact ⟨(ret_bool (wB_no hlt_i (by omega)).symm), S8⟩
      · have hc40p := of_decide_eq_false hc40
        have F45 := F39.sb 17 (by kernel_rfl) hc40
        have F46 := F45.sb 18 (by kernel_rfl) hc40
        refine wp_cond_false (F46.ev (by kernel_rfl)) ?_
        refine wp_skip ?_
        refine hK13 _ _ ?_; clear hK13 K13
        refine wp_region_lit ?_
        refine op_rq (v := .int .i64 (↑(i + 1))) F46 (r_add (z := ↑(i + 1)) rfl (F46.e (.int .i64 (↑i))) (F46.e (.int .i64 1)) (wr64 (by omega) (by omega) (by omega))) ?_; intro a47 F47
        refine op_q F47 (.int .i64 (↑(i + 1))) ?_; intro a48 F48
        refine wpList_nil ?_
        exact hK8 _ _ _ (by first | omega | (simp; omega)) ⟨i + 1, rfl, (F48.kk 0 (F48.kk 5 (F48.kk 6 F48.nil))), S8, (by first | omega | (with_reducible assumption) | (simp; done)), (fun j hj h => (Nat.lt_succ_iff_lt_or_eq.1 h).elim (hsm j hj) (fun e => by subst e; omega))⟩
  · have hc_i : decide ((↑i : Int) < ↑s.size) = false := by first | (simp; done) | (simp; omega)
    obtain rfl : i = s.size := by omega
    refine wp_seq_k fun K49 hK49 => ?_
    refine wp_region_lit ?_
    refine op_q F8 (.bool (decide ((↑s.size : Int) < ↑s.size))) ?_; intro a50 F50
    have F51 := F50.sb 7 (by kernel_rfl) hc_i
    refine wpList_nil ?_
    refine hK49 _ _ ?_; clear hK49 K49
    refine wp_seq_k fun K52 hK52 => ?_
    refine wp_cond_false (F51.ev (by kernel_rfl)) ?_
    refine wp_exit ?_
    refine ex_then ?_; clear hK52 K52
    refine ex_then ?_
    refine ex_in ?_
    refine hK3 _ _ ?_; clear hK3 K3
    refine wp_seq_k fun K53 hK53 => ?_
    refine wp_region_lit ?_
    refine op_q F51 (.string s) ?_; intro a54 F54
    refine op_q F54 (.bool (!(s.toList == (⟨#[]⟩ : ByteArray).toList))) ?_; intro a55 F55
    refine op_q F55 (.bool (!(s.toList == (⟨#[]⟩ : ByteArray).toList))) ?_; intro a56 F56
    refine wpList_nil ?_
    refine hK53 _ _ ?_; clear hK53 K53
    refine wp_ret ?_
    refine (F56.res1 rfl (v := .bool (!(s.toList == (⟨#[]⟩ : ByteArray).toList))) (by kernel_rfl) ?_).1
    exact ⟨(ret_bool (wB_yes (Nat.le_refl _) (fun j hj _ => hsm j hj (by omega))).symm), S8⟩
end Go.Proofs.Ytkjcedlgljeoiaa

