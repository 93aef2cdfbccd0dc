/- Texts Me1, Me2, Me3, Me4, P3, P4, P5, N0, A0, laid together. -/
import Derived.WalkKit
import Derived.WalkLawsBesides
import Derived.WalkSpells
import Derived.Lib.Hide
import Derived.Deep.RegionWith
import Derived.Deep.DeepCutAuto
import Derived.Deep.QuietTactic
import Derived.BigQuiet
import Derived.Laws.OwnMore
import Derived.Deep.LoopGhost
import Derived.KernelRfl
import Derived.Deep.WholeRow
import Derived.StillTail
import Derived.SliceStrings
import Derived.Deep.Slices
import Derived.Deep.Fields
import Derived.ChangeSame
import Derived.Deep.MidRow
import Derived.Maps.AppendAt
import Derived.Lib.AppendStr
import Derived.Lib.ConvBytes
import Derived.Laws.BytesArg
import Derived.Deep.RegionLaw
import Derived.OwnWalk
import Derived.Maps.OwnSet
import Derived.Maps.OwnOps
import Derived.ArgAppend
import Derived.Defers
import Derived.Recover
import Derived.Laws.Pointers
import Derived.Laws.StructEq
import Derived.IntWalk
import Derived.Test.YtkjcedlgljeoiaaProg
import Derived.BigRegion
import Derived.Deep.CutBlock
import Derived.Carry
import Derived.Test.YtkjcedlgljeoiaaIGa
/- Metadata of charts in memory: maintainers, dependencies; impl.personOf, dependencyOf, metaFits, metaOf. -/
namespace Go.Proofs.Ytkjcedlgljeoiaa
open Go.RowKit Go.Lib
set_option linter.unusedVariables false
set_option linter.unusedSimpArgs false
def SA.per (q : Option Addr) (p : Ty78) : SA := cond p.fNil (SA.pure (q = none)) (SA.ex fun g : Nat => SA.star (SA.pure (q = some ⟨g, 0, none⟩)) (SA.blk g 270 #[.string p.fName, .string p.fEmail, .string p.fURL]))
def SA.dep (q : Option Addr) (d : Ty80) : SA := cond d.fNil (SA.pure (q = none)) (SA.ex fun g : Nat => SA.ex fun A : Option Addr => SA.ex fun c : Nat => SA.star (SA.pure (q = some ⟨g, 0, none⟩)) (SA.star (SA.blk g 262 #[.string d.fName, .string d.fVersion, .string d.fRepository, .string d.fCondition, .slice A d.fTags.length c, .bool false, .slice none 0 0, .string d.fAlias]) (SA.own0 (.slice A d.fTags.length c) 9 1 d.fTags.length (strs d.fTags))))
section
variable {R : Ctx} {w : World} {L : List SA} {q : Option Addr} {p : Ty78} {d : Ty80} {g c : Nat} {A : Option Addr}
theorem Sp.per_nil (h : p.fNil = true) (S : Sp R w L) : Sp R w (SA.per none p :: L) := by
  unfold SA.per; rw [h]; exact Sp.pure.2 ⟨rfl, S⟩
theorem Sp.per_some (h : p.fNil = false) (S : Sp R w (SA.blk g 270 #[.string p.fName, .string p.fEmail, .string p.fURL] :: L)) : Sp R w (SA.per (some ⟨g, 0, none⟩) p :: L) := by
  unfold SA.per; rw [h]; exact Sp.ex.2 ⟨g, Sp.star.2 (Sp.pure.2 ⟨rfl, S⟩)⟩
theorem Sp.per_open (S : Sp R w (SA.per q p :: L)) : (p.fNil = true ∧ q = none ∧ Sp R w L) ∨ (p.fNil = false ∧ ∃ g, q = some ⟨g, 0, none⟩ ∧ Sp R w (SA.blk g 270 #[.string p.fName, .string p.fEmail, .string p.fURL] :: L)) := by
  unfold SA.per at S
  cases h : p.fNil with
  | true => rw [h] at S; exact .inl ⟨rfl, Sp.pure.1 S⟩
  | false =>
    rw [h] at S
    obtain ⟨g, S⟩ := Sp.ex.1 S
    exact .inr ⟨rfl, g, Sp.pure.1 (Sp.star.1 S)⟩
theorem Sp.dep_nil (h : d.fNil = true) (S : Sp R w L) : Sp R w (SA.dep none d :: L) := by
  unfold SA.dep; rw [h]; exact Sp.pure.2 ⟨rfl, S⟩
theorem Sp.dep_some (h : d.fNil = false) (S : Sp R w (SA.blk g 262 #[.string d.fName, .string d.fVersion, .string d.fRepository, .string d.fCondition, .slice A d.fTags.length c, .bool false, .slice none 0 0, .string d.fAlias] :: SA.own0 (.slice A d.fTags.length c) 9 1 d.fTags.length (strs d.fTags) :: L)) : Sp R w (SA.dep (some ⟨g, 0, none⟩) d :: L) := by
  unfold SA.dep; rw [h]; exact Sp.ex.2 ⟨g, Sp.ex.2 ⟨A, Sp.ex.2 ⟨c, Sp.star.2 (Sp.pure.2 ⟨rfl, Sp.star.2 S⟩)⟩⟩⟩
theorem Sp.dep_open (S : Sp R w (SA.dep q d :: L)) : (d.fNil = true ∧ q = none ∧ Sp R w L) ∨ (d.fNil = false ∧ ∃ g A c, q = some ⟨g, 0, none⟩ ∧ Sp R w (SA.blk g 262 #[.string d.fName, .string d.fVersion, .string d.fRepository, .string d.fCondition, .slice A d.fTags.length c, .bool false, .slice none 0 0, .string d.fAlias] :: SA.own0 (.slice A d.fTags.length c) 9 1 d.fTags.length (strs d.fTags) :: L)) := by
  unfold SA.dep at S
  cases h : d.fNil with
  | true => rw [h] at S; exact .inl ⟨rfl, Sp.pure.1 S⟩
  | false =>
    rw [h] at S
    obtain ⟨g, S⟩ := Sp.ex.1 S
    obtain ⟨A, S⟩ := Sp.ex.1 S
    obtain ⟨c, S⟩ := Sp.ex.1 S
    have S := Sp.pure.1 (Sp.star.1 S)
    exact .inr ⟨rfl, g, A, c, S.1, Sp.star.1 S.2⟩
end
def mfitsB (m : Ty26) : Bool := decide ((m.fSources.length : Int) ≤ 200) && (decide ((m.fKeywords.length : Int) ≤ 200) && (decide ((m.fMaintainers.length : Int) ≤ 200) && decide ((m.fDependencies.length : Int) ≤ 200)))
theorem mfits_len {m : Ty26} (h : mfitsB m = true) : m.fSources.length ≤ 200 ∧ m.fKeywords.length ≤ 200 ∧ m.fMaintainers.length ≤ 200 ∧ m.fDependencies.length ≤ 200 := by
  simp only [mfitsB, Bool.and_eq_true, decide_eq_true_eq] at h
  omega
set_option maxRecDepth 100000 in
set_option maxHeartbeats 20000000 in
theorem personOf_sp (p : Ty78) (R : Ctx) (L : List SA) (w : World) (S : Sp R w (L))   :
    Calls Try.prog 160 #[.agg #[.bool p.fNil, .string p.fName, .string p.fEmail, .string p.fURL]] w fun e w' => ∃ q : Option Addr, e = .returned (.pointer q) ∧ Sp R w' (SA.per q p :: L) := by
  refine fw_enter (fn := Try.f160) rfl rfl 13 rfl (Nat.le_of_ble_eq_true rfl) ?_
  intro a0 F0
  refine wp_seq_k fun K1 hK1 => ?_
  refine wp_region_lit ?_
  refine op_sq F0 (s_newp F0 78 #[.bool p.fNil, .string p.fName, .string p.fEmail, .string p.fURL] (by kernel_rfl) (by kernel_rfl) (by kernel_rfl) S) ?_
  rintro _ _ w3 ⟨g1, rfl, rfl⟩ S3 a3 F3
  refine op_q F3 (.pointer none) ?_; intro a4 F4
  refine wpList_nil ?_
  refine hK1 _ _ ?_; clear hK1 K1
  refine wp_seq_k fun K5 hK5 => ?_
  refine wp_seq_k fun K6 hK6 => ?_
  refine wp_region_lit ?_
  refine op_q F4 (.pointer (some ⟨g1, 0, none⟩)) ?_; intro a7 F7
  refine op_rq (v := .bool p.fNil) F7 (r_ld rfl (F7.e (.pointer (some ⟨g1, 0, none⟩))) (v := .bool p.fNil) ((S3.bk 0 rfl).cell 0) Try.underlying4 rfl) ?_; intro a8 F8
  refine wpList_nil ?_
  refine hK6 _ _ ?_; clear hK6 K6
  rcases btf (p.fNil) with hc9 | hc9
  · have F10 := F8.sb 4 (by kernel_rfl) hc9
    refine wp_cond_true (F10.ev (by kernel_rfl)) ?_
    refine wp_seq_k fun K11 hK11 => ?_
    refine wp_region_lit ?_
    refine op_q F10 (.pointer none) ?_; intro a12 F12
    refine wpList_nil ?_
    refine hK11 _ _ ?_; clear hK11 K11
    refine wp_ret ?_
    refine ret_then ?_
    have S13 : Sp R w3 (SA.per none p :: SA.blk g1 78 #[.bool p.fNil, .string p.fName, .string p.fEmail, .string p.fURL] :: L) := Sp.per_nil hc9 S3
    refine (F12.res1 rfl (v := .pointer none) (by kernel_rfl) ?_).1
    exact ⟨none, rfl, S13.p1.drop⟩
  · have F14 := F8.sb 4 (by kernel_rfl) hc9
    refine wp_cond_false (F14.ev (by kernel_rfl)) ?_
    refine wp_skip ?_
    refine hK5 _ _ ?_; clear hK5 K5
    refine wp_seq_k fun K15 hK15 => ?_
    refine wp_region_lit ?_
    refine op_q F14 (.pointer (some ⟨g1, 1, none⟩)) ?_; intro a16 F16
    refine op_rq (v := .string p.fName) F16 (r_ld rfl (F16.e (.pointer (some ⟨g1, 1, none⟩))) (v := .string p.fName) ((S3.bk 0 rfl).cell 1) Try.underlying9 rfl) ?_; intro a17 F17
    refine op_q F17 (.pointer (some ⟨g1, 2, none⟩)) ?_; intro a18 F18
    refine op_rq (v := .string p.fEmail) F18 (r_ld rfl (F18.e (.pointer (some ⟨g1, 2, none⟩))) (v := .string p.fEmail) ((S3.bk 0 rfl).cell 2) Try.underlying9 rfl) ?_; intro a19 F19
    refine op_q F19 (.pointer (some ⟨g1, 3, none⟩)) ?_; intro a20 F20
    refine op_rq (v := .string p.fURL) F20 (r_ld rfl (F20.e (.pointer (some ⟨g1, 3, none⟩))) (v := .string p.fURL) ((S3.bk 0 rfl).cell 3) Try.underlying9 rfl) ?_; intro a21 F21
    refine op_q F21 (.agg #[.string p.fName, .string p.fEmail, .string p.fURL]) ?_; intro a22 F22
    refine op_sq F22 (s_newp F22 270 #[.string p.fName, .string p.fEmail, .string p.fURL] (by kernel_rfl) (by kernel_rfl) (by kernel_rfl) S3) ?_
    rintro _ _ w24 ⟨g22, rfl, rfl⟩ S24 a24 F24
    refine op_q F24 (.pointer (some ⟨g22, 0, none⟩)) ?_; intro a25 F25
    refine wpList_nil ?_
    refine hK15 _ _ ?_; clear hK15 K15
    refine wp_ret ?_
    have S26 : Sp R w24 (SA.per (some ⟨g22, 0, none⟩) p :: SA.blk g1 78 #[.bool p.fNil, .string p.fName, .string p.fEmail, .string p.fURL] :: L) := Sp.per_some hc9 S24
    refine (F25.res1 rfl (v := .pointer (some ⟨g22, 0, none⟩)) (by kernel_rfl) ?_).1
    exact ⟨some ⟨g22, 0, none⟩, rfl, S26.p1.drop⟩
abbrev zq0 (x0 : Ty80) : Array Value := #[.bool x0.fNil, .string x0.fName, .string x0.fVersion, .string x0.fRepository, .string x0.fCondition, .slice (x0.fTags_a) (x0.fTags.length) (x0.fTags_c), .string x0.fAlias]
abbrev zq1 (x0 : Ty80) (x1 : Option Addr) (x2 : Nat) : Array Value := #[.string x0.fName, .string x0.fVersion, .string x0.fRepository, .string x0.fCondition, .slice x1 x0.fTags.length x2, .bool false, .slice none 0 0, .string x0.fAlias]
set_option maxRecDepth 100000 in
set_option maxHeartbeats 20000000 in
theorem dependencyOf_sp (d : Ty80) (R : Ctx) (L : List SA) (w : World) (S : Sp R w (L)) (h0 : Rf R L fun w => Sl w (d.fTags_a) (strs d.fTags)) (hz : d.fTags.length ≤ 1000000) :
  Calls Try.prog 161 #[.agg #[.bool d.fNil, .string d.fName, .string d.fVersion, .string d.fRepository, .string d.fCondition, .slice (d.fTags_a) (d.fTags.length) (d.fTags_c), .string d.fAlias]] w fun e w' => ∃ q : Option Addr, e = .returned (.pointer q) ∧ Sp R w' (SA.dep q d :: L) := by
 have hl_d_fTags : d.fTags.length ≤ 9223372036854775807 := by have := (h0 _ S).1; simpa [strs, ptrs, pps] using this
 refine fw_enter (fn := Try.f161) rfl rfl 21 rfl (Nat.le_of_ble_eq_true rfl) ?_
 intro a0 F0
 refine wp_seq_k fun K1 hK1 => ?_
 refine wp_region_lit ?_
 refine op_sq F0 (s_newp F0 80 (zq0 d) (by kernel_rfl) (by kernel_rfl) (by kernel_rfl) S) ?_
 rintro _ _ w3 ⟨g1, rfl, rfl⟩ S3 a3 F3
 refine op_q F3 (.pointer none) ?_; intro a4 F4
 refine wpList_nil ?_
 refine hK1 _ _ ?_; clear hK1 K1
 refine wp_seq_k fun K5 hK5 => ?_
 refine wp_seq_k fun K6 hK6 => ?_
 refine wp_region_lit ?_
 refine op_q F4 (.pointer (some ⟨g1, 0, none⟩)) ?_; intro a7 F7
 refine op_rq (v := .bool d.fNil) F7 (r_ld rfl (F7.e (.pointer (some ⟨g1, 0, none⟩))) (v := .bool d.fNil) ((S3.bk 0 rfl).cell 0) Try.underlying4 rfl) ?_; intro a8 F8
 refine wpList_nil ?_
 refine hK6 _ _ ?_; clear hK6 K6
 rcases btf (d.fNil) with hc9 | hc9
 ·have F10 := F8.sb 4 (by kernel_rfl) hc9
  refine wp_cond_true (F10.ev (by kernel_rfl)) ?_
  refine wp_seq_k fun K11 hK11 => ?_
  refine wp_region_lit ?_
  refine op_q F10 (.pointer none) ?_; intro a12 F12
  refine wpList_nil ?_
  refine hK11 _ _ ?_; clear hK11 K11
  refine wp_ret ?_
  refine ret_then ?_
  have S13 : Sp R w3 (SA.dep none d :: SA.blk g1 80 (zq0 d) :: L) := Sp.dep_nil hc9 S3
  refine (F12.res1 rfl (v := .pointer none) (by kernel_rfl) ?_).1
  exact ⟨none, rfl, S13.p1.drop⟩
 ·have F14 := F8.sb 4 (by kernel_rfl) hc9
  refine wp_cond_false (F14.ev (by kernel_rfl)) ?_
  refine wp_skip ?_
  refine hK5 _ _ ?_; clear hK5 K5
  refine wp_seq_k fun K15 hK15 => ?_
  refine wp_region_sepF (L0 := SA.blk g1 80 (zq0 d) :: L) [some [], some [(0, 5)], some [], some [(2, 7)], some [], some [(4, 9)], some [], some [(6, 11)], some [], some [], some [(9, 14)], some [(8, 13), (10, 15)], some [], some [(12, 17)], some [(1, 6), (3, 8), (5, 10), (7, 12), (8, 13), (10, 15), (11, 16), (13, 18)], some [(1, 6), (3, 8), (5, 10), (7, 12), (8, 13), (10, 15), (11, 16), (13, 18), (14, 19)], some [(1, 6), (3, 8), (5, 10), (7, 12), (8, 13), (10, 15), (11, 16), (13, 18), (14, 19), (15, 20)]] [.v 5 (.pointer (some ⟨g1, 1, none⟩)), .v 6 (.string d.fName), .v 7 (.pointer (some ⟨g1, 2, none⟩)), .v 8 (.string d.fVersion), .v 9 (.pointer (some ⟨g1, 3, none⟩)), .v 10 (.string d.fRepository), .v 11 (.pointer (some ⟨g1, 4, none⟩)), .v 12 (.string d.fCondition), .p 13 (SA.emp) (fun _ vv AA => ∃ g81 : Nat, vv = .slice (some ⟨g81, 0, none⟩) 0 0 ∧ AA = SA.blk g81 9 #[]), .v 14 (.pointer (some ⟨g1, 5, none⟩)), .v 15 (.slice (d.fTags_a) (d.fTags.length) (d.fTags_c)), .p 16 (SA.emp) (fun _ vv AA => ∃ A88 : Option Addr, ∃ c88 : Nat, vv = .slice A88 d.fTags.length c88 ∧ AA = SA.own0 (.slice A88 d.fTags.length c88) 9 1 d.fTags.length (strs d.fTags)), .v 17 (.pointer (some ⟨g1, 6, none⟩)), .v 18 (.string d.fAlias), .p 19 (SA.emp) (fun env vv AA => ∃ A88x : Option Addr, ∃ c88x : Nat, (env.getD 6 undef) = .slice A88x d.fTags.length c88x ∧ vv = .agg (zq1 d A88x c88x) ∧ AA = SA.emp), .p 20 (SA.emp) (fun env vv AA => ∃ A88x : Option Addr, ∃ c88x : Nat, ∃ g110 : Nat, (env.getD 6 undef) = .slice A88x d.fTags.length c88x ∧ vv = .pointer (some ⟨g110, 0, none⟩) ∧ AA = SA.blk g110 262 (zq1 d A88x c88x)), .p 2 (SA.emp) (fun env vv AA => ∃ g110x : Nat, (env.getD 9 undef) = .pointer (some ⟨g110x, 0, none⟩) ∧ vv = .pointer (some ⟨g110x, 0, none⟩) ∧ AA = SA.emp)] [] F14 rfl (by kernel_rfl) S3.emp.emp.emp.emp.emp ?_ ?_
  ·refine ⟨?_, ?_, ?_, ?_, ?_, ?_, ?_, ?_, ?_, ?_, ?_, ?_, ?_, ?_, ?_, ?_, ?_, trivial⟩
   ·intro w69 M69
    intro a69 F69 S69
    refine obl_of (by rfl) ?_
    exact s_p F69 (v := .pointer (some ⟨g1, 1, none⟩)) (by kernel_rfl) (by kernel_rfl) (by kernel_rfl) S69
   ·intro w70 M70
    intro a70 F70 S70
    refine obl_of (by rfl) ?_
    exact s_r (v := .string d.fName) (r_ld rfl (F70.e (.pointer (some ⟨g1, 1, none⟩))) (v := .string d.fName) (((Sp.dropM S70.drop).bk 0 rfl).cell 1) Try.underlying9 rfl) S70
   ·intro w72 M72
    intro a72 F72 S72
    refine obl_of (by rfl) ?_
    exact s_p F72 (v := .pointer (some ⟨g1, 2, none⟩)) (by kernel_rfl) (by kernel_rfl) (by kernel_rfl) S72
   ·intro w73 M73
    intro a73 F73 S73
    refine obl_of (by rfl) ?_
    exact s_r (v := .string d.fVersion) (r_ld rfl (F73.e (.pointer (some ⟨g1, 2, none⟩))) (v := .string d.fVersion) (((Sp.dropM S73.drop).bk 0 rfl).cell 2) Try.underlying9 rfl) S73
   ·intro w75 M75
    intro a75 F75 S75
    refine obl_of (by rfl) ?_
    exact s_p F75 (v := .pointer (some ⟨g1, 3, none⟩)) (by kernel_rfl) (by kernel_rfl) (by kernel_rfl) S75
   ·intro w76 M76
    intro a76 F76 S76
    refine obl_of (by rfl) ?_
    exact s_r (v := .string d.fRepository) (r_ld rfl (F76.e (.pointer (some ⟨g1, 3, none⟩))) (v := .string d.fRepository) (((Sp.dropM S76.drop).bk 0 rfl).cell 3) Try.underlying9 rfl) S76
   ·intro w78 M78
    intro a78 F78 S78
    refine obl_of (by rfl) ?_
    exact s_p F78 (v := .pointer (some ⟨g1, 4, none⟩)) (by kernel_rfl) (by kernel_rfl) (by kernel_rfl) S78
   ·intro w79 M79
    intro a79 F79 S79
    refine obl_of (by rfl) ?_
    exact s_r (v := .string d.fCondition) (r_ld rfl (F79.e (.pointer (some ⟨g1, 4, none⟩))) (v := .string d.fCondition) (((Sp.dropM S79.drop).bk 0 rfl).cell 4) Try.underlying9 rfl) S79
   ·intro w81 M81
    intro a81 F81 S81
    refine obl_of (by rfl) ?_
    exact s_news F81 9 #[] 0 (by kernel_rfl) (by kernel_rfl) (by kernel_rfl) S81.drop
   ·intro w82 M82
    intro a82 F82 S82
    refine obl_of (by rfl) ?_
    exact s_p F82 (v := .pointer (some ⟨g1, 5, none⟩)) (by kernel_rfl) (by kernel_rfl) (by kernel_rfl) S82
   ·intro w83 M83
    intro a83 F83 S83
    refine obl_of (by rfl) ?_
    exact s_r (v := .slice (d.fTags_a) (d.fTags.length) (d.fTags_c)) (r_ld rfl (F83.e (.pointer (some ⟨g1, 5, none⟩))) (v := .slice (d.fTags_a) (d.fTags.length) (d.fTags_c)) (((Sp.dropM S83.drop).bk 0 rfl).cell 5) Try.underlying22 rfl) S83
   ·intro w85 M85
    rintro _ _ ⟨g81, rfl, rfl⟩ hA86
    intro a85 F85 S85
    refine obl_of (by rfl) ?_
    exact s_app0 rfl Try.underlying22 1 _ tin9 rfl rfl (F85.e (.slice (some ⟨g81, 0, none⟩) 0 0)) S85.drop (strs d.fTags) (F85.e (.slice (d.fTags_a) (d.fTags.length) (d.fTags_c))) (h0 _ (Sp.dropM S85.drop).drop) (by first | (simp [strs, ptrs, pps]; done) | (simp [strs, ptrs, pps]; omega)) (by omega) (by omega)
   ·intro w89 M89
    intro a89 F89 S89
    refine obl_of (by rfl) ?_
    exact s_p F89 (v := .pointer (some ⟨g1, 6, none⟩)) (by kernel_rfl) (by kernel_rfl) (by kernel_rfl) S89
   ·intro w90 M90
    intro a90 F90 S90
    refine obl_of (by rfl) ?_
    exact s_r (v := .string d.fAlias) (r_ld rfl (F90.e (.pointer (some ⟨g1, 6, none⟩))) (v := .string d.fAlias) (((Sp.dropM S90.drop).bk 0 rfl).cell 6) Try.underlying9 rfl) S90
   ·intro w92 M92
    rintro _ _ ⟨g81, rfl, rfl⟩ hA97
    rintro _ _ ⟨A88, c88, rfl, rfl⟩ hA99
    intro a92 F92 S92
    refine obl_of (by rfl) ?_
    exact sAt_mono (s_p F92 (v := .agg (zq1 d A88 c88)) (by kernel_rfl) (by kernel_rfl) (by kernel_rfl) S92) fun _ _ ⟨e1, e2⟩ => ⟨A88, c88, (by kernel_rfl), e1, e2⟩
   ·intro w101 M101
    rintro _ _ ⟨g81, rfl, rfl⟩ hA106
    rintro _ _ ⟨A88, c88, rfl, rfl⟩ hA108
    rintro _ _ ⟨A88x, c88x, e14_6, rfl, rfl⟩ hA110
    have e14_6 := envE_at (v := .slice A88 d.fTags.length c88) e14_6 (by kernel_rfl)
    obtain ⟨rfl, rfl⟩ : A88 = A88x ∧ c88 = c88x := by cases e14_6; exact ⟨rfl, rfl⟩
    clear e14_6
    intro a101 F101 S101
    refine obl_of (by rfl) ?_
    exact sAt_mono (s_newp F101 262 (zq1 d A88 c88) (by kernel_rfl) (by kernel_rfl) (by kernel_rfl) S101.drop) fun _ _ ⟨g110, e1, e2⟩ => ⟨A88, c88, g110, (by kernel_rfl), e1, e2⟩
   ·intro w111 M111
    rintro _ _ ⟨g81, rfl, rfl⟩ hA116
    rintro _ _ ⟨A88, c88, rfl, rfl⟩ hA118
    rintro _ _ ⟨A88x, c88x, e14_6, rfl, rfl⟩ hA120
    have e14_6 := envE_at (v := .slice A88 d.fTags.length c88) e14_6 (by kernel_rfl)
    obtain ⟨rfl, rfl⟩ : A88 = A88x ∧ c88 = c88x := by cases e14_6; exact ⟨rfl, rfl⟩
    clear e14_6
    rintro _ _ ⟨A88x, c88x, g110, e15_6, rfl, rfl⟩ hA121
    have e15_6 := envE_at (v := .slice A88 d.fTags.length c88) e15_6 (by kernel_rfl)
    obtain ⟨rfl, rfl⟩ : A88 = A88x ∧ c88 = c88x := by cases e15_6; exact ⟨rfl, rfl⟩
    clear e15_6
    intro a111 F111 S111
    refine obl_of (by rfl) ?_
    exact sAt_mono (s_p F111 (v := .pointer (some ⟨g110, 0, none⟩)) (by kernel_rfl) (by kernel_rfl) (by kernel_rfl) S111) fun _ _ ⟨e1, e2⟩ => ⟨g110, (by kernel_rfl), e1, e2⟩
  ·rintro _ _ ⟨g81, rfl, rfl⟩
   rintro _ _ ⟨A88, c88, rfl, rfl⟩
   rintro _ _ ⟨A88x, c88x, e14_6, rfl, rfl⟩
   have e14_6 := envE_at (v := .slice A88 d.fTags.length c88) e14_6 (by kernel_rfl)
   obtain ⟨rfl, rfl⟩ : A88 = A88x ∧ c88 = c88x := by cases e14_6; exact ⟨rfl, rfl⟩
   clear e14_6
   rintro _ _ ⟨A88x, c88x, g110, e15_6, rfl, rfl⟩
   have e15_6 := envE_at (v := .slice A88 d.fTags.length c88) e15_6 (by kernel_rfl)
   obtain ⟨rfl, rfl⟩ : A88 = A88x ∧ c88 = c88x := by cases e15_6; exact ⟨rfl, rfl⟩
   clear e15_6
   rintro _ _ ⟨g110x, e16_9, rfl, rfl⟩
   have e16_9 := envE_at (v := .pointer (some ⟨g110, 0, none⟩)) e16_9 (by kernel_rfl)
   obtain rfl : g110 = g110x := by cases e16_9; rfl
   clear e16_9
   intro a123 w122 F123 S122
   have S124 : Sp R w122 (SA.blk g110 262 (zq1 d A88 c88) :: SA.own0 (.slice A88 d.fTags.length c88) 9 1 d.fTags.length (strs d.fTags) :: SA.blk g81 9 #[] :: SA.blk g1 80 (zq0 d) :: L) := S122.drop.p1.drop
   refine wpList_nil ?_
   refine hK15 _ _ ?_; clear hK15 K15
   refine wp_ret ?_
   have S125 : Sp R w122 (SA.dep (some ⟨g110, 0, none⟩) d :: SA.blk g81 9 #[] :: SA.blk g1 80 (zq0 d) :: L) := Sp.dep_some hc9 S124.p1.p1
   refine (F123.res1 rfl (v := .pointer (some ⟨g110, 0, none⟩)) (by kernel_rfl) ?_).1
   exact ⟨some ⟨g110, 0, none⟩, rfl, S125.p1.drop.p1.drop⟩
set_option maxRecDepth 100000 in
set_option maxHeartbeats 20000000 in
theorem metaFits_sp (m : Ty26) (R : Ctx) (L : List SA) (w : World) (S : Sp R w (L))   :
  Calls Try.prog 93 #[.agg #[.string m.fName, .string m.fHome, .string m.fVersion, .string m.fDescription, .string m.fIcon, .string m.fAPIVersion, .string m.fCondition, .string m.fTags, .string m.fAppVersion, .string m.fKubeVersion, .string m.fType, .slice (m.fSources_a) (m.fSources.length) (m.fSources_c), .slice (m.fKeywords_a) (m.fKeywords.length) (m.fKeywords_c), .slice (m.fMaintainers_a) (m.fMaintainers.length) (m.fMaintainers_c), .slice (m.fDependencies_a) (m.fDependencies.length) (m.fDependencies_c)]] w fun e w' => e = .returned (.bool (mfitsB m)) ∧ Sp R w' (L) := by
 refine fw_enter (fn := Try.f93) rfl rfl 25 rfl (Nat.le_of_ble_eq_true rfl) ?_
 intro a0 F0
 refine wp_seq_k fun K1 hK1 => ?_
 refine wp_region_lit ?_
 refine op_sq F0 (s_newp F0 26 #[.string m.fName, .string m.fHome, .string m.fVersion, .string m.fDescription, .string m.fIcon, .string m.fAPIVersion, .string m.fCondition, .string m.fTags, .string m.fAppVersion, .string m.fKubeVersion, .string m.fType, .slice (m.fSources_a) (m.fSources.length) (m.fSources_c), .slice (m.fKeywords_a) (m.fKeywords.length) (m.fKeywords_c), .slice (m.fMaintainers_a) (m.fMaintainers.length) (m.fMaintainers_c), .slice (m.fDependencies_a) (m.fDependencies.length) (m.fDependencies_c)] (by kernel_rfl) (by kernel_rfl) (by kernel_rfl) S) ?_
 rintro _ _ w3 ⟨g1, rfl, rfl⟩ S3 a3 F3
 refine op_q F3 (.bool false) ?_; intro a4 F4
 refine wpList_nil ?_
 refine hK1 _ _ ?_; clear hK1 K1
 refine wp_seq_k fun K5 hK5 => ?_
 refine wp_region_lit ?_
 refine op_q F4 (.pointer (some ⟨g1, 11, none⟩)) ?_; intro a6 F6
 refine op_rq (v := .slice (m.fSources_a) (m.fSources.length) (m.fSources_c)) F6 (r_ld rfl (F6.e (.pointer (some ⟨g1, 11, none⟩))) (v := .slice (m.fSources_a) (m.fSources.length) (m.fSources_c)) ((S3.bk 0 rfl).cell 11) Try.underlying22 rfl) ?_; intro a7 F7
 refine op_q F7 (.int .i64 (↑m.fSources.length)) ?_; intro a8 F8
 refine op_q F8 (.bool (decide ((↑m.fSources.length : Int) ≤ 200))) ?_; intro a9 F9
 refine op_q F9 (.bool (decide ((↑m.fSources.length : Int) ≤ 200))) ?_; intro a10 F10
 rcases btf (decide ((↑m.fSources.length : Int) ≤ 200)) with hc11 | hc11
 ·have hc11p := of_decide_eq_true hc11
  have F12 := F10.sb 6 (by kernel_rfl) hc11
  have F13 := F12.sb 7 (by kernel_rfl) hc11
  refine op_wq F13 ?_
  refine op_q F13 (.pointer (some ⟨g1, 12, none⟩)) ?_; intro a14 F14
  refine op_wq F14 ?_
  refine op_rq (v := .slice (m.fKeywords_a) (m.fKeywords.length) (m.fKeywords_c)) F14 (r_ld rfl (F14.e (.pointer (some ⟨g1, 12, none⟩))) (v := .slice (m.fKeywords_a) (m.fKeywords.length) (m.fKeywords_c)) ((S3.bk 0 rfl).cell 12) Try.underlying22 rfl) ?_; intro a15 F15
  refine op_wq F15 ?_
  refine op_q F15 (.int .i64 (↑m.fKeywords.length)) ?_; intro a16 F16
  refine op_wq F16 ?_
  refine op_q F16 (.bool (decide ((↑m.fKeywords.length : Int) ≤ 200))) ?_; intro a17 F17
  refine op_q F17 (.bool (decide ((↑m.fKeywords.length : Int) ≤ 200))) ?_; intro a18 F18
  refine op_q F18 (.bool (decide ((↑m.fKeywords.length : Int) ≤ 200))) ?_; intro a19 F19
  rcases btf (decide ((↑m.fKeywords.length : Int) ≤ 200)) with hc20 | hc20
  ·have hc20p := of_decide_eq_true hc20
   have F21 := F19.sb 11 (by kernel_rfl) hc20
   have F22 := F21.sb 12 (by kernel_rfl) hc20
   have F23 := F22.sb 13 (by kernel_rfl) hc20
   refine op_wq F23 ?_
   refine op_q F23 (.pointer (some ⟨g1, 13, none⟩)) ?_; intro a24 F24
   refine op_wq F24 ?_
   refine op_rq (v := .slice (m.fMaintainers_a) (m.fMaintainers.length) (m.fMaintainers_c)) F24 (r_ld rfl (F24.e (.pointer (some ⟨g1, 13, none⟩))) (v := .slice (m.fMaintainers_a) (m.fMaintainers.length) (m.fMaintainers_c)) ((S3.bk 0 rfl).cell 13) Try.underlying23 rfl) ?_; intro a25 F25
   refine op_wq F25 ?_
   refine op_q F25 (.int .i64 (↑m.fMaintainers.length)) ?_; intro a26 F26
   refine op_wq F26 ?_
   refine op_q F26 (.bool (decide ((↑m.fMaintainers.length : Int) ≤ 200))) ?_; intro a27 F27
   refine op_q F27 (.bool (decide ((↑m.fMaintainers.length : Int) ≤ 200))) ?_; intro a28 F28
   refine op_q F28 (.bool (decide ((↑m.fMaintainers.length : Int) ≤ 200))) ?_; intro a29 F29
   rcases btf (decide ((↑m.fMaintainers.length : Int) ≤ 200)) with hc30 | hc30
   ·have hc30p := of_decide_eq_true hc30
    have F31 := F29.sb 17 (by kernel_rfl) hc30
    have F32 := F31.sb 18 (by kernel_rfl) hc30
    have F33 := F32.sb 19 (by kernel_rfl) hc30
    refine op_wq F33 ?_
    refine op_q F33 (.pointer (some ⟨g1, 14, none⟩)) ?_; intro a34 F34
    refine op_wq F34 ?_
    refine op_rq (v := .slice (m.fDependencies_a) (m.fDependencies.length) (m.fDependencies_c)) F34 (r_ld rfl (F34.e (.pointer (some ⟨g1, 14, none⟩))) (v := .slice (m.fDependencies_a) (m.fDependencies.length) (m.fDependencies_c)) ((S3.bk 0 rfl).cell 14) Try.underlying24 rfl) ?_; intro a35 F35
    refine op_wq F35 ?_
    refine op_q F35 (.int .i64 (↑m.fDependencies.length)) ?_; intro a36 F36
    refine op_wq F36 ?_
    refine op_q F36 (.bool (decide ((↑m.fDependencies.length : Int) ≤ 200))) ?_; intro a37 F37
    refine op_q F37 (.bool (decide ((↑m.fDependencies.length : Int) ≤ 200))) ?_; intro a38 F38
    refine op_q F38 (.bool (decide ((↑m.fDependencies.length : Int) ≤ 200))) ?_; intro a39 F39
    refine wpList_nil ?_
    refine hK5 _ _ ?_; clear hK5 K5
    refine wp_ret ?_
    refine (F39.res1 rfl (v := .bool (decide ((↑m.fDependencies.length : Int) ≤ 200))) (by kernel_rfl) ?_).1
    exact ⟨(ret_bool (by simp only [mfitsB, hc11, hc20, hc30, Bool.true_and, Bool.and_true, Bool.false_and, Bool.and_false])), S3.drop⟩
   ·have hc30p := of_decide_eq_false hc30
    have F40 := F29.sb 17 (by kernel_rfl) hc30
    have F41 := F40.sb 18 (by kernel_rfl) hc30
    have F42 := F41.sb 19 (by kernel_rfl) hc30
    refine op_kq F42 ?_; intro a43 F43
    refine op_kq F43 ?_; intro a44 F44
    refine op_kq F44 ?_; intro a45 F45
    refine op_kq F45 ?_; intro a46 F46
    refine op_q F46 (.bool false) ?_; intro a47 F47
    refine op_q F47 (.bool false) ?_; intro a48 F48
    refine wpList_nil ?_
    refine hK5 _ _ ?_; clear hK5 K5
    refine wp_ret ?_
    refine (F48.res1 rfl (v := .bool false) (by kernel_rfl) ?_).1
    exact ⟨(ret_bool (by simp only [mfitsB, hc11, hc20, hc30, Bool.true_and, Bool.and_true, Bool.false_and, Bool.and_false])), S3.drop⟩
  ·have hc20p := of_decide_eq_false hc20
   have F49 := F19.sb 11 (by kernel_rfl) hc20
   have F50 := F49.sb 12 (by kernel_rfl) hc20
   have F51 := F50.sb 13 (by kernel_rfl) hc20
   refine op_kq F51 ?_; intro a52 F52
   refine op_kq F52 ?_; intro a53 F53
   refine op_kq F53 ?_; intro a54 F54
   refine op_kq F54 ?_; intro a55 F55
   refine op_q F55 (.bool false) ?_; intro a56 F56
   refine op_q F56 (.bool false) ?_; intro a57 F57
   refine op_kq F57 ?_; intro a58 F58
   refine op_kq F58 ?_; intro a59 F59
   refine op_kq F59 ?_; intro a60 F60
   refine op_kq F60 ?_; intro a61 F61
   refine op_q F61 (.bool false) ?_; intro a62 F62
   refine op_q F62 (.bool false) ?_; intro a63 F63
   refine wpList_nil ?_
   refine hK5 _ _ ?_; clear hK5 K5
   refine wp_ret ?_
   refine (F63.res1 rfl (v := .bool false) (by kernel_rfl) ?_).1
   exact ⟨(ret_bool (by simp only [mfitsB, hc11, hc20, Bool.true_and, Bool.and_true, Bool.false_and, Bool.and_false])), S3.drop⟩
 ·have hc11p := of_decide_eq_false hc11
  have F64 := F10.sb 6 (by kernel_rfl) hc11
  have F65 := F64.sb 7 (by kernel_rfl) hc11
  refine op_kq F65 ?_; intro a66 F66
  refine op_kq F66 ?_; intro a67 F67
  refine op_kq F67 ?_; intro a68 F68
  refine op_kq F68 ?_; intro a69 F69
  refine op_q F69 (.bool false) ?_; intro a70 F70
  refine op_q F70 (.bool false) ?_; intro a71 F71
  refine op_kq F71 ?_; intro a72 F72
  refine op_kq F72 ?_; intro a73 F73
  refine op_kq F73 ?_; intro a74 F74
  refine op_kq F74 ?_; intro a75 F75
  refine op_q F75 (.bool false) ?_; intro a76 F76
  refine op_q F76 (.bool false) ?_; intro a77 F77
  refine op_kq F77 ?_; intro a78 F78
  refine op_kq F78 ?_; intro a79 F79
  refine op_kq F79 ?_; intro a80 F80
  refine op_kq F80 ?_; intro a81 F81
  refine op_q F81 (.bool false) ?_; intro a82 F82
  refine op_q F82 (.bool false) ?_; intro a83 F83
  refine wpList_nil ?_
  refine hK5 _ _ ?_; clear hK5 K5
  refine wp_ret ?_
  refine (F83.res1 rfl (v := .bool false) (by kernel_rfl) ?_).1
  exact ⟨(ret_bool (by simp only [mfitsB, hc11, Bool.true_and, Bool.and_true, Bool.false_and, Bool.and_false])), S3.drop⟩
abbrev zq2 (x0 : Ty26) : Array Value := #[.string x0.fName, .string x0.fHome, .string x0.fVersion, .string x0.fDescription, .string x0.fIcon, .string x0.fAPIVersion, .string x0.fCondition, .string x0.fTags, .string x0.fAppVersion, .string x0.fKubeVersion, .string x0.fType, .slice (x0.fSources_a) (x0.fSources.length) (x0.fSources_c), .slice (x0.fKeywords_a) (x0.fKeywords.length) (x0.fKeywords_c), .slice (x0.fMaintainers_a) (x0.fMaintainers.length) (x0.fMaintainers_c), .slice (x0.fDependencies_a) (x0.fDependencies.length) (x0.fDependencies_c)]
abbrev zq3 (x0 : Ty26) (x1 : Option Addr) (x2 : Nat) (x3 : Option Addr) (x4 : Nat) : Array Value := #[.string x0.fName, .string x0.fHome, .slice x1 x0.fSources.length x2, .string x0.fVersion, .string x0.fDescription, .slice x3 x0.fKeywords.length x4, .slice none 0 0, .string x0.fIcon, .string x0.fAPIVersion, .string x0.fCondition, .string x0.fTags, .string x0.fAppVersion, .bool false, .map none, .string x0.fKubeVersion, .slice none 0 0, .string x0.fType]
abbrev zq4 (x0 : Ty78) : Array Value := #[.bool x0.fNil, .string x0.fName, .string x0.fEmail, .string x0.fURL]
abbrev zq5 (x0 : Ty80) : Array Value := #[.bool x0.fNil, .string x0.fName, .string x0.fVersion, .string x0.fRepository, .string x0.fCondition, .slice x0.fTags_a x0.fTags.length x0.fTags_c, .string x0.fAlias]
set_option maxRecDepth 100000 in
set_option maxHeartbeats 20000000 in
theorem metaOf_sp (m : Ty26) (R : Ctx) (L : List SA) (w : World) (S : Sp R w (L)) (h0 : Rf R L fun w => Sl w (m.fSources_a) (strs m.fSources)) (h1 : Rf R L fun w => Sl w (m.fKeywords_a) (strs m.fKeywords)) (h2 : Rf R L fun w => Rows w (m.fMaintainers_a) 4 (m.fMaintainers.map Ty78.cells)) (h3 : Rf R L fun w => Rows w (m.fDependencies_a) 7 (m.fDependencies.map Ty80.cells)) (h4 : Rf R L fun w => ∀ d ∈ m.fDependencies, Sl w d.fTags_a (strs d.fTags)) (hm1 : m.fSources.length ≤ 1000000) (hm2 : m.fKeywords.length ≤ 1000000) (hm3 : m.fMaintainers.length ≤ 1000000) (hm4 : m.fDependencies.length ≤ 1000000) (hm5 : ∀ d ∈ m.fDependencies, d.fTags.length ≤ 1000000) :
  Calls Try.prog 95 #[.agg #[.string m.fName, .string m.fHome, .string m.fVersion, .string m.fDescription, .string m.fIcon, .string m.fAPIVersion, .string m.fCondition, .string m.fTags, .string m.fAppVersion, .string m.fKubeVersion, .string m.fType, .slice (m.fSources_a) (m.fSources.length) (m.fSources_c), .slice (m.fKeywords_a) (m.fKeywords.length) (m.fKeywords_c), .slice (m.fMaintainers_a) (m.fMaintainers.length) (m.fMaintainers_c), .slice (m.fDependencies_a) (m.fDependencies.length) (m.fDependencies_c)]] w fun e w' => ∃ g : Nat, ∃ A1 : Option Addr, ∃ c1 : Nat, ∃ A2 : Option Addr, ∃ c2 : Nat, ∃ A3 : Option Addr, ∃ c3 : Nat, ∃ qs : List (Option Addr), ∃ A4 : Option Addr, ∃ c4 : Nat, ∃ us : List (Option Addr), e = .returned (.pointer (some ⟨g, 0, none⟩)) ∧ Sp R w' (SA.blk g 237 #[.string (m.fName), .string (m.fHome), .slice A1 (m.fSources.length) c1, .string (m.fVersion), .string (m.fDescription), .slice A2 (m.fKeywords.length) c2, .slice A3 qs.length c3, .string (m.fIcon), .string (m.fAPIVersion), .string (m.fCondition), .string (m.fTags), .string (m.fAppVersion), .bool false, .map none, .string (m.fKubeVersion), .slice A4 us.length c4, .string (m.fType)] :: SA.own0 (.slice A1 m.fSources.length c1) 9 1 (m.fSources.length) (strs m.fSources) :: SA.own0 (.slice A2 m.fKeywords.length c2) 9 1 (m.fKeywords.length) (strs m.fKeywords) :: SA.own (.slice A3 qs.length c3) 238 1 qs.length (pps qs) :: SA.zips SA.per qs m.fMaintainers :: SA.own (.slice A4 us.length c4) 240 1 us.length (pps us) :: SA.zips SA.dep us m.fDependencies :: L) := by
 have hl_m_fSources : m.fSources.length ≤ 9223372036854775807 := by have := (h0 _ S).1; simpa [strs, ptrs, pps] using this
 have hl_m_fKeywords : m.fKeywords.length ≤ 9223372036854775807 := by have := (h1 _ S).1; simpa [strs, ptrs, pps] using this
 have hl_m_fMaintainers : m.fMaintainers.length ≤ 9223372036854775807 := by have := (h2 _ S).1; simpa [strs, ptrs, pps] using this
 have hl_m_fDependencies : m.fDependencies.length ≤ 9223372036854775807 := by have := (h3 _ S).1; simpa [strs, ptrs, pps] using this
 refine fw_enter (fn := Try.f95) rfl rfl 79 rfl (Nat.le_of_ble_eq_true rfl) ?_
 intro a0 F0
 refine wp_seq_k fun K1 hK1 => ?_
 refine wp_region_lit ?_
 refine op_sq F0 (s_newp F0 26 (zq2 m) (by kernel_rfl) (by kernel_rfl) (by kernel_rfl) S) ?_
 rintro _ _ w3 ⟨g1, rfl, rfl⟩ S3 a3 F3
 refine op_q F3 (.pointer none) ?_; intro a4 F4
 refine wpList_nil ?_
 refine hK1 _ _ ?_; clear hK1 K1
 refine wp_seq_k fun K5 hK5 => ?_
 refine wp_region_sepF (L0 := SA.blk g1 26 (zq2 m) :: L) [some [], some [(0, 8)], some [], some [(2, 10)], some [], some [], some [(5, 13)], some [(4, 12), (6, 14)], some [], some [(8, 16)], some [], some [(10, 18)], some [], some [], some [(13, 21)], some [(12, 20), (14, 22)], some [], some [(16, 24)], some [], some [(18, 26)], some [], some [(20, 28)], some [], some [(22, 30)], some [], some [(24, 32)], some [], some [(26, 34)], some [], some [(28, 36)], some [(1, 9), (3, 11), (4, 12), (6, 14), (7, 15), (9, 17), (11, 19), (12, 20), (14, 22), (15, 23), (17, 25), (19, 27), (21, 29), (23, 31), (25, 33), (27, 35), (29, 37)], some [(1, 9), (3, 11), (4, 12), (6, 14), (7, 15), (9, 17), (11, 19), (12, 20), (14, 22), (15, 23), (17, 25), (19, 27), (21, 29), (23, 31), (25, 33), (27, 35), (29, 37), (30, 38)], some [(1, 9), (3, 11), (4, 12), (6, 14), (7, 15), (9, 17), (11, 19), (12, 20), (14, 22), (15, 23), (17, 25), (19, 27), (21, 29), (23, 31), (25, 33), (27, 35), (29, 37), (30, 38), (31, 39)]] [.v 8 (.pointer (some ⟨g1, 0, none⟩)), .v 9 (.string m.fName), .v 10 (.pointer (some ⟨g1, 1, none⟩)), .v 11 (.string m.fHome), .p 12 (SA.emp) (fun _ vv AA => ∃ g118 : Nat, vv = .slice (some ⟨g118, 0, none⟩) 0 0 ∧ AA = SA.blk g118 9 #[]), .v 13 (.pointer (some ⟨g1, 11, none⟩)), .v 14 (.slice (m.fSources_a) (m.fSources.length) (m.fSources_c)), .p 15 (SA.emp) (fun _ vv AA => ∃ A125 : Option Addr, ∃ c125 : Nat, vv = .slice A125 m.fSources.length c125 ∧ AA = SA.own0 (.slice A125 m.fSources.length c125) 9 1 m.fSources.length (strs m.fSources)), .v 16 (.pointer (some ⟨g1, 2, none⟩)), .v 17 (.string m.fVersion), .v 18 (.pointer (some ⟨g1, 3, none⟩)), .v 19 (.string m.fDescription), .p 20 (SA.emp) (fun _ vv AA => ∃ g132 : Nat, vv = .slice (some ⟨g132, 0, none⟩) 0 0 ∧ AA = SA.blk g132 9 #[]), .v 21 (.pointer (some ⟨g1, 12, none⟩)), .v 22 (.slice (m.fKeywords_a) (m.fKeywords.length) (m.fKeywords_c)), .p 23 (SA.emp) (fun _ vv AA => ∃ A139 : Option Addr, ∃ c139 : Nat, vv = .slice A139 m.fKeywords.length c139 ∧ AA = SA.own0 (.slice A139 m.fKeywords.length c139) 9 1 m.fKeywords.length (strs m.fKeywords)), .v 24 (.pointer (some ⟨g1, 4, none⟩)), .v 25 (.string m.fIcon), .v 26 (.pointer (some ⟨g1, 5, none⟩)), .v 27 (.string m.fAPIVersion), .v 28 (.pointer (some ⟨g1, 6, none⟩)), .v 29 (.string m.fCondition), .v 30 (.pointer (some ⟨g1, 7, none⟩)), .v 31 (.string m.fTags), .v 32 (.pointer (some ⟨g1, 8, none⟩)), .v 33 (.string m.fAppVersion), .v 34 (.pointer (some ⟨g1, 9, none⟩)), .v 35 (.string m.fKubeVersion), .v 36 (.pointer (some ⟨g1, 10, none⟩)), .v 37 (.string m.fType), .p 38 (SA.emp) (fun env vv AA => ∃ A125x : Option Addr, ∃ c125x : Nat, ∃ A139x : Option Addr, ∃ c139x : Nat, (env.getD 4 undef) = .slice A125x m.fSources.length c125x ∧ (env.getD 9 undef) = .slice A139x m.fKeywords.length c139x ∧ vv = .agg (zq3 m A125x c125x A139x c139x) ∧ AA = SA.emp), .p 39 (SA.emp) (fun env vv AA => ∃ A125x : Option Addr, ∃ c125x : Nat, ∃ A139x : Option Addr, ∃ c139x : Nat, ∃ g197 : Nat, (env.getD 4 undef) = .slice A125x m.fSources.length c125x ∧ (env.getD 9 undef) = .slice A139x m.fKeywords.length c139x ∧ vv = .pointer (some ⟨g197, 0, none⟩) ∧ AA = SA.blk g197 237 (zq3 m A125x c125x A139x c139x)), .p 3 (SA.emp) (fun env vv AA => ∃ g197x : Nat, (env.getD 18 undef) = .pointer (some ⟨g197x, 0, none⟩) ∧ vv = .pointer (some ⟨g197x, 0, none⟩) ∧ AA = SA.emp)] [] F4 rfl (by kernel_rfl) S3.emp.emp.emp.emp.emp.emp.emp ?_ ?_
 ·refine ⟨?_, ?_, ?_, ?_, ?_, ?_, ?_, ?_, ?_, ?_, ?_, ?_, ?_, ?_, ?_, ?_, ?_, ?_, ?_, ?_, ?_, ?_, ?_, ?_, ?_, ?_, ?_, ?_, ?_, ?_, ?_, ?_, ?_, trivial⟩
  ·intro w112 M112
   intro a112 F112 S112
   refine obl_of (by rfl) ?_
   exact s_p F112 (v := .pointer (some ⟨g1, 0, none⟩)) (by kernel_rfl) (by kernel_rfl) (by kernel_rfl) S112
  ·intro w113 M113
   intro a113 F113 S113
   refine obl_of (by rfl) ?_
   exact s_r (v := .string m.fName) (r_ld rfl (F113.e (.pointer (some ⟨g1, 0, none⟩))) (v := .string m.fName) (((Sp.dropM S113.drop).bk 0 rfl).cell 0) Try.underlying9 rfl) S113
  ·intro w115 M115
   intro a115 F115 S115
   refine obl_of (by rfl) ?_
   exact s_p F115 (v := .pointer (some ⟨g1, 1, none⟩)) (by kernel_rfl) (by kernel_rfl) (by kernel_rfl) S115
  ·intro w116 M116
   intro a116 F116 S116
   refine obl_of (by rfl) ?_
   exact s_r (v := .string m.fHome) (r_ld rfl (F116.e (.pointer (some ⟨g1, 1, none⟩))) (v := .string m.fHome) (((Sp.dropM S116.drop).bk 0 rfl).cell 1) Try.underlying9 rfl) S116
  ·intro w118 M118
   intro a118 F118 S118
   refine obl_of (by rfl) ?_
   exact s_news F118 9 #[] 0 (by kernel_rfl) (by kernel_rfl) (by kernel_rfl) S118.drop
  ·intro w119 M119
   intro a119 F119 S119
   refine obl_of (by rfl) ?_
   exact s_p F119 (v := .pointer (some ⟨g1, 11, none⟩)) (by kernel_rfl) (by kernel_rfl) (by kernel_rfl) S119
  ·intro w120 M120
   intro a120 F120 S120
   refine obl_of (by rfl) ?_
   exact s_r (v := .slice (m.fSources_a) (m.fSources.length) (m.fSources_c)) (r_ld rfl (F120.e (.pointer (some ⟨g1, 11, none⟩))) (v := .slice (m.fSources_a) (m.fSources.length) (m.fSources_c)) (((Sp.dropM S120.drop).bk 0 rfl).cell 11) Try.underlying22 rfl) S120
  ·intro w122 M122
   rintro _ _ ⟨g118, rfl, rfl⟩ hA123
   intro a122 F122 S122
   refine obl_of (by rfl) ?_
   exact s_app0 rfl Try.underlying22 1 _ tin9 rfl rfl (F122.e (.slice (some ⟨g118, 0, none⟩) 0 0)) S122.drop (strs m.fSources) (F122.e (.slice (m.fSources_a) (m.fSources.length) (m.fSources_c))) (h0 _ (Sp.dropM S122.drop).drop) (by first | (simp [strs, ptrs, pps]; done) | (simp [strs, ptrs, pps]; omega)) (by omega) (by omega)
  ·intro w126 M126
   intro a126 F126 S126
   refine obl_of (by rfl) ?_
   exact s_p F126 (v := .pointer (some ⟨g1, 2, none⟩)) (by kernel_rfl) (by kernel_rfl) (by kernel_rfl) S126
  ·intro w127 M127
   intro a127 F127 S127
   refine obl_of (by rfl) ?_
   exact s_r (v := .string m.fVersion) (r_ld rfl (F127.e (.pointer (some ⟨g1, 2, none⟩))) (v := .string m.fVersion) (((Sp.dropM S127.drop).bk 0 rfl).cell 2) Try.underlying9 rfl) S127
  ·intro w129 M129
   intro a129 F129 S129
   refine obl_of (by rfl) ?_
   exact s_p F129 (v := .pointer (some ⟨g1, 3, none⟩)) (by kernel_rfl) (by kernel_rfl) (by kernel_rfl) S129
  ·intro w130 M130
   intro a130 F130 S130
   refine obl_of (by rfl) ?_
   exact s_r (v := .string m.fDescription) (r_ld rfl (F130.e (.pointer (some ⟨g1, 3, none⟩))) (v := .string m.fDescription) (((Sp.dropM S130.drop).bk 0 rfl).cell 3) Try.underlying9 rfl) S130
  ·intro w132 M132
   intro a132 F132 S132
   refine obl_of (by rfl) ?_
   exact s_news F132 9 #[] 0 (by kernel_rfl) (by kernel_rfl) (by kernel_rfl) S132.drop
  ·intro w133 M133
   intro a133 F133 S133
   refine obl_of (by rfl) ?_
   exact s_p F133 (v := .pointer (some ⟨g1, 12, none⟩)) (by kernel_rfl) (by kernel_rfl) (by kernel_rfl) S133
  ·intro w134 M134
   intro a134 F134 S134
   refine obl_of (by rfl) ?_
   exact s_r (v := .slice (m.fKeywords_a) (m.fKeywords.length) (m.fKeywords_c)) (r_ld rfl (F134.e (.pointer (some ⟨g1, 12, none⟩))) (v := .slice (m.fKeywords_a) (m.fKeywords.length) (m.fKeywords_c)) (((Sp.dropM S134.drop).bk 0 rfl).cell 12) Try.underlying22 rfl) S134
  ·intro w136 M136
   rintro _ _ ⟨g132, rfl, rfl⟩ hA137
   intro a136 F136 S136
   refine obl_of (by rfl) ?_
   exact s_app0 rfl Try.underlying22 1 _ tin9 rfl rfl (F136.e (.slice (some ⟨g132, 0, none⟩) 0 0)) S136.drop (strs m.fKeywords) (F136.e (.slice (m.fKeywords_a) (m.fKeywords.length) (m.fKeywords_c))) (h1 _ (Sp.dropM S136.drop).drop) (by first | (simp [strs, ptrs, pps]; done) | (simp [strs, ptrs, pps]; omega)) (by omega) (by omega)
  ·intro w140 M140
   intro a140 F140 S140
   refine obl_of (by rfl) ?_
   exact s_p F140 (v := .pointer (some ⟨g1, 4, none⟩)) (by kernel_rfl) (by kernel_rfl) (by kernel_rfl) S140
  ·intro w141 M141
   intro a141 F141 S141
   refine obl_of (by rfl) ?_
   exact s_r (v := .string m.fIcon) (r_ld rfl (F141.e (.pointer (some ⟨g1, 4, none⟩))) (v := .string m.fIcon) (((Sp.dropM S141.drop).bk 0 rfl).cell 4) Try.underlying9 rfl) S141
  ·intro w143 M143
   intro a143 F143 S143
   refine obl_of (by rfl) ?_
   exact s_p F143 (v := .pointer (some ⟨g1, 5, none⟩)) (by kernel_rfl) (by kernel_rfl) (by kernel_rfl) S143
  ·intro w144 M144
   intro a144 F144 S144
   refine obl_of (by rfl) ?_
   exact s_r (v := .string m.fAPIVersion) (r_ld rfl (F144.e (.pointer (some ⟨g1, 5, none⟩))) (v := .string m.fAPIVersion) (((Sp.dropM S144.drop).bk 0 rfl).cell 5) Try.underlying9 rfl) S144
  ·intro w146 M146
   intro a146 F146 S146
   refine obl_of (by rfl) ?_
   exact s_p F146 (v := .pointer (some ⟨g1, 6, none⟩)) (by kernel_rfl) (by kernel_rfl) (by kernel_rfl) S146
  ·intro w147 M147
   intro a147 F147 S147
   refine obl_of (by rfl) ?_
   exact s_r (v := .string m.fCondition) (r_ld rfl (F147.e (.pointer (some ⟨g1, 6, none⟩))) (v := .string m.fCondition) (((Sp.dropM S147.drop).bk 0 rfl).cell 6) Try.underlying9 rfl) S147
  ·intro w149 M149
   intro a149 F149 S149
   refine obl_of (by rfl) ?_
   exact s_p F149 (v := .pointer (some ⟨g1, 7, none⟩)) (by kernel_rfl) (by kernel_rfl) (by kernel_rfl) S149
  ·intro w150 M150
   intro a150 F150 S150
   refine obl_of (by rfl) ?_
   exact s_r (v := .string m.fTags) (r_ld rfl (F150.e (.pointer (some ⟨g1, 7, none⟩))) (v := .string m.fTags) (((Sp.dropM S150.drop).bk 0 rfl).cell 7) Try.underlying9 rfl) S150
  ·intro w152 M152
   intro a152 F152 S152
   refine obl_of (by rfl) ?_
   exact s_p F152 (v := .pointer (some ⟨g1, 8, none⟩)) (by kernel_rfl) (by kernel_rfl) (by kernel_rfl) S152
  ·intro w153 M153
   intro a153 F153 S153
   refine obl_of (by rfl) ?_
   exact s_r (v := .string m.fAppVersion) (r_ld rfl (F153.e (.pointer (some ⟨g1, 8, none⟩))) (v := .string m.fAppVersion) (((Sp.dropM S153.drop).bk 0 rfl).cell 8) Try.underlying9 rfl) S153
  ·intro w155 M155
   intro a155 F155 S155
   refine obl_of (by rfl) ?_
   exact s_p F155 (v := .pointer (some ⟨g1, 9, none⟩)) (by kernel_rfl) (by kernel_rfl) (by kernel_rfl) S155
  ·intro w156 M156
   intro a156 F156 S156
   refine obl_of (by rfl) ?_
   exact s_r (v := .string m.fKubeVersion) (r_ld rfl (F156.e (.pointer (some ⟨g1, 9, none⟩))) (v := .string m.fKubeVersion) (((Sp.dropM S156.drop).bk 0 rfl).cell 9) Try.underlying9 rfl) S156
  ·intro w158 M158
   intro a158 F158 S158
   refine obl_of (by rfl) ?_
   exact s_p F158 (v := .pointer (some ⟨g1, 10, none⟩)) (by kernel_rfl) (by kernel_rfl) (by kernel_rfl) S158
  ·intro w159 M159
   intro a159 F159 S159
   refine obl_of (by rfl) ?_
   exact s_r (v := .string m.fType) (r_ld rfl (F159.e (.pointer (some ⟨g1, 10, none⟩))) (v := .string m.fType) (((Sp.dropM S159.drop).bk 0 rfl).cell 10) Try.underlying9 rfl) S159
  ·intro w161 M161
   rintro _ _ ⟨g118, rfl, rfl⟩ hA164
   rintro _ _ ⟨A125, c125, rfl, rfl⟩ hA166
   rintro _ _ ⟨g132, rfl, rfl⟩ hA169
   rintro _ _ ⟨A139, c139, rfl, rfl⟩ hA171
   intro a161 F161 S161
   refine obl_of (by rfl) ?_
   exact sAt_mono (s_p F161 (v := .agg (zq3 m A125 c125 A139 c139)) (by kernel_rfl) (by kernel_rfl) (by kernel_rfl) S161) fun _ _ ⟨e1, e2⟩ => ⟨A125, c125, A139, c139, (by kernel_rfl), (by kernel_rfl), e1, e2⟩
  ·intro w179 M179
   rintro _ _ ⟨g118, rfl, rfl⟩ hA182
   rintro _ _ ⟨A125, c125, rfl, rfl⟩ hA184
   rintro _ _ ⟨g132, rfl, rfl⟩ hA187
   rintro _ _ ⟨A139, c139, rfl, rfl⟩ hA189
   rintro _ _ ⟨A125x, c125x, A139x, c139x, e30_4, e30_9, rfl, rfl⟩ hA197
   have e30_4 := envE_at (v := .slice A125 m.fSources.length c125) e30_4 (by kernel_rfl)
   have e30_9 := envE_at (v := .slice A139 m.fKeywords.length c139) e30_9 (by kernel_rfl)
   obtain ⟨rfl, rfl, rfl, rfl⟩ : A125 = A125x ∧ c125 = c125x ∧ A139 = A139x ∧ c139 = c139x := by cases e30_4; cases e30_9; exact ⟨rfl, rfl, rfl, rfl⟩
   clear e30_4 e30_9
   intro a179 F179 S179
   refine obl_of (by rfl) ?_
   exact sAt_mono (s_newp F179 237 (zq3 m A125 c125 A139 c139) (by kernel_rfl) (by kernel_rfl) (by kernel_rfl) S179.drop) fun _ _ ⟨g197, e1, e2⟩ => ⟨A125, c125, A139, c139, g197, (by kernel_rfl), (by kernel_rfl), e1, e2⟩
  ·intro w198 M198
   rintro _ _ ⟨g118, rfl, rfl⟩ hA201
   rintro _ _ ⟨A125, c125, rfl, rfl⟩ hA203
   rintro _ _ ⟨g132, rfl, rfl⟩ hA206
   rintro _ _ ⟨A139, c139, rfl, rfl⟩ hA208
   rintro _ _ ⟨A125x, c125x, A139x, c139x, e30_4, e30_9, rfl, rfl⟩ hA216
   have e30_4 := envE_at (v := .slice A125 m.fSources.length c125) e30_4 (by kernel_rfl)
   have e30_9 := envE_at (v := .slice A139 m.fKeywords.length c139) e30_9 (by kernel_rfl)
   obtain ⟨rfl, rfl, rfl, rfl⟩ : A125 = A125x ∧ c125 = c125x ∧ A139 = A139x ∧ c139 = c139x := by cases e30_4; cases e30_9; exact ⟨rfl, rfl, rfl, rfl⟩
   clear e30_4 e30_9
   rintro _ _ ⟨A125x, c125x, A139x, c139x, g197, e31_4, e31_9, rfl, rfl⟩ hA217
   have e31_4 := envE_at (v := .slice A125 m.fSources.length c125) e31_4 (by kernel_rfl)
   have e31_9 := envE_at (v := .slice A139 m.fKeywords.length c139) e31_9 (by kernel_rfl)
   obtain ⟨rfl, rfl, rfl, rfl⟩ : A125 = A125x ∧ c125 = c125x ∧ A139 = A139x ∧ c139 = c139x := by cases e31_4; cases e31_9; exact ⟨rfl, rfl, rfl, rfl⟩
   clear e31_4 e31_9
   intro a198 F198 S198
   refine obl_of (by rfl) ?_
   exact sAt_mono (s_p F198 (v := .pointer (some ⟨g197, 0, none⟩)) (by kernel_rfl) (by kernel_rfl) (by kernel_rfl) S198) fun _ _ ⟨e1, e2⟩ => ⟨g197, (by kernel_rfl), e1, e2⟩
 ·rintro _ _ ⟨g118, rfl, rfl⟩
  rintro _ _ ⟨A125, c125, rfl, rfl⟩
  rintro _ _ ⟨g132, rfl, rfl⟩
  rintro _ _ ⟨A139, c139, rfl, rfl⟩
  rintro _ _ ⟨A125x, c125x, A139x, c139x, e30_4, e30_9, rfl, rfl⟩
  have e30_4 := envE_at (v := .slice A125 m.fSources.length c125) e30_4 (by kernel_rfl)
  have e30_9 := envE_at (v := .slice A139 m.fKeywords.length c139) e30_9 (by kernel_rfl)
  obtain ⟨rfl, rfl, rfl, rfl⟩ : A125 = A125x ∧ c125 = c125x ∧ A139 = A139x ∧ c139 = c139x := by cases e30_4; cases e30_9; exact ⟨rfl, rfl, rfl, rfl⟩
  clear e30_4 e30_9
  rintro _ _ ⟨A125x, c125x, A139x, c139x, g197, e31_4, e31_9, rfl, rfl⟩
  have e31_4 := envE_at (v := .slice A125 m.fSources.length c125) e31_4 (by kernel_rfl)
  have e31_9 := envE_at (v := .slice A139 m.fKeywords.length c139) e31_9 (by kernel_rfl)
  obtain ⟨rfl, rfl, rfl, rfl⟩ : A125 = A125x ∧ c125 = c125x ∧ A139 = A139x ∧ c139 = c139x := by cases e31_4; cases e31_9; exact ⟨rfl, rfl, rfl, rfl⟩
  clear e31_4 e31_9
  rintro _ _ ⟨g197x, e32_18, rfl, rfl⟩
  have e32_18 := envE_at (v := .pointer (some ⟨g197, 0, none⟩)) e32_18 (by kernel_rfl)
  obtain rfl : g197 = g197x := by cases e32_18; rfl
  clear e32_18
  intro a219 w218 F219 S218
  have S220 : Sp R w218 (SA.blk g197 237 (zq3 m A125 c125 A139 c139) :: SA.own0 (.slice A139 m.fKeywords.length c139) 9 1 m.fKeywords.length (strs m.fKeywords) :: SA.blk g132 9 #[] :: SA.own0 (.slice A125 m.fSources.length c125) 9 1 m.fSources.length (strs m.fSources) :: SA.blk g118 9 #[] :: SA.blk g1 26 (zq2 m) :: L) := S218.drop.p1.drop
  refine wpList_nil ?_
  refine hK5 _ _ ?_; clear hK5 K5
  refine wp_seq_k fun K221 hK221 => ?_
  refine wp_seq_k fun K222 hK222 => ?_
  refine wp_region_lit ?_
  refine op_q F219 (.pointer (some ⟨g1, 13, none⟩)) ?_; intro a223 F223
  refine op_rq (v := .slice (m.fMaintainers_a) (m.fMaintainers.length) (m.fMaintainers_c)) F223 (r_ld rfl (F223.e (.pointer (some ⟨g1, 13, none⟩))) (v := .slice (m.fMaintainers_a) (m.fMaintainers.length) (m.fMaintainers_c)) ((S220.bk 5 rfl).cell 13) Try.underlying23 rfl) ?_; intro a224 F224
  refine op_q F224 (.int .i64 (↑m.fMaintainers.length)) ?_; intro a225 F225
  refine op_q F225 (.int .i64 0) ?_; intro a226 F226
  refine wpList_nil ?_
  refine hK222 _ _ ?_; clear hK222 K222
  refine wp_block ?_
  have S227 : Sp R w218 (SA.zips SA.per [] (m.fMaintainers.take 0) :: SA.blk g197 237 (zq3 m A125 c125 A139 c139) :: SA.own0 (.slice A139 m.fKeywords.length c139) 9 1 m.fKeywords.length (strs m.fKeywords) :: SA.blk g132 9 #[] :: SA.own0 (.slice A125 m.fSources.length c125) 9 1 m.fSources.length (strs m.fSources) :: SA.blk g118 9 #[] :: SA.blk g1 26 (zq2 m) :: L) := Sp.znil S220
  have S228 := Sp.nilown (e := 238) (sz := 1) S227
  refine fw_loop (fun m' a' w' => ∃ A3 : Option Addr, ∃ c3 : Nat, ∃ qs : List (Option Addr), ∃ k : Nat, m.fMaintainers.length - k = m' ∧ Fr 79 [] a' [(1, .pointer (some ⟨g1, 0, none⟩)), (2, .pointer none), (3, .pointer (some ⟨g197, 0, none⟩)), (41, .slice (m.fMaintainers_a) (m.fMaintainers.length) (m.fMaintainers_c)), (42, .int .i64 (↑m.fMaintainers.length)), (43, .int .i64 (↑k))] ∧ Sp R w' (SA.blk g197 237 #[.string m.fName, .string m.fHome, .slice A125 m.fSources.length c125, .string m.fVersion, .string m.fDescription, .slice A139 m.fKeywords.length c139, .slice A3 qs.length c3, .string m.fIcon, .string m.fAPIVersion, .string m.fCondition, .string m.fTags, .string m.fAppVersion, .bool false, .map none, .string m.fKubeVersion, .slice none 0 0, .string m.fType] :: SA.own (.slice A3 qs.length c3) 238 1 qs.length (pps qs) :: SA.zips SA.per qs (m.fMaintainers.take k) :: SA.own0 (.slice A139 m.fKeywords.length c139) 9 1 m.fKeywords.length (strs m.fKeywords) :: SA.own0 (.slice A125 m.fSources.length c125) 9 1 m.fSources.length (strs m.fSources) :: SA.blk g1 26 (zq2 m) :: L) ∧ (k ≤ m.fMaintainers.length) ∧ (qs.length = k)) _ ⟨none, 0, [], 0, rfl, (F226.kk 1 (F226.kk 2 (F226.kk 3 (F226.kk 41 (F226.kk 42 (F226.kk 43 F226.nil)))))), S228.p4.drop.p5.drop.p5.p5.p5.p4.p4.p5, (by first | omega | (with_reducible assumption) | (simp; done)), rfl⟩ ?_
  rintro m229 a229 w229 ⟨A3, c3, qs, k, hm229, F229, S229, hk, hql⟩ K229 hK229
  by_cases hlt_k : k < m.fMaintainers.length
  ·have hc_k : decide ((↑k : Int) < ↑m.fMaintainers.length) = true := by first | (simp; done) | (simp; omega)
   obtain ⟨ad230, hA230⟩ := (h2 _ S229.drop.drop.drop.drop.drop.drop).addr (by simp; omega)
   refine wp_seq_k fun K231 hK231 => ?_
   refine wp_region_lit ?_
   refine op_q F229 (.bool (decide ((↑k : Int) < ↑m.fMaintainers.length))) ?_; intro a232 F232
   have F233 := F232.sb 44 (by kernel_rfl) hc_k
   refine wpList_nil ?_
   refine hK231 _ _ ?_; clear hK231 K231
   refine wp_seq_k fun K234 hK234 => ?_
   refine wp_cond_true (F233.ev (by kernel_rfl)) ?_
   refine wp_skip ?_
   refine hK234 _ _ ?_; clear hK234 K234
   refine wp_seq_k fun K235 hK235 => ?_
   refine wp_block ?_
   refine wp_seq_k fun K236 hK236 => ?_
   refine wp_region_lit ?_
   refine op_rq (v := .pointer (some (ad230.add (k * 4)))) F233 (r_ix rfl Try.underlying23 4 (by kernel_rfl) (F233.e (.slice (m.fMaintainers_a) (m.fMaintainers.length) (m.fMaintainers_c))) hA230 (F233.e (.int .i64 (↑k))) k (by first | rfl | omega | simp) (by first | omega | (simp; done) | (simp; omega)) (rfl)) ?_; intro a237 F237
   refine op_rq (v := .agg (zq4 m.fMaintainers[k])) F237 (r_ldR rfl (F237.e (.pointer (some (ad230.add (k * 4))))) (cs := [.bool m.fMaintainers[k].fNil, .string m.fMaintainers[k].fName, .string m.fMaintainers[k].fEmail, .string m.fMaintainers[k].fURL]) ((h2 _ S229.drop.drop.drop.drop.drop.drop).elA hA230 (j := k) (row := m.fMaintainers[k].cells) (by rw [List.getElem?_map, List.getElem?_eq_getElem hlt_k]; rfl)) Try.underlying78 rfl (by kernel_rfl) (v := (zq4 m.fMaintainers[k])) (by kernel_rfl)) ?_; intro a238 F238
   refine op_sq F238 (s_newp F238 78 #[.bool false, .string ⟨#[]⟩, .string ⟨#[]⟩, .string ⟨#[]⟩] (by kernel_rfl) (by kernel_rfl) (by kernel_rfl) S229) ?_
   rintro _ _ w240 ⟨g238, rfl, rfl⟩ S240 a240 F240
   refine op_sq0 F240 (s_stb rfl (F240.e (.pointer (some ⟨g238, 0, none⟩))) (F240.e (.agg (zq4 m.fMaintainers[k]))) S240 (by kernel_rfl) rfl (by kernel_rfl)) ?_
   rintro _ _ w241 rfl S241 F241
   refine wpList_nil ?_
   refine hK236 _ _ ?_; clear hK236 K236
   refine wp_region_sepF (L0 := SA.blk g238 78 (zq4 m.fMaintainers[k]) :: SA.blk g197 237 #[.string m.fName, .string m.fHome, .slice A125 m.fSources.length c125, .string m.fVersion, .string m.fDescription, .slice A139 m.fKeywords.length c139, .slice A3 qs.length c3, .string m.fIcon, .string m.fAPIVersion, .string m.fCondition, .string m.fTags, .string m.fAppVersion, .bool false, .map none, .string m.fKubeVersion, .slice none 0 0, .string m.fType] :: SA.zips SA.per qs (m.fMaintainers.take k) :: SA.own0 (.slice A139 m.fKeywords.length c139) 9 1 m.fKeywords.length (strs m.fKeywords) :: SA.own0 (.slice A125 m.fSources.length c125) 9 1 m.fSources.length (strs m.fSources) :: SA.blk g1 26 (zq2 m) :: L) [some [], some [], some [(1, 48)], some [(2, 49)], some [(3, 50)], some [], some [(5, 52)], some [(5, 52), (6, 53)], some [(4, 51), (5, 52), (6, 53), (7, 54)], some [(0, 47)], some [(9, 56)], none] [.v 47 (.pointer (some ⟨g197, 0, none⟩)), .v 48 (.pointer (some ⟨g197, 0, none⟩)), .v 49 (.pointer (some ⟨g197, 0, none⟩)), .v 50 (.pointer (some ⟨g197, 6, none⟩)), .v 51 (.slice A3 qs.length c3), .v 52 (.agg (zq4 m.fMaintainers[k])), .p 53 (SA.emp) (fun _ vv AA => ∃ q278 : Option Addr, vv = .pointer q278 ∧ AA = SA.per q278 m.fMaintainers[k]), .p 54 (SA.emp) (fun env vv AA => ∃ q278x : Option Addr, ∃ g281 : Nat, (env.getD 1 undef) = .pointer q278x ∧ vv = .slice (some ⟨g281, 0, none⟩) 1 1 ∧ AA = SA.blk g281 238 #[.pointer q278x]), .p 55 (SA.own (.slice A3 qs.length c3) 238 1 qs.length (pps qs)) (fun env vv AA => ∃ q278x : Option Addr, ∃ A287 : Option Addr, ∃ c287 : Nat, (env.getD 2 undef) = .pointer q278x ∧ vv = .slice A287 ((qs ++ [q278x]).length) c287 ∧ AA = SA.own (.slice A287 ((qs ++ [q278x]).length) c287) 238 1 ((qs ++ [q278x]).length) (pps (qs ++ [q278x]))), .v 56 (.pointer (some ⟨g197, 0, none⟩)), .v 57 (.pointer (some ⟨g197, 6, none⟩)), .n SA.emp (fun _ _ A => A = SA.emp)] [] F241 rfl (by kernel_rfl) S241.p2.emp.emp ?_ ?_
   ·refine ⟨?_, ?_, ?_, ?_, ?_, ?_, ?_, ?_, ?_, ?_, ?_, trivial⟩
    ·intro w267 M267
     intro a267 F267 S267
     refine obl_of (by rfl) ?_
     exact s_p F267 (v := .pointer (some ⟨g197, 0, none⟩)) (by kernel_rfl) (by kernel_rfl) (by kernel_rfl) S267
    ·intro w268 M268
     intro a268 F268 S268
     refine obl_of (by rfl) ?_
     exact s_p F268 (v := .pointer (some ⟨g197, 0, none⟩)) (by kernel_rfl) (by kernel_rfl) (by kernel_rfl) S268
    ·intro w269 M269
     intro a269 F269 S269
     refine obl_of (by rfl) ?_
     exact s_p F269 (v := .pointer (some ⟨g197, 0, none⟩)) (by kernel_rfl) (by kernel_rfl) (by kernel_rfl) S269
    ·intro w271 M271
     intro a271 F271 S271
     refine obl_of (by rfl) ?_
     exact s_p F271 (v := .pointer (some ⟨g197, 6, none⟩)) (by kernel_rfl) (by kernel_rfl) (by kernel_rfl) S271
    ·intro w273 M273
     intro a273 F273 S273
     refine obl_of (by rfl) ?_
     exact s_r (v := .slice A3 qs.length c3) (r_ld rfl (F273.e (.pointer (some ⟨g197, 6, none⟩))) (v := .slice A3 qs.length c3) (((Sp.dropM S273.drop).bk 1 rfl).cell 6) Try.underlying233 rfl) S273
    ·intro w275 M275
     intro a275 F275 S275
     refine obl_of (by rfl) ?_
     exact s_r (v := .agg (zq4 m.fMaintainers[k])) (r_ldm rfl (F275.e (.pointer (some ⟨g238, 0, none⟩))) ((Sp.dropM S275.drop).bk 0 rfl) 4 (by kernel_rfl) Try.underlying78 rfl (by kernel_rfl) (v := (zq4 m.fMaintainers[k])) (by kernel_rfl)) S275
    ·intro w276 M276
     intro a276 F276 S276
     refine obl_of (by rfl) ?_
     refine s_c F276 (f := 160) (args := #[.agg (zq4 m.fMaintainers[k])]) (by kernel_rfl) (by kernel_rfl) (by kernel_rfl) (personOf_sp m.fMaintainers[k] _ _ _ S276.drop ) ?_
     rintro _ _ ⟨q278, rfl, S278⟩
     exact ⟨_, _, rfl, ⟨q278, rfl, rfl⟩, S278⟩
    ·intro w279 M279
     rintro _ _ ⟨q278, rfl, rfl⟩ hA281
     intro a279 F279 S279
     refine obl_of (by rfl) ?_
     exact sAt_mono (s_news F279 238 #[.pointer q278] 1 (by kernel_rfl) (by kernel_rfl) (by kernel_rfl) S279.drop) fun _ _ ⟨g281, e1, e2⟩ => ⟨q278, g281, (by kernel_rfl), e1, e2⟩
    ·intro w282 M282
     rintro _ _ ⟨q278, rfl, rfl⟩ hA285
     rintro _ _ ⟨q278x, g281, e7_1, rfl, rfl⟩ hA286
     have e7_1 := envE_at (v := .pointer q278) e7_1 (by kernel_rfl)
     obtain rfl : q278 = q278x := by cases e7_1; rfl
     clear e7_1
     intro a282 F282 S282
     refine obl_of (by rfl) ?_
     exact sAt_mono (s_app rfl Try.underlying233 1 _ tin238 rfl rfl (F282.e (.slice A3 qs.length c3)) S282 ([Value.pointer q278]) (F282.e (.slice (some ⟨g281, 0, none⟩) 1 1)) ((Sp.bkm S282.drop hA286).sl (by simp)) rfl (by simp [Value.oneCell']) (by omega) (by omega) (n' := (qs ++ [q278]).length) (by first | (simp; done) | (simp; omega)) (cs' := pps (qs ++ [q278])) (by simp [pps])) fun _ _ ⟨A287, c287, e1, e2⟩ => ⟨q278, A287, c287, (by kernel_rfl), e1, e2⟩
    ·intro w288 M288
     intro a288 F288 S288
     refine obl_of (by rfl) ?_
     exact s_p F288 (v := .pointer (some ⟨g197, 0, none⟩)) (by kernel_rfl) (by kernel_rfl) (by kernel_rfl) S288
    ·intro w290 M290
     intro a290 F290 S290
     refine obl_of (by rfl) ?_
     exact s_p F290 (v := .pointer (some ⟨g197, 6, none⟩)) (by kernel_rfl) (by kernel_rfl) (by kernel_rfl) S290
   ·rintro _ _ ⟨q278, rfl, rfl⟩
    rintro _ _ ⟨q278x, g281, e7_1, rfl, rfl⟩
    have e7_1 := envE_at (v := .pointer q278) e7_1 (by kernel_rfl)
    obtain rfl : q278 = q278x := by cases e7_1; rfl
    clear e7_1
    rintro _ _ ⟨q278x, A287, c287, e8_2, rfl, rfl⟩
    have e8_2 := envE_at (v := .pointer q278) e8_2 (by kernel_rfl)
    obtain rfl : q278 = q278x := by cases e8_2; rfl
    clear e8_2
    intro a293 w292 F293 S292
    have S294 : Sp R w292 (SA.own (.slice A287 ((qs ++ [q278]).length) c287) 238 1 ((qs ++ [q278]).length) (pps (qs ++ [q278])) :: SA.blk g281 238 #[.pointer q278] :: SA.per q278 m.fMaintainers[k] :: SA.blk g238 78 (zq4 m.fMaintainers[k]) :: SA.blk g197 237 #[.string m.fName, .string m.fHome, .slice A125 m.fSources.length c125, .string m.fVersion, .string m.fDescription, .slice A139 m.fKeywords.length c139, .slice A3 qs.length c3, .string m.fIcon, .string m.fAPIVersion, .string m.fCondition, .string m.fTags, .string m.fAppVersion, .bool false, .map none, .string m.fKubeVersion, .slice none 0 0, .string m.fType] :: SA.zips SA.per qs (m.fMaintainers.take k) :: SA.own0 (.slice A139 m.fKeywords.length c139) 9 1 m.fKeywords.length (strs m.fKeywords) :: SA.own0 (.slice A125 m.fSources.length c125) 9 1 m.fSources.length (strs m.fSources) :: SA.blk g1 26 (zq2 m) :: L) := S292
    refine op_sq0 F293 (s_st rfl (F293.e (.pointer (some ⟨g197, 6, none⟩))) (F293.e (.slice A287 ((qs ++ [q278]).length) c287)) S294.p4 (by kernel_rfl) rfl rfl rfl (cs := #[.string m.fName, .string m.fHome, .slice A125 m.fSources.length c125, .string m.fVersion, .string m.fDescription, .slice A139 m.fKeywords.length c139, .slice A287 ((qs ++ [q278]).length) c287, .string m.fIcon, .string m.fAPIVersion, .string m.fCondition, .string m.fTags, .string m.fAppVersion, .bool false, .map none, .string m.fKubeVersion, .slice none 0 0, .string m.fType]) (by kernel_rfl)) ?_
    rintro _ _ w295 rfl S295 F295
    refine wpList_nil ?_
    refine hK235 _ _ ?_; clear hK235 K235
    refine wp_region_lit ?_
    refine op_rq (v := .int .i64 (↑(k + 1))) F295 (r_add (z := ↑(k + 1)) rfl (F295.e (.int .i64 (↑k))) (F295.e (.int .i64 1)) (wr64 (by omega) (by omega) (by omega))) ?_; intro a296 F296
    refine op_q F296 (.int .i64 (↑(k + 1))) ?_; intro a297 F297
    refine wpList_nil ?_
    have S298 : Sp R w295 (SA.zips SA.per (qs ++ [q278]) (m.fMaintainers.take (k + 1)) :: SA.blk g197 237 #[.string m.fName, .string m.fHome, .slice A125 m.fSources.length c125, .string m.fVersion, .string m.fDescription, .slice A139 m.fKeywords.length c139, .slice A287 ((qs ++ [q278]).length) c287, .string m.fIcon, .string m.fAPIVersion, .string m.fCondition, .string m.fTags, .string m.fAppVersion, .bool false, .map none, .string m.fKubeVersion, .slice none 0 0, .string m.fType] :: SA.own (.slice A287 ((qs ++ [q278]).length) c287) 238 1 ((qs ++ [q278]).length) (pps (qs ++ [q278])) :: SA.blk g281 238 #[.pointer q278] :: SA.blk g238 78 (zq4 m.fMaintainers[k]) :: SA.own0 (.slice A139 m.fKeywords.length c139) 9 1 m.fKeywords.length (strs m.fKeywords) :: SA.own0 (.slice A125 m.fSources.length c125) 9 1 m.fSources.length (strs m.fSources) :: SA.blk g1 26 (zq2 m) :: L) := by rw [List.take_succ_eq_append_getElem hlt_k]; exact Sp.zsnoc S295.p5.p4
    exact hK229 _ _ _ (by first | omega | (simp; omega)) ⟨A287, c287, qs ++ [q278], k + 1, rfl, (F297.kk 1 (F297.kk 2 (F297.kk 3 (F297.kk 41 (F297.kk 42 (F297.kk 43 F297.nil)))))), S298.p3.drop.p3.drop.p5.p5.p5.p3.p5.p5, (by first | omega | (with_reducible assumption) | (simp; done)), (by simp [hql])⟩
  ·have hc_k : decide ((↑k : Int) < ↑m.fMaintainers.length) = false := by first | (simp; done) | (simp; omega)
   obtain rfl : k = m.fMaintainers.length := by omega
   rw [List.take_length] at S229
   refine wp_seq_k fun K299 hK299 => ?_
   refine wp_region_lit ?_
   refine op_q F229 (.bool (decide ((↑m.fMaintainers.length : Int) < ↑m.fMaintainers.length))) ?_; intro a300 F300
   have F301 := F300.sb 44 (by kernel_rfl) hc_k
   refine wpList_nil ?_
   refine hK299 _ _ ?_; clear hK299 K299
   refine wp_seq_k fun K302 hK302 => ?_
   refine wp_cond_false (F301.ev (by kernel_rfl)) ?_
   refine wp_exit ?_
   refine ex_then ?_; clear hK302 K302
   refine ex_then ?_
   refine ex_in ?_
   refine hK221 _ _ ?_; clear hK221 K221
   refine wp_seq_k fun K303 hK303 => ?_
   refine wp_seq_k fun K304 hK304 => ?_
   refine wp_region_lit ?_
   refine op_q F301 (.pointer (some ⟨g1, 14, none⟩)) ?_; intro a305 F305
   refine op_rq (v := .slice (m.fDependencies_a) (m.fDependencies.length) (m.fDependencies_c)) F305 (r_ld rfl (F305.e (.pointer (some ⟨g1, 14, none⟩))) (v := .slice (m.fDependencies_a) (m.fDependencies.length) (m.fDependencies_c)) ((S229.bk 5 rfl).cell 14) Try.underlying24 rfl) ?_; intro a306 F306
   refine op_q F306 (.int .i64 (↑m.fDependencies.length)) ?_; intro a307 F307
   refine op_q F307 (.int .i64 0) ?_; intro a308 F308
   refine wpList_nil ?_
   refine hK304 _ _ ?_; clear hK304 K304
   refine wp_block ?_
   have S309 : Sp R w229 (SA.zips SA.dep [] (m.fDependencies.take 0) :: SA.blk g197 237 #[.string m.fName, .string m.fHome, .slice A125 m.fSources.length c125, .string m.fVersion, .string m.fDescription, .slice A139 m.fKeywords.length c139, .slice A3 qs.length c3, .string m.fIcon, .string m.fAPIVersion, .string m.fCondition, .string m.fTags, .string m.fAppVersion, .bool false, .map none, .string m.fKubeVersion, .slice none 0 0, .string m.fType] :: SA.own (.slice A3 qs.length c3) 238 1 qs.length (pps qs) :: SA.zips SA.per qs m.fMaintainers :: SA.own0 (.slice A139 m.fKeywords.length c139) 9 1 m.fKeywords.length (strs m.fKeywords) :: SA.own0 (.slice A125 m.fSources.length c125) 9 1 m.fSources.length (strs m.fSources) :: SA.blk g1 26 (zq2 m) :: L) := Sp.znil S229
   have S310 := Sp.nilown (e := 240) (sz := 1) S309
   refine fw_loop (fun m' a' w' => ∃ A4 : Option Addr, ∃ c4 : Nat, ∃ us : List (Option Addr), ∃ j : Nat, m.fDependencies.length - j = m' ∧ Fr 79 [] a' [(2, .pointer none), (3, .pointer (some ⟨g197, 0, none⟩)), (60, .slice (m.fDependencies_a) (m.fDependencies.length) (m.fDependencies_c)), (61, .int .i64 (↑m.fDependencies.length)), (62, .int .i64 (↑j))] ∧ Sp R w' (SA.blk g197 237 #[.string m.fName, .string m.fHome, .slice A125 m.fSources.length c125, .string m.fVersion, .string m.fDescription, .slice A139 m.fKeywords.length c139, .slice A3 qs.length c3, .string m.fIcon, .string m.fAPIVersion, .string m.fCondition, .string m.fTags, .string m.fAppVersion, .bool false, .map none, .string m.fKubeVersion, .slice A4 us.length c4, .string m.fType] :: SA.own (.slice A4 us.length c4) 240 1 us.length (pps us) :: SA.zips SA.dep us (m.fDependencies.take j) :: SA.own (.slice A3 qs.length c3) 238 1 qs.length (pps qs) :: SA.zips SA.per qs m.fMaintainers :: SA.own0 (.slice A139 m.fKeywords.length c139) 9 1 m.fKeywords.length (strs m.fKeywords) :: SA.own0 (.slice A125 m.fSources.length c125) 9 1 m.fSources.length (strs m.fSources) :: SA.blk g1 26 (zq2 m) :: L) ∧ (j ≤ m.fDependencies.length) ∧ (us.length = j)) _ ⟨none, 0, [], 0, rfl, (F308.kk 2 (F308.kk 3 (F308.kk 60 (F308.kk 61 (F308.kk 62 F308.nil))))), S310.p7.p7.p7.p7.p7.p6.p6.p7, (by first | omega | (with_reducible assumption) | (simp; done)), rfl⟩ ?_
   rintro m311 a311 w311 ⟨A4, c4, us, j, hm311, F311, S311, hj, hul⟩ K311 hK311
   by_cases hlt_j : j < m.fDependencies.length
   ·have hc_j : decide ((↑j : Int) < ↑m.fDependencies.length) = true := by first | (simp; done) | (simp; omega)
    obtain ⟨ad312, hA312⟩ := (h3 _ S311.drop.drop.drop.drop.drop.drop.drop.drop).addr (by simp; omega)
    have htg : Rf R L fun w => Sl w m.fDependencies[j].fTags_a (strs m.fDependencies[j].fTags) := fun w S => h4 w S _ (List.getElem_mem hlt_j)
    have htz : m.fDependencies[j].fTags.length ≤ 1000000 := hm5 _ (List.getElem_mem hlt_j)
    refine wp_seq_k fun K313 hK313 => ?_
    refine wp_region_lit ?_
    refine op_q F311 (.bool (decide ((↑j : Int) < ↑m.fDependencies.length))) ?_; intro a314 F314
    have F315 := F314.sb 63 (by kernel_rfl) hc_j
    refine wpList_nil ?_
    refine hK313 _ _ ?_; clear hK313 K313
    refine wp_seq_k fun K316 hK316 => ?_
    refine wp_cond_true (F315.ev (by kernel_rfl)) ?_
    refine wp_skip ?_
    refine hK316 _ _ ?_; clear hK316 K316
    refine wp_seq_k fun K317 hK317 => ?_
    refine wp_block ?_
    refine wp_seq_k fun K318 hK318 => ?_
    refine wp_region_lit ?_
    refine op_rq (v := .pointer (some (ad312.add (j * 7)))) F315 (r_ix rfl Try.underlying24 7 (by kernel_rfl) (F315.e (.slice (m.fDependencies_a) (m.fDependencies.length) (m.fDependencies_c))) hA312 (F315.e (.int .i64 (↑j))) j (by first | rfl | omega | simp) (by first | omega | (simp; done) | (simp; omega)) (rfl)) ?_; intro a319 F319
    refine op_rq (v := .agg (zq5 m.fDependencies[j])) F319 (r_ldR rfl (F319.e (.pointer (some (ad312.add (j * 7))))) (cs := [.bool m.fDependencies[j].fNil, .string m.fDependencies[j].fName, .string m.fDependencies[j].fVersion, .string m.fDependencies[j].fRepository, .string m.fDependencies[j].fCondition, .slice m.fDependencies[j].fTags_a m.fDependencies[j].fTags.length m.fDependencies[j].fTags_c, .string m.fDependencies[j].fAlias]) ((h3 _ S311.drop.drop.drop.drop.drop.drop.drop.drop).elA hA312 (j := j) (row := m.fDependencies[j].cells) (by rw [List.getElem?_map, List.getElem?_eq_getElem hlt_j]; rfl)) Try.underlying80 rfl (by kernel_rfl) (v := (zq5 m.fDependencies[j])) (by kernel_rfl)) ?_; intro a320 F320
    refine op_sq F320 (s_newp F320 80 #[.bool false, .string ⟨#[]⟩, .string ⟨#[]⟩, .string ⟨#[]⟩, .string ⟨#[]⟩, .slice none 0 0, .string ⟨#[]⟩] (by kernel_rfl) (by kernel_rfl) (by kernel_rfl) S311) ?_
    rintro _ _ w322 ⟨g320, rfl, rfl⟩ S322 a322 F322
    refine op_sq0 F322 (s_stb rfl (F322.e (.pointer (some ⟨g320, 0, none⟩))) (F322.e (.agg (zq5 m.fDependencies[j]))) S322 (by kernel_rfl) rfl (by kernel_rfl)) ?_
    rintro _ _ w323 rfl S323 F323
    refine wpList_nil ?_
    refine hK318 _ _ ?_; clear hK318 K318
    refine wp_region_sepF (L0 := SA.blk g320 80 (zq5 m.fDependencies[j]) :: SA.blk g197 237 #[.string m.fName, .string m.fHome, .slice A125 m.fSources.length c125, .string m.fVersion, .string m.fDescription, .slice A139 m.fKeywords.length c139, .slice A3 qs.length c3, .string m.fIcon, .string m.fAPIVersion, .string m.fCondition, .string m.fTags, .string m.fAppVersion, .bool false, .map none, .string m.fKubeVersion, .slice A4 us.length c4, .string m.fType] :: SA.zips SA.dep us (m.fDependencies.take j) :: SA.own (.slice A3 qs.length c3) 238 1 qs.length (pps qs) :: SA.zips SA.per qs m.fMaintainers :: SA.own0 (.slice A139 m.fKeywords.length c139) 9 1 m.fKeywords.length (strs m.fKeywords) :: SA.own0 (.slice A125 m.fSources.length c125) 9 1 m.fSources.length (strs m.fSources) :: SA.blk g1 26 (zq2 m) :: L) [some [], some [], some [(1, 67)], some [(2, 68)], some [(3, 69)], some [], some [(5, 71)], some [(5, 71), (6, 72)], some [(4, 70), (5, 71), (6, 72), (7, 73)], some [(0, 66)], some [(9, 75)], none] [.v 66 (.pointer (some ⟨g197, 0, none⟩)), .v 67 (.pointer (some ⟨g197, 0, none⟩)), .v 68 (.pointer (some ⟨g197, 0, none⟩)), .v 69 (.pointer (some ⟨g197, 15, none⟩)), .v 70 (.slice A4 us.length c4), .v 71 (.agg (zq5 m.fDependencies[j])), .p 72 (SA.emp) (fun _ vv AA => ∃ q360 : Option Addr, vv = .pointer q360 ∧ AA = SA.dep q360 m.fDependencies[j]), .p 73 (SA.emp) (fun env vv AA => ∃ q360x : Option Addr, ∃ g363 : Nat, (env.getD 1 undef) = .pointer q360x ∧ vv = .slice (some ⟨g363, 0, none⟩) 1 1 ∧ AA = SA.blk g363 240 #[.pointer q360x]), .p 74 (SA.own (.slice A4 us.length c4) 240 1 us.length (pps us)) (fun env vv AA => ∃ q360x : Option Addr, ∃ A369 : Option Addr, ∃ c369 : Nat, (env.getD 2 undef) = .pointer q360x ∧ vv = .slice A369 ((us ++ [q360x]).length) c369 ∧ AA = SA.own (.slice A369 ((us ++ [q360x]).length) c369) 240 1 ((us ++ [q360x]).length) (pps (us ++ [q360x]))), .v 75 (.pointer (some ⟨g197, 0, none⟩)), .v 76 (.pointer (some ⟨g197, 15, none⟩)), .n SA.emp (fun _ _ A => A = SA.emp)] [] F323 rfl (by kernel_rfl) S323.p2.emp.emp ?_ ?_
    ·refine ⟨?_, ?_, ?_, ?_, ?_, ?_, ?_, ?_, ?_, ?_, ?_, trivial⟩
     ·intro w349 M349
      intro a349 F349 S349
      refine obl_of (by rfl) ?_
      exact s_p F349 (v := .pointer (some ⟨g197, 0, none⟩)) (by kernel_rfl) (by kernel_rfl) (by kernel_rfl) S349
     ·intro w350 M350
      intro a350 F350 S350
      refine obl_of (by rfl) ?_
      exact s_p F350 (v := .pointer (some ⟨g197, 0, none⟩)) (by kernel_rfl) (by kernel_rfl) (by kernel_rfl) S350
     ·intro w351 M351
      intro a351 F351 S351
      refine obl_of (by rfl) ?_
      exact s_p F351 (v := .pointer (some ⟨g197, 0, none⟩)) (by kernel_rfl) (by kernel_rfl) (by kernel_rfl) S351
     ·intro w353 M353
      intro a353 F353 S353
      refine obl_of (by rfl) ?_
      exact s_p F353 (v := .pointer (some ⟨g197, 15, none⟩)) (by kernel_rfl) (by kernel_rfl) (by kernel_rfl) S353
     ·intro w355 M355
      intro a355 F355 S355
      refine obl_of (by rfl) ?_
      exact s_r (v := .slice A4 us.length c4) (r_ld rfl (F355.e (.pointer (some ⟨g197, 15, none⟩))) (v := .slice A4 us.length c4) (((Sp.dropM S355.drop).bk 1 rfl).cell 15) Try.underlying235 rfl) S355
     ·intro w357 M357
      intro a357 F357 S357
      refine obl_of (by rfl) ?_
      exact s_r (v := .agg (zq5 m.fDependencies[j])) (r_ldm rfl (F357.e (.pointer (some ⟨g320, 0, none⟩))) ((Sp.dropM S357.drop).bk 0 rfl) 7 (by kernel_rfl) Try.underlying80 rfl (by kernel_rfl) (v := (zq5 m.fDependencies[j])) (by kernel_rfl)) S357
     ·intro w358 M358
      intro a358 F358 S358
      refine obl_of (by rfl) ?_
      refine s_c F358 (f := 161) (args := #[.agg (zq5 m.fDependencies[j])]) (by kernel_rfl) (by kernel_rfl) (by kernel_rfl) (dependencyOf_sp m.fDependencies[j] _ _ _ S358.drop (fun w S => htg w (Sp.dropM S).drop.drop.drop.drop.drop.drop.drop.drop) (by first | omega | (simp; done) | (simp; omega))) ?_
      rintro _ _ ⟨q360, rfl, S360⟩
      exact ⟨_, _, rfl, ⟨q360, rfl, rfl⟩, S360⟩
     ·intro w361 M361
      rintro _ _ ⟨q360, rfl, rfl⟩ hA363
      intro a361 F361 S361
      refine obl_of (by rfl) ?_
      exact sAt_mono (s_news F361 240 #[.pointer q360] 1 (by kernel_rfl) (by kernel_rfl) (by kernel_rfl) S361.drop) fun _ _ ⟨g363, e1, e2⟩ => ⟨q360, g363, (by kernel_rfl), e1, e2⟩
     ·intro w364 M364
      rintro _ _ ⟨q360, rfl, rfl⟩ hA367
      rintro _ _ ⟨q360x, g363, e7_1, rfl, rfl⟩ hA368
      have e7_1 := envE_at (v := .pointer q360) e7_1 (by kernel_rfl)
      obtain rfl : q360 = q360x := by cases e7_1; rfl
      clear e7_1
      intro a364 F364 S364
      refine obl_of (by rfl) ?_
      exact sAt_mono (s_app rfl Try.underlying235 1 _ tin240 rfl rfl (F364.e (.slice A4 us.length c4)) S364 ([Value.pointer q360]) (F364.e (.slice (some ⟨g363, 0, none⟩) 1 1)) ((Sp.bkm S364.drop hA368).sl (by simp)) rfl (by simp [Value.oneCell']) (by omega) (by omega) (n' := (us ++ [q360]).length) (by first | (simp; done) | (simp; omega)) (cs' := pps (us ++ [q360])) (by simp [pps])) fun _ _ ⟨A369, c369, e1, e2⟩ => ⟨q360, A369, c369, (by kernel_rfl), e1, e2⟩
     ·intro w370 M370
      intro a370 F370 S370
      refine obl_of (by rfl) ?_
      exact s_p F370 (v := .pointer (some ⟨g197, 0, none⟩)) (by kernel_rfl) (by kernel_rfl) (by kernel_rfl) S370
     ·intro w372 M372
      intro a372 F372 S372
      refine obl_of (by rfl) ?_
      exact s_p F372 (v := .pointer (some ⟨g197, 15, none⟩)) (by kernel_rfl) (by kernel_rfl) (by kernel_rfl) S372
    ·rintro _ _ ⟨q360, rfl, rfl⟩
     rintro _ _ ⟨q360x, g363, e7_1, rfl, rfl⟩
     have e7_1 := envE_at (v := .pointer q360) e7_1 (by kernel_rfl)
     obtain rfl : q360 = q360x := by cases e7_1; rfl
     clear e7_1
     rintro _ _ ⟨q360x, A369, c369, e8_2, rfl, rfl⟩
     have e8_2 := envE_at (v := .pointer q360) e8_2 (by kernel_rfl)
     obtain rfl : q360 = q360x := by cases e8_2; rfl
     clear e8_2
     intro a375 w374 F375 S374
     have S376 : Sp R w374 (SA.own (.slice A369 ((us ++ [q360]).length) c369) 240 1 ((us ++ [q360]).length) (pps (us ++ [q360])) :: SA.blk g363 240 #[.pointer q360] :: SA.dep q360 m.fDependencies[j] :: SA.blk g320 80 (zq5 m.fDependencies[j]) :: SA.blk g197 237 #[.string m.fName, .string m.fHome, .slice A125 m.fSources.length c125, .string m.fVersion, .string m.fDescription, .slice A139 m.fKeywords.length c139, .slice A3 qs.length c3, .string m.fIcon, .string m.fAPIVersion, .string m.fCondition, .string m.fTags, .string m.fAppVersion, .bool false, .map none, .string m.fKubeVersion, .slice A4 us.length c4, .string m.fType] :: SA.zips SA.dep us (m.fDependencies.take j) :: SA.own (.slice A3 qs.length c3) 238 1 qs.length (pps qs) :: SA.zips SA.per qs m.fMaintainers :: SA.own0 (.slice A139 m.fKeywords.length c139) 9 1 m.fKeywords.length (strs m.fKeywords) :: SA.own0 (.slice A125 m.fSources.length c125) 9 1 m.fSources.length (strs m.fSources) :: SA.blk g1 26 (zq2 m) :: L) := S374
     refine op_sq0 F375 (s_st rfl (F375.e (.pointer (some ⟨g197, 15, none⟩))) (F375.e (.slice A369 ((us ++ [q360]).length) c369)) S376.p4 (by kernel_rfl) rfl rfl rfl (cs := #[.string m.fName, .string m.fHome, .slice A125 m.fSources.length c125, .string m.fVersion, .string m.fDescription, .slice A139 m.fKeywords.length c139, .slice A3 qs.length c3, .string m.fIcon, .string m.fAPIVersion, .string m.fCondition, .string m.fTags, .string m.fAppVersion, .bool false, .map none, .string m.fKubeVersion, .slice A369 ((us ++ [q360]).length) c369, .string m.fType]) (by kernel_rfl)) ?_
     rintro _ _ w377 rfl S377 F377
     refine wpList_nil ?_
     refine hK317 _ _ ?_; clear hK317 K317
     refine wp_region_lit ?_
     refine op_rq (v := .int .i64 (↑(j + 1))) F377 (r_add (z := ↑(j + 1)) rfl (F377.e (.int .i64 (↑j))) (F377.e (.int .i64 1)) (wr64 (by omega) (by omega) (by omega))) ?_; intro a378 F378
     refine op_q F378 (.int .i64 (↑(j + 1))) ?_; intro a379 F379
     refine wpList_nil ?_
     have S380 : Sp R w377 (SA.zips SA.dep (us ++ [q360]) (m.fDependencies.take (j + 1)) :: SA.blk g197 237 #[.string m.fName, .string m.fHome, .slice A125 m.fSources.length c125, .string m.fVersion, .string m.fDescription, .slice A139 m.fKeywords.length c139, .slice A3 qs.length c3, .string m.fIcon, .string m.fAPIVersion, .string m.fCondition, .string m.fTags, .string m.fAppVersion, .bool false, .map none, .string m.fKubeVersion, .slice A369 ((us ++ [q360]).length) c369, .string m.fType] :: SA.own (.slice A369 ((us ++ [q360]).length) c369) 240 1 ((us ++ [q360]).length) (pps (us ++ [q360])) :: SA.blk g363 240 #[.pointer q360] :: SA.blk g320 80 (zq5 m.fDependencies[j]) :: SA.own (.slice A3 qs.length c3) 238 1 qs.length (pps qs) :: SA.zips SA.per qs m.fMaintainers :: SA.own0 (.slice A139 m.fKeywords.length c139) 9 1 m.fKeywords.length (strs m.fKeywords) :: SA.own0 (.slice A125 m.fSources.length c125) 9 1 m.fSources.length (strs m.fSources) :: SA.blk g1 26 (zq2 m) :: L) := by rw [List.take_succ_eq_append_getElem hlt_j]; exact Sp.zsnoc S377.p5.p4
     exact hK311 _ _ _ (by first | omega | (simp; omega)) ⟨A369, c369, us ++ [q360], j + 1, rfl, (F379.kk 2 (F379.kk 3 (F379.kk 60 (F379.kk 61 (F379.kk 62 F379.nil))))), S380.p3.drop.p3.drop.p7.p7.p7.p7.p7.p5.p7.p7, (by first | omega | (with_reducible assumption) | (simp; done)), (by simp [hul])⟩
   ·have hc_j : decide ((↑j : Int) < ↑m.fDependencies.length) = false := by first | (simp; done) | (simp; omega)
    obtain rfl : j = m.fDependencies.length := by omega
    rw [List.take_length] at S311
    refine wp_seq_k fun K381 hK381 => ?_
    refine wp_region_lit ?_
    refine op_q F311 (.bool (decide ((↑m.fDependencies.length : Int) < ↑m.fDependencies.length))) ?_; intro a382 F382
    have F383 := F382.sb 63 (by kernel_rfl) hc_j
    refine wpList_nil ?_
    refine hK381 _ _ ?_; clear hK381 K381
    refine wp_seq_k fun K384 hK384 => ?_
    refine wp_cond_false (F383.ev (by kernel_rfl)) ?_
    refine wp_exit ?_
    refine ex_then ?_; clear hK384 K384
    refine ex_then ?_
    refine ex_in ?_
    refine hK303 _ _ ?_; clear hK303 K303
    refine wp_seq_k fun K385 hK385 => ?_
    refine wp_region_lit ?_
    refine op_q F383 (.pointer (some ⟨g197, 0, none⟩)) ?_; intro a386 F386
    refine op_q F386 (.pointer (some ⟨g197, 0, none⟩)) ?_; intro a387 F387
    refine wpList_nil ?_
    refine hK385 _ _ ?_; clear hK385 K385
    refine wp_ret ?_
    refine (F387.res1 rfl (v := .pointer (some ⟨g197, 0, none⟩)) (by kernel_rfl) ?_).1
    exact ⟨g197, A125, c125, A139, c139, A3, c3, qs, A4, c4, us, rfl, S311.p7.drop.p2.p2.p4.p4.p5.p6.p6⟩
end Go.Proofs.Ytkjcedlgljeoiaa

/- impl.personTold, dependencyTold, metaTold: metadata out of memory. -/
namespace Go.Proofs.Ytkjcedlgljeoiaa
open Go.RowKit Go.Lib
set_option linter.unusedVariables false
set_option linter.unusedSimpArgs false
/-- A maintainer as it is told. -/
def perT (p : Ty78) : Ty78 := cond p.fNil ⟨true, ⟨#[]⟩, ⟨#[]⟩, ⟨#[]⟩⟩ ⟨false, p.fName, p.fEmail, p.fURL⟩
theorem perT_nil {p : Ty78} (h : p.fNil = true) : perT p = ⟨true, ⟨#[]⟩, ⟨#[]⟩, ⟨#[]⟩⟩ := by unfold perT; rw [h]; rfl
theorem perT_some {p : Ty78} (h : p.fNil = false) : perT p = ⟨false, p.fName, p.fEmail, p.fURL⟩ := by unfold perT; rw [h]; rfl
set_option maxRecDepth 100000 in
set_option maxHeartbeats 20000000 in
theorem personTold_nil  (R : Ctx) (L : List SA) (w : World) (S : Sp R w (L))   :
    Calls Try.prog 181 #[.pointer none] w fun e w' => e = .returned (.agg #[.bool true, .string ⟨#[]⟩, .string ⟨#[]⟩, .string ⟨#[]⟩]) ∧ Sp R w' (L) := by
  refine fw_enter (fn := Try.f181) rfl rfl 19 rfl (Nat.le_of_ble_eq_true rfl) ?_
  intro a0 F0
  refine wp_seq_k fun K1 hK1 => ?_
  refine wp_region_lit ?_
  refine op_sq F0 (s_newp F0 78 #[.bool false, .string ⟨#[]⟩, .string ⟨#[]⟩, .string ⟨#[]⟩] (by kernel_rfl) (by kernel_rfl) (by kernel_rfl) S) ?_
  rintro _ _ w3 ⟨g1, rfl, rfl⟩ S3 a3 F3
  refine wpList_nil ?_
  refine hK1 _ _ ?_; clear hK1 K1
  refine wp_seq_k fun K4 hK4 => ?_
  refine wp_seq_k fun K5 hK5 => ?_
  refine wp_region_lit ?_
  refine op_q F3 (.pointer none) ?_; intro a6 F6
  refine op_q F6 (.bool true) ?_; intro a7 F7
  refine wpList_nil ?_
  refine hK5 _ _ ?_; clear hK5 K5
  refine wp_cond_true (F7.ev (by kernel_rfl)) ?_
  refine wp_seq_k fun K8 hK8 => ?_
  refine wp_region_lit ?_
  refine op_q F7 (.agg #[.bool true, .string ⟨#[]⟩, .string ⟨#[]⟩, .string ⟨#[]⟩]) ?_; intro a9 F9
  refine op_sq0 F9 (s_stb rfl (F9.e (.pointer (some ⟨g1, 0, none⟩))) (F9.e (.agg #[.bool true, .string ⟨#[]⟩, .string ⟨#[]⟩, .string ⟨#[]⟩])) S3 (by kernel_rfl) rfl (by kernel_rfl)) ?_
  rintro _ _ w10 rfl S10 F10
  refine wpList_nil ?_
  refine hK8 _ _ ?_; clear hK8 K8
  refine wp_ret ?_
  refine ret_then ?_
  refine (F10.resC (results1 (v := .agg #[.bool true, .string ⟨#[]⟩, .string ⟨#[]⟩, .string ⟨#[]⟩]) Try.results181 (F10.rvc (p := ⟨g1, 0, none⟩) (by kernel_rfl) (ld_mid (S10.bk 0 rfl) 4 (by kernel_rfl) Try.underlying78 rfl (by kernel_rfl) (v := #[.bool true, .string ⟨#[]⟩, .string ⟨#[]⟩, .string ⟨#[]⟩]) (by kernel_rfl)))) ?_).1
  exact ⟨rfl, S10.drop⟩
set_option maxRecDepth 100000 in
set_option maxHeartbeats 20000000 in
theorem personTold_some (p : Ty78) (g : Nat) (R : Ctx) (L : List SA) (w : World) (S : Sp R w (L)) (h0 : Rf R L fun w => Blk w (g) 270 #[.string (p.fName), .string (p.fEmail), .string (p.fURL)])  :
  Calls Try.prog 181 #[.pointer (some ⟨g, 0, none⟩)] w fun e w' => e = .returned (.agg #[.bool false, .string p.fName, .string p.fEmail, .string p.fURL]) ∧ Sp R w' (L) := by
 refine fw_enter (fn := Try.f181) rfl rfl 19 rfl (Nat.le_of_ble_eq_true rfl) ?_
 intro a0 F0
 refine wp_seq_k fun K1 hK1 => ?_
 refine wp_region_lit ?_
 refine op_sq F0 (s_newp F0 78 #[.bool false, .string ⟨#[]⟩, .string ⟨#[]⟩, .string ⟨#[]⟩] (by kernel_rfl) (by kernel_rfl) (by kernel_rfl) S) ?_
 rintro _ _ w3 ⟨g1, rfl, rfl⟩ S3 a3 F3
 refine wpList_nil ?_
 refine hK1 _ _ ?_; clear hK1 K1
 refine wp_seq_k fun K4 hK4 => ?_
 refine wp_seq_k fun K5 hK5 => ?_
 refine wp_region_lit ?_
 refine op_q F3 (.pointer (some ⟨g, 0, none⟩)) ?_; intro a6 F6
 refine op_q F6 (.bool false) ?_; intro a7 F7
 refine wpList_nil ?_
 refine hK5 _ _ ?_; clear hK5 K5
 refine wp_cond_false (F7.ev (by kernel_rfl)) ?_
 refine wp_skip ?_
 refine hK4 _ _ ?_; clear hK4 K4
 refine wp_seq_k fun K8 hK8 => ?_
 refine wp_region_sepF (L0 := SA.blk g1 78 #[.bool false, .string ⟨#[]⟩, .string ⟨#[]⟩, .string ⟨#[]⟩] :: L) [some [], some [(0, 6)], some [(1, 7)], some [(2, 8)], some [], some [(4, 10)], some [(5, 11)], some [(6, 12)], some [], some [(8, 14)], some [(9, 15)], some [(10, 16)], some [(3, 9), (7, 13), (11, 17)], none] [.v 6 (.pointer (some ⟨g, 0, none⟩)), .v 7 (.pointer (some ⟨g, 0, none⟩)), .v 8 (.pointer (some ⟨g, 0, none⟩)), .v 9 (.string p.fName), .v 10 (.pointer (some ⟨g, 0, none⟩)), .v 11 (.pointer (some ⟨g, 0, none⟩)), .v 12 (.pointer (some ⟨g, 1, none⟩)), .v 13 (.string p.fEmail), .v 14 (.pointer (some ⟨g, 0, none⟩)), .v 15 (.pointer (some ⟨g, 0, none⟩)), .v 16 (.pointer (some ⟨g, 2, none⟩)), .v 17 (.string p.fURL), .v 18 (.agg #[.bool false, .string p.fName, .string p.fEmail, .string p.fURL]), .n SA.emp (fun _ _ A => A = SA.emp)] [] F7 rfl (by kernel_rfl) S3 ?_ ?_
 ·refine ⟨?_, ?_, ?_, ?_, ?_, ?_, ?_, ?_, ?_, ?_, ?_, ?_, ?_, trivial⟩
  ·intro w34 M34
   intro a34 F34 S34
   refine obl_of (by rfl) ?_
   exact s_p F34 (v := .pointer (some ⟨g, 0, none⟩)) (by kernel_rfl) (by kernel_rfl) (by kernel_rfl) S34
  ·intro w35 M35
   intro a35 F35 S35
   refine obl_of (by rfl) ?_
   exact s_p F35 (v := .pointer (some ⟨g, 0, none⟩)) (by kernel_rfl) (by kernel_rfl) (by kernel_rfl) S35
  ·intro w37 M37
   intro a37 F37 S37
   refine obl_of (by rfl) ?_
   exact s_p F37 (v := .pointer (some ⟨g, 0, none⟩)) (by kernel_rfl) (by kernel_rfl) (by kernel_rfl) S37
  ·intro w39 M39
   intro a39 F39 S39
   refine obl_of (by rfl) ?_
   exact s_r (v := .string p.fName) (r_ld rfl (F39.e (.pointer (some ⟨g, 0, none⟩))) (v := .string p.fName) ((h0 _ (Sp.dropM S39.drop).drop).cell 0) Try.underlying9 rfl) S39
  ·intro w41 M41
   intro a41 F41 S41
   refine obl_of (by rfl) ?_
   exact s_p F41 (v := .pointer (some ⟨g, 0, none⟩)) (by kernel_rfl) (by kernel_rfl) (by kernel_rfl) S41
  ·intro w42 M42
   intro a42 F42 S42
   refine obl_of (by rfl) ?_
   exact s_p F42 (v := .pointer (some ⟨g, 0, none⟩)) (by kernel_rfl) (by kernel_rfl) (by kernel_rfl) S42
  ·intro w44 M44
   intro a44 F44 S44
   refine obl_of (by rfl) ?_
   exact s_p F44 (v := .pointer (some ⟨g, 1, none⟩)) (by kernel_rfl) (by kernel_rfl) (by kernel_rfl) S44
  ·intro w46 M46
   intro a46 F46 S46
   refine obl_of (by rfl) ?_
   exact s_r (v := .string p.fEmail) (r_ld rfl (F46.e (.pointer (some ⟨g, 1, none⟩))) (v := .string p.fEmail) ((h0 _ (Sp.dropM S46.drop).drop).cell 1) Try.underlying9 rfl) S46
  ·intro w48 M48
   intro a48 F48 S48
   refine obl_of (by rfl) ?_
   exact s_p F48 (v := .pointer (some ⟨g, 0, none⟩)) (by kernel_rfl) (by kernel_rfl) (by kernel_rfl) S48
  ·intro w49 M49
   intro a49 F49 S49
   refine obl_of (by rfl) ?_
   exact s_p F49 (v := .pointer (some ⟨g, 0, none⟩)) (by kernel_rfl) (by kernel_rfl) (by kernel_rfl) S49
  ·intro w51 M51
   intro a51 F51 S51
   refine obl_of (by rfl) ?_
   exact s_p F51 (v := .pointer (some ⟨g, 2, none⟩)) (by kernel_rfl) (by kernel_rfl) (by kernel_rfl) S51
  ·intro w53 M53
   intro a53 F53 S53
   refine obl_of (by rfl) ?_
   exact s_r (v := .string p.fURL) (r_ld rfl (F53.e (.pointer (some ⟨g, 2, none⟩))) (v := .string p.fURL) ((h0 _ (Sp.dropM S53.drop).drop).cell 2) Try.underlying9 rfl) S53
  ·intro w55 M55
   intro a55 F55 S55
   refine obl_of (by rfl) ?_
   exact s_p F55 (v := .agg #[.bool false, .string p.fName, .string p.fEmail, .string p.fURL]) (by kernel_rfl) (by kernel_rfl) (by kernel_rfl) S55
 ·intro a60 w59 F60 S59
  have S61 : Sp R w59 (SA.blk g1 78 #[.bool false, .string ⟨#[]⟩, .string ⟨#[]⟩, .string ⟨#[]⟩] :: L) := S59
  refine op_sq0 F60 (s_stb rfl (F60.e (.pointer (some ⟨g1, 0, none⟩))) (F60.e (.agg #[.bool false, .string p.fName, .string p.fEmail, .string p.fURL])) S61 (by kernel_rfl) rfl (by kernel_rfl)) ?_
  rintro _ _ w62 rfl S62 F62
  refine wpList_nil ?_
  refine hK8 _ _ ?_; clear hK8 K8
  refine wp_ret ?_
  refine (F62.resC (results1 (v := .agg #[.bool false, .string p.fName, .string p.fEmail, .string p.fURL]) Try.results181 (F62.rvc (p := ⟨g1, 0, none⟩) (by kernel_rfl) (ld_mid (S62.bk 0 rfl) 4 (by kernel_rfl) Try.underlying78 rfl (by kernel_rfl) (v := #[.bool false, .string p.fName, .string p.fEmail, .string p.fURL]) (by kernel_rfl)))) ?_).1
  exact ⟨rfl, S62.drop⟩
set_option maxRecDepth 100000 in
set_option maxHeartbeats 20000000 in
theorem dependencyTold_nil  (R : Ctx) (L : List SA) (w : World) (S : Sp R w (L))   :
    Calls Try.prog 182 #[.pointer none] w fun e w' => e = .returned (.agg #[.bool true, .string ⟨#[]⟩, .string ⟨#[]⟩, .string ⟨#[]⟩, .string ⟨#[]⟩, .slice none 0 0, .string ⟨#[]⟩]) ∧ Sp R w' (L) := by
  refine fw_enter (fn := Try.f182) rfl rfl 33 rfl (Nat.le_of_ble_eq_true rfl) ?_
  intro a0 F0
  refine wp_seq_k fun K1 hK1 => ?_
  refine wp_region_lit ?_
  refine op_sq F0 (s_newp F0 80 #[.bool false, .string ⟨#[]⟩, .string ⟨#[]⟩, .string ⟨#[]⟩, .string ⟨#[]⟩, .slice none 0 0, .string ⟨#[]⟩] (by kernel_rfl) (by kernel_rfl) (by kernel_rfl) S) ?_
  rintro _ _ w3 ⟨g1, rfl, rfl⟩ S3 a3 F3
  refine wpList_nil ?_
  refine hK1 _ _ ?_; clear hK1 K1
  refine wp_seq_k fun K4 hK4 => ?_
  refine wp_seq_k fun K5 hK5 => ?_
  refine wp_region_lit ?_
  refine op_q F3 (.pointer none) ?_; intro a6 F6
  refine op_q F6 (.bool true) ?_; intro a7 F7
  refine wpList_nil ?_
  refine hK5 _ _ ?_; clear hK5 K5
  refine wp_cond_true (F7.ev (by kernel_rfl)) ?_
  refine wp_seq_k fun K8 hK8 => ?_
  refine wp_region_lit ?_
  refine op_q F7 (.agg #[.bool true, .string ⟨#[]⟩, .string ⟨#[]⟩, .string ⟨#[]⟩, .string ⟨#[]⟩, .slice none 0 0, .string ⟨#[]⟩]) ?_; intro a9 F9
  refine op_sq0 F9 (s_stb rfl (F9.e (.pointer (some ⟨g1, 0, none⟩))) (F9.e (.agg #[.bool true, .string ⟨#[]⟩, .string ⟨#[]⟩, .string ⟨#[]⟩, .string ⟨#[]⟩, .slice none 0 0, .string ⟨#[]⟩])) S3 (by kernel_rfl) rfl (by kernel_rfl)) ?_
  rintro _ _ w10 rfl S10 F10
  refine wpList_nil ?_
  refine hK8 _ _ ?_; clear hK8 K8
  refine wp_ret ?_
  refine ret_then ?_
  refine (F10.resC (results1 (v := .agg #[.bool true, .string ⟨#[]⟩, .string ⟨#[]⟩, .string ⟨#[]⟩, .string ⟨#[]⟩, .slice none 0 0, .string ⟨#[]⟩]) Try.results182 (F10.rvc (p := ⟨g1, 0, none⟩) (by kernel_rfl) (ld_mid (S10.bk 0 rfl) 7 (by kernel_rfl) Try.underlying80 rfl (by kernel_rfl) (v := #[.bool true, .string ⟨#[]⟩, .string ⟨#[]⟩, .string ⟨#[]⟩, .string ⟨#[]⟩, .slice none 0 0, .string ⟨#[]⟩]) (by kernel_rfl)))) ?_).1
  exact ⟨rfl, S10.drop⟩
abbrev zq6 : Array Value := #[.bool false, .string ⟨#[]⟩, .string ⟨#[]⟩, .string ⟨#[]⟩, .string ⟨#[]⟩, .slice none 0 0, .string ⟨#[]⟩]
abbrev zq7 (x0 : Ty80) (x1 : Option Addr) (x2 : Nat) : Array Value := #[.bool false, .string x0.fName, .string x0.fVersion, .string x0.fRepository, .string x0.fCondition, .slice x1 x0.fTags.length x2, .string x0.fAlias]
set_option maxRecDepth 100000 in
set_option maxHeartbeats 20000000 in
theorem dependencyTold_some (d : Ty80) (g : Nat) (A : Option Addr) (c : Nat) (R : Ctx) (L : List SA) (w : World) (S : Sp R w (L)) (h0 : Rf R L fun w => Blk w (g) 262 #[.string (d.fName), .string (d.fVersion), .string (d.fRepository), .string (d.fCondition), .slice (A) (d.fTags.length) (c), .bool false, .slice none 0 0, .string (d.fAlias)]) (h1 : Rf R L fun w => Sl w (A) (strs d.fTags)) (hz : d.fTags.length ≤ 1000000) :
  Calls Try.prog 182 #[.pointer (some ⟨g, 0, none⟩)] w fun e w' => ∃ B : Option Addr, ∃ b : Nat, e = .returned (.agg #[.bool false, .string d.fName, .string d.fVersion, .string d.fRepository, .string d.fCondition, .slice B (d.fTags.length) b, .string d.fAlias]) ∧ Sp R w' (SA.own0 (.slice B d.fTags.length b) 9 1 (d.fTags.length) (strs d.fTags) :: L) := by
 have hl_d_fTags : d.fTags.length ≤ 9223372036854775807 := by have := (h1 _ S).1; simpa [strs, ptrs, pps] using this
 refine fw_enter (fn := Try.f182) rfl rfl 33 rfl (Nat.le_of_ble_eq_true rfl) ?_
 intro a0 F0
 refine wp_seq_k fun K1 hK1 => ?_
 refine wp_region_lit ?_
 refine op_sq F0 (s_newp F0 80 zq6 (by kernel_rfl) (by kernel_rfl) (by kernel_rfl) S) ?_
 rintro _ _ w3 ⟨g1, rfl, rfl⟩ S3 a3 F3
 refine wpList_nil ?_
 refine hK1 _ _ ?_; clear hK1 K1
 refine wp_seq_k fun K4 hK4 => ?_
 refine wp_seq_k fun K5 hK5 => ?_
 refine wp_region_lit ?_
 refine op_q F3 (.pointer (some ⟨g, 0, none⟩)) ?_; intro a6 F6
 refine op_q F6 (.bool false) ?_; intro a7 F7
 refine wpList_nil ?_
 refine hK5 _ _ ?_; clear hK5 K5
 refine wp_cond_false (F7.ev (by kernel_rfl)) ?_
 refine wp_skip ?_
 refine hK4 _ _ ?_; clear hK4 K4
 refine wp_seq_k fun K8 hK8 => ?_
 refine wp_region_sepF (L0 := SA.blk g1 80 zq6 :: L) [some [], some [(0, 6)], some [(1, 7)], some [(2, 8)], some [], some [(4, 10)], some [(5, 11)], some [(6, 12)], some [], some [(8, 14)], some [(9, 15)], some [(10, 16)], some [], some [(12, 18)], some [(13, 19)], some [(14, 20)], some [], some [], some [(17, 23)], some [(18, 24)], some [(19, 25)], some [(16, 22), (20, 26)], some [], some [(22, 28)], some [(23, 29)], some [(24, 30)], some [(3, 9), (7, 13), (11, 17), (15, 21), (16, 22), (20, 26), (21, 27), (25, 31)], none] [.v 6 (.pointer (some ⟨g, 0, none⟩)), .v 7 (.pointer (some ⟨g, 0, none⟩)), .v 8 (.pointer (some ⟨g, 0, none⟩)), .v 9 (.string d.fName), .v 10 (.pointer (some ⟨g, 0, none⟩)), .v 11 (.pointer (some ⟨g, 0, none⟩)), .v 12 (.pointer (some ⟨g, 1, none⟩)), .v 13 (.string d.fVersion), .v 14 (.pointer (some ⟨g, 0, none⟩)), .v 15 (.pointer (some ⟨g, 0, none⟩)), .v 16 (.pointer (some ⟨g, 2, none⟩)), .v 17 (.string d.fRepository), .v 18 (.pointer (some ⟨g, 0, none⟩)), .v 19 (.pointer (some ⟨g, 0, none⟩)), .v 20 (.pointer (some ⟨g, 3, none⟩)), .v 21 (.string d.fCondition), .p 22 (SA.emp) (fun _ vv AA => ∃ g93 : Nat, vv = .slice (some ⟨g93, 0, none⟩) 0 0 ∧ AA = SA.blk g93 9 #[]), .v 23 (.pointer (some ⟨g, 0, none⟩)), .v 24 (.pointer (some ⟨g, 0, none⟩)), .v 25 (.pointer (some ⟨g, 4, none⟩)), .v 26 (.slice (A) (d.fTags.length) (c)), .p 27 (SA.emp) (fun _ vv AA => ∃ A104 : Option Addr, ∃ c104 : Nat, vv = .slice A104 d.fTags.length c104 ∧ AA = SA.own0 (.slice A104 d.fTags.length c104) 9 1 d.fTags.length (strs d.fTags)), .v 28 (.pointer (some ⟨g, 0, none⟩)), .v 29 (.pointer (some ⟨g, 0, none⟩)), .v 30 (.pointer (some ⟨g, 7, none⟩)), .v 31 (.string d.fAlias), .p 32 (SA.emp) (fun env vv AA => ∃ A104x : Option Addr, ∃ c104x : Nat, (env.getD 6 undef) = .slice A104x d.fTags.length c104x ∧ vv = .agg (zq7 d A104x c104x) ∧ AA = SA.emp), .n SA.emp (fun _ _ A => A = SA.emp)] [] F7 rfl (by kernel_rfl) S3.emp.emp.emp ?_ ?_
 ·refine ⟨?_, ?_, ?_, ?_, ?_, ?_, ?_, ?_, ?_, ?_, ?_, ?_, ?_, ?_, ?_, ?_, ?_, ?_, ?_, ?_, ?_, ?_, ?_, ?_, ?_, ?_, ?_, trivial⟩
  ·intro w65 M65
   intro a65 F65 S65
   refine obl_of (by rfl) ?_
   exact s_p F65 (v := .pointer (some ⟨g, 0, none⟩)) (by kernel_rfl) (by kernel_rfl) (by kernel_rfl) S65
  ·intro w66 M66
   intro a66 F66 S66
   refine obl_of (by rfl) ?_
   exact s_p F66 (v := .pointer (some ⟨g, 0, none⟩)) (by kernel_rfl) (by kernel_rfl) (by kernel_rfl) S66
  ·intro w68 M68
   intro a68 F68 S68
   refine obl_of (by rfl) ?_
   exact s_p F68 (v := .pointer (some ⟨g, 0, none⟩)) (by kernel_rfl) (by kernel_rfl) (by kernel_rfl) S68
  ·intro w70 M70
   intro a70 F70 S70
   refine obl_of (by rfl) ?_
   exact s_r (v := .string d.fName) (r_ld rfl (F70.e (.pointer (some ⟨g, 0, none⟩))) (v := .string d.fName) ((h0 _ (Sp.dropM S70.drop).drop).cell 0) Try.underlying9 rfl) S70
  ·intro w72 M72
   intro a72 F72 S72
   refine obl_of (by rfl) ?_
   exact s_p F72 (v := .pointer (some ⟨g, 0, none⟩)) (by kernel_rfl) (by kernel_rfl) (by kernel_rfl) S72
  ·intro w73 M73
   intro a73 F73 S73
   refine obl_of (by rfl) ?_
   exact s_p F73 (v := .pointer (some ⟨g, 0, none⟩)) (by kernel_rfl) (by kernel_rfl) (by kernel_rfl) S73
  ·intro w75 M75
   intro a75 F75 S75
   refine obl_of (by rfl) ?_
   exact s_p F75 (v := .pointer (some ⟨g, 1, none⟩)) (by kernel_rfl) (by kernel_rfl) (by kernel_rfl) S75
  ·intro w77 M77
   intro a77 F77 S77
   refine obl_of (by rfl) ?_
   exact s_r (v := .string d.fVersion) (r_ld rfl (F77.e (.pointer (some ⟨g, 1, none⟩))) (v := .string d.fVersion) ((h0 _ (Sp.dropM S77.drop).drop).cell 1) Try.underlying9 rfl) S77
  ·intro w79 M79
   intro a79 F79 S79
   refine obl_of (by rfl) ?_
   exact s_p F79 (v := .pointer (some ⟨g, 0, none⟩)) (by kernel_rfl) (by kernel_rfl) (by kernel_rfl) S79
  ·intro w80 M80
   intro a80 F80 S80
   refine obl_of (by rfl) ?_
   exact s_p F80 (v := .pointer (some ⟨g, 0, none⟩)) (by kernel_rfl) (by kernel_rfl) (by kernel_rfl) S80
  ·intro w82 M82
   intro a82 F82 S82
   refine obl_of (by rfl) ?_
   exact s_p F82 (v := .pointer (some ⟨g, 2, none⟩)) (by kernel_rfl) (by kernel_rfl) (by kernel_rfl) S82
  ·intro w84 M84
   intro a84 F84 S84
   refine obl_of (by rfl) ?_
   exact s_r (v := .string d.fRepository) (r_ld rfl (F84.e (.pointer (some ⟨g, 2, none⟩))) (v := .string d.fRepository) ((h0 _ (Sp.dropM S84.drop).drop).cell 2) Try.underlying9 rfl) S84
  ·intro w86 M86
   intro a86 F86 S86
   refine obl_of (by rfl) ?_
   exact s_p F86 (v := .pointer (some ⟨g, 0, none⟩)) (by kernel_rfl) (by kernel_rfl) (by kernel_rfl) S86
  ·intro w87 M87
   intro a87 F87 S87
   refine obl_of (by rfl) ?_
   exact s_p F87 (v := .pointer (some ⟨g, 0, none⟩)) (by kernel_rfl) (by kernel_rfl) (by kernel_rfl) S87
  ·intro w89 M89
   intro a89 F89 S89
   refine obl_of (by rfl) ?_
   exact s_p F89 (v := .pointer (some ⟨g, 3, none⟩)) (by kernel_rfl) (by kernel_rfl) (by kernel_rfl) S89
  ·intro w91 M91
   intro a91 F91 S91
   refine obl_of (by rfl) ?_
   exact s_r (v := .string d.fCondition) (r_ld rfl (F91.e (.pointer (some ⟨g, 3, none⟩))) (v := .string d.fCondition) ((h0 _ (Sp.dropM S91.drop).drop).cell 3) Try.underlying9 rfl) S91
  ·intro w93 M93
   intro a93 F93 S93
   refine obl_of (by rfl) ?_
   exact s_news F93 9 #[] 0 (by kernel_rfl) (by kernel_rfl) (by kernel_rfl) S93.drop
  ·intro w94 M94
   intro a94 F94 S94
   refine obl_of (by rfl) ?_
   exact s_p F94 (v := .pointer (some ⟨g, 0, none⟩)) (by kernel_rfl) (by kernel_rfl) (by kernel_rfl) S94
  ·intro w95 M95
   intro a95 F95 S95
   refine obl_of (by rfl) ?_
   exact s_p F95 (v := .pointer (some ⟨g, 0, none⟩)) (by kernel_rfl) (by kernel_rfl) (by kernel_rfl) S95
  ·intro w97 M97
   intro a97 F97 S97
   refine obl_of (by rfl) ?_
   exact s_p F97 (v := .pointer (some ⟨g, 4, none⟩)) (by kernel_rfl) (by kernel_rfl) (by kernel_rfl) S97
  ·intro w99 M99
   intro a99 F99 S99
   refine obl_of (by rfl) ?_
   exact s_r (v := .slice (A) (d.fTags.length) (c)) (r_ld rfl (F99.e (.pointer (some ⟨g, 4, none⟩))) (v := .slice (A) (d.fTags.length) (c)) ((h0 _ (Sp.dropM S99.drop).drop).cell 4) Try.underlying22 rfl) S99
  ·intro w101 M101
   rintro _ _ ⟨g93, rfl, rfl⟩ hA102
   intro a101 F101 S101
   refine obl_of (by rfl) ?_
   exact s_app0 rfl Try.underlying22 1 _ tin9 rfl rfl (F101.e (.slice (some ⟨g93, 0, none⟩) 0 0)) S101.drop (strs d.fTags) (F101.e (.slice (A) (d.fTags.length) (c))) (h1 _ (Sp.dropM S101.drop).drop) (by first | (simp [strs, ptrs, pps]; done) | (simp [strs, ptrs, pps]; omega)) (by omega) (by omega)
  ·intro w105 M105
   intro a105 F105 S105
   refine obl_of (by rfl) ?_
   exact s_p F105 (v := .pointer (some ⟨g, 0, none⟩)) (by kernel_rfl) (by kernel_rfl) (by kernel_rfl) S105
  ·intro w106 M106
   intro a106 F106 S106
   refine obl_of (by rfl) ?_
   exact s_p F106 (v := .pointer (some ⟨g, 0, none⟩)) (by kernel_rfl) (by kernel_rfl) (by kernel_rfl) S106
  ·intro w108 M108
   intro a108 F108 S108
   refine obl_of (by rfl) ?_
   exact s_p F108 (v := .pointer (some ⟨g, 7, none⟩)) (by kernel_rfl) (by kernel_rfl) (by kernel_rfl) S108
  ·intro w110 M110
   intro a110 F110 S110
   refine obl_of (by rfl) ?_
   exact s_r (v := .string d.fAlias) (r_ld rfl (F110.e (.pointer (some ⟨g, 7, none⟩))) (v := .string d.fAlias) ((h0 _ (Sp.dropM S110.drop).drop).cell 7) Try.underlying9 rfl) S110
  ·intro w112 M112
   rintro _ _ ⟨g93, rfl, rfl⟩ hA117
   rintro _ _ ⟨A104, c104, rfl, rfl⟩ hA119
   intro a112 F112 S112
   refine obl_of (by rfl) ?_
   exact sAt_mono (s_p F112 (v := .agg (zq7 d A104 c104)) (by kernel_rfl) (by kernel_rfl) (by kernel_rfl) S112) fun _ _ ⟨e1, e2⟩ => ⟨A104, c104, (by kernel_rfl), e1, e2⟩
 ·rintro _ _ ⟨g93, rfl, rfl⟩
  rintro _ _ ⟨A104, c104, rfl, rfl⟩
  rintro _ _ ⟨A104x, c104x, e26_6, rfl, rfl⟩
  have e26_6 := envE_at (v := .slice A104 d.fTags.length c104) e26_6 (by kernel_rfl)
  obtain ⟨rfl, rfl⟩ : A104 = A104x ∧ c104 = c104x := by cases e26_6; exact ⟨rfl, rfl⟩
  clear e26_6
  intro a122 w121 F122 S121
  have S123 : Sp R w121 (SA.own0 (.slice A104 d.fTags.length c104) 9 1 d.fTags.length (strs d.fTags) :: SA.blk g93 9 #[] :: SA.blk g1 80 zq6 :: L) := S121.drop
  refine op_sq0 F122 (s_stb rfl (F122.e (.pointer (some ⟨g1, 0, none⟩))) (F122.e (.agg (zq7 d A104 c104))) S123.p2 (by kernel_rfl) rfl (by kernel_rfl)) ?_
  rintro _ _ w124 rfl S124 F124
  refine wpList_nil ?_
  refine hK8 _ _ ?_; clear hK8 K8
  refine wp_ret ?_
  refine (F124.resC (results1 (v := .agg (zq7 d A104 c104)) Try.results182 (F124.rvc (p := ⟨g1, 0, none⟩) (by kernel_rfl) (ld_mid (S124.bk 0 rfl) 7 (by kernel_rfl) Try.underlying80 rfl (by kernel_rfl) (v := (zq7 d A104 c104)) (by kernel_rfl)))) ?_).1
  exact ⟨A104, c104, rfl, S124.drop.p1.drop⟩
theorem personTold_sp (q : Option Addr) (p : Ty78) (R : Ctx) (L : List SA) (w : World) (S : Sp R w (SA.per q p :: L)) :
    Calls Try.prog 181 #[.pointer q] w fun e w' => e = .returned (.agg #[.bool ((perT p).fNil), .string ((perT p).fName), .string ((perT p).fEmail), .string ((perT p).fURL)]) ∧ Sp R w' (SA.per q p :: L) := by
  rcases S.per_open with ⟨h1, rfl, S2⟩ | ⟨h1, g, rfl, S2⟩
  · exact (personTold_nil R L w S2).mono fun e w' ⟨he, hS⟩ => ⟨by rw [perT_nil h1]; exact he, Sp.per_nil h1 hS⟩
  · exact (personTold_some p g R _ w S2 (fun w S => S.bk 0 rfl)).mono fun e w' ⟨he, hS⟩ => ⟨by rw [perT_some h1]; exact he, Sp.per_some h1 hS⟩
/-- A dependency as it is told; its tags lie elsewhere. -/
def depT (d : Ty80) (A : Option Addr) (c : Nat) : Ty80 := cond d.fNil ⟨true, ⟨#[]⟩, ⟨#[]⟩, ⟨#[]⟩, ⟨#[]⟩, none, 0, [], ⟨#[]⟩⟩ ⟨false, d.fName, d.fVersion, d.fRepository, d.fCondition, A, c, d.fTags, d.fAlias⟩
theorem depT_nil {d : Ty80} {A : Option Addr} {c : Nat} (h : d.fNil = true) : depT d A c = ⟨true, ⟨#[]⟩, ⟨#[]⟩, ⟨#[]⟩, ⟨#[]⟩, none, 0, [], ⟨#[]⟩⟩ := by unfold depT; rw [h]; rfl
theorem depT_some {d : Ty80} {A : Option Addr} {c : Nat} (h : d.fNil = false) : depT d A c = ⟨false, d.fName, d.fVersion, d.fRepository, d.fCondition, A, c, d.fTags, d.fAlias⟩ := by unfold depT; rw [h]; rfl
/-- The tags of a dependency of one's own. -/
abbrev SA.tg (d : Ty80) : SA := SA.own0 (.slice d.fTags_a d.fTags.length d.fTags_c) 9 1 d.fTags.length (strs d.fTags)
theorem Sp.own0nil {R : Ctx} {w : World} {L : List SA} {e : TypeId} {sz : Nat} (S : Sp R w L) : Sp R w (SA.own0 (.slice none 0 0) e sz 0 [] :: L) := Sp.own0_of S.nilown
end Go.Proofs.Ytkjcedlgljeoiaa

/- impl.metaTold: metadata out of memory. -/
namespace Go.Proofs.Ytkjcedlgljeoiaa
open Go.RowKit Go.Lib
set_option linter.unusedVariables false
set_option linter.unusedSimpArgs false
theorem Sp.zclose {R : Ctx} {w : World} {L : List SA} {β α : Type} {f : β → α → SA} {vs : List β} {xs : List α} {k : Nat} (h : k < xs.length) (hv : k < vs.length) (S : Sp R w (f vs[k] xs[k] :: SA.zips f (vs.take k) (xs.take k) :: SA.zips f (vs.drop (k + 1)) (xs.drop (k + 1)) :: L)) : Sp R w (SA.zips f vs xs :: L) := by
  have := Sp.zback (k := k) (by simp; omega) (by simp; omega) (by simp; omega) S
  rwa [List.getElem_cons_drop, List.take_append_drop, List.getElem_cons_drop, List.take_append_drop] at this
/-- But for where the tags lie. -/
def depS (d : Ty80) : Ty80 := { d with fTags_a := none, fTags_c := 0 }
theorem depS_told {d : Ty80} {B : Option Addr} {b : Nat} : depS (depT d B b) = depT d none 0 := by unfold depS depT; cases d.fNil <;> rfl
theorem tg_nil {R : Ctx} {w : World} {L : List SA} {d : Ty80} (h : d.fNil = true) (S : Sp R w L) : Sp R w (SA.tg (depT d none 0) :: L) := by rw [depT_nil h]; exact S.own0nil
theorem tg_some {R : Ctx} {w : World} {L : List SA} {d : Ty80} {B : Option Addr} {b : Nat} (h : d.fNil = false) (S : Sp R w (SA.own0 (.slice B d.fTags.length b) 9 1 d.fTags.length (strs d.fTags) :: L)) : Sp R w (SA.tg (depT d B b) :: L) := by rw [depT_some h]; exact S
theorem stars_snoc {R : Ctx} {w : World} {L l : List SA} {A : SA} (S : Sp R w (A :: SA.stars l :: L)) : Sp R w (SA.stars (l ++ [A]) :: L) :=
  Sp.stars.2 (by rw [List.append_assoc]; exact Sp.stars.1 S.swap)

abbrev zq8 : Array Value := #[.string ⟨#[]⟩, .string ⟨#[]⟩, .string ⟨#[]⟩, .string ⟨#[]⟩, .string ⟨#[]⟩, .string ⟨#[]⟩, .string ⟨#[]⟩, .string ⟨#[]⟩, .string ⟨#[]⟩, .string ⟨#[]⟩, .string ⟨#[]⟩, .slice none 0 0, .slice none 0 0, .slice none 0 0, .slice none 0 0]
abbrev zq9 (x0 : Ty26) (x1 : Option Addr) (x2 : Nat) (x3 : Option Addr) (x4 : Nat) : Array Value := #[.string x0.fName, .string x0.fHome, .string x0.fVersion, .string x0.fDescription, .string x0.fIcon, .string x0.fAPIVersion, .string x0.fCondition, .string x0.fTags, .string x0.fAppVersion, .string x0.fKubeVersion, .string x0.fType, .slice x1 x0.fSources.length x2, .slice x3 x0.fKeywords.length x4, .slice none 0 0, .slice none 0 0]
abbrev zq10 : Array Value := #[.bool true, .string ⟨#[]⟩, .string ⟨#[]⟩, .string ⟨#[]⟩, .string ⟨#[]⟩, .slice none 0 0, .string ⟨#[]⟩]
abbrev zq11 (x0 : Ty80) (x1 : Option Addr) (x2 : Nat) : Array Value := #[.bool false, .string x0.fName, .string x0.fVersion, .string x0.fRepository, .string x0.fCondition, .slice x1 (x0.fTags.length) x2, .string x0.fAlias]
abbrev zq12 (x0 : Ty26) (x1 : Option Addr) (x2 : Nat) (x3 : Option Addr) (x4 : Nat) (x5 : Option Addr) (x6 : Nat) (x7 : Option Addr) (x8 : Nat) : Array Value := #[.string x0.fName, .string x0.fHome, .string x0.fVersion, .string x0.fDescription, .string x0.fIcon, .string x0.fAPIVersion, .string x0.fCondition, .string x0.fTags, .string x0.fAppVersion, .string x0.fKubeVersion, .string x0.fType, .slice x1 x0.fSources.length x2, .slice x3 x0.fKeywords.length x4, .slice x5 x0.fMaintainers.length x6, .slice x7 x0.fDependencies.length x8]
set_option maxRecDepth 100000 in
set_option maxHeartbeats 20000000 in
theorem metaTold_sp (m : Ty26) (gm : Nat) (A1 : Option Addr) (c1 : Nat) (A2 : Option Addr) (c2 : Nat) (A3 : Option Addr) (c3 : Nat) (A4 : Option Addr) (c4 : Nat) (qs : List (Option Addr)) (us : List (Option Addr)) (R : Ctx) (L : List SA) (w : World) (S : Sp R w (SA.zips SA.per qs m.fMaintainers :: SA.zips SA.dep us m.fDependencies :: L)) (h0 : Rf R L fun w => Blk w (gm) 237 #[.string (m.fName), .string (m.fHome), .slice (A1) (m.fSources.length) (c1), .string (m.fVersion), .string (m.fDescription), .slice (A2) (m.fKeywords.length) (c2), .slice (A3) (qs.length) (c3), .string (m.fIcon), .string (m.fAPIVersion), .string (m.fCondition), .string (m.fTags), .string (m.fAppVersion), .bool false, .map none, .string (m.fKubeVersion), .slice (A4) (us.length) (c4), .string (m.fType)]) (h1 : Rf R L fun w => Sl w (A1) (strs m.fSources)) (h2 : Rf R L fun w => Sl w (A2) (strs m.fKeywords)) (h3 : Rf R L fun w => Sl w (A3) (pps qs)) (h4 : Rf R L fun w => Sl w (A4) (pps us)) (hm1 : m.fSources.length ≤ 1000000) (hm2 : m.fKeywords.length ≤ 1000000) (hm3 : m.fMaintainers.length ≤ 1000000) (hm4 : m.fDependencies.length ≤ 1000000) (hm5 : ∀ d ∈ m.fDependencies, d.fTags.length ≤ 1000000) :
  Calls Try.prog 117 #[.pointer (some ⟨gm, 0, none⟩)] w fun e w' => ∃ B1 : Option Addr, ∃ b1 : Nat, ∃ B2 : Option Addr, ∃ b2 : Nat, ∃ B3 : Option Addr, ∃ b3 : Nat, ∃ B4 : Option Addr, ∃ b4 : Nat, ∃ ds : List Ty80, e = .returned (.agg #[.string m.fName, .string m.fHome, .string m.fVersion, .string m.fDescription, .string m.fIcon, .string m.fAPIVersion, .string m.fCondition, .string m.fTags, .string m.fAppVersion, .string m.fKubeVersion, .string m.fType, .slice B1 (m.fSources.length) b1, .slice B2 (m.fKeywords.length) b2, .slice B3 (m.fMaintainers.length) b3, .slice B4 (m.fDependencies.length) b4]) ∧ Sp R w' (SA.own0 (.slice B1 m.fSources.length b1) 9 1 (m.fSources.length) (strs m.fSources) :: SA.own0 (.slice B2 m.fKeywords.length b2) 9 1 (m.fKeywords.length) (strs m.fKeywords) :: SA.own (.slice B3 m.fMaintainers.length b3) 78 4 (m.fMaintainers.length) (flatC Ty78.cells (m.fMaintainers.map perT)) :: SA.own (.slice B4 m.fDependencies.length b4) 80 7 (m.fDependencies.length) (flatC Ty80.cells ds) :: SA.stars (ds.map SA.tg) :: SA.zips SA.per qs m.fMaintainers :: SA.zips SA.dep us m.fDependencies :: L) ∧ (ds.map depS = m.fDependencies.map (fun d => depT d none 0)) := by
 have hl_m_fSources : m.fSources.length ≤ 9223372036854775807 := by have := (h1 _ S.drop.drop).1; simpa [strs, ptrs, pps] using this
 have hl_m_fKeywords : m.fKeywords.length ≤ 9223372036854775807 := by have := (h2 _ S.drop.drop).1; simpa [strs, ptrs, pps] using this
 have hl_qs : qs.length ≤ 9223372036854775807 := by have := (h3 _ S.drop.drop).1; simpa [strs, ptrs, pps] using this
 have hl_us : us.length ≤ 9223372036854775807 := by have := (h4 _ S.drop.drop).1; simpa [strs, ptrs, pps] using this
 have hql := Sp.zlen S
 have hul := Sp.zlen S.swap
 refine fw_enter (fn := Try.f117) rfl rfl 103 rfl (Nat.le_of_ble_eq_true rfl) ?_
 intro a0 F0
 refine wp_seq_k fun K1 hK1 => ?_
 refine wp_region_lit ?_
 refine op_sq F0 (s_newp F0 26 zq8 (by kernel_rfl) (by kernel_rfl) (by kernel_rfl) S) ?_
 rintro _ _ w3 ⟨g1, rfl, rfl⟩ S3 a3 F3
 refine wpList_nil ?_
 refine hK1 _ _ ?_; clear hK1 K1
 refine wp_seq_k fun K4 hK4 => ?_
 refine wp_seq_k fun K5 hK5 => ?_
 refine wp_region_lit ?_
 refine op_q F3 (.pointer (some ⟨gm, 0, none⟩)) ?_; intro a6 F6
 refine op_q F6 (.bool false) ?_; intro a7 F7
 refine wpList_nil ?_
 refine hK5 _ _ ?_; clear hK5 K5
 refine wp_cond_false (F7.ev (by kernel_rfl)) ?_
 refine wp_skip ?_
 refine hK4 _ _ ?_; clear hK4 K4
 refine wp_seq_k fun K8 hK8 => ?_
 refine wp_region_sepF (L0 := SA.blk g1 26 zq8 :: SA.zips SA.per qs m.fMaintainers :: SA.zips SA.dep us m.fDependencies :: L) [some [], some [(0, 11)], some [(1, 12)], some [(2, 13)], some [], some [(4, 15)], some [(5, 16)], some [(6, 17)], some [], some [], some [(9, 20)], some [(10, 21)], some [(11, 22)], some [(8, 19), (12, 23)], some [], some [(14, 25)], some [(15, 26)], some [(16, 27)], some [], some [(18, 29)], some [(19, 30)], some [(20, 31)], some [], some [], some [(23, 34)], some [(24, 35)], some [(25, 36)], some [(22, 33), (26, 37)], some [], some [(28, 39)], some [(29, 40)], some [(30, 41)], some [], some [(32, 43)], some [(33, 44)], some [(34, 45)], some [], some [(36, 47)], some [(37, 48)], some [(38, 49)], some [], some [(40, 51)], some [(41, 52)], some [(42, 53)], some [], some [(44, 55)], some [(45, 56)], some [(46, 57)], some [], some [(48, 59)], some [(49, 60)], some [(50, 61)], some [], some [(52, 63)], some [(53, 64)], some [(54, 65)], some [(3, 14), (7, 18), (8, 19), (12, 23), (13, 24), (17, 28), (21, 32), (22, 33), (26, 37), (27, 38), (31, 42), (35, 46), (39, 50), (43, 54), (47, 58), (51, 62), (55, 66)], some [], none] [.v 11 (.pointer (some ⟨gm, 0, none⟩)), .v 12 (.pointer (some ⟨gm, 0, none⟩)), .v 13 (.pointer (some ⟨gm, 0, none⟩)), .v 14 (.string m.fName), .v 15 (.pointer (some ⟨gm, 0, none⟩)), .v 16 (.pointer (some ⟨gm, 0, none⟩)), .v 17 (.pointer (some ⟨gm, 1, none⟩)), .v 18 (.string m.fHome), .p 19 (SA.emp) (fun _ vv AA => ∃ g143 : Nat, vv = .slice (some ⟨g143, 0, none⟩) 0 0 ∧ AA = SA.blk g143 9 #[]), .v 20 (.pointer (some ⟨gm, 0, none⟩)), .v 21 (.pointer (some ⟨gm, 0, none⟩)), .v 22 (.pointer (some ⟨gm, 2, none⟩)), .v 23 (.slice (A1) (m.fSources.length) (c1)), .p 24 (SA.emp) (fun _ vv AA => ∃ A154 : Option Addr, ∃ c154 : Nat, vv = .slice A154 m.fSources.length c154 ∧ AA = SA.own0 (.slice A154 m.fSources.length c154) 9 1 m.fSources.length (strs m.fSources)), .v 25 (.pointer (some ⟨gm, 0, none⟩)), .v 26 (.pointer (some ⟨gm, 0, none⟩)), .v 27 (.pointer (some ⟨gm, 3, none⟩)), .v 28 (.string m.fVersion), .v 29 (.pointer (some ⟨gm, 0, none⟩)), .v 30 (.pointer (some ⟨gm, 0, none⟩)), .v 31 (.pointer (some ⟨gm, 4, none⟩)), .v 32 (.string m.fDescription), .p 33 (SA.emp) (fun _ vv AA => ∃ g169 : Nat, vv = .slice (some ⟨g169, 0, none⟩) 0 0 ∧ AA = SA.blk g169 9 #[]), .v 34 (.pointer (some ⟨gm, 0, none⟩)), .v 35 (.pointer (some ⟨gm, 0, none⟩)), .v 36 (.pointer (some ⟨gm, 5, none⟩)), .v 37 (.slice (A2) (m.fKeywords.length) (c2)), .p 38 (SA.emp) (fun _ vv AA => ∃ A180 : Option Addr, ∃ c180 : Nat, vv = .slice A180 m.fKeywords.length c180 ∧ AA = SA.own0 (.slice A180 m.fKeywords.length c180) 9 1 m.fKeywords.length (strs m.fKeywords)), .v 39 (.pointer (some ⟨gm, 0, none⟩)), .v 40 (.pointer (some ⟨gm, 0, none⟩)), .v 41 (.pointer (some ⟨gm, 7, none⟩)), .v 42 (.string m.fIcon), .v 43 (.pointer (some ⟨gm, 0, none⟩)), .v 44 (.pointer (some ⟨gm, 0, none⟩)), .v 45 (.pointer (some ⟨gm, 8, none⟩)), .v 46 (.string m.fAPIVersion), .v 47 (.pointer (some ⟨gm, 0, none⟩)), .v 48 (.pointer (some ⟨gm, 0, none⟩)), .v 49 (.pointer (some ⟨gm, 9, none⟩)), .v 50 (.string m.fCondition), .v 51 (.pointer (some ⟨gm, 0, none⟩)), .v 52 (.pointer (some ⟨gm, 0, none⟩)), .v 53 (.pointer (some ⟨gm, 10, none⟩)), .v 54 (.string m.fTags), .v 55 (.pointer (some ⟨gm, 0, none⟩)), .v 56 (.pointer (some ⟨gm, 0, none⟩)), .v 57 (.pointer (some ⟨gm, 11, none⟩)), .v 58 (.string m.fAppVersion), .v 59 (.pointer (some ⟨gm, 0, none⟩)), .v 60 (.pointer (some ⟨gm, 0, none⟩)), .v 61 (.pointer (some ⟨gm, 14, none⟩)), .v 62 (.string m.fKubeVersion), .v 63 (.pointer (some ⟨gm, 0, none⟩)), .v 64 (.pointer (some ⟨gm, 0, none⟩)), .v 65 (.pointer (some ⟨gm, 16, none⟩)), .v 66 (.string m.fType), .p 67 (SA.emp) (fun env vv AA => ∃ A154x : Option Addr, ∃ c154x : Nat, ∃ A180x : Option Addr, ∃ c180x : Nat, (env.getD 4 undef) = .slice A154x m.fSources.length c154x ∧ (env.getD 9 undef) = .slice A180x m.fKeywords.length c180x ∧ vv = .agg (zq9 m A154x c154x A180x c180x) ∧ AA = SA.emp), .p 3 (SA.emp) (fun _ vv AA => ∃ g248 : Nat, vv = .pointer (some ⟨g248, 0, none⟩) ∧ AA = SA.blk g248 26 zq8), .n SA.emp (fun _ _ A => A = SA.emp)] [] F7 rfl (by kernel_rfl) S3.emp.emp.emp.emp.emp.emp ?_ ?_
 ·refine ⟨?_, ?_, ?_, ?_, ?_, ?_, ?_, ?_, ?_, ?_, ?_, ?_, ?_, ?_, ?_, ?_, ?_, ?_, ?_, ?_, ?_, ?_, ?_, ?_, ?_, ?_, ?_, ?_, ?_, ?_, ?_, ?_, ?_, ?_, ?_, ?_, ?_, ?_, ?_, ?_, ?_, ?_, ?_, ?_, ?_, ?_, ?_, ?_, ?_, ?_, ?_, ?_, ?_, ?_, ?_, ?_, ?_, ?_, trivial⟩
  ·intro w129 M129
   intro a129 F129 S129
   refine obl_of (by rfl) ?_
   exact s_p F129 (v := .pointer (some ⟨gm, 0, none⟩)) (by kernel_rfl) (by kernel_rfl) (by kernel_rfl) S129
  ·intro w130 M130
   intro a130 F130 S130
   refine obl_of (by rfl) ?_
   exact s_p F130 (v := .pointer (some ⟨gm, 0, none⟩)) (by kernel_rfl) (by kernel_rfl) (by kernel_rfl) S130
  ·intro w132 M132
   intro a132 F132 S132
   refine obl_of (by rfl) ?_
   exact s_p F132 (v := .pointer (some ⟨gm, 0, none⟩)) (by kernel_rfl) (by kernel_rfl) (by kernel_rfl) S132
  ·intro w134 M134
   intro a134 F134 S134
   refine obl_of (by rfl) ?_
   exact s_r (v := .string m.fName) (r_ld rfl (F134.e (.pointer (some ⟨gm, 0, none⟩))) (v := .string m.fName) ((h0 _ (Sp.dropM S134.drop).drop.drop.drop).cell 0) Try.underlying9 rfl) S134
  ·intro w136 M136
   intro a136 F136 S136
   refine obl_of (by rfl) ?_
   exact s_p F136 (v := .pointer (some ⟨gm, 0, none⟩)) (by kernel_rfl) (by kernel_rfl) (by kernel_rfl) S136
  ·intro w137 M137
   intro a137 F137 S137
   refine obl_of (by rfl) ?_
   exact s_p F137 (v := .pointer (some ⟨gm, 0, none⟩)) (by kernel_rfl) (by kernel_rfl) (by kernel_rfl) S137
  ·intro w139 M139
   intro a139 F139 S139
   refine obl_of (by rfl) ?_
   exact s_p F139 (v := .pointer (some ⟨gm, 1, none⟩)) (by kernel_rfl) (by kernel_rfl) (by kernel_rfl) S139
  ·intro w141 M141
   intro a141 F141 S141
   refine obl_of (by rfl) ?_
   exact s_r (v := .string m.fHome) (r_ld rfl (F141.e (.pointer (some ⟨gm, 1, none⟩))) (v := .string m.fHome) ((h0 _ (Sp.dropM S141.drop).drop.drop.drop).cell 1) Try.underlying9 rfl) S141
  ·intro w143 M143
   intro a143 F143 S143
   refine obl_of (by rfl) ?_
   exact s_news F143 9 #[] 0 (by kernel_rfl) (by kernel_rfl) (by kernel_rfl) S143.drop
  ·intro w144 M144
   intro a144 F144 S144
   refine obl_of (by rfl) ?_
   exact s_p F144 (v := .pointer (some ⟨gm, 0, none⟩)) (by kernel_rfl) (by kernel_rfl) (by kernel_rfl) S144
  ·intro w145 M145
   intro a145 F145 S145
   refine obl_of (by rfl) ?_
   exact s_p F145 (v := .pointer (some ⟨gm, 0, none⟩)) (by kernel_rfl) (by kernel_rfl) (by kernel_rfl) S145
  ·intro w147 M147
   intro a147 F147 S147
   refine obl_of (by rfl) ?_
   exact s_p F147 (v := .pointer (some ⟨gm, 2, none⟩)) (by kernel_rfl) (by kernel_rfl) (by kernel_rfl) S147
  ·intro w149 M149
   intro a149 F149 S149
   refine obl_of (by rfl) ?_
   exact s_r (v := .slice (A1) (m.fSources.length) (c1)) (r_ld rfl (F149.e (.pointer (some ⟨gm, 2, none⟩))) (v := .slice (A1) (m.fSources.length) (c1)) ((h0 _ (Sp.dropM S149.drop).drop.drop.drop).cell 2) Try.underlying22 rfl) S149
  ·intro w151 M151
   rintro _ _ ⟨g143, rfl, rfl⟩ hA152
   intro a151 F151 S151
   refine obl_of (by rfl) ?_
   exact s_app0 rfl Try.underlying22 1 _ tin9 rfl rfl (F151.e (.slice (some ⟨g143, 0, none⟩) 0 0)) S151.drop (strs m.fSources) (F151.e (.slice (A1) (m.fSources.length) (c1))) (h1 _ (Sp.dropM S151.drop).drop.drop.drop) (by first | (simp [strs, ptrs, pps]; done) | (simp [strs, ptrs, pps]; omega)) (by omega) (by omega)
  ·intro w155 M155
   intro a155 F155 S155
   refine obl_of (by rfl) ?_
   exact s_p F155 (v := .pointer (some ⟨gm, 0, none⟩)) (by kernel_rfl) (by kernel_rfl) (by kernel_rfl) S155
  ·intro w156 M156
   intro a156 F156 S156
   refine obl_of (by rfl) ?_
   exact s_p F156 (v := .pointer (some ⟨gm, 0, none⟩)) (by kernel_rfl) (by kernel_rfl) (by kernel_rfl) S156
  ·intro w158 M158
   intro a158 F158 S158
   refine obl_of (by rfl) ?_
   exact s_p F158 (v := .pointer (some ⟨gm, 3, none⟩)) (by kernel_rfl) (by kernel_rfl) (by kernel_rfl) S158
  ·intro w160 M160
   intro a160 F160 S160
   refine obl_of (by rfl) ?_
   exact s_r (v := .string m.fVersion) (r_ld rfl (F160.e (.pointer (some ⟨gm, 3, none⟩))) (v := .string m.fVersion) ((h0 _ (Sp.dropM S160.drop).drop.drop.drop).cell 3) Try.underlying9 rfl) S160
  ·intro w162 M162
   intro a162 F162 S162
   refine obl_of (by rfl) ?_
   exact s_p F162 (v := .pointer (some ⟨gm, 0, none⟩)) (by kernel_rfl) (by kernel_rfl) (by kernel_rfl) S162
  ·intro w163 M163
   intro a163 F163 S163
   refine obl_of (by rfl) ?_
   exact s_p F163 (v := .pointer (some ⟨gm, 0, none⟩)) (by kernel_rfl) (by kernel_rfl) (by kernel_rfl) S163
  ·intro w165 M165
   intro a165 F165 S165
   refine obl_of (by rfl) ?_
   exact s_p F165 (v := .pointer (some ⟨gm, 4, none⟩)) (by kernel_rfl) (by kernel_rfl) (by kernel_rfl) S165
  ·intro w167 M167
   intro a167 F167 S167
   refine obl_of (by rfl) ?_
   exact s_r (v := .string m.fDescription) (r_ld rfl (F167.e (.pointer (some ⟨gm, 4, none⟩))) (v := .string m.fDescription) ((h0 _ (Sp.dropM S167.drop).drop.drop.drop).cell 4) Try.underlying9 rfl) S167
  ·intro w169 M169
   intro a169 F169 S169
   refine obl_of (by rfl) ?_
   exact s_news F169 9 #[] 0 (by kernel_rfl) (by kernel_rfl) (by kernel_rfl) S169.drop
  ·intro w170 M170
   intro a170 F170 S170
   refine obl_of (by rfl) ?_
   exact s_p F170 (v := .pointer (some ⟨gm, 0, none⟩)) (by kernel_rfl) (by kernel_rfl) (by kernel_rfl) S170
  ·intro w171 M171
   intro a171 F171 S171
   refine obl_of (by rfl) ?_
   exact s_p F171 (v := .pointer (some ⟨gm, 0, none⟩)) (by kernel_rfl) (by kernel_rfl) (by kernel_rfl) S171
  ·intro w173 M173
   intro a173 F173 S173
   refine obl_of (by rfl) ?_
   exact s_p F173 (v := .pointer (some ⟨gm, 5, none⟩)) (by kernel_rfl) (by kernel_rfl) (by kernel_rfl) S173
  ·intro w175 M175
   intro a175 F175 S175
   refine obl_of (by rfl) ?_
   exact s_r (v := .slice (A2) (m.fKeywords.length) (c2)) (r_ld rfl (F175.e (.pointer (some ⟨gm, 5, none⟩))) (v := .slice (A2) (m.fKeywords.length) (c2)) ((h0 _ (Sp.dropM S175.drop).drop.drop.drop).cell 5) Try.underlying22 rfl) S175
  ·intro w177 M177
   rintro _ _ ⟨g169, rfl, rfl⟩ hA178
   intro a177 F177 S177
   refine obl_of (by rfl) ?_
   exact s_app0 rfl Try.underlying22 1 _ tin9 rfl rfl (F177.e (.slice (some ⟨g169, 0, none⟩) 0 0)) S177.drop (strs m.fKeywords) (F177.e (.slice (A2) (m.fKeywords.length) (c2))) (h2 _ (Sp.dropM S177.drop).drop.drop.drop) (by first | (simp [strs, ptrs, pps]; done) | (simp [strs, ptrs, pps]; omega)) (by omega) (by omega)
  ·intro w181 M181
   intro a181 F181 S181
   refine obl_of (by rfl) ?_
   exact s_p F181 (v := .pointer (some ⟨gm, 0, none⟩)) (by kernel_rfl) (by kernel_rfl) (by kernel_rfl) S181
  ·intro w182 M182
   intro a182 F182 S182
   refine obl_of (by rfl) ?_
   exact s_p F182 (v := .pointer (some ⟨gm, 0, none⟩)) (by kernel_rfl) (by kernel_rfl) (by kernel_rfl) S182
  ·intro w184 M184
   intro a184 F184 S184
   refine obl_of (by rfl) ?_
   exact s_p F184 (v := .pointer (some ⟨gm, 7, none⟩)) (by kernel_rfl) (by kernel_rfl) (by kernel_rfl) S184
  ·intro w186 M186
   intro a186 F186 S186
   refine obl_of (by rfl) ?_
   exact s_r (v := .string m.fIcon) (r_ld rfl (F186.e (.pointer (some ⟨gm, 7, none⟩))) (v := .string m.fIcon) ((h0 _ (Sp.dropM S186.drop).drop.drop.drop).cell 7) Try.underlying9 rfl) S186
  ·intro w188 M188
   intro a188 F188 S188
   refine obl_of (by rfl) ?_
   exact s_p F188 (v := .pointer (some ⟨gm, 0, none⟩)) (by kernel_rfl) (by kernel_rfl) (by kernel_rfl) S188
  ·intro w189 M189
   intro a189 F189 S189
   refine obl_of (by rfl) ?_
   exact s_p F189 (v := .pointer (some ⟨gm, 0, none⟩)) (by kernel_rfl) (by kernel_rfl) (by kernel_rfl) S189
  ·intro w191 M191
   intro a191 F191 S191
   refine obl_of (by rfl) ?_
   exact s_p F191 (v := .pointer (some ⟨gm, 8, none⟩)) (by kernel_rfl) (by kernel_rfl) (by kernel_rfl) S191
  ·intro w193 M193
   intro a193 F193 S193
   refine obl_of (by rfl) ?_
   exact s_r (v := .string m.fAPIVersion) (r_ld rfl (F193.e (.pointer (some ⟨gm, 8, none⟩))) (v := .string m.fAPIVersion) ((h0 _ (Sp.dropM S193.drop).drop.drop.drop).cell 8) Try.underlying9 rfl) S193
  ·intro w195 M195
   intro a195 F195 S195
   refine obl_of (by rfl) ?_
   exact s_p F195 (v := .pointer (some ⟨gm, 0, none⟩)) (by kernel_rfl) (by kernel_rfl) (by kernel_rfl) S195
  ·intro w196 M196
   intro a196 F196 S196
   refine obl_of (by rfl) ?_
   exact s_p F196 (v := .pointer (some ⟨gm, 0, none⟩)) (by kernel_rfl) (by kernel_rfl) (by kernel_rfl) S196
  ·intro w198 M198
   intro a198 F198 S198
   refine obl_of (by rfl) ?_
   exact s_p F198 (v := .pointer (some ⟨gm, 9, none⟩)) (by kernel_rfl) (by kernel_rfl) (by kernel_rfl) S198
  ·intro w200 M200
   intro a200 F200 S200
   refine obl_of (by rfl) ?_
   exact s_r (v := .string m.fCondition) (r_ld rfl (F200.e (.pointer (some ⟨gm, 9, none⟩))) (v := .string m.fCondition) ((h0 _ (Sp.dropM S200.drop).drop.drop.drop).cell 9) Try.underlying9 rfl) S200
  ·intro w202 M202
   intro a202 F202 S202
   refine obl_of (by rfl) ?_
   exact s_p F202 (v := .pointer (some ⟨gm, 0, none⟩)) (by kernel_rfl) (by kernel_rfl) (by kernel_rfl) S202
  ·intro w203 M203
   intro a203 F203 S203
   refine obl_of (by rfl) ?_
   exact s_p F203 (v := .pointer (some ⟨gm, 0, none⟩)) (by kernel_rfl) (by kernel_rfl) (by kernel_rfl) S203
  ·intro w205 M205
   intro a205 F205 S205
   refine obl_of (by rfl) ?_
   exact s_p F205 (v := .pointer (some ⟨gm, 10, none⟩)) (by kernel_rfl) (by kernel_rfl) (by kernel_rfl) S205
  ·intro w207 M207
   intro a207 F207 S207
   refine obl_of (by rfl) ?_
   exact s_r (v := .string m.fTags) (r_ld rfl (F207.e (.pointer (some ⟨gm, 10, none⟩))) (v := .string m.fTags) ((h0 _ (Sp.dropM S207.drop).drop.drop.drop).cell 10) Try.underlying9 rfl) S207
  ·intro w209 M209
   intro a209 F209 S209
   refine obl_of (by rfl) ?_
   exact s_p F209 (v := .pointer (some ⟨gm, 0, none⟩)) (by kernel_rfl) (by kernel_rfl) (by kernel_rfl) S209
  ·intro w210 M210
   intro a210 F210 S210
   refine obl_of (by rfl) ?_
   exact s_p F210 (v := .pointer (some ⟨gm, 0, none⟩)) (by kernel_rfl) (by kernel_rfl) (by kernel_rfl) S210
  ·intro w212 M212
   intro a212 F212 S212
   refine obl_of (by rfl) ?_
   exact s_p F212 (v := .pointer (some ⟨gm, 11, none⟩)) (by kernel_rfl) (by kernel_rfl) (by kernel_rfl) S212
  ·intro w214 M214
   intro a214 F214 S214
   refine obl_of (by rfl) ?_
   exact s_r (v := .string m.fAppVersion) (r_ld rfl (F214.e (.pointer (some ⟨gm, 11, none⟩))) (v := .string m.fAppVersion) ((h0 _ (Sp.dropM S214.drop).drop.drop.drop).cell 11) Try.underlying9 rfl) S214
  ·intro w216 M216
   intro a216 F216 S216
   refine obl_of (by rfl) ?_
   exact s_p F216 (v := .pointer (some ⟨gm, 0, none⟩)) (by kernel_rfl) (by kernel_rfl) (by kernel_rfl) S216
  ·intro w217 M217
   intro a217 F217 S217
   refine obl_of (by rfl) ?_
   exact s_p F217 (v := .pointer (some ⟨gm, 0, none⟩)) (by kernel_rfl) (by kernel_rfl) (by kernel_rfl) S217
  ·intro w219 M219
   intro a219 F219 S219
   refine obl_of (by rfl) ?_
   exact s_p F219 (v := .pointer (some ⟨gm, 14, none⟩)) (by kernel_rfl) (by kernel_rfl) (by kernel_rfl) S219
  ·intro w221 M221
   intro a221 F221 S221
   refine obl_of (by rfl) ?_
   exact s_r (v := .string m.fKubeVersion) (r_ld rfl (F221.e (.pointer (some ⟨gm, 14, none⟩))) (v := .string m.fKubeVersion) ((h0 _ (Sp.dropM S221.drop).drop.drop.drop).cell 14) Try.underlying9 rfl) S221
  ·intro w223 M223
   intro a223 F223 S223
   refine obl_of (by rfl) ?_
   exact s_p F223 (v := .pointer (some ⟨gm, 0, none⟩)) (by kernel_rfl) (by kernel_rfl) (by kernel_rfl) S223
  ·intro w224 M224
   intro a224 F224 S224
   refine obl_of (by rfl) ?_
   exact s_p F224 (v := .pointer (some ⟨gm, 0, none⟩)) (by kernel_rfl) (by kernel_rfl) (by kernel_rfl) S224
  ·intro w226 M226
   intro a226 F226 S226
   refine obl_of (by rfl) ?_
   exact s_p F226 (v := .pointer (some ⟨gm, 16, none⟩)) (by kernel_rfl) (by kernel_rfl) (by kernel_rfl) S226
  ·intro w228 M228
   intro a228 F228 S228
   refine obl_of (by rfl) ?_
   exact s_r (v := .string m.fType) (r_ld rfl (F228.e (.pointer (some ⟨gm, 16, none⟩))) (v := .string m.fType) ((h0 _ (Sp.dropM S228.drop).drop.drop.drop).cell 16) Try.underlying9 rfl) S228
  ·intro w230 M230
   rintro _ _ ⟨g143, rfl, rfl⟩ hA233
   rintro _ _ ⟨A154, c154, rfl, rfl⟩ hA235
   rintro _ _ ⟨g169, rfl, rfl⟩ hA238
   rintro _ _ ⟨A180, c180, rfl, rfl⟩ hA240
   intro a230 F230 S230
   refine obl_of (by rfl) ?_
   exact sAt_mono (s_p F230 (v := .agg (zq9 m A154 c154 A180 c180)) (by kernel_rfl) (by kernel_rfl) (by kernel_rfl) S230) fun _ _ ⟨e1, e2⟩ => ⟨A154, c154, A180, c180, (by kernel_rfl), (by kernel_rfl), e1, e2⟩
  ·intro w248 M248
   intro a248 F248 S248
   refine obl_of (by rfl) ?_
   exact s_newp F248 26 zq8 (by kernel_rfl) (by kernel_rfl) (by kernel_rfl) S248.drop
 ·rintro _ _ ⟨g143, rfl, rfl⟩
  rintro _ _ ⟨A154, c154, rfl, rfl⟩
  rintro _ _ ⟨g169, rfl, rfl⟩
  rintro _ _ ⟨A180, c180, rfl, rfl⟩
  rintro _ _ ⟨A154x, c154x, A180x, c180x, e56_4, e56_9, rfl, rfl⟩
  have e56_4 := envE_at (v := .slice A154 m.fSources.length c154) e56_4 (by kernel_rfl)
  have e56_9 := envE_at (v := .slice A180 m.fKeywords.length c180) e56_9 (by kernel_rfl)
  obtain ⟨rfl, rfl, rfl, rfl⟩ : A154 = A154x ∧ c154 = c154x ∧ A180 = A180x ∧ c180 = c180x := by cases e56_4; cases e56_9; exact ⟨rfl, rfl, rfl, rfl⟩
  clear e56_4 e56_9
  rintro _ _ ⟨g248, rfl, rfl⟩
  intro a250 w249 F250 S249
  have S251 : Sp R w249 (SA.blk g248 26 zq8 :: SA.own0 (.slice A180 m.fKeywords.length c180) 9 1 m.fKeywords.length (strs m.fKeywords) :: SA.blk g169 9 #[] :: SA.own0 (.slice A154 m.fSources.length c154) 9 1 m.fSources.length (strs m.fSources) :: SA.blk g143 9 #[] :: SA.blk g1 26 zq8 :: SA.zips SA.per qs m.fMaintainers :: SA.zips SA.dep us m.fDependencies :: L) := S249.p1.drop
  refine op_sq0 F250 (s_stb rfl (F250.e (.pointer (some ⟨g248, 0, none⟩))) (F250.e (.agg (zq9 m A154 c154 A180 c180))) S251 (by kernel_rfl) rfl (by kernel_rfl)) ?_
  rintro _ _ w252 rfl S252 F252
  refine wpList_nil ?_
  refine hK8 _ _ ?_; clear hK8 K8
  refine wp_seq_k fun K253 hK253 => ?_
  refine wp_seq_k fun K254 hK254 => ?_
  refine wp_region_lit ?_
  refine op_q F252 (.pointer (some ⟨gm, 0, none⟩)) ?_; intro a255 F255
  refine op_q F255 (.pointer (some ⟨gm, 0, none⟩)) ?_; intro a256 F256
  refine op_q F256 (.pointer (some ⟨gm, 6, none⟩)) ?_; intro a257 F257
  refine op_rq (v := .slice (A3) (qs.length) (c3)) F257 (r_ld rfl (F257.e (.pointer (some ⟨gm, 6, none⟩))) (v := .slice (A3) (qs.length) (c3)) ((h0 _ S252.drop.drop.drop.drop.drop.drop.drop.drop).cell 6) Try.underlying233 rfl) ?_; intro a258 F258
  refine op_q F258 (.int .i64 (↑qs.length)) ?_; intro a259 F259
  refine op_q F259 (.int .i64 0) ?_; intro a260 F260
  refine wpList_nil ?_
  refine hK254 _ _ ?_; clear hK254 K254
  refine wp_block ?_
  have S261 := Sp.nilown (e := 78) (sz := 4) S252
  refine fw_loop (fun m' a' w' => ∃ B3 : Option Addr, ∃ b3 : Nat, ∃ k : Nat, qs.length - k = m' ∧ Fr 103 [] a' [(0, .pointer (some ⟨gm, 0, none⟩)), (2, .pointer (some ⟨g1, 0, none⟩)), (3, .pointer (some ⟨g248, 0, none⟩)), (71, .slice (A3) (qs.length) (c3)), (72, .int .i64 (↑qs.length)), (73, .int .i64 (↑k))] ∧ Sp R w' (SA.blk g248 26 #[.string m.fName, .string m.fHome, .string m.fVersion, .string m.fDescription, .string m.fIcon, .string m.fAPIVersion, .string m.fCondition, .string m.fTags, .string m.fAppVersion, .string m.fKubeVersion, .string m.fType, .slice A154 m.fSources.length c154, .slice A180 m.fKeywords.length c180, .slice B3 k b3, .slice none 0 0] :: SA.own (.slice B3 k b3) 78 4 k (flatC Ty78.cells ((m.fMaintainers.take k).map perT)) :: SA.own0 (.slice A180 m.fKeywords.length c180) 9 1 m.fKeywords.length (strs m.fKeywords) :: SA.own0 (.slice A154 m.fSources.length c154) 9 1 m.fSources.length (strs m.fSources) :: SA.blk g1 26 zq8 :: SA.zips SA.per qs m.fMaintainers :: SA.zips SA.dep us m.fDependencies :: L) ∧ (k ≤ qs.length)) _ ⟨none, 0, 0, rfl, (F260.kk 0 (F260.kk 2 (F260.kk 3 (F260.kk 71 (F260.kk 72 (F260.kk 73 F260.nil)))))), S261.p3.drop.p4.drop.p6.p6.p6.p6.p6.p5.p6, (by first | omega | (with_reducible assumption) | (simp; done))⟩ ?_
  rintro m262 a262 w262 ⟨B3, b3, k, hm262, F262, S262, hk⟩ K262 hK262
  by_cases hlt_k : k < qs.length
  ·have hc_k : decide ((↑k : Int) < ↑qs.length) = true := by first | (simp; done) | (simp; omega)
   have hlt_k2 : k < m.fMaintainers.length := by omega
   obtain ⟨hv_k, Sz263⟩ := Sp.zat (k := k) (by omega) S262.p5
   obtain ⟨qk, hqk⟩ : ∃ q, q = qs[k] := ⟨_, rfl⟩
   have S264 : Sp R w262 (SA.per qk m.fMaintainers[k] :: SA.zips SA.per (qs.take k) (m.fMaintainers.take k) :: SA.zips SA.per (qs.drop (k + 1)) (m.fMaintainers.drop (k + 1)) :: SA.blk g248 26 #[.string m.fName, .string m.fHome, .string m.fVersion, .string m.fDescription, .string m.fIcon, .string m.fAPIVersion, .string m.fCondition, .string m.fTags, .string m.fAppVersion, .string m.fKubeVersion, .string m.fType, .slice A154 m.fSources.length c154, .slice A180 m.fKeywords.length c180, .slice B3 k b3, .slice none 0 0] :: SA.own (.slice B3 k b3) 78 4 k (flatC Ty78.cells ((m.fMaintainers.take k).map perT)) :: SA.own0 (.slice A180 m.fKeywords.length c180) 9 1 m.fKeywords.length (strs m.fKeywords) :: SA.own0 (.slice A154 m.fSources.length c154) 9 1 m.fSources.length (strs m.fSources) :: SA.blk g1 26 zq8 :: SA.zips SA.dep us m.fDependencies :: L) := by rw [hqk]; exact Sz263
   obtain ⟨ad265, hA265⟩ := (h3 _ S264.drop.drop.drop.drop.drop.drop.drop.drop.drop).addr (by simp [pps]; omega)
   refine wp_seq_k fun K266 hK266 => ?_
   refine wp_region_lit ?_
   refine op_q F262 (.bool (decide ((↑k : Int) < ↑qs.length))) ?_; intro a267 F267
   have F268 := F267.sb 74 (by kernel_rfl) hc_k
   refine wpList_nil ?_
   refine hK266 _ _ ?_; clear hK266 K266
   refine wp_seq_k fun K269 hK269 => ?_
   refine wp_cond_true (F268.ev (by kernel_rfl)) ?_
   refine wp_skip ?_
   refine hK269 _ _ ?_; clear hK269 K269
   refine wp_seq_k fun K270 hK270 => ?_
   refine wp_block ?_
   refine wp_seq_k fun K271 hK271 => ?_
   refine wp_region_lit ?_
   refine op_rq (v := .pointer (some (ad265.add k))) F268 (r_ix rfl Try.underlying233 1 (by kernel_rfl) (F268.e (.slice (A3) (qs.length) (c3))) hA265 (F268.e (.int .i64 (↑k))) k (by first | rfl | omega | simp) (by first | omega | (simp; done) | (simp; omega)) (by simp only [Nat.mul_one])) ?_; intro a272 F272
   refine op_rq (v := .pointer qk) F272 (r_ld rfl (F272.e (.pointer (some (ad265.add k)))) (v := .pointer qk) ((h3 _ S264.drop.drop.drop.drop.drop.drop.drop.drop.drop).elA hA265 (j := k) (by rw [hqk]; simp [pps, List.getElem?_eq_getElem hlt_k])) Try.underlying238 rfl) ?_; intro a273 F273
   refine op_q F273 (.pointer qk) ?_; intro a274 F274
   refine wpList_nil ?_
   refine hK271 _ _ ?_; clear hK271 K271
   refine wp_region_sepF (L0 := SA.zips SA.per (qs.take k) (m.fMaintainers.take k) :: SA.zips SA.per (qs.drop (k + 1)) (m.fMaintainers.drop (k + 1)) :: SA.blk g248 26 #[.string m.fName, .string m.fHome, .string m.fVersion, .string m.fDescription, .string m.fIcon, .string m.fAPIVersion, .string m.fCondition, .string m.fTags, .string m.fAppVersion, .string m.fKubeVersion, .string m.fType, .slice A154 m.fSources.length c154, .slice A180 m.fKeywords.length c180, .slice B3 k b3, .slice none 0 0] :: SA.own0 (.slice A180 m.fKeywords.length c180) 9 1 m.fKeywords.length (strs m.fKeywords) :: SA.own0 (.slice A154 m.fSources.length c154) 9 1 m.fSources.length (strs m.fSources) :: SA.blk g1 26 zq8 :: SA.zips SA.dep us m.fDependencies :: L) [some [], some [(0, 77)], some [], some [(2, 79)], some [(2, 79), (3, 80)], some [(1, 78), (2, 79), (3, 80), (4, 81)], some [], none] [.v 77 (.pointer (some ⟨g248, 13, none⟩)), .v 78 (.slice B3 k b3), .v 79 (.pointer qk), .p 80 (SA.per qk m.fMaintainers[k]) (fun _ vv AA => vv = .agg #[.bool ((perT m.fMaintainers[k]).fNil), .string ((perT m.fMaintainers[k]).fName), .string ((perT m.fMaintainers[k]).fEmail), .string ((perT m.fMaintainers[k]).fURL)] ∧ AA = SA.per qk m.fMaintainers[k]), .p 81 (SA.emp) (fun _ vv AA => ∃ g301 : Nat, vv = .slice (some ⟨g301, 0, none⟩) 1 1 ∧ AA = SA.blk g301 78 #[.bool ((perT m.fMaintainers[k]).fNil), .string ((perT m.fMaintainers[k]).fName), .string ((perT m.fMaintainers[k]).fEmail), .string ((perT m.fMaintainers[k]).fURL)]), .p 82 (SA.own (.slice B3 k b3) 78 4 k (flatC Ty78.cells ((m.fMaintainers.take k).map perT))) (fun _ vv AA => ∃ A307 : Option Addr, ∃ c307 : Nat, vv = .slice A307 (k + 1) c307 ∧ AA = SA.own (.slice A307 (k + 1) c307) 78 4 (k + 1) (flatC Ty78.cells ((m.fMaintainers.take (k + 1)).map perT))), .v 83 (.pointer (some ⟨g248, 13, none⟩)), .n SA.emp (fun _ _ A => A = SA.emp)] [] F274 rfl (by kernel_rfl) (((((S264.p4).p1).p1).emp).p2) ?_ ?_
   ·refine ⟨?_, ?_, ?_, ?_, ?_, ?_, ?_, trivial⟩
    ·intro w292 M292
     intro a292 F292 S292
     refine obl_of (by rfl) ?_
     exact s_p F292 (v := .pointer (some ⟨g248, 13, none⟩)) (by kernel_rfl) (by kernel_rfl) (by kernel_rfl) S292
    ·intro w293 M293
     intro a293 F293 S293
     refine obl_of (by rfl) ?_
     exact s_r (v := .slice B3 k b3) (r_ld rfl (F293.e (.pointer (some ⟨g248, 13, none⟩))) (v := .slice B3 k b3) (((Sp.dropM S293.drop).bk 2 rfl).cell 13) Try.underlying23 rfl) S293
    ·intro w295 M295
     intro a295 F295 S295
     refine obl_of (by rfl) ?_
     exact s_p F295 (v := .pointer qk) (by kernel_rfl) (by kernel_rfl) (by kernel_rfl) S295
    ·intro w296 M296
     intro a296 F296 S296
     refine obl_of (by rfl) ?_
     refine s_c F296 (f := 181) (args := #[.pointer qk]) (by kernel_rfl) (by kernel_rfl) (by kernel_rfl) (personTold_sp qk m.fMaintainers[k] _ _ _ S296 ) ?_
     rintro _ _ ⟨rfl, S298⟩
     exact ⟨_, _, rfl, ⟨rfl, rfl⟩, S298⟩
    ·intro w299 M299
     rintro _ _ ⟨rfl, rfl⟩ hA301
     intro a299 F299 S299
     refine obl_of (by rfl) ?_
     exact s_news F299 78 #[.bool ((perT m.fMaintainers[k]).fNil), .string ((perT m.fMaintainers[k]).fName), .string ((perT m.fMaintainers[k]).fEmail), .string ((perT m.fMaintainers[k]).fURL)] 1 (by kernel_rfl) (by kernel_rfl) (by kernel_rfl) S299.drop
    ·intro w302 M302
     rintro _ _ ⟨rfl, rfl⟩ hA305
     rintro _ _ ⟨g301, rfl, rfl⟩ hA306
     intro a302 F302 S302
     refine obl_of (by rfl) ?_
     exact s_app rfl Try.underlying23 4 _ tin78 rfl rfl (F302.e (.slice B3 k b3)) S302 ([Value.bool ((perT m.fMaintainers[k]).fNil), .string ((perT m.fMaintainers[k]).fName), .string ((perT m.fMaintainers[k]).fEmail), .string ((perT m.fMaintainers[k]).fURL)]) (F302.e (.slice (some ⟨g301, 0, none⟩) 1 1)) ((Sp.bkm S302.drop hA306).sl (by simp)) rfl (by simp [Value.oneCell']) (by omega) (by omega) (n' := k + 1) (by omega) (cs' := flatC Ty78.cells ((m.fMaintainers.take (k + 1)).map perT)) (by rw [List.take_succ_eq_append_getElem (show k < m.fMaintainers.length by omega), List.map_append, List.map_cons, List.map_nil, flatC_snoc]; rfl)
    ·intro w308 M308
     intro a308 F308 S308
     refine obl_of (by rfl) ?_
     exact s_p F308 (v := .pointer (some ⟨g248, 13, none⟩)) (by kernel_rfl) (by kernel_rfl) (by kernel_rfl) S308
   ·rintro _ _ ⟨rfl, rfl⟩
    rintro _ _ ⟨g301, rfl, rfl⟩
    rintro _ _ ⟨A307, c307, rfl, rfl⟩
    intro a310 w309 F310 S309
    have S311 : Sp R w309 (SA.own (.slice A307 (k + 1) c307) 78 4 (k + 1) (flatC Ty78.cells ((m.fMaintainers.take (k + 1)).map perT)) :: SA.blk g301 78 #[.bool ((perT m.fMaintainers[k]).fNil), .string ((perT m.fMaintainers[k]).fName), .string ((perT m.fMaintainers[k]).fEmail), .string ((perT m.fMaintainers[k]).fURL)] :: SA.per qk m.fMaintainers[k] :: SA.zips SA.per (qs.take k) (m.fMaintainers.take k) :: SA.zips SA.per (qs.drop (k + 1)) (m.fMaintainers.drop (k + 1)) :: SA.blk g248 26 #[.string m.fName, .string m.fHome, .string m.fVersion, .string m.fDescription, .string m.fIcon, .string m.fAPIVersion, .string m.fCondition, .string m.fTags, .string m.fAppVersion, .string m.fKubeVersion, .string m.fType, .slice A154 m.fSources.length c154, .slice A180 m.fKeywords.length c180, .slice B3 k b3, .slice none 0 0] :: SA.own0 (.slice A180 m.fKeywords.length c180) 9 1 m.fKeywords.length (strs m.fKeywords) :: SA.own0 (.slice A154 m.fSources.length c154) 9 1 m.fSources.length (strs m.fSources) :: SA.blk g1 26 zq8 :: SA.zips SA.dep us m.fDependencies :: L) := S309
    refine op_sq0 F310 (s_st rfl (F310.e (.pointer (some ⟨g248, 13, none⟩))) (F310.e (.slice A307 (k + 1) c307)) S311.p5 (by kernel_rfl) rfl rfl rfl (cs := #[.string m.fName, .string m.fHome, .string m.fVersion, .string m.fDescription, .string m.fIcon, .string m.fAPIVersion, .string m.fCondition, .string m.fTags, .string m.fAppVersion, .string m.fKubeVersion, .string m.fType, .slice A154 m.fSources.length c154, .slice A180 m.fKeywords.length c180, .slice A307 (k + 1) c307, .slice none 0 0]) (by kernel_rfl)) ?_
    rintro _ _ w312 rfl S312 F312
    refine wpList_nil ?_
    refine hK270 _ _ ?_; clear hK270 K270
    refine wp_region_lit ?_
    refine op_rq (v := .int .i64 (↑(k + 1))) F312 (r_add (z := ↑(k + 1)) rfl (F312.e (.int .i64 (↑k))) (F312.e (.int .i64 1)) (wr64 (by omega) (by omega) (by omega))) ?_; intro a313 F313
    refine op_q F313 (.int .i64 (↑(k + 1))) ?_; intro a314 F314
    refine wpList_nil ?_
    have S315 : Sp R w312 (SA.zips SA.per qs m.fMaintainers :: SA.blk g248 26 #[.string m.fName, .string m.fHome, .string m.fVersion, .string m.fDescription, .string m.fIcon, .string m.fAPIVersion, .string m.fCondition, .string m.fTags, .string m.fAppVersion, .string m.fKubeVersion, .string m.fType, .slice A154 m.fSources.length c154, .slice A180 m.fKeywords.length c180, .slice A307 (k + 1) c307, .slice none 0 0] :: SA.own (.slice A307 (k + 1) c307) 78 4 (k + 1) (flatC Ty78.cells ((m.fMaintainers.take (k + 1)).map perT)) :: SA.blk g301 78 #[.bool ((perT m.fMaintainers[k]).fNil), .string ((perT m.fMaintainers[k]).fName), .string ((perT m.fMaintainers[k]).fEmail), .string ((perT m.fMaintainers[k]).fURL)] :: SA.own0 (.slice A180 m.fKeywords.length c180) 9 1 m.fKeywords.length (strs m.fKeywords) :: SA.own0 (.slice A154 m.fSources.length c154) 9 1 m.fSources.length (strs m.fSources) :: SA.blk g1 26 zq8 :: SA.zips SA.dep us m.fDependencies :: L) := Sp.zclose (k := k) (by omega) hv_k (by rw [← hqk]; exact S312.p5.p5.p5)
    exact hK262 _ _ _ (by first | omega | (simp; omega)) ⟨A307, c307, k + 1, rfl, (F314.kk 0 (F314.kk 2 (F314.kk 3 (F314.kk 71 (F314.kk 72 (F314.kk 73 F314.nil)))))), S315.p3.drop.p6.p1.p6.p6.p6.p6.p6, (by first | omega | (with_reducible assumption) | (simp; done))⟩
  ·have hc_k : decide ((↑k : Int) < ↑qs.length) = false := by first | (simp; done) | (simp; omega)
   obtain rfl : k = qs.length := by omega
   rw [hql, List.take_length] at S262
   refine wp_seq_k fun K316 hK316 => ?_
   refine wp_region_lit ?_
   refine op_q F262 (.bool (decide ((↑qs.length : Int) < ↑qs.length))) ?_; intro a317 F317
   have F318 := F317.sb 74 (by kernel_rfl) hc_k
   refine wpList_nil ?_
   refine hK316 _ _ ?_; clear hK316 K316
   refine wp_seq_k fun K319 hK319 => ?_
   refine wp_cond_false (F318.ev (by kernel_rfl)) ?_
   refine wp_exit ?_
   refine ex_then ?_; clear hK319 K319
   refine ex_then ?_
   refine ex_in ?_
   refine hK253 _ _ ?_; clear hK253 K253
   refine wp_seq_k fun K320 hK320 => ?_
   refine wp_seq_k fun K321 hK321 => ?_
   refine wp_region_lit ?_
   refine op_q F318 (.pointer (some ⟨gm, 0, none⟩)) ?_; intro a322 F322
   refine op_q F322 (.pointer (some ⟨gm, 0, none⟩)) ?_; intro a323 F323
   refine op_q F323 (.pointer (some ⟨gm, 15, none⟩)) ?_; intro a324 F324
   refine op_rq (v := .slice (A4) (us.length) (c4)) F324 (r_ld rfl (F324.e (.pointer (some ⟨gm, 15, none⟩))) (v := .slice (A4) (us.length) (c4)) ((h0 _ S262.drop.drop.drop.drop.drop.drop.drop).cell 15) Try.underlying235 rfl) ?_; intro a325 F325
   refine op_q F325 (.int .i64 (↑us.length)) ?_; intro a326 F326
   refine op_q F326 (.int .i64 0) ?_; intro a327 F327
   refine wpList_nil ?_
   refine hK321 _ _ ?_; clear hK321 K321
   refine wp_block ?_
   have S328 : Sp R w262 (SA.stars ([].map SA.tg) :: SA.blk g248 26 #[.string m.fName, .string m.fHome, .string m.fVersion, .string m.fDescription, .string m.fIcon, .string m.fAPIVersion, .string m.fCondition, .string m.fTags, .string m.fAppVersion, .string m.fKubeVersion, .string m.fType, .slice A154 m.fSources.length c154, .slice A180 m.fKeywords.length c180, .slice B3 m.fMaintainers.length b3, .slice none 0 0] :: SA.own (.slice B3 m.fMaintainers.length b3) 78 4 m.fMaintainers.length (flatC Ty78.cells (m.fMaintainers.map perT)) :: SA.own0 (.slice A180 m.fKeywords.length c180) 9 1 m.fKeywords.length (strs m.fKeywords) :: SA.own0 (.slice A154 m.fSources.length c154) 9 1 m.fSources.length (strs m.fSources) :: SA.blk g1 26 zq8 :: SA.zips SA.per qs m.fMaintainers :: SA.zips SA.dep us m.fDependencies :: L) := (Sp.stars (l := [])).2 S262
   have S329 := Sp.nilown (e := 80) (sz := 7) S328
   refine fw_loop (fun m' a' w' => ∃ B4 : Option Addr, ∃ b4 : Nat, ∃ ds : List Ty80, ∃ j : Nat, us.length - j = m' ∧ Fr 103 [] a' [(2, .pointer (some ⟨g1, 0, none⟩)), (3, .pointer (some ⟨g248, 0, none⟩)), (88, .slice (A4) (us.length) (c4)), (89, .int .i64 (↑us.length)), (90, .int .i64 (↑j))] ∧ Sp R w' (SA.blk g248 26 #[.string m.fName, .string m.fHome, .string m.fVersion, .string m.fDescription, .string m.fIcon, .string m.fAPIVersion, .string m.fCondition, .string m.fTags, .string m.fAppVersion, .string m.fKubeVersion, .string m.fType, .slice A154 m.fSources.length c154, .slice A180 m.fKeywords.length c180, .slice B3 m.fMaintainers.length b3, .slice B4 j b4] :: SA.own (.slice B4 j b4) 80 7 j (flatC Ty80.cells ds) :: SA.stars (ds.map SA.tg) :: SA.own (.slice B3 m.fMaintainers.length b3) 78 4 m.fMaintainers.length (flatC Ty78.cells (m.fMaintainers.map perT)) :: SA.own0 (.slice A180 m.fKeywords.length c180) 9 1 m.fKeywords.length (strs m.fKeywords) :: SA.own0 (.slice A154 m.fSources.length c154) 9 1 m.fSources.length (strs m.fSources) :: SA.blk g1 26 zq8 :: SA.zips SA.per qs m.fMaintainers :: SA.zips SA.dep us m.fDependencies :: L) ∧ (j ≤ us.length) ∧ (ds.map depS = (m.fDependencies.take j).map (fun d => depT d none 0))) _ ⟨none, 0, [], 0, rfl, (F327.kk 2 (F327.kk 3 (F327.kk 88 (F327.kk 89 (F327.kk 90 F327.nil))))), S329.p8.p8.p8.p8.p8.p8.p7.p7.p8, (by first | omega | (with_reducible assumption) | (simp; done)), rfl⟩ ?_
   rintro m330 a330 w330 ⟨B4, b4, ds, j, hm330, F330, S330, hj, hds⟩ K330 hK330
   by_cases hlt_j : j < us.length
   ·have hc_j : decide ((↑j : Int) < ↑us.length) = true := by first | (simp; done) | (simp; omega)
    have hlt_j2 : j < m.fDependencies.length := by omega
    obtain ⟨hv_j, Sz331⟩ := Sp.zat (k := j) (by omega) S330.p8
    obtain ⟨uj, huj⟩ : ∃ q, q = us[j] := ⟨_, rfl⟩
    have S332 : Sp R w330 (SA.dep uj m.fDependencies[j] :: SA.zips SA.dep (us.take j) (m.fDependencies.take j) :: SA.zips SA.dep (us.drop (j + 1)) (m.fDependencies.drop (j + 1)) :: SA.blk g248 26 #[.string m.fName, .string m.fHome, .string m.fVersion, .string m.fDescription, .string m.fIcon, .string m.fAPIVersion, .string m.fCondition, .string m.fTags, .string m.fAppVersion, .string m.fKubeVersion, .string m.fType, .slice A154 m.fSources.length c154, .slice A180 m.fKeywords.length c180, .slice B3 m.fMaintainers.length b3, .slice B4 j b4] :: SA.own (.slice B4 j b4) 80 7 j (flatC Ty80.cells ds) :: SA.stars (ds.map SA.tg) :: SA.own (.slice B3 m.fMaintainers.length b3) 78 4 m.fMaintainers.length (flatC Ty78.cells (m.fMaintainers.map perT)) :: SA.own0 (.slice A180 m.fKeywords.length c180) 9 1 m.fKeywords.length (strs m.fKeywords) :: SA.own0 (.slice A154 m.fSources.length c154) 9 1 m.fSources.length (strs m.fSources) :: SA.blk g1 26 zq8 :: SA.zips SA.per qs m.fMaintainers :: L) := by rw [huj]; exact Sz331
    have htz : m.fDependencies[j].fTags.length ≤ 1000000 := hm5 _ (List.getElem_mem _)
    obtain ⟨ad333, hA333⟩ := (h4 _ S332.drop.drop.drop.drop.drop.drop.drop.drop.drop.drop.drop).addr (by simp [pps]; omega)
    refine wp_seq_k fun K334 hK334 => ?_
    refine wp_region_lit ?_
    refine op_q F330 (.bool (decide ((↑j : Int) < ↑us.length))) ?_; intro a335 F335
    have F336 := F335.sb 91 (by kernel_rfl) hc_j
    refine wpList_nil ?_
    refine hK334 _ _ ?_; clear hK334 K334
    refine wp_seq_k fun K337 hK337 => ?_
    refine wp_cond_true (F336.ev (by kernel_rfl)) ?_
    refine wp_skip ?_
    refine hK337 _ _ ?_; clear hK337 K337
    refine wp_seq_k fun K338 hK338 => ?_
    refine wp_block ?_
    refine wp_seq_k fun K339 hK339 => ?_
    refine wp_region_lit ?_
    refine op_rq (v := .pointer (some (ad333.add j))) F336 (r_ix rfl Try.underlying235 1 (by kernel_rfl) (F336.e (.slice (A4) (us.length) (c4))) hA333 (F336.e (.int .i64 (↑j))) j (by first | rfl | omega | simp) (by first | omega | (simp; done) | (simp; omega)) (by simp only [Nat.mul_one])) ?_; intro a340 F340
    refine op_rq (v := .pointer uj) F340 (r_ld rfl (F340.e (.pointer (some (ad333.add j)))) (v := .pointer uj) ((h4 _ S332.drop.drop.drop.drop.drop.drop.drop.drop.drop.drop.drop).elA hA333 (j := j) (by rw [huj]; simp [pps, List.getElem?_eq_getElem hlt_j])) Try.underlying240 rfl) ?_; intro a341 F341
    refine op_q F341 (.pointer uj) ?_; intro a342 F342
    refine wpList_nil ?_
    refine hK339 _ _ ?_; clear hK339 K339
    rcases Sp.dep_open S332 with ⟨hdn, hun, Sd343⟩ | ⟨hdn, gd, Ad, cd, hun, Sd343⟩
    ·subst hun
     have S344 : Sp R w330 (SA.zips SA.dep (us.take j) (m.fDependencies.take j) :: SA.zips SA.dep (us.drop (j + 1)) (m.fDependencies.drop (j + 1)) :: SA.blk g248 26 #[.string m.fName, .string m.fHome, .string m.fVersion, .string m.fDescription, .string m.fIcon, .string m.fAPIVersion, .string m.fCondition, .string m.fTags, .string m.fAppVersion, .string m.fKubeVersion, .string m.fType, .slice A154 m.fSources.length c154, .slice A180 m.fKeywords.length c180, .slice B3 m.fMaintainers.length b3, .slice B4 j b4] :: SA.own (.slice B4 j b4) 80 7 j (flatC Ty80.cells ds) :: SA.stars (ds.map SA.tg) :: SA.own (.slice B3 m.fMaintainers.length b3) 78 4 m.fMaintainers.length (flatC Ty78.cells (m.fMaintainers.map perT)) :: SA.own0 (.slice A180 m.fKeywords.length c180) 9 1 m.fKeywords.length (strs m.fKeywords) :: SA.own0 (.slice A154 m.fSources.length c154) 9 1 m.fSources.length (strs m.fSources) :: SA.blk g1 26 zq8 :: SA.zips SA.per qs m.fMaintainers :: L) := Sd343
     refine wp_region_sepF (L0 := SA.zips SA.dep (us.take j) (m.fDependencies.take j) :: SA.zips SA.dep (us.drop (j + 1)) (m.fDependencies.drop (j + 1)) :: SA.blk g248 26 #[.string m.fName, .string m.fHome, .string m.fVersion, .string m.fDescription, .string m.fIcon, .string m.fAPIVersion, .string m.fCondition, .string m.fTags, .string m.fAppVersion, .string m.fKubeVersion, .string m.fType, .slice A154 m.fSources.length c154, .slice A180 m.fKeywords.length c180, .slice B3 m.fMaintainers.length b3, .slice B4 j b4] :: SA.stars (ds.map SA.tg) :: SA.own (.slice B3 m.fMaintainers.length b3) 78 4 m.fMaintainers.length (flatC Ty78.cells (m.fMaintainers.map perT)) :: SA.own0 (.slice A180 m.fKeywords.length c180) 9 1 m.fKeywords.length (strs m.fKeywords) :: SA.own0 (.slice A154 m.fSources.length c154) 9 1 m.fSources.length (strs m.fSources) :: SA.blk g1 26 zq8 :: SA.zips SA.per qs m.fMaintainers :: L) [some [], some [(0, 94)], some [], some [(2, 96)], some [(3, 97)], some [(1, 95), (3, 97), (4, 98)], some [], none] [.v 94 (.pointer (some ⟨g248, 14, none⟩)), .v 95 (.slice B4 j b4), .v 96 (.pointer none), .v 97 (.agg zq10), .p 98 (SA.emp) (fun _ vv AA => ∃ g368 : Nat, vv = .slice (some ⟨g368, 0, none⟩) 1 1 ∧ AA = SA.blk g368 80 zq10), .p 99 (SA.own (.slice B4 j b4) 80 7 j (flatC Ty80.cells ds)) (fun _ vv AA => ∃ A373 : Option Addr, ∃ c373 : Nat, vv = .slice A373 (j + 1) c373 ∧ AA = SA.own (.slice A373 (j + 1) c373) 80 7 (j + 1) (flatC Ty80.cells (ds ++ [depT m.fDependencies[j] none 0]))), .v 100 (.pointer (some ⟨g248, 14, none⟩)), .n SA.emp (fun _ _ A => A = SA.emp)] [] F342 rfl (by kernel_rfl) S344.p3.emp ?_ ?_
     ·refine ⟨?_, ?_, ?_, ?_, ?_, ?_, ?_, trivial⟩
      ·intro w360 M360
       intro a360 F360 S360
       refine obl_of (by rfl) ?_
       exact s_p F360 (v := .pointer (some ⟨g248, 14, none⟩)) (by kernel_rfl) (by kernel_rfl) (by kernel_rfl) S360
      ·intro w361 M361
       intro a361 F361 S361
       refine obl_of (by rfl) ?_
       exact s_r (v := .slice B4 j b4) (r_ld rfl (F361.e (.pointer (some ⟨g248, 14, none⟩))) (v := .slice B4 j b4) (((Sp.dropM S361.drop).bk 2 rfl).cell 14) Try.underlying24 rfl) S361
      ·intro w363 M363
       intro a363 F363 S363
       refine obl_of (by rfl) ?_
       exact s_p F363 (v := .pointer none) (by kernel_rfl) (by kernel_rfl) (by kernel_rfl) S363
      ·intro w364 M364
       intro a364 F364 S364
       refine obl_of (by rfl) ?_
       refine s_c F364 (f := 182) (args := #[.pointer none]) (by kernel_rfl) (by kernel_rfl) (by kernel_rfl) (dependencyTold_nil  _ _ _ S364.drop ) ?_
       rintro _ _ ⟨rfl, S366⟩
       exact ⟨_, _, rfl, ⟨rfl, rfl⟩, S366.emp⟩
      ·intro w367 M367
       intro a367 F367 S367
       refine obl_of (by rfl) ?_
       exact s_news F367 80 zq10 1 (by kernel_rfl) (by kernel_rfl) (by kernel_rfl) S367.drop
      ·intro w369 M369
       rintro _ _ ⟨g368, rfl, rfl⟩ hA372
       intro a369 F369 S369
       refine obl_of (by rfl) ?_
       exact s_app rfl Try.underlying24 7 _ tin80 rfl rfl (F369.e (.slice B4 j b4)) S369 ([Value.bool true, .string ⟨#[]⟩, .string ⟨#[]⟩, .string ⟨#[]⟩, .string ⟨#[]⟩, .slice none 0 0, .string ⟨#[]⟩]) (F369.e (.slice (some ⟨g368, 0, none⟩) 1 1)) ((Sp.bkm S369.drop hA372).sl (by simp)) rfl (by simp [Value.oneCell']) (by omega) (by omega) (n' := j + 1) (by omega) (cs' := flatC Ty80.cells (ds ++ [depT m.fDependencies[j] none 0])) (by rw [flatC_snoc, depT_nil hdn]; rfl)
      ·intro w374 M374
       intro a374 F374 S374
       refine obl_of (by rfl) ?_
       exact s_p F374 (v := .pointer (some ⟨g248, 14, none⟩)) (by kernel_rfl) (by kernel_rfl) (by kernel_rfl) S374
     ·rintro _ _ ⟨g368, rfl, rfl⟩
      rintro _ _ ⟨A373, c373, rfl, rfl⟩
      intro a376 w375 F376 S375
      have S377 : Sp R w375 (SA.own (.slice A373 (j + 1) c373) 80 7 (j + 1) (flatC Ty80.cells (ds ++ [depT m.fDependencies[j] none 0])) :: SA.blk g368 80 zq10 :: SA.zips SA.dep (us.take j) (m.fDependencies.take j) :: SA.zips SA.dep (us.drop (j + 1)) (m.fDependencies.drop (j + 1)) :: SA.blk g248 26 #[.string m.fName, .string m.fHome, .string m.fVersion, .string m.fDescription, .string m.fIcon, .string m.fAPIVersion, .string m.fCondition, .string m.fTags, .string m.fAppVersion, .string m.fKubeVersion, .string m.fType, .slice A154 m.fSources.length c154, .slice A180 m.fKeywords.length c180, .slice B3 m.fMaintainers.length b3, .slice B4 j b4] :: SA.stars (ds.map SA.tg) :: SA.own (.slice B3 m.fMaintainers.length b3) 78 4 m.fMaintainers.length (flatC Ty78.cells (m.fMaintainers.map perT)) :: SA.own0 (.slice A180 m.fKeywords.length c180) 9 1 m.fKeywords.length (strs m.fKeywords) :: SA.own0 (.slice A154 m.fSources.length c154) 9 1 m.fSources.length (strs m.fSources) :: SA.blk g1 26 zq8 :: SA.zips SA.per qs m.fMaintainers :: L) := S375
      refine op_sq0 F376 (s_st rfl (F376.e (.pointer (some ⟨g248, 14, none⟩))) (F376.e (.slice A373 (j + 1) c373)) S377.p4 (by kernel_rfl) rfl rfl rfl (cs := #[.string m.fName, .string m.fHome, .string m.fVersion, .string m.fDescription, .string m.fIcon, .string m.fAPIVersion, .string m.fCondition, .string m.fTags, .string m.fAppVersion, .string m.fKubeVersion, .string m.fType, .slice A154 m.fSources.length c154, .slice A180 m.fKeywords.length c180, .slice B3 m.fMaintainers.length b3, .slice A373 (j + 1) c373]) (by kernel_rfl)) ?_
      rintro _ _ w378 rfl S378 F378
      refine wpList_nil ?_
      refine hK338 _ _ ?_; clear hK338 K338
      refine wp_region_lit ?_
      refine op_rq (v := .int .i64 (↑(j + 1))) F378 (r_add (z := ↑(j + 1)) rfl (F378.e (.int .i64 (↑j))) (F378.e (.int .i64 1)) (wr64 (by omega) (by omega) (by omega))) ?_; intro a379 F379
      refine op_q F379 (.int .i64 (↑(j + 1))) ?_; intro a380 F380
      refine wpList_nil ?_
      have S381 : Sp R w378 (SA.dep none m.fDependencies[j] :: SA.blk g248 26 #[.string m.fName, .string m.fHome, .string m.fVersion, .string m.fDescription, .string m.fIcon, .string m.fAPIVersion, .string m.fCondition, .string m.fTags, .string m.fAppVersion, .string m.fKubeVersion, .string m.fType, .slice A154 m.fSources.length c154, .slice A180 m.fKeywords.length c180, .slice B3 m.fMaintainers.length b3, .slice A373 (j + 1) c373] :: SA.own (.slice A373 (j + 1) c373) 80 7 (j + 1) (flatC Ty80.cells (ds ++ [depT m.fDependencies[j] none 0])) :: SA.blk g368 80 zq10 :: SA.zips SA.dep (us.take j) (m.fDependencies.take j) :: SA.zips SA.dep (us.drop (j + 1)) (m.fDependencies.drop (j + 1)) :: SA.stars (ds.map SA.tg) :: SA.own (.slice B3 m.fMaintainers.length b3) 78 4 m.fMaintainers.length (flatC Ty78.cells (m.fMaintainers.map perT)) :: SA.own0 (.slice A180 m.fKeywords.length c180) 9 1 m.fKeywords.length (strs m.fKeywords) :: SA.own0 (.slice A154 m.fSources.length c154) 9 1 m.fSources.length (strs m.fSources) :: SA.blk g1 26 zq8 :: SA.zips SA.per qs m.fMaintainers :: L) := Sp.dep_nil hdn S378
      have S382 : Sp R w378 (SA.zips SA.dep us m.fDependencies :: SA.blk g248 26 #[.string m.fName, .string m.fHome, .string m.fVersion, .string m.fDescription, .string m.fIcon, .string m.fAPIVersion, .string m.fCondition, .string m.fTags, .string m.fAppVersion, .string m.fKubeVersion, .string m.fType, .slice A154 m.fSources.length c154, .slice A180 m.fKeywords.length c180, .slice B3 m.fMaintainers.length b3, .slice A373 (j + 1) c373] :: SA.own (.slice A373 (j + 1) c373) 80 7 (j + 1) (flatC Ty80.cells (ds ++ [depT m.fDependencies[j] none 0])) :: SA.blk g368 80 zq10 :: SA.stars (ds.map SA.tg) :: SA.own (.slice B3 m.fMaintainers.length b3) 78 4 m.fMaintainers.length (flatC Ty78.cells (m.fMaintainers.map perT)) :: SA.own0 (.slice A180 m.fKeywords.length c180) 9 1 m.fKeywords.length (strs m.fKeywords) :: SA.own0 (.slice A154 m.fSources.length c154) 9 1 m.fSources.length (strs m.fSources) :: SA.blk g1 26 zq8 :: SA.zips SA.per qs m.fMaintainers :: L) := Sp.zclose (k := j) (by omega) hv_j (by rw [← huj]; exact S381.p5.p5.p2)
      have S383 : Sp R w378 (SA.tg (depT m.fDependencies[j] none 0) :: SA.zips SA.dep us m.fDependencies :: SA.blk g248 26 #[.string m.fName, .string m.fHome, .string m.fVersion, .string m.fDescription, .string m.fIcon, .string m.fAPIVersion, .string m.fCondition, .string m.fTags, .string m.fAppVersion, .string m.fKubeVersion, .string m.fType, .slice A154 m.fSources.length c154, .slice A180 m.fKeywords.length c180, .slice B3 m.fMaintainers.length b3, .slice A373 (j + 1) c373] :: SA.own (.slice A373 (j + 1) c373) 80 7 (j + 1) (flatC Ty80.cells (ds ++ [depT m.fDependencies[j] none 0])) :: SA.blk g368 80 zq10 :: SA.stars (ds.map SA.tg) :: SA.own (.slice B3 m.fMaintainers.length b3) 78 4 m.fMaintainers.length (flatC Ty78.cells (m.fMaintainers.map perT)) :: SA.own0 (.slice A180 m.fKeywords.length c180) 9 1 m.fKeywords.length (strs m.fKeywords) :: SA.own0 (.slice A154 m.fSources.length c154) 9 1 m.fSources.length (strs m.fSources) :: SA.blk g1 26 zq8 :: SA.zips SA.per qs m.fMaintainers :: L) := tg_nil hdn S382
      have S384 : Sp R w378 (SA.stars ((ds ++ [depT m.fDependencies[j] none 0]).map SA.tg) :: SA.zips SA.dep us m.fDependencies :: SA.blk g248 26 #[.string m.fName, .string m.fHome, .string m.fVersion, .string m.fDescription, .string m.fIcon, .string m.fAPIVersion, .string m.fCondition, .string m.fTags, .string m.fAppVersion, .string m.fKubeVersion, .string m.fType, .slice A154 m.fSources.length c154, .slice A180 m.fKeywords.length c180, .slice B3 m.fMaintainers.length b3, .slice A373 (j + 1) c373] :: SA.own (.slice A373 (j + 1) c373) 80 7 (j + 1) (flatC Ty80.cells (ds ++ [depT m.fDependencies[j] none 0])) :: SA.blk g368 80 zq10 :: SA.own (.slice B3 m.fMaintainers.length b3) 78 4 m.fMaintainers.length (flatC Ty78.cells (m.fMaintainers.map perT)) :: SA.own0 (.slice A180 m.fKeywords.length c180) 9 1 m.fKeywords.length (strs m.fKeywords) :: SA.own0 (.slice A154 m.fSources.length c154) 9 1 m.fSources.length (strs m.fSources) :: SA.blk g1 26 zq8 :: SA.zips SA.per qs m.fMaintainers :: L) := by rw [List.map_append, List.map_cons, List.map_nil]; exact stars_snoc S383.p5.p1
      exact hK330 _ _ _ (by first | omega | (simp; omega)) ⟨A373, c373, ds ++ [depT m.fDependencies[j] none 0], j + 1, rfl, (F380.kk 2 (F380.kk 3 (F380.kk 88 (F380.kk 89 (F380.kk 90 F380.nil))))), S384.p4.drop.p1.p8.p8.p8.p8.p8.p6.p8.p8, (by first | omega | (with_reducible assumption) | (simp; done)), (by rw [List.map_append, hds, List.take_succ_eq_append_getElem (show j < m.fDependencies.length by omega), List.map_append, List.map_cons, List.map_cons, List.map_nil, List.map_nil, depS_told])⟩
    ·subst hun
     have S385 : Sp R w330 (SA.blk gd 262 #[.string m.fDependencies[j].fName, .string m.fDependencies[j].fVersion, .string m.fDependencies[j].fRepository, .string m.fDependencies[j].fCondition, .slice Ad m.fDependencies[j].fTags.length cd, .bool false, .slice none 0 0, .string m.fDependencies[j].fAlias] :: SA.own0 (.slice Ad m.fDependencies[j].fTags.length cd) 9 1 m.fDependencies[j].fTags.length (strs m.fDependencies[j].fTags) :: SA.zips SA.dep (us.take j) (m.fDependencies.take j) :: SA.zips SA.dep (us.drop (j + 1)) (m.fDependencies.drop (j + 1)) :: SA.blk g248 26 #[.string m.fName, .string m.fHome, .string m.fVersion, .string m.fDescription, .string m.fIcon, .string m.fAPIVersion, .string m.fCondition, .string m.fTags, .string m.fAppVersion, .string m.fKubeVersion, .string m.fType, .slice A154 m.fSources.length c154, .slice A180 m.fKeywords.length c180, .slice B3 m.fMaintainers.length b3, .slice B4 j b4] :: SA.own (.slice B4 j b4) 80 7 j (flatC Ty80.cells ds) :: SA.stars (ds.map SA.tg) :: SA.own (.slice B3 m.fMaintainers.length b3) 78 4 m.fMaintainers.length (flatC Ty78.cells (m.fMaintainers.map perT)) :: SA.own0 (.slice A180 m.fKeywords.length c180) 9 1 m.fKeywords.length (strs m.fKeywords) :: SA.own0 (.slice A154 m.fSources.length c154) 9 1 m.fSources.length (strs m.fSources) :: SA.blk g1 26 zq8 :: SA.zips SA.per qs m.fMaintainers :: L) := Sd343
     refine wp_region_sepF (L0 := SA.blk gd 262 #[.string m.fDependencies[j].fName, .string m.fDependencies[j].fVersion, .string m.fDependencies[j].fRepository, .string m.fDependencies[j].fCondition, .slice Ad m.fDependencies[j].fTags.length cd, .bool false, .slice none 0 0, .string m.fDependencies[j].fAlias] :: SA.own0 (.slice Ad m.fDependencies[j].fTags.length cd) 9 1 m.fDependencies[j].fTags.length (strs m.fDependencies[j].fTags) :: SA.zips SA.dep (us.take j) (m.fDependencies.take j) :: SA.zips SA.dep (us.drop (j + 1)) (m.fDependencies.drop (j + 1)) :: SA.blk g248 26 #[.string m.fName, .string m.fHome, .string m.fVersion, .string m.fDescription, .string m.fIcon, .string m.fAPIVersion, .string m.fCondition, .string m.fTags, .string m.fAppVersion, .string m.fKubeVersion, .string m.fType, .slice A154 m.fSources.length c154, .slice A180 m.fKeywords.length c180, .slice B3 m.fMaintainers.length b3, .slice B4 j b4] :: SA.stars (ds.map SA.tg) :: SA.own (.slice B3 m.fMaintainers.length b3) 78 4 m.fMaintainers.length (flatC Ty78.cells (m.fMaintainers.map perT)) :: SA.own0 (.slice A180 m.fKeywords.length c180) 9 1 m.fKeywords.length (strs m.fKeywords) :: SA.own0 (.slice A154 m.fSources.length c154) 9 1 m.fSources.length (strs m.fSources) :: SA.blk g1 26 zq8 :: SA.zips SA.per qs m.fMaintainers :: L) [some [], some [(0, 94)], some [], some [(2, 96)], some [(2, 96), (3, 97)], some [(1, 95), (2, 96), (3, 97), (4, 98)], some [], none] [.v 94 (.pointer (some ⟨g248, 14, none⟩)), .v 95 (.slice B4 j b4), .v 96 (.pointer (some ⟨gd, 0, none⟩)), .p 97 (SA.emp) (fun _ vv AA => ∃ B409 : Option Addr, ∃ b409 : Nat, vv = .agg (zq11 m.fDependencies[j] B409 b409) ∧ AA = SA.own0 (.slice B409 m.fDependencies[j].fTags.length b409) 9 1 m.fDependencies[j].fTags.length (strs m.fDependencies[j].fTags)), .p 98 (SA.emp) (fun env vv AA => ∃ B409x : Option Addr, ∃ b409x : Nat, ∃ g412 : Nat, (env.getD 1 undef) = .agg (zq11 m.fDependencies[j] B409x b409x) ∧ vv = .slice (some ⟨g412, 0, none⟩) 1 1 ∧ AA = SA.blk g412 80 (zq11 m.fDependencies[j] B409x b409x)), .p 99 (SA.own (.slice B4 j b4) 80 7 j (flatC Ty80.cells ds)) (fun env vv AA => ∃ B409x : Option Addr, ∃ b409x : Nat, ∃ A418 : Option Addr, ∃ c418 : Nat, (env.getD 2 undef) = .agg (zq11 m.fDependencies[j] B409x b409x) ∧ vv = .slice A418 (j + 1) c418 ∧ AA = SA.own (.slice A418 (j + 1) c418) 80 7 (j + 1) (flatC Ty80.cells (ds ++ [depT m.fDependencies[j] B409x b409x]))), .v 100 (.pointer (some ⟨g248, 14, none⟩)), .n SA.emp (fun _ _ A => A = SA.emp)] [] F342 rfl (by kernel_rfl) S385.p5.emp.emp ?_ ?_
     ·refine ⟨?_, ?_, ?_, ?_, ?_, ?_, ?_, trivial⟩
      ·intro w403 M403
       intro a403 F403 S403
       refine obl_of (by rfl) ?_
       exact s_p F403 (v := .pointer (some ⟨g248, 14, none⟩)) (by kernel_rfl) (by kernel_rfl) (by kernel_rfl) S403
      ·intro w404 M404
       intro a404 F404 S404
       refine obl_of (by rfl) ?_
       exact s_r (v := .slice B4 j b4) (r_ld rfl (F404.e (.pointer (some ⟨g248, 14, none⟩))) (v := .slice B4 j b4) (((Sp.dropM S404.drop).bk 4 rfl).cell 14) Try.underlying24 rfl) S404
      ·intro w406 M406
       intro a406 F406 S406
       refine obl_of (by rfl) ?_
       exact s_p F406 (v := .pointer (some ⟨gd, 0, none⟩)) (by kernel_rfl) (by kernel_rfl) (by kernel_rfl) S406
      ·intro w407 M407
       intro a407 F407 S407
       refine obl_of (by rfl) ?_
       refine s_c F407 (f := 182) (args := #[.pointer (some ⟨gd, 0, none⟩)]) (by kernel_rfl) (by kernel_rfl) (by kernel_rfl) (dependencyTold_some m.fDependencies[j] gd Ad cd _ _ _ S407.drop (fun w S => (Sp.dropM S).bk 0 rfl) (fun w S => own0_sl1 ((Sp.dropM S).ow0 1 rfl) (by first | omega | (simp; omega))) (by first | omega | (simp; done) | (simp; omega))) ?_
       rintro _ _ ⟨B409, b409, rfl, S409⟩
       exact ⟨_, _, rfl, ⟨B409, b409, rfl, rfl⟩, S409⟩
      ·intro w410 M410
       rintro _ _ ⟨B409, b409, rfl, rfl⟩ hA412
       intro a410 F410 S410
       refine obl_of (by rfl) ?_
       exact sAt_mono (s_news F410 80 (zq11 m.fDependencies[j] B409 b409) 1 (by kernel_rfl) (by kernel_rfl) (by kernel_rfl) S410.drop) fun _ _ ⟨g412, e1, e2⟩ => ⟨B409, b409, g412, (by kernel_rfl), e1, e2⟩
      ·intro w413 M413
       rintro _ _ ⟨B409, b409, rfl, rfl⟩ hA416
       rintro _ _ ⟨B409x, b409x, g412, e4_1, rfl, rfl⟩ hA417
       have e4_1 := envE_at (v := .agg (zq11 m.fDependencies[j] B409 b409)) e4_1 (by kernel_rfl)
       obtain ⟨rfl, rfl⟩ : B409 = B409x ∧ b409 = b409x := by cases e4_1; exact ⟨rfl, rfl⟩
       clear e4_1
       intro a413 F413 S413
       refine obl_of (by rfl) ?_
       exact sAt_mono (s_app rfl Try.underlying24 7 _ tin80 rfl rfl (F413.e (.slice B4 j b4)) S413 ([Value.bool false, .string m.fDependencies[j].fName, .string m.fDependencies[j].fVersion, .string m.fDependencies[j].fRepository, .string m.fDependencies[j].fCondition, .slice B409 (m.fDependencies[j].fTags.length) b409, .string m.fDependencies[j].fAlias]) (F413.e (.slice (some ⟨g412, 0, none⟩) 1 1)) ((Sp.bkm S413.drop hA417).sl (by simp)) rfl (by simp [Value.oneCell']) (by omega) (by omega) (n' := j + 1) (by omega) (cs' := flatC Ty80.cells (ds ++ [depT m.fDependencies[j] B409 b409])) (by rw [flatC_snoc, depT_some hdn]; rfl)) fun _ _ ⟨A418, c418, e1, e2⟩ => ⟨B409, b409, A418, c418, (by kernel_rfl), e1, e2⟩
      ·intro w419 M419
       intro a419 F419 S419
       refine obl_of (by rfl) ?_
       exact s_p F419 (v := .pointer (some ⟨g248, 14, none⟩)) (by kernel_rfl) (by kernel_rfl) (by kernel_rfl) S419
     ·rintro _ _ ⟨B409, b409, rfl, rfl⟩
      rintro _ _ ⟨B409x, b409x, g412, e4_1, rfl, rfl⟩
      have e4_1 := envE_at (v := .agg (zq11 m.fDependencies[j] B409 b409)) e4_1 (by kernel_rfl)
      obtain ⟨rfl, rfl⟩ : B409 = B409x ∧ b409 = b409x := by cases e4_1; exact ⟨rfl, rfl⟩
      clear e4_1
      rintro _ _ ⟨B409x, b409x, A418, c418, e5_2, rfl, rfl⟩
      have e5_2 := envE_at (v := .agg (zq11 m.fDependencies[j] B409 b409)) e5_2 (by kernel_rfl)
      obtain ⟨rfl, rfl⟩ : B409 = B409x ∧ b409 = b409x := by cases e5_2; exact ⟨rfl, rfl⟩
      clear e5_2
      intro a421 w420 F421 S420
      have S422 : Sp R w420 (SA.own (.slice A418 (j + 1) c418) 80 7 (j + 1) (flatC Ty80.cells (ds ++ [depT m.fDependencies[j] B409 b409])) :: SA.blk g412 80 (zq11 m.fDependencies[j] B409 b409) :: SA.own0 (.slice B409 m.fDependencies[j].fTags.length b409) 9 1 m.fDependencies[j].fTags.length (strs m.fDependencies[j].fTags) :: SA.blk gd 262 #[.string m.fDependencies[j].fName, .string m.fDependencies[j].fVersion, .string m.fDependencies[j].fRepository, .string m.fDependencies[j].fCondition, .slice Ad m.fDependencies[j].fTags.length cd, .bool false, .slice none 0 0, .string m.fDependencies[j].fAlias] :: SA.own0 (.slice Ad m.fDependencies[j].fTags.length cd) 9 1 m.fDependencies[j].fTags.length (strs m.fDependencies[j].fTags) :: SA.zips SA.dep (us.take j) (m.fDependencies.take j) :: SA.zips SA.dep (us.drop (j + 1)) (m.fDependencies.drop (j + 1)) :: SA.blk g248 26 #[.string m.fName, .string m.fHome, .string m.fVersion, .string m.fDescription, .string m.fIcon, .string m.fAPIVersion, .string m.fCondition, .string m.fTags, .string m.fAppVersion, .string m.fKubeVersion, .string m.fType, .slice A154 m.fSources.length c154, .slice A180 m.fKeywords.length c180, .slice B3 m.fMaintainers.length b3, .slice B4 j b4] :: SA.stars (ds.map SA.tg) :: SA.own (.slice B3 m.fMaintainers.length b3) 78 4 m.fMaintainers.length (flatC Ty78.cells (m.fMaintainers.map perT)) :: SA.own0 (.slice A180 m.fKeywords.length c180) 9 1 m.fKeywords.length (strs m.fKeywords) :: SA.own0 (.slice A154 m.fSources.length c154) 9 1 m.fSources.length (strs m.fSources) :: SA.blk g1 26 zq8 :: SA.zips SA.per qs m.fMaintainers :: L) := S420
      refine op_sq0 F421 (s_st rfl (F421.e (.pointer (some ⟨g248, 14, none⟩))) (F421.e (.slice A418 (j + 1) c418)) S422.p7 (by kernel_rfl) rfl rfl rfl (cs := #[.string m.fName, .string m.fHome, .string m.fVersion, .string m.fDescription, .string m.fIcon, .string m.fAPIVersion, .string m.fCondition, .string m.fTags, .string m.fAppVersion, .string m.fKubeVersion, .string m.fType, .slice A154 m.fSources.length c154, .slice A180 m.fKeywords.length c180, .slice B3 m.fMaintainers.length b3, .slice A418 (j + 1) c418]) (by kernel_rfl)) ?_
      rintro _ _ w423 rfl S423 F423
      refine wpList_nil ?_
      refine hK338 _ _ ?_; clear hK338 K338
      refine wp_region_lit ?_
      refine op_rq (v := .int .i64 (↑(j + 1))) F423 (r_add (z := ↑(j + 1)) rfl (F423.e (.int .i64 (↑j))) (F423.e (.int .i64 1)) (wr64 (by omega) (by omega) (by omega))) ?_; intro a424 F424
      refine op_q F424 (.int .i64 (↑(j + 1))) ?_; intro a425 F425
      refine wpList_nil ?_
      have S426 : Sp R w423 (SA.dep (some ⟨gd, 0, none⟩) m.fDependencies[j] :: SA.blk g248 26 #[.string m.fName, .string m.fHome, .string m.fVersion, .string m.fDescription, .string m.fIcon, .string m.fAPIVersion, .string m.fCondition, .string m.fTags, .string m.fAppVersion, .string m.fKubeVersion, .string m.fType, .slice A154 m.fSources.length c154, .slice A180 m.fKeywords.length c180, .slice B3 m.fMaintainers.length b3, .slice A418 (j + 1) c418] :: SA.own (.slice A418 (j + 1) c418) 80 7 (j + 1) (flatC Ty80.cells (ds ++ [depT m.fDependencies[j] B409 b409])) :: SA.blk g412 80 (zq11 m.fDependencies[j] B409 b409) :: SA.own0 (.slice B409 m.fDependencies[j].fTags.length b409) 9 1 m.fDependencies[j].fTags.length (strs m.fDependencies[j].fTags) :: SA.zips SA.dep (us.take j) (m.fDependencies.take j) :: SA.zips SA.dep (us.drop (j + 1)) (m.fDependencies.drop (j + 1)) :: SA.stars (ds.map SA.tg) :: SA.own (.slice B3 m.fMaintainers.length b3) 78 4 m.fMaintainers.length (flatC Ty78.cells (m.fMaintainers.map perT)) :: SA.own0 (.slice A180 m.fKeywords.length c180) 9 1 m.fKeywords.length (strs m.fKeywords) :: SA.own0 (.slice A154 m.fSources.length c154) 9 1 m.fSources.length (strs m.fSources) :: SA.blk g1 26 zq8 :: SA.zips SA.per qs m.fMaintainers :: L) := Sp.dep_some hdn S423.p5.p5
      have S427 : Sp R w423 (SA.zips SA.dep us m.fDependencies :: SA.blk g248 26 #[.string m.fName, .string m.fHome, .string m.fVersion, .string m.fDescription, .string m.fIcon, .string m.fAPIVersion, .string m.fCondition, .string m.fTags, .string m.fAppVersion, .string m.fKubeVersion, .string m.fType, .slice A154 m.fSources.length c154, .slice A180 m.fKeywords.length c180, .slice B3 m.fMaintainers.length b3, .slice A418 (j + 1) c418] :: SA.own (.slice A418 (j + 1) c418) 80 7 (j + 1) (flatC Ty80.cells (ds ++ [depT m.fDependencies[j] B409 b409])) :: SA.blk g412 80 (zq11 m.fDependencies[j] B409 b409) :: SA.own0 (.slice B409 m.fDependencies[j].fTags.length b409) 9 1 m.fDependencies[j].fTags.length (strs m.fDependencies[j].fTags) :: SA.stars (ds.map SA.tg) :: SA.own (.slice B3 m.fMaintainers.length b3) 78 4 m.fMaintainers.length (flatC Ty78.cells (m.fMaintainers.map perT)) :: SA.own0 (.slice A180 m.fKeywords.length c180) 9 1 m.fKeywords.length (strs m.fKeywords) :: SA.own0 (.slice A154 m.fSources.length c154) 9 1 m.fSources.length (strs m.fSources) :: SA.blk g1 26 zq8 :: SA.zips SA.per qs m.fMaintainers :: L) := Sp.zclose (k := j) (by omega) hv_j (by rw [← huj]; exact S426.p6.p6.p2)
      have S428 : Sp R w423 (SA.tg (depT m.fDependencies[j] B409 b409) :: SA.zips SA.dep us m.fDependencies :: SA.blk g248 26 #[.string m.fName, .string m.fHome, .string m.fVersion, .string m.fDescription, .string m.fIcon, .string m.fAPIVersion, .string m.fCondition, .string m.fTags, .string m.fAppVersion, .string m.fKubeVersion, .string m.fType, .slice A154 m.fSources.length c154, .slice A180 m.fKeywords.length c180, .slice B3 m.fMaintainers.length b3, .slice A418 (j + 1) c418] :: SA.own (.slice A418 (j + 1) c418) 80 7 (j + 1) (flatC Ty80.cells (ds ++ [depT m.fDependencies[j] B409 b409])) :: SA.blk g412 80 (zq11 m.fDependencies[j] B409 b409) :: SA.stars (ds.map SA.tg) :: SA.own (.slice B3 m.fMaintainers.length b3) 78 4 m.fMaintainers.length (flatC Ty78.cells (m.fMaintainers.map perT)) :: SA.own0 (.slice A180 m.fKeywords.length c180) 9 1 m.fKeywords.length (strs m.fKeywords) :: SA.own0 (.slice A154 m.fSources.length c154) 9 1 m.fSources.length (strs m.fSources) :: SA.blk g1 26 zq8 :: SA.zips SA.per qs m.fMaintainers :: L) := tg_some hdn S427.p4
      have S429 : Sp R w423 (SA.stars ((ds ++ [depT m.fDependencies[j] B409 b409]).map SA.tg) :: SA.zips SA.dep us m.fDependencies :: SA.blk g248 26 #[.string m.fName, .string m.fHome, .string m.fVersion, .string m.fDescription, .string m.fIcon, .string m.fAPIVersion, .string m.fCondition, .string m.fTags, .string m.fAppVersion, .string m.fKubeVersion, .string m.fType, .slice A154 m.fSources.length c154, .slice A180 m.fKeywords.length c180, .slice B3 m.fMaintainers.length b3, .slice A418 (j + 1) c418] :: SA.own (.slice A418 (j + 1) c418) 80 7 (j + 1) (flatC Ty80.cells (ds ++ [depT m.fDependencies[j] B409 b409])) :: SA.blk g412 80 (zq11 m.fDependencies[j] B409 b409) :: SA.own (.slice B3 m.fMaintainers.length b3) 78 4 m.fMaintainers.length (flatC Ty78.cells (m.fMaintainers.map perT)) :: SA.own0 (.slice A180 m.fKeywords.length c180) 9 1 m.fKeywords.length (strs m.fKeywords) :: SA.own0 (.slice A154 m.fSources.length c154) 9 1 m.fSources.length (strs m.fSources) :: SA.blk g1 26 zq8 :: SA.zips SA.per qs m.fMaintainers :: L) := by rw [List.map_append, List.map_cons, List.map_nil]; exact stars_snoc S428.p5.p1
      exact hK330 _ _ _ (by first | omega | (simp; omega)) ⟨A418, c418, ds ++ [depT m.fDependencies[j] B409 b409], j + 1, rfl, (F425.kk 2 (F425.kk 3 (F425.kk 88 (F425.kk 89 (F425.kk 90 F425.nil))))), S429.p4.drop.p1.p8.p8.p8.p8.p8.p6.p8.p8, (by first | omega | (with_reducible assumption) | (simp; done)), (by rw [List.map_append, hds, List.take_succ_eq_append_getElem (show j < m.fDependencies.length by omega), List.map_append, List.map_cons, List.map_cons, List.map_nil, List.map_nil, depS_told])⟩
   ·have hc_j : decide ((↑j : Int) < ↑us.length) = false := by first | (simp; done) | (simp; omega)
    obtain rfl : j = us.length := by omega
    rw [hul] at S330
    rw [hul, List.take_length] at hds
    refine wp_seq_k fun K430 hK430 => ?_
    refine wp_region_lit ?_
    refine op_q F330 (.bool (decide ((↑us.length : Int) < ↑us.length))) ?_; intro a431 F431
    have F432 := F431.sb 91 (by kernel_rfl) hc_j
    refine wpList_nil ?_
    refine hK430 _ _ ?_; clear hK430 K430
    refine wp_seq_k fun K433 hK433 => ?_
    refine wp_cond_false (F432.ev (by kernel_rfl)) ?_
    refine wp_exit ?_
    refine ex_then ?_; clear hK433 K433
    refine ex_then ?_
    refine ex_in ?_
    refine hK320 _ _ ?_; clear hK320 K320
    refine wp_seq_k fun K434 hK434 => ?_
    refine wp_region_lit ?_
    refine op_rq (v := .agg (zq12 m A154 c154 A180 c180 B3 b3 B4 b4)) F432 (r_ldm rfl (F432.e (.pointer (some ⟨g248, 0, none⟩))) (S330.bk 0 rfl) 15 (by kernel_rfl) Try.underlying26 rfl (by kernel_rfl) (v := (zq12 m A154 c154 A180 c180 B3 b3 B4 b4)) (by kernel_rfl)) ?_; intro a435 F435
    refine op_sq0 F435 (s_stb rfl (F435.e (.pointer (some ⟨g1, 0, none⟩))) (F435.e (.agg (zq12 m A154 c154 A180 c180 B3 b3 B4 b4))) S330.p6 (by kernel_rfl) rfl (by kernel_rfl)) ?_
    rintro _ _ w436 rfl S436 F436
    refine wpList_nil ?_
    refine hK434 _ _ ?_; clear hK434 K434
    refine wp_ret ?_
    refine (F436.resC (results1 (v := .agg (zq12 m A154 c154 A180 c180 B3 b3 B4 b4)) Try.results117 (F436.rvc (p := ⟨g1, 0, none⟩) (by kernel_rfl) (ld_mid (S436.bk 0 rfl) 15 (by kernel_rfl) Try.underlying26 rfl (by kernel_rfl) (v := (zq12 m A154 c154 A180 c180 B3 b3 B4 b4)) (by kernel_rfl)))) ?_).1
    exact ⟨A154, c154, A180, c180, B3, b3, B4, b4, ds, rfl, S436.drop.drop.p6.p6.p3.p3.p4.p5.p6, (by first | (with_reducible assumption) | omega)⟩
end Go.Proofs.Ytkjcedlgljeoiaa

/- Metadata as one part: an object (met), a value with its rows (mv). -/
namespace Go.Proofs.Ytkjcedlgljeoiaa
open Go.RowKit Go.Lib
set_option linter.unusedVariables false
set_option linter.unusedSimpArgs false
/-- Metadata as an object. -/
def SA.met (g : Nat) (m : Ty26) : SA := SA.ex fun A1 : Option Addr => SA.ex fun c1 : Nat => SA.ex fun A2 : Option Addr => SA.ex fun c2 : Nat => SA.ex fun A3 : Option Addr => SA.ex fun c3 : Nat => SA.ex fun qs : List (Option Addr) => SA.ex fun A4 : Option Addr => SA.ex fun c4 : Nat => SA.ex fun us : List (Option Addr) => SA.stars [SA.blk g 237 #[.string m.fName, .string m.fHome, .slice A1 m.fSources.length c1, .string m.fVersion, .string m.fDescription, .slice A2 m.fKeywords.length c2, .slice A3 qs.length c3, .string m.fIcon, .string m.fAPIVersion, .string m.fCondition, .string m.fTags, .string m.fAppVersion, .bool false, .map none, .string m.fKubeVersion, .slice A4 us.length c4, .string m.fType], SA.own0 (.slice A1 m.fSources.length c1) 9 1 m.fSources.length (strs m.fSources), SA.own0 (.slice A2 m.fKeywords.length c2) 9 1 m.fKeywords.length (strs m.fKeywords), SA.own (.slice A3 qs.length c3) 238 1 qs.length (pps qs), SA.zips SA.per qs m.fMaintainers, SA.own (.slice A4 us.length c4) 240 1 us.length (pps us), SA.zips SA.dep us m.fDependencies]
/-- Metadata as a value with rows of its own. -/
def SA.mv (y : Ty26) : SA := SA.stars [SA.own0 (.slice y.fSources_a y.fSources.length y.fSources_c) 9 1 y.fSources.length (strs y.fSources), SA.own0 (.slice y.fKeywords_a y.fKeywords.length y.fKeywords_c) 9 1 y.fKeywords.length (strs y.fKeywords), SA.own0 (.slice y.fMaintainers_a y.fMaintainers.length y.fMaintainers_c) 78 4 y.fMaintainers.length (flatC Ty78.cells y.fMaintainers), SA.own0 (.slice y.fDependencies_a y.fDependencies.length y.fDependencies_c) 80 7 y.fDependencies.length (flatC Ty80.cells y.fDependencies), SA.stars (y.fDependencies.map SA.tg)]
section
variable {R : Ctx} {w : World} {L : List SA} {g : Nat} {m y : Ty26}
theorem Sp.met_open (S : Sp R w (SA.met g m :: L)) : ∃ (A1 : Option Addr) (c1 : Nat) (A2 : Option Addr) (c2 : Nat) (A3 : Option Addr) (c3 : Nat) (qs : List (Option Addr)) (A4 : Option Addr) (c4 : Nat) (us : List (Option Addr)), Sp R w (SA.blk g 237 #[.string m.fName, .string m.fHome, .slice A1 m.fSources.length c1, .string m.fVersion, .string m.fDescription, .slice A2 m.fKeywords.length c2, .slice A3 qs.length c3, .string m.fIcon, .string m.fAPIVersion, .string m.fCondition, .string m.fTags, .string m.fAppVersion, .bool false, .map none, .string m.fKubeVersion, .slice A4 us.length c4, .string m.fType] :: SA.own0 (.slice A1 m.fSources.length c1) 9 1 m.fSources.length (strs m.fSources) :: SA.own0 (.slice A2 m.fKeywords.length c2) 9 1 m.fKeywords.length (strs m.fKeywords) :: SA.own (.slice A3 qs.length c3) 238 1 qs.length (pps qs) :: SA.zips SA.per qs m.fMaintainers :: SA.own (.slice A4 us.length c4) 240 1 us.length (pps us) :: SA.zips SA.dep us m.fDependencies :: L) := by
  obtain ⟨A1, S⟩ := Sp.ex.1 S; obtain ⟨c1, S⟩ := Sp.ex.1 S; obtain ⟨A2, S⟩ := Sp.ex.1 S; obtain ⟨c2, S⟩ := Sp.ex.1 S; obtain ⟨A3, S⟩ := Sp.ex.1 S; obtain ⟨c3, S⟩ := Sp.ex.1 S; obtain ⟨qs, S⟩ := Sp.ex.1 S; obtain ⟨A4, S⟩ := Sp.ex.1 S; obtain ⟨c4, S⟩ := Sp.ex.1 S; obtain ⟨us, S⟩ := Sp.ex.1 S
  exact ⟨A1, c1, A2, c2, A3, c3, qs, A4, c4, us, Sp.stars.1 S⟩
theorem Sp.met_mk {A1 : Option Addr} {c1 : Nat} {A2 : Option Addr} {c2 : Nat} {A3 : Option Addr} {c3 : Nat} {qs : List (Option Addr)} {A4 : Option Addr} {c4 : Nat} {us : List (Option Addr)} (S : Sp R w (SA.blk g 237 #[.string m.fName, .string m.fHome, .slice A1 m.fSources.length c1, .string m.fVersion, .string m.fDescription, .slice A2 m.fKeywords.length c2, .slice A3 qs.length c3, .string m.fIcon, .string m.fAPIVersion, .string m.fCondition, .string m.fTags, .string m.fAppVersion, .bool false, .map none, .string m.fKubeVersion, .slice A4 us.length c4, .string m.fType] :: SA.own0 (.slice A1 m.fSources.length c1) 9 1 m.fSources.length (strs m.fSources) :: SA.own0 (.slice A2 m.fKeywords.length c2) 9 1 m.fKeywords.length (strs m.fKeywords) :: SA.own (.slice A3 qs.length c3) 238 1 qs.length (pps qs) :: SA.zips SA.per qs m.fMaintainers :: SA.own (.slice A4 us.length c4) 240 1 us.length (pps us) :: SA.zips SA.dep us m.fDependencies :: L)) : Sp R w (SA.met g m :: L) :=
  Sp.ex.2 ⟨A1, Sp.ex.2 ⟨c1, Sp.ex.2 ⟨A2, Sp.ex.2 ⟨c2, Sp.ex.2 ⟨A3, Sp.ex.2 ⟨c3, Sp.ex.2 ⟨qs, Sp.ex.2 ⟨A4, Sp.ex.2 ⟨c4, Sp.ex.2 ⟨us, (Sp.stars (l := [SA.blk g 237 #[.string m.fName, .string m.fHome, .slice A1 m.fSources.length c1, .string m.fVersion, .string m.fDescription, .slice A2 m.fKeywords.length c2, .slice A3 qs.length c3, .string m.fIcon, .string m.fAPIVersion, .string m.fCondition, .string m.fTags, .string m.fAppVersion, .bool false, .map none, .string m.fKubeVersion, .slice A4 us.length c4, .string m.fType], SA.own0 (.slice A1 m.fSources.length c1) 9 1 m.fSources.length (strs m.fSources), SA.own0 (.slice A2 m.fKeywords.length c2) 9 1 m.fKeywords.length (strs m.fKeywords), SA.own (.slice A3 qs.length c3) 238 1 qs.length (pps qs), SA.zips SA.per qs m.fMaintainers, SA.own (.slice A4 us.length c4) 240 1 us.length (pps us), SA.zips SA.dep us m.fDependencies])).2 S⟩⟩⟩⟩⟩⟩⟩⟩⟩⟩
theorem Sp.mv_open (S : Sp R w (SA.mv y :: L)) : Sp R w (SA.own0 (.slice y.fSources_a y.fSources.length y.fSources_c) 9 1 y.fSources.length (strs y.fSources) :: SA.own0 (.slice y.fKeywords_a y.fKeywords.length y.fKeywords_c) 9 1 y.fKeywords.length (strs y.fKeywords) :: SA.own0 (.slice y.fMaintainers_a y.fMaintainers.length y.fMaintainers_c) 78 4 y.fMaintainers.length (flatC Ty78.cells y.fMaintainers) :: SA.own0 (.slice y.fDependencies_a y.fDependencies.length y.fDependencies_c) 80 7 y.fDependencies.length (flatC Ty80.cells y.fDependencies) :: SA.stars (y.fDependencies.map SA.tg) :: L) := Sp.stars.1 S
theorem Sp.mv_mk (S : Sp R w (SA.own0 (.slice y.fSources_a y.fSources.length y.fSources_c) 9 1 y.fSources.length (strs y.fSources) :: SA.own0 (.slice y.fKeywords_a y.fKeywords.length y.fKeywords_c) 9 1 y.fKeywords.length (strs y.fKeywords) :: SA.own0 (.slice y.fMaintainers_a y.fMaintainers.length y.fMaintainers_c) 78 4 y.fMaintainers.length (flatC Ty78.cells y.fMaintainers) :: SA.own0 (.slice y.fDependencies_a y.fDependencies.length y.fDependencies_c) 80 7 y.fDependencies.length (flatC Ty80.cells y.fDependencies) :: SA.stars (y.fDependencies.map SA.tg) :: L)) : Sp R w (SA.mv y :: L) := (Sp.stars (l := [SA.own0 (.slice y.fSources_a y.fSources.length y.fSources_c) 9 1 y.fSources.length (strs y.fSources), SA.own0 (.slice y.fKeywords_a y.fKeywords.length y.fKeywords_c) 9 1 y.fKeywords.length (strs y.fKeywords), SA.own0 (.slice y.fMaintainers_a y.fMaintainers.length y.fMaintainers_c) 78 4 y.fMaintainers.length (flatC Ty78.cells y.fMaintainers), SA.own0 (.slice y.fDependencies_a y.fDependencies.length y.fDependencies_c) 80 7 y.fDependencies.length (flatC Ty80.cells y.fDependencies), SA.stars (y.fDependencies.map SA.tg)])).2 S
theorem Sp.at {A : SA} (i : Nat) (S : Sp R w L) (hm : L[i]? = some A) : ∃ L', Sp R w (A :: L') := by
  obtain ⟨s, t, rfl⟩ := List.append_of_mem (List.mem_of_getElem? hm)
  exact ⟨_, S.perm List.perm_middle⟩
/-- What is to be read of metadata. -/
def MetaAt (w : World) (m : Ty26) : Prop := Sl w m.fSources_a (strs m.fSources) ∧ Sl w m.fKeywords_a (strs m.fKeywords) ∧ Rows w m.fMaintainers_a 4 (m.fMaintainers.map Ty78.cells) ∧ Rows w m.fDependencies_a 7 (m.fDependencies.map Ty80.cells) ∧ ∀ d ∈ m.fDependencies, Sl w d.fTags_a (strs d.fTags)
theorem Sp.mvF (S : Sp R w (SA.mv m :: L)) (hm1 : m.fSources.length ≤ 1000000) (hm2 : m.fKeywords.length ≤ 1000000) (hm3 : m.fMaintainers.length ≤ 1000000) (hm4 : m.fDependencies.length ≤ 1000000) (hm5 : ∀ d ∈ m.fDependencies, d.fTags.length ≤ 1000000) : MetaAt w m := by
  have S1 := S.mv_open
  refine ⟨own0_sl1 (S1.ow0 0 rfl) (by omega), own0_sl1 (S1.ow0 1 rfl) (by omega), own0_rowsT1 (S1.ow0 2 rfl) rfl (by decide) (fun x => x.len) (by omega), own0_rowsT1 (S1.ow0 3 rfl) rfl (by decide) (fun x => x.len) (by omega), fun d hd => ?_⟩
  have S2 := Sp.stars.1 S1.p4
  exact own0_sl1 (S2.ow0m (List.mem_append_left _ (List.mem_map.2 ⟨d, hd, rfl⟩))) (by have := hm5 d hd; omega)
end
/-- But for addresses. -/
def metS (m : Ty26) : Ty26 := { m with fSources_a := none, fSources_c := 0, fKeywords_a := none, fKeywords_c := 0, fMaintainers_a := none, fMaintainers_c := 0, fDependencies_a := none, fDependencies_c := 0, fDependencies := m.fDependencies.map depS }
/-- As it is told out of memory. -/
def metT (m : Ty26) : Ty26 := metS { m with fMaintainers := m.fMaintainers.map perT, fDependencies := m.fDependencies.map fun d => depT d none 0 }
theorem metaOf_m (m : Ty26) (R : Ctx) (L : List SA) (w : World) (S : Sp R w L) (h : Rf R L fun w => MetaAt w m) (hm1 : m.fSources.length ≤ 1000000) (hm2 : m.fKeywords.length ≤ 1000000) (hm3 : m.fMaintainers.length ≤ 1000000) (hm4 : m.fDependencies.length ≤ 1000000) (hm5 : ∀ d ∈ m.fDependencies, d.fTags.length ≤ 1000000) : Calls Try.prog 95 #[.agg #[.string m.fName, .string m.fHome, .string m.fVersion, .string m.fDescription, .string m.fIcon, .string m.fAPIVersion, .string m.fCondition, .string m.fTags, .string m.fAppVersion, .string m.fKubeVersion, .string m.fType, .slice m.fSources_a m.fSources.length m.fSources_c, .slice m.fKeywords_a m.fKeywords.length m.fKeywords_c, .slice m.fMaintainers_a m.fMaintainers.length m.fMaintainers_c, .slice m.fDependencies_a m.fDependencies.length m.fDependencies_c]] w fun e w' => ∃ g : Nat, e = .returned (.pointer (some ⟨g, 0, none⟩)) ∧ Sp R w' (SA.met g m :: L) :=
  (metaOf_sp m R L w S (fun w S => (h w S).1) (fun w S => (h w S).2.1) (fun w S => (h w S).2.2.1) (fun w S => (h w S).2.2.2.1) (fun w S => (h w S).2.2.2.2) hm1 hm2 hm3 hm4 hm5).mono fun e w' ⟨g, A1, c1, A2, c2, A3, c3, qs, A4, c4, us, he, hS⟩ => ⟨g, he, Sp.met_mk hS⟩
end Go.Proofs.Ytkjcedlgljeoiaa

/- Contracts: zzFits3, HlOneOf, VersionSet.Has, HasVersion. -/
namespace Go.Proofs.Ytkjcedlgljeoiaa
open Go.RowKit Go.Lib

def fits3 (xs : List ByteArray) : Bool := decide (xs.length ≤ 2147483647) && xs.all fun s => decide (s.size ≤ 2147483647)
theorem all_no {α : Type} {p : α → Bool} {xs : List α} {k : Nat} (hk : k < xs.length) (h : p xs[k] = false) : xs.all p = false := by
  rw [List.all_eq_false]
  exact ⟨xs[k], List.getElem_mem hk, by simp [h]⟩
theorem all_yes {α : Type} {p : α → Bool} {xs : List α} (h : ∀ k, ∀ hk : k < xs.length, p xs[k] = true) : xs.all p = true := by
  rw [List.all_eq_true]
  intro c hc
  obtain ⟨k, hk, rfl⟩ := List.mem_iff_getElem.1 hc
  exact h k hk

theorem zzFits3_any (A : Option Addr) (c : Nat) (xs : List ByteArray) (w : World) (h : Sl w A (strs xs)) :
    Calls Try.prog 27 #[.slice A xs.length c] w fun e w' => e = .returned (.bool (fits3 xs)) ∧ w = w' := by
  have hl : xs.length ≤ 9223372036854775807 := by simpa [strs_len] using h.1
  have H := Lib.hid h
  clear h
  by_cases hbig : 2147483647 < xs.length
  · have hf : fits3 xs = false := by simp [fits3]; omega
    have HF := Lib.hid hf
    clear hf H
    go_enter Try.func27, Try.ntmps27
    go_wp2
    go_ret
    exact ⟨ret_bool HF.out.symm, rfl⟩
  · have hle : xs.length ≤ 2147483647 := by omega
    clear hbig
    go_enter Try.func27, Try.ntmps27
    go_wp2
    go_loop [10] (fun i => ∃ k : Nat, k ≤ xs.length ∧ i = .int .i64 k ∧ Hid (∀ j, ∀ hj : j < xs.length, j < k → decide (xs[j].size ≤ 2147483647) = true)) (fun i => xs.length - (intOf i).toNat)
    case atStart => exact ⟨0, Nat.zero_le _, rfl, fun j _ h0 => by omega⟩
    case round =>
      obtain ⟨k, hk, rfl, HA⟩ := hrel
      by_cases hlt : k < xs.length
      · obtain ⟨ad, rfl, hx⟩ := strs_at H.out hlt
        by_cases hs : 2147483647 < xs[k].size
        · have hf : fits3 xs = false := by
            unfold fits3
            rw [all_no (p := fun s : ByteArray => decide (s.size ≤ 2147483647)) hlt (by simp; omega), Bool.and_false]
          have HF := Lib.hid hf
          clear hf H HA
          go_wp2
          go_ret
          exact ⟨ret_bool HF.out.symm, rfl⟩
        · have hs' : xs[k].size ≤ 2147483647 := by omega
          clear hs
          go_wp2
          go_round
          case rel =>
            refine ⟨k + 1, by omega, by go_num, fun j hj hjk => ?_⟩
            by_cases e : j = k
            · subst e; simpa using hs'
            · exact HA.out j hj (by omega)
          case measure => simp [intOf]; omega
      · have hf : fits3 xs = true := by
          unfold fits3
          rw [all_yes (p := fun s : ByteArray => decide (s.size ≤ 2147483647)) (fun j hj => HA.out j hj (by omega)), Bool.and_true]
          simpa using hle
        have HF := Lib.hid hf
        clear hf H HA
        go_wp2
        go_ret
        exact ⟨ret_bool HF.out.symm, rfl⟩

def oneOf (s : ByteArray) (xs : List ByteArray) : Bool := xs.any fun x => x.toList == s.toList
end Go.Proofs.Ytkjcedlgljeoiaa

/- Contracts: plain.Join, plain.Split, plain.ReplaceAll, Transform. -/
namespace Go.Proofs.Ytkjcedlgljeoiaa
open Go.RowKit Go.Lib

def joinF (sep : ByteArray) : List ByteArray → ByteArray
  | [] => ByteArray.empty
  | [x] => x
  | x :: y :: r => x ++ (sep ++ joinF sep (y :: r))
def szSum (xs : List ByteArray) : Nat := (xs.map ByteArray.size).sum


end Go.Proofs.Ytkjcedlgljeoiaa

/- Contracts: plain.Split, plain.ReplaceAll, Transform. -/
namespace Go.Proofs.Ytkjcedlgljeoiaa
open Go.RowKit Go.Lib

def splitF (sep : ByteArray) : Nat → ByteArray → List ByteArray
  | 0, s => [s]
  | k + 1, s => match idxO s sep with
    | some i => s.extract 0 i :: splitF sep k (s.extract (i + sep.size) s.size)
    | none => [s]


def replF (s old new : ByteArray) : ByteArray := joinF new (splitF old (s.size + 1) s)
end Go.Proofs.Ytkjcedlgljeoiaa

/- Contracts: plain.IsSpace, plain.Sanitize, sanitizeString, ChClean: white made blanks, what is not printed taken out. -/
namespace Go.Proofs.Ytkjcedlgljeoiaa
open Go.RowKit Go.Lib

def isSp (r : Int) : Bool := (decide (9 ≤ r) && decide (r ≤ 13)) || r == 32

def cleanB (c : UInt8) : Option UInt8 := if 9 ≤ c.toNat ∧ c.toNat ≤ 13 then some 32 else if 32 ≤ c.toNat ∧ c.toNat < 127 then some c else none
def cleanL (s : ByteArray) (k : Nat) : List UInt8 := (s.data.toList.take k).filterMap cleanB
def cleanF (s : ByteArray) : ByteArray := ⟨(s.data.toList.filterMap cleanB).toArray⟩
def u8s (l : List UInt8) : List Value := l.map fun c => .int .u8 c.toNat

/-- All bytes are below 128. -/
def asciiB (s : ByteArray) : Prop := ∀ j, ∀ h : j < s.size, s[j].toNat ≤ 127

end Go.Proofs.Ytkjcedlgljeoiaa

/- Contract: chAscii: at most 60 bytes, each below 128. -/
namespace Go.Proofs.Ytkjcedlgljeoiaa
open Go.RowKit Go.Lib

def mskB (c : UInt8) : UInt8 := c &&& 127
theorem bits_msk : ∀ n : Fin 256, bits .and .u8 (n.val : Int) 127 = ((mskB (UInt8.ofNat n.val)).toNat : Int) ∧ (mskB (UInt8.ofNat n.val)).toNat ≤ 127 := by decide +kernel
theorem bits_msk' (c : UInt8) : bits .and .u8 (c.toNat : Int) 127 = ((mskB c).toNat : Int) := by
  have := (bits_msk ⟨c.toNat, c.toNat_lt⟩).1
  simpa [UInt8.ofNat_toNat] using this
/-- The first k bytes masked. -/
def mskF (s : ByteArray) (k : Nat) : ByteArray := ⟨((s.data.toList.take k).map mskB ++ s.data.toList.drop k).toArray⟩
def ascF (s : ByteArray) : ByteArray := mskF (s.extract 0 (min s.size 60)) (min s.size 60)
theorem mskF_size (s : ByteArray) (k : Nat) : (mskF s k).size = s.size := by
  show (List.toArray _).size = _
  rw [List.size_toArray, List.length_append, List.length_map, List.length_take, List.length_drop]
  have : s.data.toList.length = s.size := by simp
  omega
theorem mskF_zero (s : ByteArray) : mskF s 0 = s := by
  apply ByteArray.ext; apply Array.ext'; simp [mskF]
theorem mskF_data (s : ByteArray) (k : Nat) : (mskF s k).data.toList = (s.data.toList.take k).map mskB ++ s.data.toList.drop k := by simp [mskF]
theorem mskF_get {s : ByteArray} {k : Nat} (h : k < s.size) (h2 : k < (mskF s k).size) : (mskF s k)[k] = s[k] := by
  have hl : k < s.data.toList.length := by simpa using h
  have e : (mskF s k).data.toList[k]? = some (s.data.toList[k]) := by
    rw [mskF_data, List.getElem?_append_right (by rw [List.length_map, List.length_take]; omega), List.length_map, List.length_take, Nat.min_eq_left (by omega), Nat.sub_self, List.getElem?_drop, Nat.add_zero]
    exact List.getElem?_eq_getElem hl
  obtain ⟨h3, h4⟩ := List.getElem?_eq_some_iff.1 e
  exact h4
theorem mskF_succ {s : ByteArray} {k : Nat} (h : k < s.size) (h2 : k < (mskF s k).size) : (mskF s k).set k (mskB s[k]) h2 = mskF s (k + 1) := by
  have hl : k < s.data.toList.length := by simpa using h
  apply ByteArray.ext
  apply Array.ext'
  have e0 : ((mskF s k).set k (mskB s[k]) h2).data = (mskF s k).data.set k (mskB s[k]) h2 := rfl
  rw [e0, Array.toList_set, mskF_data, mskF_data, List.take_succ_eq_append_getElem hl, List.drop_eq_getElem_cons hl, List.set_append_right _ _ (by rw [List.length_map, List.length_take]; omega)]
  have e : k - ((s.data.toList.take k).map mskB).length = 0 := by rw [List.length_map, List.length_take]; omega
  rw [e, List.set_cons_zero, List.map_append, List.append_assoc]
  rfl

theorem ascF_big {s : ByteArray} (h : 60 < s.size) : ascF s = mskF (s.extract 0 60) (s.extract 0 60).size := by
  have e : min s.size 60 = 60 := by omega
  have e2 : (s.extract 0 60).size = 60 := by simp [ByteArray.size_extract]; omega
  unfold ascF
  rw [e, e2]
theorem ascF_small {s : ByteArray} (h : s.size ≤ 60) : ascF s = mskF s s.size := by
  have e : min s.size 60 = s.size := by omega
  unfold ascF
  rw [e]
  have e2 : s.extract 0 s.size = s := by apply ByteArray.ext; simp
  rw [e2]
theorem BB.cell {w : World} {g : Nat} {e : TypeId} {b : ByteArray} (h : BB w g e b) {i : Nat} (hi : i < b.size) : w.cell? ⟨g, i, none⟩ = some (.int .u8 b[i].toNat) := by
  obtain ⟨tail, h⟩ := h
  rw [cell_of_row w g i _ e _ h]
  simp only [List.getElem?_toArray]
  have hl : i < (strCells b).length := by rw [strCells_length]; exact hi
  rw [List.getElem?_append_left hl]
  have hl2 : i < b.data.toList.length := by simpa using hi
  unfold strCells
  rw [List.getElem?_map, List.getElem?_eq_getElem hl2]
  rfl
set_option maxRecDepth 100000 in
set_option maxHeartbeats 2000000 in
theorem chAscii_any (s : ByteArray) (w : World) (hs : s.size ≤ 9223372036854775807) :
  Calls Try.prog 33 #[.string s] w fun e w' => e = .returned (.string (ascF s)) ∧ Below w.heap.size w w' := by
 rcases Nat.lt_or_ge 60 s.size with h60 | h60
 ·obtain ⟨x, hx⟩ : ∃ x, x = s.extract 0 60 := ⟨_, rfl⟩
  have HX3 : Hid (ascF s = mskF x x.size) := by rw [hx]; exact ascF_big h60
  have hx4 : x.size ≤ 60 := by rw [hx]; simp [ByteArray.size_extract]; omega
  have d0 : (60 : Int) < (s.size : Int) := by omega
  go_enter Try.func33, Try.ntmps33
  go_upto_region 2 with ((with_reducible refine at_dst (N := 10) rfl ?_); refine ev_bytes rfl 9 148 5 _ rfl Try.underlying9 Try.underlying148 Try.underlying5 _ rfl ?_; intro g c w1 hg hc hB hb)
  rw [← hx] at hB hc
  have hmin : min 60 s.size = x.size := by rw [hx, ByteArray.size_extract]; omega
  simp only [← hx, hmin]
  clear hx hmin
  go_wp2_with fail
  go_loopw [13] (fun i wr => ∃ k : Nat, k ≤ x.size ∧ i = .int .i64 k ∧ Hid (BB wr g 5 (mskF x k)) ∧ Hid (Below w.heap.size w wr)) (fun i _ => x.size - (intOf i).toNat)
  case atStart => exact ⟨0, Nat.zero_le _, rfl, by rw [mskF_zero]; exact hB, hb⟩
  case round =>
   clear hB hb
   obtain ⟨k, hk, rfl, HB, HW⟩ := hrel
   by_cases hlt : k < x.size
   ·have h2 : k < (mskF x k).size := by rw [mskF_size]; exact hlt
    have q0 : wr.cell? ⟨g, k, none⟩ = some (.int .u8 x[k].toNat) := by
     have := HB.out.cell h2
     rwa [mskF_get hlt] at this
    have f0 : wr.frozen? ⟨g, k, none⟩ = false := HB.out.frozen h2
    have hbit := bits_msk' x[k]
    have HS := Lib.hid (HB.out.set h2 (mskB x[k]))
    have hsucc := Lib.hid (mskF_succ hlt h2)
    go_wp2_with fail
    refine ⟨⟨k + 1, by omega, by go_num, by show BB _ _ _ _; rw [← hsucc.out]; exact HS.out.1, below_grown HW.out HS.out.2 HW.out.size hg⟩, ?_⟩
    simp [intOf]; omega
   ·obtain rfl : k = x.size := by omega
    have HT := sl_text (P := Try.prog) (c := c) Try.underlying148 Try.underlying5 Try.underlying9 (HB.out.sl (by rw [mskF_size]; omega)) (fun ad e => by injection e with e; rw [← e])
    rw [mskF_size] at HT
    go_wp2_with fail
    go_ret
    exact ⟨ret_str HX3.out.symm, HW.out⟩
 ·obtain ⟨x, hx⟩ : ∃ x, x = s := ⟨_, rfl⟩
  have HX3 : Hid (ascF s = mskF x x.size) := by rw [hx]; exact ascF_small h60
  have hx4 : x.size ≤ 60 := by rw [hx]; omega
  have d0 : ¬ (60 : Int) < (s.size : Int) := by omega
  go_enter Try.func33, Try.ntmps33
  go_upto_region 2 with ((with_reducible refine at_dst (N := 10) rfl ?_); refine ev_bytes rfl 9 148 5 _ rfl Try.underlying9 Try.underlying148 Try.underlying5 _ rfl ?_; intro g c w1 hg hc hB hb)
  rw [← hx] at hB hc
  simp only [← hx]
  clear hx
  go_wp2_with fail
  go_loopw [13] (fun i wr => ∃ k : Nat, k ≤ x.size ∧ i = .int .i64 k ∧ Hid (BB wr g 5 (mskF x k)) ∧ Hid (Below w.heap.size w wr)) (fun i _ => x.size - (intOf i).toNat)
  case atStart => exact ⟨0, Nat.zero_le _, rfl, by rw [mskF_zero]; exact hB, hb⟩
  case round =>
   clear hB hb
   obtain ⟨k, hk, rfl, HB, HW⟩ := hrel
   by_cases hlt : k < x.size
   ·have h2 : k < (mskF x k).size := by rw [mskF_size]; exact hlt
    have q0 : wr.cell? ⟨g, k, none⟩ = some (.int .u8 x[k].toNat) := by
     have := HB.out.cell h2
     rwa [mskF_get hlt] at this
    have f0 : wr.frozen? ⟨g, k, none⟩ = false := HB.out.frozen h2
    have hbit := bits_msk' x[k]
    have HS := Lib.hid (HB.out.set h2 (mskB x[k]))
    have hsucc := Lib.hid (mskF_succ hlt h2)
    go_wp2_with fail
    refine ⟨⟨k + 1, by omega, by go_num, by show BB _ _ _ _; rw [← hsucc.out]; exact HS.out.1, below_grown HW.out HS.out.2 HW.out.size hg⟩, ?_⟩
    simp [intOf]; omega
   ·obtain rfl : k = x.size := by omega
    have HT := sl_text (P := Try.prog) (c := c) Try.underlying148 Try.underlying5 Try.underlying9 (HB.out.sl (by rw [mskF_size]; omega)) (fun ad e => by injection e with e; rw [← e])
    rw [mskF_size] at HT
    go_wp2_with fail
    go_ret
    exact ⟨ret_str HX3.out.symm, HW.out⟩
end Go.Proofs.Ytkjcedlgljeoiaa

