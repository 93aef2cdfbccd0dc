/- Texts Vm1, P6, T0, Q1, Lc1, Lc2, Lc3, Vm2, laid together. -/
import Derived.WalkKit
import Derived.WalkLawsBesides
import Derived.WalkSpells
import Derived.Lib.Hide
import Derived.Deep.RegionWith
import Derived.Deep.DeepCutAuto
import Derived.Deep.QuietTactic
import Derived.BigQuiet
import Derived.Laws.OwnMore
import Derived.Deep.LoopGhost
import Derived.KernelRfl
import Derived.Deep.WholeRow
import Derived.StillTail
import Derived.SliceStrings
import Derived.Deep.Slices
import Derived.Deep.Fields
import Derived.ChangeSame
import Derived.Deep.MidRow
import Derived.Maps.AppendAt
import Derived.Lib.AppendStr
import Derived.Lib.ConvBytes
import Derived.Laws.BytesArg
import Derived.Deep.RegionLaw
import Derived.OwnWalk
import Derived.Maps.OwnSet
import Derived.Maps.OwnOps
import Derived.ArgAppend
import Derived.Defers
import Derived.Recover
import Derived.Laws.Pointers
import Derived.Laws.StructEq
import Derived.IntWalk
import Derived.Test.YtkjcedlgljeoiaaProg
import Derived.BigRegion
import Derived.Deep.CutBlock
import Derived.Carry
import Derived.Test.YtkjcedlgljeoiaaVMc
/- laws.chPerson, chDependency, chFit. -/
namespace Go.Proofs.Ytkjcedlgljeoiaa
open Go.RowKit Go.Lib
set_option linter.unusedVariables false
set_option linter.unusedSimpArgs false
/-- A maintainer of texts of ASCII, or none. -/
def perA (p : Ty78) : Ty78 := cond p.fNil ⟨true, ⟨#[]⟩, ⟨#[]⟩, ⟨#[]⟩⟩ ⟨false, ascF p.fName, ascF p.fEmail, ascF p.fURL⟩
theorem perA_nil {p : Ty78} (h : p.fNil = true) : perA p = ⟨true, ⟨#[]⟩, ⟨#[]⟩, ⟨#[]⟩⟩ := by unfold perA; rw [h]; rfl
theorem perA_some {p : Ty78} (h : p.fNil = false) : perA p = ⟨false, ascF p.fName, ascF p.fEmail, ascF p.fURL⟩ := by unfold perA; rw [h]; rfl
/-- A dependency of texts of ASCII, or none; its tags lie at B. -/
def depA (d : Ty80) (B : Option Addr) (b : Nat) : Ty80 := cond d.fNil ⟨true, ⟨#[]⟩, ⟨#[]⟩, ⟨#[]⟩, ⟨#[]⟩, none, 0, [], ⟨#[]⟩⟩ ⟨false, ascF d.fName, ascF d.fVersion, ascF d.fRepository, ascF d.fCondition, B, b, someF d.fTags, ascF d.fAlias⟩
theorem depA_nil {d : Ty80} {B : Option Addr} {b : Nat} (h : d.fNil = true) : depA d B b = ⟨true, ⟨#[]⟩, ⟨#[]⟩, ⟨#[]⟩, ⟨#[]⟩, none, 0, [], ⟨#[]⟩⟩ := by unfold depA; rw [h]; rfl
theorem depA_some {d : Ty80} {B : Option Addr} {b : Nat} (h : d.fNil = false) : depA d B b = ⟨false, ascF d.fName, ascF d.fVersion, ascF d.fRepository, ascF d.fCondition, B, b, someF d.fTags, ascF d.fAlias⟩ := by unfold depA; rw [h]; rfl
theorem depA_S {d : Ty80} {B : Option Addr} {b : Nat} : depS (depA d B b) = depA d none 0 := by unfold depS depA; cases d.fNil <;> rfl
theorem tga_nil {R : Ctx} {w : World} {L : List SA} {d : Ty80} (h : d.fNil = true) (S : Sp R w L) : Sp R w (SA.tg (depA d none 0) :: L) := by rw [depA_nil h]; exact S.own0nil
theorem tga_some {R : Ctx} {w : World} {L : List SA} {d : Ty80} {B : Option Addr} {b : Nat} (h : d.fNil = false) (S : Sp R w (SA.own (.slice B (someF d.fTags).length b) 9 1 (someF d.fTags).length (strs (someF d.fTags)) :: L)) : Sp R w (SA.tg (depA d B b) :: L) := by rw [depA_some h]; exact Sp.own0_of S
/-- The first k of the texts are of ASCII. -/
def fitC (m : Ty26) (k : Nat) : Array Value := #[.string (cond (Nat.blt 0 k) (ascF m.fName) m.fName), .string (cond (Nat.blt 1 k) (ascF m.fHome) m.fHome), .string (cond (Nat.blt 2 k) (ascF m.fVersion) m.fVersion), .string (cond (Nat.blt 3 k) (ascF m.fDescription) m.fDescription), .string (cond (Nat.blt 4 k) (ascF m.fIcon) m.fIcon), .string (cond (Nat.blt 5 k) (ascF m.fAPIVersion) m.fAPIVersion), .string (cond (Nat.blt 6 k) (ascF m.fCondition) m.fCondition), .string (cond (Nat.blt 7 k) (ascF m.fTags) m.fTags), .string (cond (Nat.blt 8 k) (ascF m.fAppVersion) m.fAppVersion), .string (cond (Nat.blt 9 k) (ascF m.fKubeVersion) m.fKubeVersion), .string (cond (Nat.blt 10 k) (ascF m.fType) m.fType), .slice m.fSources_a m.fSources.length m.fSources_c, .slice m.fKeywords_a m.fKeywords.length m.fKeywords_c, .slice m.fMaintainers_a m.fMaintainers.length m.fMaintainers_c, .slice m.fDependencies_a m.fDependencies.length m.fDependencies_c]
/-- Metadata that fit, but for addresses. -/
def fitT (m : Ty26) : Ty26 := { fName := ascF m.fName, fHome := ascF m.fHome, fDescription := ascF m.fDescription, fIcon := ascF m.fIcon, fAPIVersion := ascF m.fAPIVersion, fCondition := ascF m.fCondition, fTags := ascF m.fTags, fAppVersion := ascF m.fAppVersion, fKubeVersion := ascF m.fKubeVersion, fType := ascF m.fType, fVersion := verF (ascF m.fVersion), fSources_a := none, fSources_c := 0, fSources := someF m.fSources, fKeywords_a := none, fKeywords_c := 0, fKeywords := someF m.fKeywords, fMaintainers_a := none, fMaintainers_c := 0, fMaintainers := (m.fMaintainers.take 6).map perA, fDependencies_a := none, fDependencies_c := 0, fDependencies := (m.fDependencies.take 6).map fun d => depA d none 0 }
def fitsZ (m : Ty26) : Prop := (m.fName.size ≤ 9223372036854775807 ∧ m.fHome.size ≤ 9223372036854775807 ∧ m.fVersion.size ≤ 9223372036854775807 ∧ m.fDescription.size ≤ 9223372036854775807 ∧ m.fIcon.size ≤ 9223372036854775807 ∧ m.fAPIVersion.size ≤ 9223372036854775807 ∧ m.fCondition.size ≤ 9223372036854775807 ∧ m.fTags.size ≤ 9223372036854775807 ∧ m.fAppVersion.size ≤ 9223372036854775807 ∧ m.fKubeVersion.size ≤ 9223372036854775807 ∧ m.fType.size ≤ 9223372036854775807) ∧ (∀ x ∈ m.fSources, x.size ≤ 9223372036854775807) ∧ (∀ x ∈ m.fKeywords, x.size ≤ 9223372036854775807) ∧ (∀ p ∈ m.fMaintainers, p.fName.size ≤ 9223372036854775807 ∧ p.fEmail.size ≤ 9223372036854775807 ∧ p.fURL.size ≤ 9223372036854775807) ∧
  ∀ d ∈ m.fDependencies, (d.fName.size ≤ 9223372036854775807 ∧ d.fVersion.size ≤ 9223372036854775807 ∧ d.fRepository.size ≤ 9223372036854775807 ∧ d.fCondition.size ≤ 9223372036854775807 ∧ d.fAlias.size ≤ 9223372036854775807) ∧ ∀ x ∈ d.fTags, x.size ≤ 9223372036854775807
def fitV (m : Ty26) (A1 : Option Addr) (c1 : Nat) (A2 : Option Addr) (c2 : Nat) (A3 : Option Addr) (c3 : Nat) (A4 : Option Addr) (c4 : Nat) (ds : List Ty80) : Ty26 := { fitT m with fSources_a := A1, fSources_c := c1, fKeywords_a := A2, fKeywords_c := c2, fMaintainers_a := A3, fMaintainers_c := c3, fDependencies_a := A4, fDependencies_c := c4, fDependencies := ds }
theorem fitV_S {m : Ty26} {A1 : Option Addr} {c1 : Nat} {A2 : Option Addr} {c2 : Nat} {A3 : Option Addr} {c3 : Nat} {A4 : Option Addr} {c4 : Nat} {ds : List Ty80} (h : ds.map depS = (m.fDependencies.take 6).map fun d => depA d none 0) : metS (fitV m A1 c1 A2 c2 A3 c3 A4 c4 ds) = fitT m := by
  unfold metS fitV fitT
  simp only [h]
theorem take_sixG {α : Type} {xs : List α} {i : Nat} (h1 : i ≤ xs.length) (h2 : i ≤ 6) (h : xs.length ≤ i ∨ 6 ≤ i) : xs.take i = xs.take 6 := by
  rcases h with h | h
  · rw [List.take_of_length_le h, List.take_of_length_le (by omega)]
  · rw [show i = 6 by omega]
theorem take_len {α β : Type} {xs : List α} {f : α → β} {i : Nat} (h1 : i ≤ xs.length) (h2 : i ≤ 6) (h : xs.length ≤ i ∨ 6 ≤ i) : i = ((xs.take 6).map f).length := by simp; omega
theorem Sp.mv_own {R : Ctx} {w : World} {L : List SA} {y : Ty26} (S : Sp R w (SA.own (.slice y.fSources_a y.fSources.length y.fSources_c) 9 1 y.fSources.length (strs y.fSources) :: SA.own (.slice y.fKeywords_a y.fKeywords.length y.fKeywords_c) 9 1 y.fKeywords.length (strs y.fKeywords) :: SA.own (.slice y.fMaintainers_a y.fMaintainers.length y.fMaintainers_c) 78 4 y.fMaintainers.length (flatC Ty78.cells y.fMaintainers) :: SA.own (.slice y.fDependencies_a y.fDependencies.length y.fDependencies_c) 80 7 y.fDependencies.length (flatC Ty80.cells y.fDependencies) :: SA.stars (y.fDependencies.map SA.tg) :: L)) : Sp R w (SA.mv y :: L) := Sp.mv_mk (Sp.own0_of (Sp.own0_of (Sp.own0_of (Sp.own0_of S.p3).p3).p3).p3)
abbrev zq14 (x0 : Ty78) : Array Value := #[.bool false, .string (ascF x0.fName), .string (ascF x0.fEmail), .string (ascF x0.fURL)]
set_option maxRecDepth 100000 in
set_option maxHeartbeats 20000000 in
theorem chPerson_sp (p : Ty78) (R : Ctx) (L : List SA) (w : World) (S : Sp R w (L))  (hs0 : p.fName.size ≤ 9223372036854775807) (hs1 : p.fEmail.size ≤ 9223372036854775807) (hs2 : p.fURL.size ≤ 9223372036854775807) :
  Calls Try.prog 113 #[.agg #[.bool p.fNil, .string p.fName, .string p.fEmail, .string p.fURL]] w fun e w' => e = .returned (.agg #[.bool ((perA p).fNil), .string ((perA p).fName), .string ((perA p).fEmail), .string ((perA p).fURL)]) ∧ Sp R w' (L) := by
 refine fw_enter (fn := Try.f113) rfl rfl 16 rfl (Nat.le_of_ble_eq_true rfl) ?_
 intro a0 F0
 refine wp_seq_k fun K1 hK1 => ?_
 refine wp_region_lit ?_
 refine op_sq F0 (s_newp F0 78 #[.bool p.fNil, .string p.fName, .string p.fEmail, .string p.fURL] (by kernel_rfl) (by kernel_rfl) (by kernel_rfl) S) ?_
 rintro _ _ w3 ⟨g1, rfl, rfl⟩ S3 a3 F3
 refine op_sq F3 (s_newp F3 78 #[.bool false, .string ⟨#[]⟩, .string ⟨#[]⟩, .string ⟨#[]⟩] (by kernel_rfl) (by kernel_rfl) (by kernel_rfl) S3) ?_
 rintro _ _ w5 ⟨g3, rfl, rfl⟩ S5 a5 F5
 refine wpList_nil ?_
 refine hK1 _ _ ?_; clear hK1 K1
 refine wp_seq_k fun K6 hK6 => ?_
 refine wp_seq_k fun K7 hK7 => ?_
 refine wp_region_lit ?_
 refine op_q F5 (.pointer (some ⟨g1, 0, none⟩)) ?_; intro a8 F8
 refine op_rq (v := .bool p.fNil) F8 (r_ld rfl (F8.e (.pointer (some ⟨g1, 0, none⟩))) (v := .bool p.fNil) ((S5.bk 1 rfl).cell 0) Try.underlying4 rfl) ?_; intro a9 F9
 refine wpList_nil ?_
 refine hK7 _ _ ?_; clear hK7 K7
 rcases btf (p.fNil) with hc10 | hc10
 ·have F11 := F9.sb 4 (by kernel_rfl) hc10
  refine wp_cond_true (F11.ev (by kernel_rfl)) ?_
  refine wp_seq_k fun K12 hK12 => ?_
  refine wp_region_lit ?_
  refine op_q F11 (.agg #[.bool true, .string ⟨#[]⟩, .string ⟨#[]⟩, .string ⟨#[]⟩]) ?_; intro a13 F13
  refine op_sq0 F13 (s_stb rfl (F13.e (.pointer (some ⟨g3, 0, none⟩))) (F13.e (.agg #[.bool true, .string ⟨#[]⟩, .string ⟨#[]⟩, .string ⟨#[]⟩])) S5 (by kernel_rfl) rfl (by kernel_rfl)) ?_
  rintro _ _ w14 rfl S14 F14
  refine wpList_nil ?_
  refine hK12 _ _ ?_; clear hK12 K12
  refine wp_ret ?_
  refine ret_then ?_
  refine (F14.resC (results1 (v := .agg #[.bool true, .string ⟨#[]⟩, .string ⟨#[]⟩, .string ⟨#[]⟩]) Try.results113 (F14.rvc (p := ⟨g3, 0, none⟩) (by kernel_rfl) (ld_mid (S14.bk 0 rfl) 4 (by kernel_rfl) Try.underlying78 rfl (by kernel_rfl) (v := #[.bool true, .string ⟨#[]⟩, .string ⟨#[]⟩, .string ⟨#[]⟩]) (by kernel_rfl)))) ?_).1
  exact ⟨(by rw [perA_nil hc10]), S14.drop.drop⟩
 ·have F15 := F9.sb 4 (by kernel_rfl) hc10
  refine wp_cond_false (F15.ev (by kernel_rfl)) ?_
  refine wp_skip ?_
  refine hK6 _ _ ?_; clear hK6 K6
  refine wp_seq_k fun K16 hK16 => ?_
  refine wp_region_sepF (L0 := SA.blk g3 78 #[.bool false, .string ⟨#[]⟩, .string ⟨#[]⟩, .string ⟨#[]⟩] :: SA.blk g1 78 #[.bool p.fNil, .string p.fName, .string p.fEmail, .string p.fURL] :: L) [some [], some [(0, 6)], some [(1, 7)], some [], some [(3, 9)], some [(4, 10)], some [], some [(6, 12)], some [(7, 13)], some [(2, 8), (5, 11), (8, 14)], none] [.v 6 (.pointer (some ⟨g1, 1, none⟩)), .v 7 (.string p.fName), .v 8 (.string (ascF p.fName)), .v 9 (.pointer (some ⟨g1, 2, none⟩)), .v 10 (.string p.fEmail), .v 11 (.string (ascF p.fEmail)), .v 12 (.pointer (some ⟨g1, 3, none⟩)), .v 13 (.string p.fURL), .v 14 (.string (ascF p.fURL)), .v 15 (.agg (zq14 p)), .n SA.emp (fun _ _ A => A = SA.emp)] [] F15 rfl (by kernel_rfl) S5 ?_ ?_
  ·refine ⟨?_, ?_, ?_, ?_, ?_, ?_, ?_, ?_, ?_, ?_, trivial⟩
   ·intro w39 M39
    intro a39 F39 S39
    refine obl_of (by rfl) ?_
    exact s_p F39 (v := .pointer (some ⟨g1, 1, none⟩)) (by kernel_rfl) (by kernel_rfl) (by kernel_rfl) S39
   ·intro w40 M40
    intro a40 F40 S40
    refine obl_of (by rfl) ?_
    exact s_r (v := .string p.fName) (r_ld rfl (F40.e (.pointer (some ⟨g1, 1, none⟩))) (v := .string p.fName) (((Sp.dropM S40.drop).bk 1 rfl).cell 1) Try.underlying9 rfl) S40
   ·intro w42 M42
    intro a42 F42 S42
    refine obl_of (by rfl) ?_
    refine s_c F42 (f := 33) (args := #[.string p.fName]) (by kernel_rfl) (by kernel_rfl) (by kernel_rfl) (chAscii_any p.fName _ (by first | omega | (simp; done) | (simp; omega))) ?_
    rintro _ _ ⟨rfl, hb_44⟩
    exact ⟨_, _, rfl, ⟨rfl, rfl⟩, S42.below hb_44⟩
   ·intro w45 M45
    intro a45 F45 S45
    refine obl_of (by rfl) ?_
    exact s_p F45 (v := .pointer (some ⟨g1, 2, none⟩)) (by kernel_rfl) (by kernel_rfl) (by kernel_rfl) S45
   ·intro w46 M46
    intro a46 F46 S46
    refine obl_of (by rfl) ?_
    exact s_r (v := .string p.fEmail) (r_ld rfl (F46.e (.pointer (some ⟨g1, 2, none⟩))) (v := .string p.fEmail) (((Sp.dropM S46.drop).bk 1 rfl).cell 2) Try.underlying9 rfl) S46
   ·intro w48 M48
    intro a48 F48 S48
    refine obl_of (by rfl) ?_
    refine s_c F48 (f := 33) (args := #[.string p.fEmail]) (by kernel_rfl) (by kernel_rfl) (by kernel_rfl) (chAscii_any p.fEmail _ (by first | omega | (simp; done) | (simp; omega))) ?_
    rintro _ _ ⟨rfl, hb_50⟩
    exact ⟨_, _, rfl, ⟨rfl, rfl⟩, S48.below hb_50⟩
   ·intro w51 M51
    intro a51 F51 S51
    refine obl_of (by rfl) ?_
    exact s_p F51 (v := .pointer (some ⟨g1, 3, none⟩)) (by kernel_rfl) (by kernel_rfl) (by kernel_rfl) S51
   ·intro w52 M52
    intro a52 F52 S52
    refine obl_of (by rfl) ?_
    exact s_r (v := .string p.fURL) (r_ld rfl (F52.e (.pointer (some ⟨g1, 3, none⟩))) (v := .string p.fURL) (((Sp.dropM S52.drop).bk 1 rfl).cell 3) Try.underlying9 rfl) S52
   ·intro w54 M54
    intro a54 F54 S54
    refine obl_of (by rfl) ?_
    refine s_c F54 (f := 33) (args := #[.string p.fURL]) (by kernel_rfl) (by kernel_rfl) (by kernel_rfl) (chAscii_any p.fURL _ (by first | omega | (simp; done) | (simp; omega))) ?_
    rintro _ _ ⟨rfl, hb_56⟩
    exact ⟨_, _, rfl, ⟨rfl, rfl⟩, S54.below hb_56⟩
   ·intro w57 M57
    intro a57 F57 S57
    refine obl_of (by rfl) ?_
    exact s_p F57 (v := .agg (zq14 p)) (by kernel_rfl) (by kernel_rfl) (by kernel_rfl) S57
  ·intro a62 w61 F62 S61
   have S63 : Sp R w61 (SA.blk g3 78 #[.bool false, .string ⟨#[]⟩, .string ⟨#[]⟩, .string ⟨#[]⟩] :: SA.blk g1 78 #[.bool p.fNil, .string p.fName, .string p.fEmail, .string p.fURL] :: L) := S61
   refine op_sq0 F62 (s_stb rfl (F62.e (.pointer (some ⟨g3, 0, none⟩))) (F62.e (.agg (zq14 p))) S63 (by kernel_rfl) rfl (by kernel_rfl)) ?_
   rintro _ _ w64 rfl S64 F64
   refine wpList_nil ?_
   refine hK16 _ _ ?_; clear hK16 K16
   refine wp_ret ?_
   refine (F64.resC (results1 (v := .agg (zq14 p)) Try.results113 (F64.rvc (p := ⟨g3, 0, none⟩) (by kernel_rfl) (ld_mid (S64.bk 0 rfl) 4 (by kernel_rfl) Try.underlying78 rfl (by kernel_rfl) (v := (zq14 p)) (by kernel_rfl)))) ?_).1
   exact ⟨(by rw [perA_some hc10]), S64.drop.drop⟩
set_option maxRecDepth 100000 in
set_option maxHeartbeats 20000000 in
theorem chDependency_nil (d : Ty80) (R : Ctx) (L : List SA) (w : World) (S : Sp R w (L))  (hn : d.fNil = true) :
    Calls Try.prog 114 #[.agg #[.bool d.fNil, .string d.fName, .string d.fVersion, .string d.fRepository, .string d.fCondition, .slice (d.fTags_a) (d.fTags.length) (d.fTags_c), .string d.fAlias]] w fun e w' => e = .returned (.agg #[.bool true, .string ⟨#[]⟩, .string ⟨#[]⟩, .string ⟨#[]⟩, .string ⟨#[]⟩, .slice none 0 0, .string ⟨#[]⟩]) ∧ Sp R w' (L) := by
  refine fw_enter (fn := Try.f114) rfl rfl 25 rfl (Nat.le_of_ble_eq_true rfl) ?_
  intro a0 F0
  refine wp_seq_k fun K1 hK1 => ?_
  refine wp_region_lit ?_
  refine op_sq F0 (s_newp F0 80 #[.bool d.fNil, .string d.fName, .string d.fVersion, .string d.fRepository, .string d.fCondition, .slice (d.fTags_a) (d.fTags.length) (d.fTags_c), .string d.fAlias] (by kernel_rfl) (by kernel_rfl) (by kernel_rfl) S) ?_
  rintro _ _ w3 ⟨g1, rfl, rfl⟩ S3 a3 F3
  refine op_sq F3 (s_newp F3 80 #[.bool false, .string ⟨#[]⟩, .string ⟨#[]⟩, .string ⟨#[]⟩, .string ⟨#[]⟩, .slice none 0 0, .string ⟨#[]⟩] (by kernel_rfl) (by kernel_rfl) (by kernel_rfl) S3) ?_
  rintro _ _ w5 ⟨g3, rfl, rfl⟩ S5 a5 F5
  refine wpList_nil ?_
  refine hK1 _ _ ?_; clear hK1 K1
  refine wp_seq_k fun K6 hK6 => ?_
  refine wp_seq_k fun K7 hK7 => ?_
  refine wp_region_lit ?_
  refine op_q F5 (.pointer (some ⟨g1, 0, none⟩)) ?_; intro a8 F8
  refine op_rq (v := .bool d.fNil) F8 (r_ld rfl (F8.e (.pointer (some ⟨g1, 0, none⟩))) (v := .bool d.fNil) ((S5.bk 1 rfl).cell 0) Try.underlying4 rfl) ?_; intro a9 F9
  refine wpList_nil ?_
  refine hK7 _ _ ?_; clear hK7 K7
  have hc10 : (d.fNil) = true := hn
  have F11 := F9.sb 4 (by kernel_rfl) hc10
  refine wp_cond_true (F11.ev (by kernel_rfl)) ?_
  refine wp_seq_k fun K12 hK12 => ?_
  refine wp_region_lit ?_
  refine op_q F11 (.agg #[.bool true, .string ⟨#[]⟩, .string ⟨#[]⟩, .string ⟨#[]⟩, .string ⟨#[]⟩, .slice none 0 0, .string ⟨#[]⟩]) ?_; intro a13 F13
  refine op_sq0 F13 (s_stb rfl (F13.e (.pointer (some ⟨g3, 0, none⟩))) (F13.e (.agg #[.bool true, .string ⟨#[]⟩, .string ⟨#[]⟩, .string ⟨#[]⟩, .string ⟨#[]⟩, .slice none 0 0, .string ⟨#[]⟩])) S5 (by kernel_rfl) rfl (by kernel_rfl)) ?_
  rintro _ _ w14 rfl S14 F14
  refine wpList_nil ?_
  refine hK12 _ _ ?_; clear hK12 K12
  refine wp_ret ?_
  refine ret_then ?_
  refine (F14.resC (results1 (v := .agg #[.bool true, .string ⟨#[]⟩, .string ⟨#[]⟩, .string ⟨#[]⟩, .string ⟨#[]⟩, .slice none 0 0, .string ⟨#[]⟩]) Try.results114 (F14.rvc (p := ⟨g3, 0, none⟩) (by kernel_rfl) (ld_mid (S14.bk 0 rfl) 7 (by kernel_rfl) Try.underlying80 rfl (by kernel_rfl) (v := #[.bool true, .string ⟨#[]⟩, .string ⟨#[]⟩, .string ⟨#[]⟩, .string ⟨#[]⟩, .slice none 0 0, .string ⟨#[]⟩]) (by kernel_rfl)))) ?_).1
  exact ⟨rfl, S14.drop.drop⟩
abbrev zq15 (x0 : Ty80) (x1 : Option Addr) (x2 : Nat) : Array Value := #[.bool false, .string (ascF x0.fName), .string (ascF x0.fVersion), .string (ascF x0.fRepository), .string (ascF x0.fCondition), .slice x1 ((someF x0.fTags).length) x2, .string (ascF x0.fAlias)]
set_option maxRecDepth 100000 in
set_option maxHeartbeats 20000000 in
theorem chDependency_some (d : Ty80) (R : Ctx) (L : List SA) (w : World) (S : Sp R w (L)) (h0 : Rf R L fun w => Sl w (d.fTags_a) (strs d.fTags)) (hn : d.fNil = false) (hs0 : d.fName.size ≤ 9223372036854775807) (hs1 : d.fVersion.size ≤ 9223372036854775807) (hs2 : d.fRepository.size ≤ 9223372036854775807) (hs3 : d.fCondition.size ≤ 9223372036854775807) (hs4 : d.fAlias.size ≤ 9223372036854775807) (hx : ∀ x ∈ d.fTags, x.size ≤ 9223372036854775807) :
  Calls Try.prog 114 #[.agg #[.bool d.fNil, .string d.fName, .string d.fVersion, .string d.fRepository, .string d.fCondition, .slice (d.fTags_a) (d.fTags.length) (d.fTags_c), .string d.fAlias]] w fun e w' => ∃ B : Option Addr, ∃ b : Nat, e = .returned (.agg #[.bool false, .string (ascF d.fName), .string (ascF d.fVersion), .string (ascF d.fRepository), .string (ascF d.fCondition), .slice B ((someF d.fTags).length) b, .string (ascF d.fAlias)]) ∧ Sp R w' (SA.own (.slice B (someF d.fTags).length b) 9 1 ((someF d.fTags).length) (strs (someF d.fTags)) :: L) := by
 have hl_d_fTags : d.fTags.length ≤ 9223372036854775807 := by have := (h0 _ S).1; simpa [strs, ptrs, pps] using this
 refine fw_enter (fn := Try.f114) rfl rfl 25 rfl (Nat.le_of_ble_eq_true rfl) ?_
 intro a0 F0
 refine wp_seq_k fun K1 hK1 => ?_
 refine wp_region_lit ?_
 refine op_sq F0 (s_newp F0 80 (zq0 d) (by kernel_rfl) (by kernel_rfl) (by kernel_rfl) S) ?_
 rintro _ _ w3 ⟨g1, rfl, rfl⟩ S3 a3 F3
 refine op_sq F3 (s_newp F3 80 zq6 (by kernel_rfl) (by kernel_rfl) (by kernel_rfl) S3) ?_
 rintro _ _ w5 ⟨g3, rfl, rfl⟩ S5 a5 F5
 refine wpList_nil ?_
 refine hK1 _ _ ?_; clear hK1 K1
 refine wp_seq_k fun K6 hK6 => ?_
 refine wp_seq_k fun K7 hK7 => ?_
 refine wp_region_lit ?_
 refine op_q F5 (.pointer (some ⟨g1, 0, none⟩)) ?_; intro a8 F8
 refine op_rq (v := .bool d.fNil) F8 (r_ld rfl (F8.e (.pointer (some ⟨g1, 0, none⟩))) (v := .bool d.fNil) ((S5.bk 1 rfl).cell 0) Try.underlying4 rfl) ?_; intro a9 F9
 refine wpList_nil ?_
 refine hK7 _ _ ?_; clear hK7 K7
 have hc10 : (d.fNil) = false := hn
 have F11 := F9.sb 4 (by kernel_rfl) hc10
 refine wp_cond_false (F11.ev (by kernel_rfl)) ?_
 refine wp_skip ?_
 refine hK6 _ _ ?_; clear hK6 K6
 refine wp_seq_k fun K12 hK12 => ?_
 refine wp_region_sepF (L0 := SA.blk g3 80 zq6 :: SA.blk g1 80 (zq0 d) :: L) [some [], some [(0, 6)], some [(1, 7)], some [], some [(3, 9)], some [(4, 10)], some [], some [(6, 12)], some [(7, 13)], some [], some [(9, 15)], some [(10, 16)], some [], some [(12, 18)], some [(13, 19)], some [], some [(15, 21)], some [(16, 22)], some [(2, 8), (5, 11), (8, 14), (11, 17), (13, 19), (14, 20), (17, 23)], none] [.v 6 (.pointer (some ⟨g1, 1, none⟩)), .v 7 (.string d.fName), .v 8 (.string (ascF d.fName)), .v 9 (.pointer (some ⟨g1, 2, none⟩)), .v 10 (.string d.fVersion), .v 11 (.string (ascF d.fVersion)), .v 12 (.pointer (some ⟨g1, 3, none⟩)), .v 13 (.string d.fRepository), .v 14 (.string (ascF d.fRepository)), .v 15 (.pointer (some ⟨g1, 4, none⟩)), .v 16 (.string d.fCondition), .v 17 (.string (ascF d.fCondition)), .v 18 (.pointer (some ⟨g1, 5, none⟩)), .v 19 (.slice (d.fTags_a) (d.fTags.length) (d.fTags_c)), .p 20 (SA.emp) (fun _ vv AA => ∃ B86 : Option Addr, ∃ b86 : Nat, vv = .slice B86 ((someF d.fTags).length) b86 ∧ AA = SA.own (.slice B86 (someF d.fTags).length b86) 9 1 ((someF d.fTags).length) (strs (someF d.fTags))), .v 21 (.pointer (some ⟨g1, 6, none⟩)), .v 22 (.string d.fAlias), .v 23 (.string (ascF d.fAlias)), .p 24 (SA.emp) (fun env vv AA => ∃ B86x : Option Addr, ∃ b86x : Nat, (env.getD 5 undef) = .slice B86x ((someF d.fTags).length) b86x ∧ vv = .agg (zq15 d B86x b86x) ∧ AA = SA.emp), .n SA.emp (fun _ _ A => A = SA.emp)] [] F11 rfl (by kernel_rfl) S5.emp.emp ?_ ?_
 ·refine ⟨?_, ?_, ?_, ?_, ?_, ?_, ?_, ?_, ?_, ?_, ?_, ?_, ?_, ?_, ?_, ?_, ?_, ?_, ?_, trivial⟩
  ·intro w57 M57
   intro a57 F57 S57
   refine obl_of (by rfl) ?_
   exact s_p F57 (v := .pointer (some ⟨g1, 1, none⟩)) (by kernel_rfl) (by kernel_rfl) (by kernel_rfl) S57
  ·intro w58 M58
   intro a58 F58 S58
   refine obl_of (by rfl) ?_
   exact s_r (v := .string d.fName) (r_ld rfl (F58.e (.pointer (some ⟨g1, 1, none⟩))) (v := .string d.fName) (((Sp.dropM S58.drop).bk 1 rfl).cell 1) Try.underlying9 rfl) S58
  ·intro w60 M60
   intro a60 F60 S60
   refine obl_of (by rfl) ?_
   refine s_c F60 (f := 33) (args := #[.string d.fName]) (by kernel_rfl) (by kernel_rfl) (by kernel_rfl) (chAscii_any d.fName _ (by first | omega | (simp; done) | (simp; omega))) ?_
   rintro _ _ ⟨rfl, hb_62⟩
   exact ⟨_, _, rfl, ⟨rfl, rfl⟩, S60.below hb_62⟩
  ·intro w63 M63
   intro a63 F63 S63
   refine obl_of (by rfl) ?_
   exact s_p F63 (v := .pointer (some ⟨g1, 2, none⟩)) (by kernel_rfl) (by kernel_rfl) (by kernel_rfl) S63
  ·intro w64 M64
   intro a64 F64 S64
   refine obl_of (by rfl) ?_
   exact s_r (v := .string d.fVersion) (r_ld rfl (F64.e (.pointer (some ⟨g1, 2, none⟩))) (v := .string d.fVersion) (((Sp.dropM S64.drop).bk 1 rfl).cell 2) Try.underlying9 rfl) S64
  ·intro w66 M66
   intro a66 F66 S66
   refine obl_of (by rfl) ?_
   refine s_c F66 (f := 33) (args := #[.string d.fVersion]) (by kernel_rfl) (by kernel_rfl) (by kernel_rfl) (chAscii_any d.fVersion _ (by first | omega | (simp; done) | (simp; omega))) ?_
   rintro _ _ ⟨rfl, hb_68⟩
   exact ⟨_, _, rfl, ⟨rfl, rfl⟩, S66.below hb_68⟩
  ·intro w69 M69
   intro a69 F69 S69
   refine obl_of (by rfl) ?_
   exact s_p F69 (v := .pointer (some ⟨g1, 3, none⟩)) (by kernel_rfl) (by kernel_rfl) (by kernel_rfl) S69
  ·intro w70 M70
   intro a70 F70 S70
   refine obl_of (by rfl) ?_
   exact s_r (v := .string d.fRepository) (r_ld rfl (F70.e (.pointer (some ⟨g1, 3, none⟩))) (v := .string d.fRepository) (((Sp.dropM S70.drop).bk 1 rfl).cell 3) Try.underlying9 rfl) S70
  ·intro w72 M72
   intro a72 F72 S72
   refine obl_of (by rfl) ?_
   refine s_c F72 (f := 33) (args := #[.string d.fRepository]) (by kernel_rfl) (by kernel_rfl) (by kernel_rfl) (chAscii_any d.fRepository _ (by first | omega | (simp; done) | (simp; omega))) ?_
   rintro _ _ ⟨rfl, hb_74⟩
   exact ⟨_, _, rfl, ⟨rfl, rfl⟩, S72.below hb_74⟩
  ·intro w75 M75
   intro a75 F75 S75
   refine obl_of (by rfl) ?_
   exact s_p F75 (v := .pointer (some ⟨g1, 4, none⟩)) (by kernel_rfl) (by kernel_rfl) (by kernel_rfl) S75
  ·intro w76 M76
   intro a76 F76 S76
   refine obl_of (by rfl) ?_
   exact s_r (v := .string d.fCondition) (r_ld rfl (F76.e (.pointer (some ⟨g1, 4, none⟩))) (v := .string d.fCondition) (((Sp.dropM S76.drop).bk 1 rfl).cell 4) Try.underlying9 rfl) S76
  ·intro w78 M78
   intro a78 F78 S78
   refine obl_of (by rfl) ?_
   refine s_c F78 (f := 33) (args := #[.string d.fCondition]) (by kernel_rfl) (by kernel_rfl) (by kernel_rfl) (chAscii_any d.fCondition _ (by first | omega | (simp; done) | (simp; omega))) ?_
   rintro _ _ ⟨rfl, hb_80⟩
   exact ⟨_, _, rfl, ⟨rfl, rfl⟩, S78.below hb_80⟩
  ·intro w81 M81
   intro a81 F81 S81
   refine obl_of (by rfl) ?_
   exact s_p F81 (v := .pointer (some ⟨g1, 5, none⟩)) (by kernel_rfl) (by kernel_rfl) (by kernel_rfl) S81
  ·intro w82 M82
   intro a82 F82 S82
   refine obl_of (by rfl) ?_
   exact s_r (v := .slice (d.fTags_a) (d.fTags.length) (d.fTags_c)) (r_ld rfl (F82.e (.pointer (some ⟨g1, 5, none⟩))) (v := .slice (d.fTags_a) (d.fTags.length) (d.fTags_c)) (((Sp.dropM S82.drop).bk 1 rfl).cell 5) Try.underlying22 rfl) S82
  ·intro w84 M84
   intro a84 F84 S84
   refine obl_of (by rfl) ?_
   refine s_c F84 (f := 83) (args := #[.slice (d.fTags_a) (d.fTags.length) (d.fTags_c)]) (by kernel_rfl) (by kernel_rfl) (by kernel_rfl) (chSome_sp d.fTags_a d.fTags_c d.fTags _ _ _ S84.drop (fun w S => h0 w (Sp.dropM S).drop.drop) (by first | omega | (simp; done) | (simp; omega))) ?_
   rintro _ _ ⟨B86, b86, rfl, S86⟩
   exact ⟨_, _, rfl, ⟨B86, b86, rfl, rfl⟩, S86⟩
  ·intro w87 M87
   intro a87 F87 S87
   refine obl_of (by rfl) ?_
   exact s_p F87 (v := .pointer (some ⟨g1, 6, none⟩)) (by kernel_rfl) (by kernel_rfl) (by kernel_rfl) S87
  ·intro w88 M88
   intro a88 F88 S88
   refine obl_of (by rfl) ?_
   exact s_r (v := .string d.fAlias) (r_ld rfl (F88.e (.pointer (some ⟨g1, 6, none⟩))) (v := .string d.fAlias) (((Sp.dropM S88.drop).bk 1 rfl).cell 6) Try.underlying9 rfl) S88
  ·intro w90 M90
   intro a90 F90 S90
   refine obl_of (by rfl) ?_
   refine s_c F90 (f := 33) (args := #[.string d.fAlias]) (by kernel_rfl) (by kernel_rfl) (by kernel_rfl) (chAscii_any d.fAlias _ (by first | omega | (simp; done) | (simp; omega))) ?_
   rintro _ _ ⟨rfl, hb_92⟩
   exact ⟨_, _, rfl, ⟨rfl, rfl⟩, S90.below hb_92⟩
  ·intro w93 M93
   rintro _ _ ⟨B86, b86, rfl, rfl⟩ hA99
   intro a93 F93 S93
   refine obl_of (by rfl) ?_
   exact sAt_mono (s_p F93 (v := .agg (zq15 d B86 b86)) (by kernel_rfl) (by kernel_rfl) (by kernel_rfl) S93) fun _ _ ⟨e1, e2⟩ => ⟨B86, b86, (by kernel_rfl), e1, e2⟩
 ·rintro _ _ ⟨B86, b86, rfl, rfl⟩
  rintro _ _ ⟨B86x, b86x, e18_5, rfl, rfl⟩
  have e18_5 := envE_at (v := .slice B86 ((someF d.fTags).length) b86) e18_5 (by kernel_rfl)
  obtain ⟨rfl, rfl⟩ : B86 = B86x ∧ b86 = b86x := by cases e18_5; exact ⟨rfl, rfl⟩
  clear e18_5
  intro a102 w101 F102 S101
  have S103 : Sp R w101 (SA.own (.slice B86 (someF d.fTags).length b86) 9 1 ((someF d.fTags).length) (strs (someF d.fTags)) :: SA.blk g3 80 zq6 :: SA.blk g1 80 (zq0 d) :: L) := S101.drop
  refine op_sq0 F102 (s_stb rfl (F102.e (.pointer (some ⟨g3, 0, none⟩))) (F102.e (.agg (zq15 d B86 b86))) S103.p1 (by kernel_rfl) rfl (by kernel_rfl)) ?_
  rintro _ _ w104 rfl S104 F104
  refine wpList_nil ?_
  refine hK12 _ _ ?_; clear hK12 K12
  refine wp_ret ?_
  refine (F104.resC (results1 (v := .agg (zq15 d B86 b86)) Try.results114 (F104.rvc (p := ⟨g3, 0, none⟩) (by kernel_rfl) (ld_mid (S104.bk 0 rfl) 7 (by kernel_rfl) Try.underlying80 rfl (by kernel_rfl) (v := (zq15 d B86 b86)) (by kernel_rfl)))) ?_).1
  exact ⟨B86, b86, rfl, S104.drop.p1.drop⟩
abbrev zq16 (x0 : Nat) : Array Value := #[.pointer (some ⟨x0, 0, none⟩), .pointer (some ⟨x0, 1, none⟩), .pointer (some ⟨x0, 2, none⟩), .pointer (some ⟨x0, 3, none⟩), .pointer (some ⟨x0, 4, none⟩), .pointer (some ⟨x0, 5, none⟩), .pointer (some ⟨x0, 6, none⟩), .pointer (some ⟨x0, 7, none⟩), .pointer (some ⟨x0, 8, none⟩), .pointer (some ⟨x0, 9, none⟩), .pointer (some ⟨x0, 10, none⟩)]
abbrev zq17 (x0 : Ty26) : Array Value := #[.string (ascF x0.fName), .string (ascF x0.fHome), .string (ascF x0.fVersion), .string (ascF x0.fDescription), .string (ascF x0.fIcon), .string (ascF x0.fAPIVersion), .string (ascF x0.fCondition), .string (ascF x0.fTags), .string (ascF x0.fAppVersion), .string (ascF x0.fKubeVersion), .string (ascF x0.fType), .slice x0.fSources_a x0.fSources.length x0.fSources_c, .slice x0.fKeywords_a x0.fKeywords.length x0.fKeywords_c, .slice x0.fMaintainers_a x0.fMaintainers.length x0.fMaintainers_c, .slice x0.fDependencies_a x0.fDependencies.length x0.fDependencies_c]
abbrev zq18 (x0 : Ty26) (x1 : Option Addr) (x2 : Nat) (x3 : Option Addr) (x4 : Nat) : Array Value := #[.string (ascF x0.fName), .string (ascF x0.fHome), .string (verF (ascF x0.fVersion)), .string (ascF x0.fDescription), .string (ascF x0.fIcon), .string (ascF x0.fAPIVersion), .string (ascF x0.fCondition), .string (ascF x0.fTags), .string (ascF x0.fAppVersion), .string (ascF x0.fKubeVersion), .string (ascF x0.fType), .slice x1 ((someF x0.fSources).length) x2, .slice x3 ((someF x0.fKeywords).length) x4, .slice x0.fMaintainers_a x0.fMaintainers.length x0.fMaintainers_c, .slice x0.fDependencies_a x0.fDependencies.length x0.fDependencies_c]
set_option maxRecDepth 100000 in
set_option maxHeartbeats 20000000 in
theorem chFit_sp (m : Ty26) (R : Ctx) (L : List SA) (w : World) (S : Sp R w (L)) (h0 : Rf R L fun w => MetaAt w m) (hz : fitsZ m) :
  Calls Try.prog 58 #[.agg #[.string m.fName, .string m.fHome, .string m.fVersion, .string m.fDescription, .string m.fIcon, .string m.fAPIVersion, .string m.fCondition, .string m.fTags, .string m.fAppVersion, .string m.fKubeVersion, .string m.fType, .slice (m.fSources_a) (m.fSources.length) (m.fSources_c), .slice (m.fKeywords_a) (m.fKeywords.length) (m.fKeywords_c), .slice (m.fMaintainers_a) (m.fMaintainers.length) (m.fMaintainers_c), .slice (m.fDependencies_a) (m.fDependencies.length) (m.fDependencies_c)]] w fun e w' => ∃ y : Ty26, e = .returned (.agg #[.string y.fName, .string y.fHome, .string y.fVersion, .string y.fDescription, .string y.fIcon, .string y.fAPIVersion, .string y.fCondition, .string y.fTags, .string y.fAppVersion, .string y.fKubeVersion, .string y.fType, .slice y.fSources_a y.fSources.length y.fSources_c, .slice y.fKeywords_a y.fKeywords.length y.fKeywords_c, .slice y.fMaintainers_a y.fMaintainers.length y.fMaintainers_c, .slice y.fDependencies_a y.fDependencies.length y.fDependencies_c]) ∧ Sp R w' (SA.mv y :: L) ∧ (metS y = fitT m) := by
 obtain ⟨hzs, hzS, hzK, hzM, hzD⟩ := hz
 obtain ⟨hz0, hz1, hz2, hz3, hz4, hz5, hz6, hz7, hz8, hz9, hz10⟩ := hzs
 have k0 : Rf R L fun w => Sl w m.fSources_a (strs m.fSources) := fun w S => (h0 w S).1
 have k1 : Rf R L fun w => Sl w m.fKeywords_a (strs m.fKeywords) := fun w S => (h0 w S).2.1
 have k2 : Rf R L fun w => Rows w m.fMaintainers_a 4 (m.fMaintainers.map Ty78.cells) := fun w S => (h0 w S).2.2.1
 have k3 : Rf R L fun w => Rows w m.fDependencies_a 7 (m.fDependencies.map Ty80.cells) := fun w S => (h0 w S).2.2.2.1
 have hlM : m.fMaintainers.length ≤ 9223372036854775807 := by have := (k2 w S).1; simpa using this
 have hlD : m.fDependencies.length ≤ 9223372036854775807 := by have := (k3 w S).1; simpa using this
 have hlS : m.fSources.length ≤ 9223372036854775807 := by have := (k0 w S).1; simpa [strs] using this
 have hlK : m.fKeywords.length ≤ 9223372036854775807 := by have := (k1 w S).1; simpa [strs] using this
 refine fw_enter (fn := Try.f58) rfl rfl 92 rfl (Nat.le_of_ble_eq_true rfl) ?_
 intro a0 F0
 refine wp_seq_k fun K1 hK1 => ?_
 refine wp_region_lit ?_
 refine op_sq F0 (s_newp F0 26 (zq2 m) (by kernel_rfl) (by kernel_rfl) (by kernel_rfl) S) ?_
 rintro _ _ w3 ⟨g1, rfl, rfl⟩ S3 a3 F3
 refine op_sq F3 (s_newp F3 26 zq8 (by kernel_rfl) (by kernel_rfl) (by kernel_rfl) S3) ?_
 rintro _ _ w5 ⟨g3, rfl, rfl⟩ S5 a5 F5
 refine wpList_nil ?_
 refine hK1 _ _ ?_; clear hK1 K1
 refine wp_seq_k fun K6 hK6 => ?_
 refine wp_seq_k fun K7 hK7 => ?_
 refine wp_region_lit ?_
 refine op_q F5 (.pointer (some ⟨g1, 0, none⟩)) ?_; intro a8 F8
 refine op_q F8 (.pointer (some ⟨g1, 1, none⟩)) ?_; intro a9 F9
 refine op_q F9 (.pointer (some ⟨g1, 2, none⟩)) ?_; intro a10 F10
 refine op_q F10 (.pointer (some ⟨g1, 3, none⟩)) ?_; intro a11 F11
 refine op_q F11 (.pointer (some ⟨g1, 4, none⟩)) ?_; intro a12 F12
 refine op_q F12 (.pointer (some ⟨g1, 5, none⟩)) ?_; intro a13 F13
 refine op_q F13 (.pointer (some ⟨g1, 6, none⟩)) ?_; intro a14 F14
 refine op_q F14 (.pointer (some ⟨g1, 7, none⟩)) ?_; intro a15 F15
 refine op_q F15 (.pointer (some ⟨g1, 8, none⟩)) ?_; intro a16 F16
 refine op_q F16 (.pointer (some ⟨g1, 9, none⟩)) ?_; intro a17 F17
 refine op_q F17 (.pointer (some ⟨g1, 10, none⟩)) ?_; intro a18 F18
 refine op_sq F18 (s_news F18 197 (zq16 g1) 11 (by kernel_rfl) (by kernel_rfl) (by kernel_rfl) S5) ?_
 rintro _ _ w20 ⟨g18, rfl, rfl⟩ S20 a20 F20
 refine op_q F20 (.int .i64 11) ?_; intro a21 F21
 refine op_q F21 (.int .i64 0) ?_; intro a22 F22
 refine wpList_nil ?_
 refine hK7 _ _ ?_; clear hK7 K7
 refine wp_block ?_
 have S23 : Sp R w20 (SA.blk g1 26 (fitC m 0) :: SA.blk g18 197 (zq16 g1) :: SA.blk g3 26 zq8 :: L) := S20.p2
 refine fw_loop (fun m' a' w' => ∃ k : Nat, 11 - k = m' ∧ Fr 92 [] a' [(1, .pointer (some ⟨g1, 0, none⟩)), (2, .pointer (some ⟨g3, 0, none⟩)), (20, .slice (some ⟨g18, 0, none⟩) 11 11), (21, .int .i64 11), (22, .int .i64 (↑k))] ∧ Sp R w' (SA.blk g1 26 (fitC m k) :: SA.blk g18 197 (zq16 g1) :: SA.blk g3 26 zq8 :: L) ∧ (k ≤ 11)) _ ⟨0, rfl, (F22.kk 1 (F22.kk 2 (F22.kk 20 (F22.kk 21 (F22.kk 22 F22.nil))))), S23.p2.p2.p2, (by first | omega | (with_reducible assumption) | (simp; done))⟩ ?_
 rintro m24 a24 w24 ⟨k, hm24, F24, S24, hk⟩ K24 hK24
 by_cases hlt_k : k < 11
 ·have hc_k : decide ((↑k : Int) < 11) = true := by first | (simp; done) | (simp; omega)
  refine wp_seq_k fun K25 hK25 => ?_
  refine wp_region_lit ?_
  refine op_q F24 (.bool (decide ((↑k : Int) < 11))) ?_; intro a26 F26
  have F27 := F26.sb 23 (by kernel_rfl) hc_k
  refine wpList_nil ?_
  refine hK25 _ _ ?_; clear hK25 K25
  refine wp_seq_k fun K28 hK28 => ?_
  refine wp_cond_true (F27.ev (by kernel_rfl)) ?_
  refine wp_skip ?_
  refine hK28 _ _ ?_; clear hK28 K28
  refine wp_seq_k fun K29 hK29 => ?_
  refine wp_block ?_
  refine wp_seq_k fun K30 hK30 => ?_
  have hk11 : k = 0 ∨ k = 1 ∨ k = 2 ∨ k = 3 ∨ k = 4 ∨ k = 5 ∨ k = 6 ∨ k = 7 ∨ k = 8 ∨ k = 9 ∨ k = 10 := by omega
  rcases hk11 with rfl | rfl | rfl | rfl | rfl | rfl | rfl | rfl | rfl | rfl | rfl
  ·have S31 : Sp R w24 (SA.blk g1 26 (zq13 m) :: SA.blk g18 197 (zq16 g1) :: SA.blk g3 26 zq8 :: L) := S24
   skip
   refine wp_region_lit ?_
   refine op_rq (v := .pointer (some ⟨g18, 0, none⟩)) F27 (r_ix rfl Try.underlying198 1 (by kernel_rfl) (F27.e (.slice (some ⟨g18, 0, none⟩) 11 11)) rfl (F27.e (.int .i64 0)) 0 (by first | rfl | omega | simp) (by first | omega | (simp; done) | (simp; omega)) (by kernel_rfl)) ?_; intro a32 F32
   refine op_rq (v := .pointer (some ⟨g1, 0, none⟩)) F32 (r_ld rfl (F32.e (.pointer (some ⟨g18, 0, none⟩))) (v := .pointer (some ⟨g1, 0, none⟩)) ((S31.bk 1 rfl).cell 0) Try.underlying197 rfl) ?_; intro a33 F33
   refine op_q F33 (.pointer (some ⟨g1, 0, none⟩)) ?_; intro a34 F34
   refine wpList_nil ?_
   refine hK30 _ _ ?_; clear hK30 K30
   refine wp_region_lit ?_
   refine op_q F34 (.pointer (some ⟨g1, 0, none⟩)) ?_; intro a35 F35
   refine op_q F35 (.pointer (some ⟨g1, 0, none⟩)) ?_; intro a36 F36
   refine op_q F36 (.pointer (some ⟨g1, 0, none⟩)) ?_; intro a37 F37
   refine op_rq (v := .string m.fName) F37 (r_ld rfl (F37.e (.pointer (some ⟨g1, 0, none⟩))) (v := .string m.fName) ((S31.bk 0 rfl).cell 0) Try.underlying9 rfl) ?_; intro a38 F38
   refine op_cq F38 (f := 33) (args := #[.string m.fName]) (chAscii_any m.fName _ (by first | omega | (simp; done) | (simp; omega))) ?_
   rintro _ w39 ⟨rfl, hb_39⟩
   refine ⟨_, rfl, ?_⟩
   intro a40 F40
   have S39 := S31.below hb_39
   refine op_q F40 (.pointer (some ⟨g1, 0, none⟩)) ?_; intro a41 F41
   refine op_sq0 F41 (s_st rfl (F41.e (.pointer (some ⟨g1, 0, none⟩))) (F41.e (.string (ascF m.fName))) S39 (by kernel_rfl) rfl rfl rfl (cs := #[.string (ascF m.fName), .string m.fHome, .string m.fVersion, .string m.fDescription, .string m.fIcon, .string m.fAPIVersion, .string m.fCondition, .string m.fTags, .string m.fAppVersion, .string m.fKubeVersion, .string m.fType, .slice m.fSources_a m.fSources.length m.fSources_c, .slice m.fKeywords_a m.fKeywords.length m.fKeywords_c, .slice m.fMaintainers_a m.fMaintainers.length m.fMaintainers_c, .slice m.fDependencies_a m.fDependencies.length m.fDependencies_c]) (by kernel_rfl)) ?_
   rintro _ _ w42 rfl S42 F42
   refine wpList_nil ?_
   refine hK29 _ _ ?_; clear hK29 K29
   refine wp_region_lit ?_
   refine op_q F42 (.int .i64 1) ?_; intro a43 F43
   refine op_q F43 (.int .i64 1) ?_; intro a44 F44
   refine wpList_nil ?_
   have S45 : Sp R w42 (SA.blk g1 26 (fitC m 1) :: SA.blk g18 197 (zq16 g1) :: SA.blk g3 26 zq8 :: L) := S42
   exact hK24 _ _ _ (by first | omega | (simp; omega)) ⟨1, rfl, (F44.kk 1 (F44.kk 2 (F44.kk 20 (F44.kk 21 (F44.kk 22 F44.nil))))), S45.p2.p2.p2, (by first | omega | (with_reducible assumption) | (simp; done))⟩
  ·have S46 : Sp R w24 (SA.blk g1 26 #[.string (ascF m.fName), .string m.fHome, .string m.fVersion, .string m.fDescription, .string m.fIcon, .string m.fAPIVersion, .string m.fCondition, .string m.fTags, .string m.fAppVersion, .string m.fKubeVersion, .string m.fType, .slice m.fSources_a m.fSources.length m.fSources_c, .slice m.fKeywords_a m.fKeywords.length m.fKeywords_c, .slice m.fMaintainers_a m.fMaintainers.length m.fMaintainers_c, .slice m.fDependencies_a m.fDependencies.length m.fDependencies_c] :: SA.blk g18 197 (zq16 g1) :: SA.blk g3 26 zq8 :: L) := S24
   skip
   refine wp_region_lit ?_
   refine op_rq (v := .pointer (some ⟨g18, 1, none⟩)) F27 (r_ix rfl Try.underlying198 1 (by kernel_rfl) (F27.e (.slice (some ⟨g18, 0, none⟩) 11 11)) rfl (F27.e (.int .i64 1)) 1 (by first | rfl | omega | simp) (by first | omega | (simp; done) | (simp; omega)) (by kernel_rfl)) ?_; intro a47 F47
   refine op_rq (v := .pointer (some ⟨g1, 1, none⟩)) F47 (r_ld rfl (F47.e (.pointer (some ⟨g18, 1, none⟩))) (v := .pointer (some ⟨g1, 1, none⟩)) ((S46.bk 1 rfl).cell 1) Try.underlying197 rfl) ?_; intro a48 F48
   refine op_q F48 (.pointer (some ⟨g1, 1, none⟩)) ?_; intro a49 F49
   refine wpList_nil ?_
   refine hK30 _ _ ?_; clear hK30 K30
   refine wp_region_lit ?_
   refine op_q F49 (.pointer (some ⟨g1, 1, none⟩)) ?_; intro a50 F50
   refine op_q F50 (.pointer (some ⟨g1, 1, none⟩)) ?_; intro a51 F51
   refine op_q F51 (.pointer (some ⟨g1, 1, none⟩)) ?_; intro a52 F52
   refine op_rq (v := .string m.fHome) F52 (r_ld rfl (F52.e (.pointer (some ⟨g1, 1, none⟩))) (v := .string m.fHome) ((S46.bk 0 rfl).cell 1) Try.underlying9 rfl) ?_; intro a53 F53
   refine op_cq F53 (f := 33) (args := #[.string m.fHome]) (chAscii_any m.fHome _ (by first | omega | (simp; done) | (simp; omega))) ?_
   rintro _ w54 ⟨rfl, hb_54⟩
   refine ⟨_, rfl, ?_⟩
   intro a55 F55
   have S54 := S46.below hb_54
   refine op_q F55 (.pointer (some ⟨g1, 1, none⟩)) ?_; intro a56 F56
   refine op_sq0 F56 (s_st rfl (F56.e (.pointer (some ⟨g1, 1, none⟩))) (F56.e (.string (ascF m.fHome))) S54 (by kernel_rfl) rfl rfl rfl (cs := #[.string (ascF m.fName), .string (ascF m.fHome), .string m.fVersion, .string m.fDescription, .string m.fIcon, .string m.fAPIVersion, .string m.fCondition, .string m.fTags, .string m.fAppVersion, .string m.fKubeVersion, .string m.fType, .slice m.fSources_a m.fSources.length m.fSources_c, .slice m.fKeywords_a m.fKeywords.length m.fKeywords_c, .slice m.fMaintainers_a m.fMaintainers.length m.fMaintainers_c, .slice m.fDependencies_a m.fDependencies.length m.fDependencies_c]) (by kernel_rfl)) ?_
   rintro _ _ w57 rfl S57 F57
   refine wpList_nil ?_
   refine hK29 _ _ ?_; clear hK29 K29
   refine wp_region_lit ?_
   refine op_q F57 (.int .i64 2) ?_; intro a58 F58
   refine op_q F58 (.int .i64 2) ?_; intro a59 F59
   refine wpList_nil ?_
   have S60 : Sp R w57 (SA.blk g1 26 (fitC m 2) :: SA.blk g18 197 (zq16 g1) :: SA.blk g3 26 zq8 :: L) := S57
   exact hK24 _ _ _ (by first | omega | (simp; omega)) ⟨2, rfl, (F59.kk 1 (F59.kk 2 (F59.kk 20 (F59.kk 21 (F59.kk 22 F59.nil))))), S60.p2.p2.p2, (by first | omega | (with_reducible assumption) | (simp; done))⟩
  ·have S61 : Sp R w24 (SA.blk g1 26 #[.string (ascF m.fName), .string (ascF m.fHome), .string m.fVersion, .string m.fDescription, .string m.fIcon, .string m.fAPIVersion, .string m.fCondition, .string m.fTags, .string m.fAppVersion, .string m.fKubeVersion, .string m.fType, .slice m.fSources_a m.fSources.length m.fSources_c, .slice m.fKeywords_a m.fKeywords.length m.fKeywords_c, .slice m.fMaintainers_a m.fMaintainers.length m.fMaintainers_c, .slice m.fDependencies_a m.fDependencies.length m.fDependencies_c] :: SA.blk g18 197 (zq16 g1) :: SA.blk g3 26 zq8 :: L) := S24
   skip
   refine wp_region_lit ?_
   refine op_rq (v := .pointer (some ⟨g18, 2, none⟩)) F27 (r_ix rfl Try.underlying198 1 (by kernel_rfl) (F27.e (.slice (some ⟨g18, 0, none⟩) 11 11)) rfl (F27.e (.int .i64 2)) 2 (by first | rfl | omega | simp) (by first | omega | (simp; done) | (simp; omega)) (by kernel_rfl)) ?_; intro a62 F62
   refine op_rq (v := .pointer (some ⟨g1, 2, none⟩)) F62 (r_ld rfl (F62.e (.pointer (some ⟨g18, 2, none⟩))) (v := .pointer (some ⟨g1, 2, none⟩)) ((S61.bk 1 rfl).cell 2) Try.underlying197 rfl) ?_; intro a63 F63
   refine op_q F63 (.pointer (some ⟨g1, 2, none⟩)) ?_; intro a64 F64
   refine wpList_nil ?_
   refine hK30 _ _ ?_; clear hK30 K30
   refine wp_region_lit ?_
   refine op_q F64 (.pointer (some ⟨g1, 2, none⟩)) ?_; intro a65 F65
   refine op_q F65 (.pointer (some ⟨g1, 2, none⟩)) ?_; intro a66 F66
   refine op_q F66 (.pointer (some ⟨g1, 2, none⟩)) ?_; intro a67 F67
   refine op_rq (v := .string m.fVersion) F67 (r_ld rfl (F67.e (.pointer (some ⟨g1, 2, none⟩))) (v := .string m.fVersion) ((S61.bk 0 rfl).cell 2) Try.underlying9 rfl) ?_; intro a68 F68
   refine op_cq F68 (f := 33) (args := #[.string m.fVersion]) (chAscii_any m.fVersion _ (by first | omega | (simp; done) | (simp; omega))) ?_
   rintro _ w69 ⟨rfl, hb_69⟩
   refine ⟨_, rfl, ?_⟩
   intro a70 F70
   have S69 := S61.below hb_69
   refine op_q F70 (.pointer (some ⟨g1, 2, none⟩)) ?_; intro a71 F71
   refine op_sq0 F71 (s_st rfl (F71.e (.pointer (some ⟨g1, 2, none⟩))) (F71.e (.string (ascF m.fVersion))) S69 (by kernel_rfl) rfl rfl rfl (cs := #[.string (ascF m.fName), .string (ascF m.fHome), .string (ascF m.fVersion), .string m.fDescription, .string m.fIcon, .string m.fAPIVersion, .string m.fCondition, .string m.fTags, .string m.fAppVersion, .string m.fKubeVersion, .string m.fType, .slice m.fSources_a m.fSources.length m.fSources_c, .slice m.fKeywords_a m.fKeywords.length m.fKeywords_c, .slice m.fMaintainers_a m.fMaintainers.length m.fMaintainers_c, .slice m.fDependencies_a m.fDependencies.length m.fDependencies_c]) (by kernel_rfl)) ?_
   rintro _ _ w72 rfl S72 F72
   refine wpList_nil ?_
   refine hK29 _ _ ?_; clear hK29 K29
   refine wp_region_lit ?_
   refine op_q F72 (.int .i64 3) ?_; intro a73 F73
   refine op_q F73 (.int .i64 3) ?_; intro a74 F74
   refine wpList_nil ?_
   have S75 : Sp R w72 (SA.blk g1 26 (fitC m 3) :: SA.blk g18 197 (zq16 g1) :: SA.blk g3 26 zq8 :: L) := S72
   exact hK24 _ _ _ (by first | omega | (simp; omega)) ⟨3, rfl, (F74.kk 1 (F74.kk 2 (F74.kk 20 (F74.kk 21 (F74.kk 22 F74.nil))))), S75.p2.p2.p2, (by first | omega | (with_reducible assumption) | (simp; done))⟩
  ·have S76 : Sp R w24 (SA.blk g1 26 #[.string (ascF m.fName), .string (ascF m.fHome), .string (ascF m.fVersion), .string m.fDescription, .string m.fIcon, .string m.fAPIVersion, .string m.fCondition, .string m.fTags, .string m.fAppVersion, .string m.fKubeVersion, .string m.fType, .slice m.fSources_a m.fSources.length m.fSources_c, .slice m.fKeywords_a m.fKeywords.length m.fKeywords_c, .slice m.fMaintainers_a m.fMaintainers.length m.fMaintainers_c, .slice m.fDependencies_a m.fDependencies.length m.fDependencies_c] :: SA.blk g18 197 (zq16 g1) :: SA.blk g3 26 zq8 :: L) := S24
   skip
   refine wp_region_lit ?_
   refine op_rq (v := .pointer (some ⟨g18, 3, none⟩)) F27 (r_ix rfl Try.underlying198 1 (by kernel_rfl) (F27.e (.slice (some ⟨g18, 0, none⟩) 11 11)) rfl (F27.e (.int .i64 3)) 3 (by first | rfl | omega | simp) (by first | omega | (simp; done) | (simp; omega)) (by kernel_rfl)) ?_; intro a77 F77
   refine op_rq (v := .pointer (some ⟨g1, 3, none⟩)) F77 (r_ld rfl (F77.e (.pointer (some ⟨g18, 3, none⟩))) (v := .pointer (some ⟨g1, 3, none⟩)) ((S76.bk 1 rfl).cell 3) Try.underlying197 rfl) ?_; intro a78 F78
   refine op_q F78 (.pointer (some ⟨g1, 3, none⟩)) ?_; intro a79 F79
   refine wpList_nil ?_
   refine hK30 _ _ ?_; clear hK30 K30
   refine wp_region_lit ?_
   refine op_q F79 (.pointer (some ⟨g1, 3, none⟩)) ?_; intro a80 F80
   refine op_q F80 (.pointer (some ⟨g1, 3, none⟩)) ?_; intro a81 F81
   refine op_q F81 (.pointer (some ⟨g1, 3, none⟩)) ?_; intro a82 F82
   refine op_rq (v := .string m.fDescription) F82 (r_ld rfl (F82.e (.pointer (some ⟨g1, 3, none⟩))) (v := .string m.fDescription) ((S76.bk 0 rfl).cell 3) Try.underlying9 rfl) ?_; intro a83 F83
   refine op_cq F83 (f := 33) (args := #[.string m.fDescription]) (chAscii_any m.fDescription _ (by first | omega | (simp; done) | (simp; omega))) ?_
   rintro _ w84 ⟨rfl, hb_84⟩
   refine ⟨_, rfl, ?_⟩
   intro a85 F85
   have S84 := S76.below hb_84
   refine op_q F85 (.pointer (some ⟨g1, 3, none⟩)) ?_; intro a86 F86
   refine op_sq0 F86 (s_st rfl (F86.e (.pointer (some ⟨g1, 3, none⟩))) (F86.e (.string (ascF m.fDescription))) S84 (by kernel_rfl) rfl rfl rfl (cs := #[.string (ascF m.fName), .string (ascF m.fHome), .string (ascF m.fVersion), .string (ascF m.fDescription), .string m.fIcon, .string m.fAPIVersion, .string m.fCondition, .string m.fTags, .string m.fAppVersion, .string m.fKubeVersion, .string m.fType, .slice m.fSources_a m.fSources.length m.fSources_c, .slice m.fKeywords_a m.fKeywords.length m.fKeywords_c, .slice m.fMaintainers_a m.fMaintainers.length m.fMaintainers_c, .slice m.fDependencies_a m.fDependencies.length m.fDependencies_c]) (by kernel_rfl)) ?_
   rintro _ _ w87 rfl S87 F87
   refine wpList_nil ?_
   refine hK29 _ _ ?_; clear hK29 K29
   refine wp_region_lit ?_
   refine op_q F87 (.int .i64 4) ?_; intro a88 F88
   refine op_q F88 (.int .i64 4) ?_; intro a89 F89
   refine wpList_nil ?_
   have S90 : Sp R w87 (SA.blk g1 26 (fitC m 4) :: SA.blk g18 197 (zq16 g1) :: SA.blk g3 26 zq8 :: L) := S87
   exact hK24 _ _ _ (by first | omega | (simp; omega)) ⟨4, rfl, (F89.kk 1 (F89.kk 2 (F89.kk 20 (F89.kk 21 (F89.kk 22 F89.nil))))), S90.p2.p2.p2, (by first | omega | (with_reducible assumption) | (simp; done))⟩
  ·have S91 : Sp R w24 (SA.blk g1 26 #[.string (ascF m.fName), .string (ascF m.fHome), .string (ascF m.fVersion), .string (ascF m.fDescription), .string m.fIcon, .string m.fAPIVersion, .string m.fCondition, .string m.fTags, .string m.fAppVersion, .string m.fKubeVersion, .string m.fType, .slice m.fSources_a m.fSources.length m.fSources_c, .slice m.fKeywords_a m.fKeywords.length m.fKeywords_c, .slice m.fMaintainers_a m.fMaintainers.length m.fMaintainers_c, .slice m.fDependencies_a m.fDependencies.length m.fDependencies_c] :: SA.blk g18 197 (zq16 g1) :: SA.blk g3 26 zq8 :: L) := S24
   skip
   refine wp_region_lit ?_
   refine op_rq (v := .pointer (some ⟨g18, 4, none⟩)) F27 (r_ix rfl Try.underlying198 1 (by kernel_rfl) (F27.e (.slice (some ⟨g18, 0, none⟩) 11 11)) rfl (F27.e (.int .i64 4)) 4 (by first | rfl | omega | simp) (by first | omega | (simp; done) | (simp; omega)) (by kernel_rfl)) ?_; intro a92 F92
   refine op_rq (v := .pointer (some ⟨g1, 4, none⟩)) F92 (r_ld rfl (F92.e (.pointer (some ⟨g18, 4, none⟩))) (v := .pointer (some ⟨g1, 4, none⟩)) ((S91.bk 1 rfl).cell 4) Try.underlying197 rfl) ?_; intro a93 F93
   refine op_q F93 (.pointer (some ⟨g1, 4, none⟩)) ?_; intro a94 F94
   refine wpList_nil ?_
   refine hK30 _ _ ?_; clear hK30 K30
   refine wp_region_lit ?_
   refine op_q F94 (.pointer (some ⟨g1, 4, none⟩)) ?_; intro a95 F95
   refine op_q F95 (.pointer (some ⟨g1, 4, none⟩)) ?_; intro a96 F96
   refine op_q F96 (.pointer (some ⟨g1, 4, none⟩)) ?_; intro a97 F97
   refine op_rq (v := .string m.fIcon) F97 (r_ld rfl (F97.e (.pointer (some ⟨g1, 4, none⟩))) (v := .string m.fIcon) ((S91.bk 0 rfl).cell 4) Try.underlying9 rfl) ?_; intro a98 F98
   refine op_cq F98 (f := 33) (args := #[.string m.fIcon]) (chAscii_any m.fIcon _ (by first | omega | (simp; done) | (simp; omega))) ?_
   rintro _ w99 ⟨rfl, hb_99⟩
   refine ⟨_, rfl, ?_⟩
   intro a100 F100
   have S99 := S91.below hb_99
   refine op_q F100 (.pointer (some ⟨g1, 4, none⟩)) ?_; intro a101 F101
   refine op_sq0 F101 (s_st rfl (F101.e (.pointer (some ⟨g1, 4, none⟩))) (F101.e (.string (ascF m.fIcon))) S99 (by kernel_rfl) rfl rfl rfl (cs := #[.string (ascF m.fName), .string (ascF m.fHome), .string (ascF m.fVersion), .string (ascF m.fDescription), .string (ascF m.fIcon), .string m.fAPIVersion, .string m.fCondition, .string m.fTags, .string m.fAppVersion, .string m.fKubeVersion, .string m.fType, .slice m.fSources_a m.fSources.length m.fSources_c, .slice m.fKeywords_a m.fKeywords.length m.fKeywords_c, .slice m.fMaintainers_a m.fMaintainers.length m.fMaintainers_c, .slice m.fDependencies_a m.fDependencies.length m.fDependencies_c]) (by kernel_rfl)) ?_
   rintro _ _ w102 rfl S102 F102
   refine wpList_nil ?_
   refine hK29 _ _ ?_; clear hK29 K29
   refine wp_region_lit ?_
   refine op_q F102 (.int .i64 5) ?_; intro a103 F103
   refine op_q F103 (.int .i64 5) ?_; intro a104 F104
   refine wpList_nil ?_
   have S105 : Sp R w102 (SA.blk g1 26 (fitC m 5) :: SA.blk g18 197 (zq16 g1) :: SA.blk g3 26 zq8 :: L) := S102
   exact hK24 _ _ _ (by first | omega | (simp; omega)) ⟨5, rfl, (F104.kk 1 (F104.kk 2 (F104.kk 20 (F104.kk 21 (F104.kk 22 F104.nil))))), S105.p2.p2.p2, (by first | omega | (with_reducible assumption) | (simp; done))⟩
  ·have S106 : Sp R w24 (SA.blk g1 26 #[.string (ascF m.fName), .string (ascF m.fHome), .string (ascF m.fVersion), .string (ascF m.fDescription), .string (ascF m.fIcon), .string m.fAPIVersion, .string m.fCondition, .string m.fTags, .string m.fAppVersion, .string m.fKubeVersion, .string m.fType, .slice m.fSources_a m.fSources.length m.fSources_c, .slice m.fKeywords_a m.fKeywords.length m.fKeywords_c, .slice m.fMaintainers_a m.fMaintainers.length m.fMaintainers_c, .slice m.fDependencies_a m.fDependencies.length m.fDependencies_c] :: SA.blk g18 197 (zq16 g1) :: SA.blk g3 26 zq8 :: L) := S24
   skip
   refine wp_region_lit ?_
   refine op_rq (v := .pointer (some ⟨g18, 5, none⟩)) F27 (r_ix rfl Try.underlying198 1 (by kernel_rfl) (F27.e (.slice (some ⟨g18, 0, none⟩) 11 11)) rfl (F27.e (.int .i64 5)) 5 (by first | rfl | omega | simp) (by first | omega | (simp; done) | (simp; omega)) (by kernel_rfl)) ?_; intro a107 F107
   refine op_rq (v := .pointer (some ⟨g1, 5, none⟩)) F107 (r_ld rfl (F107.e (.pointer (some ⟨g18, 5, none⟩))) (v := .pointer (some ⟨g1, 5, none⟩)) ((S106.bk 1 rfl).cell 5) Try.underlying197 rfl) ?_; intro a108 F108
   refine op_q F108 (.pointer (some ⟨g1, 5, none⟩)) ?_; intro a109 F109
   refine wpList_nil ?_
   refine hK30 _ _ ?_; clear hK30 K30
   refine wp_region_lit ?_
   refine op_q F109 (.pointer (some ⟨g1, 5, none⟩)) ?_; intro a110 F110
   refine op_q F110 (.pointer (some ⟨g1, 5, none⟩)) ?_; intro a111 F111
   refine op_q F111 (.pointer (some ⟨g1, 5, none⟩)) ?_; intro a112 F112
   refine op_rq (v := .string m.fAPIVersion) F112 (r_ld rfl (F112.e (.pointer (some ⟨g1, 5, none⟩))) (v := .string m.fAPIVersion) ((S106.bk 0 rfl).cell 5) Try.underlying9 rfl) ?_; intro a113 F113
   refine op_cq F113 (f := 33) (args := #[.string m.fAPIVersion]) (chAscii_any m.fAPIVersion _ (by first | omega | (simp; done) | (simp; omega))) ?_
   rintro _ w114 ⟨rfl, hb_114⟩
   refine ⟨_, rfl, ?_⟩
   intro a115 F115
   have S114 := S106.below hb_114
   refine op_q F115 (.pointer (some ⟨g1, 5, none⟩)) ?_; intro a116 F116
   refine op_sq0 F116 (s_st rfl (F116.e (.pointer (some ⟨g1, 5, none⟩))) (F116.e (.string (ascF m.fAPIVersion))) S114 (by kernel_rfl) rfl rfl rfl (cs := #[.string (ascF m.fName), .string (ascF m.fHome), .string (ascF m.fVersion), .string (ascF m.fDescription), .string (ascF m.fIcon), .string (ascF m.fAPIVersion), .string m.fCondition, .string m.fTags, .string m.fAppVersion, .string m.fKubeVersion, .string m.fType, .slice m.fSources_a m.fSources.length m.fSources_c, .slice m.fKeywords_a m.fKeywords.length m.fKeywords_c, .slice m.fMaintainers_a m.fMaintainers.length m.fMaintainers_c, .slice m.fDependencies_a m.fDependencies.length m.fDependencies_c]) (by kernel_rfl)) ?_
   rintro _ _ w117 rfl S117 F117
   refine wpList_nil ?_
   refine hK29 _ _ ?_; clear hK29 K29
   refine wp_region_lit ?_
   refine op_q F117 (.int .i64 6) ?_; intro a118 F118
   refine op_q F118 (.int .i64 6) ?_; intro a119 F119
   refine wpList_nil ?_
   have S120 : Sp R w117 (SA.blk g1 26 (fitC m 6) :: SA.blk g18 197 (zq16 g1) :: SA.blk g3 26 zq8 :: L) := S117
   exact hK24 _ _ _ (by first | omega | (simp; omega)) ⟨6, rfl, (F119.kk 1 (F119.kk 2 (F119.kk 20 (F119.kk 21 (F119.kk 22 F119.nil))))), S120.p2.p2.p2, (by first | omega | (with_reducible assumption) | (simp; done))⟩
  ·have S121 : Sp R w24 (SA.blk g1 26 #[.string (ascF m.fName), .string (ascF m.fHome), .string (ascF m.fVersion), .string (ascF m.fDescription), .string (ascF m.fIcon), .string (ascF m.fAPIVersion), .string m.fCondition, .string m.fTags, .string m.fAppVersion, .string m.fKubeVersion, .string m.fType, .slice m.fSources_a m.fSources.length m.fSources_c, .slice m.fKeywords_a m.fKeywords.length m.fKeywords_c, .slice m.fMaintainers_a m.fMaintainers.length m.fMaintainers_c, .slice m.fDependencies_a m.fDependencies.length m.fDependencies_c] :: SA.blk g18 197 (zq16 g1) :: SA.blk g3 26 zq8 :: L) := S24
   skip
   refine wp_region_lit ?_
   refine op_rq (v := .pointer (some ⟨g18, 6, none⟩)) F27 (r_ix rfl Try.underlying198 1 (by kernel_rfl) (F27.e (.slice (some ⟨g18, 0, none⟩) 11 11)) rfl (F27.e (.int .i64 6)) 6 (by first | rfl | omega | simp) (by first | omega | (simp; done) | (simp; omega)) (by kernel_rfl)) ?_; intro a122 F122
   refine op_rq (v := .pointer (some ⟨g1, 6, none⟩)) F122 (r_ld rfl (F122.e (.pointer (some ⟨g18, 6, none⟩))) (v := .pointer (some ⟨g1, 6, none⟩)) ((S121.bk 1 rfl).cell 6) Try.underlying197 rfl) ?_; intro a123 F123
   refine op_q F123 (.pointer (some ⟨g1, 6, none⟩)) ?_; intro a124 F124
   refine wpList_nil ?_
   refine hK30 _ _ ?_; clear hK30 K30
   refine wp_region_lit ?_
   refine op_q F124 (.pointer (some ⟨g1, 6, none⟩)) ?_; intro a125 F125
   refine op_q F125 (.pointer (some ⟨g1, 6, none⟩)) ?_; intro a126 F126
   refine op_q F126 (.pointer (some ⟨g1, 6, none⟩)) ?_; intro a127 F127
   refine op_rq (v := .string m.fCondition) F127 (r_ld rfl (F127.e (.pointer (some ⟨g1, 6, none⟩))) (v := .string m.fCondition) ((S121.bk 0 rfl).cell 6) Try.underlying9 rfl) ?_; intro a128 F128
   refine op_cq F128 (f := 33) (args := #[.string m.fCondition]) (chAscii_any m.fCondition _ (by first | omega | (simp; done) | (simp; omega))) ?_
   rintro _ w129 ⟨rfl, hb_129⟩
   refine ⟨_, rfl, ?_⟩
   intro a130 F130
   have S129 := S121.below hb_129
   refine op_q F130 (.pointer (some ⟨g1, 6, none⟩)) ?_; intro a131 F131
   refine op_sq0 F131 (s_st rfl (F131.e (.pointer (some ⟨g1, 6, none⟩))) (F131.e (.string (ascF m.fCondition))) S129 (by kernel_rfl) rfl rfl rfl (cs := #[.string (ascF m.fName), .string (ascF m.fHome), .string (ascF m.fVersion), .string (ascF m.fDescription), .string (ascF m.fIcon), .string (ascF m.fAPIVersion), .string (ascF m.fCondition), .string m.fTags, .string m.fAppVersion, .string m.fKubeVersion, .string m.fType, .slice m.fSources_a m.fSources.length m.fSources_c, .slice m.fKeywords_a m.fKeywords.length m.fKeywords_c, .slice m.fMaintainers_a m.fMaintainers.length m.fMaintainers_c, .slice m.fDependencies_a m.fDependencies.length m.fDependencies_c]) (by kernel_rfl)) ?_
   rintro _ _ w132 rfl S132 F132
   refine wpList_nil ?_
   refine hK29 _ _ ?_; clear hK29 K29
   refine wp_region_lit ?_
   refine op_q F132 (.int .i64 7) ?_; intro a133 F133
   refine op_q F133 (.int .i64 7) ?_; intro a134 F134
   refine wpList_nil ?_
   have S135 : Sp R w132 (SA.blk g1 26 (fitC m 7) :: SA.blk g18 197 (zq16 g1) :: SA.blk g3 26 zq8 :: L) := S132
   exact hK24 _ _ _ (by first | omega | (simp; omega)) ⟨7, rfl, (F134.kk 1 (F134.kk 2 (F134.kk 20 (F134.kk 21 (F134.kk 22 F134.nil))))), S135.p2.p2.p2, (by first | omega | (with_reducible assumption) | (simp; done))⟩
  ·have S136 : Sp R w24 (SA.blk g1 26 #[.string (ascF m.fName), .string (ascF m.fHome), .string (ascF m.fVersion), .string (ascF m.fDescription), .string (ascF m.fIcon), .string (ascF m.fAPIVersion), .string (ascF m.fCondition), .string m.fTags, .string m.fAppVersion, .string m.fKubeVersion, .string m.fType, .slice m.fSources_a m.fSources.length m.fSources_c, .slice m.fKeywords_a m.fKeywords.length m.fKeywords_c, .slice m.fMaintainers_a m.fMaintainers.length m.fMaintainers_c, .slice m.fDependencies_a m.fDependencies.length m.fDependencies_c] :: SA.blk g18 197 (zq16 g1) :: SA.blk g3 26 zq8 :: L) := S24
   skip
   refine wp_region_lit ?_
   refine op_rq (v := .pointer (some ⟨g18, 7, none⟩)) F27 (r_ix rfl Try.underlying198 1 (by kernel_rfl) (F27.e (.slice (some ⟨g18, 0, none⟩) 11 11)) rfl (F27.e (.int .i64 7)) 7 (by first | rfl | omega | simp) (by first | omega | (simp; done) | (simp; omega)) (by kernel_rfl)) ?_; intro a137 F137
   refine op_rq (v := .pointer (some ⟨g1, 7, none⟩)) F137 (r_ld rfl (F137.e (.pointer (some ⟨g18, 7, none⟩))) (v := .pointer (some ⟨g1, 7, none⟩)) ((S136.bk 1 rfl).cell 7) Try.underlying197 rfl) ?_; intro a138 F138
   refine op_q F138 (.pointer (some ⟨g1, 7, none⟩)) ?_; intro a139 F139
   refine wpList_nil ?_
   refine hK30 _ _ ?_; clear hK30 K30
   refine wp_region_lit ?_
   refine op_q F139 (.pointer (some ⟨g1, 7, none⟩)) ?_; intro a140 F140
   refine op_q F140 (.pointer (some ⟨g1, 7, none⟩)) ?_; intro a141 F141
   refine op_q F141 (.pointer (some ⟨g1, 7, none⟩)) ?_; intro a142 F142
   refine op_rq (v := .string m.fTags) F142 (r_ld rfl (F142.e (.pointer (some ⟨g1, 7, none⟩))) (v := .string m.fTags) ((S136.bk 0 rfl).cell 7) Try.underlying9 rfl) ?_; intro a143 F143
   refine op_cq F143 (f := 33) (args := #[.string m.fTags]) (chAscii_any m.fTags _ (by first | omega | (simp; done) | (simp; omega))) ?_
   rintro _ w144 ⟨rfl, hb_144⟩
   refine ⟨_, rfl, ?_⟩
   intro a145 F145
   have S144 := S136.below hb_144
   refine op_q F145 (.pointer (some ⟨g1, 7, none⟩)) ?_; intro a146 F146
   refine op_sq0 F146 (s_st rfl (F146.e (.pointer (some ⟨g1, 7, none⟩))) (F146.e (.string (ascF m.fTags))) S144 (by kernel_rfl) rfl rfl rfl (cs := #[.string (ascF m.fName), .string (ascF m.fHome), .string (ascF m.fVersion), .string (ascF m.fDescription), .string (ascF m.fIcon), .string (ascF m.fAPIVersion), .string (ascF m.fCondition), .string (ascF m.fTags), .string m.fAppVersion, .string m.fKubeVersion, .string m.fType, .slice m.fSources_a m.fSources.length m.fSources_c, .slice m.fKeywords_a m.fKeywords.length m.fKeywords_c, .slice m.fMaintainers_a m.fMaintainers.length m.fMaintainers_c, .slice m.fDependencies_a m.fDependencies.length m.fDependencies_c]) (by kernel_rfl)) ?_
   rintro _ _ w147 rfl S147 F147
   refine wpList_nil ?_
   refine hK29 _ _ ?_; clear hK29 K29
   refine wp_region_lit ?_
   refine op_q F147 (.int .i64 8) ?_; intro a148 F148
   refine op_q F148 (.int .i64 8) ?_; intro a149 F149
   refine wpList_nil ?_
   have S150 : Sp R w147 (SA.blk g1 26 (fitC m 8) :: SA.blk g18 197 (zq16 g1) :: SA.blk g3 26 zq8 :: L) := S147
   exact hK24 _ _ _ (by first | omega | (simp; omega)) ⟨8, rfl, (F149.kk 1 (F149.kk 2 (F149.kk 20 (F149.kk 21 (F149.kk 22 F149.nil))))), S150.p2.p2.p2, (by first | omega | (with_reducible assumption) | (simp; done))⟩
  ·have S151 : Sp R w24 (SA.blk g1 26 #[.string (ascF m.fName), .string (ascF m.fHome), .string (ascF m.fVersion), .string (ascF m.fDescription), .string (ascF m.fIcon), .string (ascF m.fAPIVersion), .string (ascF m.fCondition), .string (ascF m.fTags), .string m.fAppVersion, .string m.fKubeVersion, .string m.fType, .slice m.fSources_a m.fSources.length m.fSources_c, .slice m.fKeywords_a m.fKeywords.length m.fKeywords_c, .slice m.fMaintainers_a m.fMaintainers.length m.fMaintainers_c, .slice m.fDependencies_a m.fDependencies.length m.fDependencies_c] :: SA.blk g18 197 (zq16 g1) :: SA.blk g3 26 zq8 :: L) := S24
   skip
   refine wp_region_lit ?_
   refine op_rq (v := .pointer (some ⟨g18, 8, none⟩)) F27 (r_ix rfl Try.underlying198 1 (by kernel_rfl) (F27.e (.slice (some ⟨g18, 0, none⟩) 11 11)) rfl (F27.e (.int .i64 8)) 8 (by first | rfl | omega | simp) (by first | omega | (simp; done) | (simp; omega)) (by kernel_rfl)) ?_; intro a152 F152
   refine op_rq (v := .pointer (some ⟨g1, 8, none⟩)) F152 (r_ld rfl (F152.e (.pointer (some ⟨g18, 8, none⟩))) (v := .pointer (some ⟨g1, 8, none⟩)) ((S151.bk 1 rfl).cell 8) Try.underlying197 rfl) ?_; intro a153 F153
   refine op_q F153 (.pointer (some ⟨g1, 8, none⟩)) ?_; intro a154 F154
   refine wpList_nil ?_
   refine hK30 _ _ ?_; clear hK30 K30
   refine wp_region_lit ?_
   refine op_q F154 (.pointer (some ⟨g1, 8, none⟩)) ?_; intro a155 F155
   refine op_q F155 (.pointer (some ⟨g1, 8, none⟩)) ?_; intro a156 F156
   refine op_q F156 (.pointer (some ⟨g1, 8, none⟩)) ?_; intro a157 F157
   refine op_rq (v := .string m.fAppVersion) F157 (r_ld rfl (F157.e (.pointer (some ⟨g1, 8, none⟩))) (v := .string m.fAppVersion) ((S151.bk 0 rfl).cell 8) Try.underlying9 rfl) ?_; intro a158 F158
   refine op_cq F158 (f := 33) (args := #[.string m.fAppVersion]) (chAscii_any m.fAppVersion _ (by first | omega | (simp; done) | (simp; omega))) ?_
   rintro _ w159 ⟨rfl, hb_159⟩
   refine ⟨_, rfl, ?_⟩
   intro a160 F160
   have S159 := S151.below hb_159
   refine op_q F160 (.pointer (some ⟨g1, 8, none⟩)) ?_; intro a161 F161
   refine op_sq0 F161 (s_st rfl (F161.e (.pointer (some ⟨g1, 8, none⟩))) (F161.e (.string (ascF m.fAppVersion))) S159 (by kernel_rfl) rfl rfl rfl (cs := #[.string (ascF m.fName), .string (ascF m.fHome), .string (ascF m.fVersion), .string (ascF m.fDescription), .string (ascF m.fIcon), .string (ascF m.fAPIVersion), .string (ascF m.fCondition), .string (ascF m.fTags), .string (ascF m.fAppVersion), .string m.fKubeVersion, .string m.fType, .slice m.fSources_a m.fSources.length m.fSources_c, .slice m.fKeywords_a m.fKeywords.length m.fKeywords_c, .slice m.fMaintainers_a m.fMaintainers.length m.fMaintainers_c, .slice m.fDependencies_a m.fDependencies.length m.fDependencies_c]) (by kernel_rfl)) ?_
   rintro _ _ w162 rfl S162 F162
   refine wpList_nil ?_
   refine hK29 _ _ ?_; clear hK29 K29
   refine wp_region_lit ?_
   refine op_q F162 (.int .i64 9) ?_; intro a163 F163
   refine op_q F163 (.int .i64 9) ?_; intro a164 F164
   refine wpList_nil ?_
   have S165 : Sp R w162 (SA.blk g1 26 (fitC m 9) :: SA.blk g18 197 (zq16 g1) :: SA.blk g3 26 zq8 :: L) := S162
   exact hK24 _ _ _ (by first | omega | (simp; omega)) ⟨9, rfl, (F164.kk 1 (F164.kk 2 (F164.kk 20 (F164.kk 21 (F164.kk 22 F164.nil))))), S165.p2.p2.p2, (by first | omega | (with_reducible assumption) | (simp; done))⟩
  ·have S166 : Sp R w24 (SA.blk g1 26 #[.string (ascF m.fName), .string (ascF m.fHome), .string (ascF m.fVersion), .string (ascF m.fDescription), .string (ascF m.fIcon), .string (ascF m.fAPIVersion), .string (ascF m.fCondition), .string (ascF m.fTags), .string (ascF m.fAppVersion), .string m.fKubeVersion, .string m.fType, .slice m.fSources_a m.fSources.length m.fSources_c, .slice m.fKeywords_a m.fKeywords.length m.fKeywords_c, .slice m.fMaintainers_a m.fMaintainers.length m.fMaintainers_c, .slice m.fDependencies_a m.fDependencies.length m.fDependencies_c] :: SA.blk g18 197 (zq16 g1) :: SA.blk g3 26 zq8 :: L) := S24
   skip
   refine wp_region_lit ?_
   refine op_rq (v := .pointer (some ⟨g18, 9, none⟩)) F27 (r_ix rfl Try.underlying198 1 (by kernel_rfl) (F27.e (.slice (some ⟨g18, 0, none⟩) 11 11)) rfl (F27.e (.int .i64 9)) 9 (by first | rfl | omega | simp) (by first | omega | (simp; done) | (simp; omega)) (by kernel_rfl)) ?_; intro a167 F167
   refine op_rq (v := .pointer (some ⟨g1, 9, none⟩)) F167 (r_ld rfl (F167.e (.pointer (some ⟨g18, 9, none⟩))) (v := .pointer (some ⟨g1, 9, none⟩)) ((S166.bk 1 rfl).cell 9) Try.underlying197 rfl) ?_; intro a168 F168
   refine op_q F168 (.pointer (some ⟨g1, 9, none⟩)) ?_; intro a169 F169
   refine wpList_nil ?_
   refine hK30 _ _ ?_; clear hK30 K30
   refine wp_region_lit ?_
   refine op_q F169 (.pointer (some ⟨g1, 9, none⟩)) ?_; intro a170 F170
   refine op_q F170 (.pointer (some ⟨g1, 9, none⟩)) ?_; intro a171 F171
   refine op_q F171 (.pointer (some ⟨g1, 9, none⟩)) ?_; intro a172 F172
   refine op_rq (v := .string m.fKubeVersion) F172 (r_ld rfl (F172.e (.pointer (some ⟨g1, 9, none⟩))) (v := .string m.fKubeVersion) ((S166.bk 0 rfl).cell 9) Try.underlying9 rfl) ?_; intro a173 F173
   refine op_cq F173 (f := 33) (args := #[.string m.fKubeVersion]) (chAscii_any m.fKubeVersion _ (by first | omega | (simp; done) | (simp; omega))) ?_
   rintro _ w174 ⟨rfl, hb_174⟩
   refine ⟨_, rfl, ?_⟩
   intro a175 F175
   have S174 := S166.below hb_174
   refine op_q F175 (.pointer (some ⟨g1, 9, none⟩)) ?_; intro a176 F176
   refine op_sq0 F176 (s_st rfl (F176.e (.pointer (some ⟨g1, 9, none⟩))) (F176.e (.string (ascF m.fKubeVersion))) S174 (by kernel_rfl) rfl rfl rfl (cs := #[.string (ascF m.fName), .string (ascF m.fHome), .string (ascF m.fVersion), .string (ascF m.fDescription), .string (ascF m.fIcon), .string (ascF m.fAPIVersion), .string (ascF m.fCondition), .string (ascF m.fTags), .string (ascF m.fAppVersion), .string (ascF m.fKubeVersion), .string m.fType, .slice m.fSources_a m.fSources.length m.fSources_c, .slice m.fKeywords_a m.fKeywords.length m.fKeywords_c, .slice m.fMaintainers_a m.fMaintainers.length m.fMaintainers_c, .slice m.fDependencies_a m.fDependencies.length m.fDependencies_c]) (by kernel_rfl)) ?_
   rintro _ _ w177 rfl S177 F177
   refine wpList_nil ?_
   refine hK29 _ _ ?_; clear hK29 K29
   refine wp_region_lit ?_
   refine op_q F177 (.int .i64 10) ?_; intro a178 F178
   refine op_q F178 (.int .i64 10) ?_; intro a179 F179
   refine wpList_nil ?_
   have S180 : Sp R w177 (SA.blk g1 26 (fitC m 10) :: SA.blk g18 197 (zq16 g1) :: SA.blk g3 26 zq8 :: L) := S177
   exact hK24 _ _ _ (by first | omega | (simp; omega)) ⟨10, rfl, (F179.kk 1 (F179.kk 2 (F179.kk 20 (F179.kk 21 (F179.kk 22 F179.nil))))), S180.p2.p2.p2, (by first | omega | (with_reducible assumption) | (simp; done))⟩
  ·have S181 : Sp R w24 (SA.blk g1 26 #[.string (ascF m.fName), .string (ascF m.fHome), .string (ascF m.fVersion), .string (ascF m.fDescription), .string (ascF m.fIcon), .string (ascF m.fAPIVersion), .string (ascF m.fCondition), .string (ascF m.fTags), .string (ascF m.fAppVersion), .string (ascF m.fKubeVersion), .string m.fType, .slice m.fSources_a m.fSources.length m.fSources_c, .slice m.fKeywords_a m.fKeywords.length m.fKeywords_c, .slice m.fMaintainers_a m.fMaintainers.length m.fMaintainers_c, .slice m.fDependencies_a m.fDependencies.length m.fDependencies_c] :: SA.blk g18 197 (zq16 g1) :: SA.blk g3 26 zq8 :: L) := S24
   skip
   refine wp_region_lit ?_
   refine op_rq (v := .pointer (some ⟨g18, 10, none⟩)) F27 (r_ix rfl Try.underlying198 1 (by kernel_rfl) (F27.e (.slice (some ⟨g18, 0, none⟩) 11 11)) rfl (F27.e (.int .i64 10)) 10 (by first | rfl | omega | simp) (by first | omega | (simp; done) | (simp; omega)) (by kernel_rfl)) ?_; intro a182 F182
   refine op_rq (v := .pointer (some ⟨g1, 10, none⟩)) F182 (r_ld rfl (F182.e (.pointer (some ⟨g18, 10, none⟩))) (v := .pointer (some ⟨g1, 10, none⟩)) ((S181.bk 1 rfl).cell 10) Try.underlying197 rfl) ?_; intro a183 F183
   refine op_q F183 (.pointer (some ⟨g1, 10, none⟩)) ?_; intro a184 F184
   refine wpList_nil ?_
   refine hK30 _ _ ?_; clear hK30 K30
   refine wp_region_lit ?_
   refine op_q F184 (.pointer (some ⟨g1, 10, none⟩)) ?_; intro a185 F185
   refine op_q F185 (.pointer (some ⟨g1, 10, none⟩)) ?_; intro a186 F186
   refine op_q F186 (.pointer (some ⟨g1, 10, none⟩)) ?_; intro a187 F187
   refine op_rq (v := .string m.fType) F187 (r_ld rfl (F187.e (.pointer (some ⟨g1, 10, none⟩))) (v := .string m.fType) ((S181.bk 0 rfl).cell 10) Try.underlying9 rfl) ?_; intro a188 F188
   refine op_cq F188 (f := 33) (args := #[.string m.fType]) (chAscii_any m.fType _ (by first | omega | (simp; done) | (simp; omega))) ?_
   rintro _ w189 ⟨rfl, hb_189⟩
   refine ⟨_, rfl, ?_⟩
   intro a190 F190
   have S189 := S181.below hb_189
   refine op_q F190 (.pointer (some ⟨g1, 10, none⟩)) ?_; intro a191 F191
   refine op_sq0 F191 (s_st rfl (F191.e (.pointer (some ⟨g1, 10, none⟩))) (F191.e (.string (ascF m.fType))) S189 (by kernel_rfl) rfl rfl rfl (cs := (zq17 m)) (by kernel_rfl)) ?_
   rintro _ _ w192 rfl S192 F192
   refine wpList_nil ?_
   refine hK29 _ _ ?_; clear hK29 K29
   refine wp_region_lit ?_
   refine op_q F192 (.int .i64 11) ?_; intro a193 F193
   refine op_q F193 (.int .i64 11) ?_; intro a194 F194
   refine wpList_nil ?_
   have S195 : Sp R w192 (SA.blk g1 26 (fitC m 11) :: SA.blk g18 197 (zq16 g1) :: SA.blk g3 26 zq8 :: L) := S192
   exact hK24 _ _ _ (by first | omega | (simp; omega)) ⟨11, rfl, (F194.kk 1 (F194.kk 2 (F194.kk 20 (F194.kk 21 (F194.kk 22 F194.nil))))), S195.p2.p2.p2, (by first | omega | (with_reducible assumption) | (simp; done))⟩
 ·have hc_k : decide ((↑k : Int) < 11) = false := by first | (simp; done) | (simp; omega)
  obtain rfl : k = 11 := by omega
  have S196 : Sp R w24 (SA.blk g1 26 (zq17 m) :: SA.blk g18 197 (zq16 g1) :: SA.blk g3 26 zq8 :: L) := S24
  refine wp_seq_k fun K197 hK197 => ?_
  refine wp_region_lit ?_
  refine op_q F24 (.bool (decide ((↑11 : Int) < 11))) ?_; intro a198 F198
  have F199 := F198.sb 23 (by kernel_rfl) hc_k
  refine wpList_nil ?_
  refine hK197 _ _ ?_; clear hK197 K197
  refine wp_seq_k fun K200 hK200 => ?_
  refine wp_cond_false (F199.ev (by kernel_rfl)) ?_
  refine wp_exit ?_
  refine ex_then ?_; clear hK200 K200
  refine ex_then ?_
  refine ex_in ?_
  refine hK6 _ _ ?_; clear hK6 K6
  refine wp_seq_k fun K201 hK201 => ?_
  refine wp_region_sepF (L0 := SA.blk g1 26 (zq17 m) :: SA.blk g18 197 (zq16 g1) :: SA.blk g3 26 zq8 :: L) [some [], some [(0, 33)], some [(1, 34)], some [], some [(3, 36)], some [(4, 37)], some [], some [(6, 39)], some [(7, 40)], some [], none, none, none, none, none] [.v 33 (.pointer (some ⟨g1, 2, none⟩)), .v 34 (.string (ascF m.fVersion)), .v 35 (.string (verF (ascF m.fVersion))), .v 36 (.pointer (some ⟨g1, 11, none⟩)), .v 37 (.slice m.fSources_a m.fSources.length m.fSources_c), .p 38 (SA.emp) (fun _ vv AA => ∃ B232 : Option Addr, ∃ b232 : Nat, vv = .slice B232 ((someF m.fSources).length) b232 ∧ AA = SA.own (.slice B232 (someF m.fSources).length b232) 9 1 ((someF m.fSources).length) (strs (someF m.fSources))), .v 39 (.pointer (some ⟨g1, 12, none⟩)), .v 40 (.slice m.fKeywords_a m.fKeywords.length m.fKeywords_c), .p 41 (SA.emp) (fun _ vv AA => ∃ B238 : Option Addr, ∃ b238 : Nat, vv = .slice B238 ((someF m.fKeywords).length) b238 ∧ AA = SA.own (.slice B238 (someF m.fKeywords).length b238) 9 1 ((someF m.fKeywords).length) (strs (someF m.fKeywords))), .v 42 (.pointer (some ⟨g1, 2, none⟩)), .n SA.emp (fun _ _ A => A = SA.emp), .n SA.emp (fun _ _ A => A = SA.emp), .n SA.emp (fun _ _ A => A = SA.emp), .n SA.emp (fun _ _ A => A = SA.emp), .n SA.emp (fun _ _ A => A = SA.emp)] [] F199 rfl (by kernel_rfl) S196.emp.emp ?_ ?_
  ·refine ⟨?_, ?_, ?_, ?_, ?_, ?_, ?_, ?_, ?_, ?_, trivial⟩
   ·intro w221 M221
    intro a221 F221 S221
    refine obl_of (by rfl) ?_
    exact s_p F221 (v := .pointer (some ⟨g1, 2, none⟩)) (by kernel_rfl) (by kernel_rfl) (by kernel_rfl) S221
   ·intro w222 M222
    intro a222 F222 S222
    refine obl_of (by rfl) ?_
    exact s_r (v := .string (ascF m.fVersion)) (r_ld rfl (F222.e (.pointer (some ⟨g1, 2, none⟩))) (v := .string (ascF m.fVersion)) (((Sp.dropM S222.drop).bk 0 rfl).cell 2) Try.underlying9 rfl) S222
   ·intro w224 M224
    intro a224 F224 S224
    refine obl_of (by rfl) ?_
    refine s_c F224 (f := 32) (args := #[.string (ascF m.fVersion)]) (by kernel_rfl) (by kernel_rfl) (by kernel_rfl) (chVer_any (ascF m.fVersion) _ (by have := asc_size m.fVersion; omega)) ?_
    rintro _ _ ⟨rfl, hb_226⟩
    exact ⟨_, _, rfl, ⟨rfl, rfl⟩, S224.below hb_226⟩
   ·intro w227 M227
    intro a227 F227 S227
    refine obl_of (by rfl) ?_
    exact s_p F227 (v := .pointer (some ⟨g1, 11, none⟩)) (by kernel_rfl) (by kernel_rfl) (by kernel_rfl) S227
   ·intro w228 M228
    intro a228 F228 S228
    refine obl_of (by rfl) ?_
    exact s_r (v := .slice m.fSources_a m.fSources.length m.fSources_c) (r_ld rfl (F228.e (.pointer (some ⟨g1, 11, none⟩))) (v := .slice m.fSources_a m.fSources.length m.fSources_c) (((Sp.dropM S228.drop).bk 0 rfl).cell 11) Try.underlying22 rfl) S228
   ·intro w230 M230
    intro a230 F230 S230
    refine obl_of (by rfl) ?_
    refine s_c F230 (f := 83) (args := #[.slice m.fSources_a m.fSources.length m.fSources_c]) (by kernel_rfl) (by kernel_rfl) (by kernel_rfl) (chSome_sp m.fSources_a m.fSources_c m.fSources _ _ _ S230.drop (fun w S => k0 w (Sp.dropM S).drop.drop.drop) hzS) ?_
    rintro _ _ ⟨B232, b232, rfl, S232⟩
    exact ⟨_, _, rfl, ⟨B232, b232, rfl, rfl⟩, S232⟩
   ·intro w233 M233
    intro a233 F233 S233
    refine obl_of (by rfl) ?_
    exact s_p F233 (v := .pointer (some ⟨g1, 12, none⟩)) (by kernel_rfl) (by kernel_rfl) (by kernel_rfl) S233
   ·intro w234 M234
    intro a234 F234 S234
    refine obl_of (by rfl) ?_
    exact s_r (v := .slice m.fKeywords_a m.fKeywords.length m.fKeywords_c) (r_ld rfl (F234.e (.pointer (some ⟨g1, 12, none⟩))) (v := .slice m.fKeywords_a m.fKeywords.length m.fKeywords_c) (((Sp.dropM S234.drop).bk 0 rfl).cell 12) Try.underlying22 rfl) S234
   ·intro w236 M236
    intro a236 F236 S236
    refine obl_of (by rfl) ?_
    refine s_c F236 (f := 83) (args := #[.slice m.fKeywords_a m.fKeywords.length m.fKeywords_c]) (by kernel_rfl) (by kernel_rfl) (by kernel_rfl) (chSome_sp m.fKeywords_a m.fKeywords_c m.fKeywords _ _ _ S236.drop (fun w S => k1 w (Sp.dropM S).drop.drop.drop) hzK) ?_
    rintro _ _ ⟨B238, b238, rfl, S238⟩
    exact ⟨_, _, rfl, ⟨B238, b238, rfl, rfl⟩, S238⟩
   ·intro w239 M239
    intro a239 F239 S239
    refine obl_of (by rfl) ?_
    exact s_p F239 (v := .pointer (some ⟨g1, 2, none⟩)) (by kernel_rfl) (by kernel_rfl) (by kernel_rfl) S239
  ·rintro _ _ ⟨B232, b232, rfl, rfl⟩
   rintro _ _ ⟨B238, b238, rfl, rfl⟩
   intro a241 w240 F241 S240
   have S242 : Sp R w240 (SA.own (.slice B238 (someF m.fKeywords).length b238) 9 1 ((someF m.fKeywords).length) (strs (someF m.fKeywords)) :: SA.own (.slice B232 (someF m.fSources).length b232) 9 1 ((someF m.fSources).length) (strs (someF m.fSources)) :: SA.blk g1 26 (zq17 m) :: SA.blk g18 197 (zq16 g1) :: SA.blk g3 26 zq8 :: L) := S240
   refine op_sq0 F241 (s_st rfl (F241.e (.pointer (some ⟨g1, 2, none⟩))) (F241.e (.string (verF (ascF m.fVersion)))) S242.p2 (by kernel_rfl) rfl rfl rfl (cs := #[.string (ascF m.fName), .string (ascF m.fHome), .string (verF (ascF m.fVersion)), .string (ascF m.fDescription), .string (ascF m.fIcon), .string (ascF m.fAPIVersion), .string (ascF m.fCondition), .string (ascF m.fTags), .string (ascF m.fAppVersion), .string (ascF m.fKubeVersion), .string (ascF m.fType), .slice m.fSources_a m.fSources.length m.fSources_c, .slice m.fKeywords_a m.fKeywords.length m.fKeywords_c, .slice m.fMaintainers_a m.fMaintainers.length m.fMaintainers_c, .slice m.fDependencies_a m.fDependencies.length m.fDependencies_c]) (by kernel_rfl)) ?_
   rintro _ _ w243 rfl S243 F243
   refine op_q F243 (.pointer (some ⟨g1, 11, none⟩)) ?_; intro a244 F244
   refine op_sq0 F244 (s_st rfl (F244.e (.pointer (some ⟨g1, 11, none⟩))) (F244.e (.slice B232 ((someF m.fSources).length) b232)) S243 (by kernel_rfl) rfl rfl rfl (cs := #[.string (ascF m.fName), .string (ascF m.fHome), .string (verF (ascF m.fVersion)), .string (ascF m.fDescription), .string (ascF m.fIcon), .string (ascF m.fAPIVersion), .string (ascF m.fCondition), .string (ascF m.fTags), .string (ascF m.fAppVersion), .string (ascF m.fKubeVersion), .string (ascF m.fType), .slice B232 ((someF m.fSources).length) b232, .slice m.fKeywords_a m.fKeywords.length m.fKeywords_c, .slice m.fMaintainers_a m.fMaintainers.length m.fMaintainers_c, .slice m.fDependencies_a m.fDependencies.length m.fDependencies_c]) (by kernel_rfl)) ?_
   rintro _ _ w245 rfl S245 F245
   refine op_q F245 (.pointer (some ⟨g1, 12, none⟩)) ?_; intro a246 F246
   refine op_sq0 F246 (s_st rfl (F246.e (.pointer (some ⟨g1, 12, none⟩))) (F246.e (.slice B238 ((someF m.fKeywords).length) b238)) S245 (by kernel_rfl) rfl rfl rfl (cs := (zq18 m B232 b232 B238 b238)) (by kernel_rfl)) ?_
   rintro _ _ w247 rfl S247 F247
   refine wpList_nil ?_
   refine hK201 _ _ ?_; clear hK201 K201
   refine wp_seq_k fun K248 hK248 => ?_
   refine wp_region_sepF (L0 := SA.blk g1 26 (zq18 m B232 b232 B238 b238) :: SA.own (.slice B238 (someF m.fKeywords).length b238) 9 1 ((someF m.fKeywords).length) (strs (someF m.fKeywords)) :: SA.own (.slice B232 (someF m.fSources).length b232) 9 1 ((someF m.fSources).length) (strs (someF m.fSources)) :: SA.blk g18 197 (zq16 g1) :: SA.blk g3 26 zq8 :: L) [some [], some [(0, 45)], some [], some [(2, 47)], some [(1, 46)], some [(3, 48)]] [.v 45 (.pointer (some ⟨g1, 13, none⟩)), .v 46 (.slice m.fMaintainers_a m.fMaintainers.length m.fMaintainers_c), .v 47 (.pointer (some ⟨g1, 14, none⟩)), .v 48 (.slice m.fDependencies_a m.fDependencies.length m.fDependencies_c), .v 5 (.slice m.fMaintainers_a m.fMaintainers.length m.fMaintainers_c), .v 6 (.slice m.fDependencies_a m.fDependencies.length m.fDependencies_c)] [] F247 rfl (by kernel_rfl) S247 ?_ ?_
   ·refine ⟨?_, ?_, ?_, ?_, ?_, ?_, trivial⟩
    ·intro w259 M259
     intro a259 F259 S259
     refine obl_of (by rfl) ?_
     exact s_p F259 (v := .pointer (some ⟨g1, 13, none⟩)) (by kernel_rfl) (by kernel_rfl) (by kernel_rfl) S259
    ·intro w260 M260
     intro a260 F260 S260
     refine obl_of (by rfl) ?_
     exact s_r (v := .slice m.fMaintainers_a m.fMaintainers.length m.fMaintainers_c) (r_ld rfl (F260.e (.pointer (some ⟨g1, 13, none⟩))) (v := .slice m.fMaintainers_a m.fMaintainers.length m.fMaintainers_c) (((Sp.dropM S260.drop).bk 0 rfl).cell 13) Try.underlying23 rfl) S260
    ·intro w262 M262
     intro a262 F262 S262
     refine obl_of (by rfl) ?_
     exact s_p F262 (v := .pointer (some ⟨g1, 14, none⟩)) (by kernel_rfl) (by kernel_rfl) (by kernel_rfl) S262
    ·intro w263 M263
     intro a263 F263 S263
     refine obl_of (by rfl) ?_
     exact s_r (v := .slice m.fDependencies_a m.fDependencies.length m.fDependencies_c) (r_ld rfl (F263.e (.pointer (some ⟨g1, 14, none⟩))) (v := .slice m.fDependencies_a m.fDependencies.length m.fDependencies_c) (((Sp.dropM S263.drop).bk 0 rfl).cell 14) Try.underlying24 rfl) S263
    ·intro w265 M265
     intro a265 F265 S265
     refine obl_of (by rfl) ?_
     exact s_p F265 (v := .slice m.fMaintainers_a m.fMaintainers.length m.fMaintainers_c) (by kernel_rfl) (by kernel_rfl) (by kernel_rfl) S265
    ·intro w267 M267
     intro a267 F267 S267
     refine obl_of (by rfl) ?_
     exact s_p F267 (v := .slice m.fDependencies_a m.fDependencies.length m.fDependencies_c) (by kernel_rfl) (by kernel_rfl) (by kernel_rfl) S267
   ·intro a270 w269 F270 S269
    have S271 : Sp R w269 (SA.blk g1 26 (zq18 m B232 b232 B238 b238) :: SA.own (.slice B238 (someF m.fKeywords).length b238) 9 1 ((someF m.fKeywords).length) (strs (someF m.fKeywords)) :: SA.own (.slice B232 (someF m.fSources).length b232) 9 1 ((someF m.fSources).length) (strs (someF m.fSources)) :: SA.blk g18 197 (zq16 g1) :: SA.blk g3 26 zq8 :: L) := S269
    refine wpList_nil ?_
    refine hK248 _ _ ?_; clear hK248 K248
    refine wp_seq_k fun K272 hK272 => ?_
    refine wp_region_lit ?_
    refine op_q F270 (.pointer (some ⟨g1, 13, none⟩)) ?_; intro a273 F273
    refine op_sq0 F273 (s_st rfl (F273.e (.pointer (some ⟨g1, 13, none⟩))) (F273.e (.slice none 0 0)) S271 (by kernel_rfl) rfl rfl rfl (cs := #[.string (ascF m.fName), .string (ascF m.fHome), .string (verF (ascF m.fVersion)), .string (ascF m.fDescription), .string (ascF m.fIcon), .string (ascF m.fAPIVersion), .string (ascF m.fCondition), .string (ascF m.fTags), .string (ascF m.fAppVersion), .string (ascF m.fKubeVersion), .string (ascF m.fType), .slice B232 ((someF m.fSources).length) b232, .slice B238 ((someF m.fKeywords).length) b238, .slice none 0 0, .slice m.fDependencies_a m.fDependencies.length m.fDependencies_c]) (by kernel_rfl)) ?_
    rintro _ _ w274 rfl S274 F274
    refine op_q F274 (.pointer (some ⟨g1, 14, none⟩)) ?_; intro a275 F275
    refine op_sq0 F275 (s_st rfl (F275.e (.pointer (some ⟨g1, 14, none⟩))) (F275.e (.slice none 0 0)) S274 (by kernel_rfl) rfl rfl rfl (cs := #[.string (ascF m.fName), .string (ascF m.fHome), .string (verF (ascF m.fVersion)), .string (ascF m.fDescription), .string (ascF m.fIcon), .string (ascF m.fAPIVersion), .string (ascF m.fCondition), .string (ascF m.fTags), .string (ascF m.fAppVersion), .string (ascF m.fKubeVersion), .string (ascF m.fType), .slice B232 ((someF m.fSources).length) b232, .slice B238 ((someF m.fKeywords).length) b238, .slice none 0 0, .slice none 0 0]) (by kernel_rfl)) ?_
    rintro _ _ w276 rfl S276 F276
    refine wpList_nil ?_
    refine hK272 _ _ ?_; clear hK272 K272
    refine fw_cut (fun a' w' => ∃ B3 : Option Addr, ∃ b3 : Nat, ∃ n3 : Nat, Fr 92 [] a' [(1, .pointer (some ⟨g1, 0, none⟩)), (2, .pointer (some ⟨g3, 0, none⟩)), (6, .slice m.fDependencies_a m.fDependencies.length m.fDependencies_c)] ∧ Sp R w' (SA.blk g1 26 #[.string (ascF m.fName), .string (ascF m.fHome), .string (verF (ascF m.fVersion)), .string (ascF m.fDescription), .string (ascF m.fIcon), .string (ascF m.fAPIVersion), .string (ascF m.fCondition), .string (ascF m.fTags), .string (ascF m.fAppVersion), .string (ascF m.fKubeVersion), .string (ascF m.fType), .slice B232 ((someF m.fSources).length) b232, .slice B238 ((someF m.fKeywords).length) b238, .slice B3 n3 b3, .slice none 0 0] :: SA.own (.slice B3 n3 b3) 78 4 n3 (flatC Ty78.cells ((m.fMaintainers.take 6).map perA)) :: SA.own (.slice B238 (someF m.fKeywords).length b238) 9 1 ((someF m.fKeywords).length) (strs (someF m.fKeywords)) :: SA.own (.slice B232 (someF m.fSources).length b232) 9 1 ((someF m.fSources).length) (strs (someF m.fSources)) :: SA.blk g3 26 zq8 :: L) ∧ (n3 = ((m.fMaintainers.take 6).map perA).length)) ?_ ?_
    ·intro K277 hK277
     refine wp_seq_k fun K278 hK278 => ?_
     refine wp_region_lit ?_
     refine op_q F276 (.int .i64 0) ?_; intro a279 F279
     refine wpList_nil ?_
     refine hK278 _ _ ?_; clear hK278 K278
     refine wp_block ?_
     have S280 := Sp.nilown (e := 78) (sz := 4) S276
     refine fw_loop (fun m' a' w' => ∃ B3 : Option Addr, ∃ b3 : Nat, ∃ i : Nat, m.fMaintainers.length - i = m' ∧ Fr 92 [] a' [(1, .pointer (some ⟨g1, 0, none⟩)), (2, .pointer (some ⟨g3, 0, none⟩)), (5, .slice m.fMaintainers_a m.fMaintainers.length m.fMaintainers_c), (6, .slice m.fDependencies_a m.fDependencies.length m.fDependencies_c), (7, .int .i64 (↑i))] ∧ Sp R w' (SA.blk g1 26 #[.string (ascF m.fName), .string (ascF m.fHome), .string (verF (ascF m.fVersion)), .string (ascF m.fDescription), .string (ascF m.fIcon), .string (ascF m.fAPIVersion), .string (ascF m.fCondition), .string (ascF m.fTags), .string (ascF m.fAppVersion), .string (ascF m.fKubeVersion), .string (ascF m.fType), .slice B232 ((someF m.fSources).length) b232, .slice B238 ((someF m.fKeywords).length) b238, .slice B3 i b3, .slice none 0 0] :: SA.own (.slice B3 i b3) 78 4 i (flatC Ty78.cells ((m.fMaintainers.take i).map perA)) :: SA.own (.slice B238 (someF m.fKeywords).length b238) 9 1 ((someF m.fKeywords).length) (strs (someF m.fKeywords)) :: SA.own (.slice B232 (someF m.fSources).length b232) 9 1 ((someF m.fSources).length) (strs (someF m.fSources)) :: SA.blk g3 26 zq8 :: L) ∧ (i ≤ m.fMaintainers.length) ∧ (i ≤ 6)) _ ⟨none, 0, 0, rfl, (F279.kk 1 (F279.kk 2 (F279.kk 5 (F279.kk 6 (F279.kk 7 F279.nil))))), S280.p4.drop.p4.p4.p4.p3.p4, (by first | omega | (with_reducible assumption) | (simp; done)), (by first | omega | (with_reducible assumption) | (simp; done))⟩ ?_
     rintro m281 a281 w281 ⟨B3, b3, i, hm281, F281, S281, hi, hi6⟩ K281 hK281
     refine wp_seq_k fun K282 hK282 => ?_
     refine wp_seq_k fun K283 hK283 => ?_
     refine wp_region_lit ?_
     refine op_q F281 (.int .i64 (↑i)) ?_; intro a284 F284
     refine op_q F284 (.slice m.fMaintainers_a m.fMaintainers.length m.fMaintainers_c) ?_; intro a285 F285
     refine op_q F285 (.int .i64 (↑m.fMaintainers.length)) ?_; intro a286 F286
     refine op_q F286 (.bool (decide ((↑i : Int) < ↑m.fMaintainers.length))) ?_; intro a287 F287
     refine op_q F287 (.bool (decide ((↑i : Int) < ↑m.fMaintainers.length))) ?_; intro a288 F288
     rcases btf (decide ((↑i : Int) < ↑m.fMaintainers.length)) with hc289 | hc289
     ·have hlt_i : i < m.fMaintainers.length := by have := of_decide_eq_true hc289; omega
      obtain ⟨hp1, hp2, hp3⟩ := hzM _ (List.getElem_mem hlt_i)
      obtain ⟨ad290, hA290⟩ := (k2 _ S281.drop.drop.drop.drop.drop).addr (by simp; omega)
      have F291 := F288.sb 54 (by kernel_rfl) hc289
      have F292 := F291.sb 55 (by kernel_rfl) hc289
      refine op_wq F292 ?_
      refine op_q F292 (.int .i64 (↑i)) ?_; intro a293 F293
      refine op_wq F293 ?_
      refine op_q F293 (.bool (decide ((↑i : Int) < 6))) ?_; intro a294 F294
      refine op_q F294 (.bool (decide ((↑i : Int) < 6))) ?_; intro a295 F295
      refine wpList_nil ?_
      refine hK283 _ _ ?_; clear hK283 K283
      rcases btf (decide ((↑i : Int) < 6)) with hc296 | hc296
      ·have h6i : i < 6 := by have := of_decide_eq_true hc296; omega
       have F297 := F295.sb 57 (by kernel_rfl) hc296
       have F298 := F297.sb 58 (by kernel_rfl) hc296
       refine wp_cond_true (F298.ev (by kernel_rfl)) ?_
       refine wp_skip ?_
       refine hK282 _ _ ?_; clear hK282 K282
       refine wp_seq_k fun K299 hK299 => ?_
       refine wp_block ?_
       refine wp_region_sepF (L0 := SA.blk g1 26 #[.string (ascF m.fName), .string (ascF m.fHome), .string (verF (ascF m.fVersion)), .string (ascF m.fDescription), .string (ascF m.fIcon), .string (ascF m.fAPIVersion), .string (ascF m.fCondition), .string (ascF m.fTags), .string (ascF m.fAppVersion), .string (ascF m.fKubeVersion), .string (ascF m.fType), .slice B232 ((someF m.fSources).length) b232, .slice B238 ((someF m.fKeywords).length) b238, .slice B3 i b3, .slice none 0 0] :: SA.own (.slice B238 (someF m.fKeywords).length b238) 9 1 ((someF m.fKeywords).length) (strs (someF m.fKeywords)) :: SA.own (.slice B232 (someF m.fSources).length b232) 9 1 ((someF m.fSources).length) (strs (someF m.fSources)) :: SA.blk g3 26 zq8 :: L) [some [], some [(0, 61)], some [], some [], some [(2, 63), (3, 64)], some [(4, 65)], some [(5, 66)], some [(6, 67)], some [(1, 62), (6, 67), (7, 68)], some [], none] [.v 61 (.pointer (some ⟨g1, 13, none⟩)), .v 62 (.slice B3 i b3), .v 63 (.slice m.fMaintainers_a m.fMaintainers.length m.fMaintainers_c), .v 64 (.int .i64 (↑i)), .v 65 (.pointer (some (ad290.add (i * 4)))), .v 66 (.agg (zq4 m.fMaintainers[i])), .v 67 (.agg #[.bool ((perA m.fMaintainers[i]).fNil), .string ((perA m.fMaintainers[i]).fName), .string ((perA m.fMaintainers[i]).fEmail), .string ((perA m.fMaintainers[i]).fURL)]), .p 68 (SA.emp) (fun _ vv AA => ∃ g335 : Nat, vv = .slice (some ⟨g335, 0, none⟩) 1 1 ∧ AA = SA.blk g335 78 #[.bool ((perA m.fMaintainers[i]).fNil), .string ((perA m.fMaintainers[i]).fName), .string ((perA m.fMaintainers[i]).fEmail), .string ((perA m.fMaintainers[i]).fURL)]), .p 69 (SA.own (.slice B3 i b3) 78 4 i (flatC Ty78.cells ((m.fMaintainers.take i).map perA))) (fun _ vv AA => ∃ A340 : Option Addr, ∃ c340 : Nat, vv = .slice A340 (i + 1) c340 ∧ AA = SA.own (.slice A340 (i + 1) c340) 78 4 (i + 1) (flatC Ty78.cells ((m.fMaintainers.take (i + 1)).map perA))), .v 70 (.pointer (some ⟨g1, 13, none⟩)), .n SA.emp (fun _ _ A => A = SA.emp)] [] F298 rfl (by kernel_rfl) S281.p1.emp ?_ ?_
       ·refine ⟨?_, ?_, ?_, ?_, ?_, ?_, ?_, ?_, ?_, ?_, trivial⟩
        ·intro w321 M321
         intro a321 F321 S321
         refine obl_of (by rfl) ?_
         exact s_p F321 (v := .pointer (some ⟨g1, 13, none⟩)) (by kernel_rfl) (by kernel_rfl) (by kernel_rfl) S321
        ·intro w322 M322
         intro a322 F322 S322
         refine obl_of (by rfl) ?_
         exact s_r (v := .slice B3 i b3) (r_ld rfl (F322.e (.pointer (some ⟨g1, 13, none⟩))) (v := .slice B3 i b3) (((Sp.dropM S322.drop).bk 0 rfl).cell 13) Try.underlying23 rfl) S322
        ·intro w324 M324
         intro a324 F324 S324
         refine obl_of (by rfl) ?_
         exact s_p F324 (v := .slice m.fMaintainers_a m.fMaintainers.length m.fMaintainers_c) (by kernel_rfl) (by kernel_rfl) (by kernel_rfl) S324
        ·intro w325 M325
         intro a325 F325 S325
         refine obl_of (by rfl) ?_
         exact s_p F325 (v := .int .i64 (↑i)) (by kernel_rfl) (by kernel_rfl) (by kernel_rfl) S325
        ·intro w326 M326
         intro a326 F326 S326
         refine obl_of (by rfl) ?_
         exact s_r (v := .pointer (some (ad290.add (i * 4)))) (r_ix rfl Try.underlying23 4 (by kernel_rfl) (F326.e (.slice m.fMaintainers_a m.fMaintainers.length m.fMaintainers_c)) hA290 (F326.e (.int .i64 (↑i))) i (by first | rfl | omega | simp) (by first | omega | (simp; done) | (simp; omega)) (rfl)) S326
        ·intro w329 M329
         intro a329 F329 S329
         refine obl_of (by rfl) ?_
         exact s_r (v := .agg (zq4 m.fMaintainers[i])) (r_ldR rfl (F329.e (.pointer (some (ad290.add (i * 4))))) (cs := [.bool m.fMaintainers[i].fNil, .string m.fMaintainers[i].fName, .string m.fMaintainers[i].fEmail, .string m.fMaintainers[i].fURL]) ((k2 _ (Sp.dropM S329.drop).drop.drop.drop.drop).elA hA290 (j := i) (row := m.fMaintainers[i].cells) (by rw [List.getElem?_map, List.getElem?_eq_getElem hlt_i]; rfl)) Try.underlying78 rfl (by kernel_rfl) (v := (zq4 m.fMaintainers[i])) (by kernel_rfl)) S329
        ·intro w331 M331
         intro a331 F331 S331
         refine obl_of (by rfl) ?_
         refine s_c F331 (f := 113) (args := #[.agg (zq4 m.fMaintainers[i])]) (by kernel_rfl) (by kernel_rfl) (by kernel_rfl) (chPerson_sp m.fMaintainers[i] _ _ _ S331.drop (by first | omega | (simp; done) | (simp; omega)) (by first | omega | (simp; done) | (simp; omega)) (by first | omega | (simp; done) | (simp; omega))) ?_
         rintro _ _ ⟨rfl, S333⟩
         exact ⟨_, _, rfl, ⟨rfl, rfl⟩, S333.emp⟩
        ·intro w334 M334
         intro a334 F334 S334
         refine obl_of (by rfl) ?_
         exact s_news F334 78 #[.bool ((perA m.fMaintainers[i]).fNil), .string ((perA m.fMaintainers[i]).fName), .string ((perA m.fMaintainers[i]).fEmail), .string ((perA m.fMaintainers[i]).fURL)] 1 (by kernel_rfl) (by kernel_rfl) (by kernel_rfl) S334.drop
        ·intro w336 M336
         rintro _ _ ⟨g335, rfl, rfl⟩ hA339
         intro a336 F336 S336
         refine obl_of (by rfl) ?_
         exact s_app rfl Try.underlying23 4 _ tin78 rfl rfl (F336.e (.slice B3 i b3)) S336 ([Value.bool ((perA m.fMaintainers[i]).fNil), .string ((perA m.fMaintainers[i]).fName), .string ((perA m.fMaintainers[i]).fEmail), .string ((perA m.fMaintainers[i]).fURL)]) (F336.e (.slice (some ⟨g335, 0, none⟩) 1 1)) ((Sp.bkm S336.drop hA339).sl (by simp)) rfl (by simp [Value.oneCell']) (by omega) (by omega) (n' := i + 1) (by omega) (cs' := flatC Ty78.cells ((m.fMaintainers.take (i + 1)).map perA)) (by rw [List.take_succ_eq_append_getElem hlt_i, List.map_append, List.map_cons, List.map_nil, flatC_snoc]; rfl)
        ·intro w341 M341
         intro a341 F341 S341
         refine obl_of (by rfl) ?_
         exact s_p F341 (v := .pointer (some ⟨g1, 13, none⟩)) (by kernel_rfl) (by kernel_rfl) (by kernel_rfl) S341
       ·rintro _ _ ⟨g335, rfl, rfl⟩
        rintro _ _ ⟨A340, c340, rfl, rfl⟩
        intro a343 w342 F343 S342
        have S344 : Sp R w342 (SA.own (.slice A340 (i + 1) c340) 78 4 (i + 1) (flatC Ty78.cells ((m.fMaintainers.take (i + 1)).map perA)) :: SA.blk g335 78 #[.bool ((perA m.fMaintainers[i]).fNil), .string ((perA m.fMaintainers[i]).fName), .string ((perA m.fMaintainers[i]).fEmail), .string ((perA m.fMaintainers[i]).fURL)] :: SA.blk g1 26 #[.string (ascF m.fName), .string (ascF m.fHome), .string (verF (ascF m.fVersion)), .string (ascF m.fDescription), .string (ascF m.fIcon), .string (ascF m.fAPIVersion), .string (ascF m.fCondition), .string (ascF m.fTags), .string (ascF m.fAppVersion), .string (ascF m.fKubeVersion), .string (ascF m.fType), .slice B232 ((someF m.fSources).length) b232, .slice B238 ((someF m.fKeywords).length) b238, .slice B3 i b3, .slice none 0 0] :: SA.own (.slice B238 (someF m.fKeywords).length b238) 9 1 ((someF m.fKeywords).length) (strs (someF m.fKeywords)) :: SA.own (.slice B232 (someF m.fSources).length b232) 9 1 ((someF m.fSources).length) (strs (someF m.fSources)) :: SA.blk g3 26 zq8 :: L) := S342
        refine op_sq0 F343 (s_st rfl (F343.e (.pointer (some ⟨g1, 13, none⟩))) (F343.e (.slice A340 (i + 1) c340)) S344.p2 (by kernel_rfl) rfl rfl rfl (cs := #[.string (ascF m.fName), .string (ascF m.fHome), .string (verF (ascF m.fVersion)), .string (ascF m.fDescription), .string (ascF m.fIcon), .string (ascF m.fAPIVersion), .string (ascF m.fCondition), .string (ascF m.fTags), .string (ascF m.fAppVersion), .string (ascF m.fKubeVersion), .string (ascF m.fType), .slice B232 ((someF m.fSources).length) b232, .slice B238 ((someF m.fKeywords).length) b238, .slice A340 (i + 1) c340, .slice none 0 0]) (by kernel_rfl)) ?_
        rintro _ _ w345 rfl S345 F345
        refine wpList_nil ?_
        refine hK299 _ _ ?_; clear hK299 K299
        refine wp_region_lit ?_
        refine op_q F345 (.int .i64 (↑i)) ?_; intro a346 F346
        refine op_rq (v := .int .i64 (↑(i + 1))) F346 (r_add (z := ↑(i + 1)) rfl (F346.e (.int .i64 (↑i))) (F346.e (.int .i64 1)) (wr64 (by omega) (by omega) (by omega))) ?_; intro a347 F347
        refine op_q F347 (.int .i64 (↑(i + 1))) ?_; intro a348 F348
        refine wpList_nil ?_
        exact hK281 _ _ _ (by first | omega | (simp; omega)) ⟨A340, c340, i + 1, rfl, (F348.kk 1 (F348.kk 2 (F348.kk 5 (F348.kk 6 (F348.kk 7 F348.nil))))), S345.p2.drop.p4.p4.p4.p4.p4, (by first | omega | (with_reducible assumption) | (simp; done)), (by first | omega | (with_reducible assumption) | (simp; done))⟩
      ·have hsix : m.fMaintainers.length ≤ i ∨ 6 ≤ i := .inr (by have := of_decide_eq_false hc296; omega)
       have F349 := F295.sb 57 (by kernel_rfl) hc296
       have F350 := F349.sb 58 (by kernel_rfl) hc296
       refine wp_cond_false (F350.ev (by kernel_rfl)) ?_
       refine wp_exit ?_
       refine ex_then ?_; clear hK282 K282
       refine ex_then ?_
       refine ex_in ?_
       rw [take_sixG hi hi6 hsix] at S281
       exact hK277 _ _ ⟨B3, b3, i, (F350.kk 1 (F350.kk 2 (F350.kk 6 F350.nil))), S281.p4.p4.p4.p4.p4, (take_len hi hi6 hsix)⟩
     ·have hsix : m.fMaintainers.length ≤ i ∨ 6 ≤ i := .inl (by have := of_decide_eq_false hc289; omega)
      have F351 := F288.sb 54 (by kernel_rfl) hc289
      have F352 := F351.sb 55 (by kernel_rfl) hc289
      refine op_kq F352 ?_; intro a353 F353
      refine op_kq F353 ?_; intro a354 F354
      refine op_q F354 (.bool false) ?_; intro a355 F355
      refine wpList_nil ?_
      refine hK283 _ _ ?_; clear hK283 K283
      refine wp_cond_false (F355.ev (by kernel_rfl)) ?_
      refine wp_exit ?_
      refine ex_then ?_; clear hK282 K282
      refine ex_then ?_
      refine ex_in ?_
      rw [take_sixG hi hi6 hsix] at S281
      exact hK277 _ _ ⟨B3, b3, i, (F355.kk 1 (F355.kk 2 (F355.kk 6 F355.nil))), S281.p4.p4.p4.p4.p4, (take_len hi hi6 hsix)⟩
    ·rintro a356 w356 ⟨B3, b3, n3, F356, S356, hn3⟩
     refine wp_seq_k fun K357 hK357 => ?_
     refine wp_seq_k fun K358 hK358 => ?_
     refine wp_region_lit ?_
     refine op_q F356 (.int .i64 0) ?_; intro a359 F359
     refine wpList_nil ?_
     refine hK358 _ _ ?_; clear hK358 K358
     refine wp_block ?_
     have S360 : Sp R w356 (SA.stars ([].map SA.tg) :: SA.blk g1 26 #[.string (ascF m.fName), .string (ascF m.fHome), .string (verF (ascF m.fVersion)), .string (ascF m.fDescription), .string (ascF m.fIcon), .string (ascF m.fAPIVersion), .string (ascF m.fCondition), .string (ascF m.fTags), .string (ascF m.fAppVersion), .string (ascF m.fKubeVersion), .string (ascF m.fType), .slice B232 ((someF m.fSources).length) b232, .slice B238 ((someF m.fKeywords).length) b238, .slice B3 n3 b3, .slice none 0 0] :: SA.own (.slice B3 n3 b3) 78 4 n3 (flatC Ty78.cells ((m.fMaintainers.take 6).map perA)) :: SA.own (.slice B238 (someF m.fKeywords).length b238) 9 1 ((someF m.fKeywords).length) (strs (someF m.fKeywords)) :: SA.own (.slice B232 (someF m.fSources).length b232) 9 1 ((someF m.fSources).length) (strs (someF m.fSources)) :: SA.blk g3 26 zq8 :: L) := (Sp.stars (l := [])).2 S356
     have S361 := Sp.nilown (e := 80) (sz := 7) S360
     refine fw_loop (fun m' a' w' => ∃ B4 : Option Addr, ∃ b4 : Nat, ∃ ds : List Ty80, ∃ j : Nat, m.fDependencies.length - j = m' ∧ Fr 92 [] a' [(1, .pointer (some ⟨g1, 0, none⟩)), (2, .pointer (some ⟨g3, 0, none⟩)), (6, .slice m.fDependencies_a m.fDependencies.length m.fDependencies_c), (8, .int .i64 (↑j))] ∧ Sp R w' (SA.blk g1 26 #[.string (ascF m.fName), .string (ascF m.fHome), .string (verF (ascF m.fVersion)), .string (ascF m.fDescription), .string (ascF m.fIcon), .string (ascF m.fAPIVersion), .string (ascF m.fCondition), .string (ascF m.fTags), .string (ascF m.fAppVersion), .string (ascF m.fKubeVersion), .string (ascF m.fType), .slice B232 ((someF m.fSources).length) b232, .slice B238 ((someF m.fKeywords).length) b238, .slice B3 n3 b3, .slice B4 j b4] :: SA.own (.slice B4 j b4) 80 7 j (flatC Ty80.cells ds) :: SA.stars (ds.map SA.tg) :: SA.own (.slice B3 n3 b3) 78 4 n3 (flatC Ty78.cells ((m.fMaintainers.take 6).map perA)) :: SA.own (.slice B238 (someF m.fKeywords).length b238) 9 1 ((someF m.fKeywords).length) (strs (someF m.fKeywords)) :: SA.own (.slice B232 (someF m.fSources).length b232) 9 1 ((someF m.fSources).length) (strs (someF m.fSources)) :: SA.blk g3 26 zq8 :: L) ∧ (j ≤ m.fDependencies.length) ∧ (j ≤ 6) ∧ (ds.length = j) ∧ (ds.map depS = (m.fDependencies.take j).map (fun d => depA d none 0))) _ ⟨none, 0, [], 0, rfl, (F359.kk 1 (F359.kk 2 (F359.kk 6 (F359.kk 8 F359.nil)))), S361.p6.p6.p6.p6.p5.p5.p6, (by first | omega | (with_reducible assumption) | (simp; done)), (by first | omega | (with_reducible assumption) | (simp; done)), rfl, rfl⟩ ?_
     rintro m362 a362 w362 ⟨B4, b4, ds, j, hm362, F362, S362, hj, hj6, hdl, hds⟩ K362 hK362
     refine wp_seq_k fun K363 hK363 => ?_
     refine wp_seq_k fun K364 hK364 => ?_
     refine wp_region_lit ?_
     refine op_q F362 (.int .i64 (↑j)) ?_; intro a365 F365
     refine op_q F365 (.slice m.fDependencies_a m.fDependencies.length m.fDependencies_c) ?_; intro a366 F366
     refine op_q F366 (.int .i64 (↑m.fDependencies.length)) ?_; intro a367 F367
     refine op_q F367 (.bool (decide ((↑j : Int) < ↑m.fDependencies.length))) ?_; intro a368 F368
     refine op_q F368 (.bool (decide ((↑j : Int) < ↑m.fDependencies.length))) ?_; intro a369 F369
     rcases btf (decide ((↑j : Int) < ↑m.fDependencies.length)) with hc370 | hc370
     ·have hlt_j : j < m.fDependencies.length := by have := of_decide_eq_true hc370; omega
      obtain ⟨⟨hq1, hq2, hq3, hq4, hq5⟩, hx⟩ := hzD _ (List.getElem_mem hlt_j)
      have htg : Rf R L fun w => Sl w m.fDependencies[j].fTags_a (strs m.fDependencies[j].fTags) := fun w S => (h0 w S).2.2.2.2 _ (List.getElem_mem hlt_j)
      obtain ⟨ad371, hA371⟩ := (k3 _ S362.drop.drop.drop.drop.drop.drop.drop).addr (by simp; omega)
      have F372 := F369.sb 74 (by kernel_rfl) hc370
      have F373 := F372.sb 75 (by kernel_rfl) hc370
      refine op_wq F373 ?_
      refine op_q F373 (.int .i64 (↑j)) ?_; intro a374 F374
      refine op_wq F374 ?_
      refine op_q F374 (.bool (decide ((↑j : Int) < 6))) ?_; intro a375 F375
      refine op_q F375 (.bool (decide ((↑j : Int) < 6))) ?_; intro a376 F376
      refine wpList_nil ?_
      refine hK364 _ _ ?_; clear hK364 K364
      rcases btf (decide ((↑j : Int) < 6)) with hc377 | hc377
      ·have h6j : j < 6 := by have := of_decide_eq_true hc377; omega
       have F378 := F376.sb 77 (by kernel_rfl) hc377
       have F379 := F378.sb 78 (by kernel_rfl) hc377
       refine wp_cond_true (F379.ev (by kernel_rfl)) ?_
       refine wp_skip ?_
       refine hK363 _ _ ?_; clear hK363 K363
       refine wp_seq_k fun K380 hK380 => ?_
       refine wp_block ?_
       rcases btf (m.fDependencies[j].fNil) with hdn | hdn
       ·skip
        refine wp_region_sepF (L0 := SA.blk g1 26 #[.string (ascF m.fName), .string (ascF m.fHome), .string (verF (ascF m.fVersion)), .string (ascF m.fDescription), .string (ascF m.fIcon), .string (ascF m.fAPIVersion), .string (ascF m.fCondition), .string (ascF m.fTags), .string (ascF m.fAppVersion), .string (ascF m.fKubeVersion), .string (ascF m.fType), .slice B232 ((someF m.fSources).length) b232, .slice B238 ((someF m.fKeywords).length) b238, .slice B3 n3 b3, .slice B4 j b4] :: SA.stars (ds.map SA.tg) :: SA.own (.slice B3 n3 b3) 78 4 n3 (flatC Ty78.cells ((m.fMaintainers.take 6).map perA)) :: SA.own (.slice B238 (someF m.fKeywords).length b238) 9 1 ((someF m.fKeywords).length) (strs (someF m.fKeywords)) :: SA.own (.slice B232 (someF m.fSources).length b232) 9 1 ((someF m.fSources).length) (strs (someF m.fSources)) :: SA.blk g3 26 zq8 :: L) [some [], some [(0, 81)], some [], some [], some [(2, 83), (3, 84)], some [(4, 85)], some [(5, 86)], some [(6, 87)], some [(1, 82), (6, 87), (7, 88)], some [], none] [.v 81 (.pointer (some ⟨g1, 14, none⟩)), .v 82 (.slice B4 j b4), .v 83 (.slice m.fDependencies_a m.fDependencies.length m.fDependencies_c), .v 84 (.int .i64 (↑j)), .v 85 (.pointer (some (ad371.add (j * 7)))), .v 86 (.agg (zq5 m.fDependencies[j])), .v 87 (.agg zq10), .p 88 (SA.emp) (fun _ vv AA => ∃ g416 : Nat, vv = .slice (some ⟨g416, 0, none⟩) 1 1 ∧ AA = SA.blk g416 80 zq10), .p 89 (SA.own (.slice B4 j b4) 80 7 j (flatC Ty80.cells ds)) (fun _ vv AA => ∃ A421 : Option Addr, ∃ c421 : Nat, vv = .slice A421 (j + 1) c421 ∧ AA = SA.own (.slice A421 (j + 1) c421) 80 7 (j + 1) (flatC Ty80.cells (ds ++ [depA m.fDependencies[j] none 0]))), .v 90 (.pointer (some ⟨g1, 14, none⟩)), .n SA.emp (fun _ _ A => A = SA.emp)] [] F379 rfl (by kernel_rfl) S362.p1.emp ?_ ?_
        ·refine ⟨?_, ?_, ?_, ?_, ?_, ?_, ?_, ?_, ?_, ?_, trivial⟩
         ·intro w402 M402
          intro a402 F402 S402
          refine obl_of (by rfl) ?_
          exact s_p F402 (v := .pointer (some ⟨g1, 14, none⟩)) (by kernel_rfl) (by kernel_rfl) (by kernel_rfl) S402
         ·intro w403 M403
          intro a403 F403 S403
          refine obl_of (by rfl) ?_
          exact s_r (v := .slice B4 j b4) (r_ld rfl (F403.e (.pointer (some ⟨g1, 14, none⟩))) (v := .slice B4 j b4) (((Sp.dropM S403.drop).bk 0 rfl).cell 14) Try.underlying24 rfl) S403
         ·intro w405 M405
          intro a405 F405 S405
          refine obl_of (by rfl) ?_
          exact s_p F405 (v := .slice m.fDependencies_a m.fDependencies.length m.fDependencies_c) (by kernel_rfl) (by kernel_rfl) (by kernel_rfl) S405
         ·intro w406 M406
          intro a406 F406 S406
          refine obl_of (by rfl) ?_
          exact s_p F406 (v := .int .i64 (↑j)) (by kernel_rfl) (by kernel_rfl) (by kernel_rfl) S406
         ·intro w407 M407
          intro a407 F407 S407
          refine obl_of (by rfl) ?_
          exact s_r (v := .pointer (some (ad371.add (j * 7)))) (r_ix rfl Try.underlying24 7 (by kernel_rfl) (F407.e (.slice m.fDependencies_a m.fDependencies.length m.fDependencies_c)) hA371 (F407.e (.int .i64 (↑j))) j (by first | rfl | omega | simp) (by first | omega | (simp; done) | (simp; omega)) (rfl)) S407
         ·intro w410 M410
          intro a410 F410 S410
          refine obl_of (by rfl) ?_
          exact s_r (v := .agg (zq5 m.fDependencies[j])) (r_ldR rfl (F410.e (.pointer (some (ad371.add (j * 7))))) (cs := [.bool m.fDependencies[j].fNil, .string m.fDependencies[j].fName, .string m.fDependencies[j].fVersion, .string m.fDependencies[j].fRepository, .string m.fDependencies[j].fCondition, .slice m.fDependencies[j].fTags_a m.fDependencies[j].fTags.length m.fDependencies[j].fTags_c, .string m.fDependencies[j].fAlias]) ((k3 _ (Sp.dropM S410.drop).drop.drop.drop.drop.drop.drop).elA hA371 (j := j) (row := m.fDependencies[j].cells) (by rw [List.getElem?_map, List.getElem?_eq_getElem hlt_j]; rfl)) Try.underlying80 rfl (by kernel_rfl) (v := (zq5 m.fDependencies[j])) (by kernel_rfl)) S410
         ·intro w412 M412
          intro a412 F412 S412
          refine obl_of (by rfl) ?_
          refine s_c F412 (f := 114) (args := #[.agg (zq5 m.fDependencies[j])]) (by kernel_rfl) (by kernel_rfl) (by kernel_rfl) (chDependency_nil m.fDependencies[j] _ _ _ S412.drop (by with_reducible assumption)) ?_
          rintro _ _ ⟨rfl, S414⟩
          exact ⟨_, _, rfl, ⟨rfl, rfl⟩, S414.emp⟩
         ·intro w415 M415
          intro a415 F415 S415
          refine obl_of (by rfl) ?_
          exact s_news F415 80 zq10 1 (by kernel_rfl) (by kernel_rfl) (by kernel_rfl) S415.drop
         ·intro w417 M417
          rintro _ _ ⟨g416, rfl, rfl⟩ hA420
          intro a417 F417 S417
          refine obl_of (by rfl) ?_
          exact s_app rfl Try.underlying24 7 _ tin80 rfl rfl (F417.e (.slice B4 j b4)) S417 ([Value.bool true, .string ⟨#[]⟩, .string ⟨#[]⟩, .string ⟨#[]⟩, .string ⟨#[]⟩, .slice none 0 0, .string ⟨#[]⟩]) (F417.e (.slice (some ⟨g416, 0, none⟩) 1 1)) ((Sp.bkm S417.drop hA420).sl (by simp)) rfl (by simp [Value.oneCell']) (by omega) (by omega) (n' := j + 1) (by omega) (cs' := flatC Ty80.cells (ds ++ [depA m.fDependencies[j] none 0])) (by rw [flatC_snoc, depA_nil hdn]; rfl)
         ·intro w422 M422
          intro a422 F422 S422
          refine obl_of (by rfl) ?_
          exact s_p F422 (v := .pointer (some ⟨g1, 14, none⟩)) (by kernel_rfl) (by kernel_rfl) (by kernel_rfl) S422
        ·rintro _ _ ⟨g416, rfl, rfl⟩
         rintro _ _ ⟨A421, c421, rfl, rfl⟩
         intro a424 w423 F424 S423
         have S425 : Sp R w423 (SA.own (.slice A421 (j + 1) c421) 80 7 (j + 1) (flatC Ty80.cells (ds ++ [depA m.fDependencies[j] none 0])) :: SA.blk g416 80 zq10 :: SA.blk g1 26 #[.string (ascF m.fName), .string (ascF m.fHome), .string (verF (ascF m.fVersion)), .string (ascF m.fDescription), .string (ascF m.fIcon), .string (ascF m.fAPIVersion), .string (ascF m.fCondition), .string (ascF m.fTags), .string (ascF m.fAppVersion), .string (ascF m.fKubeVersion), .string (ascF m.fType), .slice B232 ((someF m.fSources).length) b232, .slice B238 ((someF m.fKeywords).length) b238, .slice B3 n3 b3, .slice B4 j b4] :: SA.stars (ds.map SA.tg) :: SA.own (.slice B3 n3 b3) 78 4 n3 (flatC Ty78.cells ((m.fMaintainers.take 6).map perA)) :: SA.own (.slice B238 (someF m.fKeywords).length b238) 9 1 ((someF m.fKeywords).length) (strs (someF m.fKeywords)) :: SA.own (.slice B232 (someF m.fSources).length b232) 9 1 ((someF m.fSources).length) (strs (someF m.fSources)) :: SA.blk g3 26 zq8 :: L) := S423
         refine op_sq0 F424 (s_st rfl (F424.e (.pointer (some ⟨g1, 14, none⟩))) (F424.e (.slice A421 (j + 1) c421)) S425.p2 (by kernel_rfl) rfl rfl rfl (cs := #[.string (ascF m.fName), .string (ascF m.fHome), .string (verF (ascF m.fVersion)), .string (ascF m.fDescription), .string (ascF m.fIcon), .string (ascF m.fAPIVersion), .string (ascF m.fCondition), .string (ascF m.fTags), .string (ascF m.fAppVersion), .string (ascF m.fKubeVersion), .string (ascF m.fType), .slice B232 ((someF m.fSources).length) b232, .slice B238 ((someF m.fKeywords).length) b238, .slice B3 n3 b3, .slice A421 (j + 1) c421]) (by kernel_rfl)) ?_
         rintro _ _ w426 rfl S426 F426
         refine wpList_nil ?_
         refine hK380 _ _ ?_; clear hK380 K380
         refine wp_region_lit ?_
         refine op_q F426 (.int .i64 (↑j)) ?_; intro a427 F427
         refine op_rq (v := .int .i64 (↑(j + 1))) F427 (r_add (z := ↑(j + 1)) rfl (F427.e (.int .i64 (↑j))) (F427.e (.int .i64 1)) (wr64 (by omega) (by omega) (by omega))) ?_; intro a428 F428
         refine op_q F428 (.int .i64 (↑(j + 1))) ?_; intro a429 F429
         refine wpList_nil ?_
         have S430 : Sp R w426 (SA.tg (depA m.fDependencies[j] none 0) :: SA.blk g1 26 #[.string (ascF m.fName), .string (ascF m.fHome), .string (verF (ascF m.fVersion)), .string (ascF m.fDescription), .string (ascF m.fIcon), .string (ascF m.fAPIVersion), .string (ascF m.fCondition), .string (ascF m.fTags), .string (ascF m.fAppVersion), .string (ascF m.fKubeVersion), .string (ascF m.fType), .slice B232 ((someF m.fSources).length) b232, .slice B238 ((someF m.fKeywords).length) b238, .slice B3 n3 b3, .slice A421 (j + 1) c421] :: SA.own (.slice A421 (j + 1) c421) 80 7 (j + 1) (flatC Ty80.cells (ds ++ [depA m.fDependencies[j] none 0])) :: SA.blk g416 80 zq10 :: SA.stars (ds.map SA.tg) :: SA.own (.slice B3 n3 b3) 78 4 n3 (flatC Ty78.cells ((m.fMaintainers.take 6).map perA)) :: SA.own (.slice B238 (someF m.fKeywords).length b238) 9 1 ((someF m.fKeywords).length) (strs (someF m.fKeywords)) :: SA.own (.slice B232 (someF m.fSources).length b232) 9 1 ((someF m.fSources).length) (strs (someF m.fSources)) :: SA.blk g3 26 zq8 :: L) := tga_nil hdn S426
         have S431 : Sp R w426 (SA.stars ((ds ++ [depA m.fDependencies[j] none 0]).map SA.tg) :: SA.blk g1 26 #[.string (ascF m.fName), .string (ascF m.fHome), .string (verF (ascF m.fVersion)), .string (ascF m.fDescription), .string (ascF m.fIcon), .string (ascF m.fAPIVersion), .string (ascF m.fCondition), .string (ascF m.fTags), .string (ascF m.fAppVersion), .string (ascF m.fKubeVersion), .string (ascF m.fType), .slice B232 ((someF m.fSources).length) b232, .slice B238 ((someF m.fKeywords).length) b238, .slice B3 n3 b3, .slice A421 (j + 1) c421] :: SA.own (.slice A421 (j + 1) c421) 80 7 (j + 1) (flatC Ty80.cells (ds ++ [depA m.fDependencies[j] none 0])) :: SA.blk g416 80 zq10 :: SA.own (.slice B3 n3 b3) 78 4 n3 (flatC Ty78.cells ((m.fMaintainers.take 6).map perA)) :: SA.own (.slice B238 (someF m.fKeywords).length b238) 9 1 ((someF m.fKeywords).length) (strs (someF m.fKeywords)) :: SA.own (.slice B232 (someF m.fSources).length b232) 9 1 ((someF m.fSources).length) (strs (someF m.fSources)) :: SA.blk g3 26 zq8 :: L) := by rw [List.map_append, List.map_cons, List.map_nil]; exact stars_snoc S430.p4.p1
         exact hK362 _ _ _ (by first | omega | (simp; omega)) ⟨A421, c421, ds ++ [depA m.fDependencies[j] none 0], j + 1, rfl, (F429.kk 1 (F429.kk 2 (F429.kk 6 (F429.kk 8 F429.nil)))), S431.p3.drop.p6.p6.p6.p6.p4.p6.p6, (by first | omega | (with_reducible assumption) | (simp; done)), (by first | omega | (with_reducible assumption) | (simp; done)), (by simp [hdl]), (by rw [List.map_append, hds, List.take_succ_eq_append_getElem hlt_j, List.map_append, List.map_cons, List.map_cons, List.map_nil, List.map_nil, depA_S])⟩
       ·skip
        refine wp_region_sepF (L0 := SA.blk g1 26 #[.string (ascF m.fName), .string (ascF m.fHome), .string (verF (ascF m.fVersion)), .string (ascF m.fDescription), .string (ascF m.fIcon), .string (ascF m.fAPIVersion), .string (ascF m.fCondition), .string (ascF m.fTags), .string (ascF m.fAppVersion), .string (ascF m.fKubeVersion), .string (ascF m.fType), .slice B232 ((someF m.fSources).length) b232, .slice B238 ((someF m.fKeywords).length) b238, .slice B3 n3 b3, .slice B4 j b4] :: SA.stars (ds.map SA.tg) :: SA.own (.slice B3 n3 b3) 78 4 n3 (flatC Ty78.cells ((m.fMaintainers.take 6).map perA)) :: SA.own (.slice B238 (someF m.fKeywords).length b238) 9 1 ((someF m.fKeywords).length) (strs (someF m.fKeywords)) :: SA.own (.slice B232 (someF m.fSources).length b232) 9 1 ((someF m.fSources).length) (strs (someF m.fSources)) :: SA.blk g3 26 zq8 :: L) [some [], some [(0, 81)], some [], some [], some [(2, 83), (3, 84)], some [(4, 85)], some [(5, 86)], some [(5, 86), (6, 87)], some [(1, 82), (5, 86), (6, 87), (7, 88)], some [], none] [.v 81 (.pointer (some ⟨g1, 14, none⟩)), .v 82 (.slice B4 j b4), .v 83 (.slice m.fDependencies_a m.fDependencies.length m.fDependencies_c), .v 84 (.int .i64 (↑j)), .v 85 (.pointer (some (ad371.add (j * 7)))), .v 86 (.agg (zq5 m.fDependencies[j])), .p 87 (SA.emp) (fun _ vv AA => ∃ B467 : Option Addr, ∃ b467 : Nat, vv = .agg (zq15 m.fDependencies[j] B467 b467) ∧ AA = SA.own (.slice B467 (someF m.fDependencies[j].fTags).length b467) 9 1 ((someF m.fDependencies[j].fTags).length) (strs (someF m.fDependencies[j].fTags))), .p 88 (SA.emp) (fun env vv AA => ∃ B467x : Option Addr, ∃ b467x : Nat, ∃ g470 : Nat, (env.getD 1 undef) = .agg (zq15 m.fDependencies[j] B467x b467x) ∧ vv = .slice (some ⟨g470, 0, none⟩) 1 1 ∧ AA = SA.blk g470 80 (zq15 m.fDependencies[j] B467x b467x)), .p 89 (SA.own (.slice B4 j b4) 80 7 j (flatC Ty80.cells ds)) (fun env vv AA => ∃ B467x : Option Addr, ∃ b467x : Nat, ∃ A476 : Option Addr, ∃ c476 : Nat, (env.getD 2 undef) = .agg (zq15 m.fDependencies[j] B467x b467x) ∧ vv = .slice A476 (j + 1) c476 ∧ AA = SA.own (.slice A476 (j + 1) c476) 80 7 (j + 1) (flatC Ty80.cells (ds ++ [depA m.fDependencies[j] B467x b467x]))), .v 90 (.pointer (some ⟨g1, 14, none⟩)), .n SA.emp (fun _ _ A => A = SA.emp)] [] F379 rfl (by kernel_rfl) S362.p1.emp.emp ?_ ?_
        ·refine ⟨?_, ?_, ?_, ?_, ?_, ?_, ?_, ?_, ?_, ?_, trivial⟩
         ·intro w455 M455
          intro a455 F455 S455
          refine obl_of (by rfl) ?_
          exact s_p F455 (v := .pointer (some ⟨g1, 14, none⟩)) (by kernel_rfl) (by kernel_rfl) (by kernel_rfl) S455
         ·intro w456 M456
          intro a456 F456 S456
          refine obl_of (by rfl) ?_
          exact s_r (v := .slice B4 j b4) (r_ld rfl (F456.e (.pointer (some ⟨g1, 14, none⟩))) (v := .slice B4 j b4) (((Sp.dropM S456.drop).bk 0 rfl).cell 14) Try.underlying24 rfl) S456
         ·intro w458 M458
          intro a458 F458 S458
          refine obl_of (by rfl) ?_
          exact s_p F458 (v := .slice m.fDependencies_a m.fDependencies.length m.fDependencies_c) (by kernel_rfl) (by kernel_rfl) (by kernel_rfl) S458
         ·intro w459 M459
          intro a459 F459 S459
          refine obl_of (by rfl) ?_
          exact s_p F459 (v := .int .i64 (↑j)) (by kernel_rfl) (by kernel_rfl) (by kernel_rfl) S459
         ·intro w460 M460
          intro a460 F460 S460
          refine obl_of (by rfl) ?_
          exact s_r (v := .pointer (some (ad371.add (j * 7)))) (r_ix rfl Try.underlying24 7 (by kernel_rfl) (F460.e (.slice m.fDependencies_a m.fDependencies.length m.fDependencies_c)) hA371 (F460.e (.int .i64 (↑j))) j (by first | rfl | omega | simp) (by first | omega | (simp; done) | (simp; omega)) (rfl)) S460
         ·intro w463 M463
          intro a463 F463 S463
          refine obl_of (by rfl) ?_
          exact s_r (v := .agg (zq5 m.fDependencies[j])) (r_ldR rfl (F463.e (.pointer (some (ad371.add (j * 7))))) (cs := [.bool m.fDependencies[j].fNil, .string m.fDependencies[j].fName, .string m.fDependencies[j].fVersion, .string m.fDependencies[j].fRepository, .string m.fDependencies[j].fCondition, .slice m.fDependencies[j].fTags_a m.fDependencies[j].fTags.length m.fDependencies[j].fTags_c, .string m.fDependencies[j].fAlias]) ((k3 _ (Sp.dropM S463.drop).drop.drop.drop.drop.drop.drop).elA hA371 (j := j) (row := m.fDependencies[j].cells) (by rw [List.getElem?_map, List.getElem?_eq_getElem hlt_j]; rfl)) Try.underlying80 rfl (by kernel_rfl) (v := (zq5 m.fDependencies[j])) (by kernel_rfl)) S463
         ·intro w465 M465
          intro a465 F465 S465
          refine obl_of (by rfl) ?_
          refine s_c F465 (f := 114) (args := #[.agg (zq5 m.fDependencies[j])]) (by kernel_rfl) (by kernel_rfl) (by kernel_rfl) (chDependency_some m.fDependencies[j] _ _ _ S465.drop (fun w S => htg w (Sp.dropM S).drop.drop.drop.drop.drop.drop) (by with_reducible assumption) (by first | omega | (simp; done) | (simp; omega)) (by first | omega | (simp; done) | (simp; omega)) (by first | omega | (simp; done) | (simp; omega)) (by first | omega | (simp; done) | (simp; omega)) (by first | omega | (simp; done) | (simp; omega)) hx) ?_
          rintro _ _ ⟨B467, b467, rfl, S467⟩
          exact ⟨_, _, rfl, ⟨B467, b467, rfl, rfl⟩, S467⟩
         ·intro w468 M468
          rintro _ _ ⟨B467, b467, rfl, rfl⟩ hA470
          intro a468 F468 S468
          refine obl_of (by rfl) ?_
          exact sAt_mono (s_news F468 80 (zq15 m.fDependencies[j] B467 b467) 1 (by kernel_rfl) (by kernel_rfl) (by kernel_rfl) S468.drop) fun _ _ ⟨g470, e1, e2⟩ => ⟨B467, b467, g470, (by kernel_rfl), e1, e2⟩
         ·intro w471 M471
          rintro _ _ ⟨B467, b467, rfl, rfl⟩ hA474
          rintro _ _ ⟨B467x, b467x, g470, e7_1, rfl, rfl⟩ hA475
          have e7_1 := envE_at (v := .agg (zq15 m.fDependencies[j] B467 b467)) e7_1 (by kernel_rfl)
          obtain ⟨rfl, rfl⟩ : B467 = B467x ∧ b467 = b467x := by cases e7_1; exact ⟨rfl, rfl⟩
          clear e7_1
          intro a471 F471 S471
          refine obl_of (by rfl) ?_
          exact sAt_mono (s_app rfl Try.underlying24 7 _ tin80 rfl rfl (F471.e (.slice B4 j b4)) S471 ([Value.bool false, .string (ascF m.fDependencies[j].fName), .string (ascF m.fDependencies[j].fVersion), .string (ascF m.fDependencies[j].fRepository), .string (ascF m.fDependencies[j].fCondition), .slice B467 ((someF m.fDependencies[j].fTags).length) b467, .string (ascF m.fDependencies[j].fAlias)]) (F471.e (.slice (some ⟨g470, 0, none⟩) 1 1)) ((Sp.bkm S471.drop hA475).sl (by simp)) rfl (by simp [Value.oneCell']) (by omega) (by omega) (n' := j + 1) (by omega) (cs' := flatC Ty80.cells (ds ++ [depA m.fDependencies[j] B467 b467])) (by rw [flatC_snoc, depA_some hdn]; rfl)) fun _ _ ⟨A476, c476, e1, e2⟩ => ⟨B467, b467, A476, c476, (by kernel_rfl), e1, e2⟩
         ·intro w477 M477
          intro a477 F477 S477
          refine obl_of (by rfl) ?_
          exact s_p F477 (v := .pointer (some ⟨g1, 14, none⟩)) (by kernel_rfl) (by kernel_rfl) (by kernel_rfl) S477
        ·rintro _ _ ⟨B467, b467, rfl, rfl⟩
         rintro _ _ ⟨B467x, b467x, g470, e7_1, rfl, rfl⟩
         have e7_1 := envE_at (v := .agg (zq15 m.fDependencies[j] B467 b467)) e7_1 (by kernel_rfl)
         obtain ⟨rfl, rfl⟩ : B467 = B467x ∧ b467 = b467x := by cases e7_1; exact ⟨rfl, rfl⟩
         clear e7_1
         rintro _ _ ⟨B467x, b467x, A476, c476, e8_2, rfl, rfl⟩
         have e8_2 := envE_at (v := .agg (zq15 m.fDependencies[j] B467 b467)) e8_2 (by kernel_rfl)
         obtain ⟨rfl, rfl⟩ : B467 = B467x ∧ b467 = b467x := by cases e8_2; exact ⟨rfl, rfl⟩
         clear e8_2
         intro a479 w478 F479 S478
         have S480 : Sp R w478 (SA.own (.slice A476 (j + 1) c476) 80 7 (j + 1) (flatC Ty80.cells (ds ++ [depA m.fDependencies[j] B467 b467])) :: SA.blk g470 80 (zq15 m.fDependencies[j] B467 b467) :: SA.own (.slice B467 (someF m.fDependencies[j].fTags).length b467) 9 1 ((someF m.fDependencies[j].fTags).length) (strs (someF m.fDependencies[j].fTags)) :: SA.blk g1 26 #[.string (ascF m.fName), .string (ascF m.fHome), .string (verF (ascF m.fVersion)), .string (ascF m.fDescription), .string (ascF m.fIcon), .string (ascF m.fAPIVersion), .string (ascF m.fCondition), .string (ascF m.fTags), .string (ascF m.fAppVersion), .string (ascF m.fKubeVersion), .string (ascF m.fType), .slice B232 ((someF m.fSources).length) b232, .slice B238 ((someF m.fKeywords).length) b238, .slice B3 n3 b3, .slice B4 j b4] :: SA.stars (ds.map SA.tg) :: SA.own (.slice B3 n3 b3) 78 4 n3 (flatC Ty78.cells ((m.fMaintainers.take 6).map perA)) :: SA.own (.slice B238 (someF m.fKeywords).length b238) 9 1 ((someF m.fKeywords).length) (strs (someF m.fKeywords)) :: SA.own (.slice B232 (someF m.fSources).length b232) 9 1 ((someF m.fSources).length) (strs (someF m.fSources)) :: SA.blk g3 26 zq8 :: L) := S478
         refine op_sq0 F479 (s_st rfl (F479.e (.pointer (some ⟨g1, 14, none⟩))) (F479.e (.slice A476 (j + 1) c476)) S480.p3 (by kernel_rfl) rfl rfl rfl (cs := #[.string (ascF m.fName), .string (ascF m.fHome), .string (verF (ascF m.fVersion)), .string (ascF m.fDescription), .string (ascF m.fIcon), .string (ascF m.fAPIVersion), .string (ascF m.fCondition), .string (ascF m.fTags), .string (ascF m.fAppVersion), .string (ascF m.fKubeVersion), .string (ascF m.fType), .slice B232 ((someF m.fSources).length) b232, .slice B238 ((someF m.fKeywords).length) b238, .slice B3 n3 b3, .slice A476 (j + 1) c476]) (by kernel_rfl)) ?_
         rintro _ _ w481 rfl S481 F481
         refine wpList_nil ?_
         refine hK380 _ _ ?_; clear hK380 K380
         refine wp_region_lit ?_
         refine op_q F481 (.int .i64 (↑j)) ?_; intro a482 F482
         refine op_rq (v := .int .i64 (↑(j + 1))) F482 (r_add (z := ↑(j + 1)) rfl (F482.e (.int .i64 (↑j))) (F482.e (.int .i64 1)) (wr64 (by omega) (by omega) (by omega))) ?_; intro a483 F483
         refine op_q F483 (.int .i64 (↑(j + 1))) ?_; intro a484 F484
         refine wpList_nil ?_
         have S485 : Sp R w481 (SA.tg (depA m.fDependencies[j] B467 b467) :: SA.blk g1 26 #[.string (ascF m.fName), .string (ascF m.fHome), .string (verF (ascF m.fVersion)), .string (ascF m.fDescription), .string (ascF m.fIcon), .string (ascF m.fAPIVersion), .string (ascF m.fCondition), .string (ascF m.fTags), .string (ascF m.fAppVersion), .string (ascF m.fKubeVersion), .string (ascF m.fType), .slice B232 ((someF m.fSources).length) b232, .slice B238 ((someF m.fKeywords).length) b238, .slice B3 n3 b3, .slice A476 (j + 1) c476] :: SA.own (.slice A476 (j + 1) c476) 80 7 (j + 1) (flatC Ty80.cells (ds ++ [depA m.fDependencies[j] B467 b467])) :: SA.blk g470 80 (zq15 m.fDependencies[j] B467 b467) :: SA.stars (ds.map SA.tg) :: SA.own (.slice B3 n3 b3) 78 4 n3 (flatC Ty78.cells ((m.fMaintainers.take 6).map perA)) :: SA.own (.slice B238 (someF m.fKeywords).length b238) 9 1 ((someF m.fKeywords).length) (strs (someF m.fKeywords)) :: SA.own (.slice B232 (someF m.fSources).length b232) 9 1 ((someF m.fSources).length) (strs (someF m.fSources)) :: SA.blk g3 26 zq8 :: L) := tga_some hdn S481.p3
         have S486 : Sp R w481 (SA.stars ((ds ++ [depA m.fDependencies[j] B467 b467]).map SA.tg) :: SA.blk g1 26 #[.string (ascF m.fName), .string (ascF m.fHome), .string (verF (ascF m.fVersion)), .string (ascF m.fDescription), .string (ascF m.fIcon), .string (ascF m.fAPIVersion), .string (ascF m.fCondition), .string (ascF m.fTags), .string (ascF m.fAppVersion), .string (ascF m.fKubeVersion), .string (ascF m.fType), .slice B232 ((someF m.fSources).length) b232, .slice B238 ((someF m.fKeywords).length) b238, .slice B3 n3 b3, .slice A476 (j + 1) c476] :: SA.own (.slice A476 (j + 1) c476) 80 7 (j + 1) (flatC Ty80.cells (ds ++ [depA m.fDependencies[j] B467 b467])) :: SA.blk g470 80 (zq15 m.fDependencies[j] B467 b467) :: SA.own (.slice B3 n3 b3) 78 4 n3 (flatC Ty78.cells ((m.fMaintainers.take 6).map perA)) :: SA.own (.slice B238 (someF m.fKeywords).length b238) 9 1 ((someF m.fKeywords).length) (strs (someF m.fKeywords)) :: SA.own (.slice B232 (someF m.fSources).length b232) 9 1 ((someF m.fSources).length) (strs (someF m.fSources)) :: SA.blk g3 26 zq8 :: L) := by rw [List.map_append, List.map_cons, List.map_nil]; exact stars_snoc S485.p4.p1
         exact hK362 _ _ _ (by first | omega | (simp; omega)) ⟨A476, c476, ds ++ [depA m.fDependencies[j] B467 b467], j + 1, rfl, (F484.kk 1 (F484.kk 2 (F484.kk 6 (F484.kk 8 F484.nil)))), S486.p3.drop.p6.p6.p6.p6.p4.p6.p6, (by first | omega | (with_reducible assumption) | (simp; done)), (by first | omega | (with_reducible assumption) | (simp; done)), (by simp [hdl]), (by rw [List.map_append, hds, List.take_succ_eq_append_getElem hlt_j, List.map_append, List.map_cons, List.map_cons, List.map_nil, List.map_nil, depA_S])⟩
      ·have hsix : m.fDependencies.length ≤ j ∨ 6 ≤ j := .inr (by have := of_decide_eq_false hc377; omega)
       rw [take_sixG hj hj6 hsix] at hds
       have F487 := F376.sb 77 (by kernel_rfl) hc377
       have F488 := F487.sb 78 (by kernel_rfl) hc377
       subst hn3
       subst hdl
       refine wp_cond_false (F488.ev (by kernel_rfl)) ?_
       refine wp_exit ?_
       refine ex_then ?_; clear hK363 K363
       refine ex_then ?_
       refine ex_in ?_
       refine hK357 _ _ ?_; clear hK357 K357
       refine wp_seq_k fun K489 hK489 => ?_
       refine wp_region_lit ?_
       refine op_rq (v := .agg #[.string (ascF m.fName), .string (ascF m.fHome), .string (verF (ascF m.fVersion)), .string (ascF m.fDescription), .string (ascF m.fIcon), .string (ascF m.fAPIVersion), .string (ascF m.fCondition), .string (ascF m.fTags), .string (ascF m.fAppVersion), .string (ascF m.fKubeVersion), .string (ascF m.fType), .slice B232 ((someF m.fSources).length) b232, .slice B238 ((someF m.fKeywords).length) b238, .slice B3 ((m.fMaintainers.take 6).map perA).length b3, .slice B4 ds.length b4]) F488 (r_ldm rfl (F488.e (.pointer (some ⟨g1, 0, none⟩))) (S362.bk 0 rfl) 15 (by kernel_rfl) Try.underlying26 rfl (by kernel_rfl) (v := #[.string (ascF m.fName), .string (ascF m.fHome), .string (verF (ascF m.fVersion)), .string (ascF m.fDescription), .string (ascF m.fIcon), .string (ascF m.fAPIVersion), .string (ascF m.fCondition), .string (ascF m.fTags), .string (ascF m.fAppVersion), .string (ascF m.fKubeVersion), .string (ascF m.fType), .slice B232 ((someF m.fSources).length) b232, .slice B238 ((someF m.fKeywords).length) b238, .slice B3 ((m.fMaintainers.take 6).map perA).length b3, .slice B4 ds.length b4]) (by kernel_rfl)) ?_; intro a490 F490
       refine op_sq0 F490 (s_stb rfl (F490.e (.pointer (some ⟨g3, 0, none⟩))) (F490.e (.agg #[.string (ascF m.fName), .string (ascF m.fHome), .string (verF (ascF m.fVersion)), .string (ascF m.fDescription), .string (ascF m.fIcon), .string (ascF m.fAPIVersion), .string (ascF m.fCondition), .string (ascF m.fTags), .string (ascF m.fAppVersion), .string (ascF m.fKubeVersion), .string (ascF m.fType), .slice B232 ((someF m.fSources).length) b232, .slice B238 ((someF m.fKeywords).length) b238, .slice B3 ((m.fMaintainers.take 6).map perA).length b3, .slice B4 ds.length b4])) S362.p6 (by kernel_rfl) rfl (by kernel_rfl)) ?_
       rintro _ _ w491 rfl S491 F491
       refine wpList_nil ?_
       refine hK489 _ _ ?_; clear hK489 K489
       refine wp_ret ?_
       have S492 : Sp R w491 (SA.mv (fitV m B232 b232 B238 b238 B3 b3 B4 b4 ds) :: SA.blk g3 26 #[.string (ascF m.fName), .string (ascF m.fHome), .string (verF (ascF m.fVersion)), .string (ascF m.fDescription), .string (ascF m.fIcon), .string (ascF m.fAPIVersion), .string (ascF m.fCondition), .string (ascF m.fTags), .string (ascF m.fAppVersion), .string (ascF m.fKubeVersion), .string (ascF m.fType), .slice B232 ((someF m.fSources).length) b232, .slice B238 ((someF m.fKeywords).length) b238, .slice B3 ((m.fMaintainers.take 6).map perA).length b3, .slice B4 ds.length b4] :: SA.blk g1 26 #[.string (ascF m.fName), .string (ascF m.fHome), .string (verF (ascF m.fVersion)), .string (ascF m.fDescription), .string (ascF m.fIcon), .string (ascF m.fAPIVersion), .string (ascF m.fCondition), .string (ascF m.fTags), .string (ascF m.fAppVersion), .string (ascF m.fKubeVersion), .string (ascF m.fType), .slice B232 ((someF m.fSources).length) b232, .slice B238 ((someF m.fKeywords).length) b238, .slice B3 ((m.fMaintainers.take 6).map perA).length b3, .slice B4 ds.length b4] :: L) := Sp.mv_own (y := (fitV m B232 b232 B238 b238 B3 b3 B4 b4 ds)) S491.p3.p3.p4.p5.p6
       refine (F491.resC (results1 (v := .agg #[.string (ascF m.fName), .string (ascF m.fHome), .string (verF (ascF m.fVersion)), .string (ascF m.fDescription), .string (ascF m.fIcon), .string (ascF m.fAPIVersion), .string (ascF m.fCondition), .string (ascF m.fTags), .string (ascF m.fAppVersion), .string (ascF m.fKubeVersion), .string (ascF m.fType), .slice B232 ((someF m.fSources).length) b232, .slice B238 ((someF m.fKeywords).length) b238, .slice B3 ((m.fMaintainers.take 6).map perA).length b3, .slice B4 ds.length b4]) Try.results58 (F491.rvc (p := ⟨g3, 0, none⟩) (by kernel_rfl) (ld_mid (S491.bk 0 rfl) 15 (by kernel_rfl) Try.underlying26 rfl (by kernel_rfl) (v := #[.string (ascF m.fName), .string (ascF m.fHome), .string (verF (ascF m.fVersion)), .string (ascF m.fDescription), .string (ascF m.fIcon), .string (ascF m.fAPIVersion), .string (ascF m.fCondition), .string (ascF m.fTags), .string (ascF m.fAppVersion), .string (ascF m.fKubeVersion), .string (ascF m.fType), .slice B232 ((someF m.fSources).length) b232, .slice B238 ((someF m.fKeywords).length) b238, .slice B3 ((m.fMaintainers.take 6).map perA).length b3, .slice B4 ds.length b4]) (by kernel_rfl)))) ?_).1
       exact ⟨(fitV m B232 b232 B238 b238 B3 b3 B4 b4 ds), rfl, S492.p1.drop.p1.drop, (fitV_S hds)⟩
     ·have hsix : m.fDependencies.length ≤ j ∨ 6 ≤ j := .inl (by have := of_decide_eq_false hc370; omega)
      rw [take_sixG hj hj6 hsix] at hds
      have F493 := F369.sb 74 (by kernel_rfl) hc370
      have F494 := F493.sb 75 (by kernel_rfl) hc370
      subst hn3
      subst hdl
      refine op_kq F494 ?_; intro a495 F495
      refine op_kq F495 ?_; intro a496 F496
      refine op_q F496 (.bool false) ?_; intro a497 F497
      refine wpList_nil ?_
      refine hK364 _ _ ?_; clear hK364 K364
      refine wp_cond_false (F497.ev (by kernel_rfl)) ?_
      refine wp_exit ?_
      refine ex_then ?_; clear hK363 K363
      refine ex_then ?_
      refine ex_in ?_
      refine hK357 _ _ ?_; clear hK357 K357
      refine wp_seq_k fun K498 hK498 => ?_
      refine wp_region_lit ?_
      refine op_rq (v := .agg #[.string (ascF m.fName), .string (ascF m.fHome), .string (verF (ascF m.fVersion)), .string (ascF m.fDescription), .string (ascF m.fIcon), .string (ascF m.fAPIVersion), .string (ascF m.fCondition), .string (ascF m.fTags), .string (ascF m.fAppVersion), .string (ascF m.fKubeVersion), .string (ascF m.fType), .slice B232 ((someF m.fSources).length) b232, .slice B238 ((someF m.fKeywords).length) b238, .slice B3 ((m.fMaintainers.take 6).map perA).length b3, .slice B4 ds.length b4]) F497 (r_ldm rfl (F497.e (.pointer (some ⟨g1, 0, none⟩))) (S362.bk 0 rfl) 15 (by kernel_rfl) Try.underlying26 rfl (by kernel_rfl) (v := #[.string (ascF m.fName), .string (ascF m.fHome), .string (verF (ascF m.fVersion)), .string (ascF m.fDescription), .string (ascF m.fIcon), .string (ascF m.fAPIVersion), .string (ascF m.fCondition), .string (ascF m.fTags), .string (ascF m.fAppVersion), .string (ascF m.fKubeVersion), .string (ascF m.fType), .slice B232 ((someF m.fSources).length) b232, .slice B238 ((someF m.fKeywords).length) b238, .slice B3 ((m.fMaintainers.take 6).map perA).length b3, .slice B4 ds.length b4]) (by kernel_rfl)) ?_; intro a499 F499
      refine op_sq0 F499 (s_stb rfl (F499.e (.pointer (some ⟨g3, 0, none⟩))) (F499.e (.agg #[.string (ascF m.fName), .string (ascF m.fHome), .string (verF (ascF m.fVersion)), .string (ascF m.fDescription), .string (ascF m.fIcon), .string (ascF m.fAPIVersion), .string (ascF m.fCondition), .string (ascF m.fTags), .string (ascF m.fAppVersion), .string (ascF m.fKubeVersion), .string (ascF m.fType), .slice B232 ((someF m.fSources).length) b232, .slice B238 ((someF m.fKeywords).length) b238, .slice B3 ((m.fMaintainers.take 6).map perA).length b3, .slice B4 ds.length b4])) S362.p6 (by kernel_rfl) rfl (by kernel_rfl)) ?_
      rintro _ _ w500 rfl S500 F500
      refine wpList_nil ?_
      refine hK498 _ _ ?_; clear hK498 K498
      refine wp_ret ?_
      have S501 : Sp R w500 (SA.mv (fitV m B232 b232 B238 b238 B3 b3 B4 b4 ds) :: SA.blk g3 26 #[.string (ascF m.fName), .string (ascF m.fHome), .string (verF (ascF m.fVersion)), .string (ascF m.fDescription), .string (ascF m.fIcon), .string (ascF m.fAPIVersion), .string (ascF m.fCondition), .string (ascF m.fTags), .string (ascF m.fAppVersion), .string (ascF m.fKubeVersion), .string (ascF m.fType), .slice B232 ((someF m.fSources).length) b232, .slice B238 ((someF m.fKeywords).length) b238, .slice B3 ((m.fMaintainers.take 6).map perA).length b3, .slice B4 ds.length b4] :: SA.blk g1 26 #[.string (ascF m.fName), .string (ascF m.fHome), .string (verF (ascF m.fVersion)), .string (ascF m.fDescription), .string (ascF m.fIcon), .string (ascF m.fAPIVersion), .string (ascF m.fCondition), .string (ascF m.fTags), .string (ascF m.fAppVersion), .string (ascF m.fKubeVersion), .string (ascF m.fType), .slice B232 ((someF m.fSources).length) b232, .slice B238 ((someF m.fKeywords).length) b238, .slice B3 ((m.fMaintainers.take 6).map perA).length b3, .slice B4 ds.length b4] :: L) := Sp.mv_own (y := (fitV m B232 b232 B238 b238 B3 b3 B4 b4 ds)) S500.p3.p3.p4.p5.p6
      refine (F500.resC (results1 (v := .agg #[.string (ascF m.fName), .string (ascF m.fHome), .string (verF (ascF m.fVersion)), .string (ascF m.fDescription), .string (ascF m.fIcon), .string (ascF m.fAPIVersion), .string (ascF m.fCondition), .string (ascF m.fTags), .string (ascF m.fAppVersion), .string (ascF m.fKubeVersion), .string (ascF m.fType), .slice B232 ((someF m.fSources).length) b232, .slice B238 ((someF m.fKeywords).length) b238, .slice B3 ((m.fMaintainers.take 6).map perA).length b3, .slice B4 ds.length b4]) Try.results58 (F500.rvc (p := ⟨g3, 0, none⟩) (by kernel_rfl) (ld_mid (S500.bk 0 rfl) 15 (by kernel_rfl) Try.underlying26 rfl (by kernel_rfl) (v := #[.string (ascF m.fName), .string (ascF m.fHome), .string (verF (ascF m.fVersion)), .string (ascF m.fDescription), .string (ascF m.fIcon), .string (ascF m.fAPIVersion), .string (ascF m.fCondition), .string (ascF m.fTags), .string (ascF m.fAppVersion), .string (ascF m.fKubeVersion), .string (ascF m.fType), .slice B232 ((someF m.fSources).length) b232, .slice B238 ((someF m.fKeywords).length) b238, .slice B3 ((m.fMaintainers.take 6).map perA).length b3, .slice B4 ds.length b4]) (by kernel_rfl)))) ?_).1
      exact ⟨(fitV m B232 b232 B238 b238 B3 b3 B4 b4 ds), rfl, S501.p1.drop.p1.drop, (fitV_S hds)⟩
end Go.Proofs.Ytkjcedlgljeoiaa

/- Contracts: transform, ZzTransform, Transform. -/
namespace Go.Proofs.Ytkjcedlgljeoiaa
open Go.RowKit Go.Lib

abbrev markS : ByteArray := ⟨#[60, 67, 72, 65, 82, 84, 78, 65, 77, 69, 62]⟩
end Go.Proofs.Ytkjcedlgljeoiaa

/- FnHlTransform: the plain law and the walk. -/
namespace Go.Proofs.Ytkjcedlgljeoiaa
open Go.RowKit Go.Lib

/-- No byte of s is '<'. -/
def noLt (s : ByteArray) : Prop := ∀ j, ∀ h : j < s.size, s[j].toNat ≠ 60
end Go.Proofs.Ytkjcedlgljeoiaa

/- Contracts: hlShort, hlSame, hlPieces, HlLines. -/
namespace Go.Proofs.Ytkjcedlgljeoiaa
open Go.RowKit Go.Lib

def shortS (s : ByteArray) : Bool := decide (s.size ≤ 100) && s.data.toList.all fun c => decide (c.toNat ≤ 127)
def shortB (xs : List ByteArray) : Bool := decide (xs.length ≤ 30) && xs.all shortS

end Go.Proofs.Ytkjcedlgljeoiaa

/- spec.HlPlain, laws.hlWord, plain.Base; plain versions and their pieces. -/
namespace Go.Proofs.Ytkjcedlgljeoiaa
open Go.RowKit Go.Lib
set_option linter.unusedVariables false
set_option linter.unusedSimpArgs false
def catL (c : UInt8) : List ByteArray → List UInt8
  | [] => []
  | [x] => x.data.toList
  | x :: y :: l => x.data.toList ++ c :: catL c (y :: l)
theorem bytes_eqL {a b : ByteArray} (h : (a.toList == b.toList) = true) : a = b := by
  have e := eq_of_beq h
  rw [Go.ByteArray.toList_eq, Go.ByteArray.toList_eq] at e
  exact ByteArray.ext (Array.toList_inj.1 e)
def okN (p : ByteArray) : Bool := decide (0 < p.size) && (decide (p.size ≤ 9) && (p.data.toList.all digB && !(decide (1 < p.size) && p.data.toList.head? == some 48)))
def hpB (s : ByteArray) : Bool := (splitF ⟨#[46]⟩ (s.size + 1) s).all okN && (splitF ⟨#[46]⟩ (s.size + 1) s).length == 3
end Go.Proofs.Ytkjcedlgljeoiaa

/- spec.HlPlain, laws.hlWord, plain.Base. -/
namespace Go.Proofs.Ytkjcedlgljeoiaa
open Go.RowKit Go.Lib
set_option linter.unusedVariables false
set_option linter.unusedSimpArgs false
theorem emp_no {a : ByteArray} (h : 0 < a.size) : (a.toList == (⟨#[]⟩ : ByteArray).toList) = false := by
  apply Bool.eq_false_iff.2
  intro e
  have e := bytes_eqL e
  subst e; exact absurd h (by decide)
theorem emp_sz {a : ByteArray} (h : (a.toList == (⟨#[]⟩ : ByteArray).toList) = true) : a.size = 0 := by rw [bytes_eqL h]; rfl
theorem emp_pos {a : ByteArray} (h : (a.toList == (⟨#[]⟩ : ByteArray).toList) = false) : 0 < a.size := by
  rcases Nat.eq_zero_or_pos a.size with h0 | h0
  · have e : a = ⟨#[]⟩ := bytes_nil h0
    rw [e, beq_self_eq_true] at h; cases h
  · exact h0
def wB (s : ByteArray) : Bool := (s.data.toList.all fun c => decide (119 ≤ c.toNat) && decide (c.toNat ≤ 122)) && !(s.toList == (⟨#[]⟩ : ByteArray).toList)
end Go.Proofs.Ytkjcedlgljeoiaa

/- plain.Base. -/
namespace Go.Proofs.Ytkjcedlgljeoiaa
open Go.RowKit Go.Lib
set_option linter.unusedVariables false
set_option linter.unusedSimpArgs false
def slB (s : ByteArray) : Bool := s.data.toList.any fun c => c == 47
theorem slB_at {s : ByteArray} {j : Nat} (h : j < s.size) (e : s[j].toNat = 47) : slB s = true := by
  unfold slB
  rw [List.any_eq_true]
  exact ⟨s[j], Array.mem_toList_iff.2 (Array.getElem_mem _), by have e2 : s[j] = 47 := UInt8.toNat_inj.1 e; rw [e2]; rfl⟩
theorem slB_ex {s : ByteArray} (h : slB s = true) : ∃ j, ∃ h : j < s.size, s[j].toNat = 47 := by
  unfold slB at h
  rw [List.any_eq_true] at h
  obtain ⟨c, hc, e⟩ := h
  obtain ⟨j, hj, rfl⟩ := List.mem_iff_getElem.1 hc
  have e := eq_of_beq e
  have hj2 : j < s.size := by simpa using hj
  have : s[j] = s.data.toList[j] := rfl
  exact ⟨j, hj2, by rw [this, e]; rfl⟩
theorem ext_full (s : ByteArray) : s = s.extract 0 s.size := by
  apply ByteArray.ext
  rw [ByteArray.data_extract]
  exact Array.extract_size.symm
theorem base_st {s b : ByteArray} {k : Nat} (hb : b = s.extract 0 k) (hk : k ≤ s.size) (h0 : 0 < b.size) (h : b.size - 1 < b.size) (e : b[b.size - 1].toNat = 47) (hsl : ∀ j, ∀ h : j < s.size, k ≤ j → s[j].toNat = 47) :
    b.extract 0 (b.size - 1) = s.extract 0 (k - 1) ∧ ∀ j, ∀ h : j < s.size, k - 1 ≤ j → s[j].toNat = 47 := by
  subst hb
  have hz : (s.extract 0 k).size = k := by simp; omega
  have hk0 : 0 < k := by omega
  refine ⟨?_, fun j hj hkj => ?_⟩
  · rw [ByteArray.extract_extract]; simp; congr 1; omega
  · by_cases e2 : k ≤ j
    · exact hsl j hj e2
    · have : j = k - 1 := by omega
      subst this
      rw [ByteArray.getElem_extract] at e
      simp only [hz, Nat.zero_add] at e
      exact e
/-- What the last element of a path is, against the path. -/
theorem base_fin {s b r o : ByteArray} {k p : Nat} (hs : 0 < s.size) (hb : b = s.extract 0 k) (hk : k ≤ s.size) (hsl : ∀ j, ∀ h : j < s.size, k ≤ j → s[j].toNat = 47) (hx : b.size = 0 ∨ ∃ h : b.size - 1 < b.size, b[b.size - 1].toNat ≠ 47)
    (hp : p ≤ b.size) (hq : p = 0 ∨ ∃ h : p - 1 < b.size, b[p - 1].toNat = 47) (hno : ∀ j, ∀ h : j < b.size, p ≤ j → b[j].toNat ≠ 47) (hr : r = b.extract p b.size) (ho : (r.size = 0 ∧ o = ⟨#[47]⟩) ∨ (0 < r.size ∧ o = r)) :
    (o.toList == s.toList) = (!slB s || (s.toList == (⟨#[47]⟩ : ByteArray).toList)) := by
  have hz : b.size = k := by rw [hb]; simp; omega
  have hbj : ∀ j, ∀ h : j < b.size, ∃ h2 : j < s.size, b[j] = s[j] := fun j h => ⟨by omega, by subst hb; rw [ByteArray.getElem_extract]; simp⟩
  cases hsb : slB s with
  | false =>
    have hne : ∀ j, ∀ h : j < s.size, s[j].toNat ≠ 47 := fun j h e => by rw [slB_at h e] at hsb; cases hsb
    have hkz : k = s.size := by
      rcases Nat.lt_or_ge k s.size with h | h
      · exact absurd (hsl k h (Nat.le_refl _)) (hne k h)
      · omega
    have hp0 : p = 0 := hq.resolve_right fun ⟨h, e⟩ => by
      obtain ⟨h2, e2⟩ := hbj (p - 1) h
      rw [e2] at e
      exact hne _ h2 e
    have hbs : b = s := by rw [hb, hkz]; exact (ext_full s).symm
    have hrs : r = s := by rw [hr, hp0, hbs]; exact (ext_full s).symm
    have : o = s := by
      rcases ho with ⟨h1, _⟩ | ⟨_, h1⟩
      · rw [hrs] at h1; omega
      · rw [h1, hrs]
    rw [this, beq_self_eq_true]; rfl
  | true =>
    rw [Bool.not_true, Bool.false_or]
    rcases ho with ⟨h1, h2⟩ | ⟨h1, h2⟩
    · rw [h2]; exact Bool.eq_iff_iff.2 (by rw [beq_iff_eq, beq_iff_eq]; exact ⟨Eq.symm, Eq.symm⟩)
    · have hrn : slB r = false := by
        cases hc : slB r with
        | false => rfl
        | true =>
          obtain ⟨j, hj, e⟩ := slB_ex hc
          subst hr
          have hj2 : j < b.size - p := by simpa using hj
          rw [ByteArray.getElem_extract] at e
          exact absurd e (hno (p + j) (by omega) (by omega))
      have e1 : (o.toList == s.toList) = false := by
        apply Bool.eq_false_iff.2
        intro e
        rw [h2] at e
        rw [bytes_eqL e, hsb] at hrn; cases hrn
      have e2 : (s.toList == (⟨#[47]⟩ : ByteArray).toList) = false := by
        apply Bool.eq_false_iff.2
        intro e
        have e := bytes_eqL e
        have hs1 : s.size = 1 := by rw [e]; rfl
        have hrz : r.size = b.size - p := by rw [hr]; simp
        rcases hx with hx | ⟨h3, h4⟩
        · omega
        · apply h4
          obtain ⟨h5, h6⟩ := hbj (b.size - 1) h3
          rw [h6]
          subst e
          have : b.size - 1 = 0 := by omega
          simp only [this]
          rfl
      rw [e1, e2]
set_option maxRecDepth 100000 in
set_option maxHeartbeats 20000000 in
theorem base_any (s : ByteArray) (R : Ctx) (L : List SA) (w : World) (S : Sp R w (L))  (hs : 0 < s.size) (hz : s.size ≤ 1000000) :
  Calls Try.prog 176 #[.string s] w fun e w' => ∃ o : ByteArray, e = .returned (.string o) ∧ Sp R w' (L) ∧ ((o.toList == s.toList) = (!slB s || (s.toList == (⟨#[47]⟩ : ByteArray).toList))) := by
 refine fw_enter (fn := Try.f176) rfl rfl 44 rfl (Nat.le_of_ble_eq_true rfl) ?_
 intro a0 F0
 refine wp_seq_k fun K1 hK1 => ?_
 refine wp_region_lit ?_
 refine op_q F0 (.string ⟨#[]⟩) ?_; intro a2 F2
 refine wpList_nil ?_
 refine hK1 _ _ ?_; clear hK1 K1
 refine wp_seq_k fun K3 hK3 => ?_
 refine wp_seq_k fun K4 hK4 => ?_
 refine wp_region_lit ?_
 refine op_q F2 (.string s) ?_; intro a5 F5
 refine op_q F5 (.bool (s.toList == (⟨#[]⟩ : ByteArray).toList)) ?_; intro a6 F6
 refine wpList_nil ?_
 refine hK4 _ _ ?_; clear hK4 K4
 have hc7 : (s.toList == (⟨#[]⟩ : ByteArray).toList) = false := (emp_no hs)
 have F8 := F6.sb 5 (by kernel_rfl) hc7
 refine wp_cond_false (F8.ev (by kernel_rfl)) ?_
 refine wp_skip ?_
 refine hK3 _ _ ?_; clear hK3 K3
 refine fw_cut (fun a' w' => ∃ b : ByteArray, ∃ k : Nat, Fr 44 [] a' [(0, .string b), (2, .string ⟨#[]⟩)] ∧ Sp R w' (L) ∧ (b = s.extract 0 k) ∧ (k ≤ s.size) ∧ (∀ j, ∀ h : j < s.size, k ≤ j → s[j].toNat = 47) ∧ (b.size ≤ 1000000) ∧ (b.size = 0 ∨ ∃ h : b.size - 1 < b.size, b[b.size - 1].toNat ≠ 47)) ?_ ?_
 ·intro K9 hK9
  refine wp_block ?_
  refine fw_loop (fun m' a' w' => ∃ b : ByteArray, ∃ k : Nat, b.size = m' ∧ Fr 44 [] a' [(0, .string b), (2, .string ⟨#[]⟩)] ∧ Sp R w' (L) ∧ (b = s.extract 0 k) ∧ (k ≤ s.size) ∧ (∀ j, ∀ h : j < s.size, k ≤ j → s[j].toNat = 47) ∧ (b.size ≤ 1000000)) _ ⟨s, s.size, rfl, (F8.kk 0 (F8.kk 2 F8.nil)), S, (ext_full s), (Nat.le_refl _), (fun j h hk => absurd h (by omega)), (by first | omega | (with_reducible assumption) | (simp; done))⟩ ?_
  rintro m10 a10 w10 ⟨b, k, hm10, F10, S10, hb, hk, hsl, hbz⟩ K10 hK10
  refine wp_seq_k fun K11 hK11 => ?_
  refine wp_seq_k fun K12 hK12 => ?_
  refine wp_region_lit ?_
  refine op_q F10 (.string b) ?_; intro a13 F13
  refine op_q F13 (.int .i64 (↑b.size)) ?_; intro a14 F14
  refine op_q F14 (.bool (decide ((0 : Int) < ↑b.size))) ?_; intro a15 F15
  refine op_q F15 (.bool (decide ((0 : Int) < ↑b.size))) ?_; intro a16 F16
  rcases btf (decide ((0 : Int) < ↑b.size)) with hc17 | hc17
  ·have hc17p := of_decide_eq_true hc17
   have F18 := F16.sb 8 (by kernel_rfl) hc17
   have F19 := F18.sb 9 (by kernel_rfl) hc17
   refine op_wq F19 ?_
   refine op_q F19 (.string b) ?_; intro a20 F20
   refine op_wq F20 ?_
   refine op_q F20 (.string b) ?_; intro a21 F21
   refine op_wq F21 ?_
   refine op_q F21 (.int .i64 (↑b.size)) ?_; intro a22 F22
   refine op_wq F22 ?_
   refine op_rq (v := .int .i64 (↑b.size - 1)) F22 (r_sub (z := (↑b.size - 1)) rfl (F22.e (.int .i64 (↑b.size))) (F22.e (.int .i64 1)) (wr64 (by omega) (by omega) (by omega))) ?_; intro a23 F23
   refine op_wq F23 ?_
   refine op_rq (v := .int .u8 (↑b[b.size - 1].toNat)) F23 (r_index rfl Try.underlying9 (F23.e (.string b)) (F23.e (.int .i64 (↑b.size - 1))) (b.size - 1) (by first | rfl | omega | simp) (by first | omega | (simp; done) | (simp; omega))) ?_; intro a24 F24
   refine op_wq F24 ?_
   refine op_q F24 (.bool ((↑b[b.size - 1].toNat : Int) == 47)) ?_; intro a25 F25
   refine op_q F25 (.bool ((↑b[b.size - 1].toNat : Int) == 47)) ?_; intro a26 F26
   refine wpList_nil ?_
   refine hK12 _ _ ?_; clear hK12 K12
   rcases btf ((↑b[b.size - 1].toNat : Int) == 47) with hc27 | hc27
   ·have hc27p := eq_of_beq hc27
    have F28 := F26.sb 15 (by kernel_rfl) hc27
    have F29 := F28.sb 16 (by kernel_rfl) hc27
    refine wp_cond_true (F29.ev (by kernel_rfl)) ?_
    refine wp_skip ?_
    refine hK11 _ _ ?_; clear hK11 K11
    refine wp_block ?_
    refine wp_region_lit ?_
    refine op_q F29 (.string b) ?_; intro a30 F30
    refine op_q F30 (.string b) ?_; intro a31 F31
    refine op_q F31 (.int .i64 (↑b.size)) ?_; intro a32 F32
    refine op_rq (v := .int .i64 (↑b.size - 1)) F32 (r_sub (z := (↑b.size - 1)) rfl (F32.e (.int .i64 (↑b.size))) (F32.e (.int .i64 1)) (wr64 (by omega) (by omega) (by omega))) ?_; intro a33 F33
    refine op_rq (v := .string (b.extract 0 (b.size - 1))) F33 (r_sllh rfl Try.underlying9 (F33.e (.string b)) (F33.e (.int .i64 0)) (F33.e (.int .i64 (↑b.size - 1)))  0 (b.size - 1) (by first | rfl | omega | (simp; done) | (simp; omega)) (by first | omega | (simp; done) | (simp; omega)) (rfl)) ?_; intro a34 F34
    refine op_q F34 (.string (b.extract 0 (b.size - 1))) ?_; intro a35 F35
    refine wpList_nil ?_
    have hst := base_st hb hk (by omega) (by omega) (by omega) hsl
    exact hK10 _ _ _ (by first | omega | (simp; omega)) ⟨b.extract 0 (b.size - 1), k - 1, rfl, (F35.kk 0 (F35.kk 2 F35.nil)), S10, hst.1, (by omega), hst.2, (by simp; omega)⟩
   ·have hc27p := ne_of_beq_false hc27
    have F36 := F26.sb 15 (by kernel_rfl) hc27
    have F37 := F36.sb 16 (by kernel_rfl) hc27
    refine wp_cond_false (F37.ev (by kernel_rfl)) ?_
    refine wp_exit ?_
    refine ex_then ?_; clear hK11 K11
    refine ex_then ?_
    refine ex_in ?_
    exact hK9 _ _ ⟨b, k, (F37.kk 0 (F37.kk 2 F37.nil)), S10, (by first | omega | (with_reducible assumption) | (simp; done)), (by first | omega | (with_reducible assumption) | (simp; done)), (by first | omega | (with_reducible assumption) | (simp; done)), (by first | omega | (with_reducible assumption) | (simp; done)), (.inr ⟨by omega, by omega⟩)⟩
  ·have hc17p := of_decide_eq_false hc17
   have F38 := F16.sb 8 (by kernel_rfl) hc17
   have F39 := F38.sb 9 (by kernel_rfl) hc17
   refine op_kq F39 ?_; intro a40 F40
   refine op_kq F40 ?_; intro a41 F41
   refine op_kq F41 ?_; intro a42 F42
   refine op_kq F42 ?_; intro a43 F43
   refine op_kq F43 ?_; intro a44 F44
   refine op_kq F44 ?_; intro a45 F45
   refine op_q F45 (.bool false) ?_; intro a46 F46
   refine wpList_nil ?_
   refine hK12 _ _ ?_; clear hK12 K12
   refine wp_cond_false (F46.ev (by kernel_rfl)) ?_
   refine wp_exit ?_
   refine ex_then ?_; clear hK11 K11
   refine ex_then ?_
   refine ex_in ?_
   exact hK9 _ _ ⟨b, k, (F46.kk 0 (F46.kk 2 F46.nil)), S10, (by first | omega | (with_reducible assumption) | (simp; done)), (by first | omega | (with_reducible assumption) | (simp; done)), (by first | omega | (with_reducible assumption) | (simp; done)), (by first | omega | (with_reducible assumption) | (simp; done)), (.inl (by omega))⟩
 ·rintro a47 w47 ⟨b, k, F47, S47, hb, hk, hsl, hbz, hx⟩
  refine wp_seq_k fun K48 hK48 => ?_
  refine wp_region_lit ?_
  refine op_q F47 (.string b) ?_; intro a49 F49
  refine op_q F49 (.int .i64 (↑b.size)) ?_; intro a50 F50
  refine op_rq (v := .int .i64 (↑b.size - 1)) F50 (r_sub (z := (↑b.size - 1)) rfl (F50.e (.int .i64 (↑b.size))) (F50.e (.int .i64 1)) (wr64 (by omega) (by omega) (by omega))) ?_; intro a51 F51
  refine op_q F51 (.int .i64 (↑b.size - 1)) ?_; intro a52 F52
  refine wpList_nil ?_
  refine hK48 _ _ ?_; clear hK48 K48
  refine fw_cut (fun a' w' => ∃ p : Nat, Fr 44 [] a' [(0, .string b), (2, .string ⟨#[]⟩), (3, .int .i64 (↑p - 1))] ∧ Sp R w' (L) ∧ (p ≤ b.size) ∧ (∀ j, ∀ h : j < b.size, p ≤ j → b[j].toNat ≠ 47) ∧ (p = 0 ∨ ∃ h : p - 1 < b.size, b[p - 1].toNat = 47)) ?_ ?_
  ·intro K53 hK53
   refine wp_block ?_
   refine fw_loop (fun m' a' w' => ∃ p : Nat, p = m' ∧ Fr 44 [] a' [(0, .string b), (2, .string ⟨#[]⟩), (3, .int .i64 (↑p - 1))] ∧ Sp R w' (L) ∧ (p ≤ b.size) ∧ (∀ j, ∀ h : j < b.size, p ≤ j → b[j].toNat ≠ 47)) _ ⟨b.size, rfl, (F52.kk 0 (F52.kk 2 (F52.kk 3 F52.nil))), S47, (by first | omega | (with_reducible assumption) | (simp; done)), (fun j h hp => absurd h (by omega))⟩ ?_
   rintro m54 a54 w54 ⟨p, hm54, F54, S54, hp, hno⟩ K54 hK54
   refine wp_seq_k fun K55 hK55 => ?_
   refine wp_seq_k fun K56 hK56 => ?_
   refine wp_region_lit ?_
   refine op_q F54 (.int .i64 (↑p - 1)) ?_; intro a57 F57
   refine op_q F57 (.bool (decide ((0 : Int) ≤ (↑p - 1)))) ?_; intro a58 F58
   refine op_q F58 (.bool (decide ((0 : Int) ≤ (↑p - 1)))) ?_; intro a59 F59
   rcases btf (decide ((0 : Int) ≤ (↑p - 1))) with hc60 | hc60
   ·have hp1 : 1 ≤ p := by have := of_decide_eq_true hc60; omega
    have F61 := F59.sb 26 (by kernel_rfl) hc60
    have F62 := F61.sb 27 (by kernel_rfl) hc60
    refine op_wq F62 ?_
    refine op_q F62 (.string b) ?_; intro a63 F63
    refine op_wq F63 ?_
    refine op_q F63 (.int .i64 (↑p - 1)) ?_; intro a64 F64
    refine op_wq F64 ?_
    refine op_rq (v := .int .u8 (↑b[p - 1].toNat)) F64 (r_index rfl Try.underlying9 (F64.e (.string b)) (F64.e (.int .i64 (↑p - 1))) (p - 1) (by first | rfl | omega | simp) (by first | omega | (simp; done) | (simp; omega))) ?_; intro a65 F65
    refine op_wq F65 ?_
    refine op_q F65 (.bool (!((↑b[p - 1].toNat : Int) == 47))) ?_; intro a66 F66
    refine op_q F66 (.bool (!((↑b[p - 1].toNat : Int) == 47))) ?_; intro a67 F67
    refine wpList_nil ?_
    refine hK56 _ _ ?_; clear hK56 K56
    rcases btf ((↑b[p - 1].toNat : Int) == 47) with hc68 | hc68
    ·have hc68p := eq_of_beq hc68
     have F69 := F67.sb 31 (by kernel_rfl) (show (!((↑b[p - 1].toNat : Int) == 47)) = false by rw [hc68]; rfl)
     have F70 := F69.sb 32 (by kernel_rfl) (show (!((↑b[p - 1].toNat : Int) == 47)) = false by rw [hc68]; rfl)
     refine wp_cond_false (F70.ev (by kernel_rfl)) ?_
     refine wp_exit ?_
     refine ex_then ?_; clear hK55 K55
     refine ex_then ?_
     refine ex_in ?_
     exact hK53 _ _ ⟨p, (F70.kk 0 (F70.kk 2 (F70.kk 3 F70.nil))), S54, (by first | omega | (with_reducible assumption) | (simp; done)), (by first | omega | (with_reducible assumption) | (simp; done)), (.inr ⟨by omega, by omega⟩)⟩
    ·have hc68p := ne_of_beq_false hc68
     have F71 := F67.sb 31 (by kernel_rfl) (show (!((↑b[p - 1].toNat : Int) == 47)) = true by rw [hc68]; rfl)
     have F72 := F71.sb 32 (by kernel_rfl) (show (!((↑b[p - 1].toNat : Int) == 47)) = true by rw [hc68]; rfl)
     refine wp_cond_true (F72.ev (by kernel_rfl)) ?_
     refine wp_skip ?_
     refine hK55 _ _ ?_; clear hK55 K55
     refine wp_block ?_
     refine wp_region_lit ?_
     refine op_q F72 (.int .i64 (↑p - 1)) ?_; intro a73 F73
     refine op_rq (v := .int .i64 (↑(p - 1) - 1)) F73 (r_sub (z := (↑(p - 1) - 1)) rfl (F73.e (.int .i64 (↑p - 1))) (F73.e (.int .i64 1)) (wr64 (by omega) (by omega) (by omega))) ?_; intro a74 F74
     refine op_q F74 (.int .i64 (↑(p - 1) - 1)) ?_; intro a75 F75
     refine wpList_nil ?_
     exact hK54 _ _ _ (by first | omega | (simp; omega)) ⟨p - 1, rfl, (F75.kk 0 (F75.kk 2 (F75.kk 3 F75.nil))), S54, (by omega), (fun j h hp1 => if e : p ≤ j then hno j h e else (by have e2 : j = p - 1 := (by omega); subst e2; omega))⟩
   ·have hp1 : p = 0 := by have := of_decide_eq_false hc60; omega
    have F76 := F59.sb 26 (by kernel_rfl) hc60
    have F77 := F76.sb 27 (by kernel_rfl) hc60
    refine op_kq F77 ?_; intro a78 F78
    refine op_kq F78 ?_; intro a79 F79
    refine op_kq F79 ?_; intro a80 F80
    refine op_kq F80 ?_; intro a81 F81
    refine op_q F81 (.bool false) ?_; intro a82 F82
    refine wpList_nil ?_
    refine hK56 _ _ ?_; clear hK56 K56
    refine wp_cond_false (F82.ev (by kernel_rfl)) ?_
    refine wp_exit ?_
    refine ex_then ?_; clear hK55 K55
    refine ex_then ?_
    refine ex_in ?_
    exact hK53 _ _ ⟨p, (F82.kk 0 (F82.kk 2 (F82.kk 3 F82.nil))), S54, (by first | omega | (with_reducible assumption) | (simp; done)), (by first | omega | (with_reducible assumption) | (simp; done)), (.inl hp1)⟩
  ·rintro a83 w83 ⟨p, F83, S83, hp, hno, hq⟩
   refine wp_seq_k fun K84 hK84 => ?_
   refine wp_seq_k fun K85 hK85 => ?_
   refine wp_region_lit ?_
   refine op_q F83 (.int .i64 (↑p - 1)) ?_; intro a86 F86
   refine op_q F86 (.bool (decide ((0 : Int) ≤ (↑p - 1)))) ?_; intro a87 F87
   refine wpList_nil ?_
   refine hK85 _ _ ?_; clear hK85 K85
   rcases btf (decide ((0 : Int) ≤ (↑p - 1))) with hc88 | hc88
   ·have hp1 : 1 ≤ p := by have := of_decide_eq_true hc88; omega
    have F89 := F87.sb 36 (by kernel_rfl) hc88
    refine wp_cond_true (F89.ev (by kernel_rfl)) ?_
    refine wp_region_lit ?_
    refine op_q F89 (.string b) ?_; intro a90 F90
    refine op_q F90 (.int .i64 (↑p - 1)) ?_; intro a91 F91
    refine op_rq (v := .int .i64 (↑p)) F91 (r_add (z := ↑p) rfl (F91.e (.int .i64 (↑p - 1))) (F91.e (.int .i64 1)) (wr64 (by omega) (by omega) (by omega))) ?_; intro a92 F92
    refine op_rq (v := .string (b.extract p b.size)) F92 (r_sll rfl Try.underlying9 (F92.e (.string b)) (F92.e (.int .i64 (↑p)))  p b.size (by first | rfl | omega | (simp; done) | (simp; omega)) (by first | omega | (simp; done) | (simp; omega)) (rfl)) ?_; intro a93 F93
    refine op_q F93 (.string (b.extract p b.size)) ?_; intro a94 F94
    refine wpList_nil ?_
    refine hK84 _ _ ?_; clear hK84 K84
    refine wp_seq_k fun K95 hK95 => ?_
    refine wp_seq_k fun K96 hK96 => ?_
    refine wp_region_lit ?_
    refine op_q F94 (.string (b.extract p b.size)) ?_; intro a97 F97
    refine op_q F97 (.bool ((b.extract p b.size).toList == (⟨#[]⟩ : ByteArray).toList)) ?_; intro a98 F98
    refine wpList_nil ?_
    refine hK96 _ _ ?_; clear hK96 K96
    rcases btf ((b.extract p b.size).toList == (⟨#[]⟩ : ByteArray).toList) with hc99 | hc99
    ·have F100 := F98.sb 42 (by kernel_rfl) hc99
     refine wp_cond_true (F100.ev (by kernel_rfl)) ?_
     refine wp_seq_k fun K101 hK101 => ?_
     refine wp_region_lit ?_
     refine op_q F100 (.string ⟨#[47]⟩) ?_; intro a102 F102
     refine wpList_nil ?_
     refine hK101 _ _ ?_; clear hK101 K101
     refine wp_ret ?_
     refine ret_then ?_
     refine (F102.res1 rfl (v := .string ⟨#[47]⟩) (by kernel_rfl) ?_).1
     exact ⟨(⟨#[47]⟩ : ByteArray), rfl, S83, (base_fin (r := b.extract p b.size) hs hb hk hsl hx hp (.inr ⟨by omega, by omega⟩) hno rfl (.inl ⟨emp_sz hc99, rfl⟩))⟩
    ·have F103 := F98.sb 42 (by kernel_rfl) hc99
     refine wp_cond_false (F103.ev (by kernel_rfl)) ?_
     refine wp_skip ?_
     refine hK95 _ _ ?_; clear hK95 K95
     refine wp_seq_k fun K104 hK104 => ?_
     refine wp_region_lit ?_
     refine op_q F103 (.string (b.extract p b.size)) ?_; intro a105 F105
     refine op_q F105 (.string (b.extract p b.size)) ?_; intro a106 F106
     refine wpList_nil ?_
     refine hK104 _ _ ?_; clear hK104 K104
     refine wp_ret ?_
     refine (F106.res1 rfl (v := .string (b.extract p b.size)) (by kernel_rfl) ?_).1
     exact ⟨(b.extract p b.size), rfl, S83, (base_fin (r := b.extract p b.size) hs hb hk hsl hx hp (.inr ⟨by omega, by omega⟩) hno rfl (.inr ⟨emp_pos hc99, rfl⟩))⟩
   ·have hp1 : p = 0 := by have := of_decide_eq_false hc88; omega
    have F107 := F87.sb 36 (by kernel_rfl) hc88
    refine wp_cond_false (F107.ev (by kernel_rfl)) ?_
    refine wp_skip ?_
    refine hK84 _ _ ?_; clear hK84 K84
    refine wp_seq_k fun K108 hK108 => ?_
    refine wp_seq_k fun K109 hK109 => ?_
    refine wp_region_lit ?_
    refine op_q F107 (.string b) ?_; intro a110 F110
    refine op_q F110 (.bool (b.toList == (⟨#[]⟩ : ByteArray).toList)) ?_; intro a111 F111
    refine wpList_nil ?_
    refine hK109 _ _ ?_; clear hK109 K109
    rcases btf (b.toList == (⟨#[]⟩ : ByteArray).toList) with hc112 | hc112
    ·have F113 := F111.sb 42 (by kernel_rfl) hc112
     refine wp_cond_true (F113.ev (by kernel_rfl)) ?_
     refine wp_seq_k fun K114 hK114 => ?_
     refine wp_region_lit ?_
     refine op_q F113 (.string ⟨#[47]⟩) ?_; intro a115 F115
     refine wpList_nil ?_
     refine hK114 _ _ ?_; clear hK114 K114
     refine wp_ret ?_
     refine ret_then ?_
     refine (F115.res1 rfl (v := .string ⟨#[47]⟩) (by kernel_rfl) ?_).1
     exact ⟨(⟨#[47]⟩ : ByteArray), rfl, S83, (base_fin (r := b) hs hb hk hsl hx hp (.inl hp1) hno (by rw [hp1]; exact ext_full b) (.inl ⟨emp_sz hc112, rfl⟩))⟩
    ·have F116 := F111.sb 42 (by kernel_rfl) hc112
     refine wp_cond_false (F116.ev (by kernel_rfl)) ?_
     refine wp_skip ?_
     refine hK108 _ _ ?_; clear hK108 K108
     refine wp_seq_k fun K117 hK117 => ?_
     refine wp_region_lit ?_
     refine op_q F116 (.string b) ?_; intro a118 F118
     refine op_q F118 (.string b) ?_; intro a119 F119
     refine wpList_nil ?_
     refine hK117 _ _ ?_; clear hK117 K117
     refine wp_ret ?_
     refine (F119.res1 rfl (v := .string b) (by kernel_rfl) ?_).1
     exact ⟨b, rfl, S83, (base_fin (r := b) hs hb hk hsl hx hp (.inl hp1) hno (by rw [hp1]; exact ext_full b) (.inr ⟨emp_pos hc112, rfl⟩))⟩
end Go.Proofs.Ytkjcedlgljeoiaa

/- spec.ChPerson, ChDependency, chCleaned, chBase, chAlias. -/
namespace Go.Proofs.Ytkjcedlgljeoiaa
open Go.RowKit Go.Lib
set_option linter.unusedVariables false
set_option linter.unusedSimpArgs false
def lowDash : ByteArray := ⟨#[95, 45]⟩
section
open Go.Lib
def alB (c : UInt8) : Bool := decide ((97 ≤ c.toNat ∧ c.toNat ≤ 122) ∨ (65 ≤ c.toNat ∧ c.toNat ≤ 90) ∨ (48 ≤ c.toNat ∧ c.toNat ≤ 57) ∨ c.toNat = 95 ∨ c.toNat = 45)
def aliasF (s : ByteArray) : Bool := s.data.toList.all alB
theorem aliasF_no {s : ByteArray} {k : Nat} (h : k < s.size) (hb : alB s[k] = false) : aliasF s = false := by
  unfold aliasF
  rw [List.all_eq_false]
  exact ⟨s[k], Array.getElem_mem_toList (by simpa using h), by simp [hb]⟩
theorem aliasF_yes {s : ByteArray} (h : ∀ j, ∀ hj : j < s.size, alB s[j] = true) : aliasF s = true := by
  unfold aliasF
  rw [List.all_eq_true]
  intro x hx
  obtain ⟨j, hj, rfl⟩ := List.getElem_of_mem hx
  exact h j (by simpa using hj)
set_option maxRecDepth 100000 in
set_option maxHeartbeats 2000000 in
theorem chAlias_any (s : ByteArray) (w : World) (hs : s.size ≤ 9223372036854775807) : Calls Try.prog 183 #[.string s] w fun e w' => e = .returned (.bool (aliasF s)) ∧ w = w' := by
  go_enter Try.func183, Try.ntmps183
  go_wp2
  go_loop [3, 4] (fun i _ => ∃ k : Nat, k ≤ s.size ∧ i = .int .i64 k ∧ Hid (∀ j, ∀ hj : j < s.size, j < k → alB s[j] = true)) (fun i _ => s.size - (intOf i).toNat)
  case atStart => exact ⟨0, Nat.zero_le _, rfl, fun j _ h0 => by omega⟩
  case round =>
    obtain ⟨k, hk, rfl, HA⟩ := hrel
    by_cases hlt : k < s.size
    · have h255 : (s[k].toNat : Int) ≤ 255 := by have := s[k].toNat_lt; omega
      go_wp2
      all_goals (try simp only [Bool.not_eq_eq_eq_not, Bool.not_true, Bool.not_false, decide_eq_true_eq, decide_eq_false_iff_not, beq_iff_eq, beq_eq_false_iff_ne, ne_eq] at *)
      all_goals first
        | (refine ⟨⟨k + 1, by omega, by go_num, fun j hj hjk => ?_⟩, ?_⟩
           · by_cases e : j = k
             · subst e; unfold alB; rw [decide_eq_true_eq]; omega
             · exact HA.out j hj (by omega)
           · simp [intOf]; omega)
        | (go_ret
           exact ⟨ret_bool (aliasF_no hlt (by unfold alB; rw [decide_eq_false_iff_not]; omega)).symm, rfl⟩)
    · obtain rfl : k = s.size := by omega
      go_wp2
      go_ret
      exact ⟨ret_bool (aliasF_yes fun j hj => HA.out j hj hj).symm, rfl⟩
theorem ok_alias : ∀ n : Fin 256, okU lowDash n.val = alB (UInt8.ofNat n.val) := by decide +kernel
theorem wordB_alias (s : ByteArray) (h : s.data.toList ≠ []) : wordB s lowDash = aliasF s := by
  unfold wordB aliasF
  have e : s.data.toList.isEmpty = false := by
    cases hh : s.data.toList with
    | nil => exact absurd hh h
    | cons _ _ => rfl
  rw [e, Bool.not_false, Bool.and_true]
  congr 1
  funext c
  have := ok_alias ⟨c.toNat, c.toNat_lt⟩
  simpa [UInt8.ofNat_toNat] using this
end
def perC (p : Ty78) : Ty78 := { p with fName := cleanF p.fName, fEmail := cleanF p.fEmail, fURL := cleanF p.fURL }
/-- Behind its validation; its tags lie at B. -/
def depC (d : Ty80) (B : Option Addr) (b : Nat) : Ty80 := { d with fName := cleanF d.fName, fVersion := cleanF d.fVersion, fRepository := cleanF d.fRepository, fCondition := cleanF d.fCondition, fTags_a := B, fTags_c := b, fTags := cleansF d.fTags }
theorem cb_root {s b : ByteArray} {k : Nat} (hs : 0 < s.size) (hb : b = s.extract 0 k) (hk : k ≤ s.size) (hsl : ∀ j, ∀ h : j < s.size, k ≤ j → s[j].toNat = 47) (h0 : b.size = 0) :
    ((⟨#[47]⟩ : ByteArray).toList == s.toList) = (!slB s || (s.toList == (⟨#[47]⟩ : ByteArray).toList)) :=
  base_fin (r := b.extract 0 b.size) (p := 0) hs hb hk hsl (.inl h0) (Nat.zero_le _) (.inl rfl) (fun j h _ => absurd h (by omega)) rfl (.inl ⟨by rw [← ext_full b]; exact h0, rfl⟩)
theorem cb_found {s b : ByteArray} {k p : Nat} (hs : 0 < s.size) (hb : b = s.extract 0 k) (hk : k ≤ s.size) (hsl : ∀ j, ∀ h : j < s.size, k ≤ j → s[j].toNat = 47) (hx : b.size = 0 ∨ ∃ h : b.size - 1 < b.size, b[b.size - 1].toNat ≠ 47) (h1 : 1 ≤ p) (h2 : p - 1 < b.size) (e : b[p - 1].toNat = 47) (hno : ∀ j, ∀ h : j < b.size, p ≤ j → b[j].toNat ≠ 47) :
    ((b.extract p b.size).toList == s.toList) = (!slB s || (s.toList == (⟨#[47]⟩ : ByteArray).toList)) :=
  base_fin (r := b.extract p b.size) hs hb hk hsl hx (by omega) (.inr ⟨h2, e⟩) hno rfl (.inr ⟨by
    rcases hx with hx | ⟨h3, h4⟩
    · omega
    · have : p ≠ b.size := fun e2 => h4 (by subst e2; exact e)
      simp; omega, rfl⟩)
theorem cb_all {s b : ByteArray} {k : Nat} (hs : 0 < s.size) (hb : b = s.extract 0 k) (hk : k ≤ s.size) (hsl : ∀ j, ∀ h : j < s.size, k ≤ j → s[j].toNat = 47) (hx : b.size = 0 ∨ ∃ h : b.size - 1 < b.size, b[b.size - 1].toNat ≠ 47) (h0 : 0 < b.size) (hno : ∀ j, ∀ h : j < b.size, 0 ≤ j → b[j].toNat ≠ 47) :
    (b.toList == s.toList) = (!slB s || (s.toList == (⟨#[47]⟩ : ByteArray).toList)) :=
  base_fin (r := b.extract 0 b.size) (p := 0) hs hb hk hsl hx (Nat.zero_le _) (.inl rfl) hno rfl (.inr ⟨by simp; omega, ext_full b⟩)
set_option maxRecDepth 100000 in
set_option maxHeartbeats 20000000 in
theorem chCleaned_sp (A : Option Addr) (c : Nat) (xs : List ByteArray) (R : Ctx) (L : List SA) (w : World) (S : Sp R w (L)) (h0 : Rf R L fun w => Sl w (A) (strs xs)) (hx : ∀ x ∈ xs, x.size ≤ 1000000) (hxn : xs.length ≤ 1000000) :
  Calls Try.prog 119 #[.slice (A) (xs.length) (c)] w fun e w' => ∃ B : Option Addr, ∃ b : Nat, e = .returned (.slice B ((cleansF xs).length) b) ∧ Sp R w' (SA.own (.slice B (cleansF xs).length b) 9 1 ((cleansF xs).length) (strs (cleansF xs)) :: L) := by
 have hl_xs : xs.length ≤ 9223372036854775807 := by have := (h0 _ S).1; simpa [strs, ptrs, pps] using this
 refine fw_enter (fn := Try.f119) rfl rfl 19 rfl (Nat.le_of_ble_eq_true rfl) ?_
 intro a0 F0
 refine wp_seq_k fun K1 hK1 => ?_
 refine wp_region_lit ?_
 refine op_q F0 (.slice none 0 0) ?_; intro a2 F2
 refine wpList_nil ?_
 refine hK1 _ _ ?_; clear hK1 K1
 refine wp_seq_k fun K3 hK3 => ?_
 refine wp_region_lit ?_
 refine op_q F2 (.slice none 0 0) ?_; intro a4 F4
 refine wpList_nil ?_
 refine hK3 _ _ ?_; clear hK3 K3
 refine wp_seq_k fun K5 hK5 => ?_
 refine wp_seq_k fun K6 hK6 => ?_
 refine wp_region_lit ?_
 refine op_q F4 (.slice (A) (xs.length) (c)) ?_; intro a7 F7
 refine op_q F7 (.int .i64 (↑xs.length)) ?_; intro a8 F8
 refine op_q F8 (.int .i64 0) ?_; intro a9 F9
 refine wpList_nil ?_
 refine hK6 _ _ ?_; clear hK6 K6
 refine wp_block ?_
 refine fw_loop (fun m' a' w' => ∃ B : Option Addr, ∃ b : Nat, ∃ es : List ByteArray, ∃ i : Nat, xs.length - i = m' ∧ Fr 19 [] a' [(2, .slice none 0 0), (3, .slice B es.length b), (6, .slice (A) (xs.length) (c)), (7, .int .i64 (↑xs.length)), (8, .int .i64 (↑i))] ∧ Sp R w' (SA.own (.slice B es.length b) 9 1 es.length (strs es) :: L) ∧ (i ≤ xs.length) ∧ (es = (xs.take i).map cleanF) ∧ (es.length = i)) _ ⟨none, 0, [], 0, rfl, (F9.kk 2 (F9.kk 3 (F9.kk 6 (F9.kk 7 (F9.kk 8 F9.nil))))), (Sp.nilown S), (by first | omega | (with_reducible assumption) | (simp; done)), rfl, rfl⟩ ?_
 rintro m10 a10 w10 ⟨B, b, es, i, hm10, F10, S10, hi, hes, hel⟩ K10 hK10
 by_cases hlt_i : i < xs.length
 ·have hc_i : decide ((↑i : Int) < ↑xs.length) = true := by first | (simp; done) | (simp; omega)
  have hxi := hx _ (List.getElem_mem hlt_i)
  obtain ⟨ad11, hA11⟩ := (h0 _ S10.drop).addr (by simp [strs]; omega)
  refine wp_seq_k fun K12 hK12 => ?_
  refine wp_region_lit ?_
  refine op_q F10 (.bool (decide ((↑i : Int) < ↑xs.length))) ?_; intro a13 F13
  have F14 := F13.sb 9 (by kernel_rfl) hc_i
  refine wpList_nil ?_
  refine hK12 _ _ ?_; clear hK12 K12
  refine wp_seq_k fun K15 hK15 => ?_
  refine wp_cond_true (F14.ev (by kernel_rfl)) ?_
  refine wp_skip ?_
  refine hK15 _ _ ?_; clear hK15 K15
  refine wp_seq_k fun K16 hK16 => ?_
  refine wp_block ?_
  refine wp_seq_k fun K17 hK17 => ?_
  refine wp_region_lit ?_
  refine op_rq (v := .pointer (some (ad11.add i))) F14 (r_ix rfl Try.underlying22 1 (by kernel_rfl) (F14.e (.slice (A) (xs.length) (c))) hA11 (F14.e (.int .i64 (↑i))) i (by first | rfl | omega | simp) (by first | omega | (simp; done) | (simp; omega)) (by simp only [Nat.mul_one])) ?_; intro a18 F18
  refine op_rq (v := .string xs[i]) F18 (r_ld rfl (F18.e (.pointer (some (ad11.add i)))) (v := .string xs[i]) ((h0 _ S10.drop).elA hA11 (j := i) (by simp only [strs, List.getElem?_map, List.getElem?_eq_getElem hlt_i]; rfl)) Try.underlying9 rfl) ?_; intro a19 F19
  refine op_q F19 (.string xs[i]) ?_; intro a20 F20
  refine wpList_nil ?_
  refine hK17 _ _ ?_; clear hK17 K17
  refine wp_region_lit ?_
  refine op_q F20 (.slice B es.length b) ?_; intro a21 F21
  refine op_q F21 (.string xs[i]) ?_; intro a22 F22
  refine op_cq F22 (f := 118) (args := #[.string xs[i]]) (chClean_any xs[i] _ (by first | omega | (simp; done) | (simp; omega))) ?_
  rintro _ w23 ⟨rfl, hb_23⟩
  refine ⟨_, rfl, ?_⟩
  intro a24 F24
  have S23 := S10.below hb_23
  refine op_sq F24 (s_news F24 9 #[.string (cleanF xs[i])] 1 (by kernel_rfl) (by kernel_rfl) (by kernel_rfl) S23) ?_
  rintro _ _ w26 ⟨g24, rfl, rfl⟩ S26 a26 F26
  refine op_sq F26 (s_app rfl Try.underlying22 1 _ tin9 rfl rfl (F26.e (.slice B es.length b)) S26.p1 ([Value.string (cleanF xs[i])]) (F26.e (.slice (some ⟨g24, 0, none⟩) 1 1)) ((S26.bk 0 rfl).sl (by simp)) rfl (by simp [Value.oneCell']) (by omega) (by omega) (n' := (es ++ [cleanF xs[i]]).length) (by first | (simp; done) | (simp; omega)) (cs' := strs (es ++ [cleanF xs[i]])) (by simp [strs])) ?_
  rintro _ _ w28 ⟨A27, c27, rfl, rfl⟩ S28 a28 F28
  refine op_q F28 (.slice A27 ((es ++ [cleanF xs[i]]).length) c27) ?_; intro a29 F29
  refine wpList_nil ?_
  refine hK16 _ _ ?_; clear hK16 K16
  refine wp_region_lit ?_
  refine op_rq (v := .int .i64 (↑(i + 1))) F29 (r_add (z := ↑(i + 1)) rfl (F29.e (.int .i64 (↑i))) (F29.e (.int .i64 1)) (wr64 (by omega) (by omega) (by omega))) ?_; intro a30 F30
  refine op_q F30 (.int .i64 (↑(i + 1))) ?_; intro a31 F31
  refine wpList_nil ?_
  exact hK10 _ _ _ (by first | omega | (simp; omega)) ⟨A27, c27, es ++ [cleanF xs[i]], i + 1, rfl, (F31.kk 2 (F31.kk 3 (F31.kk 6 (F31.kk 7 (F31.kk 8 F31.nil))))), S28.p1.drop, (by first | omega | (with_reducible assumption) | (simp; done)), (by rw [hes, List.take_succ_eq_append_getElem hlt_i, List.map_append, List.map_cons, List.map_nil]), (by simp [hel])⟩
 ·have hc_i : decide ((↑i : Int) < ↑xs.length) = false := by first | (simp; done) | (simp; omega)
  obtain rfl : i = xs.length := by omega
  obtain rfl : es = cleansF xs := by rw [hes, List.take_length]; rfl
  refine wp_seq_k fun K32 hK32 => ?_
  refine wp_region_lit ?_
  refine op_q F10 (.bool (decide ((↑xs.length : Int) < ↑xs.length))) ?_; intro a33 F33
  have F34 := F33.sb 9 (by kernel_rfl) hc_i
  refine wpList_nil ?_
  refine hK32 _ _ ?_; clear hK32 K32
  refine wp_seq_k fun K35 hK35 => ?_
  refine wp_cond_false (F34.ev (by kernel_rfl)) ?_
  refine wp_exit ?_
  refine ex_then ?_; clear hK35 K35
  refine ex_then ?_
  refine ex_in ?_
  refine hK5 _ _ ?_; clear hK5 K5
  refine wp_seq_k fun K36 hK36 => ?_
  refine wp_region_lit ?_
  refine op_q F34 (.slice B (cleansF xs).length b) ?_; intro a37 F37
  refine op_q F37 (.slice B (cleansF xs).length b) ?_; intro a38 F38
  refine wpList_nil ?_
  refine hK36 _ _ ?_; clear hK36 K36
  refine wp_ret ?_
  refine (F38.res1 rfl (v := .slice B (cleansF xs).length b) (by kernel_rfl) ?_).1
  exact ⟨B, b, rfl, S10⟩
set_option maxRecDepth 100000 in
set_option maxHeartbeats 20000000 in
theorem chPersonS_nil (p : Ty78) (R : Ctx) (L : List SA) (w : World) (S : Sp R w (L))  (hn : p.fNil = true) :
    Calls Try.prog 121 #[.agg #[.bool p.fNil, .string p.fName, .string p.fEmail, .string p.fURL]] w fun e w' => e = .returned (.tuple #[.agg #[.bool p.fNil, .string p.fName, .string p.fEmail, .string p.fURL], .bool false]) ∧ Sp R w' (L) := by
  refine fw_enter (fn := Try.f121) rfl rfl 20 rfl (Nat.le_of_ble_eq_true rfl) ?_
  intro a0 F0
  refine wp_seq_k fun K1 hK1 => ?_
  refine wp_region_lit ?_
  refine op_sq F0 (s_newp F0 78 #[.bool p.fNil, .string p.fName, .string p.fEmail, .string p.fURL] (by kernel_rfl) (by kernel_rfl) (by kernel_rfl) S) ?_
  rintro _ _ w3 ⟨g1, rfl, rfl⟩ S3 a3 F3
  refine op_sq F3 (s_newp F3 78 #[.bool false, .string ⟨#[]⟩, .string ⟨#[]⟩, .string ⟨#[]⟩] (by kernel_rfl) (by kernel_rfl) (by kernel_rfl) S3) ?_
  rintro _ _ w5 ⟨g3, rfl, rfl⟩ S5 a5 F5
  refine op_q F5 (.bool false) ?_; intro a6 F6
  refine wpList_nil ?_
  refine hK1 _ _ ?_; clear hK1 K1
  refine wp_seq_k fun K7 hK7 => ?_
  refine wp_seq_k fun K8 hK8 => ?_
  refine wp_region_lit ?_
  refine op_q F6 (.pointer (some ⟨g1, 0, none⟩)) ?_; intro a9 F9
  refine op_rq (v := .bool p.fNil) F9 (r_ld rfl (F9.e (.pointer (some ⟨g1, 0, none⟩))) (v := .bool p.fNil) ((S5.bk 1 rfl).cell 0) Try.underlying4 rfl) ?_; intro a10 F10
  refine wpList_nil ?_
  refine hK8 _ _ ?_; clear hK8 K8
  have hc11 : (p.fNil) = true := hn
  have F12 := F10.sb 5 (by kernel_rfl) hc11
  refine wp_cond_true (F12.ev (by kernel_rfl)) ?_
  refine wp_seq_k fun K13 hK13 => ?_
  refine wp_region_lit ?_
  refine op_rq (v := .agg #[.bool p.fNil, .string p.fName, .string p.fEmail, .string p.fURL]) F12 (r_ldm rfl (F12.e (.pointer (some ⟨g1, 0, none⟩))) (S5.bk 1 rfl) 4 (by kernel_rfl) Try.underlying78 rfl (by kernel_rfl) (v := #[.bool p.fNil, .string p.fName, .string p.fEmail, .string p.fURL]) (by kernel_rfl)) ?_; intro a14 F14
  refine op_sq0 F14 (s_stb rfl (F14.e (.pointer (some ⟨g3, 0, none⟩))) (F14.e (.agg #[.bool p.fNil, .string p.fName, .string p.fEmail, .string p.fURL])) S5 (by kernel_rfl) rfl (by kernel_rfl)) ?_
  rintro _ _ w15 rfl S15 F15
  refine op_q F15 (.bool false) ?_; intro a16 F16
  refine wpList_nil ?_
  refine hK13 _ _ ?_; clear hK13 K13
  refine wp_ret ?_
  refine ret_then ?_
  refine (F16.resC (results2 Try.results121 (F16.rvc (p := ⟨g3, 0, none⟩) (by kernel_rfl) (ld_mid (S15.bk 0 rfl) 4 (by kernel_rfl) Try.underlying78 rfl (by kernel_rfl) (v := #[.bool p.fNil, .string p.fName, .string p.fEmail, .string p.fURL]) (by kernel_rfl))) (F16.rvt (v := .bool false) (by kernel_rfl))) ?_).1
  exact ⟨rfl, S15.drop.drop⟩
abbrev zq19 (x0 : Ty78) : Array Value := #[.bool x0.fNil, .string (cleanF x0.fName), .string (cleanF x0.fEmail), .string (cleanF x0.fURL)]
set_option maxRecDepth 100000 in
set_option maxHeartbeats 20000000 in
theorem chPersonS_sp (p : Ty78) (R : Ctx) (L : List SA) (w : World) (S : Sp R w (L))  (hs0 : p.fName.size ≤ 1000000) (hs1 : p.fEmail.size ≤ 1000000) (hs2 : p.fURL.size ≤ 1000000) (hn : p.fNil = false) :
  Calls Try.prog 121 #[.agg #[.bool p.fNil, .string p.fName, .string p.fEmail, .string p.fURL]] w fun e w' => e = .returned (.tuple #[.agg #[.bool p.fNil, .string (cleanF p.fName), .string (cleanF p.fEmail), .string (cleanF p.fURL)], .bool true]) ∧ Sp R w' (L) := by
 refine fw_enter (fn := Try.f121) rfl rfl 20 rfl (Nat.le_of_ble_eq_true rfl) ?_
 intro a0 F0
 refine wp_seq_k fun K1 hK1 => ?_
 refine wp_region_lit ?_
 refine op_sq F0 (s_newp F0 78 #[.bool p.fNil, .string p.fName, .string p.fEmail, .string p.fURL] (by kernel_rfl) (by kernel_rfl) (by kernel_rfl) S) ?_
 rintro _ _ w3 ⟨g1, rfl, rfl⟩ S3 a3 F3
 refine op_sq F3 (s_newp F3 78 #[.bool false, .string ⟨#[]⟩, .string ⟨#[]⟩, .string ⟨#[]⟩] (by kernel_rfl) (by kernel_rfl) (by kernel_rfl) S3) ?_
 rintro _ _ w5 ⟨g3, rfl, rfl⟩ S5 a5 F5
 refine op_q F5 (.bool false) ?_; intro a6 F6
 refine wpList_nil ?_
 refine hK1 _ _ ?_; clear hK1 K1
 refine wp_seq_k fun K7 hK7 => ?_
 refine wp_seq_k fun K8 hK8 => ?_
 refine wp_region_lit ?_
 refine op_q F6 (.pointer (some ⟨g1, 0, none⟩)) ?_; intro a9 F9
 refine op_rq (v := .bool p.fNil) F9 (r_ld rfl (F9.e (.pointer (some ⟨g1, 0, none⟩))) (v := .bool p.fNil) ((S5.bk 1 rfl).cell 0) Try.underlying4 rfl) ?_; intro a10 F10
 refine wpList_nil ?_
 refine hK8 _ _ ?_; clear hK8 K8
 have hc11 : (p.fNil) = false := hn
 have F12 := F10.sb 5 (by kernel_rfl) hc11
 refine wp_cond_false (F12.ev (by kernel_rfl)) ?_
 refine wp_skip ?_
 refine hK7 _ _ ?_; clear hK7 K7
 refine wp_seq_k fun K13 hK13 => ?_
 refine wp_region_sepF (L0 := SA.blk g3 78 #[.bool false, .string ⟨#[]⟩, .string ⟨#[]⟩, .string ⟨#[]⟩] :: SA.blk g1 78 #[.bool p.fNil, .string p.fName, .string p.fEmail, .string p.fURL] :: L) [some [], some [(0, 7)], some [(1, 8)], some [], some [(3, 10)], some [(4, 11)], some [], some [(6, 13)], some [(7, 14)], some [], none, none, none, none, none] [.v 7 (.pointer (some ⟨g1, 1, none⟩)), .v 8 (.string p.fName), .v 9 (.string (cleanF p.fName)), .v 10 (.pointer (some ⟨g1, 2, none⟩)), .v 11 (.string p.fEmail), .v 12 (.string (cleanF p.fEmail)), .v 13 (.pointer (some ⟨g1, 3, none⟩)), .v 14 (.string p.fURL), .v 15 (.string (cleanF p.fURL)), .v 16 (.pointer (some ⟨g1, 1, none⟩)), .n SA.emp (fun _ _ A => A = SA.emp), .n SA.emp (fun _ _ A => A = SA.emp), .n SA.emp (fun _ _ A => A = SA.emp), .n SA.emp (fun _ _ A => A = SA.emp), .n SA.emp (fun _ _ A => A = SA.emp)] [] F12 rfl (by kernel_rfl) S5 ?_ ?_
 ·refine ⟨?_, ?_, ?_, ?_, ?_, ?_, ?_, ?_, ?_, ?_, trivial⟩
  ·intro w33 M33
   intro a33 F33 S33
   refine obl_of (by rfl) ?_
   exact s_p F33 (v := .pointer (some ⟨g1, 1, none⟩)) (by kernel_rfl) (by kernel_rfl) (by kernel_rfl) S33
  ·intro w34 M34
   intro a34 F34 S34
   refine obl_of (by rfl) ?_
   exact s_r (v := .string p.fName) (r_ld rfl (F34.e (.pointer (some ⟨g1, 1, none⟩))) (v := .string p.fName) (((Sp.dropM S34.drop).bk 1 rfl).cell 1) Try.underlying9 rfl) S34
  ·intro w36 M36
   intro a36 F36 S36
   refine obl_of (by rfl) ?_
   refine s_c F36 (f := 118) (args := #[.string p.fName]) (by kernel_rfl) (by kernel_rfl) (by kernel_rfl) (chClean_any p.fName _ (by first | omega | (simp; done) | (simp; omega))) ?_
   rintro _ _ ⟨rfl, hb_38⟩
   exact ⟨_, _, rfl, ⟨rfl, rfl⟩, S36.below hb_38⟩
  ·intro w39 M39
   intro a39 F39 S39
   refine obl_of (by rfl) ?_
   exact s_p F39 (v := .pointer (some ⟨g1, 2, none⟩)) (by kernel_rfl) (by kernel_rfl) (by kernel_rfl) S39
  ·intro w40 M40
   intro a40 F40 S40
   refine obl_of (by rfl) ?_
   exact s_r (v := .string p.fEmail) (r_ld rfl (F40.e (.pointer (some ⟨g1, 2, none⟩))) (v := .string p.fEmail) (((Sp.dropM S40.drop).bk 1 rfl).cell 2) Try.underlying9 rfl) S40
  ·intro w42 M42
   intro a42 F42 S42
   refine obl_of (by rfl) ?_
   refine s_c F42 (f := 118) (args := #[.string p.fEmail]) (by kernel_rfl) (by kernel_rfl) (by kernel_rfl) (chClean_any p.fEmail _ (by first | omega | (simp; done) | (simp; omega))) ?_
   rintro _ _ ⟨rfl, hb_44⟩
   exact ⟨_, _, rfl, ⟨rfl, rfl⟩, S42.below hb_44⟩
  ·intro w45 M45
   intro a45 F45 S45
   refine obl_of (by rfl) ?_
   exact s_p F45 (v := .pointer (some ⟨g1, 3, none⟩)) (by kernel_rfl) (by kernel_rfl) (by kernel_rfl) S45
  ·intro w46 M46
   intro a46 F46 S46
   refine obl_of (by rfl) ?_
   exact s_r (v := .string p.fURL) (r_ld rfl (F46.e (.pointer (some ⟨g1, 3, none⟩))) (v := .string p.fURL) (((Sp.dropM S46.drop).bk 1 rfl).cell 3) Try.underlying9 rfl) S46
  ·intro w48 M48
   intro a48 F48 S48
   refine obl_of (by rfl) ?_
   refine s_c F48 (f := 118) (args := #[.string p.fURL]) (by kernel_rfl) (by kernel_rfl) (by kernel_rfl) (chClean_any p.fURL _ (by first | omega | (simp; done) | (simp; omega))) ?_
   rintro _ _ ⟨rfl, hb_50⟩
   exact ⟨_, _, rfl, ⟨rfl, rfl⟩, S48.below hb_50⟩
  ·intro w51 M51
   intro a51 F51 S51
   refine obl_of (by rfl) ?_
   exact s_p F51 (v := .pointer (some ⟨g1, 1, none⟩)) (by kernel_rfl) (by kernel_rfl) (by kernel_rfl) S51
 ·intro a53 w52 F53 S52
  have S54 : Sp R w52 (SA.blk g3 78 #[.bool false, .string ⟨#[]⟩, .string ⟨#[]⟩, .string ⟨#[]⟩] :: SA.blk g1 78 #[.bool p.fNil, .string p.fName, .string p.fEmail, .string p.fURL] :: L) := S52
  refine op_sq0 F53 (s_st rfl (F53.e (.pointer (some ⟨g1, 1, none⟩))) (F53.e (.string (cleanF p.fName))) S54.p1 (by kernel_rfl) rfl rfl rfl (cs := #[.bool p.fNil, .string (cleanF p.fName), .string p.fEmail, .string p.fURL]) (by kernel_rfl)) ?_
  rintro _ _ w55 rfl S55 F55
  refine op_q F55 (.pointer (some ⟨g1, 2, none⟩)) ?_; intro a56 F56
  refine op_sq0 F56 (s_st rfl (F56.e (.pointer (some ⟨g1, 2, none⟩))) (F56.e (.string (cleanF p.fEmail))) S55 (by kernel_rfl) rfl rfl rfl (cs := #[.bool p.fNil, .string (cleanF p.fName), .string (cleanF p.fEmail), .string p.fURL]) (by kernel_rfl)) ?_
  rintro _ _ w57 rfl S57 F57
  refine op_q F57 (.pointer (some ⟨g1, 3, none⟩)) ?_; intro a58 F58
  refine op_sq0 F58 (s_st rfl (F58.e (.pointer (some ⟨g1, 3, none⟩))) (F58.e (.string (cleanF p.fURL))) S57 (by kernel_rfl) rfl rfl rfl (cs := (zq19 p)) (by kernel_rfl)) ?_
  rintro _ _ w59 rfl S59 F59
  refine wpList_nil ?_
  refine hK13 _ _ ?_; clear hK13 K13
  refine wp_seq_k fun K60 hK60 => ?_
  refine wp_region_lit ?_
  refine op_rq (v := .agg (zq19 p)) F59 (r_ldm rfl (F59.e (.pointer (some ⟨g1, 0, none⟩))) (S59.bk 0 rfl) 4 (by kernel_rfl) Try.underlying78 rfl (by kernel_rfl) (v := (zq19 p)) (by kernel_rfl)) ?_; intro a61 F61
  refine op_sq0 F61 (s_stb rfl (F61.e (.pointer (some ⟨g3, 0, none⟩))) (F61.e (.agg (zq19 p))) S59.p1 (by kernel_rfl) rfl (by kernel_rfl)) ?_
  rintro _ _ w62 rfl S62 F62
  refine op_q F62 (.bool true) ?_; intro a63 F63
  refine wpList_nil ?_
  refine hK60 _ _ ?_; clear hK60 K60
  refine wp_ret ?_
  refine (F63.resC (results2 Try.results121 (F63.rvc (p := ⟨g3, 0, none⟩) (by kernel_rfl) (ld_mid (S62.bk 0 rfl) 4 (by kernel_rfl) Try.underlying78 rfl (by kernel_rfl) (v := (zq19 p)) (by kernel_rfl))) (F63.rvt (v := .bool true) (by kernel_rfl))) ?_).1
  exact ⟨rfl, S62.drop.drop⟩
set_option maxRecDepth 100000 in
set_option maxHeartbeats 20000000 in
theorem chDepS_nil (d : Ty80) (R : Ctx) (L : List SA) (w : World) (S : Sp R w (L))  (hn : d.fNil = true) :
    Calls Try.prog 122 #[.agg #[.bool d.fNil, .string d.fName, .string d.fVersion, .string d.fRepository, .string d.fCondition, .slice (d.fTags_a) (d.fTags.length) (d.fTags_c), .string d.fAlias]] w fun e w' => e = .returned (.tuple #[.agg #[.bool d.fNil, .string d.fName, .string d.fVersion, .string d.fRepository, .string d.fCondition, .slice (d.fTags_a) (d.fTags.length) (d.fTags_c), .string d.fAlias], .bool false]) ∧ Sp R w' (L) := by
  refine fw_enter (fn := Try.f122) rfl rfl 31 rfl (Nat.le_of_ble_eq_true rfl) ?_
  intro a0 F0
  refine wp_seq_k fun K1 hK1 => ?_
  refine wp_region_lit ?_
  refine op_sq F0 (s_newp F0 80 #[.bool d.fNil, .string d.fName, .string d.fVersion, .string d.fRepository, .string d.fCondition, .slice (d.fTags_a) (d.fTags.length) (d.fTags_c), .string d.fAlias] (by kernel_rfl) (by kernel_rfl) (by kernel_rfl) S) ?_
  rintro _ _ w3 ⟨g1, rfl, rfl⟩ S3 a3 F3
  refine op_sq F3 (s_newp F3 80 #[.bool false, .string ⟨#[]⟩, .string ⟨#[]⟩, .string ⟨#[]⟩, .string ⟨#[]⟩, .slice none 0 0, .string ⟨#[]⟩] (by kernel_rfl) (by kernel_rfl) (by kernel_rfl) S3) ?_
  rintro _ _ w5 ⟨g3, rfl, rfl⟩ S5 a5 F5
  refine op_q F5 (.bool false) ?_; intro a6 F6
  refine wpList_nil ?_
  refine hK1 _ _ ?_; clear hK1 K1
  refine wp_seq_k fun K7 hK7 => ?_
  refine wp_seq_k fun K8 hK8 => ?_
  refine wp_region_lit ?_
  refine op_q F6 (.pointer (some ⟨g1, 0, none⟩)) ?_; intro a9 F9
  refine op_rq (v := .bool d.fNil) F9 (r_ld rfl (F9.e (.pointer (some ⟨g1, 0, none⟩))) (v := .bool d.fNil) ((S5.bk 1 rfl).cell 0) Try.underlying4 rfl) ?_; intro a10 F10
  refine wpList_nil ?_
  refine hK8 _ _ ?_; clear hK8 K8
  have hc11 : (d.fNil) = true := hn
  have F12 := F10.sb 5 (by kernel_rfl) hc11
  refine wp_cond_true (F12.ev (by kernel_rfl)) ?_
  refine wp_seq_k fun K13 hK13 => ?_
  refine wp_region_lit ?_
  refine op_rq (v := .agg #[.bool d.fNil, .string d.fName, .string d.fVersion, .string d.fRepository, .string d.fCondition, .slice (d.fTags_a) (d.fTags.length) (d.fTags_c), .string d.fAlias]) F12 (r_ldm rfl (F12.e (.pointer (some ⟨g1, 0, none⟩))) (S5.bk 1 rfl) 7 (by kernel_rfl) Try.underlying80 rfl (by kernel_rfl) (v := #[.bool d.fNil, .string d.fName, .string d.fVersion, .string d.fRepository, .string d.fCondition, .slice (d.fTags_a) (d.fTags.length) (d.fTags_c), .string d.fAlias]) (by kernel_rfl)) ?_; intro a14 F14
  refine op_sq0 F14 (s_stb rfl (F14.e (.pointer (some ⟨g3, 0, none⟩))) (F14.e (.agg #[.bool d.fNil, .string d.fName, .string d.fVersion, .string d.fRepository, .string d.fCondition, .slice (d.fTags_a) (d.fTags.length) (d.fTags_c), .string d.fAlias])) S5 (by kernel_rfl) rfl (by kernel_rfl)) ?_
  rintro _ _ w15 rfl S15 F15
  refine op_q F15 (.bool false) ?_; intro a16 F16
  refine wpList_nil ?_
  refine hK13 _ _ ?_; clear hK13 K13
  refine wp_ret ?_
  refine ret_then ?_
  refine (F16.resC (results2 Try.results122 (F16.rvc (p := ⟨g3, 0, none⟩) (by kernel_rfl) (ld_mid (S15.bk 0 rfl) 7 (by kernel_rfl) Try.underlying80 rfl (by kernel_rfl) (v := #[.bool d.fNil, .string d.fName, .string d.fVersion, .string d.fRepository, .string d.fCondition, .slice (d.fTags_a) (d.fTags.length) (d.fTags_c), .string d.fAlias]) (by kernel_rfl))) (F16.rvt (v := .bool false) (by kernel_rfl))) ?_).1
  exact ⟨rfl, S15.drop.drop⟩
abbrev zq20 (x0 : Ty80) (x1 : Option Addr) (x2 : Nat) : Array Value := #[.bool x0.fNil, .string (cleanF x0.fName), .string (cleanF x0.fVersion), .string (cleanF x0.fRepository), .string (cleanF x0.fCondition), .slice x1 ((cleansF x0.fTags).length) x2, .string x0.fAlias]
set_option maxRecDepth 100000 in
set_option maxHeartbeats 20000000 in
theorem chDepS_some (d : Ty80) (R : Ctx) (L : List SA) (w : World) (S : Sp R w (L)) (h0 : Rf R L fun w => Sl w (d.fTags_a) (strs d.fTags)) (hs0 : d.fName.size ≤ 1000000) (hs1 : d.fVersion.size ≤ 1000000) (hs2 : d.fRepository.size ≤ 1000000) (hs3 : d.fCondition.size ≤ 1000000) (ha : d.fAlias.size ≤ 1000000) (hx : ∀ x ∈ d.fTags, x.size ≤ 1000000) (hxn : d.fTags.length ≤ 1000000) (hn : d.fNil = false) :
  Calls Try.prog 122 #[.agg #[.bool d.fNil, .string d.fName, .string d.fVersion, .string d.fRepository, .string d.fCondition, .slice (d.fTags_a) (d.fTags.length) (d.fTags_c), .string d.fAlias]] w fun e w' => ∃ B : Option Addr, ∃ b : Nat, e = .returned (.tuple #[.agg #[.bool d.fNil, .string (cleanF d.fName), .string (cleanF d.fVersion), .string (cleanF d.fRepository), .string (cleanF d.fCondition), .slice B ((cleansF d.fTags).length) b, .string d.fAlias], .bool (aliasF d.fAlias)]) ∧ Sp R w' (SA.own (.slice B (cleansF d.fTags).length b) 9 1 ((cleansF d.fTags).length) (strs (cleansF d.fTags)) :: L) := by
 have hl_d_fTags : d.fTags.length ≤ 9223372036854775807 := by have := (h0 _ S).1; simpa [strs, ptrs, pps] using this
 refine fw_enter (fn := Try.f122) rfl rfl 31 rfl (Nat.le_of_ble_eq_true rfl) ?_
 intro a0 F0
 refine wp_seq_k fun K1 hK1 => ?_
 refine wp_region_lit ?_
 refine op_sq F0 (s_newp F0 80 (zq0 d) (by kernel_rfl) (by kernel_rfl) (by kernel_rfl) S) ?_
 rintro _ _ w3 ⟨g1, rfl, rfl⟩ S3 a3 F3
 refine op_sq F3 (s_newp F3 80 zq6 (by kernel_rfl) (by kernel_rfl) (by kernel_rfl) S3) ?_
 rintro _ _ w5 ⟨g3, rfl, rfl⟩ S5 a5 F5
 refine op_q F5 (.bool false) ?_; intro a6 F6
 refine wpList_nil ?_
 refine hK1 _ _ ?_; clear hK1 K1
 refine wp_seq_k fun K7 hK7 => ?_
 refine wp_seq_k fun K8 hK8 => ?_
 refine wp_region_lit ?_
 refine op_q F6 (.pointer (some ⟨g1, 0, none⟩)) ?_; intro a9 F9
 refine op_rq (v := .bool d.fNil) F9 (r_ld rfl (F9.e (.pointer (some ⟨g1, 0, none⟩))) (v := .bool d.fNil) ((S5.bk 1 rfl).cell 0) Try.underlying4 rfl) ?_; intro a10 F10
 refine wpList_nil ?_
 refine hK8 _ _ ?_; clear hK8 K8
 have hc11 : (d.fNil) = false := hn
 have F12 := F10.sb 5 (by kernel_rfl) hc11
 refine wp_cond_false (F12.ev (by kernel_rfl)) ?_
 refine wp_skip ?_
 refine hK7 _ _ ?_; clear hK7 K7
 refine wp_seq_k fun K13 hK13 => ?_
 refine wp_region_sepF (L0 := SA.blk g3 80 zq6 :: SA.blk g1 80 (zq0 d) :: L) [some [], some [(0, 7)], some [(1, 8)], some [], some [(3, 10)], some [(4, 11)], some [], some [(6, 13)], some [(7, 14)], some [], some [(9, 16)], some [(10, 17)], some [], some [(12, 19)], some [(13, 20)], some [], none, none, none, none, none, none, none, none, none] [.v 7 (.pointer (some ⟨g1, 1, none⟩)), .v 8 (.string d.fName), .v 9 (.string (cleanF d.fName)), .v 10 (.pointer (some ⟨g1, 2, none⟩)), .v 11 (.string d.fVersion), .v 12 (.string (cleanF d.fVersion)), .v 13 (.pointer (some ⟨g1, 3, none⟩)), .v 14 (.string d.fRepository), .v 15 (.string (cleanF d.fRepository)), .v 16 (.pointer (some ⟨g1, 4, none⟩)), .v 17 (.string d.fCondition), .v 18 (.string (cleanF d.fCondition)), .v 19 (.pointer (some ⟨g1, 5, none⟩)), .v 20 (.slice (d.fTags_a) (d.fTags.length) (d.fTags_c)), .p 21 (SA.emp) (fun _ vv AA => ∃ B74 : Option Addr, ∃ b74 : Nat, vv = .slice B74 ((cleansF d.fTags).length) b74 ∧ AA = SA.own (.slice B74 (cleansF d.fTags).length b74) 9 1 ((cleansF d.fTags).length) (strs (cleansF d.fTags))), .v 22 (.pointer (some ⟨g1, 1, none⟩)), .n SA.emp (fun _ _ A => A = SA.emp), .n SA.emp (fun _ _ A => A = SA.emp), .n SA.emp (fun _ _ A => A = SA.emp), .n SA.emp (fun _ _ A => A = SA.emp), .n SA.emp (fun _ _ A => A = SA.emp), .n SA.emp (fun _ _ A => A = SA.emp), .n SA.emp (fun _ _ A => A = SA.emp), .n SA.emp (fun _ _ A => A = SA.emp), .n SA.emp (fun _ _ A => A = SA.emp)] [] F12 rfl (by kernel_rfl) S5.emp ?_ ?_
 ·refine ⟨?_, ?_, ?_, ?_, ?_, ?_, ?_, ?_, ?_, ?_, ?_, ?_, ?_, ?_, ?_, ?_, trivial⟩
  ·intro w45 M45
   intro a45 F45 S45
   refine obl_of (by rfl) ?_
   exact s_p F45 (v := .pointer (some ⟨g1, 1, none⟩)) (by kernel_rfl) (by kernel_rfl) (by kernel_rfl) S45
  ·intro w46 M46
   intro a46 F46 S46
   refine obl_of (by rfl) ?_
   exact s_r (v := .string d.fName) (r_ld rfl (F46.e (.pointer (some ⟨g1, 1, none⟩))) (v := .string d.fName) (((Sp.dropM S46.drop).bk 1 rfl).cell 1) Try.underlying9 rfl) S46
  ·intro w48 M48
   intro a48 F48 S48
   refine obl_of (by rfl) ?_
   refine s_c F48 (f := 118) (args := #[.string d.fName]) (by kernel_rfl) (by kernel_rfl) (by kernel_rfl) (chClean_any d.fName _ (by first | omega | (simp; done) | (simp; omega))) ?_
   rintro _ _ ⟨rfl, hb_50⟩
   exact ⟨_, _, rfl, ⟨rfl, rfl⟩, S48.below hb_50⟩
  ·intro w51 M51
   intro a51 F51 S51
   refine obl_of (by rfl) ?_
   exact s_p F51 (v := .pointer (some ⟨g1, 2, none⟩)) (by kernel_rfl) (by kernel_rfl) (by kernel_rfl) S51
  ·intro w52 M52
   intro a52 F52 S52
   refine obl_of (by rfl) ?_
   exact s_r (v := .string d.fVersion) (r_ld rfl (F52.e (.pointer (some ⟨g1, 2, none⟩))) (v := .string d.fVersion) (((Sp.dropM S52.drop).bk 1 rfl).cell 2) Try.underlying9 rfl) S52
  ·intro w54 M54
   intro a54 F54 S54
   refine obl_of (by rfl) ?_
   refine s_c F54 (f := 118) (args := #[.string d.fVersion]) (by kernel_rfl) (by kernel_rfl) (by kernel_rfl) (chClean_any d.fVersion _ (by first | omega | (simp; done) | (simp; omega))) ?_
   rintro _ _ ⟨rfl, hb_56⟩
   exact ⟨_, _, rfl, ⟨rfl, rfl⟩, S54.below hb_56⟩
  ·intro w57 M57
   intro a57 F57 S57
   refine obl_of (by rfl) ?_
   exact s_p F57 (v := .pointer (some ⟨g1, 3, none⟩)) (by kernel_rfl) (by kernel_rfl) (by kernel_rfl) S57
  ·intro w58 M58
   intro a58 F58 S58
   refine obl_of (by rfl) ?_
   exact s_r (v := .string d.fRepository) (r_ld rfl (F58.e (.pointer (some ⟨g1, 3, none⟩))) (v := .string d.fRepository) (((Sp.dropM S58.drop).bk 1 rfl).cell 3) Try.underlying9 rfl) S58
  ·intro w60 M60
   intro a60 F60 S60
   refine obl_of (by rfl) ?_
   refine s_c F60 (f := 118) (args := #[.string d.fRepository]) (by kernel_rfl) (by kernel_rfl) (by kernel_rfl) (chClean_any d.fRepository _ (by first | omega | (simp; done) | (simp; omega))) ?_
   rintro _ _ ⟨rfl, hb_62⟩
   exact ⟨_, _, rfl, ⟨rfl, rfl⟩, S60.below hb_62⟩
  ·intro w63 M63
   intro a63 F63 S63
   refine obl_of (by rfl) ?_
   exact s_p F63 (v := .pointer (some ⟨g1, 4, none⟩)) (by kernel_rfl) (by kernel_rfl) (by kernel_rfl) S63
  ·intro w64 M64
   intro a64 F64 S64
   refine obl_of (by rfl) ?_
   exact s_r (v := .string d.fCondition) (r_ld rfl (F64.e (.pointer (some ⟨g1, 4, none⟩))) (v := .string d.fCondition) (((Sp.dropM S64.drop).bk 1 rfl).cell 4) Try.underlying9 rfl) S64
  ·intro w66 M66
   intro a66 F66 S66
   refine obl_of (by rfl) ?_
   refine s_c F66 (f := 118) (args := #[.string d.fCondition]) (by kernel_rfl) (by kernel_rfl) (by kernel_rfl) (chClean_any d.fCondition _ (by first | omega | (simp; done) | (simp; omega))) ?_
   rintro _ _ ⟨rfl, hb_68⟩
   exact ⟨_, _, rfl, ⟨rfl, rfl⟩, S66.below hb_68⟩
  ·intro w69 M69
   intro a69 F69 S69
   refine obl_of (by rfl) ?_
   exact s_p F69 (v := .pointer (some ⟨g1, 5, none⟩)) (by kernel_rfl) (by kernel_rfl) (by kernel_rfl) S69
  ·intro w70 M70
   intro a70 F70 S70
   refine obl_of (by rfl) ?_
   exact s_r (v := .slice (d.fTags_a) (d.fTags.length) (d.fTags_c)) (r_ld rfl (F70.e (.pointer (some ⟨g1, 5, none⟩))) (v := .slice (d.fTags_a) (d.fTags.length) (d.fTags_c)) (((Sp.dropM S70.drop).bk 1 rfl).cell 5) Try.underlying22 rfl) S70
  ·intro w72 M72
   intro a72 F72 S72
   refine obl_of (by rfl) ?_
   refine s_c F72 (f := 119) (args := #[.slice (d.fTags_a) (d.fTags.length) (d.fTags_c)]) (by kernel_rfl) (by kernel_rfl) (by kernel_rfl) (chCleaned_sp d.fTags_a d.fTags_c d.fTags _ _ _ S72.drop (fun w S => h0 w (Sp.dropM S).drop.drop) hx (by first | omega | (simp; done) | (simp; omega))) ?_
   rintro _ _ ⟨B74, b74, rfl, S74⟩
   exact ⟨_, _, rfl, ⟨B74, b74, rfl, rfl⟩, S74⟩
  ·intro w75 M75
   intro a75 F75 S75
   refine obl_of (by rfl) ?_
   exact s_p F75 (v := .pointer (some ⟨g1, 1, none⟩)) (by kernel_rfl) (by kernel_rfl) (by kernel_rfl) S75
 ·rintro _ _ ⟨B74, b74, rfl, rfl⟩
  intro a77 w76 F77 S76
  have S78 : Sp R w76 (SA.own (.slice B74 (cleansF d.fTags).length b74) 9 1 ((cleansF d.fTags).length) (strs (cleansF d.fTags)) :: SA.blk g3 80 zq6 :: SA.blk g1 80 (zq0 d) :: L) := S76
  refine op_sq0 F77 (s_st rfl (F77.e (.pointer (some ⟨g1, 1, none⟩))) (F77.e (.string (cleanF d.fName))) S78.p2 (by kernel_rfl) rfl rfl rfl (cs := #[.bool d.fNil, .string (cleanF d.fName), .string d.fVersion, .string d.fRepository, .string d.fCondition, .slice (d.fTags_a) (d.fTags.length) (d.fTags_c), .string d.fAlias]) (by kernel_rfl)) ?_
  rintro _ _ w79 rfl S79 F79
  refine op_q F79 (.pointer (some ⟨g1, 2, none⟩)) ?_; intro a80 F80
  refine op_sq0 F80 (s_st rfl (F80.e (.pointer (some ⟨g1, 2, none⟩))) (F80.e (.string (cleanF d.fVersion))) S79 (by kernel_rfl) rfl rfl rfl (cs := #[.bool d.fNil, .string (cleanF d.fName), .string (cleanF d.fVersion), .string d.fRepository, .string d.fCondition, .slice (d.fTags_a) (d.fTags.length) (d.fTags_c), .string d.fAlias]) (by kernel_rfl)) ?_
  rintro _ _ w81 rfl S81 F81
  refine op_q F81 (.pointer (some ⟨g1, 3, none⟩)) ?_; intro a82 F82
  refine op_sq0 F82 (s_st rfl (F82.e (.pointer (some ⟨g1, 3, none⟩))) (F82.e (.string (cleanF d.fRepository))) S81 (by kernel_rfl) rfl rfl rfl (cs := #[.bool d.fNil, .string (cleanF d.fName), .string (cleanF d.fVersion), .string (cleanF d.fRepository), .string d.fCondition, .slice (d.fTags_a) (d.fTags.length) (d.fTags_c), .string d.fAlias]) (by kernel_rfl)) ?_
  rintro _ _ w83 rfl S83 F83
  refine op_q F83 (.pointer (some ⟨g1, 4, none⟩)) ?_; intro a84 F84
  refine op_sq0 F84 (s_st rfl (F84.e (.pointer (some ⟨g1, 4, none⟩))) (F84.e (.string (cleanF d.fCondition))) S83 (by kernel_rfl) rfl rfl rfl (cs := #[.bool d.fNil, .string (cleanF d.fName), .string (cleanF d.fVersion), .string (cleanF d.fRepository), .string (cleanF d.fCondition), .slice (d.fTags_a) (d.fTags.length) (d.fTags_c), .string d.fAlias]) (by kernel_rfl)) ?_
  rintro _ _ w85 rfl S85 F85
  refine op_q F85 (.pointer (some ⟨g1, 5, none⟩)) ?_; intro a86 F86
  refine op_sq0 F86 (s_st rfl (F86.e (.pointer (some ⟨g1, 5, none⟩))) (F86.e (.slice B74 ((cleansF d.fTags).length) b74)) S85 (by kernel_rfl) rfl rfl rfl (cs := (zq20 d B74 b74)) (by kernel_rfl)) ?_
  rintro _ _ w87 rfl S87 F87
  refine wpList_nil ?_
  refine hK13 _ _ ?_; clear hK13 K13
  refine wp_seq_k fun K88 hK88 => ?_
  refine wp_region_sepF (L0 := SA.blk g1 80 (zq20 d B74 b74) :: SA.own (.slice B74 (cleansF d.fTags).length b74) 9 1 ((cleansF d.fTags).length) (strs (cleansF d.fTags)) :: SA.blk g3 80 zq6 :: L) [some [], some [], some [(1, 28)], some [(2, 29)], none, none] [.v 27 (.agg (zq20 d B74 b74)), .v 28 (.pointer (some ⟨g1, 6, none⟩)), .v 29 (.string d.fAlias), .v 30 (.bool (aliasF d.fAlias)), .n SA.emp (fun _ _ A => A = SA.emp), .n SA.emp (fun _ _ A => A = SA.emp)] [] F87 rfl (by kernel_rfl) S87 ?_ ?_
  ·refine ⟨?_, ?_, ?_, ?_, trivial⟩
   ·intro w96 M96
    intro a96 F96 S96
    refine obl_of (by rfl) ?_
    exact s_r (v := .agg (zq20 d B74 b74)) (r_ldm rfl (F96.e (.pointer (some ⟨g1, 0, none⟩))) ((Sp.dropM S96.drop).bk 0 rfl) 7 (by kernel_rfl) Try.underlying80 rfl (by kernel_rfl) (v := (zq20 d B74 b74)) (by kernel_rfl)) S96
   ·intro w97 M97
    intro a97 F97 S97
    refine obl_of (by rfl) ?_
    exact s_p F97 (v := .pointer (some ⟨g1, 6, none⟩)) (by kernel_rfl) (by kernel_rfl) (by kernel_rfl) S97
   ·intro w98 M98
    intro a98 F98 S98
    refine obl_of (by rfl) ?_
    exact s_r (v := .string d.fAlias) (r_ld rfl (F98.e (.pointer (some ⟨g1, 6, none⟩))) (v := .string d.fAlias) (((Sp.dropM S98.drop).bk 0 rfl).cell 6) Try.underlying9 rfl) S98
   ·intro w100 M100
    intro a100 F100 S100
    refine obl_of (by rfl) ?_
    refine s_c F100 (f := 183) (args := #[.string d.fAlias]) (by kernel_rfl) (by kernel_rfl) (by kernel_rfl) (chAlias_any d.fAlias _ (by first | omega | (simp; done) | (simp; omega))) ?_
    rintro _ _ ⟨rfl, rfl⟩
    exact ⟨_, _, rfl, ⟨rfl, rfl⟩, S100⟩
  ·intro a104 w103 F104 S103
   have S105 : Sp R w103 (SA.blk g1 80 (zq20 d B74 b74) :: SA.own (.slice B74 (cleansF d.fTags).length b74) 9 1 ((cleansF d.fTags).length) (strs (cleansF d.fTags)) :: SA.blk g3 80 zq6 :: L) := S103
   refine op_sq0 F104 (s_stb rfl (F104.e (.pointer (some ⟨g3, 0, none⟩))) (F104.e (.agg (zq20 d B74 b74))) S105.p2 (by kernel_rfl) rfl (by kernel_rfl)) ?_
   rintro _ _ w106 rfl S106 F106
   refine op_q F106 (.bool (aliasF d.fAlias)) ?_; intro a107 F107
   refine wpList_nil ?_
   refine hK88 _ _ ?_; clear hK88 K88
   refine wp_ret ?_
   refine (F107.resC (results2 Try.results122 (F107.rvc (p := ⟨g3, 0, none⟩) (by kernel_rfl) (ld_mid (S106.bk 0 rfl) 7 (by kernel_rfl) Try.underlying80 rfl (by kernel_rfl) (v := (zq20 d B74 b74)) (by kernel_rfl))) (F107.rvt (v := .bool (aliasF d.fAlias)) (by kernel_rfl))) ?_).1
   exact ⟨B74, b74, rfl, S106.drop.drop⟩
set_option maxRecDepth 100000 in
set_option maxHeartbeats 20000000 in
theorem chBase_sp (s : ByteArray) (R : Ctx) (L : List SA) (w : World) (S : Sp R w (L))  (hs : 0 < s.size) (hz : s.size ≤ 1000000) :
  Calls Try.prog 120 #[.string s] w fun e w' => ∃ o : ByteArray, e = .returned (.string o) ∧ Sp R w' (L) ∧ ((o.toList == s.toList) = (!slB s || (s.toList == (⟨#[47]⟩ : ByteArray).toList))) := by
 refine fw_enter (fn := Try.f120) rfl rfl 40 rfl (Nat.le_of_ble_eq_true rfl) ?_
 intro a0 F0
 refine wp_seq_k fun K1 hK1 => ?_
 refine wp_region_lit ?_
 refine op_q F0 (.string ⟨#[]⟩) ?_; intro a2 F2
 refine wpList_nil ?_
 refine hK1 _ _ ?_; clear hK1 K1
 refine wp_seq_k fun K3 hK3 => ?_
 refine wp_seq_k fun K4 hK4 => ?_
 refine wp_region_lit ?_
 refine op_q F2 (.string s) ?_; intro a5 F5
 refine op_q F5 (.bool (s.toList == (⟨#[]⟩ : ByteArray).toList)) ?_; intro a6 F6
 refine wpList_nil ?_
 refine hK4 _ _ ?_; clear hK4 K4
 have hc7 : (s.toList == (⟨#[]⟩ : ByteArray).toList) = false := (emp_no hs)
 have F8 := F6.sb 5 (by kernel_rfl) hc7
 refine wp_cond_false (F8.ev (by kernel_rfl)) ?_
 refine wp_skip ?_
 refine hK3 _ _ ?_; clear hK3 K3
 refine fw_cut (fun a' w' => ∃ b : ByteArray, ∃ k : Nat, Fr 40 [] a' [(0, .string b), (2, .string ⟨#[]⟩)] ∧ Sp R w' (L) ∧ (b = s.extract 0 k) ∧ (k ≤ s.size) ∧ (∀ j, ∀ h : j < s.size, k ≤ j → s[j].toNat = 47) ∧ (b.size ≤ 1000000) ∧ (b.size = 0 ∨ ∃ h : b.size - 1 < b.size, b[b.size - 1].toNat ≠ 47)) ?_ ?_
 ·intro K9 hK9
  refine wp_block ?_
  refine fw_loop (fun m' a' w' => ∃ b : ByteArray, ∃ k : Nat, b.size = m' ∧ Fr 40 [] a' [(0, .string b), (2, .string ⟨#[]⟩)] ∧ Sp R w' (L) ∧ (b = s.extract 0 k) ∧ (k ≤ s.size) ∧ (∀ j, ∀ h : j < s.size, k ≤ j → s[j].toNat = 47) ∧ (b.size ≤ 1000000)) _ ⟨s, s.size, rfl, (F8.kk 0 (F8.kk 2 F8.nil)), S, (ext_full s), (Nat.le_refl _), (fun j h hk => absurd h (by omega)), (by first | omega | (with_reducible assumption) | (simp; done))⟩ ?_
  rintro m10 a10 w10 ⟨b, k, hm10, F10, S10, hb, hk, hsl, hbz⟩ K10 hK10
  refine wp_seq_k fun K11 hK11 => ?_
  refine wp_seq_k fun K12 hK12 => ?_
  refine wp_region_lit ?_
  refine op_q F10 (.string b) ?_; intro a13 F13
  refine op_q F13 (.int .i64 (↑b.size)) ?_; intro a14 F14
  refine op_q F14 (.bool (decide ((0 : Int) < ↑b.size))) ?_; intro a15 F15
  refine op_q F15 (.bool (decide ((0 : Int) < ↑b.size))) ?_; intro a16 F16
  rcases btf (decide ((0 : Int) < ↑b.size)) with hc17 | hc17
  ·have hc17p := of_decide_eq_true hc17
   have F18 := F16.sb 8 (by kernel_rfl) hc17
   have F19 := F18.sb 9 (by kernel_rfl) hc17
   refine op_wq F19 ?_
   refine op_q F19 (.string b) ?_; intro a20 F20
   refine op_wq F20 ?_
   refine op_q F20 (.string b) ?_; intro a21 F21
   refine op_wq F21 ?_
   refine op_q F21 (.int .i64 (↑b.size)) ?_; intro a22 F22
   refine op_wq F22 ?_
   refine op_rq (v := .int .i64 (↑b.size - 1)) F22 (r_sub (z := (↑b.size - 1)) rfl (F22.e (.int .i64 (↑b.size))) (F22.e (.int .i64 1)) (wr64 (by omega) (by omega) (by omega))) ?_; intro a23 F23
   refine op_wq F23 ?_
   refine op_rq (v := .int .u8 (↑b[b.size - 1].toNat)) F23 (r_index rfl Try.underlying9 (F23.e (.string b)) (F23.e (.int .i64 (↑b.size - 1))) (b.size - 1) (by first | rfl | omega | simp) (by first | omega | (simp; done) | (simp; omega))) ?_; intro a24 F24
   refine op_wq F24 ?_
   refine op_q F24 (.bool ((↑b[b.size - 1].toNat : Int) == 47)) ?_; intro a25 F25
   refine op_q F25 (.bool ((↑b[b.size - 1].toNat : Int) == 47)) ?_; intro a26 F26
   refine wpList_nil ?_
   refine hK12 _ _ ?_; clear hK12 K12
   rcases btf ((↑b[b.size - 1].toNat : Int) == 47) with hc27 | hc27
   ·have hc27p := eq_of_beq hc27
    have F28 := F26.sb 15 (by kernel_rfl) hc27
    have F29 := F28.sb 16 (by kernel_rfl) hc27
    refine wp_cond_true (F29.ev (by kernel_rfl)) ?_
    refine wp_skip ?_
    refine hK11 _ _ ?_; clear hK11 K11
    refine wp_block ?_
    refine wp_region_lit ?_
    refine op_q F29 (.string b) ?_; intro a30 F30
    refine op_q F30 (.string b) ?_; intro a31 F31
    refine op_q F31 (.int .i64 (↑b.size)) ?_; intro a32 F32
    refine op_rq (v := .int .i64 (↑b.size - 1)) F32 (r_sub (z := (↑b.size - 1)) rfl (F32.e (.int .i64 (↑b.size))) (F32.e (.int .i64 1)) (wr64 (by omega) (by omega) (by omega))) ?_; intro a33 F33
    refine op_rq (v := .string (b.extract 0 (b.size - 1))) F33 (r_slh rfl Try.underlying9 (F33.e (.string b)) (F33.e (.int .i64 (↑b.size - 1)))  0 (b.size - 1) (by first | rfl | omega | (simp; done) | (simp; omega)) (by first | omega | (simp; done) | (simp; omega)) (rfl)) ?_; intro a34 F34
    refine op_q F34 (.string (b.extract 0 (b.size - 1))) ?_; intro a35 F35
    refine wpList_nil ?_
    have hst := base_st hb hk (by omega) (by omega) (by omega) hsl
    exact hK10 _ _ _ (by first | omega | (simp; omega)) ⟨b.extract 0 (b.size - 1), k - 1, rfl, (F35.kk 0 (F35.kk 2 F35.nil)), S10, hst.1, (by omega), hst.2, (by simp; omega)⟩
   ·have hc27p := ne_of_beq_false hc27
    have F36 := F26.sb 15 (by kernel_rfl) hc27
    have F37 := F36.sb 16 (by kernel_rfl) hc27
    refine wp_cond_false (F37.ev (by kernel_rfl)) ?_
    refine wp_exit ?_
    refine ex_then ?_; clear hK11 K11
    refine ex_then ?_
    refine ex_in ?_
    exact hK9 _ _ ⟨b, k, (F37.kk 0 (F37.kk 2 F37.nil)), S10, (by first | omega | (with_reducible assumption) | (simp; done)), (by first | omega | (with_reducible assumption) | (simp; done)), (by first | omega | (with_reducible assumption) | (simp; done)), (by first | omega | (with_reducible assumption) | (simp; done)), (.inr ⟨by omega, by omega⟩)⟩
  ·have hc17p := of_decide_eq_false hc17
   have F38 := F16.sb 8 (by kernel_rfl) hc17
   have F39 := F38.sb 9 (by kernel_rfl) hc17
   refine op_kq F39 ?_; intro a40 F40
   refine op_kq F40 ?_; intro a41 F41
   refine op_kq F41 ?_; intro a42 F42
   refine op_kq F42 ?_; intro a43 F43
   refine op_kq F43 ?_; intro a44 F44
   refine op_kq F44 ?_; intro a45 F45
   refine op_q F45 (.bool false) ?_; intro a46 F46
   refine wpList_nil ?_
   refine hK12 _ _ ?_; clear hK12 K12
   refine wp_cond_false (F46.ev (by kernel_rfl)) ?_
   refine wp_exit ?_
   refine ex_then ?_; clear hK11 K11
   refine ex_then ?_
   refine ex_in ?_
   exact hK9 _ _ ⟨b, k, (F46.kk 0 (F46.kk 2 F46.nil)), S10, (by first | omega | (with_reducible assumption) | (simp; done)), (by first | omega | (with_reducible assumption) | (simp; done)), (by first | omega | (with_reducible assumption) | (simp; done)), (by first | omega | (with_reducible assumption) | (simp; done)), (.inl (by omega))⟩
 ·rintro a47 w47 ⟨b, k, F47, S47, hb, hk, hsl, hbz, hx⟩
  refine wp_seq_k fun K48 hK48 => ?_
  refine wp_seq_k fun K49 hK49 => ?_
  refine wp_region_lit ?_
  refine op_q F47 (.string b) ?_; intro a50 F50
  refine op_q F50 (.bool (b.toList == (⟨#[]⟩ : ByteArray).toList)) ?_; intro a51 F51
  refine wpList_nil ?_
  refine hK49 _ _ ?_; clear hK49 K49
  rcases btf (b.toList == (⟨#[]⟩ : ByteArray).toList) with hc52 | hc52
  ·have F53 := F51.sb 23 (by kernel_rfl) hc52
   refine wp_cond_true (F53.ev (by kernel_rfl)) ?_
   refine wp_seq_k fun K54 hK54 => ?_
   refine wp_region_lit ?_
   refine op_q F53 (.string ⟨#[47]⟩) ?_; intro a55 F55
   refine wpList_nil ?_
   refine hK54 _ _ ?_; clear hK54 K54
   refine wp_ret ?_
   refine ret_then ?_
   refine (F55.res1 rfl (v := .string ⟨#[47]⟩) (by kernel_rfl) ?_).1
   exact ⟨(⟨#[47]⟩ : ByteArray), rfl, S47, (cb_root hs hb hk hsl (emp_sz hc52))⟩
  ·have F56 := F51.sb 23 (by kernel_rfl) hc52
   refine wp_cond_false (F56.ev (by kernel_rfl)) ?_
   refine wp_skip ?_
   refine hK48 _ _ ?_; clear hK48 K48
   refine wp_seq_k fun K57 hK57 => ?_
   refine wp_seq_k fun K58 hK58 => ?_
   refine wp_region_lit ?_
   refine op_q F56 (.string b) ?_; intro a59 F59
   refine op_q F59 (.int .i64 (↑b.size)) ?_; intro a60 F60
   refine op_rq (v := .int .i64 (↑b.size - 1)) F60 (r_sub (z := (↑b.size - 1)) rfl (F60.e (.int .i64 (↑b.size))) (F60.e (.int .i64 1)) (wr64 (by omega) (by omega) (by omega))) ?_; intro a61 F61
   refine op_q F61 (.int .i64 (↑b.size - 1)) ?_; intro a62 F62
   refine wpList_nil ?_
   refine hK58 _ _ ?_; clear hK58 K58
   refine wp_block ?_
   refine fw_loop (fun m' a' w' => ∃ p : Nat, p = m' ∧ Fr 40 [] a' [(0, .string b), (3, .int .i64 (↑p - 1))] ∧ Sp R w' (L) ∧ (p ≤ b.size) ∧ (∀ j, ∀ h : j < b.size, p ≤ j → b[j].toNat ≠ 47)) _ ⟨b.size, rfl, (F62.kk 0 (F62.kk 3 F62.nil)), S47, (by first | omega | (with_reducible assumption) | (simp; done)), (fun j h hp => absurd h (by omega))⟩ ?_
   rintro m63 a63 w63 ⟨p, hm63, F63, S63, hp, hno⟩ K63 hK63
   refine wp_seq_k fun K64 hK64 => ?_
   refine wp_seq_k fun K65 hK65 => ?_
   refine wp_region_lit ?_
   refine op_q F63 (.int .i64 (↑p - 1)) ?_; intro a66 F66
   refine op_q F66 (.bool (decide ((0 : Int) ≤ (↑p - 1)))) ?_; intro a67 F67
   refine wpList_nil ?_
   refine hK65 _ _ ?_; clear hK65 K65
   rcases btf (decide ((0 : Int) ≤ (↑p - 1))) with hc68 | hc68
   ·have hp1 : 1 ≤ p := by have := of_decide_eq_true hc68; omega
    have F69 := F67.sb 28 (by kernel_rfl) hc68
    refine wp_cond_true (F69.ev (by kernel_rfl)) ?_
    refine wp_skip ?_
    refine hK64 _ _ ?_; clear hK64 K64
    refine wp_seq_k fun K70 hK70 => ?_
    refine wp_block ?_
    refine wp_seq_k fun K71 hK71 => ?_
    refine wp_region_lit ?_
    refine op_q F69 (.string b) ?_; intro a72 F72
    refine op_q F72 (.int .i64 (↑p - 1)) ?_; intro a73 F73
    refine op_rq (v := .int .u8 (↑b[p - 1].toNat)) F73 (r_index rfl Try.underlying9 (F73.e (.string b)) (F73.e (.int .i64 (↑p - 1))) (p - 1) (by first | rfl | omega | simp) (by first | omega | (simp; done) | (simp; omega))) ?_; intro a74 F74
    refine op_q F74 (.bool ((↑b[p - 1].toNat : Int) == 47)) ?_; intro a75 F75
    refine wpList_nil ?_
    refine hK71 _ _ ?_; clear hK71 K71
    rcases btf ((↑b[p - 1].toNat : Int) == 47) with hc76 | hc76
    ·have hc76p := eq_of_beq hc76
     have F77 := F75.sb 34 (by kernel_rfl) hc76
     refine wp_cond_true (F77.ev (by kernel_rfl)) ?_
     refine wp_seq_k fun K78 hK78 => ?_
     refine wp_region_lit ?_
     refine op_q F77 (.string b) ?_; intro a79 F79
     refine op_q F79 (.int .i64 (↑p - 1)) ?_; intro a80 F80
     refine op_rq (v := .int .i64 (↑p)) F80 (r_add (z := ↑p) rfl (F80.e (.int .i64 (↑p - 1))) (F80.e (.int .i64 1)) (wr64 (by omega) (by omega) (by omega))) ?_; intro a81 F81
     refine op_rq (v := .string (b.extract p b.size)) F81 (r_sll rfl Try.underlying9 (F81.e (.string b)) (F81.e (.int .i64 (↑p)))  p b.size (by first | rfl | omega | (simp; done) | (simp; omega)) (by first | omega | (simp; done) | (simp; omega)) (rfl)) ?_; intro a82 F82
     refine op_q F82 (.string (b.extract p b.size)) ?_; intro a83 F83
     refine wpList_nil ?_
     refine hK78 _ _ ?_; clear hK78 K78
     refine wp_ret ?_
     refine ret_in ?_
     refine ret_then ?_
     refine ret_then ?_
     refine ret_in ?_
     refine ret_then ?_
     refine (F83.res1 rfl (v := .string (b.extract p b.size)) (by kernel_rfl) ?_).1
     exact ⟨(b.extract p b.size), rfl, S63, (cb_found hs hb hk hsl hx hp1 (by omega) (by omega) hno)⟩
    ·have hc76p := ne_of_beq_false hc76
     have F84 := F75.sb 34 (by kernel_rfl) hc76
     refine wp_cond_false (F84.ev (by kernel_rfl)) ?_
     refine wp_skip ?_
     refine hK70 _ _ ?_; clear hK70 K70
     refine wp_region_lit ?_
     refine op_q F84 (.int .i64 (↑p - 1)) ?_; intro a85 F85
     refine op_rq (v := .int .i64 (↑(p - 1) - 1)) F85 (r_sub (z := (↑(p - 1) - 1)) rfl (F85.e (.int .i64 (↑p - 1))) (F85.e (.int .i64 1)) (wr64 (by omega) (by omega) (by omega))) ?_; intro a86 F86
     refine op_q F86 (.int .i64 (↑(p - 1) - 1)) ?_; intro a87 F87
     refine wpList_nil ?_
     exact hK63 _ _ _ (by first | omega | (simp; omega)) ⟨p - 1, rfl, (F87.kk 0 (F87.kk 3 F87.nil)), S63, (by omega), (fun j h hp1 => if e : p ≤ j then hno j h e else (by have e2 : j = p - 1 := (by omega); subst e2; omega))⟩
   ·have hp1 : p = 0 := by have := of_decide_eq_false hc68; omega
    have F88 := F67.sb 28 (by kernel_rfl) hc68
    refine wp_cond_false (F88.ev (by kernel_rfl)) ?_
    refine wp_exit ?_
    refine ex_then ?_; clear hK64 K64
    refine ex_then ?_
    refine ex_in ?_
    refine hK57 _ _ ?_; clear hK57 K57
    refine wp_seq_k fun K89 hK89 => ?_
    refine wp_region_lit ?_
    refine op_q F88 (.string b) ?_; intro a90 F90
    refine op_q F90 (.string b) ?_; intro a91 F91
    refine wpList_nil ?_
    refine hK89 _ _ ?_; clear hK89 K89
    refine wp_ret ?_
    refine (F91.res1 rfl (v := .string b) (by kernel_rfl) ?_).1
    exact ⟨b, rfl, S63, (cb_all hs hb hk hsl hx (emp_pos hc52) (fun j h _ => hno j h (by omega)))⟩
end Go.Proofs.Ytkjcedlgljeoiaa

