/- Texts Tr4, Tr5, Tr6, U1, U2, U3, U5, Uj, Cd1, Cd2, laid together. -/
import Derived.WalkKit
import Derived.WalkLawsBesides
import Derived.WalkSpells
import Derived.Lib.Hide
import Derived.Deep.RegionWith
import Derived.Deep.DeepCutAuto
import Derived.Deep.QuietTactic
import Derived.BigQuiet
import Derived.Laws.OwnMore
import Derived.Deep.LoopGhost
import Derived.KernelRfl
import Derived.Deep.WholeRow
import Derived.StillTail
import Derived.SliceStrings
import Derived.Deep.Slices
import Derived.Deep.Fields
import Derived.ChangeSame
import Derived.Deep.MidRow
import Derived.Maps.AppendAt
import Derived.Lib.AppendStr
import Derived.Lib.ConvBytes
import Derived.Laws.BytesArg
import Derived.Deep.RegionLaw
import Derived.OwnWalk
import Derived.Maps.OwnSet
import Derived.Maps.OwnOps
import Derived.ArgAppend
import Derived.Defers
import Derived.Recover
import Derived.Laws.Pointers
import Derived.Laws.StructEq
import Derived.IntWalk
import Derived.Test.YtkjcedlgljeoiaaProg
import Derived.BigRegion
import Derived.Deep.CutBlock
import Derived.Carry
import Derived.LoopN
import Derived.Test.YtkjcedlgljeoiaaDtc
/- impl.chart2, impl.chartOf. -/
namespace Go.Proofs.Ytkjcedlgljeoiaa
open Go.RowKit Go.Lib
set_option linter.unusedVariables false
set_option linter.unusedSimpArgs false
/-- An object whole. -/
def SA.root (m : Nat) (o : Ob) : SA := SA.star (SA.top none o) (SA.ob m o)
theorem sum_take {α : Type} {f : α → Nat} : ∀ {l : List α} {k : Nat} (h : k < l.length), ((l.take (k + 1)).map f).sum = ((l.take k).map f).sum + f l[k] ∧ ((l.take k).map f).sum + f l[k] ≤ (l.map f).sum
  | x :: l, 0, _ => ⟨by simp, by simp⟩
  | x :: l, k + 1, h => by
    have h' : k < l.length := by simpa using h
    obtain ⟨h1, h2⟩ := sum_take (f := f) h'
    simp only [List.take_succ_cons, List.map_cons, List.sum_cons, List.getElem_cons_succ]
    constructor
    · rw [h1]; omega
    · omega
abbrev Chart2C (m : Nat) : Prop := ∀ (t : Tr) (lv : Int) (gl : Nat) (n : Nat) (R : Ctx) (L : List SA) (w : World) (S : Sp R w (SA.blk (gl) 3 #[.int .i64 (↑n)] :: L)) (h0 : Rf R L fun w => TrAt w (m) t) (ht : TrOk (m) t) (hlv : ((m : Nat) : Int) ≤ lv ∧ lv ≤ 100) (hn : Tr.cnt (m) t ≤ n ∧ n ≤ 1000), Calls Try.prog 126 #[.agg #[.bool false, .string ((nmM t.n).fName), .string ((nmM t.n).fHome), .string ((nmM t.n).fVersion), .string ((nmM t.n).fDescription), .string ((nmM t.n).fIcon), .string ((nmM t.n).fAPIVersion), .string ((nmM t.n).fCondition), .string ((nmM t.n).fTags), .string ((nmM t.n).fAppVersion), .string ((nmM t.n).fKubeVersion), .string ((nmM t.n).fType), .slice ((nmM t.n).fSources_a) ((nmM t.n).fSources.length) ((nmM t.n).fSources_c), .slice ((nmM t.n).fKeywords_a) ((nmM t.n).fKeywords.length) ((nmM t.n).fKeywords_c), .slice ((nmM t.n).fMaintainers_a) ((nmM t.n).fMaintainers.length) ((nmM t.n).fMaintainers_c), .slice ((nmM t.n).fDependencies_a) ((nmM t.n).fDependencies.length) ((nmM t.n).fDependencies_c), .slice (t.fA) (t.fs.length) (t.fc), .slice (t.dA) (t.kids.length) (t.dc)], .int .i64 lv, .pointer (some ⟨gl, 0, none⟩)] w fun e w' => ∃ o : Ob, e = .returned (.tuple #[.pointer (some ⟨o.g, 0, none⟩), .bool true]) ∧ Sp R w' (SA.blk (gl) 3 #[.int .i64 (↑(n - Tr.cnt (m) t))] :: SA.root (m) o :: L) ∧ (ObOk (m) o) ∧ (Ob.pl (m) o = Tr.pl (m) t)
set_option maxRecDepth 100000 in
set_option maxHeartbeats 20000000 in
theorem chart2_S (m : Nat) (t : Tr) (lv : Int) (gl : Nat) (n : Nat) (R : Ctx) (L : List SA) (w : World) (S : Sp R w (SA.blk (gl) 3 #[.int .i64 (↑n)] :: L)) (h0 : Rf R L fun w => TrAt w (m + 1) t) (ih : Chart2C m) (ht : TrOk (m + 1) t) (hlv : ((m + 1 : Nat) : Int) ≤ lv ∧ lv ≤ 100) (hn : Tr.cnt (m + 1) t ≤ n ∧ n ≤ 1000) :
    Calls Try.prog 126 #[.agg #[.bool false, .string ((nmM t.n).fName), .string ((nmM t.n).fHome), .string ((nmM t.n).fVersion), .string ((nmM t.n).fDescription), .string ((nmM t.n).fIcon), .string ((nmM t.n).fAPIVersion), .string ((nmM t.n).fCondition), .string ((nmM t.n).fTags), .string ((nmM t.n).fAppVersion), .string ((nmM t.n).fKubeVersion), .string ((nmM t.n).fType), .slice ((nmM t.n).fSources_a) ((nmM t.n).fSources.length) ((nmM t.n).fSources_c), .slice ((nmM t.n).fKeywords_a) ((nmM t.n).fKeywords.length) ((nmM t.n).fKeywords_c), .slice ((nmM t.n).fMaintainers_a) ((nmM t.n).fMaintainers.length) ((nmM t.n).fMaintainers_c), .slice ((nmM t.n).fDependencies_a) ((nmM t.n).fDependencies.length) ((nmM t.n).fDependencies_c), .slice (t.fA) (t.fs.length) (t.fc), .slice (t.dA) (t.kids.length) (t.dc)], .int .i64 lv, .pointer (some ⟨gl, 0, none⟩)] w fun e w' => ∃ o : Ob, e = .returned (.tuple #[.pointer (some ⟨o.g, 0, none⟩), .bool true]) ∧ Sp R w' (SA.blk (gl) 3 #[.int .i64 (↑(n - Tr.cnt (m + 1) t))] :: SA.root (m + 1) o :: L) ∧ (ObOk (m + 1) o) ∧ (Ob.pl (m + 1) o = Tr.pl (m + 1) t) := by
  obtain ⟨hto1, hto2, hto3, hto4, hto5⟩ := ht
  have hcn : 1 + (t.kids.map (Tr.cnt m)).sum ≤ n := hn.1
  have hF : Rf R L fun w => Rows w t.fA 2 (t.fs.map fileC) := fun w S => (h0 w S).1
  have hD : Rf R L fun w => Rows w t.dA 18 (t.kids.map Tr.cells) := fun w S => (h0 w S).2.1
  have hkl0 : t.kids.length ≤ 9223372036854775807 := by omega
  refine fw_enter (fn := Try.f126) rfl rfl 75 rfl (Nat.le_of_ble_eq_true rfl) ?_
  intro a0 F0
  refine wp_seq_k fun K1 hK1 => ?_
  refine wp_region_lit ?_
  refine op_sq F0 (s_newp F0 30 #[.bool false, .string ((nmM t.n).fName), .string ((nmM t.n).fHome), .string ((nmM t.n).fVersion), .string ((nmM t.n).fDescription), .string ((nmM t.n).fIcon), .string ((nmM t.n).fAPIVersion), .string ((nmM t.n).fCondition), .string ((nmM t.n).fTags), .string ((nmM t.n).fAppVersion), .string ((nmM t.n).fKubeVersion), .string ((nmM t.n).fType), .slice ((nmM t.n).fSources_a) ((nmM t.n).fSources.length) ((nmM t.n).fSources_c), .slice ((nmM t.n).fKeywords_a) ((nmM t.n).fKeywords.length) ((nmM t.n).fKeywords_c), .slice ((nmM t.n).fMaintainers_a) ((nmM t.n).fMaintainers.length) ((nmM t.n).fMaintainers_c), .slice ((nmM t.n).fDependencies_a) ((nmM t.n).fDependencies.length) ((nmM t.n).fDependencies_c), .slice (t.fA) (t.fs.length) (t.fc), .slice (t.dA) (t.kids.length) (t.dc)] (by kernel_rfl) (by kernel_rfl) (by kernel_rfl) S) ?_
  rintro _ _ w3 ⟨g1, rfl, rfl⟩ S3 a3 F3
  refine op_q F3 (.pointer none) ?_; intro a4 F4
  refine op_q F4 (.bool false) ?_; intro a5 F5
  refine wpList_nil ?_
  refine hK1 _ _ ?_; clear hK1 K1
  refine wp_seq_k fun K6 hK6 => ?_
  refine wp_seq_k fun K7 hK7 => ?_
  refine wp_region_lit ?_
  refine op_q F5 (.pointer (some ⟨gl, 0, none⟩)) ?_; intro a8 F8
  refine op_q F8 (.pointer (some ⟨gl, 0, none⟩)) ?_; intro a9 F9
  refine op_rq (v := .int .i64 (↑n)) F9 (r_ld rfl (F9.e (.pointer (some ⟨gl, 0, none⟩))) (v := .int .i64 (↑n)) ((S3.bk 1 rfl).cell 0) Try.underlying3 rfl) ?_; intro a10 F10
  refine op_rq (v := .int .i64 (↑(n - 1))) F10 (r_sub (z := ↑(n - 1)) rfl (F10.e (.int .i64 (↑n))) (F10.e (.int .i64 1)) (wr64 (by omega) (by omega) (by omega))) ?_; intro a11 F11
  refine op_q F11 (.pointer (some ⟨gl, 0, none⟩)) ?_; intro a12 F12
  refine op_sq0 F12 (s_st rfl (F12.e (.pointer (some ⟨gl, 0, none⟩))) (F12.e (.int .i64 (↑(n - 1)))) S3.p1 (by kernel_rfl) rfl rfl rfl (cs := #[.int .i64 (↑(n - 1))]) (by kernel_rfl)) ?_
  rintro _ _ w13 rfl S13 F13
  refine wpList_nil ?_
  refine hK7 _ _ ?_; clear hK7 K7
  refine wp_seq_k fun K14 hK14 => ?_
  refine wp_region_lit ?_
  refine op_q F13 (.pointer (some ⟨gl, 0, none⟩)) ?_; intro a15 F15
  refine op_q F15 (.pointer (some ⟨gl, 0, none⟩)) ?_; intro a16 F16
  refine op_rq (v := .int .i64 (↑(n - 1))) F16 (r_ld rfl (F16.e (.pointer (some ⟨gl, 0, none⟩))) (v := .int .i64 (↑(n - 1))) ((S13.bk 0 rfl).cell 0) Try.underlying3 rfl) ?_; intro a17 F17
  refine op_q F17 (.bool (decide ((↑(n - 1) : Int) < 0))) ?_; intro a18 F18
  refine op_q F18 (.bool (decide ((↑(n - 1) : Int) < 0))) ?_; intro a19 F19
  have hc20 : (decide ((↑(n - 1) : Int) < 0)) = false := (decide_eq_false (by omega))
  have F21 := F19.sb 21 (by kernel_rfl) hc20
  have F22 := F21.sb 22 (by kernel_rfl) hc20
  refine op_wq F22 ?_
  refine op_q F22 (.int .i64 lv) ?_; intro a23 F23
  refine op_wq F23 ?_
  refine op_q F23 (.bool (decide ((lv : Int) < 1))) ?_; intro a24 F24
  refine op_q F24 (.bool (decide ((lv : Int) < 1))) ?_; intro a25 F25
  refine op_q F25 (.bool (decide ((lv : Int) < 1))) ?_; intro a26 F26
  have hc27 : (decide ((lv : Int) < 1)) = false := (decide_eq_false (by have := hlv.1; omega))
  have F28 := F26.sb 24 (by kernel_rfl) hc27
  have F29 := F28.sb 25 (by kernel_rfl) hc27
  have F30 := F29.sb 26 (by kernel_rfl) hc27
  refine op_wq F30 ?_
  refine op_q F30 (.pointer (some ⟨g1, 16, none⟩)) ?_; intro a31 F31
  refine op_wq F31 ?_
  refine op_rq (v := .slice (t.fA) (t.fs.length) (t.fc)) F31 (r_ld rfl (F31.e (.pointer (some ⟨g1, 16, none⟩))) (v := .slice (t.fA) (t.fs.length) (t.fc)) ((S13.bk 1 rfl).cell 16) Try.underlying27 rfl) ?_; intro a32 F32
  refine op_wq F32 ?_
  refine op_q F32 (.int .i64 (↑t.fs.length)) ?_; intro a33 F33
  refine op_wq F33 ?_
  refine op_q F33 (.bool (decide ((200 : Int) < ↑t.fs.length))) ?_; intro a34 F34
  refine op_q F34 (.bool (decide ((200 : Int) < ↑t.fs.length))) ?_; intro a35 F35
  refine op_q F35 (.bool (decide ((200 : Int) < ↑t.fs.length))) ?_; intro a36 F36
  have hc37 : (decide ((200 : Int) < ↑t.fs.length)) = false := (decide_eq_false (by omega))
  have F38 := F36.sb 30 (by kernel_rfl) hc37
  have F39 := F38.sb 31 (by kernel_rfl) hc37
  have F40 := F39.sb 32 (by kernel_rfl) hc37
  refine op_wq F40 ?_
  refine op_q F40 (.pointer (some ⟨g1, 1, none⟩)) ?_; intro a41 F41
  refine op_wq F41 ?_
  refine op_rq (v := .agg #[.string ((nmM t.n).fName), .string ((nmM t.n).fHome), .string ((nmM t.n).fVersion), .string ((nmM t.n).fDescription), .string ((nmM t.n).fIcon), .string ((nmM t.n).fAPIVersion), .string ((nmM t.n).fCondition), .string ((nmM t.n).fTags), .string ((nmM t.n).fAppVersion), .string ((nmM t.n).fKubeVersion), .string ((nmM t.n).fType), .slice ((nmM t.n).fSources_a) ((nmM t.n).fSources.length) ((nmM t.n).fSources_c), .slice ((nmM t.n).fKeywords_a) ((nmM t.n).fKeywords.length) ((nmM t.n).fKeywords_c), .slice ((nmM t.n).fMaintainers_a) ((nmM t.n).fMaintainers.length) ((nmM t.n).fMaintainers_c), .slice ((nmM t.n).fDependencies_a) ((nmM t.n).fDependencies.length) ((nmM t.n).fDependencies_c)]) F41 (r_ldm rfl (F41.e (.pointer (some ⟨g1, 1, none⟩))) (S13.bk 1 rfl) 15 (by kernel_rfl) Try.underlying26 rfl (by kernel_rfl) (v := #[.string ((nmM t.n).fName), .string ((nmM t.n).fHome), .string ((nmM t.n).fVersion), .string ((nmM t.n).fDescription), .string ((nmM t.n).fIcon), .string ((nmM t.n).fAPIVersion), .string ((nmM t.n).fCondition), .string ((nmM t.n).fTags), .string ((nmM t.n).fAppVersion), .string ((nmM t.n).fKubeVersion), .string ((nmM t.n).fType), .slice ((nmM t.n).fSources_a) ((nmM t.n).fSources.length) ((nmM t.n).fSources_c), .slice ((nmM t.n).fKeywords_a) ((nmM t.n).fKeywords.length) ((nmM t.n).fKeywords_c), .slice ((nmM t.n).fMaintainers_a) ((nmM t.n).fMaintainers.length) ((nmM t.n).fMaintainers_c), .slice ((nmM t.n).fDependencies_a) ((nmM t.n).fDependencies.length) ((nmM t.n).fDependencies_c)]) (by kernel_rfl)) ?_; intro a42 F42
  refine op_wq F42 ?_
  refine op_cq F42 (f := 93) (args := #[.agg #[.string ((nmM t.n).fName), .string ((nmM t.n).fHome), .string ((nmM t.n).fVersion), .string ((nmM t.n).fDescription), .string ((nmM t.n).fIcon), .string ((nmM t.n).fAPIVersion), .string ((nmM t.n).fCondition), .string ((nmM t.n).fTags), .string ((nmM t.n).fAppVersion), .string ((nmM t.n).fKubeVersion), .string ((nmM t.n).fType), .slice ((nmM t.n).fSources_a) ((nmM t.n).fSources.length) ((nmM t.n).fSources_c), .slice ((nmM t.n).fKeywords_a) ((nmM t.n).fKeywords.length) ((nmM t.n).fKeywords_c), .slice ((nmM t.n).fMaintainers_a) ((nmM t.n).fMaintainers.length) ((nmM t.n).fMaintainers_c), .slice ((nmM t.n).fDependencies_a) ((nmM t.n).fDependencies.length) ((nmM t.n).fDependencies_c)]]) (metaFits_sp (nmM t.n) _ _ _ S13 ) ?_
  rintro _ w43 ⟨rfl, S43⟩
  refine ⟨_, rfl, ?_⟩
  intro a44 F44
  refine op_wq F44 ?_
  refine op_q F44 (.bool (!(mfitsB (nmM t.n)))) ?_; intro a45 F45
  refine op_q F45 (.bool (!(mfitsB (nmM t.n)))) ?_; intro a46 F46
  refine wpList_nil ?_
  refine hK14 _ _ ?_; clear hK14 K14
  have hc47 : (mfitsB (nmM t.n)) = true := (nmM_fit _)
  have F48 := F46.sb 35 (by kernel_rfl) hc47
  have F49 := F48.sb 36 (by kernel_rfl) (show (!(mfitsB (nmM t.n))) = false by rw [hc47]; rfl)
  have F50 := F49.sb 37 (by kernel_rfl) (show (!(mfitsB (nmM t.n))) = false by rw [hc47]; rfl)
  refine wp_cond_false (F50.ev (by kernel_rfl)) ?_
  refine wp_skip ?_
  refine hK6 _ _ ?_; clear hK6 K6
  refine wp_seq_k fun K51 hK51 => ?_
  refine wp_region_lit ?_
  refine op_q F50 (.pointer (some ⟨g1, 16, none⟩)) ?_; intro a52 F52
  refine op_rq (v := .slice (t.fA) (t.fs.length) (t.fc)) F52 (r_ld rfl (F52.e (.pointer (some ⟨g1, 16, none⟩))) (v := .slice (t.fA) (t.fs.length) (t.fc)) ((S43.bk 1 rfl).cell 16) Try.underlying27 rfl) ?_; intro a53 F53
  refine op_cq F53 (f := 184) (args := #[.slice (t.fA) (t.fs.length) (t.fc)]) (files_sp t.fA t.fc t.fs _ _ _ S43 (fun w S => hF w S.drop.drop) (by first | omega | (simp; done) | (simp; omega))) ?_
  rintro _ w54 ⟨B54, b54, ps54, rfl, S54, hp0_54⟩
  refine ⟨_, rfl, ?_⟩
  intro a55 F55
  refine op_q F55 (.agg #[.slice none 0 0, .pointer none, .slice none 0 0, .map none, .slice none 0 0, .slice B54 ps54.length b54, .pointer none, .slice none 0 0]) ?_; intro a56 F56
  refine op_sq F56 (s_newp F56 245 #[.slice none 0 0, .pointer none, .slice none 0 0, .map none, .slice none 0 0, .slice B54 ps54.length b54, .pointer none, .slice none 0 0] (by kernel_rfl) (by kernel_rfl) (by kernel_rfl) S54) ?_
  rintro _ _ w58 ⟨g56, rfl, rfl⟩ S58 a58 F58
  refine op_q F58 (.pointer (some ⟨g56, 0, none⟩)) ?_; intro a59 F59
  refine wpList_nil ?_
  refine hK51 _ _ ?_; clear hK51 K51
  refine wp_seq_k fun K60 hK60 => ?_
  refine wp_seq_k fun K61 hK61 => ?_
  refine wp_region_lit ?_
  refine op_q F59 (.pointer (some ⟨g1, 0, none⟩)) ?_; intro a62 F62
  refine op_rq (v := .bool false) F62 (r_ld rfl (F62.e (.pointer (some ⟨g1, 0, none⟩))) (v := .bool false) ((S58.bk 4 rfl).cell 0) Try.underlying4 rfl) ?_; intro a63 F63
  refine op_q F63 (.bool true) ?_; intro a64 F64
  refine wpList_nil ?_
  refine hK61 _ _ ?_; clear hK61 K61
  refine wp_cond_true (F64.ev (by kernel_rfl)) ?_
  refine wp_region_lit ?_
  refine op_q F64 (.pointer (some ⟨g56, 0, none⟩)) ?_; intro a65 F65
  refine op_q F65 (.pointer (some ⟨g1, 1, none⟩)) ?_; intro a66 F66
  refine op_rq (v := .agg #[.string ((nmM t.n).fName), .string ((nmM t.n).fHome), .string ((nmM t.n).fVersion), .string ((nmM t.n).fDescription), .string ((nmM t.n).fIcon), .string ((nmM t.n).fAPIVersion), .string ((nmM t.n).fCondition), .string ((nmM t.n).fTags), .string ((nmM t.n).fAppVersion), .string ((nmM t.n).fKubeVersion), .string ((nmM t.n).fType), .slice ((nmM t.n).fSources_a) ((nmM t.n).fSources.length) ((nmM t.n).fSources_c), .slice ((nmM t.n).fKeywords_a) ((nmM t.n).fKeywords.length) ((nmM t.n).fKeywords_c), .slice ((nmM t.n).fMaintainers_a) ((nmM t.n).fMaintainers.length) ((nmM t.n).fMaintainers_c), .slice ((nmM t.n).fDependencies_a) ((nmM t.n).fDependencies.length) ((nmM t.n).fDependencies_c)]) F66 (r_ldm rfl (F66.e (.pointer (some ⟨g1, 1, none⟩))) (S58.bk 4 rfl) 15 (by kernel_rfl) Try.underlying26 rfl (by kernel_rfl) (v := #[.string ((nmM t.n).fName), .string ((nmM t.n).fHome), .string ((nmM t.n).fVersion), .string ((nmM t.n).fDescription), .string ((nmM t.n).fIcon), .string ((nmM t.n).fAPIVersion), .string ((nmM t.n).fCondition), .string ((nmM t.n).fTags), .string ((nmM t.n).fAppVersion), .string ((nmM t.n).fKubeVersion), .string ((nmM t.n).fType), .slice ((nmM t.n).fSources_a) ((nmM t.n).fSources.length) ((nmM t.n).fSources_c), .slice ((nmM t.n).fKeywords_a) ((nmM t.n).fKeywords.length) ((nmM t.n).fKeywords_c), .slice ((nmM t.n).fMaintainers_a) ((nmM t.n).fMaintainers.length) ((nmM t.n).fMaintainers_c), .slice ((nmM t.n).fDependencies_a) ((nmM t.n).fDependencies.length) ((nmM t.n).fDependencies_c)]) (by kernel_rfl)) ?_; intro a67 F67
  refine op_cq F67 (f := 95) (args := #[.agg #[.string ((nmM t.n).fName), .string ((nmM t.n).fHome), .string ((nmM t.n).fVersion), .string ((nmM t.n).fDescription), .string ((nmM t.n).fIcon), .string ((nmM t.n).fAPIVersion), .string ((nmM t.n).fCondition), .string ((nmM t.n).fTags), .string ((nmM t.n).fAppVersion), .string ((nmM t.n).fKubeVersion), .string ((nmM t.n).fType), .slice ((nmM t.n).fSources_a) ((nmM t.n).fSources.length) ((nmM t.n).fSources_c), .slice ((nmM t.n).fKeywords_a) ((nmM t.n).fKeywords.length) ((nmM t.n).fKeywords_c), .slice ((nmM t.n).fMaintainers_a) ((nmM t.n).fMaintainers.length) ((nmM t.n).fMaintainers_c), .slice ((nmM t.n).fDependencies_a) ((nmM t.n).fDependencies.length) ((nmM t.n).fDependencies_c)]]) (metaOf_m (nmM t.n) _ _ _ S58 (fun w S => nmM_at _ w) (Nat.zero_le _) (Nat.zero_le _) (Nat.zero_le _) (Nat.zero_le _) (fun d hd => by cases hd)) ?_
  rintro _ w68 ⟨g68, rfl, S68⟩
  refine ⟨_, rfl, ?_⟩
  intro a69 F69
  refine op_q F69 (.pointer (some ⟨g56, 0, none⟩)) ?_; intro a70 F70
  refine op_q F70 (.pointer (some ⟨g56, 1, none⟩)) ?_; intro a71 F71
  refine op_sq0 F71 (s_st rfl (F71.e (.pointer (some ⟨g56, 1, none⟩))) (F71.e (.pointer (some ⟨g68, 0, none⟩))) S68.p1 (by kernel_rfl) rfl rfl rfl (cs := #[.slice none 0 0, .pointer (some ⟨g68, 0, none⟩), .slice none 0 0, .map none, .slice none 0 0, .slice B54 ps54.length b54, .pointer none, .slice none 0 0]) (by kernel_rfl)) ?_
  rintro _ _ w72 rfl S72 F72
  refine wpList_nil ?_
  refine hK60 _ _ ?_; clear hK60 K60
  refine wp_seq_k fun K73 hK73 => ?_
  refine wp_seq_k fun K74 hK74 => ?_
  refine wp_region_lit ?_
  refine op_q F72 (.pointer (some ⟨g1, 17, none⟩)) ?_; intro a75 F75
  refine op_rq (v := .slice (t.dA) (t.kids.length) (t.dc)) F75 (r_ld rfl (F75.e (.pointer (some ⟨g1, 17, none⟩))) (v := .slice (t.dA) (t.kids.length) (t.dc)) ((S72.bk 5 rfl).cell 17) Try.underlying28 rfl) ?_; intro a76 F76
  refine op_q F76 (.int .i64 (↑t.kids.length)) ?_; intro a77 F77
  refine op_q F77 (.int .i64 0) ?_; intro a78 F78
  refine wpList_nil ?_
  refine hK74 _ _ ?_; clear hK74 K74
  refine wp_block ?_
  have S79 : Sp R w72 (SA.own (.slice none 0 0) 125 1 (([] : List (Option Addr)).length) (pps []) :: SA.stars ([].map (SA.kid m g56)) :: SA.blk g56 245 #[.slice none 0 0, .pointer (some ⟨g68, 0, none⟩), .slice none 0 0, .map none, .slice none 0 0, .slice B54 ps54.length b54, .pointer none, .slice none 0 0] :: SA.met g68 (nmM t.n) :: SA.own (.slice B54 ps54.length b54) 169 1 ps54.length (pps ps54) :: SA.zips SA.fo ps54 t.fs :: SA.blk gl 3 #[.int .i64 (↑(n - 1))] :: SA.blk g1 30 #[.bool false, .string ((nmM t.n).fName), .string ((nmM t.n).fHome), .string ((nmM t.n).fVersion), .string ((nmM t.n).fDescription), .string ((nmM t.n).fIcon), .string ((nmM t.n).fAPIVersion), .string ((nmM t.n).fCondition), .string ((nmM t.n).fTags), .string ((nmM t.n).fAppVersion), .string ((nmM t.n).fKubeVersion), .string ((nmM t.n).fType), .slice ((nmM t.n).fSources_a) ((nmM t.n).fSources.length) ((nmM t.n).fSources_c), .slice ((nmM t.n).fKeywords_a) ((nmM t.n).fKeywords.length) ((nmM t.n).fKeywords_c), .slice ((nmM t.n).fMaintainers_a) ((nmM t.n).fMaintainers.length) ((nmM t.n).fMaintainers_c), .slice ((nmM t.n).fDependencies_a) ((nmM t.n).fDependencies.length) ((nmM t.n).fDependencies_c), .slice (t.fA) (t.fs.length) (t.fc), .slice (t.dA) (t.kids.length) (t.dc)] :: L) := Sp.nilown (e := 125) (sz := 1) ((Sp.stars (l := [])).2 S72)
  refine fw_loop (fun m' a' w' => ∃ n2 : Nat, ∃ D : Option Addr, ∃ d : Nat, ∃ qs : List (Option Addr), ∃ ks : List Ob, ∃ k : Nat, t.kids.length - k = m' ∧ Fr 75 [] a' [(1, .int .i64 lv), (2, .pointer (some ⟨gl, 0, none⟩)), (8, .pointer (some ⟨g56, 0, none⟩)), (53, .slice (t.dA) (t.kids.length) (t.dc)), (54, .int .i64 (↑t.kids.length)), (55, .int .i64 (↑k))] ∧ Sp R w' (SA.blk gl 3 #[.int .i64 (↑n2)] :: SA.blk g56 245 #[.slice none 0 0, .pointer (some ⟨g68, 0, none⟩), .slice none 0 0, .map none, .slice none 0 0, .slice B54 ps54.length b54, .pointer none, .slice D qs.length d] :: SA.own (.slice D qs.length d) 125 1 qs.length (pps qs) :: SA.met g68 (nmM t.n) :: SA.zips SA.fo ps54 t.fs :: SA.own (.slice B54 ps54.length b54) 169 1 ps54.length (pps ps54) :: SA.stars (ks.map (SA.kid m g56)) :: L) ∧ (k ≤ t.kids.length) ∧ (n2 + ((t.kids.take k).map (Tr.cnt m)).sum + 1 = n) ∧ (ks.length = k) ∧ (qs = ks.map Ob.ptr) ∧ (∀ o ∈ ks, ObOk m o) ∧ (ks.map (Ob.pl m) = (t.kids.take k).map (Tr.pl m))) _ ⟨n - 1, none, 0, [], [], 0, rfl, (F78.kk 1 (F78.kk 2 (F78.kk 8 (F78.kk 53 (F78.kk 54 (F78.kk 55 F78.nil)))))), S79.p7.drop.p1.p4.p5.p5.p4.p5.p6, (by first | omega | (with_reducible assumption) | (simp; done)), (by simp; omega), rfl, rfl, (fun o ho => by cases ho), rfl⟩ ?_
  rintro m80 a80 w80 ⟨n2, D, d, qs, ks, k, hm80, F80, S80, hk, hN, hkl, hqs, hok, hpl⟩ K80 hK80
  by_cases hlt_k : k < t.kids.length
  · have hc_k : decide ((↑k : Int) < ↑t.kids.length) = true := by first | (simp; done) | (simp; omega)
    obtain ⟨ad81, hA81⟩ := (hD _ S80.drop.drop.drop.drop.drop.drop.drop).addr (by simp; omega)
    have hlt_k2 : k < t.kids.length := by omega
    have hkk := hto5 _ (List.getElem_mem hlt_k2)
    have hKj : Rf R L fun w => TrAt w m t.kids[k] := fun w S => (h0 w S).2.2 _ (List.getElem_mem hlt_k2)
    have hsk := sum_take (f := Tr.cnt m) hlt_k2
    have hql : qs.length ≤ 1000 := by rw [hqs, List.length_map]; omega
    refine wp_seq_k fun K82 hK82 => ?_
    refine wp_region_lit ?_
    refine op_q F80 (.bool (decide ((↑k : Int) < ↑t.kids.length))) ?_; intro a83 F83
    have F84 := F83.sb 56 (by kernel_rfl) hc_k
    refine wpList_nil ?_
    refine hK82 _ _ ?_; clear hK82 K82
    refine wp_seq_k fun K85 hK85 => ?_
    refine wp_cond_true (F84.ev (by kernel_rfl)) ?_
    refine wp_skip ?_
    refine hK85 _ _ ?_; clear hK85 K85
    refine wp_seq_k fun K86 hK86 => ?_
    refine wp_block ?_
    refine wp_seq_k fun K87 hK87 => ?_
    refine wp_region_lit ?_
    refine op_rq (v := .pointer (some (ad81.add (k * 18)))) F84 (r_ix rfl Try.underlying28 18 (by kernel_rfl) (F84.e (.slice (t.dA) (t.kids.length) (t.dc))) hA81 (F84.e (.int .i64 (↑k))) k (by first | rfl | omega | simp) (by first | omega | (simp; done) | (simp; omega)) (rfl)) ?_; intro a88 F88
    refine op_rq (v := .agg #[.bool false, .string ((nmM t.kids[k].n).fName), .string ((nmM t.kids[k].n).fHome), .string ((nmM t.kids[k].n).fVersion), .string ((nmM t.kids[k].n).fDescription), .string ((nmM t.kids[k].n).fIcon), .string ((nmM t.kids[k].n).fAPIVersion), .string ((nmM t.kids[k].n).fCondition), .string ((nmM t.kids[k].n).fTags), .string ((nmM t.kids[k].n).fAppVersion), .string ((nmM t.kids[k].n).fKubeVersion), .string ((nmM t.kids[k].n).fType), .slice ((nmM t.kids[k].n).fSources_a) ((nmM t.kids[k].n).fSources.length) ((nmM t.kids[k].n).fSources_c), .slice ((nmM t.kids[k].n).fKeywords_a) ((nmM t.kids[k].n).fKeywords.length) ((nmM t.kids[k].n).fKeywords_c), .slice ((nmM t.kids[k].n).fMaintainers_a) ((nmM t.kids[k].n).fMaintainers.length) ((nmM t.kids[k].n).fMaintainers_c), .slice ((nmM t.kids[k].n).fDependencies_a) ((nmM t.kids[k].n).fDependencies.length) ((nmM t.kids[k].n).fDependencies_c), .slice t.kids[k].fA t.kids[k].fs.length t.kids[k].fc, .slice t.kids[k].dA t.kids[k].kids.length t.kids[k].dc]) F88 (r_ldR rfl (F88.e (.pointer (some (ad81.add (k * 18))))) (cs := [.bool false, .string ((nmM t.kids[k].n).fName), .string ((nmM t.kids[k].n).fHome), .string ((nmM t.kids[k].n).fVersion), .string ((nmM t.kids[k].n).fDescription), .string ((nmM t.kids[k].n).fIcon), .string ((nmM t.kids[k].n).fAPIVersion), .string ((nmM t.kids[k].n).fCondition), .string ((nmM t.kids[k].n).fTags), .string ((nmM t.kids[k].n).fAppVersion), .string ((nmM t.kids[k].n).fKubeVersion), .string ((nmM t.kids[k].n).fType), .slice ((nmM t.kids[k].n).fSources_a) ((nmM t.kids[k].n).fSources.length) ((nmM t.kids[k].n).fSources_c), .slice ((nmM t.kids[k].n).fKeywords_a) ((nmM t.kids[k].n).fKeywords.length) ((nmM t.kids[k].n).fKeywords_c), .slice ((nmM t.kids[k].n).fMaintainers_a) ((nmM t.kids[k].n).fMaintainers.length) ((nmM t.kids[k].n).fMaintainers_c), .slice ((nmM t.kids[k].n).fDependencies_a) ((nmM t.kids[k].n).fDependencies.length) ((nmM t.kids[k].n).fDependencies_c), .slice t.kids[k].fA t.kids[k].fs.length t.kids[k].fc, .slice t.kids[k].dA t.kids[k].kids.length t.kids[k].dc]) ((hD _ S80.drop.drop.drop.drop.drop.drop.drop).elA hA81 (j := k) (row := t.kids[k].cells) (by rw [List.getElem?_map, List.getElem?_eq_getElem hlt_k]; rfl)) Try.underlying30 rfl (by kernel_rfl) (v := #[.bool false, .string ((nmM t.kids[k].n).fName), .string ((nmM t.kids[k].n).fHome), .string ((nmM t.kids[k].n).fVersion), .string ((nmM t.kids[k].n).fDescription), .string ((nmM t.kids[k].n).fIcon), .string ((nmM t.kids[k].n).fAPIVersion), .string ((nmM t.kids[k].n).fCondition), .string ((nmM t.kids[k].n).fTags), .string ((nmM t.kids[k].n).fAppVersion), .string ((nmM t.kids[k].n).fKubeVersion), .string ((nmM t.kids[k].n).fType), .slice ((nmM t.kids[k].n).fSources_a) ((nmM t.kids[k].n).fSources.length) ((nmM t.kids[k].n).fSources_c), .slice ((nmM t.kids[k].n).fKeywords_a) ((nmM t.kids[k].n).fKeywords.length) ((nmM t.kids[k].n).fKeywords_c), .slice ((nmM t.kids[k].n).fMaintainers_a) ((nmM t.kids[k].n).fMaintainers.length) ((nmM t.kids[k].n).fMaintainers_c), .slice ((nmM t.kids[k].n).fDependencies_a) ((nmM t.kids[k].n).fDependencies.length) ((nmM t.kids[k].n).fDependencies_c), .slice t.kids[k].fA t.kids[k].fs.length t.kids[k].fc, .slice t.kids[k].dA t.kids[k].kids.length t.kids[k].dc]) (by kernel_rfl)) ?_; intro a89 F89
    refine op_sq F89 (s_newp F89 30 #[.bool false, .string ⟨#[]⟩, .string ⟨#[]⟩, .string ⟨#[]⟩, .string ⟨#[]⟩, .string ⟨#[]⟩, .string ⟨#[]⟩, .string ⟨#[]⟩, .string ⟨#[]⟩, .string ⟨#[]⟩, .string ⟨#[]⟩, .string ⟨#[]⟩, .slice none 0 0, .slice none 0 0, .slice none 0 0, .slice none 0 0, .slice none 0 0, .slice none 0 0] (by kernel_rfl) (by kernel_rfl) (by kernel_rfl) S80) ?_
    rintro _ _ w91 ⟨g89, rfl, rfl⟩ S91 a91 F91
    refine op_sq0 F91 (s_stb rfl (F91.e (.pointer (some ⟨g89, 0, none⟩))) (F91.e (.agg #[.bool false, .string ((nmM t.kids[k].n).fName), .string ((nmM t.kids[k].n).fHome), .string ((nmM t.kids[k].n).fVersion), .string ((nmM t.kids[k].n).fDescription), .string ((nmM t.kids[k].n).fIcon), .string ((nmM t.kids[k].n).fAPIVersion), .string ((nmM t.kids[k].n).fCondition), .string ((nmM t.kids[k].n).fTags), .string ((nmM t.kids[k].n).fAppVersion), .string ((nmM t.kids[k].n).fKubeVersion), .string ((nmM t.kids[k].n).fType), .slice ((nmM t.kids[k].n).fSources_a) ((nmM t.kids[k].n).fSources.length) ((nmM t.kids[k].n).fSources_c), .slice ((nmM t.kids[k].n).fKeywords_a) ((nmM t.kids[k].n).fKeywords.length) ((nmM t.kids[k].n).fKeywords_c), .slice ((nmM t.kids[k].n).fMaintainers_a) ((nmM t.kids[k].n).fMaintainers.length) ((nmM t.kids[k].n).fMaintainers_c), .slice ((nmM t.kids[k].n).fDependencies_a) ((nmM t.kids[k].n).fDependencies.length) ((nmM t.kids[k].n).fDependencies_c), .slice t.kids[k].fA t.kids[k].fs.length t.kids[k].fc, .slice t.kids[k].dA t.kids[k].kids.length t.kids[k].dc])) S91 (by kernel_rfl) rfl (by kernel_rfl)) ?_
    rintro _ _ w92 rfl S92 F92
    refine wpList_nil ?_
    refine hK87 _ _ ?_; clear hK87 K87
    refine wp_seq_k fun K93 hK93 => ?_
    refine wp_region_lit ?_
    refine op_rq (v := .agg #[.bool false, .string ((nmM t.kids[k].n).fName), .string ((nmM t.kids[k].n).fHome), .string ((nmM t.kids[k].n).fVersion), .string ((nmM t.kids[k].n).fDescription), .string ((nmM t.kids[k].n).fIcon), .string ((nmM t.kids[k].n).fAPIVersion), .string ((nmM t.kids[k].n).fCondition), .string ((nmM t.kids[k].n).fTags), .string ((nmM t.kids[k].n).fAppVersion), .string ((nmM t.kids[k].n).fKubeVersion), .string ((nmM t.kids[k].n).fType), .slice ((nmM t.kids[k].n).fSources_a) ((nmM t.kids[k].n).fSources.length) ((nmM t.kids[k].n).fSources_c), .slice ((nmM t.kids[k].n).fKeywords_a) ((nmM t.kids[k].n).fKeywords.length) ((nmM t.kids[k].n).fKeywords_c), .slice ((nmM t.kids[k].n).fMaintainers_a) ((nmM t.kids[k].n).fMaintainers.length) ((nmM t.kids[k].n).fMaintainers_c), .slice ((nmM t.kids[k].n).fDependencies_a) ((nmM t.kids[k].n).fDependencies.length) ((nmM t.kids[k].n).fDependencies_c), .slice t.kids[k].fA t.kids[k].fs.length t.kids[k].fc, .slice t.kids[k].dA t.kids[k].kids.length t.kids[k].dc]) F92 (r_ldm rfl (F92.e (.pointer (some ⟨g89, 0, none⟩))) (S92.bk 0 rfl) 18 (by kernel_rfl) Try.underlying30 rfl (by kernel_rfl) (v := #[.bool false, .string ((nmM t.kids[k].n).fName), .string ((nmM t.kids[k].n).fHome), .string ((nmM t.kids[k].n).fVersion), .string ((nmM t.kids[k].n).fDescription), .string ((nmM t.kids[k].n).fIcon), .string ((nmM t.kids[k].n).fAPIVersion), .string ((nmM t.kids[k].n).fCondition), .string ((nmM t.kids[k].n).fTags), .string ((nmM t.kids[k].n).fAppVersion), .string ((nmM t.kids[k].n).fKubeVersion), .string ((nmM t.kids[k].n).fType), .slice ((nmM t.kids[k].n).fSources_a) ((nmM t.kids[k].n).fSources.length) ((nmM t.kids[k].n).fSources_c), .slice ((nmM t.kids[k].n).fKeywords_a) ((nmM t.kids[k].n).fKeywords.length) ((nmM t.kids[k].n).fKeywords_c), .slice ((nmM t.kids[k].n).fMaintainers_a) ((nmM t.kids[k].n).fMaintainers.length) ((nmM t.kids[k].n).fMaintainers_c), .slice ((nmM t.kids[k].n).fDependencies_a) ((nmM t.kids[k].n).fDependencies.length) ((nmM t.kids[k].n).fDependencies_c), .slice t.kids[k].fA t.kids[k].fs.length t.kids[k].fc, .slice t.kids[k].dA t.kids[k].kids.length t.kids[k].dc]) (by kernel_rfl)) ?_; intro a94 F94
    refine op_q F94 (.int .i64 lv) ?_; intro a95 F95
    refine op_rq (v := .int .i64 (lv - 1)) F95 (r_sub (z := (lv - 1)) rfl (F95.e (.int .i64 lv)) (F95.e (.int .i64 1)) (wr64 (by omega) (by omega) (by omega))) ?_; intro a96 F96
    refine op_q F96 (.pointer (some ⟨gl, 0, none⟩)) ?_; intro a97 F97
    have hcl98 := ih t.kids[k] (lv - 1) gl n2 _ _ _ S92.p1 (fun w S => hKj w S.drop.drop.drop.drop.drop.drop.drop) hkk (by have := hlv.1; have := hlv.2; constructor <;> omega) (by have h1 := hsk.2; constructor <;> omega)
    refine op_cq F97 (f := 126) hcl98 ?_
    rintro _ w98 ⟨o98, rfl, S98, hp0_98, hp1_98⟩
    refine ⟨_, rfl, ?_⟩
    intro a99 F99
    refine op_q F99 (.tuple #[.pointer (some ⟨o98.g, 0, none⟩), .bool true]) ?_; intro a100 F100
    refine op_q F100 (.pointer (some ⟨o98.g, 0, none⟩)) ?_; intro a101 F101
    refine op_q F101 (.bool true) ?_; intro a102 F102
    refine op_q F102 (.pointer (some ⟨o98.g, 0, none⟩)) ?_; intro a103 F103
    refine op_q F103 (.bool true) ?_; intro a104 F104
    refine wpList_nil ?_
    refine hK93 _ _ ?_; clear hK93 K93
    refine wp_seq_k fun K105 hK105 => ?_
    refine wp_seq_k fun K106 hK106 => ?_
    refine wp_region_lit ?_
    refine op_q F104 (.bool true) ?_; intro a107 F107
    refine op_q F107 (.bool false) ?_; intro a108 F108
    refine wpList_nil ?_
    refine hK106 _ _ ?_; clear hK106 K106
    refine wp_cond_false (F108.ev (by kernel_rfl)) ?_
    refine wp_skip ?_
    refine hK105 _ _ ?_; clear hK105 K105
    refine wp_region_lit ?_
    refine op_q F108 (.pointer (some ⟨g56, 0, none⟩)) ?_; intro a109 F109
    refine op_q F109 (.pointer (some ⟨o98.g, 0, none⟩)) ?_; intro a110 F110
    refine op_sq F110 (s_news F110 125 #[.pointer (some ⟨o98.g, 0, none⟩)] 1 (by kernel_rfl) (by kernel_rfl) (by kernel_rfl) S98) ?_
    rintro _ _ w112 ⟨g110, rfl, rfl⟩ S112 a112 F112
    have S113 : Sp R w112 (SA.blk o98.g 245 #[.slice none 0 0, .pointer (some ⟨o98.gm, 0, none⟩), .slice none 0 0, .map none, .slice none 0 0, .slice o98.fA o98.ps.length o98.fc, .pointer none, .slice o98.dA o98.kids.length o98.dc] :: SA.ob (m) o98 :: SA.blk g110 125 #[.pointer (some ⟨o98.g, 0, none⟩)] :: SA.blk gl 3 #[.int .i64 (↑(n2 - Tr.cnt (m) t.kids[k]))] :: SA.blk g89 30 #[.bool false, .string ((nmM t.kids[k].n).fName), .string ((nmM t.kids[k].n).fHome), .string ((nmM t.kids[k].n).fVersion), .string ((nmM t.kids[k].n).fDescription), .string ((nmM t.kids[k].n).fIcon), .string ((nmM t.kids[k].n).fAPIVersion), .string ((nmM t.kids[k].n).fCondition), .string ((nmM t.kids[k].n).fTags), .string ((nmM t.kids[k].n).fAppVersion), .string ((nmM t.kids[k].n).fKubeVersion), .string ((nmM t.kids[k].n).fType), .slice ((nmM t.kids[k].n).fSources_a) ((nmM t.kids[k].n).fSources.length) ((nmM t.kids[k].n).fSources_c), .slice ((nmM t.kids[k].n).fKeywords_a) ((nmM t.kids[k].n).fKeywords.length) ((nmM t.kids[k].n).fKeywords_c), .slice ((nmM t.kids[k].n).fMaintainers_a) ((nmM t.kids[k].n).fMaintainers.length) ((nmM t.kids[k].n).fMaintainers_c), .slice ((nmM t.kids[k].n).fDependencies_a) ((nmM t.kids[k].n).fDependencies.length) ((nmM t.kids[k].n).fDependencies_c), .slice t.kids[k].fA t.kids[k].fs.length t.kids[k].fc, .slice t.kids[k].dA t.kids[k].kids.length t.kids[k].dc] :: SA.blk g56 245 #[.slice none 0 0, .pointer (some ⟨g68, 0, none⟩), .slice none 0 0, .map none, .slice none 0 0, .slice B54 ps54.length b54, .pointer none, .slice D qs.length d] :: SA.own (.slice D qs.length d) 125 1 qs.length (pps qs) :: SA.met g68 (nmM t.n) :: SA.zips SA.fo ps54 t.fs :: SA.own (.slice B54 ps54.length b54) 169 1 ps54.length (pps ps54) :: SA.stars (ks.map (SA.kid m g56)) :: L) := Sp.star.1 S112.p2
    refine op_cq F112 (f := 185) (args := #[.pointer (some ⟨g56, 0, none⟩), .slice (some ⟨g110, 0, none⟩) 1 1]) (addDep_x g56 o98.g g110 g68 B54 ps54.length b54 o98.gm o98.fA o98.ps.length o98.fc o98.dA o98.kids.length o98.dc D d qs _ _ _ ((S113.p6).p6) (fun w S => S.bk 1 rfl) (by first | omega | (simp; done) | (simp; omega))) ?_
    rintro _ w114 ⟨D2114, d2114, rfl, S114⟩
    refine ⟨_, rfl, ?_⟩
    intro a115 F115
    refine wpList_nil ?_
    refine hK86 _ _ ?_; clear hK86 K86
    refine wp_region_lit ?_
    refine op_rq (v := .int .i64 (↑(k + 1))) F115 (r_add (z := ↑(k + 1)) rfl (F115.e (.int .i64 (↑k))) (F115.e (.int .i64 1)) (wr64 (by omega) (by omega) (by omega))) ?_; intro a116 F116
    refine op_q F116 (.int .i64 (↑(k + 1))) ?_; intro a117 F117
    refine wpList_nil ?_
    have S118 : Sp R w114 (SA.kid m g56 o98 :: SA.blk g56 245 #[.slice none 0 0, .pointer (some ⟨g68, 0, none⟩), .slice none 0 0, .map none, .slice none 0 0, .slice (B54) (ps54.length) (b54), .pointer none, .slice D2114 ((qs ++ [some (⟨o98.g, 0, none⟩ : Addr)]).length) d2114] :: SA.own (.slice D2114 (qs ++ [some (⟨o98.g, 0, none⟩ : Addr)]).length d2114) 125 1 ((qs ++ [some (⟨o98.g, 0, none⟩ : Addr)]).length) (pps (qs ++ [some (⟨o98.g, 0, none⟩ : Addr)])) :: SA.blk g110 125 #[.pointer (some ⟨o98.g, 0, none⟩)] :: SA.blk gl 3 #[.int .i64 (↑(n2 - Tr.cnt (m) t.kids[k]))] :: SA.blk g89 30 #[.bool false, .string ((nmM t.kids[k].n).fName), .string ((nmM t.kids[k].n).fHome), .string ((nmM t.kids[k].n).fVersion), .string ((nmM t.kids[k].n).fDescription), .string ((nmM t.kids[k].n).fIcon), .string ((nmM t.kids[k].n).fAPIVersion), .string ((nmM t.kids[k].n).fCondition), .string ((nmM t.kids[k].n).fTags), .string ((nmM t.kids[k].n).fAppVersion), .string ((nmM t.kids[k].n).fKubeVersion), .string ((nmM t.kids[k].n).fType), .slice ((nmM t.kids[k].n).fSources_a) ((nmM t.kids[k].n).fSources.length) ((nmM t.kids[k].n).fSources_c), .slice ((nmM t.kids[k].n).fKeywords_a) ((nmM t.kids[k].n).fKeywords.length) ((nmM t.kids[k].n).fKeywords_c), .slice ((nmM t.kids[k].n).fMaintainers_a) ((nmM t.kids[k].n).fMaintainers.length) ((nmM t.kids[k].n).fMaintainers_c), .slice ((nmM t.kids[k].n).fDependencies_a) ((nmM t.kids[k].n).fDependencies.length) ((nmM t.kids[k].n).fDependencies_c), .slice t.kids[k].fA t.kids[k].fs.length t.kids[k].fc, .slice t.kids[k].dA t.kids[k].kids.length t.kids[k].dc] :: SA.met g68 (nmM t.n) :: SA.zips SA.fo ps54 t.fs :: SA.own (.slice B54 ps54.length b54) 169 1 ps54.length (pps ps54) :: SA.stars (ks.map (SA.kid m g56)) :: L) := Sp.star.2 S114.p3.p3
    have S119 : Sp R w114 (SA.stars ((ks ++ [o98]).map (SA.kid m g56)) :: SA.blk g56 245 #[.slice none 0 0, .pointer (some ⟨g68, 0, none⟩), .slice none 0 0, .map none, .slice none 0 0, .slice (B54) (ps54.length) (b54), .pointer none, .slice D2114 ((qs ++ [some (⟨o98.g, 0, none⟩ : Addr)]).length) d2114] :: SA.own (.slice D2114 (qs ++ [some (⟨o98.g, 0, none⟩ : Addr)]).length d2114) 125 1 ((qs ++ [some (⟨o98.g, 0, none⟩ : Addr)]).length) (pps (qs ++ [some (⟨o98.g, 0, none⟩ : Addr)])) :: SA.blk g110 125 #[.pointer (some ⟨o98.g, 0, none⟩)] :: SA.blk gl 3 #[.int .i64 (↑(n2 - Tr.cnt (m) t.kids[k]))] :: SA.blk g89 30 #[.bool false, .string ((nmM t.kids[k].n).fName), .string ((nmM t.kids[k].n).fHome), .string ((nmM t.kids[k].n).fVersion), .string ((nmM t.kids[k].n).fDescription), .string ((nmM t.kids[k].n).fIcon), .string ((nmM t.kids[k].n).fAPIVersion), .string ((nmM t.kids[k].n).fCondition), .string ((nmM t.kids[k].n).fTags), .string ((nmM t.kids[k].n).fAppVersion), .string ((nmM t.kids[k].n).fKubeVersion), .string ((nmM t.kids[k].n).fType), .slice ((nmM t.kids[k].n).fSources_a) ((nmM t.kids[k].n).fSources.length) ((nmM t.kids[k].n).fSources_c), .slice ((nmM t.kids[k].n).fKeywords_a) ((nmM t.kids[k].n).fKeywords.length) ((nmM t.kids[k].n).fKeywords_c), .slice ((nmM t.kids[k].n).fMaintainers_a) ((nmM t.kids[k].n).fMaintainers.length) ((nmM t.kids[k].n).fMaintainers_c), .slice ((nmM t.kids[k].n).fDependencies_a) ((nmM t.kids[k].n).fDependencies.length) ((nmM t.kids[k].n).fDependencies_c), .slice t.kids[k].fA t.kids[k].fs.length t.kids[k].fc, .slice t.kids[k].dA t.kids[k].kids.length t.kids[k].dc] :: SA.met g68 (nmM t.n) :: SA.zips SA.fo ps54 t.fs :: SA.own (.slice B54 ps54.length b54) 169 1 ps54.length (pps ps54) :: L) := by rw [List.map_append, List.map_cons, List.map_nil]; exact stars_snoc S118.p9.p1
    exact hK80 _ _ _ (by first | omega | (simp; omega)) ⟨(n2 - Tr.cnt m t.kids[k]), D2114, d2114, (qs ++ [some (⟨o98.g, 0, none⟩ : Addr)]), (ks ++ [o98]), k + 1, rfl, (F117.kk 1 (F117.kk 2 (F117.kk 8 (F117.kk 53 (F117.kk 54 (F117.kk 55 F117.nil)))))), S119.p3.drop.p4.drop.p6.p6.p6.p5.p5.p6, (by first | omega | (with_reducible assumption) | (simp; done)), (by rw [hsk.1]; have h1 := hsk.2; omega), (by simp [hkl]), (by rw [hqs, List.map_append]; rfl), (fun o ho => (List.mem_append.1 ho).elim (hok o) fun h => by rw [List.mem_singleton.1 h]; exact hp0_98), (by rw [List.map_append, hpl, List.map_cons, List.map_nil, hp1_98, List.take_succ_eq_append_getElem hlt_k2, List.map_append]; rfl)⟩
  · have hc_k : decide ((↑k : Int) < ↑t.kids.length) = false := by first | (simp; done) | (simp; omega)
    obtain rfl : k = t.kids.length := by omega
    rw [List.take_length] at hN hpl
    refine wp_seq_k fun K120 hK120 => ?_
    refine wp_region_lit ?_
    refine op_q F80 (.bool (decide ((↑t.kids.length : Int) < ↑t.kids.length))) ?_; intro a121 F121
    have F122 := F121.sb 56 (by kernel_rfl) hc_k
    refine wpList_nil ?_
    refine hK120 _ _ ?_; clear hK120 K120
    refine wp_seq_k fun K123 hK123 => ?_
    refine wp_cond_false (F122.ev (by kernel_rfl)) ?_
    refine wp_exit ?_
    refine ex_then ?_; clear hK123 K123
    refine ex_then ?_
    refine ex_in ?_
    refine hK73 _ _ ?_; clear hK73 K73
    refine wp_seq_k fun K124 hK124 => ?_
    have hql : qs.length = ks.length := by rw [hqs, List.length_map]
    have Sq125 := S80
    rw [hql, hqs] at Sq125
    refine wp_region_lit ?_
    refine op_q F122 (.pointer (some ⟨g56, 0, none⟩)) ?_; intro a126 F126
    refine op_q F126 (.pointer (some ⟨g56, 0, none⟩)) ?_; intro a127 F127
    refine op_q F127 (.bool true) ?_; intro a128 F128
    refine wpList_nil ?_
    refine hK124 _ _ ?_; clear hK124 K124
    refine wp_ret ?_
    have S129 : Sp R w80 (SA.ob (m + 1) (Ob.mk g56 g68 t.n B54 b54 ps54 t.fs D d ks) :: SA.blk gl 3 #[.int .i64 (↑n2)] :: SA.blk g56 245 #[.slice none 0 0, .pointer (some ⟨g68, 0, none⟩), .slice none 0 0, .map none, .slice none 0 0, .slice B54 ps54.length b54, .pointer none, .slice D ks.length d] :: L) := Sp.ob_mk Sq125.p6.p3.p5.p6.p6
    have S130 : Sp R w80 (SA.root (m + 1) (Ob.mk g56 g68 t.n B54 b54 ps54 t.fs D d ks) :: SA.blk gl 3 #[.int .i64 (↑n2)] :: L) := Sp.star.2 S129.p2
    have S131 : Sp R w80 (SA.blk gl 3 #[.int .i64 (↑(n - Tr.cnt (m + 1) t))] :: SA.root (m + 1) (Ob.mk g56 g68 t.n B54 b54 ps54 t.fs D d ks) :: L) := by rw [show n - Tr.cnt (m + 1) t = n2 from by show n - (1 + (t.kids.map (Tr.cnt m)).sum) = n2; omega]; exact S130.p1
    refine (F128.res2 rfl (v := .pointer (some ⟨g56, 0, none⟩)) (by kernel_rfl) (v2 := .bool true) (by kernel_rfl) ?_).1
    exact ⟨(Ob.mk g56 g68 t.n B54 b54 ps54 t.fs D d ks), rfl, S131.p1.p1, ⟨hto1, hto2, hto3, by show ks.length ≤ 1000; omega, hok⟩, (by show Pt.mk _ _ (ks.map (Ob.pl m)) = Pt.mk _ _ (t.kids.map (Tr.pl m)); rw [hpl]; rfl)⟩
theorem chart2_sp : ∀ m : Nat, Chart2C m
  | 0 => fun t lv gl n R L w S h0 ht _ _ => ht.elim
  | m + 1 => fun t lv gl n R L w S h0 ht hlv hn => chart2_S m t lv gl n R L w S h0 (chart2_sp m) ht hlv hn
end Go.Proofs.Ytkjcedlgljeoiaa

/- Where charts stand: Name, IsRoot, Root, ChartPath, ChartFullPath; impl.pathsOf, impl.ChartPaths. -/
namespace Go.Proofs.Ytkjcedlgljeoiaa
open Go.RowKit Go.Lib
set_option linter.unusedVariables false
set_option linter.unusedSimpArgs false
def mkP (n p f : ByteArray) (b : Bool) (r : ByteArray) : Ty39 := { fName := n, fPath := p, fFull := f, fIsRoot := b, fRoot := r }
def childP (p : Ty39) (n : ByteArray) : Ty39 := mkP n (p.fPath ++ (⟨#[46]⟩ : ByteArray) ++ n) (p.fFull ++ (⟨#[47, 99, 104, 97, 114, 116, 115, 47]⟩ : ByteArray) ++ n) false p.fRoot
def rootP (n : ByteArray) : Ty39 := mkP n n n true n
def Pt.n : Pt → ByteArray | mk n _ _ => n
def Pt.fs : Pt → List ByteArray | mk _ l _ => l
def Pt.kids : Pt → List Pt | mk _ _ l => l
/-- Where the charts of a tree stand. -/
def specP : Nat → Ty39 → Pt → List Ty39
  | 0 => fun p _ => [p]
  | m + 1 => fun p t => p :: t.kids.flatMap fun d => specP m (childP p d.n) d
def Pt.cnt : Nat → Pt → Nat
  | 0 => fun _ => 1
  | m + 1 => fun t => 1 + (t.kids.map (Pt.cnt m)).sum
theorem Ob.pl_n (m : Nat) (o : Ob) : (Ob.pl m o).n = o.n := by cases m <;> rfl
theorem Tr.pl_n (m : Nat) (t : Tr) : (Tr.pl m t).n = t.n := by cases m <;> rfl
theorem pl_cnt : ∀ (m : Nat) (t : Tr), Pt.cnt m (Tr.pl m t) = Tr.cnt m t
  | 0, _ => rfl
  | m + 1, t => by
    show 1 + ((t.kids.map (Tr.pl m)).map (Pt.cnt m)).sum = 1 + (t.kids.map (Tr.cnt m)).sum
    rw [List.map_map]
    have : Pt.cnt m ∘ Tr.pl m = Tr.cnt m := by funext d; exact pl_cnt m d
    rw [this]
/-- A chart and those above it. -/
def ChnAt (w : World) : List Ob → Prop
  | [] => False
  | [a] => Blk w a.g 245 #[.slice none 0 0, .pointer (some ⟨a.gm, 0, none⟩), .slice none 0 0, .map none, .slice none 0 0, .slice a.fA a.ps.length a.fc, .pointer none, .slice a.dA a.kids.length a.dc] ∧ w.cell? ⟨a.gm, 0, none⟩ = some (.string a.n)
  | a :: b :: l => Blk w a.g 245 #[.slice none 0 0, .pointer (some ⟨a.gm, 0, none⟩), .slice none 0 0, .map none, .slice none 0 0, .slice a.fA a.ps.length a.fc, .pointer (some ⟨b.g, 0, none⟩), .slice a.dA a.kids.length a.dc] ∧ w.cell? ⟨a.gm, 0, none⟩ = some (.string a.n) ∧ ChnAt w (b :: l)
def pathOf : List Ob → Ty39
  | [] => rootP ⟨#[]⟩
  | [a] => rootP a.n
  | a :: b :: l => childP (pathOf (b :: l)) a.n
def lastO : Ob → List Ob → Ob
  | a, [] => a
  | _, b :: l => lastO b l
def ChOk (l : List Ob) : Prop := l.length ≤ 20 ∧ ∀ o ∈ l, o.n.size ≤ 8
theorem ChOk.tail {a : Ob} {l : List Ob} (h : ChOk (a :: l)) : ChOk l := ⟨by have := h.1; simp at this; omega, fun o ho => h.2 o (List.mem_cons_of_mem _ ho)⟩
theorem path_sz : ∀ (l : List Ob), ChOk l → (pathOf l).fPath.size ≤ 9 * l.length + 8 ∧ (pathOf l).fFull.size ≤ 16 * l.length + 8
  | [], _ => ⟨by decide, by decide⟩
  | [a], h => by have := h.2 a (List.mem_cons_self ..); exact ⟨by show a.n.size ≤ _; omega, by show a.n.size ≤ _; omega⟩
  | a :: b :: l, h => by
    have h1 := h.2 a (List.mem_cons_self ..)
    obtain ⟨h2, h3⟩ := path_sz (b :: l) h.tail
    have e0 : (⟨#[46]⟩ : ByteArray).size = 1 := rfl
    have e1 : (⟨#[47, 99, 104, 97, 114, 116, 115, 47]⟩ : ByteArray).size = 8 := rfl
    constructor
    · show ((pathOf (b :: l)).fPath ++ (⟨#[46]⟩ : ByteArray) ++ a.n).size ≤ _
      rw [ByteArray.size_append, ByteArray.size_append, e0]; simp only [List.length_cons] at *; omega
    · show ((pathOf (b :: l)).fFull ++ (⟨#[47, 99, 104, 97, 114, 116, 115, 47]⟩ : ByteArray) ++ a.n).size ≤ _
      rw [ByteArray.size_append, ByteArray.size_append, e1]; simp only [List.length_cons] at *; omega
/-- The parent's address. -/
def parO : List Ob → Option Addr
  | [] => none
  | b :: _ => some ⟨b.g, 0, none⟩
theorem chn_top {w : World} {a : Ob} {l : List Ob} (h : ChnAt w (a :: l)) : Blk w a.g 245 #[.slice none 0 0, .pointer (some ⟨a.gm, 0, none⟩), .slice none 0 0, .map none, .slice none 0 0, .slice a.fA a.ps.length a.fc, .pointer (parO l), .slice a.dA a.kids.length a.dc] ∧ w.cell? ⟨a.gm, 0, none⟩ = some (.string a.n) := by
  cases l with
  | nil => exact h
  | cons b l => exact ⟨h.1, h.2.1⟩
set_option maxRecDepth 100000 in
set_option maxHeartbeats 20000000 in
theorem isRoot_n (g : Nat) (v0 : Value) (v1 : Value) (v2 : Value) (v3 : Value) (v4 : Value) (v5 : Value) (v7 : Value) (R : Ctx) (L : List SA) (w : World) (S : Sp R w (L)) (h0 : Rf R L fun w => Blk w (g) 245 #[v0, v1, v2, v3, v4, v5, .pointer none, v7])  :
    Calls Try.prog 130 #[.pointer (some ⟨g, 0, none⟩)] w fun e w' => e = .returned (.bool true) ∧ Sp R w' (L) := by
  refine fw_enter (fn := Try.f130) rfl rfl 8 rfl (Nat.le_of_ble_eq_true rfl) ?_
  intro a0 F0
  refine wp_seq_k fun K1 hK1 => ?_
  refine wp_region_lit ?_
  refine op_q F0 (.bool false) ?_; intro a2 F2
  refine wpList_nil ?_
  refine hK1 _ _ ?_; clear hK1 K1
  refine wp_seq_k fun K3 hK3 => ?_
  refine wp_region_lit ?_
  refine op_q F2 (.pointer (some ⟨g, 0, none⟩)) ?_; intro a4 F4
  refine op_q F4 (.pointer (some ⟨g, 0, none⟩)) ?_; intro a5 F5
  refine op_q F5 (.pointer (some ⟨g, 6, none⟩)) ?_; intro a6 F6
  refine op_rq (v := .pointer none) F6 (r_ld rfl (F6.e (.pointer (some ⟨g, 6, none⟩))) (v := .pointer none) ((h0 _ S).cell 6) Try.underlying125 rfl) ?_; intro a7 F7
  refine op_q F7 (.bool true) ?_; intro a8 F8
  refine op_q F8 (.bool true) ?_; intro a9 F9
  refine wpList_nil ?_
  refine hK3 _ _ ?_; clear hK3 K3
  refine wp_ret ?_
  refine (F9.res1 rfl (v := .bool true) (by kernel_rfl) ?_).1
  exact ⟨rfl, S⟩
set_option maxRecDepth 100000 in
set_option maxHeartbeats 20000000 in
theorem isRoot_s (g : Nat) (gp : Nat) (v0 : Value) (v1 : Value) (v2 : Value) (v3 : Value) (v4 : Value) (v5 : Value) (v7 : Value) (R : Ctx) (L : List SA) (w : World) (S : Sp R w (L)) (h0 : Rf R L fun w => Blk w (g) 245 #[v0, v1, v2, v3, v4, v5, .pointer (some ⟨gp, 0, none⟩), v7])  :
    Calls Try.prog 130 #[.pointer (some ⟨g, 0, none⟩)] w fun e w' => e = .returned (.bool false) ∧ Sp R w' (L) := by
  refine fw_enter (fn := Try.f130) rfl rfl 8 rfl (Nat.le_of_ble_eq_true rfl) ?_
  intro a0 F0
  refine wp_seq_k fun K1 hK1 => ?_
  refine wp_region_lit ?_
  refine op_q F0 (.bool false) ?_; intro a2 F2
  refine wpList_nil ?_
  refine hK1 _ _ ?_; clear hK1 K1
  refine wp_seq_k fun K3 hK3 => ?_
  refine wp_region_lit ?_
  refine op_q F2 (.pointer (some ⟨g, 0, none⟩)) ?_; intro a4 F4
  refine op_q F4 (.pointer (some ⟨g, 0, none⟩)) ?_; intro a5 F5
  refine op_q F5 (.pointer (some ⟨g, 6, none⟩)) ?_; intro a6 F6
  refine op_rq (v := .pointer (some ⟨gp, 0, none⟩)) F6 (r_ld rfl (F6.e (.pointer (some ⟨g, 6, none⟩))) (v := .pointer (some ⟨gp, 0, none⟩)) ((h0 _ S).cell 6) Try.underlying125 rfl) ?_; intro a7 F7
  refine op_q F7 (.bool false) ?_; intro a8 F8
  refine op_q F8 (.bool false) ?_; intro a9 F9
  refine wpList_nil ?_
  refine hK3 _ _ ?_; clear hK3 K3
  refine wp_ret ?_
  refine (F9.res1 rfl (v := .bool false) (by kernel_rfl) ?_).1
  exact ⟨rfl, S⟩
set_option maxRecDepth 100000 in
set_option maxHeartbeats 20000000 in
theorem parent_s (g : Nat) (gp : Nat) (v0 : Value) (v1 : Value) (v2 : Value) (v3 : Value) (v4 : Value) (v5 : Value) (v7 : Value) (R : Ctx) (L : List SA) (w : World) (S : Sp R w (L)) (h0 : Rf R L fun w => Blk w (g) 245 #[v0, v1, v2, v3, v4, v5, .pointer (some ⟨gp, 0, none⟩), v7])  :
    Calls Try.prog 186 #[.pointer (some ⟨g, 0, none⟩)] w fun e w' => e = .returned (.pointer (some ⟨gp, 0, none⟩)) ∧ Sp R w' (L) := by
  refine fw_enter (fn := Try.f186) rfl rfl 7 rfl (Nat.le_of_ble_eq_true rfl) ?_
  intro a0 F0
  refine wp_seq_k fun K1 hK1 => ?_
  refine wp_region_lit ?_
  refine op_q F0 (.pointer none) ?_; intro a2 F2
  refine wpList_nil ?_
  refine hK1 _ _ ?_; clear hK1 K1
  refine wp_seq_k fun K3 hK3 => ?_
  refine wp_region_lit ?_
  refine op_q F2 (.pointer (some ⟨g, 0, none⟩)) ?_; intro a4 F4
  refine op_q F4 (.pointer (some ⟨g, 0, none⟩)) ?_; intro a5 F5
  refine op_q F5 (.pointer (some ⟨g, 6, none⟩)) ?_; intro a6 F6
  refine op_rq (v := .pointer (some ⟨gp, 0, none⟩)) F6 (r_ld rfl (F6.e (.pointer (some ⟨g, 6, none⟩))) (v := .pointer (some ⟨gp, 0, none⟩)) ((h0 _ S).cell 6) Try.underlying125 rfl) ?_; intro a7 F7
  refine op_q F7 (.pointer (some ⟨gp, 0, none⟩)) ?_; intro a8 F8
  refine wpList_nil ?_
  refine hK3 _ _ ?_; clear hK3 K3
  refine wp_ret ?_
  refine (F8.res1 rfl (v := .pointer (some ⟨gp, 0, none⟩)) (by kernel_rfl) ?_).1
  exact ⟨rfl, S⟩
set_option maxRecDepth 100000 in
set_option maxHeartbeats 20000000 in
theorem name_sp (g : Nat) (gm : Nat) (n : ByteArray) (v0 : Value) (v2 : Value) (v3 : Value) (v4 : Value) (v5 : Value) (v6 : Value) (v7 : Value) (R : Ctx) (L : List SA) (w : World) (S : Sp R w (L)) (h0 : Rf R L fun w => Blk w (g) 245 #[v0, .pointer (some ⟨gm, 0, none⟩), v2, v3, v4, v5, v6, v7]) (h1 : Rf R L fun w => (w).cell? ⟨gm, 0, none⟩ = some (.string n))  :
    Calls Try.prog 127 #[.pointer (some ⟨g, 0, none⟩)] w fun e w' => e = .returned (.string n) ∧ Sp R w' (L) := by
  refine fw_enter (fn := Try.f127) rfl rfl 15 rfl (Nat.le_of_ble_eq_true rfl) ?_
  intro a0 F0
  refine wp_seq_k fun K1 hK1 => ?_
  refine wp_region_lit ?_
  refine op_q F0 (.string ⟨#[]⟩) ?_; intro a2 F2
  refine wpList_nil ?_
  refine hK1 _ _ ?_; clear hK1 K1
  refine wp_seq_k fun K3 hK3 => ?_
  refine wp_seq_k fun K4 hK4 => ?_
  refine wp_region_lit ?_
  refine op_q F2 (.pointer (some ⟨g, 0, none⟩)) ?_; intro a5 F5
  refine op_q F5 (.pointer (some ⟨g, 0, none⟩)) ?_; intro a6 F6
  refine op_q F6 (.pointer (some ⟨g, 1, none⟩)) ?_; intro a7 F7
  refine op_rq (v := .pointer (some ⟨gm, 0, none⟩)) F7 (r_ld rfl (F7.e (.pointer (some ⟨g, 1, none⟩))) (v := .pointer (some ⟨gm, 0, none⟩)) ((h0 _ S).cell 1) Try.underlying163 rfl) ?_; intro a8 F8
  refine op_q F8 (.bool false) ?_; intro a9 F9
  refine wpList_nil ?_
  refine hK4 _ _ ?_; clear hK4 K4
  refine wp_cond_false (F9.ev (by kernel_rfl)) ?_
  refine wp_skip ?_
  refine hK3 _ _ ?_; clear hK3 K3
  refine wp_seq_k fun K10 hK10 => ?_
  refine wp_region_lit ?_
  refine op_q F9 (.pointer (some ⟨g, 0, none⟩)) ?_; intro a11 F11
  refine op_q F11 (.pointer (some ⟨g, 0, none⟩)) ?_; intro a12 F12
  refine op_q F12 (.pointer (some ⟨g, 1, none⟩)) ?_; intro a13 F13
  refine op_rq (v := .pointer (some ⟨gm, 0, none⟩)) F13 (r_ld rfl (F13.e (.pointer (some ⟨g, 1, none⟩))) (v := .pointer (some ⟨gm, 0, none⟩)) ((h0 _ S).cell 1) Try.underlying163 rfl) ?_; intro a14 F14
  refine op_q F14 (.pointer (some ⟨gm, 0, none⟩)) ?_; intro a15 F15
  refine op_q F15 (.pointer (some ⟨gm, 0, none⟩)) ?_; intro a16 F16
  refine op_rq (v := .string n) F16 (r_ld rfl (F16.e (.pointer (some ⟨gm, 0, none⟩))) (v := .string n) (h1 _ S) Try.underlying9 rfl) ?_; intro a17 F17
  refine op_q F17 (.string n) ?_; intro a18 F18
  refine wpList_nil ?_
  refine hK10 _ _ ?_; clear hK10 K10
  refine wp_ret ?_
  refine (F18.res1 rfl (v := .string n) (by kernel_rfl) ?_).1
  exact ⟨rfl, S⟩
abbrev cPathC (a : Ob) (l : List Ob) : Prop := ∀ (R : Ctx) (L : List SA) (w : World) (S : Sp R w (L)) (h0 : Rf R L fun w => ChnAt w (a :: l)) (hs : ChOk (a :: l)), Calls Try.prog 128 #[.pointer (some ⟨a.g, 0, none⟩)] w fun e w' => e = .returned (.string ((pathOf (a :: l)).fPath)) ∧ Sp R w' (L)
abbrev cFullC (a : Ob) (l : List Ob) : Prop := ∀ (R : Ctx) (L : List SA) (w : World) (S : Sp R w (L)) (h0 : Rf R L fun w => ChnAt w (a :: l)) (hs : ChOk (a :: l)), Calls Try.prog 129 #[.pointer (some ⟨a.g, 0, none⟩)] w fun e w' => e = .returned (.string ((pathOf (a :: l)).fFull)) ∧ Sp R w' (L)
set_option maxRecDepth 100000 in
set_option maxHeartbeats 20000000 in
theorem cFull_1 (a : Ob) (R : Ctx) (L : List SA) (w : World) (S : Sp R w (L)) (h0 : Rf R L fun w => ChnAt w ([a])) (hs : ChOk ([a])) :
    Calls Try.prog 129 #[.pointer (some ⟨a.g, 0, none⟩)] w fun e w' => e = .returned (.string ((pathOf ([a])).fFull)) ∧ Sp R w' (L) := by
  have hB : Rf R L fun w => Blk w a.g 245 #[.slice none 0 0, .pointer (some ⟨a.gm, 0, none⟩), .slice none 0 0, .map none, .slice none 0 0, .slice a.fA a.ps.length a.fc, .pointer none, .slice a.dA a.kids.length a.dc] := fun w S => (h0 w S).1
  have hN : Rf R L fun w => w.cell? ⟨a.gm, 0, none⟩ = some (.string a.n) := fun w S => (h0 w S).2
  have hs0 := hs.2 a (List.mem_cons_self ..)
  refine fw_enter (fn := Try.f129) rfl rfl 15 rfl (Nat.le_of_ble_eq_true rfl) ?_
  intro a0 F0
  refine wp_seq_k fun K1 hK1 => ?_
  refine wp_region_lit ?_
  refine op_q F0 (.string ⟨#[]⟩) ?_; intro a2 F2
  refine wpList_nil ?_
  refine hK1 _ _ ?_; clear hK1 K1
  refine wp_seq_k fun K3 hK3 => ?_
  refine wp_seq_k fun K4 hK4 => ?_
  refine wp_region_lit ?_
  refine op_q F2 (.pointer (some ⟨a.g, 0, none⟩)) ?_; intro a5 F5
  refine op_cq F5 (f := 130) (args := #[.pointer (some ⟨a.g, 0, none⟩)]) (isRoot_n a.g (.slice none 0 0) (.pointer (some ⟨a.gm, 0, none⟩)) (.slice none 0 0) (.map none) (.slice none 0 0) (.slice a.fA a.ps.length a.fc) (.slice a.dA a.kids.length a.dc) _ _ _ S hB) ?_
  rintro _ w6 ⟨rfl, S6⟩
  refine ⟨_, rfl, ?_⟩
  intro a7 F7
  refine op_q F7 (.bool false) ?_; intro a8 F8
  refine wpList_nil ?_
  refine hK4 _ _ ?_; clear hK4 K4
  refine wp_cond_false (F8.ev (by kernel_rfl)) ?_
  refine wp_skip ?_
  refine hK3 _ _ ?_; clear hK3 K3
  refine wp_seq_k fun K9 hK9 => ?_
  refine wp_region_lit ?_
  refine op_q F8 (.pointer (some ⟨a.g, 0, none⟩)) ?_; intro a10 F10
  refine op_cq F10 (f := 127) (args := #[.pointer (some ⟨a.g, 0, none⟩)]) (name_sp a.g a.gm a.n (.slice none 0 0) (.slice none 0 0) (.map none) (.slice none 0 0) (.slice a.fA a.ps.length a.fc) (.pointer none) (.slice a.dA a.kids.length a.dc) _ _ _ S6 hB hN) ?_
  rintro _ w11 ⟨rfl, S11⟩
  refine ⟨_, rfl, ?_⟩
  intro a12 F12
  refine op_q F12 (.string a.n) ?_; intro a13 F13
  refine wpList_nil ?_
  refine hK9 _ _ ?_; clear hK9 K9
  refine wp_ret ?_
  refine (F13.res1 rfl (v := .string a.n) (by kernel_rfl) ?_).1
  exact ⟨rfl, S11⟩
set_option maxRecDepth 100000 in
set_option maxHeartbeats 20000000 in
theorem cFull_S (a : Ob) (b : Ob) (l : List Ob) (R : Ctx) (L : List SA) (w : World) (S : Sp R w (L)) (h0 : Rf R L fun w => ChnAt w (a :: b :: l)) (ih : cFullC b l) (hs : ChOk (a :: b :: l)) :
    Calls Try.prog 129 #[.pointer (some ⟨a.g, 0, none⟩)] w fun e w' => e = .returned (.string ((pathOf (a :: b :: l)).fFull)) ∧ Sp R w' (L) := by
  have hB : Rf R L fun w => Blk w a.g 245 #[.slice none 0 0, .pointer (some ⟨a.gm, 0, none⟩), .slice none 0 0, .map none, .slice none 0 0, .slice a.fA a.ps.length a.fc, .pointer (some ⟨b.g, 0, none⟩), .slice a.dA a.kids.length a.dc] := fun w S => (h0 w S).1
  have hN : Rf R L fun w => w.cell? ⟨a.gm, 0, none⟩ = some (.string a.n) := fun w S => (h0 w S).2.1
  have hI : Rf R L fun w => ChnAt w (b :: l) := fun w S => (h0 w S).2.2
  have hs0 := hs.2 a (List.mem_cons_self ..)
  have hsz := path_sz (b :: l) hs.tail
  have hln := hs.tail.1
  refine fw_enter (fn := Try.f129) rfl rfl 15 rfl (Nat.le_of_ble_eq_true rfl) ?_
  intro a0 F0
  refine wp_seq_k fun K1 hK1 => ?_
  refine wp_region_lit ?_
  refine op_q F0 (.string ⟨#[]⟩) ?_; intro a2 F2
  refine wpList_nil ?_
  refine hK1 _ _ ?_; clear hK1 K1
  refine wp_seq_k fun K3 hK3 => ?_
  refine wp_seq_k fun K4 hK4 => ?_
  refine wp_region_lit ?_
  refine op_q F2 (.pointer (some ⟨a.g, 0, none⟩)) ?_; intro a5 F5
  refine op_cq F5 (f := 130) (args := #[.pointer (some ⟨a.g, 0, none⟩)]) (isRoot_s a.g b.g (.slice none 0 0) (.pointer (some ⟨a.gm, 0, none⟩)) (.slice none 0 0) (.map none) (.slice none 0 0) (.slice a.fA a.ps.length a.fc) (.slice a.dA a.kids.length a.dc) _ _ _ S hB) ?_
  rintro _ w6 ⟨rfl, S6⟩
  refine ⟨_, rfl, ?_⟩
  intro a7 F7
  refine op_q F7 (.bool true) ?_; intro a8 F8
  refine wpList_nil ?_
  refine hK4 _ _ ?_; clear hK4 K4
  refine wp_cond_true (F8.ev (by kernel_rfl)) ?_
  refine wp_seq_k fun K9 hK9 => ?_
  refine wp_region_lit ?_
  refine op_q F8 (.pointer (some ⟨a.g, 0, none⟩)) ?_; intro a10 F10
  refine op_cq F10 (f := 186) (args := #[.pointer (some ⟨a.g, 0, none⟩)]) (parent_s a.g b.g (.slice none 0 0) (.pointer (some ⟨a.gm, 0, none⟩)) (.slice none 0 0) (.map none) (.slice none 0 0) (.slice a.fA a.ps.length a.fc) (.slice a.dA a.kids.length a.dc) _ _ _ S6 hB) ?_
  rintro _ w11 ⟨rfl, S11⟩
  refine ⟨_, rfl, ?_⟩
  intro a12 F12
  refine op_cq F12 (f := 129) (args := #[.pointer (some ⟨b.g, 0, none⟩)]) (ih  _ _ _ S11 hI hs.tail) ?_
  rintro _ w13 ⟨rfl, S13⟩
  refine ⟨_, rfl, ?_⟩
  intro a14 F14
  refine op_rq (v := .string (((pathOf (b :: l)).fFull) ++ (⟨#[47, 99, 104, 97, 114, 116, 115, 47]⟩ : ByteArray))) F14 (r_sadd rfl (F14.e (.string ((pathOf (b :: l)).fFull))) (F14.e (.string ⟨#[47, 99, 104, 97, 114, 116, 115, 47]⟩)) (by show ((pathOf (b :: l)).fFull).size + 8 ≤ 9223372036854775807; have e0 : (⟨#[46]⟩ : ByteArray).size = 1 := rfl; have e1 : (⟨#[47, 99, 104, 97, 114, 116, 115, 47]⟩ : ByteArray).size = 8 := rfl; (try simp only [ByteArray.size_append, e0, e1]); omega)) ?_; intro a15 F15
  refine op_q F15 (.pointer (some ⟨a.g, 0, none⟩)) ?_; intro a16 F16
  refine op_cq F16 (f := 127) (args := #[.pointer (some ⟨a.g, 0, none⟩)]) (name_sp a.g a.gm a.n (.slice none 0 0) (.slice none 0 0) (.map none) (.slice none 0 0) (.slice a.fA a.ps.length a.fc) (.pointer (some ⟨b.g, 0, none⟩)) (.slice a.dA a.kids.length a.dc) _ _ _ S13 hB hN) ?_
  rintro _ w17 ⟨rfl, S17⟩
  refine ⟨_, rfl, ?_⟩
  intro a18 F18
  refine op_rq (v := .string ((((pathOf (b :: l)).fFull) ++ (⟨#[47, 99, 104, 97, 114, 116, 115, 47]⟩ : ByteArray)) ++ a.n)) F18 (r_sadd rfl (F18.e (.string (((pathOf (b :: l)).fFull) ++ (⟨#[47, 99, 104, 97, 114, 116, 115, 47]⟩ : ByteArray)))) (F18.e (.string a.n)) (by show (((pathOf (b :: l)).fFull) ++ (⟨#[47, 99, 104, 97, 114, 116, 115, 47]⟩ : ByteArray)).size + a.n.size ≤ 9223372036854775807; have e0 : (⟨#[46]⟩ : ByteArray).size = 1 := rfl; have e1 : (⟨#[47, 99, 104, 97, 114, 116, 115, 47]⟩ : ByteArray).size = 8 := rfl; (try simp only [ByteArray.size_append, e0, e1]); omega)) ?_; intro a19 F19
  refine op_q F19 (.string ((((pathOf (b :: l)).fFull) ++ (⟨#[47, 99, 104, 97, 114, 116, 115, 47]⟩ : ByteArray)) ++ a.n)) ?_; intro a20 F20
  refine wpList_nil ?_
  refine hK9 _ _ ?_; clear hK9 K9
  refine wp_ret ?_
  refine ret_then ?_
  refine (F20.res1 rfl (v := .string ((((pathOf (b :: l)).fFull) ++ (⟨#[47, 99, 104, 97, 114, 116, 115, 47]⟩ : ByteArray)) ++ a.n)) (by kernel_rfl) ?_).1
  exact ⟨rfl, S17⟩
theorem cFull_sp : ∀ (l : List Ob) (a : Ob), cFullC a l
  | [], a => fun R L w S h0 hs => cFull_1 a R L w S h0 hs
  | b :: l, a => fun R L w S h0 hs => cFull_S a b l R L w S h0 (cFull_sp l b) hs
theorem cFull_gp (a : Ob) (l : List Ob) : cFullC a l := cFull_sp l a
abbrev cRootC (a : Ob) (l : List Ob) : Prop := ∀ (R : Ctx) (L : List SA) (w : World) (S : Sp R w (L)) (h0 : Rf R L fun w => ChnAt w (a :: l)) (hs : ChOk (a :: l)), Calls Try.prog 131 #[.pointer (some ⟨a.g, 0, none⟩)] w fun e w' => e = .returned (.pointer (some ⟨(lastO a l).g, 0, none⟩)) ∧ Sp R w' (L)
end Go.Proofs.Ytkjcedlgljeoiaa

/- impl.pathsOf, impl.ChartPaths, spec.ChPaths. -/
namespace Go.Proofs.Ytkjcedlgljeoiaa
open Go.RowKit Go.Lib
set_option linter.unusedVariables false
set_option linter.unusedSimpArgs false
/-- What can be read of an object, its top block aside. -/
def ObAt (w : World) : Nat → Ob → Prop
  | 0 => fun _ => True
  | m + 1 => fun o => w.cell? ⟨o.gm, 0, none⟩ = some (.string o.n) ∧ (Sl w o.fA (pps o.ps) ∧ o.ps.length = o.fs.length ∧ ∀ i, ∀ h : i < o.fs.length, ∀ h2 : i < o.ps.length, ∃ g, o.ps[i] = some ⟨g, 0, none⟩ ∧ w.cell? ⟨g, 0, none⟩ = some (.string o.fs[i])) ∧ Sl w o.dA (pps (o.kids.map Ob.ptr)) ∧ ∀ k ∈ o.kids, Blk w k.g 245 #[.slice none 0 0, .pointer (some ⟨k.gm, 0, none⟩), .slice none 0 0, .map none, .slice none 0 0, .slice k.fA k.ps.length k.fc, .pointer (some ⟨o.g, 0, none⟩), .slice k.dA k.kids.length k.dc] ∧ ObAt w m k
theorem Sp.pick {α : Type} {R : Ctx} {w : World} {f : α → SA} : ∀ {xs : List α} {L : List SA}, Sp R w (SA.stars (xs.map f) :: L) → ∀ x ∈ xs, ∃ L', Sp R w (f x :: L')
  | [], _, _, _, hx => by cases hx
  | y :: xs, L, S, x, hx => by
    have S2 : Sp R w (f y :: SA.stars (xs.map f) :: L) := Sp.star.1 S
    rcases List.mem_cons.1 hx with rfl | hx
    · exact ⟨_, S2⟩
    · exact Sp.pick S2.drop x hx
theorem Sp.obAt {R : Ctx} {w : World} : ∀ {m : Nat} {o : Ob} {L : List SA}, ObOk m o → Sp R w (SA.ob m o :: L) → ObAt w m o
  | 0, _, _, h, _ => h.elim
  | m + 1, o, L, h, S => by
    have S1 : Sp R w ([SA.met o.gm (nmM o.n), SA.own (.slice o.fA o.ps.length o.fc) 169 1 o.ps.length (pps o.ps), SA.zips SA.fo o.ps o.fs, SA.own (.slice o.dA o.kids.length o.dc) 125 1 o.kids.length (pps (o.kids.map Ob.ptr)), SA.stars (o.kids.map fun k => SA.star (SA.top (some ⟨o.g, 0, none⟩) k) (SA.ob m k))] ++ L) := Sp.stars.1 S
    have hz := Sp.zlen S1.p2
    refine ⟨?_, ⟨own_sl1 (S1.ow 1 rfl) (by have := h.2.1; omega), hz, fun i hi hp => ?_⟩, own_sl1 (S1.ow 3 rfl) (by have := h.2.2.2.1; omega), fun k hk => ?_⟩
    · obtain ⟨A1, c1, A2, c2, A3, c3, qs, A4, c4, us, S2⟩ := Sp.met_open S1
      exact (S2.bk 0 rfl).cell 0
    · obtain ⟨_, S2⟩ := Sp.zat hi S1.p2
      obtain ⟨g, S2⟩ := Sp.ex.1 S2
      obtain ⟨gd, S2⟩ := Sp.ex.1 S2
      obtain ⟨c, S2⟩ := Sp.ex.1 S2
      obtain ⟨e, S2⟩ := Sp.pure.1 (Sp.star.1 S2)
      exact ⟨g, e, (S2.bk 0 rfl).cell 0⟩
    · obtain ⟨L', S2⟩ := Sp.pick S1.p4 k hk
      have S3 : Sp R w (SA.blk k.g 245 #[.slice none 0 0, .pointer (some ⟨k.gm, 0, none⟩), .slice none 0 0, .map none, .slice none 0 0, .slice k.fA k.ps.length k.fc, .pointer (some ⟨o.g, 0, none⟩), .slice k.dA k.kids.length k.dc] :: SA.ob m k :: L') := Sp.star.1 S2
      exact ⟨S3.bk 0 rfl, Sp.obAt (h.2.2.2.2 k hk) S3.drop⟩
theorem flat_take {α β : Type} {f : α → List β} {l : List α} {k : Nat} (h : k < l.length) : (l.take (k + 1)).flatMap f = (l.take k).flatMap f ++ f l[k] := by rw [List.take_succ_eq_append_getElem h, List.flatMap_append]; simp
/-- The parts that stand for the charts below one. -/
def kidsP (m : Nat) (p : Ty39) (l : List Pt) : List Ty39 := l.flatMap fun d => specP m (childP p d.n) d
theorem trOk_n {m : Nat} {t : Tr} (h : TrOk m t) : t.n.size ≤ 8 := by cases m with | zero => exact h.elim | succ m => exact h.1.2.1
theorem obOk_n {m : Nat} {t : Ob} (h : ObOk m t) : t.n.size ≤ 8 := by cases m with | zero => exact h.elim | succ m => exact h.1.2.1
theorem chn_kid {w : World} {m : Nat} {a k : Ob} {l : List Ob} (hB : Blk w k.g 245 #[.slice none 0 0, .pointer (some ⟨k.gm, 0, none⟩), .slice none 0 0, .map none, .slice none 0 0, .slice k.fA k.ps.length k.fc, .pointer (some ⟨a.g, 0, none⟩), .slice k.dA k.kids.length k.dc]) (hk : ObOk m k) (ho : ObAt w m k) (h : ChnAt w (a :: l)) : ChnAt w (k :: a :: l) := by
  cases m with
  | zero => exact hk.elim
  | succ m => exact ⟨hB, ho.1, h⟩
abbrev PathsC (m : Nat) : Prop := ∀ (a : Ob) (l : List Ob) (A : Option Addr) (n : Nat) (c : Nat) (ls : List Ty39) (R : Ctx) (L : List SA) (w : World) (S : Sp R w (SA.own (.slice A n c) 39 5 (n) (flatC Ty39.cells ls) :: L)) (h0 : Rf R L fun w => ChnAt w (a :: l)) (h1 : Rf R L fun w => ObAt w (m) a) (ho : ObOk (m) a) (hs : ChOk (a :: l)) (hd : (a :: l).length + (m) ≤ 20) (hnl : n = ls.length) (hz : ls.length + Pt.cnt (m) (Ob.pl (m) a) ≤ 100000), Calls Try.prog 66 #[.pointer (some ⟨a.g, 0, none⟩), .slice (A) (n) (c)] w fun e w' => ∃ A2 : Option Addr, ∃ n2 : Nat, ∃ c2 : Nat, e = .returned (.slice A2 n2 c2) ∧ Sp R w' (SA.own (.slice A2 n2 c2) 39 5 n2 (flatC Ty39.cells (ls ++ specP (m) (pathOf (a :: l)) (Ob.pl (m) a))) :: L) ∧ (n2 = (ls ++ specP (m) (pathOf (a :: l)) (Ob.pl (m) a)).length)
abbrev SpecC (m : Nat) : Prop := ∀ (t : Tr) (pn : ByteArray) (pp : ByteArray) (pf : ByteArray) (pb : Bool) (pr : ByteArray) (R : Ctx) (L : List SA) (w : World) (S : Sp R w (L)) (h0 : Rf R L fun w => TrAt w (m) t) (ht : TrOk (m) t) (hz : Tr.cnt (m) t ≤ 1000) (hp : pp.size + 20 * (m) ≤ 1000 ∧ pf.size + 20 * (m) ≤ 1000), Calls Try.prog 67 #[.agg #[.bool false, .string t.n, .string ⟨#[]⟩, .string ⟨#[]⟩, .string ⟨#[]⟩, .string ⟨#[]⟩, .string ⟨#[]⟩, .string ⟨#[]⟩, .string ⟨#[]⟩, .string ⟨#[]⟩, .string ⟨#[]⟩, .string ⟨#[]⟩, .slice none 0 0, .slice none 0 0, .slice none 0 0, .slice none 0 0, .slice (t.fA) (t.fs.length) (t.fc), .slice (t.dA) (t.kids.length) (t.dc)], .agg #[.string pn, .string pp, .string pf, .bool pb, .string pr]] w fun e w' => ∃ A : Option Addr, ∃ n : Nat, ∃ c : Nat, e = .returned (.slice A n c) ∧ Sp R w' (SA.own (.slice A n c) 39 5 n (flatC Ty39.cells (specP (m) (mkP pn pp pf pb pr) (Tr.pl (m) t))) :: L) ∧ (n = (specP (m) (mkP pn pp pf pb pr) (Tr.pl (m) t)).length)
end Go.Proofs.Ytkjcedlgljeoiaa

/- Paths made clean: plain.Clean, JoinPath; spec.hlTogether, HlJoin. -/
namespace Go.Proofs.Ytkjcedlgljeoiaa
open Go.RowKit Go.Lib
set_option linter.unusedVariables false
set_option linter.unusedSimpArgs false
def lst (l : List ByteArray) : ByteArray := l.getLastD ⟨#[]⟩
theorem lst_at {l : List ByteArray} (h : 0 < l.length) : lst l = l[l.length - 1] := by
  unfold lst
  rw [List.getLastD_eq_getLast?, List.getLast?_eq_getElem?, List.getElem?_eq_getElem (by omega)]
  rfl
def push (r : Bool) (l : List ByteArray) (p : ByteArray) : List ByteArray :=
  if p.toList == (⟨#[]⟩ : ByteArray).toList then l else if p.toList == (⟨#[46]⟩ : ByteArray).toList then l
  else if p.toList == (⟨#[46, 46]⟩ : ByteArray).toList then
    (if 0 < l.length then (if (lst l).toList == (⟨#[46, 46]⟩ : ByteArray).toList then (if r then l else l ++ [p]) else l.dropLast) else (if r then l else l ++ [p]))
  else l ++ [p]
def stk (r : Bool) (s : ByteArray) : List ByteArray := (splitF ⟨#[47]⟩ (s.size + 1) s).foldl (push r) []
def cleanP (s : ByteArray) : ByteArray :=
  if s.toList == (⟨#[]⟩ : ByteArray).toList then ⟨#[46]⟩
  else if h : 0 < s.size then (if (s[0].toNat : Int) == 47 then (⟨#[47]⟩ : ByteArray) ++ joinF ⟨#[47]⟩ (stk true s) else if (joinF ⟨#[47]⟩ (stk false s)).toList == (⟨#[]⟩ : ByteArray).toList then ⟨#[46]⟩ else joinF ⟨#[47]⟩ (stk false s))
  else ⟨#[46]⟩
theorem push_len {r : Bool} {l : List ByteArray} {p : ByteArray} : (push r l p).length ≤ l.length + 1 := by
  unfold push
  repeat' split
  all_goals simp
  all_goals omega
theorem push_all {r : Bool} {l : List ByteArray} {p : ByteArray} {n : Nat} (h : ∀ x ∈ l, x.size ≤ n) (hp : p.size ≤ n) : ∀ x ∈ push r l p, x.size ≤ n := by
  have h2 : ∀ x ∈ l ++ [p], x.size ≤ n := fun x hx => by
    rcases List.mem_append.1 hx with hx | hx
    · exact h x hx
    · rw [List.mem_singleton.1 hx]; exact hp
  have h3 : ∀ x ∈ l.dropLast, x.size ≤ n := fun x hx => h x (List.dropLast_subset _ hx)
  unfold push
  repeat' split
  all_goals assumption
theorem stk_step {r : Bool} {s : ByteArray} {l : List ByteArray} {f k K : Nat} {R : List ByteArray} (hf : f ≤ k) (hk : k < s.size) (hno : ∀ j, ∀ h : j < s.size, f ≤ j → j < k → s[j].toNat ≠ 47) (he : s[k].toNat = 47) (hK : s.size + 1 ≤ K + f)
    (h : (splitF ⟨#[47]⟩ K (s.extract f s.size)).foldl (push r) l = R) : ∃ K', s.size + 1 ≤ K' + (k + 1) ∧ (splitF ⟨#[47]⟩ K' (s.extract (k + 1) s.size)).foldl (push r) (push r l (s.extract f k)) = R := by
  cases K with
  | zero => omega
  | succ K =>
    refine ⟨K, by omega, ?_⟩
    rw [split_step hf hk (fun j hj h1 h2 e => hno j hj h1 h2 (by rw [e]; rfl)) (UInt8.toNat_inj.1 (by rw [he]; rfl))] at h
    exact h
theorem stk_last {r : Bool} {s : ByteArray} {l : List ByteArray} {f K : Nat} {R : List ByteArray} (hno : ∀ j, ∀ h : j < s.size, f ≤ j → s[j].toNat ≠ 47)
    (h : (splitF ⟨#[47]⟩ K (s.extract f s.size)).foldl (push r) l = R) : push r l (s.extract f s.size) = R := by
  rw [split_end (fun j hj h1 e => hno j hj h1 (by rw [e]; rfl))] at h
  exact h
theorem cleanP_r {s : ByteArray} (h0 : (s.toList == (⟨#[]⟩ : ByteArray).toList) = false) (h : 0 < s.size) (h2 : ((s[0].toNat : Int) == 47) = true) : cleanP s = (⟨#[47]⟩ : ByteArray) ++ joinF ⟨#[47]⟩ (stk true s) := by
  unfold cleanP; simp only [h0, Bool.false_eq_true, if_false, dif_pos h, h2, if_true]
theorem cleanP_e {s : ByteArray} (h0 : (s.toList == (⟨#[]⟩ : ByteArray).toList) = false) (h : 0 < s.size) (h2 : ((s[0].toNat : Int) == 47) = false) (h3 : ((joinF ⟨#[47]⟩ (stk false s)).toList == (⟨#[]⟩ : ByteArray).toList) = true) : cleanP s = ⟨#[46]⟩ := by
  unfold cleanP; simp only [h0, Bool.false_eq_true, if_false, dif_pos h, h2, h3, if_true]
theorem cleanP_n {s : ByteArray} (h0 : (s.toList == (⟨#[]⟩ : ByteArray).toList) = false) (h : 0 < s.size) (h2 : ((s[0].toNat : Int) == 47) = false) (h3 : ((joinF ⟨#[47]⟩ (stk false s)).toList == (⟨#[]⟩ : ByteArray).toList) = false) : cleanP s = joinF ⟨#[47]⟩ (stk false s) := by
  unfold cleanP; simp only [h0, Bool.false_eq_true, if_false, dif_pos h, h2, h3]
theorem ne_size {s : ByteArray} (h : (s.toList == (⟨#[]⟩ : ByteArray).toList) = false) : 0 < s.size := by
  rcases Nat.eq_zero_or_pos s.size with h0 | h0
  · rw [bytes_nil h0] at h; simp at h
  · exact h0
theorem joinF_one {sep : ByteArray} {xs : List ByteArray} {k : Nat} (h : k < xs.length) (h0 : k = 0) : joinF sep (xs.take k) ++ xs[k] = joinF sep (xs.take (k + 1)) := by
  subst h0
  match xs, h with
  | x :: l, _ => show (ByteArray.empty ++ x : ByteArray) = joinF sep [x]; simp [joinF]
theorem joinF_le {sep : ByteArray} {xs : List ByteArray} {n k : Nat} (h : ∀ x ∈ xs, x.size ≤ n) : (joinF sep (xs.take k)).size ≤ k * (n + sep.size) := by
  have h1 := joinF_size sep (xs.take k)
  have h2 : ∀ l : List ByteArray, (∀ x ∈ l, x.size ≤ n) → szSum l ≤ l.length * n := fun l => by
    induction l with
    | nil => intro _; simp [szSum]
    | cons a l ih =>
      intro h
      have := ih fun x hx => h x (List.mem_cons_of_mem _ hx)
      have h3 := h a (List.mem_cons_self ..)
      simp only [szSum, List.map_cons, List.sum_cons, List.length_cons] at this ⊢
      rw [Nat.add_mul]
      omega
  have h3 := h2 (xs.take k) fun x hx => h x (List.mem_of_mem_take hx)
  have h4 : (xs.take k).length ≤ k := List.length_take_le _ _
  have h5 : (xs.take k).length * (n + sep.size) ≤ k * (n + sep.size) := Nat.mul_le_mul_right _ h4
  rw [Nat.mul_add] at h5
  omega
end Go.Proofs.Ytkjcedlgljeoiaa

/- plain.Clean. -/
namespace Go.Proofs.Ytkjcedlgljeoiaa
open Go.RowKit Go.Lib
set_option linter.unusedVariables false
set_option linter.unusedSimpArgs false
set_option maxRecDepth 100000 in
set_option maxHeartbeats 20000000 in
theorem clean_any (s : ByteArray) (R : Ctx) (L : List SA) (w : World) (S : Sp R w (L))  (hs : s.size ≤ 10000) :
    Calls Try.prog 193 #[.string s] w fun e w' => e = .returned (.string (cleanP s)) ∧ Sp R w' (L) := by
  refine fw_enter (fn := Try.f193) rfl rfl 98 rfl (Nat.le_of_ble_eq_true rfl) ?_
  intro a0 F0
  refine wp_seq_k fun K1 hK1 => ?_
  refine wp_region_lit ?_
  refine op_p F0 (.string ⟨#[]⟩) (by kernel_rfl) rfl rfl rfl (by kernel_rfl) rfl ?_; intro a2 F2
  refine wpList_nil ?_
  refine hK1 _ _ ?_; clear hK1 K1
  refine wp_seq_k fun K3 hK3 => ?_
  refine wp_seq_k fun K4 hK4 => ?_
  refine wp_region_lit ?_
  refine op_p F2 (.string s) (by kernel_rfl) rfl rfl rfl (by kernel_rfl) rfl ?_; intro a5 F5
  refine op_p F5 (.bool (s.toList == (⟨#[]⟩ : ByteArray).toList)) (by kernel_rfl) rfl rfl rfl (by kernel_rfl) rfl ?_; intro a6 F6
  refine wpList_nil ?_
  refine hK4 _ _ ?_; clear hK4 K4
  rcases btf (s.toList == (⟨#[]⟩ : ByteArray).toList) with hc7 | hc7
  · have F8 := F6.sb 12 (by kernel_rfl) hc7
    refine wp_cond_true (F8.ev (by kernel_rfl)) ?_
    refine wp_seq_k fun K9 hK9 => ?_
    refine wp_region_lit ?_
    refine op_p F8 (.string ⟨#[46]⟩) (by kernel_rfl) rfl rfl rfl (by kernel_rfl) rfl ?_; intro a10 F10
    refine wpList_nil ?_
    refine hK9 _ _ ?_; clear hK9 K9
    refine wp_ret ?_
    refine ret_then ?_
    refine (F10.res1 rfl (v := .string ⟨#[46]⟩) (by kernel_rfl) ?_).1
    exact ⟨(ret_str (by unfold cleanP; rw [if_pos hc7])), S⟩
  · have hpos := ne_size hc7
    have F11 := F6.sb 12 (by kernel_rfl) hc7
    refine wp_cond_false (F11.ev (by kernel_rfl)) ?_
    refine wp_skip ?_
    refine hK3 _ _ ?_; clear hK3 K3
    refine wp_seq_k fun K12 hK12 => ?_
    refine wp_region_lit ?_
    refine op_p F11 (.string s) (by kernel_rfl) rfl rfl rfl (by kernel_rfl) rfl ?_; intro a13 F13
    refine op_r (v := .int .u8 (↑s[0].toNat)) F13 (r_index rfl Try.underlying9 (F13.ev (v := .string s) (by kernel_rfl)) (F13.ev (v := .int .i64 0) (by kernel_rfl)) 0 (by first | rfl | omega | simp) (by first | omega | (simp; done) | (simp; omega))) rfl rfl rfl ?_; intro a14 F14
    refine op_p F14 (.bool ((↑s[0].toNat : Int) == 47)) (by kernel_rfl) rfl rfl rfl (by kernel_rfl) rfl ?_; intro a15 F15
    refine op_p F15 (.bool ((↑s[0].toNat : Int) == 47)) (by kernel_rfl) rfl rfl rfl (by kernel_rfl) rfl ?_; intro a16 F16
    refine wpList_nil ?_
    refine hK12 _ _ ?_; clear hK12 K12
    refine wp_seq_k fun K17 hK17 => ?_
    refine wp_region_lit ?_
    refine op_p F16 (.slice none 0 0) (by kernel_rfl) rfl rfl rfl (by kernel_rfl) rfl ?_; intro a18 F18
    refine wpList_nil ?_
    refine hK17 _ _ ?_; clear hK17 K17
    refine wp_seq_k fun K19 hK19 => ?_
    refine wp_region_lit ?_
    refine op_p F18 (.int .i64 0) (by kernel_rfl) rfl rfl rfl (by kernel_rfl) rfl ?_; intro a20 F20
    refine wpList_nil ?_
    refine hK19 _ _ ?_; clear hK19 K19
    refine wp_seq_k fun K21 hK21 => ?_
    refine wp_seq_k fun K22 hK22 => ?_
    refine wp_region_lit ?_
    refine op_p F20 (.int .i64 0) (by kernel_rfl) rfl rfl rfl (by kernel_rfl) rfl ?_; intro a23 F23
    refine wpList_nil ?_
    refine hK22 _ _ ?_; clear hK22 K22
    refine wp_block ?_
    refine fw_loop (fun m a' w' => ∃ Ab : Option Addr, ∃ cb : Nat, ∃ l : List ByteArray, ∃ f : Nat, ∃ i : Nat, ∃ K : Nat, s.size + 1 - i = m ∧ Fr 98 [] a' [(0, .string s), (2, .string ⟨#[]⟩), (3, .bool ((↑s[0].toNat : Int) == 47)), (4, .slice Ab l.length cb), (5, .int .i64 (↑f)), (6, .int .i64 (↑i)), (11, .string s), (12, .bool false), (13, .string s), (14, .int .u8 (↑s[0].toNat)), (15, .bool ((↑s[0].toNat : Int) == 47))] ∧ Sp R w' (SA.own (.slice Ab l.length cb) 9 1 l.length (strs l) :: L) ∧ (f ≤ i) ∧ (i ≤ s.size + 1) ∧ (s.size + 1 ≤ K + f) ∧ (∀ j, ∀ h : j < s.size, f ≤ j → j < i → s[j].toNat ≠ 47) ∧ (i ≤ s.size → (splitF ⟨#[47]⟩ K (s.extract f s.size)).foldl (push ((↑s[0].toNat : Int) == 47)) l = stk ((↑s[0].toNat : Int) == 47) s) ∧ (s.size < i → l = stk ((↑s[0].toNat : Int) == 47) s) ∧ (l.length ≤ i) ∧ (∀ x ∈ l, x.size ≤ s.size)) _ ⟨none, 0, [], 0, 0, s.size + 1, rfl, (F23.k 0 (by kernel_rfl) (F23.k 2 (by kernel_rfl) (F23.k 3 (by kernel_rfl) (F23.k 4 (by kernel_rfl) (F23.k 5 (by kernel_rfl) (F23.k 6 (by kernel_rfl) (F23.k 11 (by kernel_rfl) (F23.k 12 (by kernel_rfl) (F23.k 13 (by kernel_rfl) (F23.k 14 (by kernel_rfl) (F23.k 15 (by kernel_rfl) F23.nil))))))))))), (Sp.nilown S), (by first | omega | (with_reducible assumption) | (simp; done)), (by first | omega | (with_reducible assumption) | (simp; done)), (by first | omega | (with_reducible assumption) | (simp; done)), (fun j hj h1 h2 => by omega), (fun _ => by rw [ext_whole]; rfl), (fun h => by omega), (by simp), (fun x hx => by cases hx)⟩ ?_
    rintro m24 a24 w24 ⟨Ab, cb, l, f, i, K, hm24, F24, S24, hf, hi, hK, hno, he, he2, hl, hx⟩ K24 hK24
    refine wp_seq_k fun K25 hK25 => ?_
    refine wp_seq_k fun K26 hK26 => ?_
    refine wp_region_lit ?_
    refine op_p F24 (.int .i64 (↑i)) (by kernel_rfl) rfl rfl rfl (by kernel_rfl) rfl ?_; intro a27 F27
    refine op_p F27 (.string s) (by kernel_rfl) rfl rfl rfl (by kernel_rfl) rfl ?_; intro a28 F28
    refine op_p F28 (.int .i64 (↑s.size)) (by kernel_rfl) rfl rfl rfl (by kernel_rfl) rfl ?_; intro a29 F29
    refine op_p F29 (.bool (decide ((↑i : Int) ≤ ↑s.size))) (by kernel_rfl) rfl rfl rfl (by kernel_rfl) rfl ?_; intro a30 F30
    refine wpList_nil ?_
    refine hK26 _ _ ?_; clear hK26 K26
    rcases btf (decide ((↑i : Int) ≤ ↑s.size)) with hc31 | hc31
    · have hc31p := of_decide_eq_true hc31
      have F32 := F30.sb 19 (by kernel_rfl) hc31
      refine wp_cond_true (F32.ev (by kernel_rfl)) ?_
      refine wp_skip ?_
      refine hK25 _ _ ?_; clear hK25 K25
      refine wp_seq_k fun K33 hK33 => ?_
      refine wp_block ?_
      refine wp_seq_k fun K34 hK34 => ?_
      refine wp_seq_k fun K35 hK35 => ?_
      refine wp_region_lit ?_
      refine op_p F32 (.int .i64 (↑i)) (by kernel_rfl) rfl rfl rfl (by kernel_rfl) rfl ?_; intro a36 F36
      refine op_p F36 (.string s) (by kernel_rfl) rfl rfl rfl (by kernel_rfl) rfl ?_; intro a37 F37
      refine op_p F37 (.int .i64 (↑s.size)) (by kernel_rfl) rfl rfl rfl (by kernel_rfl) rfl ?_; intro a38 F38
      refine op_p F38 (.bool (decide ((↑i : Int) < ↑s.size))) (by kernel_rfl) rfl rfl rfl (by kernel_rfl) rfl ?_; intro a39 F39
      refine op_p F39 (.bool (decide ((↑i : Int) < ↑s.size))) (by kernel_rfl) rfl rfl rfl (by kernel_rfl) rfl ?_; intro a40 F40
      rcases btf (decide ((↑i : Int) < ↑s.size)) with hc41 | hc41
      · have hc41p := of_decide_eq_true hc41
        have F42 := F40.sb 25 (by kernel_rfl) hc41
        have F43 := F42.sb 26 (by kernel_rfl) hc41
        refine op_want F43 (by kernel_rfl) rfl ?_
        refine op_p F43 (.string s) (by kernel_rfl) rfl rfl rfl (by kernel_rfl) rfl ?_; intro a44 F44
        refine op_want F44 (by kernel_rfl) rfl ?_
        refine op_p F44 (.int .i64 (↑i)) (by kernel_rfl) rfl rfl rfl (by kernel_rfl) rfl ?_; intro a45 F45
        refine op_want F45 (by kernel_rfl) rfl ?_
        refine op_r (v := .int .u8 (↑s[i].toNat)) F45 (r_index rfl Try.underlying9 (F45.ev (v := .string s) (by kernel_rfl)) (F45.ev (v := .int .i64 (↑i)) (by kernel_rfl)) i (by first | rfl | omega | simp) (by first | omega | (simp; done) | (simp; omega))) rfl rfl rfl ?_; intro a46 F46
        refine op_want F46 (by kernel_rfl) rfl ?_
        refine op_p F46 (.bool (!((↑s[i].toNat : Int) == 47))) (by kernel_rfl) rfl rfl rfl (by kernel_rfl) rfl ?_; intro a47 F47
        refine op_p F47 (.bool (!((↑s[i].toNat : Int) == 47))) (by kernel_rfl) rfl rfl rfl (by kernel_rfl) rfl ?_; intro a48 F48
        refine wpList_nil ?_
        refine hK35 _ _ ?_; clear hK35 K35
        rcases btf ((↑s[i].toNat : Int) == 47) with hc49 | hc49
        · have hc49p := eq_of_beq hc49
          have F50 := F48.sb 30 (by kernel_rfl) (show (!((↑s[i].toNat : Int) == 47)) = false by rw [hc49]; rfl)
          have F51 := F50.sb 31 (by kernel_rfl) (show (!((↑s[i].toNat : Int) == 47)) = false by rw [hc49]; rfl)
          refine wp_cond_false (F51.ev (by kernel_rfl)) ?_
          refine wp_skip ?_
          refine hK34 _ _ ?_; clear hK34 K34
          refine wp_seq_k fun K52 hK52 => ?_
          refine wp_region_lit ?_
          refine op_p F51 (.string s) (by kernel_rfl) rfl rfl rfl (by kernel_rfl) rfl ?_; intro a53 F53
          refine op_p F53 (.int .i64 (↑f)) (by kernel_rfl) rfl rfl rfl (by kernel_rfl) rfl ?_; intro a54 F54
          refine op_p F54 (.int .i64 (↑i)) (by kernel_rfl) rfl rfl rfl (by kernel_rfl) rfl ?_; intro a55 F55
          refine op_r (v := .string (s.extract f i)) F55 (r_sllh rfl Try.underlying9 (F55.ev (v := .string s) (by kernel_rfl)) (F55.ev (v := .int .i64 (↑f)) (by kernel_rfl)) (F55.ev (v := .int .i64 (↑i)) (by kernel_rfl))  f i (by first | rfl | omega | (simp; done) | (simp; omega)) (by first | omega | (simp; done) | (simp; omega)) (rfl)) rfl rfl rfl ?_; intro a56 F56
          refine op_p F56 (.string (s.extract f i)) (by kernel_rfl) rfl rfl rfl (by kernel_rfl) rfl ?_; intro a57 F57
          refine wpList_nil ?_
          refine hK52 _ _ ?_; clear hK52 K52
          refine wp_seq_k fun K58 hK58 => ?_
          refine wp_region_lit ?_
          refine op_p F57 (.int .i64 (↑i)) (by kernel_rfl) rfl rfl rfl (by kernel_rfl) rfl ?_; intro a59 F59
          refine op_r (v := .int .i64 (↑(i + 1))) F59 (r_add (z := ↑(i + 1)) rfl (F59.ev (v := .int .i64 (↑i)) (by kernel_rfl)) (F59.ev (v := .int .i64 1) (by kernel_rfl)) (wr64 (by omega) (by omega) (by omega))) rfl rfl rfl ?_; intro a60 F60
          refine op_p F60 (.int .i64 (↑(i + 1))) (by kernel_rfl) rfl rfl rfl (by kernel_rfl) rfl ?_; intro a61 F61
          refine wpList_nil ?_
          refine hK58 _ _ ?_; clear hK58 K58
          refine wp_block ?_
          refine wp_seq_k fun K62 hK62 => ?_
          refine wp_region_lit ?_
          refine op_p F61 (.string (s.extract f i)) (by kernel_rfl) rfl rfl rfl (by kernel_rfl) rfl ?_; intro a63 F63
          refine op_p F63 (.bool ((s.extract f i).toList == (⟨#[]⟩ : ByteArray).toList)) (by kernel_rfl) rfl rfl rfl (by kernel_rfl) rfl ?_; intro a64 F64
          refine op_p F64 (.bool ((s.extract f i).toList == (⟨#[]⟩ : ByteArray).toList)) (by kernel_rfl) rfl rfl rfl (by kernel_rfl) rfl ?_; intro a65 F65
          rcases btf ((s.extract f i).toList == (⟨#[]⟩ : ByteArray).toList) with hc66 | hc66
          · have F67 := F65.sb 44 (by kernel_rfl) hc66
            have F68 := F67.sb 45 (by kernel_rfl) hc66
            refine op_skip F68 (by kernel_rfl) rfl rfl rfl ?_; intro a69 F69
            refine op_skip F69 (by kernel_rfl) rfl rfl rfl ?_; intro a70 F70
            refine op_p F70 (.bool true) (by kernel_rfl) rfl rfl rfl (by kernel_rfl) rfl ?_; intro a71 F71
            refine op_p F71 (.bool true) (by kernel_rfl) rfl rfl rfl (by kernel_rfl) rfl ?_; intro a72 F72
            refine wpList_nil ?_
            refine hK62 _ _ ?_; clear hK62 K62
            refine wp_cond_true (F72.ev (by kernel_rfl)) ?_
            refine wp_skip ?_
            refine hK33 _ _ ?_; clear hK33 K33
            refine wp_region_lit ?_
            refine op_p F72 (.int .i64 (↑i)) (by kernel_rfl) rfl rfl rfl (by kernel_rfl) rfl ?_; intro a73 F73
            refine op_r (v := .int .i64 (↑(i + 1))) F73 (r_add (z := ↑(i + 1)) rfl (F73.ev (v := .int .i64 (↑i)) (by kernel_rfl)) (F73.ev (v := .int .i64 1) (by kernel_rfl)) (wr64 (by omega) (by omega) (by omega))) rfl rfl rfl ?_; intro a74 F74
            refine op_p F74 (.int .i64 (↑(i + 1))) (by kernel_rfl) rfl rfl rfl (by kernel_rfl) rfl ?_; intro a75 F75
            refine wpList_nil ?_
            have hp : push ((↑s[0].toNat : Int) == 47) l (s.extract f i) = l := by
              unfold push; simp only [hc66, Bool.false_eq_true, if_true, if_false]
            have hxs : ∀ x ∈ push ((↑s[0].toNat : Int) == 47) l (s.extract f i), x.size ≤ s.size := push_all hx (by simp only [ByteArray.size_extract]; omega)
            have hls : (push ((↑s[0].toNat : Int) == 47) l (s.extract f i)).length ≤ i + 1 := by have := push_len (r := ((↑s[0].toNat : Int) == 47)) (l := l) (p := s.extract f i); omega
            rw [hp] at hxs hls
            have hlt : i < s.size := by omega
            obtain ⟨K2, hK2, he3⟩ := stk_step (r := ((↑s[0].toNat : Int) == 47)) hf hlt hno (by omega) hK (he (by omega))
            rw [hp] at he3
            exact hK24 _ _ _ (by first | omega | (simp; omega)) ⟨Ab, cb, l, i + 1, i + 1, K2, rfl, (F75.k 0 (by kernel_rfl) (F75.k 2 (by kernel_rfl) (F75.k 3 (by kernel_rfl) (F75.k 4 (by kernel_rfl) (F75.k 5 (by kernel_rfl) (F75.k 6 (by kernel_rfl) (F75.k 11 (by kernel_rfl) (F75.k 12 (by kernel_rfl) (F75.k 13 (by kernel_rfl) (F75.k 14 (by kernel_rfl) (F75.k 15 (by kernel_rfl) F75.nil))))))))))), S24, (by first | omega | (with_reducible assumption) | (simp; done)), (by first | omega | (with_reducible assumption) | (simp; done)), hK2, (fun j hj h1 h2 => by omega), (fun _ => he3), (fun h => by omega), hls, hxs⟩
          · have F76 := F65.sb 44 (by kernel_rfl) hc66
            have F77 := F76.sb 45 (by kernel_rfl) hc66
            refine op_want F77 (by kernel_rfl) rfl ?_
            refine op_p F77 (.string (s.extract f i)) (by kernel_rfl) rfl rfl rfl (by kernel_rfl) rfl ?_; intro a78 F78
            refine op_want F78 (by kernel_rfl) rfl ?_
            refine op_p F78 (.bool ((s.extract f i).toList == (⟨#[46]⟩ : ByteArray).toList)) (by kernel_rfl) rfl rfl rfl (by kernel_rfl) rfl ?_; intro a79 F79
            refine op_p F79 (.bool ((s.extract f i).toList == (⟨#[46]⟩ : ByteArray).toList)) (by kernel_rfl) rfl rfl rfl (by kernel_rfl) rfl ?_; intro a80 F80
            refine op_p F80 (.bool ((s.extract f i).toList == (⟨#[46]⟩ : ByteArray).toList)) (by kernel_rfl) rfl rfl rfl (by kernel_rfl) rfl ?_; intro a81 F81
            refine wpList_nil ?_
            refine hK62 _ _ ?_; clear hK62 K62
            rcases btf ((s.extract f i).toList == (⟨#[46]⟩ : ByteArray).toList) with hc82 | hc82
            · have F83 := F81.sb 47 (by kernel_rfl) hc82
              have F84 := F83.sb 48 (by kernel_rfl) hc82
              have F85 := F84.sb 42 (by kernel_rfl) hc82
              refine wp_cond_true (F85.ev (by kernel_rfl)) ?_
              refine wp_skip ?_
              refine hK33 _ _ ?_; clear hK33 K33
              refine wp_region_lit ?_
              refine op_p F85 (.int .i64 (↑i)) (by kernel_rfl) rfl rfl rfl (by kernel_rfl) rfl ?_; intro a86 F86
              refine op_r (v := .int .i64 (↑(i + 1))) F86 (r_add (z := ↑(i + 1)) rfl (F86.ev (v := .int .i64 (↑i)) (by kernel_rfl)) (F86.ev (v := .int .i64 1) (by kernel_rfl)) (wr64 (by omega) (by omega) (by omega))) rfl rfl rfl ?_; intro a87 F87
              refine op_p F87 (.int .i64 (↑(i + 1))) (by kernel_rfl) rfl rfl rfl (by kernel_rfl) rfl ?_; intro a88 F88
              refine wpList_nil ?_
              have hp : push ((↑s[0].toNat : Int) == 47) l (s.extract f i) = l := by
                unfold push; simp only [hc66, hc82, Bool.false_eq_true, if_true, if_false]
              have hxs : ∀ x ∈ push ((↑s[0].toNat : Int) == 47) l (s.extract f i), x.size ≤ s.size := push_all hx (by simp only [ByteArray.size_extract]; omega)
              have hls : (push ((↑s[0].toNat : Int) == 47) l (s.extract f i)).length ≤ i + 1 := by have := push_len (r := ((↑s[0].toNat : Int) == 47)) (l := l) (p := s.extract f i); omega
              rw [hp] at hxs hls
              have hlt : i < s.size := by omega
              obtain ⟨K2, hK2, he3⟩ := stk_step (r := ((↑s[0].toNat : Int) == 47)) hf hlt hno (by omega) hK (he (by omega))
              rw [hp] at he3
              exact hK24 _ _ _ (by first | omega | (simp; omega)) ⟨Ab, cb, l, i + 1, i + 1, K2, rfl, (F88.k 0 (by kernel_rfl) (F88.k 2 (by kernel_rfl) (F88.k 3 (by kernel_rfl) (F88.k 4 (by kernel_rfl) (F88.k 5 (by kernel_rfl) (F88.k 6 (by kernel_rfl) (F88.k 11 (by kernel_rfl) (F88.k 12 (by kernel_rfl) (F88.k 13 (by kernel_rfl) (F88.k 14 (by kernel_rfl) (F88.k 15 (by kernel_rfl) F88.nil))))))))))), S24, (by first | omega | (with_reducible assumption) | (simp; done)), (by first | omega | (with_reducible assumption) | (simp; done)), hK2, (fun j hj h1 h2 => by omega), (fun _ => he3), (fun h => by omega), hls, hxs⟩
            · have F89 := F81.sb 47 (by kernel_rfl) hc82
              have F90 := F89.sb 48 (by kernel_rfl) hc82
              have F91 := F90.sb 42 (by kernel_rfl) hc82
              refine wp_cond_false (F91.ev (by kernel_rfl)) ?_
              refine wp_seq_k fun K92 hK92 => ?_
              refine wp_region_lit ?_
              refine op_p F91 (.string (s.extract f i)) (by kernel_rfl) rfl rfl rfl (by kernel_rfl) rfl ?_; intro a93 F93
              refine op_p F93 (.bool ((s.extract f i).toList == (⟨#[46, 46]⟩ : ByteArray).toList)) (by kernel_rfl) rfl rfl rfl (by kernel_rfl) rfl ?_; intro a94 F94
              refine op_p F94 (.bool ((s.extract f i).toList == (⟨#[46, 46]⟩ : ByteArray).toList)) (by kernel_rfl) rfl rfl rfl (by kernel_rfl) rfl ?_; intro a95 F95
              rcases btf ((s.extract f i).toList == (⟨#[46, 46]⟩ : ByteArray).toList) with hc96 | hc96
              · have F97 := F95.sb 51 (by kernel_rfl) hc96
                have F98 := F97.sb 52 (by kernel_rfl) hc96
                refine op_want F98 (by kernel_rfl) rfl ?_
                refine op_p F98 (.slice Ab l.length cb) (by kernel_rfl) rfl rfl rfl (by kernel_rfl) rfl ?_; intro a99 F99
                refine op_want F99 (by kernel_rfl) rfl ?_
                refine op_p F99 (.int .i64 (↑l.length)) (by kernel_rfl) rfl rfl rfl (by kernel_rfl) rfl ?_; intro a100 F100
                refine op_want F100 (by kernel_rfl) rfl ?_
                refine op_p F100 (.bool (decide ((0 : Int) < ↑l.length))) (by kernel_rfl) rfl rfl rfl (by kernel_rfl) rfl ?_; intro a101 F101
                refine op_p F101 (.bool (decide ((0 : Int) < ↑l.length))) (by kernel_rfl) rfl rfl rfl (by kernel_rfl) rfl ?_; intro a102 F102
                refine op_p F102 (.bool (decide ((0 : Int) < ↑l.length))) (by kernel_rfl) rfl rfl rfl (by kernel_rfl) rfl ?_; intro a103 F103
                rcases btf (decide ((0 : Int) < ↑l.length)) with hc104 | hc104
                · have hc104p := of_decide_eq_true hc104
                  have hl0 : 0 < l.length := by omega
                  have hll := lst_at hl0
                  obtain ⟨ad105, hA105⟩ := (own_sl1 (S24.ow 0 rfl) (by omega)).addr (by simp [strs]; omega)
                  have F106 := F103.sb 55 (by kernel_rfl) hc104
                  have F107 := F106.sb 56 (by kernel_rfl) hc104
                  have F108 := F107.sb 57 (by kernel_rfl) hc104
                  refine op_want F108 (by kernel_rfl) rfl ?_
                  refine op_p F108 (.slice Ab l.length cb) (by kernel_rfl) rfl rfl rfl (by kernel_rfl) rfl ?_; intro a109 F109
                  refine op_want F109 (by kernel_rfl) rfl ?_
                  refine op_p F109 (.slice Ab l.length cb) (by kernel_rfl) rfl rfl rfl (by kernel_rfl) rfl ?_; intro a110 F110
                  refine op_want F110 (by kernel_rfl) rfl ?_
                  refine op_p F110 (.int .i64 (↑l.length)) (by kernel_rfl) rfl rfl rfl (by kernel_rfl) rfl ?_; intro a111 F111
                  refine op_want F111 (by kernel_rfl) rfl ?_
                  refine op_r (v := .int .i64 (↑l.length - 1)) F111 (r_sub (z := (↑l.length - 1)) rfl (F111.ev (v := .int .i64 (↑l.length)) (by kernel_rfl)) (F111.ev (v := .int .i64 1) (by kernel_rfl)) (wr64 (by omega) (by omega) (by omega))) rfl rfl rfl ?_; intro a112 F112
                  refine op_want F112 (by kernel_rfl) rfl ?_
                  refine op_r (v := .pointer (some (ad105.add (l.length - 1)))) F112 (r_ix rfl Try.underlying22 1 (by kernel_rfl) (F112.ev (v := .slice Ab l.length cb) (by kernel_rfl)) hA105 (F112.ev (v := .int .i64 (↑l.length - 1)) (by kernel_rfl)) (l.length - 1) (by first | rfl | omega | simp) (by first | omega | (simp; done) | (simp; omega)) (by simp only [Nat.mul_one])) rfl rfl rfl ?_; intro a113 F113
                  refine op_want F113 (by kernel_rfl) rfl ?_
                  refine op_r (v := .string (l[l.length - 1])) F113 (r_ld rfl (F113.ev (v := .pointer (some (ad105.add (l.length - 1)))) (by kernel_rfl)) (v := .string (l[l.length - 1])) ((own_sl1 (S24.ow 0 rfl) (by omega)).elA hA105 (j := l.length - 1) (by simp [strs])) Try.underlying9 rfl) rfl rfl rfl ?_; intro a114 F114
                  refine op_want F114 (by kernel_rfl) rfl ?_
                  refine op_p F114 (.bool (!((l[l.length - 1]).toList == (⟨#[46, 46]⟩ : ByteArray).toList))) (by kernel_rfl) rfl rfl rfl (by kernel_rfl) rfl ?_; intro a115 F115
                  refine op_p F115 (.bool (!((l[l.length - 1]).toList == (⟨#[46, 46]⟩ : ByteArray).toList))) (by kernel_rfl) rfl rfl rfl (by kernel_rfl) rfl ?_; intro a116 F116
                  refine op_p F116 (.bool (!((l[l.length - 1]).toList == (⟨#[46, 46]⟩ : ByteArray).toList))) (by kernel_rfl) rfl rfl rfl (by kernel_rfl) rfl ?_; intro a117 F117
                  refine wpList_nil ?_
                  refine hK92 _ _ ?_; clear hK92 K92
                  rcases btf ((l[l.length - 1]).toList == (⟨#[46, 46]⟩ : ByteArray).toList) with hc118 | hc118
                  · have F119 := F117.sb 64 (by kernel_rfl) (show (!((l[l.length - 1]).toList == (⟨#[46, 46]⟩ : ByteArray).toList)) = false by rw [hc118]; rfl)
                    have F120 := F119.sb 65 (by kernel_rfl) (show (!((l[l.length - 1]).toList == (⟨#[46, 46]⟩ : ByteArray).toList)) = false by rw [hc118]; rfl)
                    have F121 := F120.sb 49 (by kernel_rfl) (show (!((l[l.length - 1]).toList == (⟨#[46, 46]⟩ : ByteArray).toList)) = false by rw [hc118]; rfl)
                    refine wp_cond_false (F121.ev (by kernel_rfl)) ?_
                    refine wp_seq_k fun K122 hK122 => ?_
                    refine wp_region_lit ?_
                    refine op_p F121 (.string (s.extract f i)) (by kernel_rfl) rfl rfl rfl (by kernel_rfl) rfl ?_; intro a123 F123
                    refine op_p F123 (.bool ((s.extract f i).toList == (⟨#[46, 46]⟩ : ByteArray).toList)) (by kernel_rfl) rfl rfl rfl (by kernel_rfl) rfl ?_; intro a124 F124
                    have F125 := F124.sb 73 (by kernel_rfl) hc96
                    refine op_p F125 (.bool true) (by kernel_rfl) rfl rfl rfl (by kernel_rfl) rfl ?_; intro a126 F126
                    refine op_want F126 (by kernel_rfl) rfl ?_
                    refine op_p F126 (.bool ((↑s[0].toNat : Int) == 47)) (by kernel_rfl) rfl rfl rfl (by kernel_rfl) rfl ?_; intro a127 F127
                    refine op_p F127 (.bool ((↑s[0].toNat : Int) == 47)) (by kernel_rfl) rfl rfl rfl (by kernel_rfl) rfl ?_; intro a128 F128
                    refine op_p F128 (.bool ((↑s[0].toNat : Int) == 47)) (by kernel_rfl) rfl rfl rfl (by kernel_rfl) rfl ?_; intro a129 F129
                    refine wpList_nil ?_
                    refine hK122 _ _ ?_; clear hK122 K122
                    rcases btf ((↑s[0].toNat : Int) == 47) with hc130 | hc130
                    · have hc130p := eq_of_beq hc130
                      have F131 := F129.sb 15 (by kernel_rfl) hc130
                      have F132 := F131.sb 3 (by kernel_rfl) hc130
                      have F133 := F132.sb 75 (by kernel_rfl) hc130
                      have F134 := F133.sb 76 (by kernel_rfl) hc130
                      have F135 := F134.sb 71 (by kernel_rfl) hc130
                      refine wp_cond_true (F135.ev (by kernel_rfl)) ?_
                      refine wp_skip ?_
                      refine hK33 _ _ ?_; clear hK33 K33
                      refine wp_region_lit ?_
                      refine op_p F135 (.int .i64 (↑i)) (by kernel_rfl) rfl rfl rfl (by kernel_rfl) rfl ?_; intro a136 F136
                      refine op_r (v := .int .i64 (↑(i + 1))) F136 (r_add (z := ↑(i + 1)) rfl (F136.ev (v := .int .i64 (↑i)) (by kernel_rfl)) (F136.ev (v := .int .i64 1) (by kernel_rfl)) (wr64 (by omega) (by omega) (by omega))) rfl rfl rfl ?_; intro a137 F137
                      refine op_p F137 (.int .i64 (↑(i + 1))) (by kernel_rfl) rfl rfl rfl (by kernel_rfl) rfl ?_; intro a138 F138
                      refine wpList_nil ?_
                      have hp : push ((↑s[0].toNat : Int) == 47) l (s.extract f i) = l := by
                        unfold push; simp only [hc66, hc82, hc96, hc118, hc130, hll, if_pos hl0, Bool.false_eq_true, if_true, if_false]
                      have hxs : ∀ x ∈ push ((↑s[0].toNat : Int) == 47) l (s.extract f i), x.size ≤ s.size := push_all hx (by simp only [ByteArray.size_extract]; omega)
                      have hls : (push ((↑s[0].toNat : Int) == 47) l (s.extract f i)).length ≤ i + 1 := by have := push_len (r := ((↑s[0].toNat : Int) == 47)) (l := l) (p := s.extract f i); omega
                      rw [hp] at hxs hls
                      have hlt : i < s.size := by omega
                      obtain ⟨K2, hK2, he3⟩ := stk_step (r := ((↑s[0].toNat : Int) == 47)) hf hlt hno (by omega) hK (he (by omega))
                      rw [hp] at he3
                      exact hK24 _ _ _ (by first | omega | (simp; omega)) ⟨Ab, cb, l, i + 1, i + 1, K2, rfl, (F138.k 0 (by kernel_rfl) (F138.k 2 (by kernel_rfl) (F138.k 3 (by rw [hc130]; kernel_rfl) (F138.k 4 (by kernel_rfl) (F138.k 5 (by kernel_rfl) (F138.k 6 (by kernel_rfl) (F138.k 11 (by kernel_rfl) (F138.k 12 (by kernel_rfl) (F138.k 13 (by kernel_rfl) (F138.k 14 (by kernel_rfl) (F138.k 15 (by rw [hc130]; kernel_rfl) F138.nil))))))))))), S24, (by first | omega | (with_reducible assumption) | (simp; done)), (by first | omega | (with_reducible assumption) | (simp; done)), hK2, (fun j hj h1 h2 => by omega), (fun _ => he3), (fun h => by omega), hls, hxs⟩
                    · have hc130p := ne_of_beq_false hc130
                      have F139 := F129.sb 15 (by kernel_rfl) hc130
                      have F140 := F139.sb 3 (by kernel_rfl) hc130
                      have F141 := F140.sb 75 (by kernel_rfl) hc130
                      have F142 := F141.sb 76 (by kernel_rfl) hc130
                      have F143 := F142.sb 71 (by kernel_rfl) hc130
                      refine wp_cond_false (F143.ev (by kernel_rfl)) ?_
                      refine wp_region_lit ?_
                      refine op_p F143 (.slice Ab l.length cb) (by kernel_rfl) rfl rfl rfl (by kernel_rfl) rfl ?_; intro a144 F144
                      refine op_p F144 (.string (s.extract f i)) (by kernel_rfl) rfl rfl rfl (by kernel_rfl) rfl ?_; intro a145 F145
                      refine op_s F145 (s_news F145 9 #[.string (s.extract f i)] 1 (by kernel_rfl) (by kernel_rfl) (by kernel_rfl) S24) rfl rfl rfl ?_
                      rintro _ _ w147 ⟨g145, rfl, rfl⟩ S147 a147 F147
                      refine op_s F147 (s_app rfl Try.underlying22 1 _ tin9 rfl rfl (F147.ev (v := .slice Ab l.length cb) (by kernel_rfl)) S147.p1 ([Value.string (s.extract f i)]) (F147.ev (v := .slice (some ⟨g145, 0, none⟩) 1 1) (by kernel_rfl)) ((S147.bk 0 rfl).sl (by simp)) rfl (by simp [Value.oneCell']) (by omega) (by omega) (n' := (l ++ [s.extract f i]).length) (by first | (simp; done) | (simp; omega)) (cs' := strs (l ++ [s.extract f i])) (by simp [strs])) rfl rfl rfl ?_
                      rintro _ _ w149 ⟨A148, c148, rfl, rfl⟩ S149 a149 F149
                      refine op_p F149 (.slice A148 ((l ++ [s.extract f i]).length) c148) (by kernel_rfl) rfl rfl rfl (by kernel_rfl) rfl ?_; intro a150 F150
                      refine wpList_nil ?_
                      refine hK33 _ _ ?_; clear hK33 K33
                      refine wp_region_lit ?_
                      refine op_p F150 (.int .i64 (↑i)) (by kernel_rfl) rfl rfl rfl (by kernel_rfl) rfl ?_; intro a151 F151
                      refine op_r (v := .int .i64 (↑(i + 1))) F151 (r_add (z := ↑(i + 1)) rfl (F151.ev (v := .int .i64 (↑i)) (by kernel_rfl)) (F151.ev (v := .int .i64 1) (by kernel_rfl)) (wr64 (by omega) (by omega) (by omega))) rfl rfl rfl ?_; intro a152 F152
                      refine op_p F152 (.int .i64 (↑(i + 1))) (by kernel_rfl) rfl rfl rfl (by kernel_rfl) rfl ?_; intro a153 F153
                      refine wpList_nil ?_
                      have hp : push ((↑s[0].toNat : Int) == 47) l (s.extract f i) = l ++ [s.extract f i] := by
                        unfold push; simp only [hc66, hc82, hc96, hc118, hc130, hll, if_pos hl0, Bool.false_eq_true, if_true, if_false]
                      have hxs : ∀ x ∈ push ((↑s[0].toNat : Int) == 47) l (s.extract f i), x.size ≤ s.size := push_all hx (by simp only [ByteArray.size_extract]; omega)
                      have hls : (push ((↑s[0].toNat : Int) == 47) l (s.extract f i)).length ≤ i + 1 := by have := push_len (r := ((↑s[0].toNat : Int) == 47)) (l := l) (p := s.extract f i); omega
                      rw [hp] at hxs hls
                      have hlt : i < s.size := by omega
                      obtain ⟨K2, hK2, he3⟩ := stk_step (r := ((↑s[0].toNat : Int) == 47)) hf hlt hno (by omega) hK (he (by omega))
                      rw [hp] at he3
                      exact hK24 _ _ _ (by first | omega | (simp; omega)) ⟨A148, c148, l ++ [s.extract f i], i + 1, i + 1, K2, rfl, (F153.k 0 (by kernel_rfl) (F153.k 2 (by kernel_rfl) (F153.k 3 (by rw [hc130]; kernel_rfl) (F153.k 4 (by kernel_rfl) (F153.k 5 (by kernel_rfl) (F153.k 6 (by kernel_rfl) (F153.k 11 (by kernel_rfl) (F153.k 12 (by kernel_rfl) (F153.k 13 (by kernel_rfl) (F153.k 14 (by kernel_rfl) (F153.k 15 (by rw [hc130]; kernel_rfl) F153.nil))))))))))), S149.p1.drop, (by first | omega | (with_reducible assumption) | (simp; done)), (by first | omega | (with_reducible assumption) | (simp; done)), hK2, (fun j hj h1 h2 => by omega), (fun _ => he3), (fun h => by omega), hls, hxs⟩
                  · have F154 := F117.sb 64 (by kernel_rfl) (show (!((l[l.length - 1]).toList == (⟨#[46, 46]⟩ : ByteArray).toList)) = true by rw [hc118]; rfl)
                    have F155 := F154.sb 65 (by kernel_rfl) (show (!((l[l.length - 1]).toList == (⟨#[46, 46]⟩ : ByteArray).toList)) = true by rw [hc118]; rfl)
                    have F156 := F155.sb 49 (by kernel_rfl) (show (!((l[l.length - 1]).toList == (⟨#[46, 46]⟩ : ByteArray).toList)) = true by rw [hc118]; rfl)
                    refine wp_cond_true (F156.ev (by kernel_rfl)) ?_
                    refine wp_region_lit ?_
                    refine op_p F156 (.slice Ab l.length cb) (by kernel_rfl) rfl rfl rfl (by kernel_rfl) rfl ?_; intro a157 F157
                    refine op_p F157 (.slice Ab l.length cb) (by kernel_rfl) rfl rfl rfl (by kernel_rfl) rfl ?_; intro a158 F158
                    refine op_p F158 (.int .i64 (↑l.length)) (by kernel_rfl) rfl rfl rfl (by kernel_rfl) rfl ?_; intro a159 F159
                    refine op_r (v := .int .i64 (↑l.length - 1)) F159 (r_sub (z := (↑l.length - 1)) rfl (F159.ev (v := .int .i64 (↑l.length)) (by kernel_rfl)) (F159.ev (v := .int .i64 1) (by kernel_rfl)) (wr64 (by omega) (by omega) (by omega))) rfl rfl rfl ?_; intro a160 F160
                    refine op_s F160 (s_shr rfl Try.underlying22 1 (by kernel_rfl) (F160.ev (v := .slice Ab l.length cb) (by kernel_rfl)) (F160.ev (v := .int .i64 (↑l.length - 1)) (by kernel_rfl)) l.dropLast.length (by first | rfl | omega | (simp; done) | (simp; omega)) (by first | omega | (simp; done) | (simp; omega)) S24 (cs' := strs l.dropLast) (by simp [strs, List.dropLast_eq_take, List.map_take])) rfl rfl rfl ?_
                    rintro _ _ w161 ⟨rfl, rfl⟩ S161 a161 F161
                    refine op_p F161 (.slice Ab l.dropLast.length cb) (by kernel_rfl) rfl rfl rfl (by kernel_rfl) rfl ?_; intro a162 F162
                    refine wpList_nil ?_
                    refine hK33 _ _ ?_; clear hK33 K33
                    refine wp_region_lit ?_
                    refine op_p F162 (.int .i64 (↑i)) (by kernel_rfl) rfl rfl rfl (by kernel_rfl) rfl ?_; intro a163 F163
                    refine op_r (v := .int .i64 (↑(i + 1))) F163 (r_add (z := ↑(i + 1)) rfl (F163.ev (v := .int .i64 (↑i)) (by kernel_rfl)) (F163.ev (v := .int .i64 1) (by kernel_rfl)) (wr64 (by omega) (by omega) (by omega))) rfl rfl rfl ?_; intro a164 F164
                    refine op_p F164 (.int .i64 (↑(i + 1))) (by kernel_rfl) rfl rfl rfl (by kernel_rfl) rfl ?_; intro a165 F165
                    refine wpList_nil ?_
                    have hp : push ((↑s[0].toNat : Int) == 47) l (s.extract f i) = l.dropLast := by
                      unfold push; simp only [hc66, hc82, hc96, hc118, hll, if_pos hl0, Bool.false_eq_true, if_true, if_false]
                    have hxs : ∀ x ∈ push ((↑s[0].toNat : Int) == 47) l (s.extract f i), x.size ≤ s.size := push_all hx (by simp only [ByteArray.size_extract]; omega)
                    have hls : (push ((↑s[0].toNat : Int) == 47) l (s.extract f i)).length ≤ i + 1 := by have := push_len (r := ((↑s[0].toNat : Int) == 47)) (l := l) (p := s.extract f i); omega
                    rw [hp] at hxs hls
                    have hlt : i < s.size := by omega
                    obtain ⟨K2, hK2, he3⟩ := stk_step (r := ((↑s[0].toNat : Int) == 47)) hf hlt hno (by omega) hK (he (by omega))
                    rw [hp] at he3
                    exact hK24 _ _ _ (by first | omega | (simp; omega)) ⟨Ab, cb, l.dropLast, i + 1, i + 1, K2, rfl, (F165.k 0 (by kernel_rfl) (F165.k 2 (by kernel_rfl) (F165.k 3 (by kernel_rfl) (F165.k 4 (by kernel_rfl) (F165.k 5 (by kernel_rfl) (F165.k 6 (by kernel_rfl) (F165.k 11 (by kernel_rfl) (F165.k 12 (by kernel_rfl) (F165.k 13 (by kernel_rfl) (F165.k 14 (by kernel_rfl) (F165.k 15 (by kernel_rfl) F165.nil))))))))))), S161, (by first | omega | (with_reducible assumption) | (simp; done)), (by first | omega | (with_reducible assumption) | (simp; done)), hK2, (fun j hj h1 h2 => by omega), (fun _ => he3), (fun h => by omega), hls, hxs⟩
                · have hc104p := of_decide_eq_false hc104
                  have F166 := F103.sb 55 (by kernel_rfl) hc104
                  have F167 := F166.sb 56 (by kernel_rfl) hc104
                  have F168 := F167.sb 57 (by kernel_rfl) hc104
                  refine op_skip F168 (by kernel_rfl) rfl rfl rfl ?_; intro a169 F169
                  refine op_skip F169 (by kernel_rfl) rfl rfl rfl ?_; intro a170 F170
                  refine op_skip F170 (by kernel_rfl) rfl rfl rfl ?_; intro a171 F171
                  refine op_skip F171 (by kernel_rfl) rfl rfl rfl ?_; intro a172 F172
                  refine op_skip F172 (by kernel_rfl) rfl rfl rfl ?_; intro a173 F173
                  refine op_skip F173 (by kernel_rfl) rfl rfl rfl ?_; intro a174 F174
                  refine op_skip F174 (by kernel_rfl) rfl rfl rfl ?_; intro a175 F175
                  refine op_p F175 (.bool false) (by kernel_rfl) rfl rfl rfl (by kernel_rfl) rfl ?_; intro a176 F176
                  refine op_p F176 (.bool false) (by kernel_rfl) rfl rfl rfl (by kernel_rfl) rfl ?_; intro a177 F177
                  refine wpList_nil ?_
                  refine hK92 _ _ ?_; clear hK92 K92
                  refine wp_cond_false (F177.ev (by kernel_rfl)) ?_
                  refine wp_seq_k fun K178 hK178 => ?_
                  refine wp_region_lit ?_
                  refine op_p F177 (.string (s.extract f i)) (by kernel_rfl) rfl rfl rfl (by kernel_rfl) rfl ?_; intro a179 F179
                  refine op_p F179 (.bool ((s.extract f i).toList == (⟨#[46, 46]⟩ : ByteArray).toList)) (by kernel_rfl) rfl rfl rfl (by kernel_rfl) rfl ?_; intro a180 F180
                  have F181 := F180.sb 73 (by kernel_rfl) hc96
                  refine op_p F181 (.bool true) (by kernel_rfl) rfl rfl rfl (by kernel_rfl) rfl ?_; intro a182 F182
                  refine op_want F182 (by kernel_rfl) rfl ?_
                  refine op_p F182 (.bool ((↑s[0].toNat : Int) == 47)) (by kernel_rfl) rfl rfl rfl (by kernel_rfl) rfl ?_; intro a183 F183
                  refine op_p F183 (.bool ((↑s[0].toNat : Int) == 47)) (by kernel_rfl) rfl rfl rfl (by kernel_rfl) rfl ?_; intro a184 F184
                  refine op_p F184 (.bool ((↑s[0].toNat : Int) == 47)) (by kernel_rfl) rfl rfl rfl (by kernel_rfl) rfl ?_; intro a185 F185
                  refine wpList_nil ?_
                  refine hK178 _ _ ?_; clear hK178 K178
                  rcases btf ((↑s[0].toNat : Int) == 47) with hc186 | hc186
                  · have hc186p := eq_of_beq hc186
                    have F187 := F185.sb 15 (by kernel_rfl) hc186
                    have F188 := F187.sb 3 (by kernel_rfl) hc186
                    have F189 := F188.sb 75 (by kernel_rfl) hc186
                    have F190 := F189.sb 76 (by kernel_rfl) hc186
                    have F191 := F190.sb 71 (by kernel_rfl) hc186
                    refine wp_cond_true (F191.ev (by kernel_rfl)) ?_
                    refine wp_skip ?_
                    refine hK33 _ _ ?_; clear hK33 K33
                    refine wp_region_lit ?_
                    refine op_p F191 (.int .i64 (↑i)) (by kernel_rfl) rfl rfl rfl (by kernel_rfl) rfl ?_; intro a192 F192
                    refine op_r (v := .int .i64 (↑(i + 1))) F192 (r_add (z := ↑(i + 1)) rfl (F192.ev (v := .int .i64 (↑i)) (by kernel_rfl)) (F192.ev (v := .int .i64 1) (by kernel_rfl)) (wr64 (by omega) (by omega) (by omega))) rfl rfl rfl ?_; intro a193 F193
                    refine op_p F193 (.int .i64 (↑(i + 1))) (by kernel_rfl) rfl rfl rfl (by kernel_rfl) rfl ?_; intro a194 F194
                    refine wpList_nil ?_
                    have hp : push ((↑s[0].toNat : Int) == 47) l (s.extract f i) = l := by
                      unfold push; simp only [hc66, hc82, hc96, hc186, if_neg (show ¬ 0 < l.length by omega), Bool.false_eq_true, if_true, if_false]
                    have hxs : ∀ x ∈ push ((↑s[0].toNat : Int) == 47) l (s.extract f i), x.size ≤ s.size := push_all hx (by simp only [ByteArray.size_extract]; omega)
                    have hls : (push ((↑s[0].toNat : Int) == 47) l (s.extract f i)).length ≤ i + 1 := by have := push_len (r := ((↑s[0].toNat : Int) == 47)) (l := l) (p := s.extract f i); omega
                    rw [hp] at hxs hls
                    have hlt : i < s.size := by omega
                    obtain ⟨K2, hK2, he3⟩ := stk_step (r := ((↑s[0].toNat : Int) == 47)) hf hlt hno (by omega) hK (he (by omega))
                    rw [hp] at he3
                    exact hK24 _ _ _ (by first | omega | (simp; omega)) ⟨Ab, cb, l, i + 1, i + 1, K2, rfl, (F194.k 0 (by kernel_rfl) (F194.k 2 (by kernel_rfl) (F194.k 3 (by rw [hc186]; kernel_rfl) (F194.k 4 (by kernel_rfl) (F194.k 5 (by kernel_rfl) (F194.k 6 (by kernel_rfl) (F194.k 11 (by kernel_rfl) (F194.k 12 (by kernel_rfl) (F194.k 13 (by kernel_rfl) (F194.k 14 (by kernel_rfl) (F194.k 15 (by rw [hc186]; kernel_rfl) F194.nil))))))))))), S24, (by first | omega | (with_reducible assumption) | (simp; done)), (by first | omega | (with_reducible assumption) | (simp; done)), hK2, (fun j hj h1 h2 => by omega), (fun _ => he3), (fun h => by omega), hls, hxs⟩
                  · have hc186p := ne_of_beq_false hc186
                    have F195 := F185.sb 15 (by kernel_rfl) hc186
                    have F196 := F195.sb 3 (by kernel_rfl) hc186
                    have F197 := F196.sb 75 (by kernel_rfl) hc186
                    have F198 := F197.sb 76 (by kernel_rfl) hc186
                    have F199 := F198.sb 71 (by kernel_rfl) hc186
                    refine wp_cond_false (F199.ev (by kernel_rfl)) ?_
                    refine wp_region_lit ?_
                    refine op_p F199 (.slice Ab l.length cb) (by kernel_rfl) rfl rfl rfl (by kernel_rfl) rfl ?_; intro a200 F200
                    refine op_p F200 (.string (s.extract f i)) (by kernel_rfl) rfl rfl rfl (by kernel_rfl) rfl ?_; intro a201 F201
                    refine op_s F201 (s_news F201 9 #[.string (s.extract f i)] 1 (by kernel_rfl) (by kernel_rfl) (by kernel_rfl) S24) rfl rfl rfl ?_
                    rintro _ _ w203 ⟨g201, rfl, rfl⟩ S203 a203 F203
                    refine op_s F203 (s_app rfl Try.underlying22 1 _ tin9 rfl rfl (F203.ev (v := .slice Ab l.length cb) (by kernel_rfl)) S203.p1 ([Value.string (s.extract f i)]) (F203.ev (v := .slice (some ⟨g201, 0, none⟩) 1 1) (by kernel_rfl)) ((S203.bk 0 rfl).sl (by simp)) rfl (by simp [Value.oneCell']) (by omega) (by omega) (n' := (l ++ [s.extract f i]).length) (by first | (simp; done) | (simp; omega)) (cs' := strs (l ++ [s.extract f i])) (by simp [strs])) rfl rfl rfl ?_
                    rintro _ _ w205 ⟨A204, c204, rfl, rfl⟩ S205 a205 F205
                    refine op_p F205 (.slice A204 ((l ++ [s.extract f i]).length) c204) (by kernel_rfl) rfl rfl rfl (by kernel_rfl) rfl ?_; intro a206 F206
                    refine wpList_nil ?_
                    refine hK33 _ _ ?_; clear hK33 K33
                    refine wp_region_lit ?_
                    refine op_p F206 (.int .i64 (↑i)) (by kernel_rfl) rfl rfl rfl (by kernel_rfl) rfl ?_; intro a207 F207
                    refine op_r (v := .int .i64 (↑(i + 1))) F207 (r_add (z := ↑(i + 1)) rfl (F207.ev (v := .int .i64 (↑i)) (by kernel_rfl)) (F207.ev (v := .int .i64 1) (by kernel_rfl)) (wr64 (by omega) (by omega) (by omega))) rfl rfl rfl ?_; intro a208 F208
                    refine op_p F208 (.int .i64 (↑(i + 1))) (by kernel_rfl) rfl rfl rfl (by kernel_rfl) rfl ?_; intro a209 F209
                    refine wpList_nil ?_
                    have hp : push ((↑s[0].toNat : Int) == 47) l (s.extract f i) = l ++ [s.extract f i] := by
                      unfold push; simp only [hc66, hc82, hc96, hc186, if_neg (show ¬ 0 < l.length by omega), Bool.false_eq_true, if_true, if_false]
                    have hxs : ∀ x ∈ push ((↑s[0].toNat : Int) == 47) l (s.extract f i), x.size ≤ s.size := push_all hx (by simp only [ByteArray.size_extract]; omega)
                    have hls : (push ((↑s[0].toNat : Int) == 47) l (s.extract f i)).length ≤ i + 1 := by have := push_len (r := ((↑s[0].toNat : Int) == 47)) (l := l) (p := s.extract f i); omega
                    rw [hp] at hxs hls
                    have hlt : i < s.size := by omega
                    obtain ⟨K2, hK2, he3⟩ := stk_step (r := ((↑s[0].toNat : Int) == 47)) hf hlt hno (by omega) hK (he (by omega))
                    rw [hp] at he3
                    exact hK24 _ _ _ (by first | omega | (simp; omega)) ⟨A204, c204, l ++ [s.extract f i], i + 1, i + 1, K2, rfl, (F209.k 0 (by kernel_rfl) (F209.k 2 (by kernel_rfl) (F209.k 3 (by rw [hc186]; kernel_rfl) (F209.k 4 (by kernel_rfl) (F209.k 5 (by kernel_rfl) (F209.k 6 (by kernel_rfl) (F209.k 11 (by kernel_rfl) (F209.k 12 (by kernel_rfl) (F209.k 13 (by kernel_rfl) (F209.k 14 (by kernel_rfl) (F209.k 15 (by rw [hc186]; kernel_rfl) F209.nil))))))))))), S205.p1.drop, (by first | omega | (with_reducible assumption) | (simp; done)), (by first | omega | (with_reducible assumption) | (simp; done)), hK2, (fun j hj h1 h2 => by omega), (fun _ => he3), (fun h => by omega), hls, hxs⟩
              · have F210 := F95.sb 51 (by kernel_rfl) hc96
                have F211 := F210.sb 52 (by kernel_rfl) hc96
                refine op_skip F211 (by kernel_rfl) rfl rfl rfl ?_; intro a212 F212
                refine op_skip F212 (by kernel_rfl) rfl rfl rfl ?_; intro a213 F213
                refine op_skip F213 (by kernel_rfl) rfl rfl rfl ?_; intro a214 F214
                refine op_p F214 (.bool false) (by kernel_rfl) rfl rfl rfl (by kernel_rfl) rfl ?_; intro a215 F215
                refine op_p F215 (.bool false) (by kernel_rfl) rfl rfl rfl (by kernel_rfl) rfl ?_; intro a216 F216
                refine op_skip F216 (by kernel_rfl) rfl rfl rfl ?_; intro a217 F217
                refine op_skip F217 (by kernel_rfl) rfl rfl rfl ?_; intro a218 F218
                refine op_skip F218 (by kernel_rfl) rfl rfl rfl ?_; intro a219 F219
                refine op_skip F219 (by kernel_rfl) rfl rfl rfl ?_; intro a220 F220
                refine op_skip F220 (by kernel_rfl) rfl rfl rfl ?_; intro a221 F221
                refine op_skip F221 (by kernel_rfl) rfl rfl rfl ?_; intro a222 F222
                refine op_skip F222 (by kernel_rfl) rfl rfl rfl ?_; intro a223 F223
                refine op_p F223 (.bool false) (by kernel_rfl) rfl rfl rfl (by kernel_rfl) rfl ?_; intro a224 F224
                refine op_p F224 (.bool false) (by kernel_rfl) rfl rfl rfl (by kernel_rfl) rfl ?_; intro a225 F225
                refine wpList_nil ?_
                refine hK92 _ _ ?_; clear hK92 K92
                refine wp_cond_false (F225.ev (by kernel_rfl)) ?_
                refine wp_seq_k fun K226 hK226 => ?_
                refine wp_region_lit ?_
                refine op_p F225 (.string (s.extract f i)) (by kernel_rfl) rfl rfl rfl (by kernel_rfl) rfl ?_; intro a227 F227
                refine op_p F227 (.bool ((s.extract f i).toList == (⟨#[46, 46]⟩ : ByteArray).toList)) (by kernel_rfl) rfl rfl rfl (by kernel_rfl) rfl ?_; intro a228 F228
                have F229 := F228.sb 73 (by kernel_rfl) hc96
                refine op_p F229 (.bool false) (by kernel_rfl) rfl rfl rfl (by kernel_rfl) rfl ?_; intro a230 F230
                refine op_skip F230 (by kernel_rfl) rfl rfl rfl ?_; intro a231 F231
                refine op_p F231 (.bool false) (by kernel_rfl) rfl rfl rfl (by kernel_rfl) rfl ?_; intro a232 F232
                refine op_p F232 (.bool false) (by kernel_rfl) rfl rfl rfl (by kernel_rfl) rfl ?_; intro a233 F233
                refine wpList_nil ?_
                refine hK226 _ _ ?_; clear hK226 K226
                refine wp_cond_false (F233.ev (by kernel_rfl)) ?_
                refine wp_region_lit ?_
                refine op_p F233 (.slice Ab l.length cb) (by kernel_rfl) rfl rfl rfl (by kernel_rfl) rfl ?_; intro a234 F234
                refine op_p F234 (.string (s.extract f i)) (by kernel_rfl) rfl rfl rfl (by kernel_rfl) rfl ?_; intro a235 F235
                refine op_s F235 (s_news F235 9 #[.string (s.extract f i)] 1 (by kernel_rfl) (by kernel_rfl) (by kernel_rfl) S24) rfl rfl rfl ?_
                rintro _ _ w237 ⟨g235, rfl, rfl⟩ S237 a237 F237
                refine op_s F237 (s_app rfl Try.underlying22 1 _ tin9 rfl rfl (F237.ev (v := .slice Ab l.length cb) (by kernel_rfl)) S237.p1 ([Value.string (s.extract f i)]) (F237.ev (v := .slice (some ⟨g235, 0, none⟩) 1 1) (by kernel_rfl)) ((S237.bk 0 rfl).sl (by simp)) rfl (by simp [Value.oneCell']) (by omega) (by omega) (n' := (l ++ [s.extract f i]).length) (by first | (simp; done) | (simp; omega)) (cs' := strs (l ++ [s.extract f i])) (by simp [strs])) rfl rfl rfl ?_
                rintro _ _ w239 ⟨A238, c238, rfl, rfl⟩ S239 a239 F239
                refine op_p F239 (.slice A238 ((l ++ [s.extract f i]).length) c238) (by kernel_rfl) rfl rfl rfl (by kernel_rfl) rfl ?_; intro a240 F240
                refine wpList_nil ?_
                refine hK33 _ _ ?_; clear hK33 K33
                refine wp_region_lit ?_
                refine op_p F240 (.int .i64 (↑i)) (by kernel_rfl) rfl rfl rfl (by kernel_rfl) rfl ?_; intro a241 F241
                refine op_r (v := .int .i64 (↑(i + 1))) F241 (r_add (z := ↑(i + 1)) rfl (F241.ev (v := .int .i64 (↑i)) (by kernel_rfl)) (F241.ev (v := .int .i64 1) (by kernel_rfl)) (wr64 (by omega) (by omega) (by omega))) rfl rfl rfl ?_; intro a242 F242
                refine op_p F242 (.int .i64 (↑(i + 1))) (by kernel_rfl) rfl rfl rfl (by kernel_rfl) rfl ?_; intro a243 F243
                refine wpList_nil ?_
                have hp : push ((↑s[0].toNat : Int) == 47) l (s.extract f i) = l ++ [s.extract f i] := by
                  unfold push; simp only [hc66, hc82, hc96, Bool.false_eq_true, if_true, if_false]
                have hxs : ∀ x ∈ push ((↑s[0].toNat : Int) == 47) l (s.extract f i), x.size ≤ s.size := push_all hx (by simp only [ByteArray.size_extract]; omega)
                have hls : (push ((↑s[0].toNat : Int) == 47) l (s.extract f i)).length ≤ i + 1 := by have := push_len (r := ((↑s[0].toNat : Int) == 47)) (l := l) (p := s.extract f i); omega
                rw [hp] at hxs hls
                have hlt : i < s.size := by omega
                obtain ⟨K2, hK2, he3⟩ := stk_step (r := ((↑s[0].toNat : Int) == 47)) hf hlt hno (by omega) hK (he (by omega))
                rw [hp] at he3
                exact hK24 _ _ _ (by first | omega | (simp; omega)) ⟨A238, c238, l ++ [s.extract f i], i + 1, i + 1, K2, rfl, (F243.k 0 (by kernel_rfl) (F243.k 2 (by kernel_rfl) (F243.k 3 (by kernel_rfl) (F243.k 4 (by kernel_rfl) (F243.k 5 (by kernel_rfl) (F243.k 6 (by kernel_rfl) (F243.k 11 (by kernel_rfl) (F243.k 12 (by kernel_rfl) (F243.k 13 (by kernel_rfl) (F243.k 14 (by kernel_rfl) (F243.k 15 (by kernel_rfl) F243.nil))))))))))), S239.p1.drop, (by first | omega | (with_reducible assumption) | (simp; done)), (by first | omega | (with_reducible assumption) | (simp; done)), hK2, (fun j hj h1 h2 => by omega), (fun _ => he3), (fun h => by omega), hls, hxs⟩
        · have hc49p := ne_of_beq_false hc49
          have F244 := F48.sb 30 (by kernel_rfl) (show (!((↑s[i].toNat : Int) == 47)) = true by rw [hc49]; rfl)
          have F245 := F244.sb 31 (by kernel_rfl) (show (!((↑s[i].toNat : Int) == 47)) = true by rw [hc49]; rfl)
          refine wp_cond_true (F245.ev (by kernel_rfl)) ?_
          refine wp_exit ?_
          refine ex_then ?_; clear hK34 K34
          refine ex_in ?_
          refine hK33 _ _ ?_; clear hK33 K33
          refine wp_region_lit ?_
          refine op_p F245 (.int .i64 (↑i)) (by kernel_rfl) rfl rfl rfl (by kernel_rfl) rfl ?_; intro a246 F246
          refine op_r (v := .int .i64 (↑(i + 1))) F246 (r_add (z := ↑(i + 1)) rfl (F246.ev (v := .int .i64 (↑i)) (by kernel_rfl)) (F246.ev (v := .int .i64 1) (by kernel_rfl)) (wr64 (by omega) (by omega) (by omega))) rfl rfl rfl ?_; intro a247 F247
          refine op_p F247 (.int .i64 (↑(i + 1))) (by kernel_rfl) rfl rfl rfl (by kernel_rfl) rfl ?_; intro a248 F248
          refine wpList_nil ?_
          exact hK24 _ _ _ (by first | omega | (simp; omega)) ⟨Ab, cb, l, f, i + 1, K, rfl, (F248.k 0 (by kernel_rfl) (F248.k 2 (by kernel_rfl) (F248.k 3 (by kernel_rfl) (F248.k 4 (by kernel_rfl) (F248.k 5 (by kernel_rfl) (F248.k 6 (by kernel_rfl) (F248.k 11 (by kernel_rfl) (F248.k 12 (by kernel_rfl) (F248.k 13 (by kernel_rfl) (F248.k 14 (by kernel_rfl) (F248.k 15 (by kernel_rfl) F248.nil))))))))))), S24, (by first | omega | (with_reducible assumption) | (simp; done)), (by first | omega | (with_reducible assumption) | (simp; done)), (by first | omega | (with_reducible assumption) | (simp; done)), (fun j hj h1 h2 => if h3 : j < i then hno j hj h1 h3 else (by have e3 : j = i := (by omega); subst e3; omega)), (fun h => he (by omega)), (fun h => by omega), (by first | omega | (with_reducible assumption) | (simp; done)), hx⟩
      · have hc41p := of_decide_eq_false hc41
        have F249 := F40.sb 25 (by kernel_rfl) hc41
        have F250 := F249.sb 26 (by kernel_rfl) hc41
        refine op_skip F250 (by kernel_rfl) rfl rfl rfl ?_; intro a251 F251
        refine op_skip F251 (by kernel_rfl) rfl rfl rfl ?_; intro a252 F252
        refine op_skip F252 (by kernel_rfl) rfl rfl rfl ?_; intro a253 F253
        refine op_skip F253 (by kernel_rfl) rfl rfl rfl ?_; intro a254 F254
        refine op_p F254 (.bool false) (by kernel_rfl) rfl rfl rfl (by kernel_rfl) rfl ?_; intro a255 F255
        refine wpList_nil ?_
        refine hK35 _ _ ?_; clear hK35 K35
        refine wp_cond_false (F255.ev (by kernel_rfl)) ?_
        refine wp_skip ?_
        refine hK34 _ _ ?_; clear hK34 K34
        refine wp_seq_k fun K256 hK256 => ?_
        refine wp_region_lit ?_
        refine op_p F255 (.string s) (by kernel_rfl) rfl rfl rfl (by kernel_rfl) rfl ?_; intro a257 F257
        refine op_p F257 (.int .i64 (↑f)) (by kernel_rfl) rfl rfl rfl (by kernel_rfl) rfl ?_; intro a258 F258
        refine op_p F258 (.int .i64 (↑i)) (by kernel_rfl) rfl rfl rfl (by kernel_rfl) rfl ?_; intro a259 F259
        refine op_r (v := .string (s.extract f i)) F259 (r_sllh rfl Try.underlying9 (F259.ev (v := .string s) (by kernel_rfl)) (F259.ev (v := .int .i64 (↑f)) (by kernel_rfl)) (F259.ev (v := .int .i64 (↑i)) (by kernel_rfl))  f i (by first | rfl | omega | (simp; done) | (simp; omega)) (by first | omega | (simp; done) | (simp; omega)) (rfl)) rfl rfl rfl ?_; intro a260 F260
        refine op_p F260 (.string (s.extract f i)) (by kernel_rfl) rfl rfl rfl (by kernel_rfl) rfl ?_; intro a261 F261
        refine wpList_nil ?_
        refine hK256 _ _ ?_; clear hK256 K256
        refine wp_seq_k fun K262 hK262 => ?_
        refine wp_region_lit ?_
        refine op_p F261 (.int .i64 (↑i)) (by kernel_rfl) rfl rfl rfl (by kernel_rfl) rfl ?_; intro a263 F263
        refine op_r (v := .int .i64 (↑(i + 1))) F263 (r_add (z := ↑(i + 1)) rfl (F263.ev (v := .int .i64 (↑i)) (by kernel_rfl)) (F263.ev (v := .int .i64 1) (by kernel_rfl)) (wr64 (by omega) (by omega) (by omega))) rfl rfl rfl ?_; intro a264 F264
        refine op_p F264 (.int .i64 (↑(i + 1))) (by kernel_rfl) rfl rfl rfl (by kernel_rfl) rfl ?_; intro a265 F265
        refine wpList_nil ?_
        refine hK262 _ _ ?_; clear hK262 K262
        refine wp_block ?_
        refine wp_seq_k fun K266 hK266 => ?_
        refine wp_region_lit ?_
        refine op_p F265 (.string (s.extract f i)) (by kernel_rfl) rfl rfl rfl (by kernel_rfl) rfl ?_; intro a267 F267
        refine op_p F267 (.bool ((s.extract f i).toList == (⟨#[]⟩ : ByteArray).toList)) (by kernel_rfl) rfl rfl rfl (by kernel_rfl) rfl ?_; intro a268 F268
        refine op_p F268 (.bool ((s.extract f i).toList == (⟨#[]⟩ : ByteArray).toList)) (by kernel_rfl) rfl rfl rfl (by kernel_rfl) rfl ?_; intro a269 F269
        rcases btf ((s.extract f i).toList == (⟨#[]⟩ : ByteArray).toList) with hc270 | hc270
        · have F271 := F269.sb 44 (by kernel_rfl) hc270
          have F272 := F271.sb 45 (by kernel_rfl) hc270
          refine op_skip F272 (by kernel_rfl) rfl rfl rfl ?_; intro a273 F273
          refine op_skip F273 (by kernel_rfl) rfl rfl rfl ?_; intro a274 F274
          refine op_p F274 (.bool true) (by kernel_rfl) rfl rfl rfl (by kernel_rfl) rfl ?_; intro a275 F275
          refine op_p F275 (.bool true) (by kernel_rfl) rfl rfl rfl (by kernel_rfl) rfl ?_; intro a276 F276
          refine wpList_nil ?_
          refine hK266 _ _ ?_; clear hK266 K266
          refine wp_cond_true (F276.ev (by kernel_rfl)) ?_
          refine wp_skip ?_
          refine hK33 _ _ ?_; clear hK33 K33
          refine wp_region_lit ?_
          refine op_p F276 (.int .i64 (↑i)) (by kernel_rfl) rfl rfl rfl (by kernel_rfl) rfl ?_; intro a277 F277
          refine op_r (v := .int .i64 (↑(i + 1))) F277 (r_add (z := ↑(i + 1)) rfl (F277.ev (v := .int .i64 (↑i)) (by kernel_rfl)) (F277.ev (v := .int .i64 1) (by kernel_rfl)) (wr64 (by omega) (by omega) (by omega))) rfl rfl rfl ?_; intro a278 F278
          refine op_p F278 (.int .i64 (↑(i + 1))) (by kernel_rfl) rfl rfl rfl (by kernel_rfl) rfl ?_; intro a279 F279
          refine wpList_nil ?_
          have hp : push ((↑s[0].toNat : Int) == 47) l (s.extract f i) = l := by
            unfold push; simp only [hc270, Bool.false_eq_true, if_true, if_false]
          have hxs : ∀ x ∈ push ((↑s[0].toNat : Int) == 47) l (s.extract f i), x.size ≤ s.size := push_all hx (by simp only [ByteArray.size_extract]; omega)
          have hls : (push ((↑s[0].toNat : Int) == 47) l (s.extract f i)).length ≤ i + 1 := by have := push_len (r := ((↑s[0].toNat : Int) == 47)) (l := l) (p := s.extract f i); omega
          rw [hp] at hxs hls
          have hi2 : i = s.size := by omega
          have he3 : l = stk ((↑s[0].toNat : Int) == 47) s := by rw [← hp, hi2]; exact stk_last (fun j hj h1 => hno j hj h1 (by omega)) (he (by omega))
          exact hK24 _ _ _ (by first | omega | (simp; omega)) ⟨Ab, cb, l, i + 1, i + 1, s.size + 1, rfl, (F279.k 0 (by kernel_rfl) (F279.k 2 (by kernel_rfl) (F279.k 3 (by kernel_rfl) (F279.k 4 (by kernel_rfl) (F279.k 5 (by kernel_rfl) (F279.k 6 (by kernel_rfl) (F279.k 11 (by kernel_rfl) (F279.k 12 (by kernel_rfl) (F279.k 13 (by kernel_rfl) (F279.k 14 (by kernel_rfl) (F279.k 15 (by kernel_rfl) F279.nil))))))))))), S24, (by first | omega | (with_reducible assumption) | (simp; done)), (by first | omega | (with_reducible assumption) | (simp; done)), (by omega), (fun j hj h1 h2 => by omega), (fun h => by omega), (fun _ => he3), hls, hxs⟩
        · have F280 := F269.sb 44 (by kernel_rfl) hc270
          have F281 := F280.sb 45 (by kernel_rfl) hc270
          refine op_want F281 (by kernel_rfl) rfl ?_
          refine op_p F281 (.string (s.extract f i)) (by kernel_rfl) rfl rfl rfl (by kernel_rfl) rfl ?_; intro a282 F282
          refine op_want F282 (by kernel_rfl) rfl ?_
          refine op_p F282 (.bool ((s.extract f i).toList == (⟨#[46]⟩ : ByteArray).toList)) (by kernel_rfl) rfl rfl rfl (by kernel_rfl) rfl ?_; intro a283 F283
          refine op_p F283 (.bool ((s.extract f i).toList == (⟨#[46]⟩ : ByteArray).toList)) (by kernel_rfl) rfl rfl rfl (by kernel_rfl) rfl ?_; intro a284 F284
          refine op_p F284 (.bool ((s.extract f i).toList == (⟨#[46]⟩ : ByteArray).toList)) (by kernel_rfl) rfl rfl rfl (by kernel_rfl) rfl ?_; intro a285 F285
          refine wpList_nil ?_
          refine hK266 _ _ ?_; clear hK266 K266
          rcases btf ((s.extract f i).toList == (⟨#[46]⟩ : ByteArray).toList) with hc286 | hc286
          · have F287 := F285.sb 47 (by kernel_rfl) hc286
            have F288 := F287.sb 48 (by kernel_rfl) hc286
            have F289 := F288.sb 42 (by kernel_rfl) hc286
            refine wp_cond_true (F289.ev (by kernel_rfl)) ?_
            refine wp_skip ?_
            refine hK33 _ _ ?_; clear hK33 K33
            refine wp_region_lit ?_
            refine op_p F289 (.int .i64 (↑i)) (by kernel_rfl) rfl rfl rfl (by kernel_rfl) rfl ?_; intro a290 F290
            refine op_r (v := .int .i64 (↑(i + 1))) F290 (r_add (z := ↑(i + 1)) rfl (F290.ev (v := .int .i64 (↑i)) (by kernel_rfl)) (F290.ev (v := .int .i64 1) (by kernel_rfl)) (wr64 (by omega) (by omega) (by omega))) rfl rfl rfl ?_; intro a291 F291
            refine op_p F291 (.int .i64 (↑(i + 1))) (by kernel_rfl) rfl rfl rfl (by kernel_rfl) rfl ?_; intro a292 F292
            refine wpList_nil ?_
            have hp : push ((↑s[0].toNat : Int) == 47) l (s.extract f i) = l := by
              unfold push; simp only [hc270, hc286, Bool.false_eq_true, if_true, if_false]
            have hxs : ∀ x ∈ push ((↑s[0].toNat : Int) == 47) l (s.extract f i), x.size ≤ s.size := push_all hx (by simp only [ByteArray.size_extract]; omega)
            have hls : (push ((↑s[0].toNat : Int) == 47) l (s.extract f i)).length ≤ i + 1 := by have := push_len (r := ((↑s[0].toNat : Int) == 47)) (l := l) (p := s.extract f i); omega
            rw [hp] at hxs hls
            have hi2 : i = s.size := by omega
            have he3 : l = stk ((↑s[0].toNat : Int) == 47) s := by rw [← hp, hi2]; exact stk_last (fun j hj h1 => hno j hj h1 (by omega)) (he (by omega))
            exact hK24 _ _ _ (by first | omega | (simp; omega)) ⟨Ab, cb, l, i + 1, i + 1, s.size + 1, rfl, (F292.k 0 (by kernel_rfl) (F292.k 2 (by kernel_rfl) (F292.k 3 (by kernel_rfl) (F292.k 4 (by kernel_rfl) (F292.k 5 (by kernel_rfl) (F292.k 6 (by kernel_rfl) (F292.k 11 (by kernel_rfl) (F292.k 12 (by kernel_rfl) (F292.k 13 (by kernel_rfl) (F292.k 14 (by kernel_rfl) (F292.k 15 (by kernel_rfl) F292.nil))))))))))), S24, (by first | omega | (with_reducible assumption) | (simp; done)), (by first | omega | (with_reducible assumption) | (simp; done)), (by omega), (fun j hj h1 h2 => by omega), (fun h => by omega), (fun _ => he3), hls, hxs⟩
          · have F293 := F285.sb 47 (by kernel_rfl) hc286
            have F294 := F293.sb 48 (by kernel_rfl) hc286
            have F295 := F294.sb 42 (by kernel_rfl) hc286
            refine wp_cond_false (F295.ev (by kernel_rfl)) ?_
            refine wp_seq_k fun K296 hK296 => ?_
            refine wp_region_lit ?_
            refine op_p F295 (.string (s.extract f i)) (by kernel_rfl) rfl rfl rfl (by kernel_rfl) rfl ?_; intro a297 F297
            refine op_p F297 (.bool ((s.extract f i).toList == (⟨#[46, 46]⟩ : ByteArray).toList)) (by kernel_rfl) rfl rfl rfl (by kernel_rfl) rfl ?_; intro a298 F298
            refine op_p F298 (.bool ((s.extract f i).toList == (⟨#[46, 46]⟩ : ByteArray).toList)) (by kernel_rfl) rfl rfl rfl (by kernel_rfl) rfl ?_; intro a299 F299
            rcases btf ((s.extract f i).toList == (⟨#[46, 46]⟩ : ByteArray).toList) with hc300 | hc300
            · have F301 := F299.sb 51 (by kernel_rfl) hc300
              have F302 := F301.sb 52 (by kernel_rfl) hc300
              refine op_want F302 (by kernel_rfl) rfl ?_
              refine op_p F302 (.slice Ab l.length cb) (by kernel_rfl) rfl rfl rfl (by kernel_rfl) rfl ?_; intro a303 F303
              refine op_want F303 (by kernel_rfl) rfl ?_
              refine op_p F303 (.int .i64 (↑l.length)) (by kernel_rfl) rfl rfl rfl (by kernel_rfl) rfl ?_; intro a304 F304
              refine op_want F304 (by kernel_rfl) rfl ?_
              refine op_p F304 (.bool (decide ((0 : Int) < ↑l.length))) (by kernel_rfl) rfl rfl rfl (by kernel_rfl) rfl ?_; intro a305 F305
              refine op_p F305 (.bool (decide ((0 : Int) < ↑l.length))) (by kernel_rfl) rfl rfl rfl (by kernel_rfl) rfl ?_; intro a306 F306
              refine op_p F306 (.bool (decide ((0 : Int) < ↑l.length))) (by kernel_rfl) rfl rfl rfl (by kernel_rfl) rfl ?_; intro a307 F307
              rcases btf (decide ((0 : Int) < ↑l.length)) with hc308 | hc308
              · have hc308p := of_decide_eq_true hc308
                have hl0 : 0 < l.length := by omega
                have hll := lst_at hl0
                obtain ⟨ad309, hA309⟩ := (own_sl1 (S24.ow 0 rfl) (by omega)).addr (by simp [strs]; omega)
                have F310 := F307.sb 55 (by kernel_rfl) hc308
                have F311 := F310.sb 56 (by kernel_rfl) hc308
                have F312 := F311.sb 57 (by kernel_rfl) hc308
                refine op_want F312 (by kernel_rfl) rfl ?_
                refine op_p F312 (.slice Ab l.length cb) (by kernel_rfl) rfl rfl rfl (by kernel_rfl) rfl ?_; intro a313 F313
                refine op_want F313 (by kernel_rfl) rfl ?_
                refine op_p F313 (.slice Ab l.length cb) (by kernel_rfl) rfl rfl rfl (by kernel_rfl) rfl ?_; intro a314 F314
                refine op_want F314 (by kernel_rfl) rfl ?_
                refine op_p F314 (.int .i64 (↑l.length)) (by kernel_rfl) rfl rfl rfl (by kernel_rfl) rfl ?_; intro a315 F315
                refine op_want F315 (by kernel_rfl) rfl ?_
                refine op_r (v := .int .i64 (↑l.length - 1)) F315 (r_sub (z := (↑l.length - 1)) rfl (F315.ev (v := .int .i64 (↑l.length)) (by kernel_rfl)) (F315.ev (v := .int .i64 1) (by kernel_rfl)) (wr64 (by omega) (by omega) (by omega))) rfl rfl rfl ?_; intro a316 F316
                refine op_want F316 (by kernel_rfl) rfl ?_
                refine op_r (v := .pointer (some (ad309.add (l.length - 1)))) F316 (r_ix rfl Try.underlying22 1 (by kernel_rfl) (F316.ev (v := .slice Ab l.length cb) (by kernel_rfl)) hA309 (F316.ev (v := .int .i64 (↑l.length - 1)) (by kernel_rfl)) (l.length - 1) (by first | rfl | omega | simp) (by first | omega | (simp; done) | (simp; omega)) (by simp only [Nat.mul_one])) rfl rfl rfl ?_; intro a317 F317
                refine op_want F317 (by kernel_rfl) rfl ?_
                refine op_r (v := .string (l[l.length - 1])) F317 (r_ld rfl (F317.ev (v := .pointer (some (ad309.add (l.length - 1)))) (by kernel_rfl)) (v := .string (l[l.length - 1])) ((own_sl1 (S24.ow 0 rfl) (by omega)).elA hA309 (j := l.length - 1) (by simp [strs])) Try.underlying9 rfl) rfl rfl rfl ?_; intro a318 F318
                refine op_want F318 (by kernel_rfl) rfl ?_
                refine op_p F318 (.bool (!((l[l.length - 1]).toList == (⟨#[46, 46]⟩ : ByteArray).toList))) (by kernel_rfl) rfl rfl rfl (by kernel_rfl) rfl ?_; intro a319 F319
                refine op_p F319 (.bool (!((l[l.length - 1]).toList == (⟨#[46, 46]⟩ : ByteArray).toList))) (by kernel_rfl) rfl rfl rfl (by kernel_rfl) rfl ?_; intro a320 F320
                refine op_p F320 (.bool (!((l[l.length - 1]).toList == (⟨#[46, 46]⟩ : ByteArray).toList))) (by kernel_rfl) rfl rfl rfl (by kernel_rfl) rfl ?_; intro a321 F321
                refine wpList_nil ?_
                refine hK296 _ _ ?_; clear hK296 K296
                rcases btf ((l[l.length - 1]).toList == (⟨#[46, 46]⟩ : ByteArray).toList) with hc322 | hc322
                · have F323 := F321.sb 64 (by kernel_rfl) (show (!((l[l.length - 1]).toList == (⟨#[46, 46]⟩ : ByteArray).toList)) = false by rw [hc322]; rfl)
                  have F324 := F323.sb 65 (by kernel_rfl) (show (!((l[l.length - 1]).toList == (⟨#[46, 46]⟩ : ByteArray).toList)) = false by rw [hc322]; rfl)
                  have F325 := F324.sb 49 (by kernel_rfl) (show (!((l[l.length - 1]).toList == (⟨#[46, 46]⟩ : ByteArray).toList)) = false by rw [hc322]; rfl)
                  refine wp_cond_false (F325.ev (by kernel_rfl)) ?_
                  refine wp_seq_k fun K326 hK326 => ?_
                  refine wp_region_lit ?_
                  refine op_p F325 (.string (s.extract f i)) (by kernel_rfl) rfl rfl rfl (by kernel_rfl) rfl ?_; intro a327 F327
                  refine op_p F327 (.bool ((s.extract f i).toList == (⟨#[46, 46]⟩ : ByteArray).toList)) (by kernel_rfl) rfl rfl rfl (by kernel_rfl) rfl ?_; intro a328 F328
                  have F329 := F328.sb 73 (by kernel_rfl) hc300
                  refine op_p F329 (.bool true) (by kernel_rfl) rfl rfl rfl (by kernel_rfl) rfl ?_; intro a330 F330
                  refine op_want F330 (by kernel_rfl) rfl ?_
                  refine op_p F330 (.bool ((↑s[0].toNat : Int) == 47)) (by kernel_rfl) rfl rfl rfl (by kernel_rfl) rfl ?_; intro a331 F331
                  refine op_p F331 (.bool ((↑s[0].toNat : Int) == 47)) (by kernel_rfl) rfl rfl rfl (by kernel_rfl) rfl ?_; intro a332 F332
                  refine op_p F332 (.bool ((↑s[0].toNat : Int) == 47)) (by kernel_rfl) rfl rfl rfl (by kernel_rfl) rfl ?_; intro a333 F333
                  refine wpList_nil ?_
                  refine hK326 _ _ ?_; clear hK326 K326
                  rcases btf ((↑s[0].toNat : Int) == 47) with hc334 | hc334
                  · have hc334p := eq_of_beq hc334
                    have F335 := F333.sb 15 (by kernel_rfl) hc334
                    have F336 := F335.sb 3 (by kernel_rfl) hc334
                    have F337 := F336.sb 75 (by kernel_rfl) hc334
                    have F338 := F337.sb 76 (by kernel_rfl) hc334
                    have F339 := F338.sb 71 (by kernel_rfl) hc334
                    refine wp_cond_true (F339.ev (by kernel_rfl)) ?_
                    refine wp_skip ?_
                    refine hK33 _ _ ?_; clear hK33 K33
                    refine wp_region_lit ?_
                    refine op_p F339 (.int .i64 (↑i)) (by kernel_rfl) rfl rfl rfl (by kernel_rfl) rfl ?_; intro a340 F340
                    refine op_r (v := .int .i64 (↑(i + 1))) F340 (r_add (z := ↑(i + 1)) rfl (F340.ev (v := .int .i64 (↑i)) (by kernel_rfl)) (F340.ev (v := .int .i64 1) (by kernel_rfl)) (wr64 (by omega) (by omega) (by omega))) rfl rfl rfl ?_; intro a341 F341
                    refine op_p F341 (.int .i64 (↑(i + 1))) (by kernel_rfl) rfl rfl rfl (by kernel_rfl) rfl ?_; intro a342 F342
                    refine wpList_nil ?_
                    have hp : push ((↑s[0].toNat : Int) == 47) l (s.extract f i) = l := by
                      unfold push; simp only [hc270, hc286, hc300, hc322, hc334, hll, if_pos hl0, Bool.false_eq_true, if_true, if_false]
                    have hxs : ∀ x ∈ push ((↑s[0].toNat : Int) == 47) l (s.extract f i), x.size ≤ s.size := push_all hx (by simp only [ByteArray.size_extract]; omega)
                    have hls : (push ((↑s[0].toNat : Int) == 47) l (s.extract f i)).length ≤ i + 1 := by have := push_len (r := ((↑s[0].toNat : Int) == 47)) (l := l) (p := s.extract f i); omega
                    rw [hp] at hxs hls
                    have hi2 : i = s.size := by omega
                    have he3 : l = stk ((↑s[0].toNat : Int) == 47) s := by rw [← hp, hi2]; exact stk_last (fun j hj h1 => hno j hj h1 (by omega)) (he (by omega))
                    exact hK24 _ _ _ (by first | omega | (simp; omega)) ⟨Ab, cb, l, i + 1, i + 1, s.size + 1, rfl, (F342.k 0 (by kernel_rfl) (F342.k 2 (by kernel_rfl) (F342.k 3 (by rw [hc334]; kernel_rfl) (F342.k 4 (by kernel_rfl) (F342.k 5 (by kernel_rfl) (F342.k 6 (by kernel_rfl) (F342.k 11 (by kernel_rfl) (F342.k 12 (by kernel_rfl) (F342.k 13 (by kernel_rfl) (F342.k 14 (by kernel_rfl) (F342.k 15 (by rw [hc334]; kernel_rfl) F342.nil))))))))))), S24, (by first | omega | (with_reducible assumption) | (simp; done)), (by first | omega | (with_reducible assumption) | (simp; done)), (by omega), (fun j hj h1 h2 => by omega), (fun h => by omega), (fun _ => he3), hls, hxs⟩
                  · have hc334p := ne_of_beq_false hc334
                    have F343 := F333.sb 15 (by kernel_rfl) hc334
                    have F344 := F343.sb 3 (by kernel_rfl) hc334
                    have F345 := F344.sb 75 (by kernel_rfl) hc334
                    have F346 := F345.sb 76 (by kernel_rfl) hc334
                    have F347 := F346.sb 71 (by kernel_rfl) hc334
                    refine wp_cond_false (F347.ev (by kernel_rfl)) ?_
                    refine wp_region_lit ?_
                    refine op_p F347 (.slice Ab l.length cb) (by kernel_rfl) rfl rfl rfl (by kernel_rfl) rfl ?_; intro a348 F348
                    refine op_p F348 (.string (s.extract f i)) (by kernel_rfl) rfl rfl rfl (by kernel_rfl) rfl ?_; intro a349 F349
                    refine op_s F349 (s_news F349 9 #[.string (s.extract f i)] 1 (by kernel_rfl) (by kernel_rfl) (by kernel_rfl) S24) rfl rfl rfl ?_
                    rintro _ _ w351 ⟨g349, rfl, rfl⟩ S351 a351 F351
                    refine op_s F351 (s_app rfl Try.underlying22 1 _ tin9 rfl rfl (F351.ev (v := .slice Ab l.length cb) (by kernel_rfl)) S351.p1 ([Value.string (s.extract f i)]) (F351.ev (v := .slice (some ⟨g349, 0, none⟩) 1 1) (by kernel_rfl)) ((S351.bk 0 rfl).sl (by simp)) rfl (by simp [Value.oneCell']) (by omega) (by omega) (n' := (l ++ [s.extract f i]).length) (by first | (simp; done) | (simp; omega)) (cs' := strs (l ++ [s.extract f i])) (by simp [strs])) rfl rfl rfl ?_
                    rintro _ _ w353 ⟨A352, c352, rfl, rfl⟩ S353 a353 F353
                    refine op_p F353 (.slice A352 ((l ++ [s.extract f i]).length) c352) (by kernel_rfl) rfl rfl rfl (by kernel_rfl) rfl ?_; intro a354 F354
                    refine wpList_nil ?_
                    refine hK33 _ _ ?_; clear hK33 K33
                    refine wp_region_lit ?_
                    refine op_p F354 (.int .i64 (↑i)) (by kernel_rfl) rfl rfl rfl (by kernel_rfl) rfl ?_; intro a355 F355
                    refine op_r (v := .int .i64 (↑(i + 1))) F355 (r_add (z := ↑(i + 1)) rfl (F355.ev (v := .int .i64 (↑i)) (by kernel_rfl)) (F355.ev (v := .int .i64 1) (by kernel_rfl)) (wr64 (by omega) (by omega) (by omega))) rfl rfl rfl ?_; intro a356 F356
                    refine op_p F356 (.int .i64 (↑(i + 1))) (by kernel_rfl) rfl rfl rfl (by kernel_rfl) rfl ?_; intro a357 F357
                    refine wpList_nil ?_
                    have hp : push ((↑s[0].toNat : Int) == 47) l (s.extract f i) = l ++ [s.extract f i] := by
                      unfold push; simp only [hc270, hc286, hc300, hc322, hc334, hll, if_pos hl0, Bool.false_eq_true, if_true, if_false]
                    have hxs : ∀ x ∈ push ((↑s[0].toNat : Int) == 47) l (s.extract f i), x.size ≤ s.size := push_all hx (by simp only [ByteArray.size_extract]; omega)
                    have hls : (push ((↑s[0].toNat : Int) == 47) l (s.extract f i)).length ≤ i + 1 := by have := push_len (r := ((↑s[0].toNat : Int) == 47)) (l := l) (p := s.extract f i); omega
                    rw [hp] at hxs hls
                    have hi2 : i = s.size := by omega
                    have he3 : l ++ [s.extract f i] = stk ((↑s[0].toNat : Int) == 47) s := by rw [← hp, hi2]; exact stk_last (fun j hj h1 => hno j hj h1 (by omega)) (he (by omega))
                    exact hK24 _ _ _ (by first | omega | (simp; omega)) ⟨A352, c352, l ++ [s.extract f i], i + 1, i + 1, s.size + 1, rfl, (F357.k 0 (by kernel_rfl) (F357.k 2 (by kernel_rfl) (F357.k 3 (by rw [hc334]; kernel_rfl) (F357.k 4 (by kernel_rfl) (F357.k 5 (by kernel_rfl) (F357.k 6 (by kernel_rfl) (F357.k 11 (by kernel_rfl) (F357.k 12 (by kernel_rfl) (F357.k 13 (by kernel_rfl) (F357.k 14 (by kernel_rfl) (F357.k 15 (by rw [hc334]; kernel_rfl) F357.nil))))))))))), S353.p1.drop, (by first | omega | (with_reducible assumption) | (simp; done)), (by first | omega | (with_reducible assumption) | (simp; done)), (by omega), (fun j hj h1 h2 => by omega), (fun h => by omega), (fun _ => he3), hls, hxs⟩
                · have F358 := F321.sb 64 (by kernel_rfl) (show (!((l[l.length - 1]).toList == (⟨#[46, 46]⟩ : ByteArray).toList)) = true by rw [hc322]; rfl)
                  have F359 := F358.sb 65 (by kernel_rfl) (show (!((l[l.length - 1]).toList == (⟨#[46, 46]⟩ : ByteArray).toList)) = true by rw [hc322]; rfl)
                  have F360 := F359.sb 49 (by kernel_rfl) (show (!((l[l.length - 1]).toList == (⟨#[46, 46]⟩ : ByteArray).toList)) = true by rw [hc322]; rfl)
                  refine wp_cond_true (F360.ev (by kernel_rfl)) ?_
                  refine wp_region_lit ?_
                  refine op_p F360 (.slice Ab l.length cb) (by kernel_rfl) rfl rfl rfl (by kernel_rfl) rfl ?_; intro a361 F361
                  refine op_p F361 (.slice Ab l.length cb) (by kernel_rfl) rfl rfl rfl (by kernel_rfl) rfl ?_; intro a362 F362
                  refine op_p F362 (.int .i64 (↑l.length)) (by kernel_rfl) rfl rfl rfl (by kernel_rfl) rfl ?_; intro a363 F363
                  refine op_r (v := .int .i64 (↑l.length - 1)) F363 (r_sub (z := (↑l.length - 1)) rfl (F363.ev (v := .int .i64 (↑l.length)) (by kernel_rfl)) (F363.ev (v := .int .i64 1) (by kernel_rfl)) (wr64 (by omega) (by omega) (by omega))) rfl rfl rfl ?_; intro a364 F364
                  refine op_s F364 (s_shr rfl Try.underlying22 1 (by kernel_rfl) (F364.ev (v := .slice Ab l.length cb) (by kernel_rfl)) (F364.ev (v := .int .i64 (↑l.length - 1)) (by kernel_rfl)) l.dropLast.length (by first | rfl | omega | (simp; done) | (simp; omega)) (by first | omega | (simp; done) | (simp; omega)) S24 (cs' := strs l.dropLast) (by simp [strs, List.dropLast_eq_take, List.map_take])) rfl rfl rfl ?_
                  rintro _ _ w365 ⟨rfl, rfl⟩ S365 a365 F365
                  refine op_p F365 (.slice Ab l.dropLast.length cb) (by kernel_rfl) rfl rfl rfl (by kernel_rfl) rfl ?_; intro a366 F366
                  refine wpList_nil ?_
                  refine hK33 _ _ ?_; clear hK33 K33
                  refine wp_region_lit ?_
                  refine op_p F366 (.int .i64 (↑i)) (by kernel_rfl) rfl rfl rfl (by kernel_rfl) rfl ?_; intro a367 F367
                  refine op_r (v := .int .i64 (↑(i + 1))) F367 (r_add (z := ↑(i + 1)) rfl (F367.ev (v := .int .i64 (↑i)) (by kernel_rfl)) (F367.ev (v := .int .i64 1) (by kernel_rfl)) (wr64 (by omega) (by omega) (by omega))) rfl rfl rfl ?_; intro a368 F368
                  refine op_p F368 (.int .i64 (↑(i + 1))) (by kernel_rfl) rfl rfl rfl (by kernel_rfl) rfl ?_; intro a369 F369
                  refine wpList_nil ?_
                  have hp : push ((↑s[0].toNat : Int) == 47) l (s.extract f i) = l.dropLast := by
                    unfold push; simp only [hc270, hc286, hc300, hc322, hll, if_pos hl0, Bool.false_eq_true, if_true, if_false]
                  have hxs : ∀ x ∈ push ((↑s[0].toNat : Int) == 47) l (s.extract f i), x.size ≤ s.size := push_all hx (by simp only [ByteArray.size_extract]; omega)
                  have hls : (push ((↑s[0].toNat : Int) == 47) l (s.extract f i)).length ≤ i + 1 := by have := push_len (r := ((↑s[0].toNat : Int) == 47)) (l := l) (p := s.extract f i); omega
                  rw [hp] at hxs hls
                  have hi2 : i = s.size := by omega
                  have he3 : l.dropLast = stk ((↑s[0].toNat : Int) == 47) s := by rw [← hp, hi2]; exact stk_last (fun j hj h1 => hno j hj h1 (by omega)) (he (by omega))
                  exact hK24 _ _ _ (by first | omega | (simp; omega)) ⟨Ab, cb, l.dropLast, i + 1, i + 1, s.size + 1, rfl, (F369.k 0 (by kernel_rfl) (F369.k 2 (by kernel_rfl) (F369.k 3 (by kernel_rfl) (F369.k 4 (by kernel_rfl) (F369.k 5 (by kernel_rfl) (F369.k 6 (by kernel_rfl) (F369.k 11 (by kernel_rfl) (F369.k 12 (by kernel_rfl) (F369.k 13 (by kernel_rfl) (F369.k 14 (by kernel_rfl) (F369.k 15 (by kernel_rfl) F369.nil))))))))))), S365, (by first | omega | (with_reducible assumption) | (simp; done)), (by first | omega | (with_reducible assumption) | (simp; done)), (by omega), (fun j hj h1 h2 => by omega), (fun h => by omega), (fun _ => he3), hls, hxs⟩
              · have hc308p := of_decide_eq_false hc308
                have F370 := F307.sb 55 (by kernel_rfl) hc308
                have F371 := F370.sb 56 (by kernel_rfl) hc308
                have F372 := F371.sb 57 (by kernel_rfl) hc308
                refine op_skip F372 (by kernel_rfl) rfl rfl rfl ?_; intro a373 F373
                refine op_skip F373 (by kernel_rfl) rfl rfl rfl ?_; intro a374 F374
                refine op_skip F374 (by kernel_rfl) rfl rfl rfl ?_; intro a375 F375
                refine op_skip F375 (by kernel_rfl) rfl rfl rfl ?_; intro a376 F376
                refine op_skip F376 (by kernel_rfl) rfl rfl rfl ?_; intro a377 F377
                refine op_skip F377 (by kernel_rfl) rfl rfl rfl ?_; intro a378 F378
                refine op_skip F378 (by kernel_rfl) rfl rfl rfl ?_; intro a379 F379
                refine op_p F379 (.bool false) (by kernel_rfl) rfl rfl rfl (by kernel_rfl) rfl ?_; intro a380 F380
                refine op_p F380 (.bool false) (by kernel_rfl) rfl rfl rfl (by kernel_rfl) rfl ?_; intro a381 F381
                refine wpList_nil ?_
                refine hK296 _ _ ?_; clear hK296 K296
                refine wp_cond_false (F381.ev (by kernel_rfl)) ?_
                refine wp_seq_k fun K382 hK382 => ?_
                refine wp_region_lit ?_
                refine op_p F381 (.string (s.extract f i)) (by kernel_rfl) rfl rfl rfl (by kernel_rfl) rfl ?_; intro a383 F383
                refine op_p F383 (.bool ((s.extract f i).toList == (⟨#[46, 46]⟩ : ByteArray).toList)) (by kernel_rfl) rfl rfl rfl (by kernel_rfl) rfl ?_; intro a384 F384
                have F385 := F384.sb 73 (by kernel_rfl) hc300
                refine op_p F385 (.bool true) (by kernel_rfl) rfl rfl rfl (by kernel_rfl) rfl ?_; intro a386 F386
                refine op_want F386 (by kernel_rfl) rfl ?_
                refine op_p F386 (.bool ((↑s[0].toNat : Int) == 47)) (by kernel_rfl) rfl rfl rfl (by kernel_rfl) rfl ?_; intro a387 F387
                refine op_p F387 (.bool ((↑s[0].toNat : Int) == 47)) (by kernel_rfl) rfl rfl rfl (by kernel_rfl) rfl ?_; intro a388 F388
                refine op_p F388 (.bool ((↑s[0].toNat : Int) == 47)) (by kernel_rfl) rfl rfl rfl (by kernel_rfl) rfl ?_; intro a389 F389
                refine wpList_nil ?_
                refine hK382 _ _ ?_; clear hK382 K382
                rcases btf ((↑s[0].toNat : Int) == 47) with hc390 | hc390
                · have hc390p := eq_of_beq hc390
                  have F391 := F389.sb 15 (by kernel_rfl) hc390
                  have F392 := F391.sb 3 (by kernel_rfl) hc390
                  have F393 := F392.sb 75 (by kernel_rfl) hc390
                  have F394 := F393.sb 76 (by kernel_rfl) hc390
                  have F395 := F394.sb 71 (by kernel_rfl) hc390
                  refine wp_cond_true (F395.ev (by kernel_rfl)) ?_
                  refine wp_skip ?_
                  refine hK33 _ _ ?_; clear hK33 K33
                  refine wp_region_lit ?_
                  refine op_p F395 (.int .i64 (↑i)) (by kernel_rfl) rfl rfl rfl (by kernel_rfl) rfl ?_; intro a396 F396
                  refine op_r (v := .int .i64 (↑(i + 1))) F396 (r_add (z := ↑(i + 1)) rfl (F396.ev (v := .int .i64 (↑i)) (by kernel_rfl)) (F396.ev (v := .int .i64 1) (by kernel_rfl)) (wr64 (by omega) (by omega) (by omega))) rfl rfl rfl ?_; intro a397 F397
                  refine op_p F397 (.int .i64 (↑(i + 1))) (by kernel_rfl) rfl rfl rfl (by kernel_rfl) rfl ?_; intro a398 F398
                  refine wpList_nil ?_
                  have hp : push ((↑s[0].toNat : Int) == 47) l (s.extract f i) = l := by
                    unfold push; simp only [hc270, hc286, hc300, hc390, if_neg (show ¬ 0 < l.length by omega), Bool.false_eq_true, if_true, if_false]
                  have hxs : ∀ x ∈ push ((↑s[0].toNat : Int) == 47) l (s.extract f i), x.size ≤ s.size := push_all hx (by simp only [ByteArray.size_extract]; omega)
                  have hls : (push ((↑s[0].toNat : Int) == 47) l (s.extract f i)).length ≤ i + 1 := by have := push_len (r := ((↑s[0].toNat : Int) == 47)) (l := l) (p := s.extract f i); omega
                  rw [hp] at hxs hls
                  have hi2 : i = s.size := by omega
                  have he3 : l = stk ((↑s[0].toNat : Int) == 47) s := by rw [← hp, hi2]; exact stk_last (fun j hj h1 => hno j hj h1 (by omega)) (he (by omega))
                  exact hK24 _ _ _ (by first | omega | (simp; omega)) ⟨Ab, cb, l, i + 1, i + 1, s.size + 1, rfl, (F398.k 0 (by kernel_rfl) (F398.k 2 (by kernel_rfl) (F398.k 3 (by rw [hc390]; kernel_rfl) (F398.k 4 (by kernel_rfl) (F398.k 5 (by kernel_rfl) (F398.k 6 (by kernel_rfl) (F398.k 11 (by kernel_rfl) (F398.k 12 (by kernel_rfl) (F398.k 13 (by kernel_rfl) (F398.k 14 (by kernel_rfl) (F398.k 15 (by rw [hc390]; kernel_rfl) F398.nil))))))))))), S24, (by first | omega | (with_reducible assumption) | (simp; done)), (by first | omega | (with_reducible assumption) | (simp; done)), (by omega), (fun j hj h1 h2 => by omega), (fun h => by omega), (fun _ => he3), hls, hxs⟩
                · have hc390p := ne_of_beq_false hc390
                  have F399 := F389.sb 15 (by kernel_rfl) hc390
                  have F400 := F399.sb 3 (by kernel_rfl) hc390
                  have F401 := F400.sb 75 (by kernel_rfl) hc390
                  have F402 := F401.sb 76 (by kernel_rfl) hc390
                  have F403 := F402.sb 71 (by kernel_rfl) hc390
                  refine wp_cond_false (F403.ev (by kernel_rfl)) ?_
                  refine wp_region_lit ?_
                  refine op_p F403 (.slice Ab l.length cb) (by kernel_rfl) rfl rfl rfl (by kernel_rfl) rfl ?_; intro a404 F404
                  refine op_p F404 (.string (s.extract f i)) (by kernel_rfl) rfl rfl rfl (by kernel_rfl) rfl ?_; intro a405 F405
                  refine op_s F405 (s_news F405 9 #[.string (s.extract f i)] 1 (by kernel_rfl) (by kernel_rfl) (by kernel_rfl) S24) rfl rfl rfl ?_
                  rintro _ _ w407 ⟨g405, rfl, rfl⟩ S407 a407 F407
                  refine op_s F407 (s_app rfl Try.underlying22 1 _ tin9 rfl rfl (F407.ev (v := .slice Ab l.length cb) (by kernel_rfl)) S407.p1 ([Value.string (s.extract f i)]) (F407.ev (v := .slice (some ⟨g405, 0, none⟩) 1 1) (by kernel_rfl)) ((S407.bk 0 rfl).sl (by simp)) rfl (by simp [Value.oneCell']) (by omega) (by omega) (n' := (l ++ [s.extract f i]).length) (by first | (simp; done) | (simp; omega)) (cs' := strs (l ++ [s.extract f i])) (by simp [strs])) rfl rfl rfl ?_
                  rintro _ _ w409 ⟨A408, c408, rfl, rfl⟩ S409 a409 F409
                  refine op_p F409 (.slice A408 ((l ++ [s.extract f i]).length) c408) (by kernel_rfl) rfl rfl rfl (by kernel_rfl) rfl ?_; intro a410 F410
                  refine wpList_nil ?_
                  refine hK33 _ _ ?_; clear hK33 K33
                  refine wp_region_lit ?_
                  refine op_p F410 (.int .i64 (↑i)) (by kernel_rfl) rfl rfl rfl (by kernel_rfl) rfl ?_; intro a411 F411
                  refine op_r (v := .int .i64 (↑(i + 1))) F411 (r_add (z := ↑(i + 1)) rfl (F411.ev (v := .int .i64 (↑i)) (by kernel_rfl)) (F411.ev (v := .int .i64 1) (by kernel_rfl)) (wr64 (by omega) (by omega) (by omega))) rfl rfl rfl ?_; intro a412 F412
                  refine op_p F412 (.int .i64 (↑(i + 1))) (by kernel_rfl) rfl rfl rfl (by kernel_rfl) rfl ?_; intro a413 F413
                  refine wpList_nil ?_
                  have hp : push ((↑s[0].toNat : Int) == 47) l (s.extract f i) = l ++ [s.extract f i] := by
                    unfold push; simp only [hc270, hc286, hc300, hc390, if_neg (show ¬ 0 < l.length by omega), Bool.false_eq_true, if_true, if_false]
                  have hxs : ∀ x ∈ push ((↑s[0].toNat : Int) == 47) l (s.extract f i), x.size ≤ s.size := push_all hx (by simp only [ByteArray.size_extract]; omega)
                  have hls : (push ((↑s[0].toNat : Int) == 47) l (s.extract f i)).length ≤ i + 1 := by have := push_len (r := ((↑s[0].toNat : Int) == 47)) (l := l) (p := s.extract f i); omega
                  rw [hp] at hxs hls
                  have hi2 : i = s.size := by omega
                  have he3 : l ++ [s.extract f i] = stk ((↑s[0].toNat : Int) == 47) s := by rw [← hp, hi2]; exact stk_last (fun j hj h1 => hno j hj h1 (by omega)) (he (by omega))
                  exact hK24 _ _ _ (by first | omega | (simp; omega)) ⟨A408, c408, l ++ [s.extract f i], i + 1, i + 1, s.size + 1, rfl, (F413.k 0 (by kernel_rfl) (F413.k 2 (by kernel_rfl) (F413.k 3 (by rw [hc390]; kernel_rfl) (F413.k 4 (by kernel_rfl) (F413.k 5 (by kernel_rfl) (F413.k 6 (by kernel_rfl) (F413.k 11 (by kernel_rfl) (F413.k 12 (by kernel_rfl) (F413.k 13 (by kernel_rfl) (F413.k 14 (by kernel_rfl) (F413.k 15 (by rw [hc390]; kernel_rfl) F413.nil))))))))))), S409.p1.drop, (by first | omega | (with_reducible assumption) | (simp; done)), (by first | omega | (with_reducible assumption) | (simp; done)), (by omega), (fun j hj h1 h2 => by omega), (fun h => by omega), (fun _ => he3), hls, hxs⟩
            · have F414 := F299.sb 51 (by kernel_rfl) hc300
              have F415 := F414.sb 52 (by kernel_rfl) hc300
              refine op_skip F415 (by kernel_rfl) rfl rfl rfl ?_; intro a416 F416
              refine op_skip F416 (by kernel_rfl) rfl rfl rfl ?_; intro a417 F417
              refine op_skip F417 (by kernel_rfl) rfl rfl rfl ?_; intro a418 F418
              refine op_p F418 (.bool false) (by kernel_rfl) rfl rfl rfl (by kernel_rfl) rfl ?_; intro a419 F419
              refine op_p F419 (.bool false) (by kernel_rfl) rfl rfl rfl (by kernel_rfl) rfl ?_; intro a420 F420
              refine op_skip F420 (by kernel_rfl) rfl rfl rfl ?_; intro a421 F421
              refine op_skip F421 (by kernel_rfl) rfl rfl rfl ?_; intro a422 F422
              refine op_skip F422 (by kernel_rfl) rfl rfl rfl ?_; intro a423 F423
              refine op_skip F423 (by kernel_rfl) rfl rfl rfl ?_; intro a424 F424
              refine op_skip F424 (by kernel_rfl) rfl rfl rfl ?_; intro a425 F425
              refine op_skip F425 (by kernel_rfl) rfl rfl rfl ?_; intro a426 F426
              refine op_skip F426 (by kernel_rfl) rfl rfl rfl ?_; intro a427 F427
              refine op_p F427 (.bool false) (by kernel_rfl) rfl rfl rfl (by kernel_rfl) rfl ?_; intro a428 F428
              refine op_p F428 (.bool false) (by kernel_rfl) rfl rfl rfl (by kernel_rfl) rfl ?_; intro a429 F429
              refine wpList_nil ?_
              refine hK296 _ _ ?_; clear hK296 K296
              refine wp_cond_false (F429.ev (by kernel_rfl)) ?_
              refine wp_seq_k fun K430 hK430 => ?_
              refine wp_region_lit ?_
              refine op_p F429 (.string (s.extract f i)) (by kernel_rfl) rfl rfl rfl (by kernel_rfl) rfl ?_; intro a431 F431
              refine op_p F431 (.bool ((s.extract f i).toList == (⟨#[46, 46]⟩ : ByteArray).toList)) (by kernel_rfl) rfl rfl rfl (by kernel_rfl) rfl ?_; intro a432 F432
              have F433 := F432.sb 73 (by kernel_rfl) hc300
              refine op_p F433 (.bool false) (by kernel_rfl) rfl rfl rfl (by kernel_rfl) rfl ?_; intro a434 F434
              refine op_skip F434 (by kernel_rfl) rfl rfl rfl ?_; intro a435 F435
              refine op_p F435 (.bool false) (by kernel_rfl) rfl rfl rfl (by kernel_rfl) rfl ?_; intro a436 F436
              refine op_p F436 (.bool false) (by kernel_rfl) rfl rfl rfl (by kernel_rfl) rfl ?_; intro a437 F437
              refine wpList_nil ?_
              refine hK430 _ _ ?_; clear hK430 K430
              refine wp_cond_false (F437.ev (by kernel_rfl)) ?_
              refine wp_region_lit ?_
              refine op_p F437 (.slice Ab l.length cb) (by kernel_rfl) rfl rfl rfl (by kernel_rfl) rfl ?_; intro a438 F438
              refine op_p F438 (.string (s.extract f i)) (by kernel_rfl) rfl rfl rfl (by kernel_rfl) rfl ?_; intro a439 F439
              refine op_s F439 (s_news F439 9 #[.string (s.extract f i)] 1 (by kernel_rfl) (by kernel_rfl) (by kernel_rfl) S24) rfl rfl rfl ?_
              rintro _ _ w441 ⟨g439, rfl, rfl⟩ S441 a441 F441
              refine op_s F441 (s_app rfl Try.underlying22 1 _ tin9 rfl rfl (F441.ev (v := .slice Ab l.length cb) (by kernel_rfl)) S441.p1 ([Value.string (s.extract f i)]) (F441.ev (v := .slice (some ⟨g439, 0, none⟩) 1 1) (by kernel_rfl)) ((S441.bk 0 rfl).sl (by simp)) rfl (by simp [Value.oneCell']) (by omega) (by omega) (n' := (l ++ [s.extract f i]).length) (by first | (simp; done) | (simp; omega)) (cs' := strs (l ++ [s.extract f i])) (by simp [strs])) rfl rfl rfl ?_
              rintro _ _ w443 ⟨A442, c442, rfl, rfl⟩ S443 a443 F443
              refine op_p F443 (.slice A442 ((l ++ [s.extract f i]).length) c442) (by kernel_rfl) rfl rfl rfl (by kernel_rfl) rfl ?_; intro a444 F444
              refine wpList_nil ?_
              refine hK33 _ _ ?_; clear hK33 K33
              refine wp_region_lit ?_
              refine op_p F444 (.int .i64 (↑i)) (by kernel_rfl) rfl rfl rfl (by kernel_rfl) rfl ?_; intro a445 F445
              refine op_r (v := .int .i64 (↑(i + 1))) F445 (r_add (z := ↑(i + 1)) rfl (F445.ev (v := .int .i64 (↑i)) (by kernel_rfl)) (F445.ev (v := .int .i64 1) (by kernel_rfl)) (wr64 (by omega) (by omega) (by omega))) rfl rfl rfl ?_; intro a446 F446
              refine op_p F446 (.int .i64 (↑(i + 1))) (by kernel_rfl) rfl rfl rfl (by kernel_rfl) rfl ?_; intro a447 F447
              refine wpList_nil ?_
              have hp : push ((↑s[0].toNat : Int) == 47) l (s.extract f i) = l ++ [s.extract f i] := by
                unfold push; simp only [hc270, hc286, hc300, Bool.false_eq_true, if_true, if_false]
              have hxs : ∀ x ∈ push ((↑s[0].toNat : Int) == 47) l (s.extract f i), x.size ≤ s.size := push_all hx (by simp only [ByteArray.size_extract]; omega)
              have hls : (push ((↑s[0].toNat : Int) == 47) l (s.extract f i)).length ≤ i + 1 := by have := push_len (r := ((↑s[0].toNat : Int) == 47)) (l := l) (p := s.extract f i); omega
              rw [hp] at hxs hls
              have hi2 : i = s.size := by omega
              have he3 : l ++ [s.extract f i] = stk ((↑s[0].toNat : Int) == 47) s := by rw [← hp, hi2]; exact stk_last (fun j hj h1 => hno j hj h1 (by omega)) (he (by omega))
              exact hK24 _ _ _ (by first | omega | (simp; omega)) ⟨A442, c442, l ++ [s.extract f i], i + 1, i + 1, s.size + 1, rfl, (F447.k 0 (by kernel_rfl) (F447.k 2 (by kernel_rfl) (F447.k 3 (by kernel_rfl) (F447.k 4 (by kernel_rfl) (F447.k 5 (by kernel_rfl) (F447.k 6 (by kernel_rfl) (F447.k 11 (by kernel_rfl) (F447.k 12 (by kernel_rfl) (F447.k 13 (by kernel_rfl) (F447.k 14 (by kernel_rfl) (F447.k 15 (by kernel_rfl) F447.nil))))))))))), S443.p1.drop, (by first | omega | (with_reducible assumption) | (simp; done)), (by first | omega | (with_reducible assumption) | (simp; done)), (by omega), (fun j hj h1 h2 => by omega), (fun h => by omega), (fun _ => he3), hls, hxs⟩
    · have hc31p := of_decide_eq_false hc31
      have F448 := F30.sb 19 (by kernel_rfl) hc31
      refine wp_cond_false (F448.ev (by kernel_rfl)) ?_
      refine wp_exit ?_
      refine ex_then ?_; clear hK25 K25
      refine ex_then ?_
      refine ex_in ?_
      refine hK21 _ _ ?_; clear hK21 K21
      refine wp_seq_k fun K449 hK449 => ?_
      refine wp_region_lit ?_
      refine op_p F448 (.string ⟨#[]⟩) (by kernel_rfl) rfl rfl rfl (by kernel_rfl) rfl ?_; intro a450 F450
      refine wpList_nil ?_
      refine hK449 _ _ ?_; clear hK449 K449
      refine wp_seq_k fun K451 hK451 => ?_
      refine wp_seq_k fun K452 hK452 => ?_
      refine wp_region_lit ?_
      refine op_p F450 (.slice Ab l.length cb) (by kernel_rfl) rfl rfl rfl (by kernel_rfl) rfl ?_; intro a453 F453
      refine op_p F453 (.int .i64 (↑l.length)) (by kernel_rfl) rfl rfl rfl (by kernel_rfl) rfl ?_; intro a454 F454
      refine op_p F454 (.int .i64 0) (by kernel_rfl) rfl rfl rfl (by kernel_rfl) rfl ?_; intro a455 F455
      refine wpList_nil ?_
      refine hK452 _ _ ?_; clear hK452 K452
      refine wp_block ?_
      have hst := he2 (by omega)
      have hx2 : ∀ x ∈ l, x.size ≤ 100000 := fun x hxm => by have := hx x hxm; omega
      refine fw_loop (fun m a' w' => ∃ k : Nat, ∃ o : ByteArray, l.length - k = m ∧ Fr 98 [] a' [(0, .string s), (2, .string ⟨#[]⟩), (3, .bool ((↑s[0].toNat : Int) == 47)), (4, .slice Ab l.length cb), (5, .int .i64 (↑f)), (6, .int .i64 (↑i)), (8, .string o), (11, .string s), (12, .bool false), (13, .string s), (14, .int .u8 (↑s[0].toNat)), (15, .bool ((↑s[0].toNat : Int) == 47)), (16, .int .i64 (↑i)), (17, .string s), (18, .int .i64 (↑s.size)), (19, .bool false), (77, .slice Ab l.length cb), (78, .int .i64 (↑l.length)), (79, .int .i64 (↑k))] ∧ Sp R w' (SA.own (.slice Ab l.length cb) 9 1 l.length (strs l) :: L) ∧ (k ≤ l.length) ∧ (o = joinF ⟨#[47]⟩ (l.take k))) _ ⟨0, ⟨#[]⟩, rfl, (F455.k 0 (by kernel_rfl) (F455.k 2 (by kernel_rfl) (F455.k 3 (by kernel_rfl) (F455.k 4 (by kernel_rfl) (F455.k 5 (by kernel_rfl) (F455.k 6 (by kernel_rfl) (F455.k 8 (by kernel_rfl) (F455.k 11 (by kernel_rfl) (F455.k 12 (by kernel_rfl) (F455.k 13 (by kernel_rfl) (F455.k 14 (by kernel_rfl) (F455.k 15 (by kernel_rfl) (F455.k 16 (by kernel_rfl) (F455.k 17 (by kernel_rfl) (F455.k 18 (by kernel_rfl) (F455.k 19 (by kernel_rfl) (F455.k 77 (by kernel_rfl) (F455.k 78 (by kernel_rfl) (F455.k 79 (by kernel_rfl) F455.nil))))))))))))))))))), S24, (by first | omega | (with_reducible assumption) | (simp; done)), rfl⟩ ?_
      rintro m456 a456 w456 ⟨k, o, hm456, F456, S456, hk, ho⟩ K456 hK456
      by_cases hlt_k : k < l.length
      · have hc_k : decide ((↑k : Int) < ↑l.length) = true := by first | (simp; done) | (simp; omega)
        have hjl := joinF_le (sep := ⟨#[47]⟩) (k := k) hx2
        have hxk := hx2 _ (List.getElem_mem hlt_k)
        have hkb : k * (100000 + (⟨#[47]⟩ : ByteArray).size) ≤ 100000 * 101000 := Nat.mul_le_mul (by omega) (by decide)
        obtain ⟨ad457, hA457⟩ := (own_sl1 (S456.ow 0 rfl) (by omega)).addr (by simp [strs, ptrs]; omega)
        refine wp_seq_k fun K458 hK458 => ?_
        refine wp_region_lit ?_
        refine op_p F456 (.bool (decide ((↑k : Int) < ↑l.length))) (by kernel_rfl) rfl rfl rfl (by kernel_rfl) rfl ?_; intro a459 F459
        have F460 := F459.sb 80 (by kernel_rfl) hc_k
        refine wpList_nil ?_
        refine hK458 _ _ ?_; clear hK458 K458
        refine wp_seq_k fun K461 hK461 => ?_
        refine wp_cond_true (F460.ev (by kernel_rfl)) ?_
        refine wp_skip ?_
        refine hK461 _ _ ?_; clear hK461 K461
        refine wp_seq_k fun K462 hK462 => ?_
        refine wp_block ?_
        refine wp_seq_k fun K463 hK463 => ?_
        refine wp_region_lit ?_
        refine op_p F460 (.int .i64 (↑k)) (by kernel_rfl) rfl rfl rfl (by kernel_rfl) rfl ?_; intro a464 F464
        refine op_r (v := .pointer (some (ad457.add k))) F464 (r_ix rfl Try.underlying22 1 (by kernel_rfl) (F464.ev (v := .slice Ab l.length cb) (by kernel_rfl)) hA457 (F464.ev (v := .int .i64 (↑k)) (by kernel_rfl)) k (by first | rfl | omega | simp) (by first | omega | (simp; done) | (simp; omega)) (by simp only [Nat.mul_one])) rfl rfl rfl ?_; intro a465 F465
        refine op_r (v := .string l[k]) F465 (r_ld rfl (F465.ev (v := .pointer (some (ad457.add k))) (by kernel_rfl)) (v := .string l[k]) ((own_sl1 (S456.ow 0 rfl) (by omega)).elA hA457 (j := k) (by simp [strs, hlt_k])) Try.underlying9 rfl) rfl rfl rfl ?_; intro a466 F466
        refine op_p F466 (.int .i64 (↑k)) (by kernel_rfl) rfl rfl rfl (by kernel_rfl) rfl ?_; intro a467 F467
        refine op_p F467 (.string l[k]) (by kernel_rfl) rfl rfl rfl (by kernel_rfl) rfl ?_; intro a468 F468
        refine wpList_nil ?_
        refine hK463 _ _ ?_; clear hK463 K463
        refine wp_seq_k fun K469 hK469 => ?_
        refine wp_seq_k fun K470 hK470 => ?_
        refine wp_region_lit ?_
        refine op_p F468 (.int .i64 (↑k)) (by kernel_rfl) rfl rfl rfl (by kernel_rfl) rfl ?_; intro a471 F471
        refine op_p F471 (.bool (decide ((0 : Int) < ↑k))) (by kernel_rfl) rfl rfl rfl (by kernel_rfl) rfl ?_; intro a472 F472
        refine wpList_nil ?_
        refine hK470 _ _ ?_; clear hK470 K470
        rcases btf (decide ((0 : Int) < ↑k)) with hc473 | hc473
        · have hc473p := of_decide_eq_true hc473
          have F474 := F472.sb 85 (by kernel_rfl) hc473
          refine wp_cond_true (F474.ev (by kernel_rfl)) ?_
          refine wp_region_lit ?_
          refine op_p F474 (.string o) (by kernel_rfl) rfl rfl rfl (by kernel_rfl) rfl ?_; intro a475 F475
          refine op_r (v := .string (o ++ (⟨#[47]⟩ : ByteArray))) F475 (r_sadd rfl (F475.ev (v := .string o) (by kernel_rfl)) (F475.ev (v := .string ⟨#[47]⟩) (by kernel_rfl)) (by show o.size + 1 ≤ 9223372036854775807; first | omega | (subst ho; first | omega | (rw [ByteArray.size_append]; show _ + 1 + _ ≤ _; omega)) | (have hjl := joinF_le (sep := ⟨#[47]⟩) (k := l.length) hx2; rw [← hst] at hoo; subst hoo; have hkb : l.length * (100000 + (⟨#[47]⟩ : ByteArray).size) ≤ 100000 * 101000 := Nat.mul_le_mul (by omega) (by decide); rw [List.take_length] at hjl; omega))) rfl rfl rfl ?_; intro a476 F476
          refine op_p F476 (.string (o ++ (⟨#[47]⟩ : ByteArray))) (by kernel_rfl) rfl rfl rfl (by kernel_rfl) rfl ?_; intro a477 F477
          refine wpList_nil ?_
          refine hK469 _ _ ?_; clear hK469 K469
          refine wp_region_lit ?_
          refine op_p F477 (.string (o ++ (⟨#[47]⟩ : ByteArray))) (by kernel_rfl) rfl rfl rfl (by kernel_rfl) rfl ?_; intro a478 F478
          refine op_p F478 (.string l[k]) (by kernel_rfl) rfl rfl rfl (by kernel_rfl) rfl ?_; intro a479 F479
          refine op_r (v := .string ((o ++ (⟨#[47]⟩ : ByteArray)) ++ l[k])) F479 (r_sadd rfl (F479.ev (v := .string (o ++ (⟨#[47]⟩ : ByteArray))) (by kernel_rfl)) (F479.ev (v := .string l[k]) (by kernel_rfl)) (by show (o ++ (⟨#[47]⟩ : ByteArray)).size + l[k].size ≤ 9223372036854775807; first | omega | (subst ho; first | omega | (rw [ByteArray.size_append]; show _ + 1 + _ ≤ _; omega)) | (have hjl := joinF_le (sep := ⟨#[47]⟩) (k := l.length) hx2; rw [← hst] at hoo; subst hoo; have hkb : l.length * (100000 + (⟨#[47]⟩ : ByteArray).size) ≤ 100000 * 101000 := Nat.mul_le_mul (by omega) (by decide); rw [List.take_length] at hjl; omega))) rfl rfl rfl ?_; intro a480 F480
          refine op_p F480 (.string ((o ++ (⟨#[47]⟩ : ByteArray)) ++ l[k])) (by kernel_rfl) rfl rfl rfl (by kernel_rfl) rfl ?_; intro a481 F481
          refine wpList_nil ?_
          refine hK462 _ _ ?_; clear hK462 K462
          refine wp_region_lit ?_
          refine op_r (v := .int .i64 (↑(k + 1))) F481 (r_add (z := ↑(k + 1)) rfl (F481.ev (v := .int .i64 (↑k)) (by kernel_rfl)) (F481.ev (v := .int .i64 1) (by kernel_rfl)) (wr64 (by omega) (by omega) (by omega))) rfl rfl rfl ?_; intro a482 F482
          refine op_p F482 (.int .i64 (↑(k + 1))) (by kernel_rfl) rfl rfl rfl (by kernel_rfl) rfl ?_; intro a483 F483
          refine wpList_nil ?_
          exact hK456 _ _ _ (by first | omega | (simp; omega)) ⟨k + 1, ((o ++ (⟨#[47]⟩ : ByteArray)) ++ l[k]), rfl, (F483.k 0 (by kernel_rfl) (F483.k 2 (by kernel_rfl) (F483.k 3 (by kernel_rfl) (F483.k 4 (by kernel_rfl) (F483.k 5 (by kernel_rfl) (F483.k 6 (by kernel_rfl) (F483.k 8 (by kernel_rfl) (F483.k 11 (by kernel_rfl) (F483.k 12 (by kernel_rfl) (F483.k 13 (by kernel_rfl) (F483.k 14 (by kernel_rfl) (F483.k 15 (by kernel_rfl) (F483.k 16 (by kernel_rfl) (F483.k 17 (by kernel_rfl) (F483.k 18 (by kernel_rfl) (F483.k 19 (by kernel_rfl) (F483.k 77 (by kernel_rfl) (F483.k 78 (by kernel_rfl) (F483.k 79 (by kernel_rfl) F483.nil))))))))))))))))))), S456, (by first | omega | (with_reducible assumption) | (simp; done)), (by subst ho; exact (joinF_take ⟨#[47]⟩ l k hlt_k (by omega)).symm)⟩
        · have hc473p := of_decide_eq_false hc473
          have F484 := F472.sb 85 (by kernel_rfl) hc473
          refine wp_cond_false (F484.ev (by kernel_rfl)) ?_
          refine wp_skip ?_
          refine hK469 _ _ ?_; clear hK469 K469
          refine wp_region_lit ?_
          refine op_p F484 (.string o) (by kernel_rfl) rfl rfl rfl (by kernel_rfl) rfl ?_; intro a485 F485
          refine op_p F485 (.string l[k]) (by kernel_rfl) rfl rfl rfl (by kernel_rfl) rfl ?_; intro a486 F486
          refine op_r (v := .string (o ++ l[k])) F486 (r_sadd rfl (F486.ev (v := .string o) (by kernel_rfl)) (F486.ev (v := .string l[k]) (by kernel_rfl)) (by show o.size + l[k].size ≤ 9223372036854775807; first | omega | (subst ho; first | omega | (rw [ByteArray.size_append]; show _ + 1 + _ ≤ _; omega)) | (have hjl := joinF_le (sep := ⟨#[47]⟩) (k := l.length) hx2; rw [← hst] at hoo; subst hoo; have hkb : l.length * (100000 + (⟨#[47]⟩ : ByteArray).size) ≤ 100000 * 101000 := Nat.mul_le_mul (by omega) (by decide); rw [List.take_length] at hjl; omega))) rfl rfl rfl ?_; intro a487 F487
          refine op_p F487 (.string (o ++ l[k])) (by kernel_rfl) rfl rfl rfl (by kernel_rfl) rfl ?_; intro a488 F488
          refine wpList_nil ?_
          refine hK462 _ _ ?_; clear hK462 K462
          refine wp_region_lit ?_
          refine op_r (v := .int .i64 (↑(k + 1))) F488 (r_add (z := ↑(k + 1)) rfl (F488.ev (v := .int .i64 (↑k)) (by kernel_rfl)) (F488.ev (v := .int .i64 1) (by kernel_rfl)) (wr64 (by omega) (by omega) (by omega))) rfl rfl rfl ?_; intro a489 F489
          refine op_p F489 (.int .i64 (↑(k + 1))) (by kernel_rfl) rfl rfl rfl (by kernel_rfl) rfl ?_; intro a490 F490
          refine wpList_nil ?_
          exact hK456 _ _ _ (by first | omega | (simp; omega)) ⟨k + 1, (o ++ l[k]), rfl, (F490.k 0 (by kernel_rfl) (F490.k 2 (by kernel_rfl) (F490.k 3 (by kernel_rfl) (F490.k 4 (by kernel_rfl) (F490.k 5 (by kernel_rfl) (F490.k 6 (by kernel_rfl) (F490.k 8 (by kernel_rfl) (F490.k 11 (by kernel_rfl) (F490.k 12 (by kernel_rfl) (F490.k 13 (by kernel_rfl) (F490.k 14 (by kernel_rfl) (F490.k 15 (by kernel_rfl) (F490.k 16 (by kernel_rfl) (F490.k 17 (by kernel_rfl) (F490.k 18 (by kernel_rfl) (F490.k 19 (by kernel_rfl) (F490.k 77 (by kernel_rfl) (F490.k 78 (by kernel_rfl) (F490.k 79 (by kernel_rfl) F490.nil))))))))))))))))))), S456, (by first | omega | (with_reducible assumption) | (simp; done)), (by subst ho; exact joinF_one hlt_k (by omega))⟩
      · have hc_k : decide ((↑k : Int) < ↑l.length) = false := by first | (simp; done) | (simp; omega)
        have hoo : o = joinF ⟨#[47]⟩ (stk ((↑s[0].toNat : Int) == 47) s) := by rw [ho, List.take_of_length_le (by omega), hst]
        refine wp_seq_k fun K491 hK491 => ?_
        refine wp_region_lit ?_
        refine op_p F456 (.bool (decide ((↑k : Int) < ↑l.length))) (by kernel_rfl) rfl rfl rfl (by kernel_rfl) rfl ?_; intro a492 F492
        have F493 := F492.sb 80 (by kernel_rfl) hc_k
        refine wpList_nil ?_
        refine hK491 _ _ ?_; clear hK491 K491
        refine wp_seq_k fun K494 hK494 => ?_
        refine wp_cond_false (F493.ev (by kernel_rfl)) ?_
        refine wp_exit ?_
        refine ex_then ?_; clear hK494 K494
        refine ex_then ?_
        refine ex_in ?_
        refine hK451 _ _ ?_; clear hK451 K451
        refine wp_seq_k fun K495 hK495 => ?_
        refine wp_seq_k fun K496 hK496 => ?_
        refine wp_region_lit ?_
        refine op_p F493 (.bool ((↑s[0].toNat : Int) == 47)) (by kernel_rfl) rfl rfl rfl (by kernel_rfl) rfl ?_; intro a497 F497
        refine wpList_nil ?_
        refine hK496 _ _ ?_; clear hK496 K496
        rcases btf ((↑s[0].toNat : Int) == 47) with hc498 | hc498
        · have hc498p := eq_of_beq hc498
          have F499 := F497.sb 15 (by kernel_rfl) hc498
          have F500 := F499.sb 3 (by kernel_rfl) hc498
          have F501 := F500.sb 92 (by kernel_rfl) hc498
          refine wp_cond_true (F501.ev (by kernel_rfl)) ?_
          refine wp_seq_k fun K502 hK502 => ?_
          refine wp_region_lit ?_
          refine op_p F501 (.string o) (by kernel_rfl) rfl rfl rfl (by kernel_rfl) rfl ?_; intro a503 F503
          refine op_r (v := .string ((⟨#[47]⟩ : ByteArray) ++ o)) F503 (r_sadd rfl (F503.ev (v := .string ⟨#[47]⟩) (by kernel_rfl)) (F503.ev (v := .string o) (by kernel_rfl)) (by show 1 + o.size ≤ 9223372036854775807; first | omega | (subst ho; first | omega | (rw [ByteArray.size_append]; show _ + 1 + _ ≤ _; omega)) | (have hjl := joinF_le (sep := ⟨#[47]⟩) (k := l.length) hx2; rw [← hst] at hoo; subst hoo; have hkb : l.length * (100000 + (⟨#[47]⟩ : ByteArray).size) ≤ 100000 * 101000 := Nat.mul_le_mul (by omega) (by decide); rw [List.take_length] at hjl; omega))) rfl rfl rfl ?_; intro a504 F504
          refine op_p F504 (.string ((⟨#[47]⟩ : ByteArray) ++ o)) (by kernel_rfl) rfl rfl rfl (by kernel_rfl) rfl ?_; intro a505 F505
          refine wpList_nil ?_
          refine hK502 _ _ ?_; clear hK502 K502
          refine wp_ret ?_
          refine ret_then ?_
          refine (F505.res1 rfl (v := .string ((⟨#[47]⟩ : ByteArray) ++ o)) (by kernel_rfl) ?_).1
          exact ⟨(ret_str (by rw [hoo, hc498, cleanP_r hc7 hpos hc498])), S456.drop⟩
        · have hc498p := ne_of_beq_false hc498
          have F506 := F497.sb 15 (by kernel_rfl) hc498
          have F507 := F506.sb 3 (by kernel_rfl) hc498
          have F508 := F507.sb 92 (by kernel_rfl) hc498
          refine wp_cond_false (F508.ev (by kernel_rfl)) ?_
          refine wp_skip ?_
          refine hK495 _ _ ?_; clear hK495 K495
          refine wp_seq_k fun K509 hK509 => ?_
          refine wp_seq_k fun K510 hK510 => ?_
          refine wp_region_lit ?_
          refine op_p F508 (.string o) (by kernel_rfl) rfl rfl rfl (by kernel_rfl) rfl ?_; intro a511 F511
          refine op_p F511 (.bool (o.toList == (⟨#[]⟩ : ByteArray).toList)) (by kernel_rfl) rfl rfl rfl (by kernel_rfl) rfl ?_; intro a512 F512
          refine wpList_nil ?_
          refine hK510 _ _ ?_; clear hK510 K510
          rcases btf (o.toList == (⟨#[]⟩ : ByteArray).toList) with hc513 | hc513
          · have F514 := F512.sb 96 (by kernel_rfl) hc513
            refine wp_cond_true (F514.ev (by kernel_rfl)) ?_
            refine wp_seq_k fun K515 hK515 => ?_
            refine wp_region_lit ?_
            refine op_p F514 (.string ⟨#[46]⟩) (by kernel_rfl) rfl rfl rfl (by kernel_rfl) rfl ?_; intro a516 F516
            refine wpList_nil ?_
            refine hK515 _ _ ?_; clear hK515 K515
            refine wp_ret ?_
            refine ret_then ?_
            refine (F516.res1 rfl (v := .string ⟨#[46]⟩) (by kernel_rfl) ?_).1
            exact ⟨(ret_str (by rw [hoo, hc498] at hc513; rw [cleanP_e hc7 hpos hc498 hc513])), S456.drop⟩
          · have F517 := F512.sb 96 (by kernel_rfl) hc513
            refine wp_cond_false (F517.ev (by kernel_rfl)) ?_
            refine wp_skip ?_
            refine hK509 _ _ ?_; clear hK509 K509
            refine wp_seq_k fun K518 hK518 => ?_
            refine wp_region_lit ?_
            refine op_p F517 (.string o) (by kernel_rfl) rfl rfl rfl (by kernel_rfl) rfl ?_; intro a519 F519
            refine op_p F519 (.string o) (by kernel_rfl) rfl rfl rfl (by kernel_rfl) rfl ?_; intro a520 F520
            refine wpList_nil ?_
            refine hK518 _ _ ?_; clear hK518 K518
            refine wp_ret ?_
            refine (F520.res1 rfl (v := .string o) (by kernel_rfl) ?_).1
            exact ⟨(ret_str (by rw [hoo, hc498] at hc513; rw [hoo, hc498]; rw [cleanP_n hc7 hpos hc498 hc513])), S456.drop⟩
end Go.Proofs.Ytkjcedlgljeoiaa

/- JoinPath, HlJoin, HlURL. -/
namespace Go.Proofs.Ytkjcedlgljeoiaa
open Go.RowKit Go.Lib
set_option linter.unusedVariables false
set_option linter.unusedSimpArgs false
def neB (s : ByteArray) : Bool := !(s.toList == (⟨#[]⟩ : ByteArray).toList)
def neL (xs : List ByteArray) : List ByteArray := xs.filter neB
theorem neL_yes {xs : List ByteArray} {k : Nat} (h : k < xs.length) (e : (xs[k].toList == (⟨#[]⟩ : ByteArray).toList) = false) : neL (xs.take (k + 1)) = neL (xs.take k) ++ [xs[k]] := by
  unfold neL; rw [take_snoc h, List.filter_append]; simp only [List.filter_cons, neB, e, List.filter_nil, Bool.not_false, if_true]
theorem neL_no {xs : List ByteArray} {k : Nat} (h : k < xs.length) (e : (xs[k].toList == (⟨#[]⟩ : ByteArray).toList) = true) : neL (xs.take (k + 1)) = neL (xs.take k) := by
  unfold neL; rw [take_snoc h, List.filter_append]; simp only [List.filter_cons, neB, e, List.filter_nil, Bool.not_true, Bool.false_eq_true, if_false, List.append_nil]
theorem joinF_grow {sep x : ByteArray} {l : List ByteArray} (h : l ≠ []) : joinF sep (l ++ [x]) = joinF sep l ++ sep ++ x := joinF_snoc sep x l h
theorem neL_size {xs : List ByteArray} {n k : Nat} (h : ∀ x ∈ xs, x.size ≤ n) : (joinF ⟨#[47]⟩ (neL (xs.take k))).size ≤ k * (n + 1) := by
  have h1 := joinF_le (sep := ⟨#[47]⟩) (xs := neL (xs.take k)) (n := n) (k := (neL (xs.take k)).length) fun x hx => h x (List.mem_of_mem_take (List.mem_filter.1 hx).1)
  rw [List.take_length] at h1
  have h2 : (neL (xs.take k)).length ≤ k := Nat.le_trans (List.length_filter_le _ _) (List.length_take_le _ _)
  have h3 : (⟨#[47]⟩ : ByteArray).size = 1 := rfl
  rw [h3] at h1
  exact Nat.le_trans h1 (Nat.mul_le_mul_right _ h2)
def joinP (xs : List ByteArray) : ByteArray := if neL xs = [] then ⟨#[]⟩ else cleanP (joinF ⟨#[47]⟩ (neL xs))
theorem joinP_e {xs : List ByteArray} (h : neL xs = []) : joinP xs = ⟨#[]⟩ := if_pos h
theorem joinP_n {xs : List ByteArray} (h : neL xs ≠ []) : joinP xs = cleanP (joinF ⟨#[47]⟩ (neL xs)) := if_neg h
theorem joinF_nil2 {xs : List ByteArray} (h : neL xs = []) : joinF ⟨#[47]⟩ (neL xs) = ⟨#[]⟩ := by rw [h]; rfl
theorem emp_app2 (x : ByteArray) : (⟨#[]⟩ : ByteArray) ++ x = joinF ⟨#[47]⟩ ([] ++ [x]) := by show _ = x; apply ByteArray.ext; simp [ByteArray.data_append]
set_option maxRecDepth 100000 in
set_option maxHeartbeats 20000000 in
theorem joinPath_any (A : Option Addr) (c : Nat) (xs : List ByteArray) (R : Ctx) (L : List SA) (w : World) (S : Sp R w (L)) (h0 : Rf R L fun w => Sl w (A) (strs xs)) (hn : xs.length ≤ 30) (hx : ∀ x ∈ xs, x.size ≤ 300) :
    Calls Try.prog 148 #[.slice (A) (xs.length) (c)] w fun e w' => e = .returned (.string (joinP xs)) ∧ Sp R w' (L) := by
  have hl_xs : xs.length ≤ 9223372036854775807 := by have := (h0 _ S).1; simpa [strs, ptrs] using this
  refine fw_enter (fn := Try.f148) rfl rfl 26 rfl (Nat.le_of_ble_eq_true rfl) ?_
  intro a0 F0
  refine wp_seq_k fun K1 hK1 => ?_
  refine wp_region_lit ?_
  refine op_p F0 (.string ⟨#[]⟩) (by kernel_rfl) rfl rfl rfl (by kernel_rfl) rfl ?_; intro a2 F2
  refine wpList_nil ?_
  refine hK1 _ _ ?_; clear hK1 K1
  refine wp_seq_k fun K3 hK3 => ?_
  refine wp_region_lit ?_
  refine op_p F2 (.string ⟨#[]⟩) (by kernel_rfl) rfl rfl rfl (by kernel_rfl) rfl ?_; intro a4 F4
  refine op_p F4 (.bool false) (by kernel_rfl) rfl rfl rfl (by kernel_rfl) rfl ?_; intro a5 F5
  refine wpList_nil ?_
  refine hK3 _ _ ?_; clear hK3 K3
  refine wp_seq_k fun K6 hK6 => ?_
  refine wp_seq_k fun K7 hK7 => ?_
  refine wp_region_lit ?_
  refine op_p F5 (.slice (A) (xs.length) (c)) (by kernel_rfl) rfl rfl rfl (by kernel_rfl) rfl ?_; intro a8 F8
  refine op_p F8 (.int .i64 (↑xs.length)) (by kernel_rfl) rfl rfl rfl (by kernel_rfl) rfl ?_; intro a9 F9
  refine op_p F9 (.int .i64 0) (by kernel_rfl) rfl rfl rfl (by kernel_rfl) rfl ?_; intro a10 F10
  refine wpList_nil ?_
  refine hK7 _ _ ?_; clear hK7 K7
  refine wp_block ?_
  refine fw_loop (fun m a' w' => ∃ k : Nat, ∃ o : ByteArray, ∃ sm : Bool, xs.length - k = m ∧ Fr 26 [] a' [(0, .slice (A) (xs.length) (c)), (2, .string ⟨#[]⟩), (3, .string o), (4, .bool sm), (7, .slice (A) (xs.length) (c)), (8, .int .i64 (↑xs.length)), (9, .int .i64 (↑k))] ∧ Sp R w' (L) ∧ (k ≤ xs.length) ∧ (o = joinF ⟨#[47]⟩ (neL (xs.take k))) ∧ (sm = true ↔ neL (xs.take k) ≠ [])) _ ⟨0, ⟨#[]⟩, false, rfl, (F10.k 0 (by kernel_rfl) (F10.k 2 (by kernel_rfl) (F10.k 3 (by kernel_rfl) (F10.k 4 (by kernel_rfl) (F10.k 7 (by kernel_rfl) (F10.k 8 (by kernel_rfl) (F10.k 9 (by kernel_rfl) F10.nil))))))), S, (by first | omega | (with_reducible assumption) | (simp; done)), rfl, (by simp [neL])⟩ ?_
  rintro m11 a11 w11 ⟨k, o, sm, hm11, F11, S11, hk, ho, hsm⟩ K11 hK11
  by_cases hlt_k : k < xs.length
  · have hc_k : decide ((↑k : Int) < ↑xs.length) = true := by first | (simp; done) | (simp; omega)
    have hxk := hx _ (List.getElem_mem hlt_k)
    have hjl := neL_size (k := k) hx
    rw [← ho] at hjl
    obtain ⟨ad12, hA12⟩ := (h0 _ S11).addr (by simp [strs, ptrs]; omega)
    refine wp_seq_k fun K13 hK13 => ?_
    refine wp_region_lit ?_
    refine op_p F11 (.bool (decide ((↑k : Int) < ↑xs.length))) (by kernel_rfl) rfl rfl rfl (by kernel_rfl) rfl ?_; intro a14 F14
    have F15 := F14.sb 10 (by kernel_rfl) hc_k
    refine wpList_nil ?_
    refine hK13 _ _ ?_; clear hK13 K13
    refine wp_seq_k fun K16 hK16 => ?_
    refine wp_cond_true (F15.ev (by kernel_rfl)) ?_
    refine wp_skip ?_
    refine hK16 _ _ ?_; clear hK16 K16
    refine wp_seq_k fun K17 hK17 => ?_
    refine wp_block ?_
    refine wp_seq_k fun K18 hK18 => ?_
    refine wp_region_lit ?_
    refine op_r (v := .pointer (some (ad12.add k))) F15 (r_ix rfl Try.underlying22 1 (by kernel_rfl) (F15.ev (v := .slice (A) (xs.length) (c)) (by kernel_rfl)) hA12 (F15.ev (v := .int .i64 (↑k)) (by kernel_rfl)) k (by first | rfl | omega | simp) (by first | omega | (simp; done) | (simp; omega)) (by simp only [Nat.mul_one])) rfl rfl rfl ?_; intro a19 F19
    refine op_r (v := .string xs[k]) F19 (r_ld rfl (F19.ev (v := .pointer (some (ad12.add k))) (by kernel_rfl)) (v := .string xs[k]) ((h0 _ S11).elA hA12 (j := k) (by simp [strs, hlt_k])) Try.underlying9 rfl) rfl rfl rfl ?_; intro a20 F20
    refine op_p F20 (.string xs[k]) (by kernel_rfl) rfl rfl rfl (by kernel_rfl) rfl ?_; intro a21 F21
    refine wpList_nil ?_
    refine hK18 _ _ ?_; clear hK18 K18
    refine wp_seq_k fun K22 hK22 => ?_
    refine wp_seq_k fun K23 hK23 => ?_
    refine wp_region_lit ?_
    refine op_p F21 (.string xs[k]) (by kernel_rfl) rfl rfl rfl (by kernel_rfl) rfl ?_; intro a24 F24
    refine op_p F24 (.bool (xs[k].toList == (⟨#[]⟩ : ByteArray).toList)) (by kernel_rfl) rfl rfl rfl (by kernel_rfl) rfl ?_; intro a25 F25
    refine wpList_nil ?_
    refine hK23 _ _ ?_; clear hK23 K23
    rcases btf (xs[k].toList == (⟨#[]⟩ : ByteArray).toList) with hc26 | hc26
    · have F27 := F25.sb 14 (by kernel_rfl) hc26
      refine wp_cond_true (F27.ev (by kernel_rfl)) ?_
      refine wp_exit ?_
      refine ex_then ?_; clear hK22 K22
      refine ex_in ?_
      refine hK17 _ _ ?_; clear hK17 K17
      refine wp_region_lit ?_
      refine op_r (v := .int .i64 (↑(k + 1))) F27 (r_add (z := ↑(k + 1)) rfl (F27.ev (v := .int .i64 (↑k)) (by kernel_rfl)) (F27.ev (v := .int .i64 1) (by kernel_rfl)) (wr64 (by omega) (by omega) (by omega))) rfl rfl rfl ?_; intro a28 F28
      refine op_p F28 (.int .i64 (↑(k + 1))) (by kernel_rfl) rfl rfl rfl (by kernel_rfl) rfl ?_; intro a29 F29
      refine wpList_nil ?_
      exact hK11 _ _ _ (by first | omega | (simp; omega)) ⟨k + 1, o, sm, rfl, (F29.k 0 (by kernel_rfl) (F29.k 2 (by kernel_rfl) (F29.k 3 (by kernel_rfl) (F29.k 4 (by kernel_rfl) (F29.k 7 (by kernel_rfl) (F29.k 8 (by kernel_rfl) (F29.k 9 (by kernel_rfl) F29.nil))))))), S11, (by first | omega | (with_reducible assumption) | (simp; done)), (by rw [neL_no hlt_k hc26]; exact ho), (by rw [neL_no hlt_k hc26]; exact hsm)⟩
    · have F30 := F25.sb 14 (by kernel_rfl) hc26
      refine wp_cond_false (F30.ev (by kernel_rfl)) ?_
      refine wp_skip ?_
      refine hK22 _ _ ?_; clear hK22 K22
      refine wp_seq_k fun K31 hK31 => ?_
      refine wp_seq_k fun K32 hK32 => ?_
      refine wp_region_lit ?_
      refine op_p F30 (.bool sm) (by kernel_rfl) rfl rfl rfl (by kernel_rfl) rfl ?_; intro a33 F33
      refine wpList_nil ?_
      refine hK32 _ _ ?_; clear hK32 K32
      rcases btf (sm) with hc34 | hc34
      · have F35 := F33.sb 4 (by kernel_rfl) hc34
        have F36 := F35.sb 15 (by kernel_rfl) hc34
        refine wp_cond_true (F36.ev (by kernel_rfl)) ?_
        refine wp_region_lit ?_
        refine op_p F36 (.string o) (by kernel_rfl) rfl rfl rfl (by kernel_rfl) rfl ?_; intro a37 F37
        refine op_r (v := .string (o ++ (⟨#[47]⟩ : ByteArray))) F37 (r_sadd rfl (F37.ev (v := .string o) (by kernel_rfl)) (F37.ev (v := .string ⟨#[47]⟩) (by kernel_rfl)) (by show o.size + 1 ≤ 9223372036854775807; first | omega | (rw [ByteArray.size_append]; show _ + 1 + _ ≤ _; omega))) rfl rfl rfl ?_; intro a38 F38
        refine op_p F38 (.string (o ++ (⟨#[47]⟩ : ByteArray))) (by kernel_rfl) rfl rfl rfl (by kernel_rfl) rfl ?_; intro a39 F39
        refine wpList_nil ?_
        refine hK31 _ _ ?_; clear hK31 K31
        refine wp_region_lit ?_
        refine op_p F39 (.string (o ++ (⟨#[47]⟩ : ByteArray))) (by kernel_rfl) rfl rfl rfl (by kernel_rfl) rfl ?_; intro a40 F40
        refine op_p F40 (.string xs[k]) (by kernel_rfl) rfl rfl rfl (by kernel_rfl) rfl ?_; intro a41 F41
        refine op_r (v := .string ((o ++ (⟨#[47]⟩ : ByteArray)) ++ xs[k])) F41 (r_sadd rfl (F41.ev (v := .string (o ++ (⟨#[47]⟩ : ByteArray))) (by kernel_rfl)) (F41.ev (v := .string xs[k]) (by kernel_rfl)) (by show (o ++ (⟨#[47]⟩ : ByteArray)).size + xs[k].size ≤ 9223372036854775807; first | omega | (rw [ByteArray.size_append]; show _ + 1 + _ ≤ _; omega))) rfl rfl rfl ?_; intro a42 F42
        refine op_p F42 (.string ((o ++ (⟨#[47]⟩ : ByteArray)) ++ xs[k])) (by kernel_rfl) rfl rfl rfl (by kernel_rfl) rfl ?_; intro a43 F43
        refine op_p F43 (.bool true) (by kernel_rfl) rfl rfl rfl (by kernel_rfl) rfl ?_; intro a44 F44
        refine wpList_nil ?_
        refine hK17 _ _ ?_; clear hK17 K17
        refine wp_region_lit ?_
        refine op_r (v := .int .i64 (↑(k + 1))) F44 (r_add (z := ↑(k + 1)) rfl (F44.ev (v := .int .i64 (↑k)) (by kernel_rfl)) (F44.ev (v := .int .i64 1) (by kernel_rfl)) (wr64 (by omega) (by omega) (by omega))) rfl rfl rfl ?_; intro a45 F45
        refine op_p F45 (.int .i64 (↑(k + 1))) (by kernel_rfl) rfl rfl rfl (by kernel_rfl) rfl ?_; intro a46 F46
        refine wpList_nil ?_
        exact hK11 _ _ _ (by first | omega | (simp; omega)) ⟨k + 1, ((o ++ (⟨#[47]⟩ : ByteArray)) ++ xs[k]), true, rfl, (F46.k 0 (by kernel_rfl) (F46.k 2 (by kernel_rfl) (F46.k 3 (by kernel_rfl) (F46.k 4 (by rw [hc34]; kernel_rfl) (F46.k 7 (by kernel_rfl) (F46.k 8 (by kernel_rfl) (F46.k 9 (by kernel_rfl) F46.nil))))))), S11, (by first | omega | (with_reducible assumption) | (simp; done)), (by rw [neL_yes hlt_k hc26, joinF_grow (hsm.1 hc34), ← ho]), (by rw [neL_yes hlt_k hc26]; simp)⟩
      · have F47 := F33.sb 4 (by kernel_rfl) hc34
        have F48 := F47.sb 15 (by kernel_rfl) hc34
        refine wp_cond_false (F48.ev (by kernel_rfl)) ?_
        refine wp_skip ?_
        refine hK31 _ _ ?_; clear hK31 K31
        refine wp_region_lit ?_
        refine op_p F48 (.string o) (by kernel_rfl) rfl rfl rfl (by kernel_rfl) rfl ?_; intro a49 F49
        refine op_p F49 (.string xs[k]) (by kernel_rfl) rfl rfl rfl (by kernel_rfl) rfl ?_; intro a50 F50
        refine op_r (v := .string (o ++ xs[k])) F50 (r_sadd rfl (F50.ev (v := .string o) (by kernel_rfl)) (F50.ev (v := .string xs[k]) (by kernel_rfl)) (by show o.size + xs[k].size ≤ 9223372036854775807; first | omega | (rw [ByteArray.size_append]; show _ + 1 + _ ≤ _; omega))) rfl rfl rfl ?_; intro a51 F51
        refine op_p F51 (.string (o ++ xs[k])) (by kernel_rfl) rfl rfl rfl (by kernel_rfl) rfl ?_; intro a52 F52
        refine op_p F52 (.bool true) (by kernel_rfl) rfl rfl rfl (by kernel_rfl) rfl ?_; intro a53 F53
        refine wpList_nil ?_
        refine hK17 _ _ ?_; clear hK17 K17
        refine wp_region_lit ?_
        refine op_r (v := .int .i64 (↑(k + 1))) F53 (r_add (z := ↑(k + 1)) rfl (F53.ev (v := .int .i64 (↑k)) (by kernel_rfl)) (F53.ev (v := .int .i64 1) (by kernel_rfl)) (wr64 (by omega) (by omega) (by omega))) rfl rfl rfl ?_; intro a54 F54
        refine op_p F54 (.int .i64 (↑(k + 1))) (by kernel_rfl) rfl rfl rfl (by kernel_rfl) rfl ?_; intro a55 F55
        refine wpList_nil ?_
        exact hK11 _ _ _ (by first | omega | (simp; omega)) ⟨k + 1, (o ++ xs[k]), true, rfl, (F55.k 0 (by kernel_rfl) (F55.k 2 (by kernel_rfl) (F55.k 3 (by kernel_rfl) (F55.k 4 (by rw [hc34]; kernel_rfl) (F55.k 7 (by kernel_rfl) (F55.k 8 (by kernel_rfl) (F55.k 9 (by kernel_rfl) F55.nil))))))), S11, (by first | omega | (with_reducible assumption) | (simp; done)), (by rw [neL_yes hlt_k hc26, (Decidable.not_not.1 fun hh => absurd (hsm.2 hh) (by rw [hc34]; simp)), ho, joinF_nil2 (Decidable.not_not.1 fun hh => absurd (hsm.2 hh) (by rw [hc34]; simp))]; exact emp_app2 _), (by rw [neL_yes hlt_k hc26]; simp)⟩
  · have hc_k : decide ((↑k : Int) < ↑xs.length) = false := by first | (simp; done) | (simp; omega)
    have hoo : o = joinF ⟨#[47]⟩ (neL xs) := by rw [ho, List.take_of_length_le (by omega)]
    have hss : sm = true ↔ neL xs ≠ [] := by rw [hsm, List.take_of_length_le (by omega)]
    have hjl := neL_size (k := xs.length) hx
    rw [List.take_length, ← hoo] at hjl
    refine wp_seq_k fun K56 hK56 => ?_
    refine wp_region_lit ?_
    refine op_p F11 (.bool (decide ((↑k : Int) < ↑xs.length))) (by kernel_rfl) rfl rfl rfl (by kernel_rfl) rfl ?_; intro a57 F57
    have F58 := F57.sb 10 (by kernel_rfl) hc_k
    refine wpList_nil ?_
    refine hK56 _ _ ?_; clear hK56 K56
    refine wp_seq_k fun K59 hK59 => ?_
    refine wp_cond_false (F58.ev (by kernel_rfl)) ?_
    refine wp_exit ?_
    refine ex_then ?_; clear hK59 K59
    refine ex_then ?_
    refine ex_in ?_
    refine hK6 _ _ ?_; clear hK6 K6
    refine wp_seq_k fun K60 hK60 => ?_
    refine wp_seq_k fun K61 hK61 => ?_
    refine wp_region_lit ?_
    refine op_p F58 (.bool sm) (by kernel_rfl) rfl rfl rfl (by kernel_rfl) rfl ?_; intro a62 F62
    refine op_p F62 (.bool (!(sm))) (by kernel_rfl) rfl rfl rfl (by kernel_rfl) rfl ?_; intro a63 F63
    refine wpList_nil ?_
    refine hK61 _ _ ?_; clear hK61 K61
    rcases btf (sm) with hc64 | hc64
    · have F65 := F63.sb 4 (by kernel_rfl) hc64
      have F66 := F65.sb 22 (by kernel_rfl) hc64
      have F67 := F66.sb 23 (by kernel_rfl) (show (!(sm)) = false by rw [hc64]; rfl)
      refine wp_cond_false (F67.ev (by kernel_rfl)) ?_
      refine wp_skip ?_
      refine hK60 _ _ ?_; clear hK60 K60
      refine wp_seq_k fun K68 hK68 => ?_
      refine wp_region_lit ?_
      refine op_p F67 (.string o) (by kernel_rfl) rfl rfl rfl (by kernel_rfl) rfl ?_; intro a69 F69
      refine op_c F69 (f := 193) (args := #[.string o]) (by kernel_rfl) (by kernel_rfl) rfl (clean_any o _ _ _ S11 (by first | omega | (simp; done) | (simp; omega))) rfl rfl rfl ?_
      rintro _ w70 ⟨rfl, S70⟩
      refine ⟨_, rfl, ?_⟩
      intro a71 F71
      refine op_p F71 (.string (cleanP o)) (by kernel_rfl) rfl rfl rfl (by kernel_rfl) rfl ?_; intro a72 F72
      refine wpList_nil ?_
      refine hK68 _ _ ?_; clear hK68 K68
      refine wp_ret ?_
      refine (F72.res1 rfl (v := .string (cleanP o)) (by kernel_rfl) ?_).1
      exact ⟨(ret_str (by rw [joinP_n (hss.1 hc64), hoo])), S70⟩
    · have F73 := F63.sb 4 (by kernel_rfl) hc64
      have F74 := F73.sb 22 (by kernel_rfl) hc64
      have F75 := F74.sb 23 (by kernel_rfl) (show (!(sm)) = true by rw [hc64]; rfl)
      refine wp_cond_true (F75.ev (by kernel_rfl)) ?_
      refine wp_seq_k fun K76 hK76 => ?_
      refine wp_region_lit ?_
      refine op_p F75 (.string ⟨#[]⟩) (by kernel_rfl) rfl rfl rfl (by kernel_rfl) rfl ?_; intro a77 F77
      refine wpList_nil ?_
      refine hK76 _ _ ?_; clear hK76 K76
      refine wp_ret ?_
      refine ret_then ?_
      refine (F77.res1 rfl (v := .string ⟨#[]⟩) (by kernel_rfl) ?_).1
      exact ⟨(ret_str (joinP_e (Decidable.not_not.1 fun hh => absurd (hss.2 hh) (by rw [hc64]; simp))).symm), S11⟩
end Go.Proofs.Ytkjcedlgljeoiaa

/- urlutil.URLJoin; spec.HlURL; impl.URLJoin. -/
namespace Go.Proofs.Ytkjcedlgljeoiaa
open Go.RowKit Go.Lib
set_option linter.unusedVariables false
set_option linter.unusedSimpArgs false
def slashP (h p : ByteArray) : ByteArray := if h.toList == (⟨#[]⟩ : ByteArray).toList then h ++ p else if p.toList == (⟨#[]⟩ : ByteArray).toList then h ++ p else if hp : 0 < p.size then (if (p[0].toNat : Int) == 47 then h ++ p else h ++ ((⟨#[47]⟩ : ByteArray) ++ p)) else h ++ p
end Go.Proofs.Ytkjcedlgljeoiaa

/- Addresses of the web: what urlutil.URLJoin asks of them (UJ), and that those of the law have it. -/
namespace Go.Proofs.Ytkjcedlgljeoiaa
open Go.RowKit Go.Lib

abbrev bl (s : ByteArray) : List UInt8 := s.data.toList
theorem bl_inj {a b : ByteArray} (h : bl a = bl b) : a = b := ByteArray.ext (Array.toList_inj.1 h)
theorem bl_len (s : ByteArray) : (bl s).length = s.size := by simp [bl]
theorem bl_app (a b : ByteArray) : bl (a ++ b) = bl a ++ bl b := by simp [bl, ByteArray.data_append]
theorem bl_ext (s : ByteArray) (i j : Nat) : bl (s.extract i j) = ((bl s).drop i).take (j - i) := by
  simp only [bl, ByteArray.data_extract, Array.toList_extract, List.extract_eq_take_drop]
theorem bl_toList (s : ByteArray) : s.toList = bl s := by
  exact Go.ByteArray.toList_eq s
theorem ext_app_l (a b : ByteArray) {n m : Nat} (h : m ≤ a.size) : (a ++ b).extract n m = a.extract n m := by
  apply bl_inj
  rw [bl_ext, bl_ext, bl_app]
  rcases Nat.le_total n a.size with hn | hn
  · rw [List.drop_append_of_le_length (by rw [bl_len]; exact hn), List.take_append_of_le_length (by rw [List.length_drop, bl_len]; omega)]
  · rw [show m - n = 0 by omega]; simp
theorem ext_app_r (a b : ByteArray) {n m : Nat} (h : n = a.size) (hm : a.size + b.size ≤ m) : (a ++ b).extract n m = b := by
  apply bl_inj
  rw [bl_ext, bl_app, List.drop_append, bl_len, h, List.drop_of_length_le (by rw [bl_len]; omega), Nat.sub_self, List.drop_zero, List.nil_append, List.take_of_length_le (by rw [bl_len]; omega)]
theorem ext_all (a : ByteArray) {m : Nat} (hm : a.size ≤ m) : a.extract 0 m = a := by
  apply bl_inj
  rw [bl_ext, List.drop_zero, List.take_of_length_le (by rw [bl_len]; omega)]
/-- a text stands at j: byte by byte -/
theorem here_head {s sub : ByteArray} {j : Nat} {c : UInt8} {r : List UInt8} (hs : bl sub = c :: r) (h : (bl s)[j]? ≠ some c) : hereB s sub j = false := by
  unfold hereB
  rw [bl_toList, bl_toList, bl_ext, hs]
  apply Bool.eq_false_iff.2
  intro h2
  have h2 := eq_of_beq h2
  have h3 : ((bl s).drop j)[0]? = some c := by
    have : (((bl s).drop j).take (j + sub.size - j))[0]? = some c := by rw [h2]; rfl
    rw [List.getElem?_take] at this
    split at this
    · exact this
    · cases this
  rw [List.getElem?_drop] at h3
  exact h (by simpa using h3)
theorem here_yes {s sub a b : ByteArray} (h : s = a ++ sub ++ b) : hereB s sub a.size = true := by
  unfold hereB
  rw [h, bl_toList, bl_toList, bl_ext, bl_app, bl_app, List.append_assoc, List.drop_append, bl_len, Nat.sub_self, List.drop_of_length_le (by rw [bl_len]; exact Nat.le_refl _), List.drop_zero, List.nil_append,
    show a.size + sub.size - a.size = (bl sub).length by rw [bl_len]; omega, List.take_left']
  · simp
  · rfl
theorem idxI_none {s sub : ByteArray} {c : UInt8} {r : List UInt8} (hs : bl sub = c :: r) (h : ∀ x ∈ bl s, x ≠ c) : idxI s sub = -1 := by
  unfold idxI idxO
  rw [firstN_none fun j _ => here_head hs fun e => h _ (List.mem_of_getElem? e) rfl]
theorem idxI_some {s sub a b : ByteArray} {c : UInt8} {r : List UInt8} (hs : bl sub = c :: r) (e : s = a ++ sub ++ b) (h : ∀ x ∈ bl a, x ≠ c) : idxI s sub = a.size := by
  have hz : s.size = a.size + sub.size + b.size := by rw [e, ByteArray.size_append, ByteArray.size_append]
  unfold idxI idxO
  rw [firstN_some (p := hereB s sub) (k := a.size) (by omega) (fun j hj => here_head hs fun e2 => ?_) (here_yes e)]
  rw [e, bl_app, bl_app, List.append_assoc, List.getElem?_append_left (by rw [bl_len]; exact hj)] at e2
  exact h _ (List.mem_of_getElem? e2) rfl
def UJ (pre path raw : ByteArray) : Prop :=
  (pre = ⟨#[]⟩ ∧ raw = path ∧ hasPreB path ⟨#[47, 47]⟩ = false ∧ idxI path ⟨#[58, 47, 47]⟩ = -1) ∨
  ∃ sc rest host : ByteArray, hasPreB raw ⟨#[47, 47]⟩ = false ∧ idxI raw ⟨#[58, 47, 47]⟩ = ↑sc.size ∧ sc.size + 3 + host.size ≤ raw.size ∧ rest.size + 3 + sc.size = raw.size ∧ host.size ≤ rest.size ∧
    raw.extract 0 sc.size = sc ∧ raw.extract (sc.size + 3) raw.size = rest ∧ rest.extract 0 host.size = host ∧ rest.extract host.size rest.size = path ∧ raw.extract 0 (sc.size + 3 + host.size) = pre ∧
    wordB sc ⟨#[]⟩ = true ∧ wordB host ⟨#[46, 45]⟩ = true ∧ ((lowF sc).toList == sc.toList) = true ∧ (∀ j, bt0 sc j ≤ 127) ∧ (∃ hr0 : 0 < raw.size, decide (((raw[0]'hr0).toNat : Int) < 65) = false) ∧ (pre.toList == (⟨#[]⟩ : ByteArray).toList) = false ∧
    (idxI rest ⟨#[47]⟩ = ↑host.size ∨ (idxI rest ⟨#[47]⟩ = -1 ∧ host.size = rest.size))
theorem bl_low (s : ByteArray) : bl (lowF s) = (bl s).map fun c => UInt8.ofNat (lowN c.toNat) := Array.toList_map
end Go.Proofs.Ytkjcedlgljeoiaa

/- Files that define resources: plain words; paths that are clean. -/
namespace Go.Proofs.Ytkjcedlgljeoiaa
open Go.RowKit Go.Lib
set_option linter.unusedVariables false
set_option linter.unusedSimpArgs false
/-- A part of a clean path. -/
def SegOk (x : ByteArray) : Prop := 0 < x.size ∧ (∀ c ∈ bl x, c ≠ 47) ∧ (bl x)[0]? ≠ some 46
def PathOk (p : ByteArray) : Prop := ∃ l : List ByteArray, l ≠ [] ∧ (∀ x ∈ l, SegOk x) ∧ p = joinF ⟨#[47]⟩ l
theorem joinF_app2 {sep : ByteArray} : ∀ {l m : List ByteArray}, l ≠ [] → m ≠ [] → joinF sep (l ++ m) = joinF sep l ++ sep ++ joinF sep m
  | [x], y :: m, _, _ => by show x ++ (sep ++ joinF sep (y :: m)) = _; rw [ba_assoc]; rfl
  | x :: z :: l, y :: m, _, h => by
    have ih := joinF_app2 (sep := sep) (l := z :: l) (m := y :: m) (by simp) h
    show x ++ (sep ++ joinF sep ((z :: l) ++ (y :: m))) = (x ++ (sep ++ joinF sep (z :: l))) ++ sep ++ joinF sep (y :: m)
    rw [ih]; simp only [ba_assoc]
theorem PathOk.join {p q : ByteArray} (hp : PathOk p) (hq : PathOk q) : PathOk (p ++ (⟨#[47]⟩ : ByteArray) ++ q) := by
  obtain ⟨l, h1, h2, rfl⟩ := hp
  obtain ⟨m, h3, h4, rfl⟩ := hq
  exact ⟨l ++ m, by simp [h1], fun x hx => (List.mem_append.1 hx).elim (h2 x) (h4 x), (joinF_app2 h1 h3).symm⟩
theorem PathOk.seg {x : ByteArray} (h : SegOk x) : PathOk x := ⟨[x], by simp, fun y hy => by rw [List.mem_singleton.1 hy]; exact h, rfl⟩
theorem idxO_of {s sub : ByteArray} {k : Nat} (h : idxI s sub = k) : idxO s sub = some k := by
  unfold idxI at h
  cases hi : idxO s sub with
  | none => rw [hi] at h; have h : (-1 : Int) = k := h; omega
  | some j => rw [hi] at h; have h : (j : Int) = k := h; rw [show j = k by omega]
theorem idxO_no {s sub : ByteArray} (h : idxI s sub = -1) : idxO s sub = none := by
  unfold idxI at h
  cases hi : idxO s sub with
  | none => rfl
  | some j => rw [hi] at h; have h : (j : Int) = -1 := h; omega
theorem spl_join : ∀ (l : List ByteArray), l ≠ [] → (∀ x ∈ l, ∀ c ∈ bl x, c ≠ 47) → ∀ K : Nat, l.length ≤ K + 1 → splitF ⟨#[47]⟩ K (joinF ⟨#[47]⟩ l) = l
  | [x], _, h, K, _ => by
    cases K with
    | zero => rfl
    | succ K =>
      show (match idxO x ⟨#[47]⟩ with | some i => x.extract 0 i :: splitF ⟨#[47]⟩ K (x.extract (i + (⟨#[47]⟩ : ByteArray).size) x.size) | none => [x]) = [x]
      rw [idxO_no (idxI_none (c := 47) (r := []) rfl (h x (List.mem_cons_self ..)))]
  | x :: y :: l, _, h, K, hK => by
    cases K with
    | zero => simp at hK
    | succ K =>
      have hx := h x (List.mem_cons_self ..)
      have ih := spl_join (y :: l) (by simp) (fun z hz => h z (List.mem_cons_of_mem _ hz)) K (by simp at hK ⊢; omega)
      have e : joinF ⟨#[47]⟩ (x :: y :: l) = x ++ (⟨#[47]⟩ : ByteArray) ++ joinF ⟨#[47]⟩ (y :: l) := by rw [ba_assoc]; rfl
      rw [e]
      show (match idxO (x ++ (⟨#[47]⟩ : ByteArray) ++ joinF ⟨#[47]⟩ (y :: l)) ⟨#[47]⟩ with | some i => (x ++ (⟨#[47]⟩ : ByteArray) ++ joinF ⟨#[47]⟩ (y :: l)).extract 0 i :: splitF ⟨#[47]⟩ K ((x ++ (⟨#[47]⟩ : ByteArray) ++ joinF ⟨#[47]⟩ (y :: l)).extract (i + (⟨#[47]⟩ : ByteArray).size) (x ++ (⟨#[47]⟩ : ByteArray) ++ joinF ⟨#[47]⟩ (y :: l)).size) | none => [x ++ (⟨#[47]⟩ : ByteArray) ++ joinF ⟨#[47]⟩ (y :: l)]) = _
      rw [idxO_of (idxI_some (a := x) (b := joinF ⟨#[47]⟩ (y :: l)) (c := 47) (r := []) rfl rfl hx)]
      show (x ++ (⟨#[47]⟩ : ByteArray) ++ joinF ⟨#[47]⟩ (y :: l)).extract 0 x.size :: splitF ⟨#[47]⟩ K ((x ++ (⟨#[47]⟩ : ByteArray) ++ joinF ⟨#[47]⟩ (y :: l)).extract (x.size + (⟨#[47]⟩ : ByteArray).size) (x ++ (⟨#[47]⟩ : ByteArray) ++ joinF ⟨#[47]⟩ (y :: l)).size) = _
      have e1 : (x ++ (⟨#[47]⟩ : ByteArray) ++ joinF ⟨#[47]⟩ (y :: l)).extract 0 x.size = x := by rw [ba_assoc, ext_app_l _ _ (Nat.le_refl _), ext_all _ (Nat.le_refl _)]
      have e2 : (x ++ (⟨#[47]⟩ : ByteArray) ++ joinF ⟨#[47]⟩ (y :: l)).extract (x.size + (⟨#[47]⟩ : ByteArray).size) (x ++ (⟨#[47]⟩ : ByteArray) ++ joinF ⟨#[47]⟩ (y :: l)).size = joinF ⟨#[47]⟩ (y :: l) := ext_app_r (x ++ (⟨#[47]⟩ : ByteArray)) _ (by rw [ByteArray.size_append]) (by rw [← ByteArray.size_append]; exact Nat.le_refl _)
      rw [e1, e2, ih]
theorem beq_lit {x y : ByteArray} (h : bl x ≠ bl y) : (x.toList == y.toList) = false := by
  rw [bl_toList, bl_toList]; exact beq_false_of_ne h
theorem seg_push {x : ByteArray} (h : SegOk x) (l : List ByteArray) : push false l x = l ++ [x] := by
  have e1 : (x.toList == (⟨#[]⟩ : ByteArray).toList) = false := beq_lit fun e => by
    have := h.1; rw [← bl_len, e] at this; simp at this
  have e2 : (x.toList == (⟨#[46]⟩ : ByteArray).toList) = false := beq_lit fun e => h.2.2 (by rw [e]; rfl)
  have e3 : (x.toList == (⟨#[46, 46]⟩ : ByteArray).toList) = false := beq_lit fun e => h.2.2 (by rw [e]; rfl)
  unfold push
  simp only [e1, e2, e3, Bool.false_eq_true, if_false]
theorem push_all2 : ∀ (l acc : List ByteArray), (∀ x ∈ l, SegOk x) → l.foldl (push false) acc = acc ++ l
  | [], acc, _ => by simp
  | x :: l, acc, h => by
    show l.foldl (push false) (push false acc x) = _
    rw [seg_push (h x (List.mem_cons_self ..)), push_all2 l _ fun y hy => h y (List.mem_cons_of_mem _ hy), List.append_assoc]; rfl
theorem join_lens : ∀ (l : List ByteArray), (∀ x ∈ l, SegOk x) → l.length ≤ (joinF ⟨#[47]⟩ l).size
  | [], _ => Nat.zero_le _
  | [x], h => (h x (List.mem_cons_self ..)).1
  | x :: y :: l, h => by
    have ih := join_lens (y :: l) fun z hz => h z (List.mem_cons_of_mem _ hz)
    have h1 := (h x (List.mem_cons_self ..)).1
    show _ ≤ (x ++ ((⟨#[47]⟩ : ByteArray) ++ joinF ⟨#[47]⟩ (y :: l))).size
    rw [ByteArray.size_append, ByteArray.size_append]; simp only [List.length_cons] at *; omega
theorem PathOk.pos {p : ByteArray} (h : PathOk p) : 0 < p.size ∧ (bl p)[0]? ≠ some 47 := by
  obtain ⟨l, h1, h2, rfl⟩ := h
  have h3 := join_lens l h2
  cases l with
  | nil => exact absurd rfl h1
  | cons x l =>
    refine ⟨by simp at h3; omega, ?_⟩
    have hx := h2 x (List.mem_cons_self ..)
    have hz : 0 < (bl x).length := by rw [bl_len]; exact hx.1
    have e : (bl (joinF ⟨#[47]⟩ (x :: l)))[0]? = (bl x)[0]? := by
      cases l with
      | nil => rfl
      | cons y l =>
        show (bl (x ++ ((⟨#[47]⟩ : ByteArray) ++ joinF ⟨#[47]⟩ (y :: l))))[0]? = _
        rw [bl_app, List.getElem?_append_left hz]
    rw [e, List.getElem?_eq_getElem hz]
    intro e2
    injection e2 with e2
    exact hx.2.1 _ (List.getElem_mem hz) e2
theorem clean_ok {p : ByteArray} (h : PathOk p) : cleanP p = p := by
  obtain ⟨hz, h0⟩ := h.pos
  have hbl : 0 < (bl p).length := by rw [bl_len]; exact hz
  have e1 : (p.toList == (⟨#[]⟩ : ByteArray).toList) = false := beq_lit fun e => by
    rw [e] at hbl; simp at hbl
  have e2 : ((p[0].toNat : Int) == 47) = false := by
    apply beq_false_of_ne
    intro e
    apply h0
    rw [List.getElem?_eq_getElem hbl]
    have : p[0] = 47 := UInt8.toNat_inj.1 (by show p[0].toNat = 47; omega)
    show some ((bl p)[0]) = some 47
    rw [← this]; rfl
  have es : stk false p = stk false p := rfl
  have hst : joinF ⟨#[47]⟩ (stk false p) = p := by
    obtain ⟨l, h1, h2, rfl⟩ := h
    unfold stk
    rw [spl_join l h1 (fun x hx => (h2 x hx).2.1) _ (by have := join_lens l h2; omega), push_all2 l [] h2, List.nil_append]
  rw [cleanP_n e1 hz e2 (by rw [hst]; exact e1), hst]
theorem joinP_ok {p q : ByteArray} (hp : PathOk p) (hq : PathOk q) : joinP [p, q] = p ++ (⟨#[47]⟩ : ByteArray) ++ q := by
  have ne : ∀ {x : ByteArray}, PathOk x → neB x = true := fun {x} hx => by
    have hbl : 0 < (bl x).length := by rw [bl_len]; exact hx.pos.1
    unfold neB
    rw [beq_lit fun e => by rw [e] at hbl; simp at hbl]; rfl
  have e : neL [p, q] = [p, q] := by unfold neL; rw [List.filter_cons_of_pos (ne hp), List.filter_cons_of_pos (ne hq)]; rfl
  rw [joinP_n (by rw [e]; simp), e]
  show cleanP (p ++ ((⟨#[47]⟩ : ByteArray) ++ q)) = _
  rw [← ba_assoc]; exact clean_ok (hp.join hq)
theorem word_bl {b : ByteArray} (h : WordOk b) : ∀ c ∈ bl b, 97 ≤ c.toNat ∧ c.toNat ≤ 122 := fun c hc => by
  obtain ⟨i, hi, rfl⟩ := List.getElem_of_mem hc
  exact h.2.2 i (by rw [bl_len] at hi; exact hi)
theorem word_head {b x : ByteArray} (h : WordOk b) : (bl (b ++ x))[0]? ≠ some 46 := by
  have hz : 0 < (bl b).length := by rw [bl_len]; exact h.1
  rw [bl_app, List.getElem?_append_left hz, List.getElem?_eq_getElem hz]
  intro e
  injection e with e
  have := word_bl h _ (List.getElem_mem hz)
  rw [e] at this
  exact absurd this.1 (by decide)
theorem ext_bl (j : Nat) : ∀ c ∈ bl (fileExt.getD j ⟨#[]⟩), c ≠ 47 ∧ c.toNat ≤ 127 := by
  rcases Nat.lt_or_ge j 8 with h | h
  · have : j = 0 ∨ j = 1 ∨ j = 2 ∨ j = 3 ∨ j = 4 ∨ j = 5 ∨ j = 6 ∨ j = 7 := by omega
    rcases this with rfl | rfl | rfl | rfl | rfl | rfl | rfl | rfl <;> decide
  · have : fileExt[j]? = none := List.getElem?_eq_none h
    rw [List.getD_eq_getElem?_getD, this]; decide
theorem pre_bl (j : Nat) : ∀ c ∈ bl (filePre.getD j ⟨#[]⟩), c.toNat ≤ 127 := by
  rcases Nat.lt_or_ge j 7 with h | h
  · have : j = 0 ∨ j = 1 ∨ j = 2 ∨ j = 3 ∨ j = 4 ∨ j = 5 ∨ j = 6 := by omega
    rcases this with rfl | rfl | rfl | rfl | rfl | rfl | rfl <;> decide
  · have : filePre[j]? = none := List.getElem?_eq_none h
    rw [List.getD_eq_getElem?_getD, this]; decide
theorem seg_word {b : ByteArray} (h : WordOk b) : SegOk b := ⟨h.1, fun c hc e => by have := (word_bl h c hc).1; rw [e] at this; exact absurd this (by decide), by have := word_head (x := ⟨#[]⟩) h; rwa [show b ++ (⟨#[]⟩ : ByteArray) = b from by apply bl_inj; rw [bl_app]; simp] at this⟩
theorem seg_file {b : ByteArray} (h : WordOk b) (j : Nat) : SegOk (b ++ fileExt.getD j ⟨#[]⟩) := by
  refine ⟨by rw [ByteArray.size_append]; have := h.1; omega, fun c hc e => ?_, word_head h⟩
  rw [bl_app] at hc
  rcases List.mem_append.1 hc with hc | hc
  · have := (word_bl h c hc).1; rw [e] at this; exact absurd this (by decide)
  · exact (ext_bl j c hc).1 e
theorem file_path {s : ByteArray} (h : FileOk s) : PathOk s := by
  obtain ⟨i, j, b, hi, hj, hb, rfl⟩ := h
  have hs := PathOk.seg (seg_file hb j)
  have sg : ∀ x : ByteArray, SegOk x → ∀ p : ByteArray, p = x ++ (⟨#[47]⟩ : ByteArray) → PathOk (p ++ b ++ fileExt.getD j ⟨#[]⟩) := fun x hx p hp => by
    rw [hp, ba_assoc]; exact (PathOk.seg hx).join hs
  have c1 : SegOk ⟨#[99, 114, 100, 115]⟩ := ⟨by decide, by decide, by decide⟩
  have : i = 0 ∨ i = 1 ∨ i = 2 ∨ i = 3 ∨ i = 4 ∨ i = 5 ∨ i = 6 := by omega
  rcases this with rfl | rfl | rfl | rfl | rfl | rfl | rfl
  · exact sg _ c1 _ rfl
  · exact sg _ c1 _ rfl
  · exact sg _ c1 _ rfl
  · rw [ba_assoc]; show PathOk ((⟨#[]⟩ : ByteArray) ++ _); rw [show ∀ y : ByteArray, (⟨#[]⟩ : ByteArray) ++ y = y from fun y => by apply bl_inj; rw [bl_app]; simp]; exact hs
  · exact sg ⟨#[116, 101, 109, 112, 108, 97, 116, 101, 115]⟩ ⟨by decide, by decide, by decide⟩ _ rfl
  · have h2 := ((PathOk.seg c1).join (PathOk.seg (x := ⟨#[97]⟩) ⟨by decide, by decide, by decide⟩)).join hs
    rw [ba_assoc]; exact h2
  · exact sg ⟨#[120, 99, 114, 100, 115]⟩ ⟨by decide, by decide, by decide⟩ _ rfl
theorem bt0_bl {s : ByteArray} {n : Nat} (h : ∀ c ∈ bl s, c.toNat ≤ n) (j : Nat) : bt0 s j ≤ n := by
  unfold bt0
  split
  · next hj => exact h _ (Array.mem_toList_iff.2 (Array.getElem_mem _))
  · exact Nat.zero_le _
theorem file_asc {s : ByteArray} (h : FileOk s) : ∀ c ∈ bl s, c.toNat ≤ 127 := by
  obtain ⟨i, j, b, _, _, hb, rfl⟩ := h
  intro c hc
  rw [bl_app, bl_app] at hc
  rcases List.mem_append.1 hc with hc | hc
  · rcases List.mem_append.1 hc with hc | hc
    · exact pre_bl i c hc
    · have := (word_bl hb c hc).2; omega
  · exact (ext_bl j c hc).2
/-- The extension: from the last point on, if no slash stands behind it. -/
def extAt (s : ByteArray) : Nat → ByteArray
  | 0 => ⟨#[]⟩
  | k + 1 => if bt0 s k = 47 then ⟨#[]⟩ else if bt0 s k = 46 then s.extract k s.size else extAt s k
def isYaml (e : ByteArray) : Bool := ((lowF e).toList == (⟨#[46, 121, 97, 109, 108]⟩ : ByteArray).toList) || (((lowF e).toList == (⟨#[46, 121, 109, 108]⟩ : ByteArray).toList) || ((lowF e).toList == (⟨#[46, 106, 115, 111, 110]⟩ : ByteArray).toList))
def crdB (s : ByteArray) : Bool := hasPreB s ⟨#[99, 114, 100, 115, 47]⟩ && isYaml (extAt s s.size)
theorem ext_asc {s : ByteArray} (h : ∀ c ∈ bl s, c.toNat ≤ 127) : ∀ k, ∀ c ∈ bl (extAt s k), c.toNat ≤ 127
  | 0 => fun c hc => by cases hc
  | k + 1 => by
    unfold extAt
    split
    · exact fun c hc => by cases hc
    · split
      · intro c hc
        rw [bl_ext] at hc
        exact h c (List.mem_of_mem_drop (List.mem_of_mem_take hc))
      · exact ext_asc h k
theorem ext_size (s : ByteArray) : ∀ k, (extAt s k).size ≤ s.size
  | 0 => Nat.zero_le _
  | k + 1 => by
    unfold extAt
    split
    · exact Nat.zero_le _
    · split
      · rw [ByteArray.size_extract]; omega
      · exact ext_size s k
theorem ext_slash {s : ByteArray} {m : Nat} (hm : 0 < m) (h2 : m - 1 < s.size) (h : ((s[m - 1].toNat : Int) == 47) = true) : extAt s m = ⟨#[]⟩ := by
  obtain ⟨k, rfl⟩ : ∃ k, m = k + 1 := ⟨m - 1, by omega⟩
  have : bt0 s k = 47 := by rw [bt0_at (by omega)]; have := eq_of_beq h; simp at this; omega
  unfold extAt; rw [if_pos this]
theorem ext_dot {s : ByteArray} {m : Nat} (hm : 0 < m) (h2 : m - 1 < s.size) (h : ((s[m - 1].toNat : Int) == 47) = false) (h3 : ((s[m - 1].toNat : Int) == 46) = true) : extAt s m = s.extract (m - 1) s.size := by
  obtain ⟨k, rfl⟩ : ∃ k, m = k + 1 := ⟨m - 1, by omega⟩
  have e1 : bt0 s k = 46 := by rw [bt0_at (by omega)]; have := eq_of_beq h3; simp at this; omega
  unfold extAt; rw [if_neg (by omega), if_pos e1]; rfl
theorem ext_on {s : ByteArray} {m : Nat} (hm : 0 < m) (h2 : m - 1 < s.size) (h : ((s[m - 1].toNat : Int) == 47) = false) (h3 : ((s[m - 1].toNat : Int) == 46) = false) : extAt s m = extAt s (m - 1) := by
  obtain ⟨k, rfl⟩ : ∃ k, m = k + 1 := ⟨m - 1, by omega⟩
  have e0 : bt0 s k ≠ 47 := by rw [bt0_at (by omega)]; have := ne_of_beq_false h; simp at this; omega
  have e1 : bt0 s k ≠ 46 := by rw [bt0_at (by omega)]; have := ne_of_beq_false h3; simp at this; omega
  show (if bt0 s k = 47 then _ else if bt0 s k = 46 then _ else extAt s k) = _
  rw [if_neg e0, if_neg e1]; rfl
/-- The names of the files that define resources. -/
def crdN : Nat → Pt → List ByteArray
  | 0 => fun t => t.fs.filter crdB
  | m + 1 => fun t => t.fs.filter crdB ++ t.kids.flatMap (crdN m)
/-- Each behind the full path of its chart. -/
def crdP : Nat → ByteArray → Pt → List ByteArray
  | 0 => fun p t => (t.fs.filter crdB).map fun f => p ++ (⟨#[47]⟩ : ByteArray) ++ f
  | m + 1 => fun p t => (t.fs.filter crdB).map (fun f => p ++ (⟨#[47]⟩ : ByteArray) ++ f) ++ t.kids.flatMap fun d => crdP m (p ++ (⟨#[47, 99, 104, 97, 114, 116, 115, 47]⟩ : ByteArray) ++ d.n) d
end Go.Proofs.Ytkjcedlgljeoiaa

/- plain.Ext, chart.hasManifestExtension, spec.ChCRD. -/
namespace Go.Proofs.Ytkjcedlgljeoiaa
open Go.RowKit Go.Lib
set_option linter.unusedVariables false
set_option linter.unusedSimpArgs false
theorem low_y0 : lowF ⟨#[46, 121, 97, 109, 108]⟩ = ⟨#[46, 121, 97, 109, 108]⟩ := bl_inj (by rw [bl_low]; decide)
theorem low_y1 : lowF ⟨#[46, 121, 109, 108]⟩ = ⟨#[46, 121, 109, 108]⟩ := bl_inj (by rw [bl_low]; decide)
theorem low_y2 : lowF ⟨#[46, 106, 115, 111, 110]⟩ = ⟨#[46, 106, 115, 111, 110]⟩ := bl_inj (by rw [bl_low]; decide)
theorem yam_1 {e : ByteArray} (h : ((lowF e).toList == (⟨#[46, 121, 97, 109, 108]⟩ : ByteArray).toList) = true) : isYaml e = true := by unfold isYaml; rw [h]; rfl
theorem yam_2 {e : ByteArray} (h0 : ((lowF e).toList == (⟨#[46, 121, 97, 109, 108]⟩ : ByteArray).toList) = false) (h : ((lowF e).toList == (⟨#[46, 121, 109, 108]⟩ : ByteArray).toList) = true) : isYaml e = true := by unfold isYaml; rw [h, Bool.true_or, Bool.or_true]
theorem yam_0 {e : ByteArray} (h0 : ((lowF e).toList == (⟨#[46, 121, 97, 109, 108]⟩ : ByteArray).toList) = false) (h1 : ((lowF e).toList == (⟨#[46, 121, 109, 108]⟩ : ByteArray).toList) = false) : isYaml e = ((lowF e).toList == (⟨#[46, 106, 115, 111, 110]⟩ : ByteArray).toList) := by unfold isYaml; rw [h0, h1]; rfl
theorem yaml_1 {e : ByteArray} (h : ((lowF e).toList == (lowF ⟨#[46, 121, 97, 109, 108]⟩).toList) = true) : isYaml e = true := by rw [low_y0] at h; exact yam_1 h
theorem yaml_2 {e : ByteArray} (h0 : ((lowF e).toList == (lowF ⟨#[46, 121, 97, 109, 108]⟩).toList) = false) (h : ((lowF e).toList == (lowF ⟨#[46, 121, 109, 108]⟩).toList) = true) : isYaml e = true := by rw [low_y0] at h0; rw [low_y1] at h; exact yam_2 h0 h
theorem yaml_0 {e : ByteArray} (h0 : ((lowF e).toList == (lowF ⟨#[46, 121, 97, 109, 108]⟩).toList) = false) (h1 : ((lowF e).toList == (lowF ⟨#[46, 121, 109, 108]⟩).toList) = false) : isYaml e = ((lowF e).toList == (lowF ⟨#[46, 106, 115, 111, 110]⟩).toList) := by rw [low_y0] at h0; rw [low_y1] at h1; rw [low_y2]; exact yam_0 h0 h1
theorem yam_e : isYaml ⟨#[]⟩ = false := by
  have e : lowF ⟨#[]⟩ = ⟨#[]⟩ := bl_inj (by rw [bl_low]; rfl)
  unfold isYaml
  rw [e, beq_lit (x := ⟨#[]⟩) (y := ⟨#[46, 121, 97, 109, 108]⟩) (by decide), beq_lit (x := ⟨#[]⟩) (y := ⟨#[46, 121, 109, 108]⟩) (by decide), beq_lit (x := ⟨#[]⟩) (y := ⟨#[46, 106, 115, 111, 110]⟩) (by decide)]; rfl
theorem crd_sm {s : ByteArray} (h : decide ((↑s.size : Int) < 5) = true) : crdB s = false := by
  have h := of_decide_eq_true h
  unfold crdB hasPreB
  rw [show decide ((((⟨#[99, 114, 100, 115, 47]⟩ : ByteArray).size : Nat) : Int) ≤ s.size) = false from decide_eq_false (by show ¬ ((5 : Int) ≤ s.size); omega)]; rfl
theorem crd_ne {s : ByteArray} (h : ((s.extract 0 5).toList == (⟨#[99, 114, 100, 115, 47]⟩ : ByteArray).toList) = false) : crdB s = false := by
  unfold crdB hasPreB
  rw [show ((s.extract 0 (⟨#[99, 114, 100, 115, 47]⟩ : ByteArray).size).toList == (⟨#[99, 114, 100, 115, 47]⟩ : ByteArray).toList) = false from h, Bool.and_false]; rfl
theorem crd_ok {s : ByteArray} (h : decide ((↑s.size : Int) < 5) = false) (h2 : ((s.extract 0 5).toList == (⟨#[99, 114, 100, 115, 47]⟩ : ByteArray).toList) = true) : crdB s = isYaml (extAt s s.size) := by
  have h := of_decide_eq_false h
  unfold crdB hasPreB
  rw [show ((s.extract 0 (⟨#[99, 114, 100, 115, 47]⟩ : ByteArray).size).toList == (⟨#[99, 114, 100, 115, 47]⟩ : ByteArray).toList) = true from h2, show decide ((((⟨#[99, 114, 100, 115, 47]⟩ : ByteArray).size : Nat) : Int) ≤ s.size) = true from decide_eq_true (by show ((5 : Int) ≤ s.size); omega)]; rfl
set_option maxRecDepth 100000 in
set_option maxHeartbeats 20000000 in
theorem ext_sp (s : ByteArray) (R : Ctx) (L : List SA) (w : World) (S : Sp R w (L))  (hs : s.size ≤ 1000000) :
    Calls Try.prog 196 #[.string s] w fun e w' => e = .returned (.string (extAt s s.size)) ∧ Sp R w' (L) := by
  refine fw_enter (fn := Try.f196) rfl rfl 24 rfl (Nat.le_of_ble_eq_true rfl) ?_
  intro a0 F0
  refine wp_seq_k fun K1 hK1 => ?_
  refine wp_region_lit ?_
  refine op_q F0 (.string ⟨#[]⟩) ?_; intro a2 F2
  refine wpList_nil ?_
  refine hK1 _ _ ?_; clear hK1 K1
  refine wp_seq_k fun K3 hK3 => ?_
  refine wp_seq_k fun K4 hK4 => ?_
  refine wp_region_lit ?_
  refine op_q F2 (.string s) ?_; intro a5 F5
  refine op_q F5 (.int .i64 (↑s.size)) ?_; intro a6 F6
  refine op_rq (v := .int .i64 (↑s.size - 1)) F6 (r_sub (z := (↑s.size - 1)) rfl (F6.e (.int .i64 (↑s.size))) (F6.e (.int .i64 1)) (wr64 (by omega) (by omega) (by omega))) ?_; intro a7 F7
  refine op_q F7 (.int .i64 (↑s.size - 1)) ?_; intro a8 F8
  refine wpList_nil ?_
  refine hK4 _ _ ?_; clear hK4 K4
  refine wp_block ?_
  refine fw_loop (fun m' a' w' => ∃ m : Nat, m = m' ∧ Fr 24 [] a' [(0, .string s), (3, .int .i64 (↑m - 1))] ∧ Sp R w' (L) ∧ (m ≤ s.size) ∧ (extAt s s.size = extAt s m)) _ ⟨s.size, rfl, (F8.kk 0 (F8.kk 3 F8.nil)), S, (by first | omega | (with_reducible assumption) | (simp; done)), rfl⟩ ?_
  rintro m9 a9 w9 ⟨m, hm9, F9, S9, hm, hx⟩ K9 hK9
  refine wp_seq_k fun K10 hK10 => ?_
  refine wp_seq_k fun K11 hK11 => ?_
  refine wp_region_lit ?_
  refine op_q F9 (.int .i64 (↑m - 1)) ?_; intro a12 F12
  refine op_q F12 (.bool (decide ((0 : Int) ≤ (↑m - 1)))) ?_; intro a13 F13
  refine op_q F13 (.bool (decide ((0 : Int) ≤ (↑m - 1)))) ?_; intro a14 F14
  rcases btf (decide ((0 : Int) ≤ (↑m - 1))) with hc15 | hc15
  · have hm0 : 0 < m := by have := of_decide_eq_true hc15; omega
    have hlt_m : m - 1 < s.size := by omega
    have F16 := F14.sb 8 (by kernel_rfl) hc15
    have F17 := F16.sb 9 (by kernel_rfl) hc15
    refine op_wq F17 ?_
    refine op_q F17 (.string s) ?_; intro a18 F18
    refine op_wq F18 ?_
    refine op_q F18 (.int .i64 (↑m - 1)) ?_; intro a19 F19
    refine op_wq F19 ?_
    refine op_rq (v := .int .u8 (↑s[m - 1].toNat)) F19 (r_index rfl Try.underlying9 (F19.e (.string s)) (F19.e (.int .i64 (↑m - 1))) (m - 1) (by first | rfl | omega | simp) (by first | omega | (simp; done) | (simp; omega))) ?_; intro a20 F20
    refine op_wq F20 ?_
    refine op_q F20 (.bool (!((↑s[m - 1].toNat : Int) == 47))) ?_; intro a21 F21
    refine op_q F21 (.bool (!((↑s[m - 1].toNat : Int) == 47))) ?_; intro a22 F22
    refine wpList_nil ?_
    refine hK11 _ _ ?_; clear hK11 K11
    rcases btf ((↑s[m - 1].toNat : Int) == 47) with hc23 | hc23
    · have hc23p := eq_of_beq hc23
      have F24 := F22.sb 13 (by kernel_rfl) (show (!((↑s[m - 1].toNat : Int) == 47)) = false by rw [hc23]; rfl)
      have F25 := F24.sb 14 (by kernel_rfl) (show (!((↑s[m - 1].toNat : Int) == 47)) = false by rw [hc23]; rfl)
      refine wp_cond_false (F25.ev (by kernel_rfl)) ?_
      refine wp_exit ?_
      refine ex_then ?_; clear hK10 K10
      refine ex_then ?_
      refine ex_in ?_
      refine hK3 _ _ ?_; clear hK3 K3
      refine wp_seq_k fun K26 hK26 => ?_
      refine wp_region_lit ?_
      refine op_q F25 (.string ⟨#[]⟩) ?_; intro a27 F27
      refine wpList_nil ?_
      refine hK26 _ _ ?_; clear hK26 K26
      refine wp_ret ?_
      refine (F27.res1 rfl (v := .string ⟨#[]⟩) (by kernel_rfl) ?_).1
      exact ⟨(by rw [hx, ext_slash hm0 hlt_m hc23]), S9⟩
    · have hc23p := ne_of_beq_false hc23
      have F28 := F22.sb 13 (by kernel_rfl) (show (!((↑s[m - 1].toNat : Int) == 47)) = true by rw [hc23]; rfl)
      have F29 := F28.sb 14 (by kernel_rfl) (show (!((↑s[m - 1].toNat : Int) == 47)) = true by rw [hc23]; rfl)
      refine wp_cond_true (F29.ev (by kernel_rfl)) ?_
      refine wp_skip ?_
      refine hK10 _ _ ?_; clear hK10 K10
      refine wp_seq_k fun K30 hK30 => ?_
      refine wp_block ?_
      refine wp_seq_k fun K31 hK31 => ?_
      refine wp_region_lit ?_
      refine op_q F29 (.string s) ?_; intro a32 F32
      refine op_q F32 (.int .i64 (↑m - 1)) ?_; intro a33 F33
      refine op_rq (v := .int .u8 (↑s[m - 1].toNat)) F33 (r_index rfl Try.underlying9 (F33.e (.string s)) (F33.e (.int .i64 (↑m - 1))) (m - 1) (by first | rfl | omega | simp) (by first | omega | (simp; done) | (simp; omega))) ?_; intro a34 F34
      refine op_q F34 (.bool ((↑s[m - 1].toNat : Int) == 46)) ?_; intro a35 F35
      refine wpList_nil ?_
      refine hK31 _ _ ?_; clear hK31 K31
      rcases btf ((↑s[m - 1].toNat : Int) == 46) with hc36 | hc36
      · have hc36p := eq_of_beq hc36
        have F37 := F35.sb 20 (by kernel_rfl) hc36
        refine wp_cond_true (F37.ev (by kernel_rfl)) ?_
        refine wp_seq_k fun K38 hK38 => ?_
        refine wp_region_lit ?_
        refine op_q F37 (.string s) ?_; intro a39 F39
        refine op_q F39 (.int .i64 (↑m - 1)) ?_; intro a40 F40
        refine op_rq (v := .string (s.extract (m - 1) s.size)) F40 (r_sll rfl Try.underlying9 (F40.e (.string s)) (F40.e (.int .i64 (↑m - 1)))  (m - 1) s.size (by first | rfl | omega | (simp; done) | (simp; omega)) (by first | omega | (simp; done) | (simp; omega)) (rfl)) ?_; intro a41 F41
        refine op_q F41 (.string (s.extract (m - 1) s.size)) ?_; intro a42 F42
        refine wpList_nil ?_
        refine hK38 _ _ ?_; clear hK38 K38
        refine wp_ret ?_
        refine ret_in ?_
        refine ret_then ?_
        refine ret_then ?_
        refine ret_in ?_
        refine ret_then ?_
        refine (F42.res1 rfl (v := .string (s.extract (m - 1) s.size)) (by kernel_rfl) ?_).1
        exact ⟨(by rw [hx, ext_dot hm0 hlt_m hc23 hc36]), S9⟩
      · have hc36p := ne_of_beq_false hc36
        have F43 := F35.sb 20 (by kernel_rfl) hc36
        refine wp_cond_false (F43.ev (by kernel_rfl)) ?_
        refine wp_skip ?_
        refine hK30 _ _ ?_; clear hK30 K30
        refine wp_region_lit ?_
        refine op_q F43 (.int .i64 (↑m - 1)) ?_; intro a44 F44
        refine op_rq (v := .int .i64 (↑(m - 1) - 1)) F44 (r_sub (z := (↑(m - 1) - 1)) rfl (F44.e (.int .i64 (↑m - 1))) (F44.e (.int .i64 1)) (wr64 (by omega) (by omega) (by omega))) ?_; intro a45 F45
        refine op_q F45 (.int .i64 (↑(m - 1) - 1)) ?_; intro a46 F46
        refine wpList_nil ?_
        exact hK9 _ _ _ (by first | omega | (simp; omega)) ⟨m - 1, rfl, (F46.kk 0 (F46.kk 3 F46.nil)), S9, (by first | omega | (with_reducible assumption) | (simp; done)), (by rw [hx]; exact ext_on hm0 hlt_m hc23 hc36)⟩
  · have hm0 : m = 0 := by have := of_decide_eq_false hc15; omega
    have F47 := F14.sb 8 (by kernel_rfl) hc15
    have F48 := F47.sb 9 (by kernel_rfl) hc15
    refine op_kq F48 ?_; intro a49 F49
    refine op_kq F49 ?_; intro a50 F50
    refine op_kq F50 ?_; intro a51 F51
    refine op_kq F51 ?_; intro a52 F52
    refine op_q F52 (.bool false) ?_; intro a53 F53
    refine wpList_nil ?_
    refine hK11 _ _ ?_; clear hK11 K11
    refine wp_cond_false (F53.ev (by kernel_rfl)) ?_
    refine wp_exit ?_
    refine ex_then ?_; clear hK10 K10
    refine ex_then ?_
    refine ex_in ?_
    refine hK3 _ _ ?_; clear hK3 K3
    refine wp_seq_k fun K54 hK54 => ?_
    refine wp_region_lit ?_
    refine op_q F53 (.string ⟨#[]⟩) ?_; intro a55 F55
    refine wpList_nil ?_
    refine hK54 _ _ ?_; clear hK54 K54
    refine wp_ret ?_
    refine (F55.res1 rfl (v := .string ⟨#[]⟩) (by kernel_rfl) ?_).1
    exact ⟨(by rw [hx, hm0]; rfl), S9⟩
set_option maxRecDepth 100000 in
set_option maxHeartbeats 20000000 in
theorem hasExt_sp (s : ByteArray) (R : Ctx) (L : List SA) (w : World) (S : Sp R w (L))  (hs : s.size ≤ 1000000) (ha : ∀ c ∈ bl s, c.toNat ≤ 127) :
    Calls Try.prog 165 #[.string s] w fun e w' => e = .returned (.bool (isYaml (extAt s s.size))) ∧ Sp R w' (L) := by
  have hez := ext_size s s.size
  have he := ext_asc ha s.size
  refine fw_enter (fn := Try.f165) rfl rfl 16 rfl (Nat.le_of_ble_eq_true rfl) ?_
  intro a0 F0
  refine wp_seq_k fun K1 hK1 => ?_
  refine wp_region_lit ?_
  refine op_q F0 (.bool false) ?_; intro a2 F2
  refine wpList_nil ?_
  refine hK1 _ _ ?_; clear hK1 K1
  refine wp_seq_k fun K3 hK3 => ?_
  refine wp_region_lit ?_
  refine op_q F2 (.string s) ?_; intro a4 F4
  refine op_cq F4 (f := 196) (args := #[.string s]) (ext_sp s _ _ _ S (by first | omega | (simp; done) | (simp; omega))) ?_
  rintro _ w5 ⟨rfl, S5⟩
  refine ⟨_, rfl, ?_⟩
  intro a6 F6
  refine op_q F6 (.string (extAt s s.size)) ?_; intro a7 F7
  refine wpList_nil ?_
  refine hK3 _ _ ?_; clear hK3 K3
  refine wp_seq_k fun K8 hK8 => ?_
  refine wp_region_lit ?_
  refine op_q F7 (.string (extAt s s.size)) ?_; intro a9 F9
  refine op_cq F9 (f := 197) (args := #[.string (extAt s s.size), .string ⟨#[46, 121, 97, 109, 108]⟩]) (equalFold_any (extAt s s.size) ⟨#[46, 121, 97, 109, 108]⟩ _ _ _ S5 (by omega) (by decide) (bt0_bl he) (bt0_bl (by decide))) ?_
  rintro _ w10 ⟨rfl, S10⟩
  refine ⟨_, rfl, ?_⟩
  intro a11 F11
  refine op_q F11 (.bool ((lowF (extAt s s.size)).toList == (lowF ⟨#[46, 121, 97, 109, 108]⟩).toList)) ?_; intro a12 F12
  rcases btf ((lowF (extAt s s.size)).toList == (lowF ⟨#[46, 121, 97, 109, 108]⟩).toList) with hc13 | hc13
  · have F14 := F12.sb 7 (by kernel_rfl) hc13
    have F15 := F14.sb 8 (by kernel_rfl) hc13
    refine op_kq F15 ?_; intro a16 F16
    refine op_kq F16 ?_; intro a17 F17
    refine op_q F17 (.bool true) ?_; intro a18 F18
    refine op_q F18 (.bool true) ?_; intro a19 F19
    refine op_kq F19 ?_; intro a20 F20
    refine op_kq F20 ?_; intro a21 F21
    refine op_q F21 (.bool true) ?_; intro a22 F22
    refine op_q F22 (.bool true) ?_; intro a23 F23
    refine wpList_nil ?_
    refine hK8 _ _ ?_; clear hK8 K8
    refine wp_ret ?_
    refine (F23.res1 rfl (v := .bool true) (by kernel_rfl) ?_).1
    exact ⟨(ret_bool (yaml_1 hc13).symm), S10⟩
  · have F24 := F12.sb 7 (by kernel_rfl) hc13
    have F25 := F24.sb 8 (by kernel_rfl) hc13
    refine op_wq F25 ?_
    refine op_q F25 (.string (extAt s s.size)) ?_; intro a26 F26
    refine op_wq F26 ?_
    refine op_cq F26 (f := 197) (args := #[.string (extAt s s.size), .string ⟨#[46, 121, 109, 108]⟩]) (equalFold_any (extAt s s.size) ⟨#[46, 121, 109, 108]⟩ _ _ _ S10 (by omega) (by decide) (bt0_bl he) (bt0_bl (by decide))) ?_
    rintro _ w27 ⟨rfl, S27⟩
    refine ⟨_, rfl, ?_⟩
    intro a28 F28
    refine op_q F28 (.bool ((lowF (extAt s s.size)).toList == (lowF ⟨#[46, 121, 109, 108]⟩).toList)) ?_; intro a29 F29
    refine op_q F29 (.bool ((lowF (extAt s s.size)).toList == (lowF ⟨#[46, 121, 109, 108]⟩).toList)) ?_; intro a30 F30
    rcases btf ((lowF (extAt s s.size)).toList == (lowF ⟨#[46, 121, 109, 108]⟩).toList) with hc31 | hc31
    · have F32 := F30.sb 10 (by kernel_rfl) hc31
      have F33 := F32.sb 11 (by kernel_rfl) hc31
      have F34 := F33.sb 12 (by kernel_rfl) hc31
      refine op_kq F34 ?_; intro a35 F35
      refine op_kq F35 ?_; intro a36 F36
      refine op_q F36 (.bool true) ?_; intro a37 F37
      refine op_q F37 (.bool true) ?_; intro a38 F38
      refine wpList_nil ?_
      refine hK8 _ _ ?_; clear hK8 K8
      refine wp_ret ?_
      refine (F38.res1 rfl (v := .bool true) (by kernel_rfl) ?_).1
      exact ⟨(ret_bool (yaml_2 hc13 hc31).symm), S27⟩
    · have F39 := F30.sb 10 (by kernel_rfl) hc31
      have F40 := F39.sb 11 (by kernel_rfl) hc31
      have F41 := F40.sb 12 (by kernel_rfl) hc31
      refine op_wq F41 ?_
      refine op_q F41 (.string (extAt s s.size)) ?_; intro a42 F42
      refine op_wq F42 ?_
      refine op_cq F42 (f := 197) (args := #[.string (extAt s s.size), .string ⟨#[46, 106, 115, 111, 110]⟩]) (equalFold_any (extAt s s.size) ⟨#[46, 106, 115, 111, 110]⟩ _ _ _ S27 (by omega) (by decide) (bt0_bl he) (bt0_bl (by decide))) ?_
      rintro _ w43 ⟨rfl, S43⟩
      refine ⟨_, rfl, ?_⟩
      intro a44 F44
      refine op_q F44 (.bool ((lowF (extAt s s.size)).toList == (lowF ⟨#[46, 106, 115, 111, 110]⟩).toList)) ?_; intro a45 F45
      refine op_q F45 (.bool ((lowF (extAt s s.size)).toList == (lowF ⟨#[46, 106, 115, 111, 110]⟩).toList)) ?_; intro a46 F46
      refine wpList_nil ?_
      refine hK8 _ _ ?_; clear hK8 K8
      refine wp_ret ?_
      refine (F46.res1 rfl (v := .bool ((lowF (extAt s s.size)).toList == (lowF ⟨#[46, 106, 115, 111, 110]⟩).toList)) (by kernel_rfl) ?_).1
      exact ⟨(ret_bool (yaml_0 hc13 hc31).symm), S43⟩
set_option maxRecDepth 100000 in
set_option maxHeartbeats 20000000 in
theorem chCRD_sp (s : ByteArray) (R : Ctx) (L : List SA) (w : World) (S : Sp R w (L))  (hs : s.size ≤ 1000000) (ha : ∀ c ∈ bl s, c.toNat ≤ 127) :
    Calls Try.prog 101 #[.string s] w fun e w' => e = .returned (.bool (crdB s)) ∧ Sp R w' (L) := by
  refine fw_enter (fn := Try.f101) rfl rfl 44 rfl (Nat.le_of_ble_eq_true rfl) ?_
  intro a0 F0
  refine wp_seq_k fun K1 hK1 => ?_
  refine wp_region_lit ?_
  refine op_q F0 (.bool false) ?_; intro a2 F2
  refine wpList_nil ?_
  refine hK1 _ _ ?_; clear hK1 K1
  refine wp_seq_k fun K3 hK3 => ?_
  refine wp_seq_k fun K4 hK4 => ?_
  refine wp_region_lit ?_
  refine op_q F2 (.string s) ?_; intro a5 F5
  refine op_q F5 (.int .i64 (↑s.size)) ?_; intro a6 F6
  refine op_q F6 (.bool (decide ((↑s.size : Int) < 5))) ?_; intro a7 F7
  refine op_q F7 (.bool (decide ((↑s.size : Int) < 5))) ?_; intro a8 F8
  rcases btf (decide ((↑s.size : Int) < 5)) with hc9 | hc9
  · have F10 := F8.sb 7 (by kernel_rfl) hc9
    have F11 := F10.sb 8 (by kernel_rfl) hc9
    refine op_kq F11 ?_; intro a12 F12
    refine op_kq F12 ?_; intro a13 F13
    refine op_kq F13 ?_; intro a14 F14
    refine op_q F14 (.bool true) ?_; intro a15 F15
    refine wpList_nil ?_
    refine hK4 _ _ ?_; clear hK4 K4
    refine wp_cond_true (F15.ev (by kernel_rfl)) ?_
    refine wp_seq_k fun K16 hK16 => ?_
    refine wp_region_lit ?_
    refine op_q F15 (.bool false) ?_; intro a17 F17
    refine wpList_nil ?_
    refine hK16 _ _ ?_; clear hK16 K16
    refine wp_ret ?_
    refine ret_then ?_
    refine (F17.res1 rfl (v := .bool false) (by kernel_rfl) ?_).1
    exact ⟨(ret_bool (crd_sm hc9).symm), S⟩
  · have h5 : 5 ≤ s.size := by have := of_decide_eq_false hc9; omega
    have F18 := F8.sb 7 (by kernel_rfl) hc9
    have F19 := F18.sb 8 (by kernel_rfl) hc9
    refine op_wq F19 ?_
    refine op_q F19 (.string s) ?_; intro a20 F20
    refine op_wq F20 ?_
    refine op_rq (v := .string (s.extract 0 5)) F20 (r_slh rfl Try.underlying9 (F20.e (.string s)) (F20.e (.int .i64 5))  0 5 (by first | rfl | omega | (simp; done) | (simp; omega)) (by first | omega | (simp; done) | (simp; omega)) (rfl)) ?_; intro a21 F21
    refine op_wq F21 ?_
    refine op_q F21 (.bool (!((s.extract 0 5).toList == (⟨#[99, 114, 100, 115, 47]⟩ : ByteArray).toList))) ?_; intro a22 F22
    refine op_q F22 (.bool (!((s.extract 0 5).toList == (⟨#[99, 114, 100, 115, 47]⟩ : ByteArray).toList))) ?_; intro a23 F23
    refine wpList_nil ?_
    refine hK4 _ _ ?_; clear hK4 K4
    rcases btf ((s.extract 0 5).toList == (⟨#[99, 114, 100, 115, 47]⟩ : ByteArray).toList) with hc24 | hc24
    · have F25 := F23.sb 11 (by kernel_rfl) (show (!((s.extract 0 5).toList == (⟨#[99, 114, 100, 115, 47]⟩ : ByteArray).toList)) = false by rw [hc24]; rfl)
      have F26 := F25.sb 12 (by kernel_rfl) (show (!((s.extract 0 5).toList == (⟨#[99, 114, 100, 115, 47]⟩ : ByteArray).toList)) = false by rw [hc24]; rfl)
      refine wp_cond_false (F26.ev (by kernel_rfl)) ?_
      refine wp_skip ?_
      refine hK3 _ _ ?_; clear hK3 K3
      refine wp_seq_k fun K27 hK27 => ?_
      refine wp_seq_k fun K28 hK28 => ?_
      refine wp_region_lit ?_
      refine op_q F26 (.string s) ?_; intro a29 F29
      refine op_q F29 (.int .i64 (↑s.size)) ?_; intro a30 F30
      refine op_rq (v := .int .i64 (↑s.size - 1)) F30 (r_sub (z := (↑s.size - 1)) rfl (F30.e (.int .i64 (↑s.size))) (F30.e (.int .i64 1)) (wr64 (by omega) (by omega) (by omega))) ?_; intro a31 F31
      refine op_q F31 (.int .i64 (↑s.size - 1)) ?_; intro a32 F32
      refine wpList_nil ?_
      refine hK28 _ _ ?_; clear hK28 K28
      refine wp_block ?_
      refine fw_loop (fun m' a' w' => ∃ m : Nat, m = m' ∧ Fr 44 [] a' [(0, .string s), (3, .int .i64 (↑m - 1))] ∧ Sp R w' (L) ∧ (m ≤ s.size) ∧ (extAt s s.size = extAt s m)) _ ⟨s.size, rfl, (F32.kk 0 (F32.kk 3 F32.nil)), S, (by first | omega | (with_reducible assumption) | (simp; done)), rfl⟩ ?_
      rintro m33 a33 w33 ⟨m, hm33, F33, S33, hm, hx⟩ K33 hK33
      refine wp_seq_k fun K34 hK34 => ?_
      refine wp_seq_k fun K35 hK35 => ?_
      refine wp_region_lit ?_
      refine op_q F33 (.int .i64 (↑m - 1)) ?_; intro a36 F36
      refine op_q F36 (.bool (decide ((0 : Int) ≤ (↑m - 1)))) ?_; intro a37 F37
      refine op_q F37 (.bool (decide ((0 : Int) ≤ (↑m - 1)))) ?_; intro a38 F38
      rcases btf (decide ((0 : Int) ≤ (↑m - 1))) with hc39 | hc39
      · have hm0 : 0 < m := by have := of_decide_eq_true hc39; omega
        have hlt_m : m - 1 < s.size := by omega
        have F40 := F38.sb 17 (by kernel_rfl) hc39
        have F41 := F40.sb 18 (by kernel_rfl) hc39
        refine op_wq F41 ?_
        refine op_q F41 (.string s) ?_; intro a42 F42
        refine op_wq F42 ?_
        refine op_q F42 (.int .i64 (↑m - 1)) ?_; intro a43 F43
        refine op_wq F43 ?_
        refine op_rq (v := .int .u8 (↑s[m - 1].toNat)) F43 (r_index rfl Try.underlying9 (F43.e (.string s)) (F43.e (.int .i64 (↑m - 1))) (m - 1) (by first | rfl | omega | simp) (by first | omega | (simp; done) | (simp; omega))) ?_; intro a44 F44
        refine op_wq F44 ?_
        refine op_q F44 (.bool (!((↑s[m - 1].toNat : Int) == 47))) ?_; intro a45 F45
        refine op_q F45 (.bool (!((↑s[m - 1].toNat : Int) == 47))) ?_; intro a46 F46
        refine wpList_nil ?_
        refine hK35 _ _ ?_; clear hK35 K35
        rcases btf ((↑s[m - 1].toNat : Int) == 47) with hc47 | hc47
        · have hc47p := eq_of_beq hc47
          have F48 := F46.sb 22 (by kernel_rfl) (show (!((↑s[m - 1].toNat : Int) == 47)) = false by rw [hc47]; rfl)
          have F49 := F48.sb 23 (by kernel_rfl) (show (!((↑s[m - 1].toNat : Int) == 47)) = false by rw [hc47]; rfl)
          refine wp_cond_false (F49.ev (by kernel_rfl)) ?_
          refine wp_exit ?_
          refine ex_then ?_; clear hK34 K34
          refine ex_then ?_
          refine ex_in ?_
          refine hK27 _ _ ?_; clear hK27 K27
          refine wp_seq_k fun K50 hK50 => ?_
          refine wp_region_lit ?_
          refine op_q F49 (.bool false) ?_; intro a51 F51
          refine wpList_nil ?_
          refine hK50 _ _ ?_; clear hK50 K50
          refine wp_ret ?_
          refine (F51.res1 rfl (v := .bool false) (by kernel_rfl) ?_).1
          exact ⟨(ret_bool (by rw [(crd_ok hc9 hc24), hx, ext_slash hm0 hlt_m hc47]; exact yam_e.symm)), S33⟩
        · have hc47p := ne_of_beq_false hc47
          have F52 := F46.sb 22 (by kernel_rfl) (show (!((↑s[m - 1].toNat : Int) == 47)) = true by rw [hc47]; rfl)
          have F53 := F52.sb 23 (by kernel_rfl) (show (!((↑s[m - 1].toNat : Int) == 47)) = true by rw [hc47]; rfl)
          refine wp_cond_true (F53.ev (by kernel_rfl)) ?_
          refine wp_skip ?_
          refine hK34 _ _ ?_; clear hK34 K34
          refine wp_seq_k fun K54 hK54 => ?_
          refine wp_block ?_
          refine wp_seq_k fun K55 hK55 => ?_
          refine wp_region_lit ?_
          refine op_q F53 (.string s) ?_; intro a56 F56
          refine op_q F56 (.int .i64 (↑m - 1)) ?_; intro a57 F57
          refine op_rq (v := .int .u8 (↑s[m - 1].toNat)) F57 (r_index rfl Try.underlying9 (F57.e (.string s)) (F57.e (.int .i64 (↑m - 1))) (m - 1) (by first | rfl | omega | simp) (by first | omega | (simp; done) | (simp; omega))) ?_; intro a58 F58
          refine op_q F58 (.bool ((↑s[m - 1].toNat : Int) == 46)) ?_; intro a59 F59
          refine wpList_nil ?_
          refine hK55 _ _ ?_; clear hK55 K55
          rcases btf ((↑s[m - 1].toNat : Int) == 46) with hc60 | hc60
          · have hc60p := eq_of_beq hc60
            have F61 := F59.sb 29 (by kernel_rfl) hc60
            refine wp_cond_true (F61.ev (by kernel_rfl)) ?_
            refine wp_seq_k fun K62 hK62 => ?_
            refine wp_region_lit ?_
            refine op_q F61 (.string s) ?_; intro a63 F63
            refine op_q F63 (.int .i64 (↑m - 1)) ?_; intro a64 F64
            refine op_rq (v := .string (s.extract (m - 1) s.size)) F64 (r_sll rfl Try.underlying9 (F64.e (.string s)) (F64.e (.int .i64 (↑m - 1)))  (m - 1) s.size (by first | rfl | omega | (simp; done) | (simp; omega)) (by first | omega | (simp; done) | (simp; omega)) (rfl)) ?_; intro a65 F65
            refine op_cq F65 (f := 166) (args := #[.string (s.extract (m - 1) s.size)]) (chLower_any (s.extract (m - 1) s.size) _ _ _ S33 (by rw [ByteArray.size_extract]; omega) (bt0_bl (fun c hc => ha c (by rw [bl_ext] at hc; exact List.mem_of_mem_drop (List.mem_of_mem_take hc))))) ?_
            rintro _ w66 ⟨rfl, S66⟩
            refine ⟨_, rfl, ?_⟩
            intro a67 F67
            refine op_q F67 (.string (lowF (s.extract (m - 1) s.size))) ?_; intro a68 F68
            refine wpList_nil ?_
            refine hK62 _ _ ?_; clear hK62 K62
            refine wp_seq_k fun K69 hK69 => ?_
            refine wp_region_lit ?_
            refine op_q F68 (.string (lowF (s.extract (m - 1) s.size))) ?_; intro a70 F70
            refine op_q F70 (.bool ((lowF (s.extract (m - 1) s.size)).toList == (⟨#[46, 121, 97, 109, 108]⟩ : ByteArray).toList)) ?_; intro a71 F71
            refine op_q F71 (.bool ((lowF (s.extract (m - 1) s.size)).toList == (⟨#[46, 121, 97, 109, 108]⟩ : ByteArray).toList)) ?_; intro a72 F72
            rcases btf ((lowF (s.extract (m - 1) s.size)).toList == (⟨#[46, 121, 97, 109, 108]⟩ : ByteArray).toList) with hc73 | hc73
            · have F74 := F72.sb 35 (by kernel_rfl) hc73
              have F75 := F74.sb 36 (by kernel_rfl) hc73
              refine op_kq F75 ?_; intro a76 F76
              refine op_kq F76 ?_; intro a77 F77
              refine op_q F77 (.bool true) ?_; intro a78 F78
              refine op_q F78 (.bool true) ?_; intro a79 F79
              refine op_kq F79 ?_; intro a80 F80
              refine op_kq F80 ?_; intro a81 F81
              refine op_q F81 (.bool true) ?_; intro a82 F82
              refine op_q F82 (.bool true) ?_; intro a83 F83
              refine wpList_nil ?_
              refine hK69 _ _ ?_; clear hK69 K69
              refine wp_ret ?_
              refine ret_in ?_
              refine ret_then ?_
              refine ret_then ?_
              refine ret_in ?_
              refine ret_then ?_
              refine (F83.res1 rfl (v := .bool true) (by kernel_rfl) ?_).1
              exact ⟨(ret_bool (by rw [(crd_ok hc9 hc24), hx, (ext_dot hm0 hlt_m hc47 hc60)]; exact (yam_1 hc73).symm)), S66⟩
            · have F84 := F72.sb 35 (by kernel_rfl) hc73
              have F85 := F84.sb 36 (by kernel_rfl) hc73
              refine op_wq F85 ?_
              refine op_q F85 (.string (lowF (s.extract (m - 1) s.size))) ?_; intro a86 F86
              refine op_wq F86 ?_
              refine op_q F86 (.bool ((lowF (s.extract (m - 1) s.size)).toList == (⟨#[46, 121, 109, 108]⟩ : ByteArray).toList)) ?_; intro a87 F87
              refine op_q F87 (.bool ((lowF (s.extract (m - 1) s.size)).toList == (⟨#[46, 121, 109, 108]⟩ : ByteArray).toList)) ?_; intro a88 F88
              refine op_q F88 (.bool ((lowF (s.extract (m - 1) s.size)).toList == (⟨#[46, 121, 109, 108]⟩ : ByteArray).toList)) ?_; intro a89 F89
              rcases btf ((lowF (s.extract (m - 1) s.size)).toList == (⟨#[46, 121, 109, 108]⟩ : ByteArray).toList) with hc90 | hc90
              · have F91 := F89.sb 38 (by kernel_rfl) hc90
                have F92 := F91.sb 39 (by kernel_rfl) hc90
                have F93 := F92.sb 40 (by kernel_rfl) hc90
                refine op_kq F93 ?_; intro a94 F94
                refine op_kq F94 ?_; intro a95 F95
                refine op_q F95 (.bool true) ?_; intro a96 F96
                refine op_q F96 (.bool true) ?_; intro a97 F97
                refine wpList_nil ?_
                refine hK69 _ _ ?_; clear hK69 K69
                refine wp_ret ?_
                refine ret_in ?_
                refine ret_then ?_
                refine ret_then ?_
                refine ret_in ?_
                refine ret_then ?_
                refine (F97.res1 rfl (v := .bool true) (by kernel_rfl) ?_).1
                exact ⟨(ret_bool (by rw [(crd_ok hc9 hc24), hx, (ext_dot hm0 hlt_m hc47 hc60)]; exact (yam_2 hc73 hc90).symm)), S66⟩
              · have F98 := F89.sb 38 (by kernel_rfl) hc90
                have F99 := F98.sb 39 (by kernel_rfl) hc90
                have F100 := F99.sb 40 (by kernel_rfl) hc90
                refine op_wq F100 ?_
                refine op_q F100 (.string (lowF (s.extract (m - 1) s.size))) ?_; intro a101 F101
                refine op_wq F101 ?_
                refine op_q F101 (.bool ((lowF (s.extract (m - 1) s.size)).toList == (⟨#[46, 106, 115, 111, 110]⟩ : ByteArray).toList)) ?_; intro a102 F102
                refine op_q F102 (.bool ((lowF (s.extract (m - 1) s.size)).toList == (⟨#[46, 106, 115, 111, 110]⟩ : ByteArray).toList)) ?_; intro a103 F103
                refine op_q F103 (.bool ((lowF (s.extract (m - 1) s.size)).toList == (⟨#[46, 106, 115, 111, 110]⟩ : ByteArray).toList)) ?_; intro a104 F104
                refine wpList_nil ?_
                refine hK69 _ _ ?_; clear hK69 K69
                refine wp_ret ?_
                refine ret_in ?_
                refine ret_then ?_
                refine ret_then ?_
                refine ret_in ?_
                refine ret_then ?_
                refine (F104.res1 rfl (v := .bool ((lowF (s.extract (m - 1) s.size)).toList == (⟨#[46, 106, 115, 111, 110]⟩ : ByteArray).toList)) (by kernel_rfl) ?_).1
                exact ⟨(ret_bool (by rw [(crd_ok hc9 hc24), hx, (ext_dot hm0 hlt_m hc47 hc60)]; exact (yam_0 hc73 hc90).symm)), S66⟩
          · have hc60p := ne_of_beq_false hc60
            have F105 := F59.sb 29 (by kernel_rfl) hc60
            refine wp_cond_false (F105.ev (by kernel_rfl)) ?_
            refine wp_skip ?_
            refine hK54 _ _ ?_; clear hK54 K54
            refine wp_region_lit ?_
            refine op_q F105 (.int .i64 (↑m - 1)) ?_; intro a106 F106
            refine op_rq (v := .int .i64 (↑(m - 1) - 1)) F106 (r_sub (z := (↑(m - 1) - 1)) rfl (F106.e (.int .i64 (↑m - 1))) (F106.e (.int .i64 1)) (wr64 (by omega) (by omega) (by omega))) ?_; intro a107 F107
            refine op_q F107 (.int .i64 (↑(m - 1) - 1)) ?_; intro a108 F108
            refine wpList_nil ?_
            exact hK33 _ _ _ (by first | omega | (simp; omega)) ⟨m - 1, rfl, (F108.kk 0 (F108.kk 3 F108.nil)), S33, (by first | omega | (with_reducible assumption) | (simp; done)), (by rw [hx]; exact ext_on hm0 hlt_m hc47 hc60)⟩
      · have hm0 : m = 0 := by have := of_decide_eq_false hc39; omega
        have F109 := F38.sb 17 (by kernel_rfl) hc39
        have F110 := F109.sb 18 (by kernel_rfl) hc39
        refine op_kq F110 ?_; intro a111 F111
        refine op_kq F111 ?_; intro a112 F112
        refine op_kq F112 ?_; intro a113 F113
        refine op_kq F113 ?_; intro a114 F114
        refine op_q F114 (.bool false) ?_; intro a115 F115
        refine wpList_nil ?_
        refine hK35 _ _ ?_; clear hK35 K35
        refine wp_cond_false (F115.ev (by kernel_rfl)) ?_
        refine wp_exit ?_
        refine ex_then ?_; clear hK34 K34
        refine ex_then ?_
        refine ex_in ?_
        refine hK27 _ _ ?_; clear hK27 K27
        refine wp_seq_k fun K116 hK116 => ?_
        refine wp_region_lit ?_
        refine op_q F115 (.bool false) ?_; intro a117 F117
        refine wpList_nil ?_
        refine hK116 _ _ ?_; clear hK116 K116
        refine wp_ret ?_
        refine (F117.res1 rfl (v := .bool false) (by kernel_rfl) ?_).1
        exact ⟨(ret_bool (by rw [(crd_ok hc9 hc24), hx, hm0]; exact yam_e.symm)), S33⟩
    · have F118 := F23.sb 11 (by kernel_rfl) (show (!((s.extract 0 5).toList == (⟨#[99, 114, 100, 115, 47]⟩ : ByteArray).toList)) = true by rw [hc24]; rfl)
      have F119 := F118.sb 12 (by kernel_rfl) (show (!((s.extract 0 5).toList == (⟨#[99, 114, 100, 115, 47]⟩ : ByteArray).toList)) = true by rw [hc24]; rfl)
      refine wp_cond_true (F119.ev (by kernel_rfl)) ?_
      refine wp_seq_k fun K120 hK120 => ?_
      refine wp_region_lit ?_
      refine op_q F119 (.bool false) ?_; intro a121 F121
      refine wpList_nil ?_
      refine hK120 _ _ ?_; clear hK120 K120
      refine wp_ret ?_
      refine ret_then ?_
      refine (F121.res1 rfl (v := .bool false) (by kernel_rfl) ?_).1
      exact ⟨(ret_bool (crd_ne hc24).symm), S⟩
end Go.Proofs.Ytkjcedlgljeoiaa

