/- Texts Vf2, Ig2, Ig3, Ig4, Lc3, Lc4, Vf3, Vf4, Ig5, laid together. -/
import Derived.WalkKit
import Derived.WalkLawsBesides
import Derived.WalkSpells
import Derived.Lib.Hide
import Derived.Deep.RegionWith
import Derived.Deep.DeepCutAuto
import Derived.Deep.QuietTactic
import Derived.BigQuiet
import Derived.Laws.OwnMore
import Derived.Deep.LoopGhost
import Derived.KernelRfl
import Derived.Deep.WholeRow
import Derived.StillTail
import Derived.SliceStrings
import Derived.Deep.Slices
import Derived.Deep.Fields
import Derived.ChangeSame
import Derived.Deep.MidRow
import Derived.Maps.AppendAt
import Derived.Lib.AppendStr
import Derived.Lib.ConvBytes
import Derived.Laws.BytesArg
import Derived.Deep.RegionLaw
import Derived.OwnWalk
import Derived.Maps.OwnSet
import Derived.Maps.OwnOps
import Derived.ArgAppend
import Derived.Defers
import Derived.Recover
import Derived.Laws.Pointers
import Derived.Laws.StructEq
import Derived.IntWalk
import Derived.Test.YtkjcedlgljeoiaaProg
import Derived.BigRegion
import Derived.Deep.CutBlock
import Derived.Carry
import Derived.Test.YtkjcedlgljeoiaaIGc
/- Entries of an index in memory: impl.entriesOf, entryTold. -/
namespace Go.Proofs.Ytkjcedlgljeoiaa
open Go.RowKit Go.Lib
set_option linter.unusedVariables false
set_option linter.unusedSimpArgs false
def metV (m : Ty26) (B1 : Option Addr) (b1 : Nat) (B2 : Option Addr) (b2 : Nat) (B3 : Option Addr) (b3 : Nat) (B4 : Option Addr) (b4 : Nat) (ds : List Ty80) : Ty26 := { m with fSources_a := B1, fSources_c := b1, fKeywords_a := B2, fKeywords_c := b2, fMaintainers_a := B3, fMaintainers_c := b3, fMaintainers := m.fMaintainers.map perT, fDependencies_a := B4, fDependencies_c := b4, fDependencies := ds }
/-- Metadata that are told, by where their rows lie. -/
def SA.mvx (m : Ty26) (B1 : Option Addr) (b1 : Nat) (B2 : Option Addr) (b2 : Nat) (B3 : Option Addr) (b3 : Nat) (B4 : Option Addr) (b4 : Nat) : SA := SA.ex fun ds : List Ty80 => SA.star (SA.pure (ds.map depS = m.fDependencies.map fun d => depT d none 0)) (SA.mv (metV m B1 b1 B2 b2 B3 b3 B4 b4 ds))
theorem metV_S {m : Ty26} {B1 : Option Addr} {b1 : Nat} {B2 : Option Addr} {b2 : Nat} {B3 : Option Addr} {b3 : Nat} {B4 : Option Addr} {b4 : Nat} {ds : List Ty80} (hds : ds.map depS = m.fDependencies.map fun d => depT d none 0) : metS (metV m B1 b1 B2 b2 B3 b3 B4 b4 ds) = metT m := by
  unfold metT metS metV
  simp only [hds, List.map_map]
  congr 1
  exact List.map_congr_left fun d _ => (depS_told).symm
theorem Sp.mvx_open {R : Ctx} {w : World} {L : List SA} {m : Ty26} {B1 : Option Addr} {b1 : Nat} {B2 : Option Addr} {b2 : Nat} {B3 : Option Addr} {b3 : Nat} {B4 : Option Addr} {b4 : Nat} (S : Sp R w (SA.mvx m B1 b1 B2 b2 B3 b3 B4 b4 :: L)) : ∃ y : Ty26, y.cells = [.string m.fName, .string m.fHome, .string m.fVersion, .string m.fDescription, .string m.fIcon, .string m.fAPIVersion, .string m.fCondition, .string m.fTags, .string m.fAppVersion, .string m.fKubeVersion, .string m.fType, .slice B1 m.fSources.length b1, .slice B2 m.fKeywords.length b2, .slice B3 m.fMaintainers.length b3, .slice B4 m.fDependencies.length b4] ∧ Sp R w (SA.mv y :: L) ∧ metS y = metT m := by
  obtain ⟨ds, S⟩ := Sp.ex.1 S
  obtain ⟨hds, S⟩ := Sp.pure.1 (Sp.star.1 S)
  have hdl : ds.length = m.fDependencies.length := by have := congrArg List.length hds; simpa using this
  have hpl : (m.fMaintainers.map perT).length = m.fMaintainers.length := List.length_map _
  refine ⟨_, ?_, S, metV_S hds⟩
  simp only [Ty26.cells, metV, hdl, hpl]
theorem metaTold_f (m : Ty26) (g : Nat) (R : Ctx) (L : List SA) (w : World) (S : Sp R w (SA.met g m :: L)) (hm1 : m.fSources.length ≤ 1000000) (hm2 : m.fKeywords.length ≤ 1000000) (hm3 : m.fMaintainers.length ≤ 1000000) (hm4 : m.fDependencies.length ≤ 1000000) (hm5 : ∀ d ∈ m.fDependencies, d.fTags.length ≤ 1000000) : Calls Try.prog 117 #[.pointer (some ⟨g, 0, none⟩)] w fun e w' => ∃ (B1 : Option Addr) (b1 : Nat) (B2 : Option Addr) (b2 : Nat) (B3 : Option Addr) (b3 : Nat) (B4 : Option Addr) (b4 : Nat), e = .returned (.agg #[.string m.fName, .string m.fHome, .string m.fVersion, .string m.fDescription, .string m.fIcon, .string m.fAPIVersion, .string m.fCondition, .string m.fTags, .string m.fAppVersion, .string m.fKubeVersion, .string m.fType, .slice B1 m.fSources.length b1, .slice B2 m.fKeywords.length b2, .slice B3 m.fMaintainers.length b3, .slice B4 m.fDependencies.length b4]) ∧ Sp R w' (SA.mvx m B1 b1 B2 b2 B3 b3 B4 b4 :: SA.met g m :: L) := by
  obtain ⟨A1, c1, A2, c2, A3, c3, qs, A4, c4, us, S1⟩ := S.met_open
  refine (metaTold_sp m g A1 c1 A2 c2 A3 c3 A4 c4 qs us R (SA.blk g 237 #[.string m.fName, .string m.fHome, .slice A1 m.fSources.length c1, .string m.fVersion, .string m.fDescription, .slice A2 m.fKeywords.length c2, .slice A3 qs.length c3, .string m.fIcon, .string m.fAPIVersion, .string m.fCondition, .string m.fTags, .string m.fAppVersion, .bool false, .map none, .string m.fKubeVersion, .slice A4 us.length c4, .string m.fType] :: SA.own0 (.slice A1 m.fSources.length c1) 9 1 m.fSources.length (strs m.fSources) :: SA.own0 (.slice A2 m.fKeywords.length c2) 9 1 m.fKeywords.length (strs m.fKeywords) :: SA.own (.slice A3 qs.length c3) 238 1 qs.length (pps qs) :: SA.own (.slice A4 us.length c4) 240 1 us.length (pps us) :: L) w S1.p6.p5 (fun w S => S.bk 0 rfl) (fun w S => own0_sl1 (S.ow0 1 rfl) (by omega)) (fun w S => own0_sl1 (S.ow0 2 rfl) (by omega)) (fun w S => own_sl1 (S.ow 3 rfl) (by have := Sp.zlen S1.p4; omega)) (fun w S => own_sl1 (S.ow 4 rfl) (by have := Sp.zlen S1.p6; omega)) hm1 hm2 hm3 hm4 hm5).mono ?_
  rintro e w' ⟨B1, b1, B2, b2, B3, b3, B4, b4, ds, rfl, S2, hds⟩
  have hdl : ds.length = m.fDependencies.length := by have := congrArg List.length hds; simpa using this
  have hpl : (m.fMaintainers.map perT).length = m.fMaintainers.length := List.length_map _
  refine ⟨B1, b1, B2, b2, B3, b3, B4, b4, rfl, ?_⟩
  rw [← hpl, ← hdl] at S2
  have S3 := Sp.met_mk S2.p6.p11.p7.p11.p11.p11.p11
  exact Sp.ex.2 ⟨ds, Sp.star.2 (Sp.pure.2 ⟨hds, Sp.mv_mk (y := metV m B1 b1 B2 b2 B3 b3 B4 b4 ds) (Sp.own0_of (Sp.own0_of S3.p5.p5).p5).p5.p5⟩)⟩
/-- The metadata of an entry, or none. -/
def SA.mtp (q : Option Addr) (e : Ty69) : SA := cond e.fBare (SA.pure (q = none)) (SA.ex fun gm : Nat => SA.star (SA.pure (q = some ⟨gm, 0, none⟩)) (SA.met gm e.fMeta))
/-- An entry as an object, or none. -/
def SA.ent (q : Option Addr) (e : Ty69) : SA := cond e.fNil (SA.pure (q = none)) (SA.ex fun g : Nat => SA.ex fun q2 : Option Addr => SA.ex fun A : Option Addr => SA.ex fun c : Nat => SA.star (SA.pure (q = some ⟨g, 0, none⟩)) (SA.stars [SA.blk g 229 #[.pointer q2, .slice A e.fURLs.length c, .bool false, .string e.fDigest, .string ⟨#[]⟩, .string ⟨#[]⟩, .string ⟨#[]⟩, .string ⟨#[]⟩], SA.own0 (.slice A e.fURLs.length c) 9 1 e.fURLs.length (strs e.fURLs), SA.mtp q2 e]))
section
variable {R : Ctx} {w : World} {L : List SA} {q : Option Addr} {e : Ty69} {g gm c : Nat} {A : Option Addr}
theorem Sp.ent_mk (hn : e.fNil = false) (hb : e.fBare = false) (S : Sp R w (SA.blk g 229 #[.pointer (some ⟨gm, 0, none⟩), .slice A e.fURLs.length c, .bool false, .string e.fDigest, .string ⟨#[]⟩, .string ⟨#[]⟩, .string ⟨#[]⟩, .string ⟨#[]⟩] :: SA.own0 (.slice A e.fURLs.length c) 9 1 e.fURLs.length (strs e.fURLs) :: SA.met gm e.fMeta :: L)) : Sp R w (SA.ent (some ⟨g, 0, none⟩) e :: L) := by
  unfold SA.ent; rw [hn]
  refine Sp.ex.2 ⟨g, Sp.ex.2 ⟨some ⟨gm, 0, none⟩, Sp.ex.2 ⟨A, Sp.ex.2 ⟨c, Sp.star.2 (Sp.pure.2 ⟨rfl, (Sp.stars (l := [_, _, _])).2 ?_⟩)⟩⟩⟩⟩
  have S1 : Sp R w (SA.mtp (some ⟨gm, 0, none⟩) e :: SA.blk g 229 #[.pointer (some ⟨gm, 0, none⟩), .slice A e.fURLs.length c, .bool false, .string e.fDigest, .string ⟨#[]⟩, .string ⟨#[]⟩, .string ⟨#[]⟩, .string ⟨#[]⟩] :: SA.own0 (.slice A e.fURLs.length c) 9 1 e.fURLs.length (strs e.fURLs) :: L) := by unfold SA.mtp; rw [hb]; exact Sp.ex.2 ⟨gm, Sp.star.2 (Sp.pure.2 ⟨rfl, S.p2⟩)⟩
  exact S1.p2.p2
theorem Sp.ent_open (hn : e.fNil = false) (hb : e.fBare = false) (S : Sp R w (SA.ent q e :: L)) : ∃ (g gm : Nat) (A : Option Addr) (c : Nat), q = some ⟨g, 0, none⟩ ∧ Sp R w (SA.blk g 229 #[.pointer (some ⟨gm, 0, none⟩), .slice A e.fURLs.length c, .bool false, .string e.fDigest, .string ⟨#[]⟩, .string ⟨#[]⟩, .string ⟨#[]⟩, .string ⟨#[]⟩] :: SA.own0 (.slice A e.fURLs.length c) 9 1 e.fURLs.length (strs e.fURLs) :: SA.met gm e.fMeta :: L) := by
  unfold SA.ent at S; rw [hn] at S
  obtain ⟨g, S⟩ := Sp.ex.1 S; obtain ⟨q2, S⟩ := Sp.ex.1 S; obtain ⟨A, S⟩ := Sp.ex.1 S; obtain ⟨c, S⟩ := Sp.ex.1 S
  obtain ⟨hq, S⟩ := Sp.pure.1 (Sp.star.1 S)
  have S2 := (Sp.stars.1 S : Sp R w (_ :: _ :: SA.mtp q2 e :: L)).p2
  unfold SA.mtp at S2; rw [hb] at S2
  obtain ⟨gm, S2⟩ := Sp.ex.1 S2
  obtain ⟨rfl, S2⟩ := Sp.pure.1 (Sp.star.1 S2)
  exact ⟨g, gm, A, c, hq, S2.p2.p2⟩
end
def EntOk (e : Ty69) : Prop := e.fNil = false ∧ e.fBare = false ∧ e.fURLs.length ≤ 200 ∧ mfitsB e.fMeta = true ∧ ∀ d ∈ e.fMeta.fDependencies, d.fTags.length ≤ 1000000

set_option maxRecDepth 100000 in
set_option maxHeartbeats 20000000 in
theorem entriesOf_sp (A : Option Addr) (c : Nat) (es : List Ty69) (R : Ctx) (L : List SA) (w : World) (S : Sp R w (L)) (h0 : Rf R L fun w => Rows w (A) 19 (es.map Ty69.cells)) (h1 : Rf R L fun w => ∀ e ∈ es, Sl w e.fURLs_a (strs e.fURLs) ∧ MetaAt w e.fMeta) (hnb : ∀ e ∈ es, EntOk e) (hl : es.length ≤ 200) :
  Calls Try.prog 85 #[.slice (A) (es.length) (c)] w fun e w' => ∃ B : Option Addr, ∃ b : Nat, ∃ qs : List (Option Addr), e = .returned (.tuple #[.slice B qs.length b, .bool true]) ∧ Sp R w' (SA.own (.slice B qs.length b) 154 1 qs.length (pps qs) :: SA.zips SA.ent qs es :: L) := by
 have hl_es : es.length ≤ 9223372036854775807 := by have := (h0 _ S).1; simpa [strs, ptrs, pps] using this
 refine fw_enter (fn := Try.f85) rfl rfl 55 rfl (Nat.le_of_ble_eq_true rfl) ?_
 intro a0 F0
 refine wp_seq_k fun K1 hK1 => ?_
 refine wp_region_lit ?_
 refine op_q F0 (.slice none 0 0) ?_; intro a2 F2
 refine op_q F2 (.bool false) ?_; intro a3 F3
 refine wpList_nil ?_
 refine hK1 _ _ ?_; clear hK1 K1
 refine wp_seq_k fun K4 hK4 => ?_
 refine wp_region_lit ?_
 refine op_q F3 (.slice none 0 0) ?_; intro a5 F5
 refine wpList_nil ?_
 refine hK4 _ _ ?_; clear hK4 K4
 refine wp_seq_k fun K6 hK6 => ?_
 refine wp_seq_k fun K7 hK7 => ?_
 refine wp_region_lit ?_
 refine op_q F5 (.slice (A) (es.length) (c)) ?_; intro a8 F8
 refine op_q F8 (.int .i64 (↑es.length)) ?_; intro a9 F9
 refine op_q F9 (.int .i64 0) ?_; intro a10 F10
 refine wpList_nil ?_
 refine hK7 _ _ ?_; clear hK7 K7
 refine wp_block ?_
 have S11 : Sp R w (SA.zips SA.ent [] (es.take 0) :: L) := Sp.znil S
 have S12 := Sp.nilown (e := 154) (sz := 1) S11
 refine fw_loop (fun m' a' w' => ∃ B : Option Addr, ∃ b : Nat, ∃ qs : List (Option Addr), ∃ k : Nat, es.length - k = m' ∧ Fr 55 [] a' [(0, .slice (A) (es.length) (c)), (4, .slice B qs.length b), (8, .slice (A) (es.length) (c)), (9, .int .i64 (↑es.length)), (10, .int .i64 (↑k))] ∧ Sp R w' (SA.own (.slice B qs.length b) 154 1 qs.length (pps qs) :: SA.zips SA.ent qs (es.take k) :: L) ∧ (k ≤ es.length) ∧ (qs.length = k)) _ ⟨none, 0, [], 0, rfl, (F10.kk 0 (F10.kk 4 (F10.kk 8 (F10.kk 9 (F10.kk 10 F10.nil))))), S12.p1.p1, (by first | omega | (with_reducible assumption) | (simp; done)), rfl⟩ ?_
 rintro m13 a13 w13 ⟨B, b, qs, k, hm13, F13, S13, hk, hql⟩ K13 hK13
 by_cases hlt_k : k < es.length
 ·have hc_k : decide ((↑k : Int) < ↑es.length) = true := by first | (simp; done) | (simp; omega)
  obtain ⟨ad14, hA14⟩ := (h0 _ S13.drop.drop).addr (by simp; omega)
  obtain ⟨hen, heb, heu, hef, het⟩ := hnb _ (List.getElem_mem hlt_k)
  obtain ⟨hef1, hef2, hef3, hef4⟩ := mfits_len hef
  have hks : Rf R L fun w => Sl w es[k].fURLs_a (strs es[k].fURLs) := fun w S => (h1 w S _ (List.getElem_mem hlt_k)).1
  have hkm : Rf R L fun w => MetaAt w es[k].fMeta := fun w S => (h1 w S _ (List.getElem_mem hlt_k)).2
  refine wp_seq_k fun K15 hK15 => ?_
  refine wp_region_lit ?_
  refine op_q F13 (.bool (decide ((↑k : Int) < ↑es.length))) ?_; intro a16 F16
  have F17 := F16.sb 11 (by kernel_rfl) hc_k
  refine wpList_nil ?_
  refine hK15 _ _ ?_; clear hK15 K15
  refine wp_seq_k fun K18 hK18 => ?_
  refine wp_cond_true (F17.ev (by kernel_rfl)) ?_
  refine wp_skip ?_
  refine hK18 _ _ ?_; clear hK18 K18
  refine wp_seq_k fun K19 hK19 => ?_
  refine wp_block ?_
  refine wp_seq_k fun K20 hK20 => ?_
  refine wp_region_lit ?_
  refine op_rq (v := .pointer (some (ad14.add (k * 19)))) F17 (r_ix rfl Try.underlying65 19 (by kernel_rfl) (F17.e (.slice (A) (es.length) (c))) hA14 (F17.e (.int .i64 (↑k))) k (by first | rfl | omega | simp) (by first | omega | (simp; done) | (simp; omega)) (rfl)) ?_; intro a21 F21
  refine op_rq (v := .agg #[.bool es[k].fNil, .bool es[k].fBare, .string es[k].fMeta.fName, .string es[k].fMeta.fHome, .string es[k].fMeta.fVersion, .string es[k].fMeta.fDescription, .string es[k].fMeta.fIcon, .string es[k].fMeta.fAPIVersion, .string es[k].fMeta.fCondition, .string es[k].fMeta.fTags, .string es[k].fMeta.fAppVersion, .string es[k].fMeta.fKubeVersion, .string es[k].fMeta.fType, .slice es[k].fMeta.fSources_a es[k].fMeta.fSources.length es[k].fMeta.fSources_c, .slice es[k].fMeta.fKeywords_a es[k].fMeta.fKeywords.length es[k].fMeta.fKeywords_c, .slice es[k].fMeta.fMaintainers_a es[k].fMeta.fMaintainers.length es[k].fMeta.fMaintainers_c, .slice es[k].fMeta.fDependencies_a es[k].fMeta.fDependencies.length es[k].fMeta.fDependencies_c, .slice es[k].fURLs_a es[k].fURLs.length es[k].fURLs_c, .string es[k].fDigest]) F21 (r_ldR rfl (F21.e (.pointer (some (ad14.add (k * 19))))) (cs := [.bool es[k].fNil, .bool es[k].fBare, .string es[k].fMeta.fName, .string es[k].fMeta.fHome, .string es[k].fMeta.fVersion, .string es[k].fMeta.fDescription, .string es[k].fMeta.fIcon, .string es[k].fMeta.fAPIVersion, .string es[k].fMeta.fCondition, .string es[k].fMeta.fTags, .string es[k].fMeta.fAppVersion, .string es[k].fMeta.fKubeVersion, .string es[k].fMeta.fType, .slice es[k].fMeta.fSources_a es[k].fMeta.fSources.length es[k].fMeta.fSources_c, .slice es[k].fMeta.fKeywords_a es[k].fMeta.fKeywords.length es[k].fMeta.fKeywords_c, .slice es[k].fMeta.fMaintainers_a es[k].fMeta.fMaintainers.length es[k].fMeta.fMaintainers_c, .slice es[k].fMeta.fDependencies_a es[k].fMeta.fDependencies.length es[k].fMeta.fDependencies_c, .slice es[k].fURLs_a es[k].fURLs.length es[k].fURLs_c, .string es[k].fDigest]) ((h0 _ S13.drop.drop).elA hA14 (j := k) (row := es[k].cells) (by rw [List.getElem?_map, List.getElem?_eq_getElem hlt_k]; rfl)) Try.underlying69 rfl (by kernel_rfl) (v := #[.bool es[k].fNil, .bool es[k].fBare, .string es[k].fMeta.fName, .string es[k].fMeta.fHome, .string es[k].fMeta.fVersion, .string es[k].fMeta.fDescription, .string es[k].fMeta.fIcon, .string es[k].fMeta.fAPIVersion, .string es[k].fMeta.fCondition, .string es[k].fMeta.fTags, .string es[k].fMeta.fAppVersion, .string es[k].fMeta.fKubeVersion, .string es[k].fMeta.fType, .slice es[k].fMeta.fSources_a es[k].fMeta.fSources.length es[k].fMeta.fSources_c, .slice es[k].fMeta.fKeywords_a es[k].fMeta.fKeywords.length es[k].fMeta.fKeywords_c, .slice es[k].fMeta.fMaintainers_a es[k].fMeta.fMaintainers.length es[k].fMeta.fMaintainers_c, .slice es[k].fMeta.fDependencies_a es[k].fMeta.fDependencies.length es[k].fMeta.fDependencies_c, .slice es[k].fURLs_a es[k].fURLs.length es[k].fURLs_c, .string es[k].fDigest]) (by kernel_rfl)) ?_; intro a22 F22
  refine op_sq F22 (s_newp F22 69 zq18 (by kernel_rfl) (by kernel_rfl) (by kernel_rfl) S13) ?_
  rintro _ _ w24 ⟨g22, rfl, rfl⟩ S24 a24 F24
  refine op_sq0 F24 (s_stb rfl (F24.e (.pointer (some ⟨g22, 0, none⟩))) (F24.e (.agg #[.bool es[k].fNil, .bool es[k].fBare, .string es[k].fMeta.fName, .string es[k].fMeta.fHome, .string es[k].fMeta.fVersion, .string es[k].fMeta.fDescription, .string es[k].fMeta.fIcon, .string es[k].fMeta.fAPIVersion, .string es[k].fMeta.fCondition, .string es[k].fMeta.fTags, .string es[k].fMeta.fAppVersion, .string es[k].fMeta.fKubeVersion, .string es[k].fMeta.fType, .slice es[k].fMeta.fSources_a es[k].fMeta.fSources.length es[k].fMeta.fSources_c, .slice es[k].fMeta.fKeywords_a es[k].fMeta.fKeywords.length es[k].fMeta.fKeywords_c, .slice es[k].fMeta.fMaintainers_a es[k].fMeta.fMaintainers.length es[k].fMeta.fMaintainers_c, .slice es[k].fMeta.fDependencies_a es[k].fMeta.fDependencies.length es[k].fMeta.fDependencies_c, .slice es[k].fURLs_a es[k].fURLs.length es[k].fURLs_c, .string es[k].fDigest])) S24 (by kernel_rfl) rfl (by kernel_rfl)) ?_
  rintro _ _ w25 rfl S25 F25
  refine wpList_nil ?_
  refine hK20 _ _ ?_; clear hK20 K20
  refine wp_seq_k fun K26 hK26 => ?_
  refine wp_seq_k fun K27 hK27 => ?_
  refine wp_region_lit ?_
  refine op_q F25 (.pointer (some ⟨g22, 17, none⟩)) ?_; intro a28 F28
  refine op_rq (v := .slice es[k].fURLs_a es[k].fURLs.length es[k].fURLs_c) F28 (r_ld rfl (F28.e (.pointer (some ⟨g22, 17, none⟩))) (v := .slice es[k].fURLs_a es[k].fURLs.length es[k].fURLs_c) ((S25.bk 0 rfl).cell 17) Try.underlying22 rfl) ?_; intro a29 F29
  refine op_q F29 (.int .i64 (↑es[k].fURLs.length)) ?_; intro a30 F30
  refine op_q F30 (.bool (decide ((200 : Int) < ↑es[k].fURLs.length))) ?_; intro a31 F31
  refine op_q F31 (.bool (decide ((200 : Int) < ↑es[k].fURLs.length))) ?_; intro a32 F32
  have hc33 : (decide ((200 : Int) < ↑es[k].fURLs.length)) = false := (by simp; omega)
  have F34 := F32.sb 17 (by kernel_rfl) hc33
  have F35 := F34.sb 18 (by kernel_rfl) hc33
  refine op_wq F35 ?_
  refine op_q F35 (.pointer (some ⟨g22, 2, none⟩)) ?_; intro a36 F36
  refine op_wq F36 ?_
  refine op_rq (v := .agg #[.string es[k].fMeta.fName, .string es[k].fMeta.fHome, .string es[k].fMeta.fVersion, .string es[k].fMeta.fDescription, .string es[k].fMeta.fIcon, .string es[k].fMeta.fAPIVersion, .string es[k].fMeta.fCondition, .string es[k].fMeta.fTags, .string es[k].fMeta.fAppVersion, .string es[k].fMeta.fKubeVersion, .string es[k].fMeta.fType, .slice es[k].fMeta.fSources_a es[k].fMeta.fSources.length es[k].fMeta.fSources_c, .slice es[k].fMeta.fKeywords_a es[k].fMeta.fKeywords.length es[k].fMeta.fKeywords_c, .slice es[k].fMeta.fMaintainers_a es[k].fMeta.fMaintainers.length es[k].fMeta.fMaintainers_c, .slice es[k].fMeta.fDependencies_a es[k].fMeta.fDependencies.length es[k].fMeta.fDependencies_c]) F36 (r_ldm rfl (F36.e (.pointer (some ⟨g22, 2, none⟩))) (S25.bk 0 rfl) 15 (by kernel_rfl) Try.underlying26 rfl (by kernel_rfl) (v := #[.string es[k].fMeta.fName, .string es[k].fMeta.fHome, .string es[k].fMeta.fVersion, .string es[k].fMeta.fDescription, .string es[k].fMeta.fIcon, .string es[k].fMeta.fAPIVersion, .string es[k].fMeta.fCondition, .string es[k].fMeta.fTags, .string es[k].fMeta.fAppVersion, .string es[k].fMeta.fKubeVersion, .string es[k].fMeta.fType, .slice es[k].fMeta.fSources_a es[k].fMeta.fSources.length es[k].fMeta.fSources_c, .slice es[k].fMeta.fKeywords_a es[k].fMeta.fKeywords.length es[k].fMeta.fKeywords_c, .slice es[k].fMeta.fMaintainers_a es[k].fMeta.fMaintainers.length es[k].fMeta.fMaintainers_c, .slice es[k].fMeta.fDependencies_a es[k].fMeta.fDependencies.length es[k].fMeta.fDependencies_c]) (by kernel_rfl)) ?_; intro a37 F37
  refine op_wq F37 ?_
  refine op_cq F37 (f := 93) (args := #[.agg #[.string es[k].fMeta.fName, .string es[k].fMeta.fHome, .string es[k].fMeta.fVersion, .string es[k].fMeta.fDescription, .string es[k].fMeta.fIcon, .string es[k].fMeta.fAPIVersion, .string es[k].fMeta.fCondition, .string es[k].fMeta.fTags, .string es[k].fMeta.fAppVersion, .string es[k].fMeta.fKubeVersion, .string es[k].fMeta.fType, .slice es[k].fMeta.fSources_a es[k].fMeta.fSources.length es[k].fMeta.fSources_c, .slice es[k].fMeta.fKeywords_a es[k].fMeta.fKeywords.length es[k].fMeta.fKeywords_c, .slice es[k].fMeta.fMaintainers_a es[k].fMeta.fMaintainers.length es[k].fMeta.fMaintainers_c, .slice es[k].fMeta.fDependencies_a es[k].fMeta.fDependencies.length es[k].fMeta.fDependencies_c]]) (metaFits_sp es[k].fMeta _ _ _ S25 ) ?_
  rintro _ w38 ⟨rfl, S38⟩
  refine ⟨_, rfl, ?_⟩
  intro a39 F39
  refine op_wq F39 ?_
  refine op_q F39 (.bool (!(mfitsB es[k].fMeta))) ?_; intro a40 F40
  refine op_q F40 (.bool (!(mfitsB es[k].fMeta))) ?_; intro a41 F41
  refine wpList_nil ?_
  refine hK27 _ _ ?_; clear hK27 K27
  have hc42 : (mfitsB es[k].fMeta) = true := hef
  have F43 := F41.sb 21 (by kernel_rfl) hc42
  have F44 := F43.sb 22 (by kernel_rfl) (show (!(mfitsB es[k].fMeta)) = false by rw [hc42]; rfl)
  have F45 := F44.sb 23 (by kernel_rfl) (show (!(mfitsB es[k].fMeta)) = false by rw [hc42]; rfl)
  refine wp_cond_false (F45.ev (by kernel_rfl)) ?_
  refine wp_skip ?_
  refine hK26 _ _ ?_; clear hK26 K26
  refine wp_seq_k fun K46 hK46 => ?_
  refine wp_seq_k fun K47 hK47 => ?_
  refine wp_region_lit ?_
  refine op_q F45 (.pointer (some ⟨g22, 0, none⟩)) ?_; intro a48 F48
  refine op_rq (v := .bool es[k].fNil) F48 (r_ld rfl (F48.e (.pointer (some ⟨g22, 0, none⟩))) (v := .bool es[k].fNil) ((S38.bk 0 rfl).cell 0) Try.underlying4 rfl) ?_; intro a49 F49
  refine wpList_nil ?_
  refine hK47 _ _ ?_; clear hK47 K47
  have hc50 : (es[k].fNil) = false := hen
  have F51 := F49.sb 25 (by kernel_rfl) hc50
  refine wp_cond_false (F51.ev (by kernel_rfl)) ?_
  refine wp_skip ?_
  refine hK46 _ _ ?_; clear hK46 K46
  refine wp_seq_k fun K52 hK52 => ?_
  refine wp_region_sepF (L0 := SA.blk g22 69 #[.bool es[k].fNil, .bool es[k].fBare, .string es[k].fMeta.fName, .string es[k].fMeta.fHome, .string es[k].fMeta.fVersion, .string es[k].fMeta.fDescription, .string es[k].fMeta.fIcon, .string es[k].fMeta.fAPIVersion, .string es[k].fMeta.fCondition, .string es[k].fMeta.fTags, .string es[k].fMeta.fAppVersion, .string es[k].fMeta.fKubeVersion, .string es[k].fMeta.fType, .slice es[k].fMeta.fSources_a es[k].fMeta.fSources.length es[k].fMeta.fSources_c, .slice es[k].fMeta.fKeywords_a es[k].fMeta.fKeywords.length es[k].fMeta.fKeywords_c, .slice es[k].fMeta.fMaintainers_a es[k].fMeta.fMaintainers.length es[k].fMeta.fMaintainers_c, .slice es[k].fMeta.fDependencies_a es[k].fMeta.fDependencies.length es[k].fMeta.fDependencies_c, .slice es[k].fURLs_a es[k].fURLs.length es[k].fURLs_c, .string es[k].fDigest] :: SA.own (.slice B qs.length b) 154 1 qs.length (pps qs) :: SA.zips SA.ent qs (es.take k) :: L) [some [], some [], some [(1, 30)], some [(0, 29), (2, 31)], some [], some [(4, 33)], some [(0, 29), (2, 31), (3, 32), (5, 34)], some [(0, 29), (2, 31), (3, 32), (5, 34), (6, 35)], some [(0, 29), (2, 31), (3, 32), (5, 34), (6, 35), (7, 36)]] [.p 29 (SA.emp) (fun _ vv AA => ∃ g82 : Nat, vv = .slice (some ⟨g82, 0, none⟩) 0 0 ∧ AA = SA.blk g82 9 #[]), .v 30 (.pointer (some ⟨g22, 17, none⟩)), .v 31 (.slice es[k].fURLs_a es[k].fURLs.length es[k].fURLs_c), .p 32 (SA.emp) (fun _ vv AA => ∃ A89 : Option Addr, ∃ c89 : Nat, vv = .slice A89 es[k].fURLs.length c89 ∧ AA = SA.own0 (.slice A89 es[k].fURLs.length c89) 9 1 es[k].fURLs.length (strs es[k].fURLs)), .v 33 (.pointer (some ⟨g22, 18, none⟩)), .v 34 (.string es[k].fDigest), .p 35 (SA.emp) (fun env vv AA => ∃ A89x : Option Addr, ∃ c89x : Nat, (env.getD 2 undef) = .slice A89x es[k].fURLs.length c89x ∧ vv = .agg #[.pointer none, .slice A89x es[k].fURLs.length c89x, .bool false, .string es[k].fDigest, .string ⟨#[]⟩, .string ⟨#[]⟩, .string ⟨#[]⟩, .string ⟨#[]⟩] ∧ AA = SA.emp), .p 36 (SA.emp) (fun env vv AA => ∃ A89x : Option Addr, ∃ c89x : Nat, ∃ g103 : Nat, (env.getD 2 undef) = .slice A89x es[k].fURLs.length c89x ∧ vv = .pointer (some ⟨g103, 0, none⟩) ∧ AA = SA.blk g103 229 #[.pointer none, .slice A89x es[k].fURLs.length c89x, .bool false, .string es[k].fDigest, .string ⟨#[]⟩, .string ⟨#[]⟩, .string ⟨#[]⟩, .string ⟨#[]⟩]), .p 7 (SA.emp) (fun env vv AA => ∃ g103x : Nat, (env.getD 5 undef) = .pointer (some ⟨g103x, 0, none⟩) ∧ vv = .pointer (some ⟨g103x, 0, none⟩) ∧ AA = SA.emp)] [] F51 rfl (by kernel_rfl) S38.emp.emp.emp.emp.emp ?_ ?_
  ·refine ⟨?_, ?_, ?_, ?_, ?_, ?_, ?_, ?_, ?_, trivial⟩
   ·intro w82 M82
    intro a82 F82 S82
    refine obl_of (by rfl) ?_
    exact s_news F82 9 #[] 0 (by kernel_rfl) (by kernel_rfl) (by kernel_rfl) S82.drop
   ·intro w83 M83
    intro a83 F83 S83
    refine obl_of (by rfl) ?_
    exact s_p F83 (v := .pointer (some ⟨g22, 17, none⟩)) (by kernel_rfl) (by kernel_rfl) (by kernel_rfl) S83
   ·intro w84 M84
    intro a84 F84 S84
    refine obl_of (by rfl) ?_
    exact s_r (v := .slice es[k].fURLs_a es[k].fURLs.length es[k].fURLs_c) (r_ld rfl (F84.e (.pointer (some ⟨g22, 17, none⟩))) (v := .slice es[k].fURLs_a es[k].fURLs.length es[k].fURLs_c) (((Sp.dropM S84.drop).bk 0 rfl).cell 17) Try.underlying22 rfl) S84
   ·intro w86 M86
    rintro _ _ ⟨g82, rfl, rfl⟩ hA87
    intro a86 F86 S86
    refine obl_of (by rfl) ?_
    exact s_app0 rfl Try.underlying22 1 _ tin9 rfl rfl (F86.e (.slice (some ⟨g82, 0, none⟩) 0 0)) S86.drop (strs es[k].fURLs) (F86.e (.slice es[k].fURLs_a es[k].fURLs.length es[k].fURLs_c)) (hks _ (Sp.dropM S86.drop).drop.drop.drop) (by first | (simp [strs, ptrs, pps]; done) | (simp [strs, ptrs, pps]; omega)) (by omega) (by omega)
   ·intro w90 M90
    intro a90 F90 S90
    refine obl_of (by rfl) ?_
    exact s_p F90 (v := .pointer (some ⟨g22, 18, none⟩)) (by kernel_rfl) (by kernel_rfl) (by kernel_rfl) S90
   ·intro w91 M91
    intro a91 F91 S91
    refine obl_of (by rfl) ?_
    exact s_r (v := .string es[k].fDigest) (r_ld rfl (F91.e (.pointer (some ⟨g22, 18, none⟩))) (v := .string es[k].fDigest) (((Sp.dropM S91.drop).bk 0 rfl).cell 18) Try.underlying9 rfl) S91
   ·intro w93 M93
    rintro _ _ ⟨g82, rfl, rfl⟩ hA94
    rintro _ _ ⟨A89, c89, rfl, rfl⟩ hA96
    intro a93 F93 S93
    refine obl_of (by rfl) ?_
    exact sAt_mono (s_p F93 (v := .agg #[.pointer none, .slice A89 es[k].fURLs.length c89, .bool false, .string es[k].fDigest, .string ⟨#[]⟩, .string ⟨#[]⟩, .string ⟨#[]⟩, .string ⟨#[]⟩]) (by kernel_rfl) (by kernel_rfl) (by kernel_rfl) S93) fun _ _ ⟨e1, e2⟩ => ⟨A89, c89, (by kernel_rfl), e1, e2⟩
   ·intro w98 M98
    rintro _ _ ⟨g82, rfl, rfl⟩ hA99
    rintro _ _ ⟨A89, c89, rfl, rfl⟩ hA101
    rintro _ _ ⟨A89x, c89x, e6_2, rfl, rfl⟩ hA103
    have e6_2 := envE_at (v := .slice A89 es[k].fURLs.length c89) e6_2 (by kernel_rfl)
    obtain ⟨rfl, rfl⟩ : A89 = A89x ∧ c89 = c89x := by cases e6_2; exact ⟨rfl, rfl⟩
    clear e6_2
    intro a98 F98 S98
    refine obl_of (by rfl) ?_
    exact sAt_mono (s_newp F98 229 #[.pointer none, .slice A89 es[k].fURLs.length c89, .bool false, .string es[k].fDigest, .string ⟨#[]⟩, .string ⟨#[]⟩, .string ⟨#[]⟩, .string ⟨#[]⟩] (by kernel_rfl) (by kernel_rfl) (by kernel_rfl) S98.drop) fun _ _ ⟨g103, e1, e2⟩ => ⟨A89, c89, g103, (by kernel_rfl), e1, e2⟩
   ·intro w104 M104
    rintro _ _ ⟨g82, rfl, rfl⟩ hA105
    rintro _ _ ⟨A89, c89, rfl, rfl⟩ hA107
    rintro _ _ ⟨A89x, c89x, e6_2, rfl, rfl⟩ hA109
    have e6_2 := envE_at (v := .slice A89 es[k].fURLs.length c89) e6_2 (by kernel_rfl)
    obtain ⟨rfl, rfl⟩ : A89 = A89x ∧ c89 = c89x := by cases e6_2; exact ⟨rfl, rfl⟩
    clear e6_2
    rintro _ _ ⟨A89x, c89x, g103, e7_2, rfl, rfl⟩ hA110
    have e7_2 := envE_at (v := .slice A89 es[k].fURLs.length c89) e7_2 (by kernel_rfl)
    obtain ⟨rfl, rfl⟩ : A89 = A89x ∧ c89 = c89x := by cases e7_2; exact ⟨rfl, rfl⟩
    clear e7_2
    intro a104 F104 S104
    refine obl_of (by rfl) ?_
    exact sAt_mono (s_p F104 (v := .pointer (some ⟨g103, 0, none⟩)) (by kernel_rfl) (by kernel_rfl) (by kernel_rfl) S104) fun _ _ ⟨e1, e2⟩ => ⟨g103, (by kernel_rfl), e1, e2⟩
  ·rintro _ _ ⟨g82, rfl, rfl⟩
   rintro _ _ ⟨A89, c89, rfl, rfl⟩
   rintro _ _ ⟨A89x, c89x, e6_2, rfl, rfl⟩
   have e6_2 := envE_at (v := .slice A89 es[k].fURLs.length c89) e6_2 (by kernel_rfl)
   obtain ⟨rfl, rfl⟩ : A89 = A89x ∧ c89 = c89x := by cases e6_2; exact ⟨rfl, rfl⟩
   clear e6_2
   rintro _ _ ⟨A89x, c89x, g103, e7_2, rfl, rfl⟩
   have e7_2 := envE_at (v := .slice A89 es[k].fURLs.length c89) e7_2 (by kernel_rfl)
   obtain ⟨rfl, rfl⟩ : A89 = A89x ∧ c89 = c89x := by cases e7_2; exact ⟨rfl, rfl⟩
   clear e7_2
   rintro _ _ ⟨g103x, e8_5, rfl, rfl⟩
   have e8_5 := envE_at (v := .pointer (some ⟨g103, 0, none⟩)) e8_5 (by kernel_rfl)
   obtain rfl : g103 = g103x := by cases e8_5; rfl
   clear e8_5
   intro a112 w111 F112 S111
   have S113 : Sp R w111 (SA.blk g103 229 #[.pointer none, .slice A89 es[k].fURLs.length c89, .bool false, .string es[k].fDigest, .string ⟨#[]⟩, .string ⟨#[]⟩, .string ⟨#[]⟩, .string ⟨#[]⟩] :: SA.own0 (.slice A89 es[k].fURLs.length c89) 9 1 es[k].fURLs.length (strs es[k].fURLs) :: SA.blk g82 9 #[] :: SA.blk g22 69 #[.bool es[k].fNil, .bool es[k].fBare, .string es[k].fMeta.fName, .string es[k].fMeta.fHome, .string es[k].fMeta.fVersion, .string es[k].fMeta.fDescription, .string es[k].fMeta.fIcon, .string es[k].fMeta.fAPIVersion, .string es[k].fMeta.fCondition, .string es[k].fMeta.fTags, .string es[k].fMeta.fAppVersion, .string es[k].fMeta.fKubeVersion, .string es[k].fMeta.fType, .slice es[k].fMeta.fSources_a es[k].fMeta.fSources.length es[k].fMeta.fSources_c, .slice es[k].fMeta.fKeywords_a es[k].fMeta.fKeywords.length es[k].fMeta.fKeywords_c, .slice es[k].fMeta.fMaintainers_a es[k].fMeta.fMaintainers.length es[k].fMeta.fMaintainers_c, .slice es[k].fMeta.fDependencies_a es[k].fMeta.fDependencies.length es[k].fMeta.fDependencies_c, .slice es[k].fURLs_a es[k].fURLs.length es[k].fURLs_c, .string es[k].fDigest] :: SA.own (.slice B qs.length b) 154 1 qs.length (pps qs) :: SA.zips SA.ent qs (es.take k) :: L) := S111.drop.p1.drop
   refine wpList_nil ?_
   refine hK52 _ _ ?_; clear hK52 K52
   refine wp_seq_k fun K114 hK114 => ?_
   refine wp_seq_k fun K115 hK115 => ?_
   refine wp_region_lit ?_
   refine op_q F112 (.pointer (some ⟨g22, 1, none⟩)) ?_; intro a116 F116
   refine op_rq (v := .bool es[k].fBare) F116 (r_ld rfl (F116.e (.pointer (some ⟨g22, 1, none⟩))) (v := .bool es[k].fBare) ((S113.bk 3 rfl).cell 1) Try.underlying4 rfl) ?_; intro a117 F117
   refine op_q F117 (.bool (!(es[k].fBare))) ?_; intro a118 F118
   refine wpList_nil ?_
   refine hK115 _ _ ?_; clear hK115 K115
   have hc119 : (es[k].fBare) = false := heb
   have F120 := F118.sb 38 (by kernel_rfl) hc119
   have F121 := F120.sb 39 (by kernel_rfl) (show (!(es[k].fBare)) = true by rw [hc119]; rfl)
   refine wp_cond_true (F121.ev (by kernel_rfl)) ?_
   refine wp_region_lit ?_
   refine op_q F121 (.pointer (some ⟨g103, 0, none⟩)) ?_; intro a122 F122
   refine op_q F122 (.pointer (some ⟨g22, 2, none⟩)) ?_; intro a123 F123
   refine op_rq (v := .agg #[.string es[k].fMeta.fName, .string es[k].fMeta.fHome, .string es[k].fMeta.fVersion, .string es[k].fMeta.fDescription, .string es[k].fMeta.fIcon, .string es[k].fMeta.fAPIVersion, .string es[k].fMeta.fCondition, .string es[k].fMeta.fTags, .string es[k].fMeta.fAppVersion, .string es[k].fMeta.fKubeVersion, .string es[k].fMeta.fType, .slice es[k].fMeta.fSources_a es[k].fMeta.fSources.length es[k].fMeta.fSources_c, .slice es[k].fMeta.fKeywords_a es[k].fMeta.fKeywords.length es[k].fMeta.fKeywords_c, .slice es[k].fMeta.fMaintainers_a es[k].fMeta.fMaintainers.length es[k].fMeta.fMaintainers_c, .slice es[k].fMeta.fDependencies_a es[k].fMeta.fDependencies.length es[k].fMeta.fDependencies_c]) F123 (r_ldm rfl (F123.e (.pointer (some ⟨g22, 2, none⟩))) (S113.bk 3 rfl) 15 (by kernel_rfl) Try.underlying26 rfl (by kernel_rfl) (v := #[.string es[k].fMeta.fName, .string es[k].fMeta.fHome, .string es[k].fMeta.fVersion, .string es[k].fMeta.fDescription, .string es[k].fMeta.fIcon, .string es[k].fMeta.fAPIVersion, .string es[k].fMeta.fCondition, .string es[k].fMeta.fTags, .string es[k].fMeta.fAppVersion, .string es[k].fMeta.fKubeVersion, .string es[k].fMeta.fType, .slice es[k].fMeta.fSources_a es[k].fMeta.fSources.length es[k].fMeta.fSources_c, .slice es[k].fMeta.fKeywords_a es[k].fMeta.fKeywords.length es[k].fMeta.fKeywords_c, .slice es[k].fMeta.fMaintainers_a es[k].fMeta.fMaintainers.length es[k].fMeta.fMaintainers_c, .slice es[k].fMeta.fDependencies_a es[k].fMeta.fDependencies.length es[k].fMeta.fDependencies_c]) (by kernel_rfl)) ?_; intro a124 F124
   refine op_cq F124 (f := 95) (args := #[.agg #[.string es[k].fMeta.fName, .string es[k].fMeta.fHome, .string es[k].fMeta.fVersion, .string es[k].fMeta.fDescription, .string es[k].fMeta.fIcon, .string es[k].fMeta.fAPIVersion, .string es[k].fMeta.fCondition, .string es[k].fMeta.fTags, .string es[k].fMeta.fAppVersion, .string es[k].fMeta.fKubeVersion, .string es[k].fMeta.fType, .slice es[k].fMeta.fSources_a es[k].fMeta.fSources.length es[k].fMeta.fSources_c, .slice es[k].fMeta.fKeywords_a es[k].fMeta.fKeywords.length es[k].fMeta.fKeywords_c, .slice es[k].fMeta.fMaintainers_a es[k].fMeta.fMaintainers.length es[k].fMeta.fMaintainers_c, .slice es[k].fMeta.fDependencies_a es[k].fMeta.fDependencies.length es[k].fMeta.fDependencies_c]]) (metaOf_m es[k].fMeta _ _ _ S113 (fun w S => hkm w S.drop.drop.drop.drop.drop.drop) (by first | omega | (simp; done) | (simp; omega)) (by first | omega | (simp; done) | (simp; omega)) (by first | omega | (simp; done) | (simp; omega)) (by first | omega | (simp; done) | (simp; omega)) (by first | omega | (simp; done) | (simp; omega))) ?_
   rintro _ w125 ⟨g125, rfl, S125⟩
   refine ⟨_, rfl, ?_⟩
   intro a126 F126
   refine op_q F126 (.pointer (some ⟨g103, 0, none⟩)) ?_; intro a127 F127
   refine op_q F127 (.pointer (some ⟨g103, 0, none⟩)) ?_; intro a128 F128
   refine op_sq0 F128 (s_st rfl (F128.e (.pointer (some ⟨g103, 0, none⟩))) (F128.e (.pointer (some ⟨g125, 0, none⟩))) S125.p1 (by kernel_rfl) rfl rfl rfl (cs := #[.pointer (some ⟨g125, 0, none⟩), .slice A89 es[k].fURLs.length c89, .bool false, .string es[k].fDigest, .string ⟨#[]⟩, .string ⟨#[]⟩, .string ⟨#[]⟩, .string ⟨#[]⟩]) (by kernel_rfl)) ?_
   rintro _ _ w129 rfl S129 F129
   refine wpList_nil ?_
   refine hK114 _ _ ?_; clear hK114 K114
   refine wp_region_lit ?_
   refine op_q F129 (.slice B qs.length b) ?_; intro a130 F130
   refine op_q F130 (.pointer (some ⟨g103, 0, none⟩)) ?_; intro a131 F131
   refine op_sq F131 (s_news F131 154 #[.pointer (some ⟨g103, 0, none⟩)] 1 (by kernel_rfl) (by kernel_rfl) (by kernel_rfl) S129) ?_
   rintro _ _ w133 ⟨g131, rfl, rfl⟩ S133 a133 F133
   refine op_sq F133 (s_app rfl Try.underlying151 1 _ tin154 rfl rfl (F133.e (.slice B qs.length b)) S133.p6 ([Value.pointer (some ⟨g103, 0, none⟩)]) (F133.e (.slice (some ⟨g131, 0, none⟩) 1 1)) ((S133.bk 0 rfl).sl (by simp)) rfl (by simp [Value.oneCell']) (by omega) (by omega) (n' := (qs ++ [some (⟨g103, 0, none⟩ : Addr)]).length) (by first | (simp; done) | (simp; omega)) (cs' := pps (qs ++ [some (⟨g103, 0, none⟩ : Addr)])) (by simp [pps])) ?_
   rintro _ _ w135 ⟨A134, c134, rfl, rfl⟩ S135 a135 F135
   refine op_q F135 (.slice A134 ((qs ++ [some (⟨g103, 0, none⟩ : Addr)]).length) c134) ?_; intro a136 F136
   refine wpList_nil ?_
   refine hK19 _ _ ?_; clear hK19 K19
   refine wp_region_lit ?_
   refine op_rq (v := .int .i64 (↑(k + 1))) F136 (r_add (z := ↑(k + 1)) rfl (F136.e (.int .i64 (↑k))) (F136.e (.int .i64 1)) (wr64 (by omega) (by omega) (by omega))) ?_; intro a137 F137
   refine op_q F137 (.int .i64 (↑(k + 1))) ?_; intro a138 F138
   refine wpList_nil ?_
   have S139 : Sp R w135 (SA.ent (some (⟨g103, 0, none⟩ : Addr)) es[k] :: SA.own (.slice A134 ((qs ++ [some (⟨g103, 0, none⟩ : Addr)]).length) c134) 154 1 ((qs ++ [some (⟨g103, 0, none⟩ : Addr)]).length) (pps (qs ++ [some (⟨g103, 0, none⟩ : Addr)])) :: SA.blk g131 154 #[.pointer (some ⟨g103, 0, none⟩)] :: SA.blk g82 9 #[] :: SA.blk g22 69 #[.bool es[k].fNil, .bool es[k].fBare, .string es[k].fMeta.fName, .string es[k].fMeta.fHome, .string es[k].fMeta.fVersion, .string es[k].fMeta.fDescription, .string es[k].fMeta.fIcon, .string es[k].fMeta.fAPIVersion, .string es[k].fMeta.fCondition, .string es[k].fMeta.fTags, .string es[k].fMeta.fAppVersion, .string es[k].fMeta.fKubeVersion, .string es[k].fMeta.fType, .slice es[k].fMeta.fSources_a es[k].fMeta.fSources.length es[k].fMeta.fSources_c, .slice es[k].fMeta.fKeywords_a es[k].fMeta.fKeywords.length es[k].fMeta.fKeywords_c, .slice es[k].fMeta.fMaintainers_a es[k].fMeta.fMaintainers.length es[k].fMeta.fMaintainers_c, .slice es[k].fMeta.fDependencies_a es[k].fMeta.fDependencies.length es[k].fMeta.fDependencies_c, .slice es[k].fURLs_a es[k].fURLs.length es[k].fURLs_c, .string es[k].fDigest] :: SA.zips SA.ent qs (es.take k) :: L) := Sp.ent_mk hen heb S135.p3.p4.p4
   have S140 : Sp R w135 (SA.zips SA.ent (qs ++ [some (⟨g103, 0, none⟩ : Addr)]) (es.take (k + 1)) :: SA.own (.slice A134 ((qs ++ [some (⟨g103, 0, none⟩ : Addr)]).length) c134) 154 1 ((qs ++ [some (⟨g103, 0, none⟩ : Addr)]).length) (pps (qs ++ [some (⟨g103, 0, none⟩ : Addr)])) :: SA.blk g131 154 #[.pointer (some ⟨g103, 0, none⟩)] :: SA.blk g82 9 #[] :: SA.blk g22 69 #[.bool es[k].fNil, .bool es[k].fBare, .string es[k].fMeta.fName, .string es[k].fMeta.fHome, .string es[k].fMeta.fVersion, .string es[k].fMeta.fDescription, .string es[k].fMeta.fIcon, .string es[k].fMeta.fAPIVersion, .string es[k].fMeta.fCondition, .string es[k].fMeta.fTags, .string es[k].fMeta.fAppVersion, .string es[k].fMeta.fKubeVersion, .string es[k].fMeta.fType, .slice es[k].fMeta.fSources_a es[k].fMeta.fSources.length es[k].fMeta.fSources_c, .slice es[k].fMeta.fKeywords_a es[k].fMeta.fKeywords.length es[k].fMeta.fKeywords_c, .slice es[k].fMeta.fMaintainers_a es[k].fMeta.fMaintainers.length es[k].fMeta.fMaintainers_c, .slice es[k].fMeta.fDependencies_a es[k].fMeta.fDependencies.length es[k].fMeta.fDependencies_c, .slice es[k].fURLs_a es[k].fURLs.length es[k].fURLs_c, .string es[k].fDigest] :: L) := by rw [List.take_succ_eq_append_getElem hlt_k]; exact Sp.zsnoc S139.p5.p1
   exact hK13 _ _ _ (by first | omega | (simp; omega)) ⟨A134, c134, qs ++ [some (⟨g103, 0, none⟩ : Addr)], k + 1, rfl, (F138.kk 0 (F138.kk 4 (F138.kk 8 (F138.kk 9 (F138.kk 10 F138.nil))))), S140.p2.drop.p2.drop.p2.drop.p1, (by first | omega | (with_reducible assumption) | (simp; done)), (by simp [hql])⟩
 ·have hc_k : decide ((↑k : Int) < ↑es.length) = false := by first | (simp; done) | (simp; omega)
  obtain rfl : k = es.length := by omega
  rw [List.take_length] at S13
  refine wp_seq_k fun K141 hK141 => ?_
  refine wp_region_lit ?_
  refine op_q F13 (.bool (decide ((↑es.length : Int) < ↑es.length))) ?_; intro a142 F142
  have F143 := F142.sb 11 (by kernel_rfl) hc_k
  refine wpList_nil ?_
  refine hK141 _ _ ?_; clear hK141 K141
  refine wp_seq_k fun K144 hK144 => ?_
  refine wp_cond_false (F143.ev (by kernel_rfl)) ?_
  refine wp_exit ?_
  refine ex_then ?_; clear hK144 K144
  refine ex_then ?_
  refine ex_in ?_
  refine hK6 _ _ ?_; clear hK6 K6
  refine wp_seq_k fun K145 hK145 => ?_
  refine wp_region_lit ?_
  refine op_q F143 (.slice B qs.length b) ?_; intro a146 F146
  refine op_q F146 (.slice (A) (es.length) (c)) ?_; intro a147 F147
  refine op_q F147 (.int .i64 (↑es.length)) ?_; intro a148 F148
  refine op_q F148 (.bool (decide ((↑es.length : Int) ≤ 200))) ?_; intro a149 F149
  refine op_q F149 (.slice B qs.length b) ?_; intro a150 F150
  refine op_q F150 (.bool (decide ((↑es.length : Int) ≤ 200))) ?_; intro a151 F151
  refine wpList_nil ?_
  refine hK145 _ _ ?_; clear hK145 K145
  refine wp_ret ?_
  refine (F151.res2 rfl (v := .slice B qs.length b) (by kernel_rfl) (v2 := .bool (decide ((↑es.length : Int) ≤ 200))) (by kernel_rfl) ?_).1
  exact ⟨B, b, qs, (by rw [show decide ((↑es.length : Int) ≤ 200) = true from decide_eq_true (by omega)]), S13.p1.p1⟩
abbrev zq19 (x0 : Ty69) (x1 : Option Addr) (x2 : Nat) (x3 : Option Addr) (x4 : Nat) (x5 : Option Addr) (x6 : Nat) (x7 : Option Addr) (x8 : Nat) : Array Value := #[.string x0.fMeta.fName, .string x0.fMeta.fHome, .string x0.fMeta.fVersion, .string x0.fMeta.fDescription, .string x0.fMeta.fIcon, .string x0.fMeta.fAPIVersion, .string x0.fMeta.fCondition, .string x0.fMeta.fTags, .string x0.fMeta.fAppVersion, .string x0.fMeta.fKubeVersion, .string x0.fMeta.fType, .slice x1 (x0.fMeta.fSources.length) x2, .slice x3 (x0.fMeta.fKeywords.length) x4, .slice x5 (x0.fMeta.fMaintainers.length) x6, .slice x7 (x0.fMeta.fDependencies.length) x8]
abbrev zq20 (x0 : Ty69) (x1 : Option Addr) (x2 : Nat) (x3 : Option Addr) (x4 : Nat) (x5 : Option Addr) (x6 : Nat) (x7 : Option Addr) (x8 : Nat) (x9 : Option Addr) (x10 : Nat) : Array Value := #[.bool false, .bool false, .string x0.fMeta.fName, .string x0.fMeta.fHome, .string x0.fMeta.fVersion, .string x0.fMeta.fDescription, .string x0.fMeta.fIcon, .string x0.fMeta.fAPIVersion, .string x0.fMeta.fCondition, .string x0.fMeta.fTags, .string x0.fMeta.fAppVersion, .string x0.fMeta.fKubeVersion, .string x0.fMeta.fType, .slice x1 (x0.fMeta.fSources.length) x2, .slice x3 (x0.fMeta.fKeywords.length) x4, .slice x5 (x0.fMeta.fMaintainers.length) x6, .slice x7 (x0.fMeta.fDependencies.length) x8, .slice x9 x0.fURLs.length x10, .string x0.fDigest]
set_option maxRecDepth 100000 in
set_option maxHeartbeats 20000000 in
theorem entryTold_sp (x : Ty69) (g : Nat) (gm : Nat) (A : Option Addr) (c : Nat) (R : Ctx) (L : List SA) (w : World) (S : Sp R w (SA.met gm x.fMeta :: L)) (h0 : Rf R L fun w => Blk w (g) 229 #[.pointer (some ⟨gm, 0, none⟩), .slice (A) (x.fURLs.length) (c), .bool false, .string (x.fDigest), .string ⟨#[]⟩, .string ⟨#[]⟩, .string ⟨#[]⟩, .string ⟨#[]⟩]) (h1 : Rf R L fun w => Sl w (A) (strs x.fURLs)) (hm1 : x.fMeta.fSources.length ≤ 1000000) (hm2 : x.fMeta.fKeywords.length ≤ 1000000) (hm3 : x.fMeta.fMaintainers.length ≤ 1000000) (hm4 : x.fMeta.fDependencies.length ≤ 1000000) (hm5 : ∀ d ∈ x.fMeta.fDependencies, d.fTags.length ≤ 1000000) (hu : x.fURLs.length ≤ 1000000) :
  Calls Try.prog 87 #[.pointer (some ⟨g, 0, none⟩)] w fun e w' => ∃ B1 : Option Addr, ∃ b1 : Nat, ∃ B2 : Option Addr, ∃ b2 : Nat, ∃ B3 : Option Addr, ∃ b3 : Nat, ∃ B4 : Option Addr, ∃ b4 : Nat, ∃ B5 : Option Addr, ∃ b5 : Nat, e = .returned (.agg #[.bool false, .bool false, .string x.fMeta.fName, .string x.fMeta.fHome, .string x.fMeta.fVersion, .string x.fMeta.fDescription, .string x.fMeta.fIcon, .string x.fMeta.fAPIVersion, .string x.fMeta.fCondition, .string x.fMeta.fTags, .string x.fMeta.fAppVersion, .string x.fMeta.fKubeVersion, .string x.fMeta.fType, .slice B1 (x.fMeta.fSources.length) b1, .slice B2 (x.fMeta.fKeywords.length) b2, .slice B3 (x.fMeta.fMaintainers.length) b3, .slice B4 (x.fMeta.fDependencies.length) b4, .slice B5 (x.fURLs.length) b5, .string x.fDigest]) ∧ Sp R w' (SA.mvx x.fMeta B1 b1 B2 b2 B3 b3 B4 b4 :: SA.own0 (.slice B5 x.fURLs.length b5) 9 1 (x.fURLs.length) (strs x.fURLs) :: SA.met gm x.fMeta :: L) := by
 have hl_x_fURLs : x.fURLs.length ≤ 9223372036854775807 := by have := (h1 _ S.drop).1; simpa [strs, ptrs, pps] using this
 refine fw_enter (fn := Try.f87) rfl rfl 27 rfl (Nat.le_of_ble_eq_true rfl) ?_
 intro a0 F0
 refine wp_seq_k fun K1 hK1 => ?_
 refine wp_region_lit ?_
 refine op_sq F0 (s_newp F0 69 zq18 (by kernel_rfl) (by kernel_rfl) (by kernel_rfl) S) ?_
 rintro _ _ w3 ⟨g1, rfl, rfl⟩ S3 a3 F3
 refine wpList_nil ?_
 refine hK1 _ _ ?_; clear hK1 K1
 refine wp_seq_k fun K4 hK4 => ?_
 refine wp_seq_k fun K5 hK5 => ?_
 refine wp_region_lit ?_
 refine op_q F3 (.pointer (some ⟨g, 0, none⟩)) ?_; intro a6 F6
 refine op_q F6 (.bool false) ?_; intro a7 F7
 refine wpList_nil ?_
 refine hK5 _ _ ?_; clear hK5 K5
 refine wp_cond_false (F7.ev (by kernel_rfl)) ?_
 refine wp_skip ?_
 refine hK4 _ _ ?_; clear hK4 K4
 refine wp_seq_k fun K8 hK8 => ?_
 refine wp_region_sepF (L0 := SA.blk g1 69 zq18 :: L) [some [], some [(0, 6)], some [(1, 7)], some [(2, 8)], some [(3, 9)], some [], some [(5, 11)], some [(6, 12)], some [(7, 13)], some [(8, 14)], some [], some [], some [(11, 17)], some [(12, 18)], some [(13, 19)], some [(10, 16), (14, 20)], some [], some [(16, 22)], some [(17, 23)], some [(18, 24)], some [(4, 10), (8, 14), (9, 15), (10, 16), (14, 20), (15, 21), (19, 25)], none] [.v 6 (.pointer (some ⟨g, 0, none⟩)), .v 7 (.pointer (some ⟨g, 0, none⟩)), .v 8 (.pointer (some ⟨g, 0, none⟩)), .v 9 (.pointer (some ⟨gm, 0, none⟩)), .v 10 (.bool false), .v 11 (.pointer (some ⟨g, 0, none⟩)), .v 12 (.pointer (some ⟨g, 0, none⟩)), .v 13 (.pointer (some ⟨g, 0, none⟩)), .v 14 (.pointer (some ⟨gm, 0, none⟩)), .p 15 (SA.met gm x.fMeta) (fun _ vv AA => ∃ B173 : Option Addr, ∃ b173 : Nat, ∃ B273 : Option Addr, ∃ b273 : Nat, ∃ B373 : Option Addr, ∃ b373 : Nat, ∃ B473 : Option Addr, ∃ b473 : Nat, vv = .agg (zq19 x B173 b173 B273 b273 B373 b373 B473 b473) ∧ AA = SA.stars [SA.mvx x.fMeta B173 b173 B273 b273 B373 b373 B473 b473, SA.met gm x.fMeta]), .p 16 (SA.emp) (fun _ vv AA => ∃ g74 : Nat, vv = .slice (some ⟨g74, 0, none⟩) 0 0 ∧ AA = SA.blk g74 9 #[]), .v 17 (.pointer (some ⟨g, 0, none⟩)), .v 18 (.pointer (some ⟨g, 0, none⟩)), .v 19 (.pointer (some ⟨g, 1, none⟩)), .v 20 (.slice (A) (x.fURLs.length) (c)), .p 21 (SA.emp) (fun _ vv AA => ∃ A85 : Option Addr, ∃ c85 : Nat, vv = .slice A85 x.fURLs.length c85 ∧ AA = SA.own0 (.slice A85 x.fURLs.length c85) 9 1 x.fURLs.length (strs x.fURLs)), .v 22 (.pointer (some ⟨g, 0, none⟩)), .v 23 (.pointer (some ⟨g, 0, none⟩)), .v 24 (.pointer (some ⟨g, 3, none⟩)), .v 25 (.string x.fDigest), .p 26 (SA.emp) (fun env vv AA => ∃ B173x : Option Addr, ∃ b173x : Nat, ∃ B273x : Option Addr, ∃ b273x : Nat, ∃ B373x : Option Addr, ∃ b373x : Nat, ∃ B473x : Option Addr, ∃ b473x : Nat, ∃ A85x : Option Addr, ∃ c85x : Nat, (env.getD 2 undef) = .agg (zq19 x B173x b173x B273x b273x B373x b373x B473x b473x) ∧ (env.getD 5 undef) = .slice A85x x.fURLs.length c85x ∧ vv = .agg (zq20 x B173x b173x B273x b273x B373x b373x B473x b473x A85x c85x) ∧ AA = SA.emp), .n SA.emp (fun _ _ A => A = SA.emp)] [] F7 rfl (by kernel_rfl) S3.p1.emp.emp.emp.p3 ?_ ?_
 ·refine ⟨?_, ?_, ?_, ?_, ?_, ?_, ?_, ?_, ?_, ?_, ?_, ?_, ?_, ?_, ?_, ?_, ?_, ?_, ?_, ?_, ?_, trivial⟩
  ·intro w55 M55
   intro a55 F55 S55
   refine obl_of (by rfl) ?_
   exact s_p F55 (v := .pointer (some ⟨g, 0, none⟩)) (by kernel_rfl) (by kernel_rfl) (by kernel_rfl) S55
  ·intro w56 M56
   intro a56 F56 S56
   refine obl_of (by rfl) ?_
   exact s_p F56 (v := .pointer (some ⟨g, 0, none⟩)) (by kernel_rfl) (by kernel_rfl) (by kernel_rfl) S56
  ·intro w58 M58
   intro a58 F58 S58
   refine obl_of (by rfl) ?_
   exact s_p F58 (v := .pointer (some ⟨g, 0, none⟩)) (by kernel_rfl) (by kernel_rfl) (by kernel_rfl) S58
  ·intro w60 M60
   intro a60 F60 S60
   refine obl_of (by rfl) ?_
   exact s_r (v := .pointer (some ⟨gm, 0, none⟩)) (r_ld rfl (F60.e (.pointer (some ⟨g, 0, none⟩))) (v := .pointer (some ⟨gm, 0, none⟩)) ((h0 _ (Sp.dropM S60.drop).drop).cell 0) Try.underlying163 rfl) S60
  ·intro w62 M62
   intro a62 F62 S62
   refine obl_of (by rfl) ?_
   exact s_p F62 (v := .bool false) (by kernel_rfl) (by kernel_rfl) (by kernel_rfl) S62
  ·intro w64 M64
   intro a64 F64 S64
   refine obl_of (by rfl) ?_
   exact s_p F64 (v := .pointer (some ⟨g, 0, none⟩)) (by kernel_rfl) (by kernel_rfl) (by kernel_rfl) S64
  ·intro w65 M65
   intro a65 F65 S65
   refine obl_of (by rfl) ?_
   exact s_p F65 (v := .pointer (some ⟨g, 0, none⟩)) (by kernel_rfl) (by kernel_rfl) (by kernel_rfl) S65
  ·intro w67 M67
   intro a67 F67 S67
   refine obl_of (by rfl) ?_
   exact s_p F67 (v := .pointer (some ⟨g, 0, none⟩)) (by kernel_rfl) (by kernel_rfl) (by kernel_rfl) S67
  ·intro w69 M69
   intro a69 F69 S69
   refine obl_of (by rfl) ?_
   exact s_r (v := .pointer (some ⟨gm, 0, none⟩)) (r_ld rfl (F69.e (.pointer (some ⟨g, 0, none⟩))) (v := .pointer (some ⟨gm, 0, none⟩)) ((h0 _ (Sp.dropM S69.drop).drop).cell 0) Try.underlying163 rfl) S69
  ·intro w71 M71
   intro a71 F71 S71
   refine obl_of (by rfl) ?_
   refine s_c F71 (f := 117) (args := #[.pointer (some ⟨gm, 0, none⟩)]) (by kernel_rfl) (by kernel_rfl) (by kernel_rfl) (metaTold_f x.fMeta gm _ _ _ S71 (by first | omega | (simp; done) | (simp; omega)) (by first | omega | (simp; done) | (simp; omega)) (by first | omega | (simp; done) | (simp; omega)) (by first | omega | (simp; done) | (simp; omega)) (by first | omega | (simp; done) | (simp; omega))) ?_
   rintro _ _ ⟨B173, b173, B273, b273, B373, b373, B473, b473, rfl, S73⟩
   exact ⟨_, _, rfl, ⟨B173, b173, B273, b273, B373, b373, B473, b473, rfl, rfl⟩, Sp.stars.2 S73⟩
  ·intro w74 M74
   intro a74 F74 S74
   refine obl_of (by rfl) ?_
   exact s_news F74 9 #[] 0 (by kernel_rfl) (by kernel_rfl) (by kernel_rfl) S74.drop
  ·intro w75 M75
   intro a75 F75 S75
   refine obl_of (by rfl) ?_
   exact s_p F75 (v := .pointer (some ⟨g, 0, none⟩)) (by kernel_rfl) (by kernel_rfl) (by kernel_rfl) S75
  ·intro w76 M76
   intro a76 F76 S76
   refine obl_of (by rfl) ?_
   exact s_p F76 (v := .pointer (some ⟨g, 0, none⟩)) (by kernel_rfl) (by kernel_rfl) (by kernel_rfl) S76
  ·intro w78 M78
   intro a78 F78 S78
   refine obl_of (by rfl) ?_
   exact s_p F78 (v := .pointer (some ⟨g, 1, none⟩)) (by kernel_rfl) (by kernel_rfl) (by kernel_rfl) S78
  ·intro w80 M80
   intro a80 F80 S80
   refine obl_of (by rfl) ?_
   exact s_r (v := .slice (A) (x.fURLs.length) (c)) (r_ld rfl (F80.e (.pointer (some ⟨g, 1, none⟩))) (v := .slice (A) (x.fURLs.length) (c)) ((h0 _ (Sp.dropM S80.drop).drop).cell 1) Try.underlying22 rfl) S80
  ·intro w82 M82
   rintro _ _ ⟨g74, rfl, rfl⟩ hA83
   intro a82 F82 S82
   refine obl_of (by rfl) ?_
   exact s_app0 rfl Try.underlying22 1 _ tin9 rfl rfl (F82.e (.slice (some ⟨g74, 0, none⟩) 0 0)) S82.drop (strs x.fURLs) (F82.e (.slice (A) (x.fURLs.length) (c))) (h1 _ (Sp.dropM S82.drop).drop) (by first | (simp [strs, ptrs, pps]; done) | (simp [strs, ptrs, pps]; omega)) (by omega) (by omega)
  ·intro w86 M86
   intro a86 F86 S86
   refine obl_of (by rfl) ?_
   exact s_p F86 (v := .pointer (some ⟨g, 0, none⟩)) (by kernel_rfl) (by kernel_rfl) (by kernel_rfl) S86
  ·intro w87 M87
   intro a87 F87 S87
   refine obl_of (by rfl) ?_
   exact s_p F87 (v := .pointer (some ⟨g, 0, none⟩)) (by kernel_rfl) (by kernel_rfl) (by kernel_rfl) S87
  ·intro w89 M89
   intro a89 F89 S89
   refine obl_of (by rfl) ?_
   exact s_p F89 (v := .pointer (some ⟨g, 3, none⟩)) (by kernel_rfl) (by kernel_rfl) (by kernel_rfl) S89
  ·intro w91 M91
   intro a91 F91 S91
   refine obl_of (by rfl) ?_
   exact s_r (v := .string x.fDigest) (r_ld rfl (F91.e (.pointer (some ⟨g, 3, none⟩))) (v := .string x.fDigest) ((h0 _ (Sp.dropM S91.drop).drop).cell 3) Try.underlying9 rfl) S91
  ·intro w93 M93
   rintro _ _ ⟨B173, b173, B273, b273, B373, b373, B473, b473, rfl, rfl⟩ hA96
   rintro _ _ ⟨g74, rfl, rfl⟩ hA97
   rintro _ _ ⟨A85, c85, rfl, rfl⟩ hA99
   intro a93 F93 S93
   refine obl_of (by rfl) ?_
   exact sAt_mono (s_p F93 (v := .agg (zq20 x B173 b173 B273 b273 B373 b373 B473 b473 A85 c85)) (by kernel_rfl) (by kernel_rfl) (by kernel_rfl) S93) fun _ _ ⟨e1, e2⟩ => ⟨B173, b173, B273, b273, B373, b373, B473, b473, A85, c85, (by kernel_rfl), (by kernel_rfl), e1, e2⟩
 ·rintro _ _ ⟨B173, b173, B273, b273, B373, b373, B473, b473, rfl, rfl⟩
  rintro _ _ ⟨g74, rfl, rfl⟩
  rintro _ _ ⟨A85, c85, rfl, rfl⟩
  rintro _ _ ⟨B173x, b173x, B273x, b273x, B373x, b373x, B473x, b473x, A85x, c85x, e20_2, e20_5, rfl, rfl⟩
  have e20_2 := envE_at (v := .agg (zq19 x B173 b173 B273 b273 B373 b373 B473 b473)) e20_2 (by kernel_rfl)
  have e20_5 := envE_at (v := .slice A85 x.fURLs.length c85) e20_5 (by kernel_rfl)
  obtain ⟨rfl, rfl, rfl, rfl, rfl, rfl, rfl, rfl, rfl, rfl⟩ : B173 = B173x ∧ b173 = b173x ∧ B273 = B273x ∧ b273 = b273x ∧ B373 = B373x ∧ b373 = b373x ∧ B473 = B473x ∧ b473 = b473x ∧ A85 = A85x ∧ c85 = c85x := by cases e20_2; cases e20_5; exact ⟨rfl, rfl, rfl, rfl, rfl, rfl, rfl, rfl, rfl, rfl⟩
  clear e20_2 e20_5
  intro a102 w101 F102 S101
  have S103 : Sp R w101 (SA.own0 (.slice A85 x.fURLs.length c85) 9 1 x.fURLs.length (strs x.fURLs) :: SA.blk g74 9 #[] :: SA.stars [SA.mvx x.fMeta B173 b173 B273 b273 B373 b373 B473 b473, SA.met gm x.fMeta] :: SA.blk g1 69 zq18 :: L) := S101.drop
  have S104 := Sp.stars.1 (S103.p2)
  refine op_sq0 F102 (s_stb rfl (F102.e (.pointer (some ⟨g1, 0, none⟩))) (F102.e (.agg (zq20 x B173 b173 B273 b273 B373 b373 B473 b473 A85 c85))) S104.p4 (by kernel_rfl) rfl (by kernel_rfl)) ?_
  rintro _ _ w105 rfl S105 F105
  refine wpList_nil ?_
  refine hK8 _ _ ?_; clear hK8 K8
  refine wp_ret ?_
  refine (F105.resC (results1 (v := .agg (zq20 x B173 b173 B273 b273 B373 b373 B473 b473 A85 c85)) Try.results87 (F105.rvc (p := ⟨g1, 0, none⟩) (by kernel_rfl) (ld_mid (S105.bk 0 rfl) 19 (by kernel_rfl) Try.underlying69 rfl (by kernel_rfl) (v := (zq20 x B173 b173 B273 b273 B373 b373 B473 b473 A85 c85)) (by kernel_rfl)))) ?_).1
  exact ⟨B173, b173, B273, b273, B373, b373, B473, b473, A85, c85, rfl, S105.drop.p3.drop.p1.p2.p2⟩
end Go.Proofs.Ytkjcedlgljeoiaa

/- semver.NewConstraint, Check; the words of an index. -/
namespace Go.Proofs.Ytkjcedlgljeoiaa
open Go.RowKit Go.Lib
set_option linter.unusedVariables false
set_option linter.unusedSimpArgs false
/-- A plain version as an object. -/
abbrev SA.ver (g : Nat) (s : ByteArray) : SA := SA.blk g 278 (vC ((numsF s).map fun n : Nat => (n : Int)) s)
theorem newVer_b (s : ByteArray) (R : Ctx) (L : List SA) (w : World) (S : Sp R w L) (hs : s.size ≤ 1000000) (hp : plainB s = true) : Calls Try.prog 171 #[.string s] w fun e w' => ∃ g : Nat, e = .returned (.tuple #[.pointer (some ⟨g, 0, none⟩), .nilIface]) ∧ Sp R w' (SA.ver g s :: L) :=
  (newVer_plain s w hs hp).mono fun e w' ⟨g, he, hg, hb, hbl⟩ => ⟨g, he, S.newblk hbl hg hb⟩
/-- An error of some sort, or none. -/
def gerV (b : Bool) (t : TypeId) (v : Value) : Value := cond b (.iface t v) .nilIface
set_option maxRecDepth 100000 in
theorem r_gerne {a : Act} {o : Oper} {w : World} {x : Operand} {b : Bool} {t : TypeId} {v : Value} (ho : o.op = .binOp .neq 140 x (.const .nilIface) 140) (hx : a.eval x = gerV b t v) : (execOp a.eval o).run Try.prog w = .ok (.value (.bool b)) w := by
  unfold execOp
  have hn : a.eval (.const .nilIface) = .nilIface := rfl
  simp only [ho, hx, hn]
  clear ho hx; cases b <;> cases x <;> (first | rfl | (show _ = _; kernel_rfl) | (simp [gerV, eqGuard, binOp]; rfl))
set_option maxRecDepth 100000 in
theorem r_gereq {a : Act} {o : Oper} {w : World} {x : Operand} {b : Bool} {t : TypeId} {v : Value} (ho : o.op = .binOp .eql 140 x (.const .nilIface) 140) (hx : a.eval x = gerV b t v) : (execOp a.eval o).run Try.prog w = .ok (.value (.bool (!b))) w := by
  unfold execOp
  have hn : a.eval (.const .nilIface) = .nilIface := rfl
  simp only [ho, hx, hn]
  clear ho hx; cases b <;> cases x <;> (first | rfl | (show _ = _; kernel_rfl) | (simp [gerV, eqGuard, binOp]; rfl))
set_option maxRecDepth 100000 in
set_option maxHeartbeats 20000000 in
theorem newCon_star  (R : Ctx) (L : List SA) (w : World) (S : Sp R w (L))   :
    Calls Try.prog 170 #[.string ⟨#[42]⟩] w fun e w' => ∃ g : Nat, e = .returned (.tuple #[.pointer (some ⟨g, 0, none⟩), .nilIface]) ∧ Sp R w' (SA.blk g 276 #[.pointer none] :: L) := by
  refine fw_enter (fn := Try.f170) rfl rfl 21 rfl (Nat.le_of_ble_eq_true rfl) ?_
  intro a0 F0
  refine wp_seq_k fun K1 hK1 => ?_
  refine wp_region_lit ?_
  refine op_q F0 (.pointer none) ?_; intro a2 F2
  refine op_q F2 (.nilIface) ?_; intro a3 F3
  refine wpList_nil ?_
  refine hK1 _ _ ?_; clear hK1 K1
  refine wp_seq_k fun K4 hK4 => ?_
  refine wp_seq_k fun K5 hK5 => ?_
  refine wp_region_lit ?_
  refine op_q F3 (.string ⟨#[42]⟩) ?_; intro a6 F6
  refine op_q F6 (.bool true) ?_; intro a7 F7
  refine wpList_nil ?_
  refine hK5 _ _ ?_; clear hK5 K5
  refine wp_cond_true (F7.ev (by kernel_rfl)) ?_
  refine wp_seq_k fun K8 hK8 => ?_
  refine wp_region_lit ?_
  refine op_q F7 (.agg #[.pointer none]) ?_; intro a9 F9
  refine op_sq F9 (s_newp F9 276 #[.pointer none] (by kernel_rfl) (by kernel_rfl) (by kernel_rfl) S) ?_
  rintro _ _ w11 ⟨g9, rfl, rfl⟩ S11 a11 F11
  refine op_q F11 (.pointer (some ⟨g9, 0, none⟩)) ?_; intro a12 F12
  refine op_q F12 (.nilIface) ?_; intro a13 F13
  refine wpList_nil ?_
  refine hK8 _ _ ?_; clear hK8 K8
  refine wp_ret ?_
  refine ret_then ?_
  refine (F13.res2 rfl (v := .pointer (some ⟨g9, 0, none⟩)) (by kernel_rfl) (v2 := .nilIface) (by kernel_rfl) ?_).1
  exact ⟨g9, rfl, S11⟩
set_option maxRecDepth 100000 in
set_option maxHeartbeats 20000000 in
theorem newCon_plain (s : ByteArray) (R : Ctx) (L : List SA) (w : World) (S : Sp R w (L))  (hs : s.size ≤ 1000000) (hp : plainB s = true) :
    Calls Try.prog 170 #[.string s] w fun e w' => ∃ g : Nat, ∃ gv : Nat, e = .returned (.tuple #[.pointer (some ⟨g, 0, none⟩), .nilIface]) ∧ Sp R w' (SA.blk g 276 #[.pointer (some ⟨gv, 0, none⟩)] :: SA.ver gv s :: L) := by
  refine fw_enter (fn := Try.f170) rfl rfl 21 rfl (Nat.le_of_ble_eq_true rfl) ?_
  intro a0 F0
  refine wp_seq_k fun K1 hK1 => ?_
  refine wp_region_lit ?_
  refine op_q F0 (.pointer none) ?_; intro a2 F2
  refine op_q F2 (.nilIface) ?_; intro a3 F3
  refine wpList_nil ?_
  refine hK1 _ _ ?_; clear hK1 K1
  refine wp_seq_k fun K4 hK4 => ?_
  refine wp_seq_k fun K5 hK5 => ?_
  refine wp_region_lit ?_
  refine op_q F3 (.string s) ?_; intro a6 F6
  refine op_q F6 (.bool (s.toList == (⟨#[42]⟩ : ByteArray).toList)) ?_; intro a7 F7
  refine wpList_nil ?_
  refine hK5 _ _ ?_; clear hK5 K5
  have hc8 : (s.toList == (⟨#[42]⟩ : ByteArray).toList) = false := (by cases hc : s.toList == (⟨#[42]⟩ : ByteArray).toList with | false => rfl | true => rw [bytes_eqL hc] at hp; exact absurd hp (by decide))
  have F9 := F7.sb 7 (by kernel_rfl) hc8
  refine wp_cond_false (F9.ev (by kernel_rfl)) ?_
  refine wp_skip ?_
  refine hK4 _ _ ?_; clear hK4 K4
  refine wp_seq_k fun K10 hK10 => ?_
  refine wp_region_lit ?_
  refine op_q F9 (.string s) ?_; intro a11 F11
  refine op_cq F11 (f := 171) (args := #[.string s]) (newVer_b s _ _ _ S (by first | omega | (simp; done) | (simp; omega)) hp) ?_
  rintro _ w12 ⟨g12, rfl, S12⟩
  refine ⟨_, rfl, ?_⟩
  intro a13 F13
  refine op_q F13 (.tuple #[.pointer (some ⟨g12, 0, none⟩), .nilIface]) ?_; intro a14 F14
  refine op_q F14 (.pointer (some ⟨g12, 0, none⟩)) ?_; intro a15 F15
  refine op_q F15 (.nilIface) ?_; intro a16 F16
  refine op_q F16 (.pointer (some ⟨g12, 0, none⟩)) ?_; intro a17 F17
  refine op_q F17 (.nilIface) ?_; intro a18 F18
  refine wpList_nil ?_
  refine hK10 _ _ ?_; clear hK10 K10
  refine wp_seq_k fun K19 hK19 => ?_
  refine wp_seq_k fun K20 hK20 => ?_
  refine wp_region_lit ?_
  refine op_q F18 (.nilIface) ?_; intro a21 F21
  refine op_q F21 (.bool false) ?_; intro a22 F22
  refine wpList_nil ?_
  refine hK20 _ _ ?_; clear hK20 K20
  refine wp_cond_false (F22.ev (by kernel_rfl)) ?_
  refine wp_skip ?_
  refine hK19 _ _ ?_; clear hK19 K19
  refine wp_seq_k fun K23 hK23 => ?_
  refine wp_region_lit ?_
  refine op_q F22 (.pointer (some ⟨g12, 0, none⟩)) ?_; intro a24 F24
  refine op_q F24 (.agg #[.pointer (some ⟨g12, 0, none⟩)]) ?_; intro a25 F25
  refine op_sq F25 (s_newp F25 276 #[.pointer (some ⟨g12, 0, none⟩)] (by kernel_rfl) (by kernel_rfl) (by kernel_rfl) S12) ?_
  rintro _ _ w27 ⟨g25, rfl, rfl⟩ S27 a27 F27
  refine op_q F27 (.pointer (some ⟨g25, 0, none⟩)) ?_; intro a28 F28
  refine op_q F28 (.nilIface) ?_; intro a29 F29
  refine wpList_nil ?_
  refine hK23 _ _ ?_; clear hK23 K23
  refine wp_ret ?_
  refine (F29.res2 rfl (v := .pointer (some ⟨g25, 0, none⟩)) (by kernel_rfl) (v2 := .nilIface) (by kernel_rfl) ?_).1
  exact ⟨g25, g12, rfl, S27.p1.p1⟩
set_option maxRecDepth 100000 in
set_option maxHeartbeats 20000000 in
theorem check_star (g : Nat) (gv : Nat) (R : Ctx) (L : List SA) (w : World) (S : Sp R w (L)) (h0 : Rf R L fun w => Blk w (g) 276 #[.pointer none])  :
    Calls Try.prog 172 #[.pointer (some ⟨g, 0, none⟩), .pointer (some ⟨gv, 0, none⟩)] w fun e w' => e = .returned (.bool true) ∧ Sp R w' (L) := by
  refine fw_enter (fn := Try.f172) rfl rfl 18 rfl (Nat.le_of_ble_eq_true rfl) ?_
  intro a0 F0
  refine wp_seq_k fun K1 hK1 => ?_
  refine wp_region_lit ?_
  refine op_q F0 (.bool false) ?_; intro a2 F2
  refine wpList_nil ?_
  refine hK1 _ _ ?_; clear hK1 K1
  refine wp_seq_k fun K3 hK3 => ?_
  refine wp_region_lit ?_
  refine op_q F2 (.pointer (some ⟨g, 0, none⟩)) ?_; intro a4 F4
  refine op_q F4 (.pointer (some ⟨g, 0, none⟩)) ?_; intro a5 F5
  refine op_q F5 (.pointer (some ⟨g, 0, none⟩)) ?_; intro a6 F6
  refine op_rq (v := .pointer none) F6 (r_ld rfl (F6.e (.pointer (some ⟨g, 0, none⟩))) (v := .pointer none) ((h0 _ S).cell 0) Try.underlying253 rfl) ?_; intro a7 F7
  refine op_q F7 (.bool true) ?_; intro a8 F8
  refine op_q F8 (.bool true) ?_; intro a9 F9
  refine op_kq F9 ?_; intro a10 F10
  refine op_kq F10 ?_; intro a11 F11
  refine op_kq F11 ?_; intro a12 F12
  refine op_kq F12 ?_; intro a13 F13
  refine op_kq F13 ?_; intro a14 F14
  refine op_kq F14 ?_; intro a15 F15
  refine op_q F15 (.bool true) ?_; intro a16 F16
  refine op_q F16 (.bool true) ?_; intro a17 F17
  refine wpList_nil ?_
  refine hK3 _ _ ?_; clear hK3 K3
  refine wp_ret ?_
  refine (F17.res1 rfl (v := .bool true) (by kernel_rfl) ?_).1
  exact ⟨rfl, S⟩
end Go.Proofs.Ytkjcedlgljeoiaa

/- repo.IndexFile.Get. -/
namespace Go.Proofs.Ytkjcedlgljeoiaa
open Go.RowKit Go.Lib
set_option linter.unusedVariables false
set_option linter.unusedSimpArgs false
def VerAt (w : World) (g : Nat) (s : ByteArray) : Prop := Blk w g 278 (vC ((numsF s).map fun n : Nat => (n : Int)) s)
theorem errP {s : ByteArray} (h : errB s = true) : plainB s = false := by
  cases hp : plainB s with
  | false => rfl
  | true => rw [plain_ok hp] at h; cases h
theorem equal_sp (g g2 : Nat) (s t : ByteArray) (R : Ctx) (L : List SA) (w : World) (S : Sp R w L) (h0 : Rf R L fun w => VerAt w g s) (h1 : Rf R L fun w => VerAt w g2 t) (hp : plainB s = true) (hq : plainB t = true) : Calls Try.prog 198 #[.pointer (some ⟨g, 0, none⟩), .pointer (some ⟨g2, 0, none⟩)] w fun e w' => e = .returned (.bool (decide (s = t))) ∧ Sp R w' L := by
  refine (equal_any g g2 _ _ s t w (h0 w S) (h1 w S) (nums_len s) (nums_len t) (nums_bd hp) (nums_bd hq)).mono fun e w' ⟨he, hb⟩ => ⟨?_, S.below hb⟩
  rw [he, ← eqvF_eq (.inl hp) (.inl hq)]
  have e1 : errB s = false := by cases hc : errB s with | false => rfl | true => rw [errP hc] at hp; cases hp
  have e2 : errB t = false := by cases hc : errB t with | false => rfl | true => rw [errP hc] at hq; cases hq
  unfold eqvF
  rw [e1, e2]
  congr 2
  exact Bool.eq_iff_iff.2 (by
    rw [decide_eq_true_eq]; simp only [Bool.false_eq_true, if_false, decide_eq_true_eq]
    exact ⟨fun h => (List.map_inj_right (fun (a b : Nat) (h : (a : Int) = (b : Int)) => by omega)).1 h, fun h => by rw [h]⟩)
/-- Whether an entry is the one that is asked for. -/
def gtst (v : ByteArray) (x : Ty69) : Bool := (v.toList == (⟨#[]⟩ : ByteArray).toList) || (v.toList == x.fMeta.fVersion.toList)
theorem gtst_emp {v : ByteArray} {x : Ty69} (h : (v.toList == (⟨#[]⟩ : ByteArray).toList) = true) : gtst v x = true := by unfold gtst; rw [h]; rfl
theorem gtst_eq {v : ByteArray} {x : Ty69} {q : Bool} (h : (v.toList == (⟨#[]⟩ : ByteArray).toList) = false) (h2 : (v.toList == x.fMeta.fVersion.toList) = q) : gtst v x = q := by unfold gtst; rw [h, h2]; rfl
def GetR (v : ByteArray) (es : List Ty69) (qs : List (Option Addr)) (q : Option Addr) (b : Bool) : Prop :=
  (b = false ∧ ∃ (k : Nat) (h : k < es.length) (h2 : k < qs.length), gtst v es[k] = true ∧ (∀ j, ∀ h : j < es.length, j < k → gtst v es[j] = false) ∧ q = qs[k]) ∨ (b = true ∧ q = none ∧ ∀ x ∈ es, gtst v x = false)
def PlainE (x : Ty69) : Prop := x.fMeta.fVersion.size ≤ 1000000 ∧ plainB x.fMeta.fVersion = true
set_option maxRecDepth 100000 in
set_option maxHeartbeats 20000000 in
theorem errNew_sp3 (s : ByteArray) (R : Ctx) (L : List SA) (w : World) (S : Sp R w (L))   :
    Calls Try.prog 173 #[.string s] w fun e w' => ∃ ge : Nat, e = .returned (.iface 279 (.pointer (some ⟨ge, 0, none⟩))) ∧ Sp R w' (SA.blk ge 281 #[.string (s)] :: L) := by
  refine fw_enter (fn := Try.f173) rfl rfl 7 rfl (Nat.le_of_ble_eq_true rfl) ?_
  intro a0 F0
  refine wp_seq_k fun K1 hK1 => ?_
  refine wp_region_lit ?_
  refine op_q F0 (.nilIface) ?_; intro a2 F2
  refine wpList_nil ?_
  refine hK1 _ _ ?_; clear hK1 K1
  refine wp_seq_k fun K3 hK3 => ?_
  refine wp_region_lit ?_
  refine op_q F2 (.string s) ?_; intro a4 F4
  refine op_q F4 (.agg #[.string s]) ?_; intro a5 F5
  refine op_sq F5 (s_newp F5 281 #[.string s] (by kernel_rfl) (by kernel_rfl) (by kernel_rfl) S) ?_
  rintro _ _ w7 ⟨g5, rfl, rfl⟩ S7 a7 F7
  refine op_q F7 (.iface 279 (.pointer (some ⟨g5, 0, none⟩))) ?_; intro a8 F8
  refine op_q F8 (.iface 279 (.pointer (some ⟨g5, 0, none⟩))) ?_; intro a9 F9
  refine wpList_nil ?_
  refine hK3 _ _ ?_; clear hK3 K3
  refine wp_ret ?_
  refine (F9.res1 rfl (v := .iface 279 (.pointer (some ⟨g5, 0, none⟩))) (by kernel_rfl) ?_).1
  exact ⟨g5, rfl, S7⟩
set_option maxRecDepth 100000 in
set_option maxHeartbeats 20000000 in
theorem errNoName  (R : Ctx) (L : List SA) (w : World) (S : Sp R w (L))   :
    Calls Try.prog 168 #[] w fun e w' => e = .returned (.iface 274 (.string ⟨#[110, 111, 32, 99, 104, 97, 114, 116, 32, 110, 97, 109, 101, 32, 102, 111, 117, 110, 100]⟩)) ∧ Sp R w' (L) := by
  refine fw_enter (fn := Try.f168) rfl rfl 2 rfl (Nat.le_of_ble_eq_true rfl) ?_
  intro a0 F0
  refine wp_seq_k fun K1 hK1 => ?_
  refine wp_region_lit ?_
  refine op_q F0 (.nilIface) ?_; intro a2 F2
  refine wpList_nil ?_
  refine hK1 _ _ ?_; clear hK1 K1
  refine wp_seq_k fun K3 hK3 => ?_
  refine wp_region_lit ?_
  refine op_q F2 (.iface 274 (.string ⟨#[110, 111, 32, 99, 104, 97, 114, 116, 32, 110, 97, 109, 101, 32, 102, 111, 117, 110, 100]⟩)) ?_; intro a4 F4
  refine op_q F4 (.iface 274 (.string ⟨#[110, 111, 32, 99, 104, 97, 114, 116, 32, 110, 97, 109, 101, 32, 102, 111, 117, 110, 100]⟩)) ?_; intro a5 F5
  refine wpList_nil ?_
  refine hK3 _ _ ?_; clear hK3 K3
  refine wp_ret ?_
  refine (F5.res1 rfl (v := .iface 274 (.string ⟨#[110, 111, 32, 99, 104, 97, 114, 116, 32, 110, 97, 109, 101, 32, 102, 111, 117, 110, 100]⟩)) (by kernel_rfl) ?_).1
  exact ⟨rfl, S⟩
set_option maxRecDepth 100000 in
set_option maxHeartbeats 20000000 in
theorem errNoVer  (R : Ctx) (L : List SA) (w : World) (S : Sp R w (L))   :
    Calls Try.prog 169 #[] w fun e w' => e = .returned (.iface 274 (.string ⟨#[110, 111, 32, 99, 104, 97, 114, 116, 32, 118, 101, 114, 115, 105, 111, 110, 32, 102, 111, 117, 110, 100]⟩)) ∧ Sp R w' (L) := by
  refine fw_enter (fn := Try.f169) rfl rfl 2 rfl (Nat.le_of_ble_eq_true rfl) ?_
  intro a0 F0
  refine wp_seq_k fun K1 hK1 => ?_
  refine wp_region_lit ?_
  refine op_q F0 (.nilIface) ?_; intro a2 F2
  refine wpList_nil ?_
  refine hK1 _ _ ?_; clear hK1 K1
  refine wp_seq_k fun K3 hK3 => ?_
  refine wp_region_lit ?_
  refine op_q F2 (.iface 274 (.string ⟨#[110, 111, 32, 99, 104, 97, 114, 116, 32, 118, 101, 114, 115, 105, 111, 110, 32, 102, 111, 117, 110, 100]⟩)) ?_; intro a4 F4
  refine op_q F4 (.iface 274 (.string ⟨#[110, 111, 32, 99, 104, 97, 114, 116, 32, 118, 101, 114, 115, 105, 111, 110, 32, 102, 111, 117, 110, 100]⟩)) ?_; intro a5 F5
  refine wpList_nil ?_
  refine hK3 _ _ ?_; clear hK3 K3
  refine wp_ret ?_
  refine (F5.res1 rfl (v := .iface 274 (.string ⟨#[110, 111, 32, 99, 104, 97, 114, 116, 32, 118, 101, 114, 115, 105, 111, 110, 32, 102, 111, 117, 110, 100]⟩)) (by kernel_rfl) ?_).1
  exact ⟨rfl, S⟩
set_option maxRecDepth 100000 in
set_option maxHeartbeats 20000000 in
theorem check_plain (g : Nat) (g1 : Nat) (gv : Nat) (s : ByteArray) (t : ByteArray) (R : Ctx) (L : List SA) (w : World) (S : Sp R w (L)) (h0 : Rf R L fun w => Blk w (g) 276 #[.pointer (some ⟨g1, 0, none⟩)]) (h1 : Rf R L fun w => VerAt w g1 s) (h2 : Rf R L fun w => VerAt w gv t) (hp : plainB s = true) (hq : plainB t = true) :
    Calls Try.prog 172 #[.pointer (some ⟨g, 0, none⟩), .pointer (some ⟨gv, 0, none⟩)] w fun e w' => e = .returned (.bool (decide (s = t))) ∧ Sp R w' (L) := by
  refine fw_enter (fn := Try.f172) rfl rfl 18 rfl (Nat.le_of_ble_eq_true rfl) ?_
  intro a0 F0
  refine wp_seq_k fun K1 hK1 => ?_
  refine wp_region_lit ?_
  refine op_q F0 (.bool false) ?_; intro a2 F2
  refine wpList_nil ?_
  refine hK1 _ _ ?_; clear hK1 K1
  refine wp_seq_k fun K3 hK3 => ?_
  refine wp_region_lit ?_
  refine op_q F2 (.pointer (some ⟨g, 0, none⟩)) ?_; intro a4 F4
  refine op_q F4 (.pointer (some ⟨g, 0, none⟩)) ?_; intro a5 F5
  refine op_q F5 (.pointer (some ⟨g, 0, none⟩)) ?_; intro a6 F6
  refine op_rq (v := .pointer (some ⟨g1, 0, none⟩)) F6 (r_ld rfl (F6.e (.pointer (some ⟨g, 0, none⟩))) (v := .pointer (some ⟨g1, 0, none⟩)) ((h0 _ S).cell 0) Try.underlying253 rfl) ?_; intro a7 F7
  refine op_q F7 (.bool false) ?_; intro a8 F8
  refine op_q F8 (.bool false) ?_; intro a9 F9
  refine op_wq F9 ?_
  refine op_q F9 (.pointer (some ⟨g, 0, none⟩)) ?_; intro a10 F10
  refine op_wq F10 ?_
  refine op_q F10 (.pointer (some ⟨g, 0, none⟩)) ?_; intro a11 F11
  refine op_wq F11 ?_
  refine op_q F11 (.pointer (some ⟨g, 0, none⟩)) ?_; intro a12 F12
  refine op_wq F12 ?_
  refine op_rq (v := .pointer (some ⟨g1, 0, none⟩)) F12 (r_ld rfl (F12.e (.pointer (some ⟨g, 0, none⟩))) (v := .pointer (some ⟨g1, 0, none⟩)) ((h0 _ S).cell 0) Try.underlying253 rfl) ?_; intro a13 F13
  refine op_wq F13 ?_
  refine op_q F13 (.pointer (some ⟨gv, 0, none⟩)) ?_; intro a14 F14
  refine op_wq F14 ?_
  refine op_cq F14 (f := 198) (args := #[.pointer (some ⟨g1, 0, none⟩), .pointer (some ⟨gv, 0, none⟩)]) (equal_sp g1 gv s t _ _ _ S h1 h2 hp hq) ?_
  rintro _ w15 ⟨rfl, S15⟩
  refine ⟨_, rfl, ?_⟩
  intro a16 F16
  refine op_q F16 (.bool (decide (s = t))) ?_; intro a17 F17
  refine op_q F17 (.bool (decide (s = t))) ?_; intro a18 F18
  refine wpList_nil ?_
  refine hK3 _ _ ?_; clear hK3 K3
  refine wp_ret ?_
  refine (F18.res1 rfl (v := .bool (decide (s = t))) (by kernel_rfl) ?_).1
  exact ⟨rfl, S15⟩
set_option maxRecDepth 100000 in
set_option maxHeartbeats 20000000 in
theorem ixGet_none (gm : Nat) (n : Nat) (f : ByteArray → Option Value) (api : ByteArray) (pk : Value) (an : Value) (nm : ByteArray) (v : ByteArray) (R : Ctx) (L : List SA) (w : World) (S : Sp R w (SA.mpo Try.prog 9 gm n f :: L))  (hf : f nm = none) (hnz : nm.size ≤ 1000000) :
    Calls Try.prog 106 #[.agg #[.string api, .map (some gm), pk, an], .string nm, .string v] w fun e w' => ∃ t : Nat, ∃ ev : Value, e = .returned (.tuple #[.pointer none, gerV true t ev]) ∧ Sp R w' (SA.mpo Try.prog 9 gm n f :: L) := by
  refine fw_enter (fn := Try.f106) rfl rfl 91 rfl (Nat.le_of_ble_eq_true rfl) ?_
  intro a0 F0
  refine wp_seq_k fun K1 hK1 => ?_
  refine wp_region_lit ?_
  refine op_sq F0 (s_newp F0 249 #[.string api, .map (some gm), pk, an] (by kernel_rfl) (by kernel_rfl) (by kernel_rfl) S) ?_
  rintro _ _ w3 ⟨g1, rfl, rfl⟩ S3 a3 F3
  refine op_q F3 (.pointer none) ?_; intro a4 F4
  refine op_q F4 (.nilIface) ?_; intro a5 F5
  refine wpList_nil ?_
  refine hK1 _ _ ?_; clear hK1 K1
  refine wp_seq_k fun K6 hK6 => ?_
  refine wp_region_lit ?_
  refine op_q F5 (.pointer (some ⟨g1, 1, none⟩)) ?_; intro a7 F7
  refine op_rq (v := .map (some gm)) F7 (r_ld rfl (F7.e (.pointer (some ⟨g1, 1, none⟩))) (v := .map (some gm)) ((S3.bk 0 rfl).cell 1) Try.underlying247 rfl) ?_; intro a8 F8
  refine op_q F8 (.string nm) ?_; intro a9 F9
  refine op_rq (v := .tuple #[.slice none 0 0, .bool false]) F9 (r_mlookok (z := .slice none 0 0) rfl Try.underlying9 Try.underlying247 (by kernel_rfl) (F9.e (.map (some gm))) (F9.e (.string nm)) (S3.mpa 1 rfl) (by simp only [maxLen]; omega) (u := (.slice none 0 0)) (b := false) (by rw [hf]; rfl) (fun _ => rfl)) ?_; intro a10 F10
  refine op_q F10 (.tuple #[.slice none 0 0, .bool false]) ?_; intro a11 F11
  refine op_q F11 (.slice none 0 0) ?_; intro a12 F12
  refine op_q F12 (.bool false) ?_; intro a13 F13
  refine op_q F13 (.slice none 0 0) ?_; intro a14 F14
  refine op_q F14 (.bool false) ?_; intro a15 F15
  refine wpList_nil ?_
  refine hK6 _ _ ?_; clear hK6 K6
  refine wp_seq_k fun K16 hK16 => ?_
  refine wp_seq_k fun K17 hK17 => ?_
  refine wp_region_lit ?_
  refine op_q F15 (.bool false) ?_; intro a18 F18
  refine op_q F18 (.bool true) ?_; intro a19 F19
  refine wpList_nil ?_
  refine hK17 _ _ ?_; clear hK17 K17
  refine wp_cond_true (F19.ev (by kernel_rfl)) ?_
  refine wp_seq_k fun K20 hK20 => ?_
  refine wp_region_lit ?_
  refine op_cq F19 (f := 168) (args := #[]) (errNoName  _ _ _ S3 ) ?_
  rintro _ w21 ⟨rfl, S21⟩
  refine ⟨_, rfl, ?_⟩
  intro a22 F22
  refine op_q F22 (.pointer none) ?_; intro a23 F23
  refine op_q F23 (.iface 274 (.string ⟨#[110, 111, 32, 99, 104, 97, 114, 116, 32, 110, 97, 109, 101, 32, 102, 111, 117, 110, 100]⟩)) ?_; intro a24 F24
  refine wpList_nil ?_
  refine hK20 _ _ ?_; clear hK20 K20
  refine wp_ret ?_
  refine ret_then ?_
  refine (F24.res2 rfl (v := .pointer none) (by kernel_rfl) (v2 := .iface 274 (.string ⟨#[110, 111, 32, 99, 104, 97, 114, 116, 32, 110, 97, 109, 101, 32, 102, 111, 117, 110, 100]⟩)) (by kernel_rfl) ?_).1
  exact ⟨274, (Value.string ⟨#[110, 111, 32, 99, 104, 97, 114, 116, 32, 110, 97, 109, 101, 32, 102, 111, 117, 110, 100]⟩), rfl, S21.drop⟩
abbrev zq21 : Array UInt8 := #[110, 111, 32, 99, 104, 97, 114, 116, 32, 118, 101, 114, 115, 105, 111, 110, 32, 102, 111, 117, 110, 100]
set_option maxRecDepth 100000 in
set_option maxHeartbeats 20000000 in
theorem ixGet_some (gm : Nat) (n : Nat) (f : ByteArray → Option Value) (api : ByteArray) (pk : Value) (an : Value) (nm : ByteArray) (v : ByteArray) (Bp : Option Addr) (bp : Nat) (qs : List (Option Addr)) (es : List Ty69) (R : Ctx) (L : List SA) (w : World) (S : Sp R w (SA.mpo Try.prog 9 gm n f :: SA.zips SA.ent qs es :: L)) (h0 : Rf R L fun w => Sl w (Bp) (pps qs)) (hf : f nm = some (.slice Bp qs.length bp)) (hnz : nm.size ≤ 1000000) (hnb : ∀ x ∈ es, EntOk x) (hvo : ∀ x ∈ es, PlainE x) (hvs : v.size ≤ 1000000) (hvp : (v.toList == (⟨#[]⟩ : ByteArray).toList) = true ∨ plainB v = true) :
  Calls Try.prog 106 #[.agg #[.string api, .map (some gm), pk, an], .string nm, .string v] w fun e w' => ∃ q : Option Addr, ∃ b : Bool, ∃ t : Nat, ∃ ev : Value, e = .returned (.tuple #[.pointer q, gerV b t ev]) ∧ Sp R w' (SA.mpo Try.prog 9 gm n f :: SA.zips SA.ent qs es :: L) ∧ (GetR v es qs q b) := by
 have hl_qs : qs.length ≤ 9223372036854775807 := by have := (h0 _ S.drop.drop).1; simpa [strs, ptrs, pps] using this
 have hql := Sp.zlen S.swap
 refine fw_enter (fn := Try.f106) rfl rfl 91 rfl (Nat.le_of_ble_eq_true rfl) ?_
 intro a0 F0
 refine wp_seq_k fun K1 hK1 => ?_
 refine wp_region_lit ?_
 refine op_sq F0 (s_newp F0 249 #[.string api, .map (some gm), pk, an] (by kernel_rfl) (by kernel_rfl) (by kernel_rfl) S) ?_
 rintro _ _ w3 ⟨g1, rfl, rfl⟩ S3 a3 F3
 refine op_q F3 (.pointer none) ?_; intro a4 F4
 refine op_q F4 (.nilIface) ?_; intro a5 F5
 refine wpList_nil ?_
 refine hK1 _ _ ?_; clear hK1 K1
 refine wp_seq_k fun K6 hK6 => ?_
 refine wp_region_lit ?_
 refine op_q F5 (.pointer (some ⟨g1, 1, none⟩)) ?_; intro a7 F7
 refine op_rq (v := .map (some gm)) F7 (r_ld rfl (F7.e (.pointer (some ⟨g1, 1, none⟩))) (v := .map (some gm)) ((S3.bk 0 rfl).cell 1) Try.underlying247 rfl) ?_; intro a8 F8
 refine op_q F8 (.string nm) ?_; intro a9 F9
 refine op_rq (v := .tuple #[.slice Bp qs.length bp, .bool true]) F9 (r_mlookok (z := .slice none 0 0) rfl Try.underlying9 Try.underlying247 (by kernel_rfl) (F9.e (.map (some gm))) (F9.e (.string nm)) (S3.mpa 1 rfl) (by simp only [maxLen]; omega) (u := (.slice Bp qs.length bp)) (b := true) (by rw [hf]; rfl) (fun h => by cases h)) ?_; intro a10 F10
 refine op_q F10 (.tuple #[.slice Bp qs.length bp, .bool true]) ?_; intro a11 F11
 refine op_q F11 (.slice Bp qs.length bp) ?_; intro a12 F12
 refine op_q F12 (.bool true) ?_; intro a13 F13
 refine op_q F13 (.slice Bp qs.length bp) ?_; intro a14 F14
 refine op_q F14 (.bool true) ?_; intro a15 F15
 refine wpList_nil ?_
 refine hK6 _ _ ?_; clear hK6 K6
 refine wp_seq_k fun K16 hK16 => ?_
 refine wp_seq_k fun K17 hK17 => ?_
 refine wp_region_lit ?_
 refine op_q F15 (.bool true) ?_; intro a18 F18
 refine op_q F18 (.bool false) ?_; intro a19 F19
 refine wpList_nil ?_
 refine hK17 _ _ ?_; clear hK17 K17
 refine wp_cond_false (F19.ev (by kernel_rfl)) ?_
 refine wp_skip ?_
 refine hK16 _ _ ?_; clear hK16 K16
 refine wp_seq_k fun K20 hK20 => ?_
 refine wp_seq_k fun K21 hK21 => ?_
 refine wp_region_lit ?_
 refine op_q F19 (.slice Bp qs.length bp) ?_; intro a22 F22
 refine op_q F22 (.int .i64 (↑qs.length)) ?_; intro a23 F23
 refine op_q F23 (.bool ((↑qs.length : Int) == 0)) ?_; intro a24 F24
 refine wpList_nil ?_
 refine hK21 _ _ ?_; clear hK21 K21
 rcases btf ((↑qs.length : Int) == 0) with hc25 | hc25
 ·have hc25p := eq_of_beq hc25
  have F26 := F24.sb 30 (by kernel_rfl) hc25
  refine wp_cond_true (F26.ev (by kernel_rfl)) ?_
  refine wp_seq_k fun K27 hK27 => ?_
  refine wp_region_lit ?_
  refine op_cq F26 (f := 169) (args := #[]) (errNoVer  _ _ _ S3 ) ?_
  rintro _ w28 ⟨rfl, S28⟩
  refine ⟨_, rfl, ?_⟩
  intro a29 F29
  refine op_q F29 (.pointer none) ?_; intro a30 F30
  refine op_q F30 (.iface 274 (.string ⟨zq21⟩)) ?_; intro a31 F31
  refine wpList_nil ?_
  refine hK27 _ _ ?_; clear hK27 K27
  refine wp_ret ?_
  refine ret_then ?_
  refine (F31.res2 rfl (v := .pointer none) (by kernel_rfl) (v2 := .iface 274 (.string ⟨zq21⟩)) (by kernel_rfl) ?_).1
  exact ⟨none, true, 274, (Value.string ⟨zq21⟩), rfl, S28.drop.p1.p1, (.inr ⟨rfl, rfl, fun x hx => by have hl0 : es = [] := List.eq_nil_of_length_eq_zero (by omega); rw [hl0] at hx; cases hx⟩)⟩
 ·have hc25p := ne_of_beq_false hc25
  have F32 := F24.sb 30 (by kernel_rfl) hc25
  refine wp_cond_false (F32.ev (by kernel_rfl)) ?_
  refine wp_skip ?_
  refine hK20 _ _ ?_; clear hK20 K20
  refine wp_seq_k fun K33 hK33 => ?_
  refine wp_region_lit ?_
  refine op_q F32 (.pointer none) ?_; intro a34 F34
  refine wpList_nil ?_
  refine hK33 _ _ ?_; clear hK33 K33
  refine wp_seq_k fun K35 hK35 => ?_
  refine wp_seq_k fun K36 hK36 => ?_
  rcases btf (v.toList == (⟨#[]⟩ : ByteArray).toList) with hc37 | hc37
  ·skip
   refine wp_region_lit ?_
   refine op_q F34 (.string v) ?_; intro a38 F38
   refine op_q F38 (.bool (v.toList == (⟨#[]⟩ : ByteArray).toList)) ?_; intro a39 F39
   have F40 := F39.sb 33 (by kernel_rfl) hc37
   refine wpList_nil ?_
   refine hK36 _ _ ?_; clear hK36 K36
   refine wp_cond_true (F40.ev (by kernel_rfl)) ?_
   refine wp_region_lit ?_
   refine op_cq F40 (f := 170) (args := #[.string ⟨#[42]⟩]) (newCon_star  _ _ _ S3 ) ?_
   rintro _ w41 ⟨g41, rfl, S41⟩
   refine ⟨_, rfl, ?_⟩
   intro a42 F42
   refine op_q F42 (.tuple #[.pointer (some ⟨g41, 0, none⟩), .nilIface]) ?_; intro a43 F43
   refine op_q F43 (.pointer (some ⟨g41, 0, none⟩)) ?_; intro a44 F44
   refine op_q F44 (.nilIface) ?_; intro a45 F45
   refine op_q F45 (.pointer (some ⟨g41, 0, none⟩)) ?_; intro a46 F46
   refine wpList_nil ?_
   refine hK35 _ _ ?_; clear hK35 K35
   refine wp_seq_k fun K47 hK47 => ?_
   refine wp_seq_k fun K48 hK48 => ?_
   refine wp_region_lit ?_
   refine op_q F46 (.string v) ?_; intro a49 F49
   refine op_q F49 (.int .i64 (↑v.size)) ?_; intro a50 F50
   refine op_q F50 (.bool (!((↑v.size : Int) == 0))) ?_; intro a51 F51
   refine wpList_nil ?_
   refine hK48 _ _ ?_; clear hK48 K48
   have hc52 : ((↑v.size : Int) == 0) = true := (beq_iff_eq.2 (by have := emp_sz hc37; omega))
   have F53 := F51.sb 48 (by kernel_rfl) (show (!((↑v.size : Int) == 0)) = false by rw [hc52]; rfl)
   refine wp_cond_false (F53.ev (by kernel_rfl)) ?_
   refine wp_skip ?_
   refine hK47 _ _ ?_; clear hK47 K47
   refine wp_seq_k fun K54 hK54 => ?_
   refine wp_seq_k fun K55 hK55 => ?_
   refine wp_region_lit ?_
   refine op_q F53 (.slice Bp qs.length bp) ?_; intro a56 F56
   refine op_q F56 (.int .i64 (↑qs.length)) ?_; intro a57 F57
   refine op_q F57 (.int .i64 0) ?_; intro a58 F58
   refine wpList_nil ?_
   refine hK55 _ _ ?_; clear hK55 K55
   refine wp_block ?_
   refine fw_loop (fun m' a' w' => ∃ i : Nat, qs.length - i = m' ∧ Fr 91 [] a' [(10, .pointer (some ⟨g41, 0, none⟩)), (66, .slice Bp qs.length bp), (67, .int .i64 (↑qs.length)), (68, .int .i64 (↑i))] ∧ Sp R w' (SA.blk g41 276 #[.pointer none] :: SA.blk g1 249 #[.string api, .map (some gm), pk, an] :: SA.mpo Try.prog 9 gm n f :: SA.zips SA.ent qs es :: L) ∧ (i ≤ qs.length) ∧ (∀ j, ∀ h : j < es.length, j < i → gtst v es[j] = false)) _ ⟨0, rfl, (F58.kk 10 (F58.kk 66 (F58.kk 67 (F58.kk 68 F58.nil)))), S41.p3.p3.p3.p3, (by first | omega | (with_reducible assumption) | (simp; done)), (fun j _ h => absurd h (Nat.not_lt_zero _))⟩ ?_
   rintro m59 a59 w59 ⟨i, hm59, F59, S59, hi, hn2⟩ K59 hK59
   by_cases hlt_i : i < qs.length
   ·have hc_i : decide ((↑i : Int) < ↑qs.length) = true := by first | (simp; done) | (simp; omega)
    have hlt_i2 : i < es.length := by omega
    obtain ⟨hen, heb, heu, hef, het⟩ := hnb _ (List.getElem_mem hlt_i2)
    obtain ⟨hvk, hq⟩ := hvo _ (List.getElem_mem hlt_i2)
    obtain ⟨hv_i, Sz60⟩ := Sp.zat (k := i) hlt_i2 S59.p3
    obtain ⟨qi, hqi⟩ : ∃ q, q = qs[i] := ⟨_, rfl⟩
    have S61 : Sp R w59 (SA.ent qi es[i] :: SA.zips SA.ent (qs.take i) (es.take i) :: SA.zips SA.ent (qs.drop (i + 1)) (es.drop (i + 1)) :: SA.blk g41 276 #[.pointer none] :: SA.blk g1 249 #[.string api, .map (some gm), pk, an] :: SA.mpo Try.prog 9 gm n f :: L) := by rw [hqi]; exact Sz60
    obtain ⟨ge, gme, Ae, ce, hq2, Se62⟩ := Sp.ent_open hen heb S61
    subst hq2
    have S63 : Sp R w59 (SA.blk ge 229 #[.pointer (some ⟨gme, 0, none⟩), .slice Ae es[i].fURLs.length ce, .bool false, .string es[i].fDigest, .string ⟨#[]⟩, .string ⟨#[]⟩, .string ⟨#[]⟩, .string ⟨#[]⟩] :: SA.own0 (.slice Ae es[i].fURLs.length ce) 9 1 es[i].fURLs.length (strs es[i].fURLs) :: SA.met gme es[i].fMeta :: SA.zips SA.ent (qs.take i) (es.take i) :: SA.zips SA.ent (qs.drop (i + 1)) (es.drop (i + 1)) :: SA.blk g41 276 #[.pointer none] :: SA.blk g1 249 #[.string api, .map (some gm), pk, an] :: SA.mpo Try.prog 9 gm n f :: L) := Se62
    obtain ⟨M1, m1, M2, m2, M3, m3, mq, M4, m4, mu, Sm64⟩ := Sp.met_open S63.p2
    have S65 : Sp R w59 (SA.blk gme 237 #[.string es[i].fMeta.fName, .string es[i].fMeta.fHome, .slice M1 (es[i].fMeta.fSources.length) m1, .string es[i].fMeta.fVersion, .string es[i].fMeta.fDescription, .slice M2 (es[i].fMeta.fKeywords.length) m2, .slice M3 mq.length m3, .string es[i].fMeta.fIcon, .string es[i].fMeta.fAPIVersion, .string es[i].fMeta.fCondition, .string es[i].fMeta.fTags, .string es[i].fMeta.fAppVersion, .bool false, .map none, .string es[i].fMeta.fKubeVersion, .slice M4 mu.length m4, .string es[i].fMeta.fType] :: SA.own0 (.slice M1 es[i].fMeta.fSources.length m1) 9 1 es[i].fMeta.fSources.length (strs es[i].fMeta.fSources) :: SA.own0 (.slice M2 es[i].fMeta.fKeywords.length m2) 9 1 es[i].fMeta.fKeywords.length (strs es[i].fMeta.fKeywords) :: SA.own (.slice M3 mq.length m3) 238 1 mq.length (pps mq) :: SA.zips SA.per mq es[i].fMeta.fMaintainers :: SA.own (.slice M4 mu.length m4) 240 1 mu.length (pps mu) :: SA.zips SA.dep mu es[i].fMeta.fDependencies :: SA.blk ge 229 #[.pointer (some ⟨gme, 0, none⟩), .slice Ae es[i].fURLs.length ce, .bool false, .string es[i].fDigest, .string ⟨#[]⟩, .string ⟨#[]⟩, .string ⟨#[]⟩, .string ⟨#[]⟩] :: SA.own0 (.slice Ae es[i].fURLs.length ce) 9 1 es[i].fURLs.length (strs es[i].fURLs) :: SA.zips SA.ent (qs.take i) (es.take i) :: SA.zips SA.ent (qs.drop (i + 1)) (es.drop (i + 1)) :: SA.blk g41 276 #[.pointer none] :: SA.blk g1 249 #[.string api, .map (some gm), pk, an] :: SA.mpo Try.prog 9 gm n f :: L) := Sm64
    obtain ⟨ad66, hA66⟩ := (h0 _ S65.drop.drop.drop.drop.drop.drop.drop.drop.drop.drop.drop.drop.drop.drop).addr (by simp [pps]; omega)
    refine wp_seq_k fun K67 hK67 => ?_
    refine wp_region_lit ?_
    refine op_q F59 (.bool (decide ((↑i : Int) < ↑qs.length))) ?_; intro a68 F68
    have F69 := F68.sb 69 (by kernel_rfl) hc_i
    refine wpList_nil ?_
    refine hK67 _ _ ?_; clear hK67 K67
    refine wp_seq_k fun K70 hK70 => ?_
    refine wp_cond_true (F69.ev (by kernel_rfl)) ?_
    refine wp_skip ?_
    refine hK70 _ _ ?_; clear hK70 K70
    refine wp_seq_k fun K71 hK71 => ?_
    refine wp_block ?_
    refine wp_seq_k fun K72 hK72 => ?_
    refine wp_region_lit ?_
    refine op_rq (v := .pointer (some (ad66.add i))) F69 (r_ix rfl Try.underlying151 1 (by kernel_rfl) (F69.e (.slice Bp qs.length bp)) hA66 (F69.e (.int .i64 (↑i))) i (by first | rfl | omega | simp) (by first | omega | (simp; done) | (simp; omega)) (by simp only [Nat.mul_one])) ?_; intro a73 F73
    refine op_rq (v := .pointer (some ⟨ge, 0, none⟩)) F73 (r_ld rfl (F73.e (.pointer (some (ad66.add i)))) (v := .pointer (some ⟨ge, 0, none⟩)) ((h0 _ S65.drop.drop.drop.drop.drop.drop.drop.drop.drop.drop.drop.drop.drop.drop).elA hA66 (j := i) (by simp only [pps, List.getElem?_map, List.getElem?_eq_getElem hlt_i]; rw [← hqi]; rfl)) Try.underlying154 rfl) ?_; intro a74 F74
    refine op_q F74 (.pointer (some ⟨ge, 0, none⟩)) ?_; intro a75 F75
    refine wpList_nil ?_
    refine hK72 _ _ ?_; clear hK72 K72
    refine wp_seq_k fun K76 hK76 => ?_
    refine wp_region_lit ?_
    refine op_q F75 (.pointer (some ⟨ge, 0, none⟩)) ?_; intro a77 F77
    refine op_q F77 (.pointer (some ⟨ge, 0, none⟩)) ?_; intro a78 F78
    refine op_q F78 (.pointer (some ⟨ge, 0, none⟩)) ?_; intro a79 F79
    refine op_rq (v := .pointer (some ⟨gme, 0, none⟩)) F79 (r_ld rfl (F79.e (.pointer (some ⟨ge, 0, none⟩))) (v := .pointer (some ⟨gme, 0, none⟩)) ((S65.bk 7 rfl).cell 0) Try.underlying163 rfl) ?_; intro a80 F80
    refine op_q F80 (.pointer (some ⟨gme, 0, none⟩)) ?_; intro a81 F81
    refine op_q F81 (.pointer (some ⟨gme, 3, none⟩)) ?_; intro a82 F82
    refine op_rq (v := .string es[i].fMeta.fVersion) F82 (r_ld rfl (F82.e (.pointer (some ⟨gme, 3, none⟩))) (v := .string es[i].fMeta.fVersion) ((S65.bk 0 rfl).cell 3) Try.underlying9 rfl) ?_; intro a83 F83
    refine op_cq F83 (f := 171) (args := #[.string es[i].fMeta.fVersion]) (newVer_b es[i].fMeta.fVersion _ _ _ S65 (by first | omega | (simp; done) | (simp; omega)) hq) ?_
    rintro _ w84 ⟨g84, rfl, S84⟩
    refine ⟨_, rfl, ?_⟩
    intro a85 F85
    refine op_q F85 (.tuple #[.pointer (some ⟨g84, 0, none⟩), .nilIface]) ?_; intro a86 F86
    refine op_q F86 (.pointer (some ⟨g84, 0, none⟩)) ?_; intro a87 F87
    refine op_q F87 (.nilIface) ?_; intro a88 F88
    refine op_q F88 (.pointer (some ⟨g84, 0, none⟩)) ?_; intro a89 F89
    refine op_q F89 (.nilIface) ?_; intro a90 F90
    refine wpList_nil ?_
    refine hK76 _ _ ?_; clear hK76 K76
    refine wp_seq_k fun K91 hK91 => ?_
    refine wp_seq_k fun K92 hK92 => ?_
    refine wp_region_lit ?_
    refine op_q F90 (.nilIface) ?_; intro a93 F93
    refine op_q F93 (.bool false) ?_; intro a94 F94
    refine wpList_nil ?_
    refine hK92 _ _ ?_; clear hK92 K92
    refine wp_cond_false (F94.ev (by kernel_rfl)) ?_
    refine wp_skip ?_
    refine hK91 _ _ ?_; clear hK91 K91
    refine wp_seq_k fun K95 hK95 => ?_
    refine wp_region_lit ?_
    refine op_q F94 (.pointer (some ⟨g41, 0, none⟩)) ?_; intro a96 F96
    refine op_q F96 (.pointer (some ⟨g84, 0, none⟩)) ?_; intro a97 F97
    refine op_cq F97 (f := 172) (args := #[.pointer (some ⟨g41, 0, none⟩), .pointer (some ⟨g84, 0, none⟩)]) (check_star g41 g84 _ _ _ S84 (fun w S => S.bk 12 rfl)) ?_
    rintro _ w98 ⟨rfl, S98⟩
    refine ⟨_, rfl, ?_⟩
    intro a99 F99
    refine wpList_nil ?_
    refine hK95 _ _ ?_; clear hK95 K95
    refine wp_cond_true (F99.ev (by kernel_rfl)) ?_
    refine wp_seq_k fun K100 hK100 => ?_
    refine wp_region_lit ?_
    refine op_q F99 (.pointer (some ⟨ge, 0, none⟩)) ?_; intro a101 F101
    refine op_q F101 (.pointer (some ⟨ge, 0, none⟩)) ?_; intro a102 F102
    refine op_q F102 (.nilIface) ?_; intro a103 F103
    refine wpList_nil ?_
    refine hK100 _ _ ?_; clear hK100 K100
    refine wp_ret ?_
    refine ret_in ?_
    refine ret_then ?_
    refine ret_then ?_
    refine ret_in ?_
    refine ret_then ?_
    have S104 : Sp R w98 (SA.met gme es[i].fMeta :: SA.ver g84 es[i].fMeta.fVersion :: SA.blk ge 229 #[.pointer (some ⟨gme, 0, none⟩), .slice Ae es[i].fURLs.length ce, .bool false, .string es[i].fDigest, .string ⟨#[]⟩, .string ⟨#[]⟩, .string ⟨#[]⟩, .string ⟨#[]⟩] :: SA.own0 (.slice Ae es[i].fURLs.length ce) 9 1 es[i].fURLs.length (strs es[i].fURLs) :: SA.zips SA.ent (qs.take i) (es.take i) :: SA.zips SA.ent (qs.drop (i + 1)) (es.drop (i + 1)) :: SA.blk g41 276 #[.pointer none] :: SA.blk g1 249 #[.string api, .map (some gm), pk, an] :: SA.mpo Try.prog 9 gm n f :: L) := Sp.met_mk S98.p7.p7.p7.p7.p7.p7.p7
    have S105 : Sp R w98 (SA.ent (some ⟨ge, 0, none⟩) es[i] :: SA.ver g84 es[i].fMeta.fVersion :: SA.zips SA.ent (qs.take i) (es.take i) :: SA.zips SA.ent (qs.drop (i + 1)) (es.drop (i + 1)) :: SA.blk g41 276 #[.pointer none] :: SA.blk g1 249 #[.string api, .map (some gm), pk, an] :: SA.mpo Try.prog 9 gm n f :: L) := Sp.ent_mk hen heb S104.p3.p3
    have S106 : Sp R w98 (SA.zips SA.ent qs es :: SA.ver g84 es[i].fMeta.fVersion :: SA.blk g41 276 #[.pointer none] :: SA.blk g1 249 #[.string api, .map (some gm), pk, an] :: SA.mpo Try.prog 9 gm n f :: L) := Sp.zclose (k := i) hlt_i2 hv_i (by rw [← hqi]; exact S105.p3.p3.p2)
    refine (F103.res2 rfl (v := .pointer (some ⟨ge, 0, none⟩)) (by kernel_rfl) (v2 := .nilIface) (by kernel_rfl) ?_).1
    exact ⟨(some ⟨ge, 0, none⟩), false, 0, Value.nilIface, rfl, S106.p1.drop.p1.drop.p1.drop.p1, (.inl ⟨rfl, i, hlt_i2, hlt_i, gtst_emp hc37, hn2, hqi⟩)⟩
   ·have hc_i : decide ((↑i : Int) < ↑qs.length) = false := by first | (simp; done) | (simp; omega)
    obtain rfl : i = qs.length := by omega
    refine wp_seq_k fun K107 hK107 => ?_
    refine wp_region_lit ?_
    refine op_q F59 (.bool (decide ((↑qs.length : Int) < ↑qs.length))) ?_; intro a108 F108
    have F109 := F108.sb 69 (by kernel_rfl) hc_i
    refine wpList_nil ?_
    refine hK107 _ _ ?_; clear hK107 K107
    refine wp_seq_k fun K110 hK110 => ?_
    refine wp_cond_false (F109.ev (by kernel_rfl)) ?_
    refine wp_exit ?_
    refine ex_then ?_; clear hK110 K110
    refine ex_then ?_
    refine ex_in ?_
    refine hK54 _ _ ?_; clear hK54 K54
    refine wp_seq_k fun K111 hK111 => ?_
    refine wp_region_lit ?_
    refine op_cq F109 (f := 173) (args := #[.string ⟨zq21⟩]) (errNew_sp3 ⟨zq21⟩ _ _ _ S59 ) ?_
    rintro _ w112 ⟨ge112, rfl, S112⟩
    refine ⟨_, rfl, ?_⟩
    intro a113 F113
    refine op_q F113 (.pointer none) ?_; intro a114 F114
    refine op_q F114 (.iface 279 (.pointer (some ⟨ge112, 0, none⟩))) ?_; intro a115 F115
    refine wpList_nil ?_
    refine hK111 _ _ ?_; clear hK111 K111
    refine wp_ret ?_
    refine (F115.res2 rfl (v := .pointer none) (by kernel_rfl) (v2 := .iface 279 (.pointer (some ⟨ge112, 0, none⟩))) (by kernel_rfl) ?_).1
    exact ⟨none, true, 279, (Value.pointer (some ⟨ge112, 0, none⟩)), rfl, S112.drop.drop.drop.p1.p1, (.inr ⟨rfl, rfl, fun x hx => by obtain ⟨j, hj, rfl⟩ := List.mem_iff_getElem.1 hx; exact hn2 j hj (by omega)⟩)⟩
  ·skip
   have hp : plainB v = true := hvp.resolve_left (by rw [hc37]; decide)
   refine wp_region_lit ?_
   refine op_q F34 (.string v) ?_; intro a116 F116
   refine op_q F116 (.bool (v.toList == (⟨#[]⟩ : ByteArray).toList)) ?_; intro a117 F117
   have F118 := F117.sb 33 (by kernel_rfl) hc37
   refine wpList_nil ?_
   refine hK36 _ _ ?_; clear hK36 K36
   refine wp_cond_false (F118.ev (by kernel_rfl)) ?_
   refine wp_seq_k fun K119 hK119 => ?_
   refine wp_region_lit ?_
   refine op_q F118 (.nilIface) ?_; intro a120 F120
   refine wpList_nil ?_
   refine hK119 _ _ ?_; clear hK119 K119
   refine wp_seq_k fun K121 hK121 => ?_
   refine wp_region_lit ?_
   refine op_q F120 (.string v) ?_; intro a122 F122
   refine op_cq F122 (f := 170) (args := #[.string v]) (newCon_plain v _ _ _ S3 (by first | omega | (simp; done) | (simp; omega)) hp) ?_
   rintro _ w123 ⟨g123, gv123, rfl, S123⟩
   refine ⟨_, rfl, ?_⟩
   intro a124 F124
   refine op_q F124 (.tuple #[.pointer (some ⟨g123, 0, none⟩), .nilIface]) ?_; intro a125 F125
   refine op_q F125 (.pointer (some ⟨g123, 0, none⟩)) ?_; intro a126 F126
   refine op_q F126 (.nilIface) ?_; intro a127 F127
   refine op_q F127 (.pointer (some ⟨g123, 0, none⟩)) ?_; intro a128 F128
   refine op_q F128 (.nilIface) ?_; intro a129 F129
   refine wpList_nil ?_
   refine hK121 _ _ ?_; clear hK121 K121
   refine wp_seq_k fun K130 hK130 => ?_
   refine wp_region_lit ?_
   refine op_q F129 (.nilIface) ?_; intro a131 F131
   refine op_q F131 (.bool false) ?_; intro a132 F132
   refine wpList_nil ?_
   refine hK130 _ _ ?_; clear hK130 K130
   refine wp_cond_false (F132.ev (by kernel_rfl)) ?_
   refine wp_skip ?_
   refine hK35 _ _ ?_; clear hK35 K35
   refine wp_seq_k fun K133 hK133 => ?_
   refine wp_seq_k fun K134 hK134 => ?_
   refine wp_region_lit ?_
   refine op_q F132 (.string v) ?_; intro a135 F135
   refine op_q F135 (.int .i64 (↑v.size)) ?_; intro a136 F136
   refine op_q F136 (.bool (!((↑v.size : Int) == 0))) ?_; intro a137 F137
   refine wpList_nil ?_
   refine hK134 _ _ ?_; clear hK134 K134
   have hc138 : ((↑v.size : Int) == 0) = false := (beq_eq_false_iff_ne.2 (by have := emp_pos hc37; omega))
   have F139 := F137.sb 48 (by kernel_rfl) (show (!((↑v.size : Int) == 0)) = true by rw [hc138]; rfl)
   refine wp_cond_true (F139.ev (by kernel_rfl)) ?_
   refine wp_seq_k fun K140 hK140 => ?_
   refine wp_region_lit ?_
   refine op_q F139 (.slice Bp qs.length bp) ?_; intro a141 F141
   refine op_q F141 (.int .i64 (↑qs.length)) ?_; intro a142 F142
   refine op_q F142 (.int .i64 0) ?_; intro a143 F143
   refine wpList_nil ?_
   refine hK140 _ _ ?_; clear hK140 K140
   refine wp_block ?_
   refine fw_loop (fun m' a' w' => ∃ k : Nat, qs.length - k = m' ∧ Fr 91 [] a' [(2, .string v), (8, .slice Bp qs.length bp), (10, .pointer (some ⟨g123, 0, none⟩)), (49, .slice Bp qs.length bp), (50, .int .i64 (↑qs.length)), (51, .int .i64 (↑k))] ∧ Sp R w' (SA.blk g123 276 #[.pointer (some ⟨gv123, 0, none⟩)] :: SA.ver gv123 v :: SA.blk g1 249 #[.string api, .map (some gm), pk, an] :: SA.mpo Try.prog 9 gm n f :: SA.zips SA.ent qs es :: L) ∧ (k ≤ qs.length) ∧ (∀ j, ∀ h : j < es.length, j < k → (v.toList == es[j].fMeta.fVersion.toList) = false)) _ ⟨0, rfl, (F143.kk 2 (F143.kk 8 (F143.kk 10 (F143.kk 49 (F143.kk 50 (F143.kk 51 F143.nil)))))), S123.p4.p4.p4.p4.p4, (by first | omega | (with_reducible assumption) | (simp; done)), (fun j _ h => absurd h (Nat.not_lt_zero _))⟩ ?_
   rintro m144 a144 w144 ⟨k, hm144, F144, S144, hk, hno⟩ K144 hK144
   by_cases hlt_k : k < qs.length
   ·have hc_k : decide ((↑k : Int) < ↑qs.length) = true := by first | (simp; done) | (simp; omega)
    have hlt_k2 : k < es.length := by omega
    obtain ⟨hen, heb, heu, hef, het⟩ := hnb _ (List.getElem_mem hlt_k2)
    obtain ⟨hvk, hq⟩ := hvo _ (List.getElem_mem hlt_k2)
    obtain ⟨hv_k, Sz145⟩ := Sp.zat (k := k) hlt_k2 S144.p4
    obtain ⟨qk, hqk⟩ : ∃ q, q = qs[k] := ⟨_, rfl⟩
    have S146 : Sp R w144 (SA.ent qk es[k] :: SA.zips SA.ent (qs.take k) (es.take k) :: SA.zips SA.ent (qs.drop (k + 1)) (es.drop (k + 1)) :: SA.blk g123 276 #[.pointer (some ⟨gv123, 0, none⟩)] :: SA.ver gv123 v :: SA.blk g1 249 #[.string api, .map (some gm), pk, an] :: SA.mpo Try.prog 9 gm n f :: L) := by rw [hqk]; exact Sz145
    obtain ⟨ge, gme, Ae, ce, hq2, Se147⟩ := Sp.ent_open hen heb S146
    subst hq2
    have S148 : Sp R w144 (SA.blk ge 229 #[.pointer (some ⟨gme, 0, none⟩), .slice Ae es[k].fURLs.length ce, .bool false, .string es[k].fDigest, .string ⟨#[]⟩, .string ⟨#[]⟩, .string ⟨#[]⟩, .string ⟨#[]⟩] :: SA.own0 (.slice Ae es[k].fURLs.length ce) 9 1 es[k].fURLs.length (strs es[k].fURLs) :: SA.met gme es[k].fMeta :: SA.zips SA.ent (qs.take k) (es.take k) :: SA.zips SA.ent (qs.drop (k + 1)) (es.drop (k + 1)) :: SA.blk g123 276 #[.pointer (some ⟨gv123, 0, none⟩)] :: SA.ver gv123 v :: SA.blk g1 249 #[.string api, .map (some gm), pk, an] :: SA.mpo Try.prog 9 gm n f :: L) := Se147
    obtain ⟨M1, m1, M2, m2, M3, m3, mq, M4, m4, mu, Sm149⟩ := Sp.met_open S148.p2
    have S150 : Sp R w144 (SA.blk gme 237 #[.string es[k].fMeta.fName, .string es[k].fMeta.fHome, .slice M1 (es[k].fMeta.fSources.length) m1, .string es[k].fMeta.fVersion, .string es[k].fMeta.fDescription, .slice M2 (es[k].fMeta.fKeywords.length) m2, .slice M3 mq.length m3, .string es[k].fMeta.fIcon, .string es[k].fMeta.fAPIVersion, .string es[k].fMeta.fCondition, .string es[k].fMeta.fTags, .string es[k].fMeta.fAppVersion, .bool false, .map none, .string es[k].fMeta.fKubeVersion, .slice M4 mu.length m4, .string es[k].fMeta.fType] :: SA.own0 (.slice M1 es[k].fMeta.fSources.length m1) 9 1 es[k].fMeta.fSources.length (strs es[k].fMeta.fSources) :: SA.own0 (.slice M2 es[k].fMeta.fKeywords.length m2) 9 1 es[k].fMeta.fKeywords.length (strs es[k].fMeta.fKeywords) :: SA.own (.slice M3 mq.length m3) 238 1 mq.length (pps mq) :: SA.zips SA.per mq es[k].fMeta.fMaintainers :: SA.own (.slice M4 mu.length m4) 240 1 mu.length (pps mu) :: SA.zips SA.dep mu es[k].fMeta.fDependencies :: SA.blk ge 229 #[.pointer (some ⟨gme, 0, none⟩), .slice Ae es[k].fURLs.length ce, .bool false, .string es[k].fDigest, .string ⟨#[]⟩, .string ⟨#[]⟩, .string ⟨#[]⟩, .string ⟨#[]⟩] :: SA.own0 (.slice Ae es[k].fURLs.length ce) 9 1 es[k].fURLs.length (strs es[k].fURLs) :: SA.zips SA.ent (qs.take k) (es.take k) :: SA.zips SA.ent (qs.drop (k + 1)) (es.drop (k + 1)) :: SA.blk g123 276 #[.pointer (some ⟨gv123, 0, none⟩)] :: SA.ver gv123 v :: SA.blk g1 249 #[.string api, .map (some gm), pk, an] :: SA.mpo Try.prog 9 gm n f :: L) := Sm149
    obtain ⟨ad151, hA151⟩ := (h0 _ S150.drop.drop.drop.drop.drop.drop.drop.drop.drop.drop.drop.drop.drop.drop.drop).addr (by simp [pps]; omega)
    refine wp_seq_k fun K152 hK152 => ?_
    refine wp_region_lit ?_
    refine op_q F144 (.bool (decide ((↑k : Int) < ↑qs.length))) ?_; intro a153 F153
    have F154 := F153.sb 52 (by kernel_rfl) hc_k
    refine wpList_nil ?_
    refine hK152 _ _ ?_; clear hK152 K152
    refine wp_seq_k fun K155 hK155 => ?_
    refine wp_cond_true (F154.ev (by kernel_rfl)) ?_
    refine wp_skip ?_
    refine hK155 _ _ ?_; clear hK155 K155
    refine wp_seq_k fun K156 hK156 => ?_
    refine wp_block ?_
    refine wp_seq_k fun K157 hK157 => ?_
    refine wp_region_lit ?_
    refine op_rq (v := .pointer (some (ad151.add k))) F154 (r_ix rfl Try.underlying151 1 (by kernel_rfl) (F154.e (.slice Bp qs.length bp)) hA151 (F154.e (.int .i64 (↑k))) k (by first | rfl | omega | simp) (by first | omega | (simp; done) | (simp; omega)) (by simp only [Nat.mul_one])) ?_; intro a158 F158
    refine op_rq (v := .pointer (some ⟨ge, 0, none⟩)) F158 (r_ld rfl (F158.e (.pointer (some (ad151.add k)))) (v := .pointer (some ⟨ge, 0, none⟩)) ((h0 _ S150.drop.drop.drop.drop.drop.drop.drop.drop.drop.drop.drop.drop.drop.drop.drop).elA hA151 (j := k) (by simp only [pps, List.getElem?_map, List.getElem?_eq_getElem hlt_k]; rw [← hqk]; rfl)) Try.underlying154 rfl) ?_; intro a159 F159
    refine op_q F159 (.pointer (some ⟨ge, 0, none⟩)) ?_; intro a160 F160
    refine wpList_nil ?_
    refine hK157 _ _ ?_; clear hK157 K157
    refine wp_seq_k fun K161 hK161 => ?_
    refine wp_region_lit ?_
    refine op_q F160 (.string v) ?_; intro a162 F162
    refine op_q F162 (.pointer (some ⟨ge, 0, none⟩)) ?_; intro a163 F163
    refine op_q F163 (.pointer (some ⟨ge, 0, none⟩)) ?_; intro a164 F164
    refine op_q F164 (.pointer (some ⟨ge, 0, none⟩)) ?_; intro a165 F165
    refine op_rq (v := .pointer (some ⟨gme, 0, none⟩)) F165 (r_ld rfl (F165.e (.pointer (some ⟨ge, 0, none⟩))) (v := .pointer (some ⟨gme, 0, none⟩)) ((S150.bk 7 rfl).cell 0) Try.underlying163 rfl) ?_; intro a166 F166
    refine op_q F166 (.pointer (some ⟨gme, 0, none⟩)) ?_; intro a167 F167
    refine op_q F167 (.pointer (some ⟨gme, 3, none⟩)) ?_; intro a168 F168
    refine op_rq (v := .string es[k].fMeta.fVersion) F168 (r_ld rfl (F168.e (.pointer (some ⟨gme, 3, none⟩))) (v := .string es[k].fMeta.fVersion) ((S150.bk 0 rfl).cell 3) Try.underlying9 rfl) ?_; intro a169 F169
    refine op_q F169 (.bool (v.toList == es[k].fMeta.fVersion.toList)) ?_; intro a170 F170
    refine wpList_nil ?_
    refine hK161 _ _ ?_; clear hK161 K161
    rcases btf (v.toList == es[k].fMeta.fVersion.toList) with hc171 | hc171
    ·have F172 := F170.sb 63 (by kernel_rfl) hc171
     refine wp_cond_true (F172.ev (by kernel_rfl)) ?_
     refine wp_seq_k fun K173 hK173 => ?_
     refine wp_region_lit ?_
     refine op_q F172 (.pointer (some ⟨ge, 0, none⟩)) ?_; intro a174 F174
     refine op_q F174 (.pointer (some ⟨ge, 0, none⟩)) ?_; intro a175 F175
     refine op_q F175 (.nilIface) ?_; intro a176 F176
     refine wpList_nil ?_
     refine hK173 _ _ ?_; clear hK173 K173
     refine wp_ret ?_
     refine ret_in ?_
     refine ret_then ?_
     refine ret_then ?_
     refine ret_in ?_
     refine ret_then ?_
     have S177 : Sp R w144 (SA.met gme es[k].fMeta :: SA.blk ge 229 #[.pointer (some ⟨gme, 0, none⟩), .slice Ae es[k].fURLs.length ce, .bool false, .string es[k].fDigest, .string ⟨#[]⟩, .string ⟨#[]⟩, .string ⟨#[]⟩, .string ⟨#[]⟩] :: SA.own0 (.slice Ae es[k].fURLs.length ce) 9 1 es[k].fURLs.length (strs es[k].fURLs) :: SA.zips SA.ent (qs.take k) (es.take k) :: SA.zips SA.ent (qs.drop (k + 1)) (es.drop (k + 1)) :: SA.blk g123 276 #[.pointer (some ⟨gv123, 0, none⟩)] :: SA.ver gv123 v :: SA.blk g1 249 #[.string api, .map (some gm), pk, an] :: SA.mpo Try.prog 9 gm n f :: L) := Sp.met_mk S150.p6.p6.p6.p6.p6.p6.p6
     have S178 : Sp R w144 (SA.ent (some ⟨ge, 0, none⟩) es[k] :: SA.zips SA.ent (qs.take k) (es.take k) :: SA.zips SA.ent (qs.drop (k + 1)) (es.drop (k + 1)) :: SA.blk g123 276 #[.pointer (some ⟨gv123, 0, none⟩)] :: SA.ver gv123 v :: SA.blk g1 249 #[.string api, .map (some gm), pk, an] :: SA.mpo Try.prog 9 gm n f :: L) := Sp.ent_mk hen heb S177.p2.p2
     have S179 : Sp R w144 (SA.zips SA.ent qs es :: SA.blk g123 276 #[.pointer (some ⟨gv123, 0, none⟩)] :: SA.ver gv123 v :: SA.blk g1 249 #[.string api, .map (some gm), pk, an] :: SA.mpo Try.prog 9 gm n f :: L) := Sp.zclose (k := k) hlt_k2 hv_k (by rw [← hqk]; exact S178.p2.p2.p2)
     refine (F176.res2 rfl (v := .pointer (some ⟨ge, 0, none⟩)) (by kernel_rfl) (v2 := .nilIface) (by kernel_rfl) ?_).1
     exact ⟨(some ⟨ge, 0, none⟩), false, 0, Value.nilIface, rfl, S179.p1.drop.p1.drop.p1.drop.p1, (.inl ⟨rfl, k, hlt_k2, hlt_k, gtst_eq hc37 hc171, (fun j hj hjk => gtst_eq hc37 (hno j hj hjk)), hqk⟩)⟩
    ·have F180 := F170.sb 63 (by kernel_rfl) hc171
     refine wp_cond_false (F180.ev (by kernel_rfl)) ?_
     refine wp_skip ?_
     refine hK156 _ _ ?_; clear hK156 K156
     refine wp_region_lit ?_
     refine op_rq (v := .int .i64 (↑(k + 1))) F180 (r_add (z := ↑(k + 1)) rfl (F180.e (.int .i64 (↑k))) (F180.e (.int .i64 1)) (wr64 (by omega) (by omega) (by omega))) ?_; intro a181 F181
     refine op_q F181 (.int .i64 (↑(k + 1))) ?_; intro a182 F182
     refine wpList_nil ?_
     have S183 : Sp R w144 (SA.met gme es[k].fMeta :: SA.blk ge 229 #[.pointer (some ⟨gme, 0, none⟩), .slice Ae es[k].fURLs.length ce, .bool false, .string es[k].fDigest, .string ⟨#[]⟩, .string ⟨#[]⟩, .string ⟨#[]⟩, .string ⟨#[]⟩] :: SA.own0 (.slice Ae es[k].fURLs.length ce) 9 1 es[k].fURLs.length (strs es[k].fURLs) :: SA.zips SA.ent (qs.take k) (es.take k) :: SA.zips SA.ent (qs.drop (k + 1)) (es.drop (k + 1)) :: SA.blk g123 276 #[.pointer (some ⟨gv123, 0, none⟩)] :: SA.ver gv123 v :: SA.blk g1 249 #[.string api, .map (some gm), pk, an] :: SA.mpo Try.prog 9 gm n f :: L) := Sp.met_mk S150.p6.p6.p6.p6.p6.p6.p6
     have S184 : Sp R w144 (SA.ent (some ⟨ge, 0, none⟩) es[k] :: SA.zips SA.ent (qs.take k) (es.take k) :: SA.zips SA.ent (qs.drop (k + 1)) (es.drop (k + 1)) :: SA.blk g123 276 #[.pointer (some ⟨gv123, 0, none⟩)] :: SA.ver gv123 v :: SA.blk g1 249 #[.string api, .map (some gm), pk, an] :: SA.mpo Try.prog 9 gm n f :: L) := Sp.ent_mk hen heb S183.p2.p2
     have S185 : Sp R w144 (SA.zips SA.ent qs es :: SA.blk g123 276 #[.pointer (some ⟨gv123, 0, none⟩)] :: SA.ver gv123 v :: SA.blk g1 249 #[.string api, .map (some gm), pk, an] :: SA.mpo Try.prog 9 gm n f :: L) := Sp.zclose (k := k) hlt_k2 hv_k (by rw [← hqk]; exact S184.p2.p2.p2)
     exact hK144 _ _ _ (by first | omega | (simp; omega)) ⟨k + 1, rfl, (F182.kk 2 (F182.kk 8 (F182.kk 10 (F182.kk 49 (F182.kk 50 (F182.kk 51 F182.nil)))))), S185.p4.p4.p4.p4, (by first | omega | (with_reducible assumption) | (simp; done)), (fun j hj h => (Nat.lt_succ_iff_lt_or_eq.1 h).elim (hno j hj) (fun e => by subst e; exact hc171))⟩
   ·have hc_k : decide ((↑k : Int) < ↑qs.length) = false := by first | (simp; done) | (simp; omega)
    obtain rfl : k = qs.length := by omega
    have hall : ∀ j, ∀ h : j < es.length, (v.toList == es[j].fMeta.fVersion.toList) = false := fun j h => hno j h (by omega)
    refine wp_seq_k fun K186 hK186 => ?_
    refine wp_region_lit ?_
    refine op_q F144 (.bool (decide ((↑qs.length : Int) < ↑qs.length))) ?_; intro a187 F187
    have F188 := F187.sb 52 (by kernel_rfl) hc_k
    refine wpList_nil ?_
    refine hK186 _ _ ?_; clear hK186 K186
    refine wp_seq_k fun K189 hK189 => ?_
    refine wp_cond_false (F188.ev (by kernel_rfl)) ?_
    refine wp_exit ?_
    refine ex_then ?_; clear hK189 K189
    refine ex_then ?_
    refine ex_in ?_
    refine hK133 _ _ ?_; clear hK133 K133
    refine wp_seq_k fun K190 hK190 => ?_
    refine wp_seq_k fun K191 hK191 => ?_
    refine wp_region_lit ?_
    refine op_q F188 (.slice Bp qs.length bp) ?_; intro a192 F192
    refine op_q F192 (.int .i64 (↑qs.length)) ?_; intro a193 F193
    refine op_q F193 (.int .i64 0) ?_; intro a194 F194
    refine wpList_nil ?_
    refine hK191 _ _ ?_; clear hK191 K191
    refine wp_block ?_
    refine fw_loop (fun m' a' w' => ∃ i : Nat, qs.length - i = m' ∧ Fr 91 [] a' [(10, .pointer (some ⟨g123, 0, none⟩)), (66, .slice Bp qs.length bp), (67, .int .i64 (↑qs.length)), (68, .int .i64 (↑i))] ∧ Sp R w' (SA.blk g123 276 #[.pointer (some ⟨gv123, 0, none⟩)] :: SA.ver gv123 v :: SA.blk g1 249 #[.string api, .map (some gm), pk, an] :: SA.mpo Try.prog 9 gm n f :: SA.zips SA.ent qs es :: L) ∧ (i ≤ qs.length) ∧ (∀ j, ∀ h : j < es.length, j < i → gtst v es[j] = false)) _ ⟨0, rfl, (F194.kk 10 (F194.kk 66 (F194.kk 67 (F194.kk 68 F194.nil)))), S144.p4.p4.p4.p4.p4, (by first | omega | (with_reducible assumption) | (simp; done)), (fun j _ h => absurd h (Nat.not_lt_zero _))⟩ ?_
    rintro m195 a195 w195 ⟨i, hm195, F195, S195, hi, hn2⟩ K195 hK195
    by_cases hlt_i : i < qs.length
    ·have hc_i : decide ((↑i : Int) < ↑qs.length) = true := by first | (simp; done) | (simp; omega)
     have hlt_i2 : i < es.length := by omega
     obtain ⟨hen, heb, heu, hef, het⟩ := hnb _ (List.getElem_mem hlt_i2)
     obtain ⟨hvk, hq⟩ := hvo _ (List.getElem_mem hlt_i2)
     obtain ⟨hv_i, Sz196⟩ := Sp.zat (k := i) hlt_i2 S195.p4
     obtain ⟨qi, hqi⟩ : ∃ q, q = qs[i] := ⟨_, rfl⟩
     have S197 : Sp R w195 (SA.ent qi es[i] :: SA.zips SA.ent (qs.take i) (es.take i) :: SA.zips SA.ent (qs.drop (i + 1)) (es.drop (i + 1)) :: SA.blk g123 276 #[.pointer (some ⟨gv123, 0, none⟩)] :: SA.ver gv123 v :: SA.blk g1 249 #[.string api, .map (some gm), pk, an] :: SA.mpo Try.prog 9 gm n f :: L) := by rw [hqi]; exact Sz196
     obtain ⟨ge, gme, Ae, ce, hq2, Se198⟩ := Sp.ent_open hen heb S197
     subst hq2
     have S199 : Sp R w195 (SA.blk ge 229 #[.pointer (some ⟨gme, 0, none⟩), .slice Ae es[i].fURLs.length ce, .bool false, .string es[i].fDigest, .string ⟨#[]⟩, .string ⟨#[]⟩, .string ⟨#[]⟩, .string ⟨#[]⟩] :: SA.own0 (.slice Ae es[i].fURLs.length ce) 9 1 es[i].fURLs.length (strs es[i].fURLs) :: SA.met gme es[i].fMeta :: SA.zips SA.ent (qs.take i) (es.take i) :: SA.zips SA.ent (qs.drop (i + 1)) (es.drop (i + 1)) :: SA.blk g123 276 #[.pointer (some ⟨gv123, 0, none⟩)] :: SA.ver gv123 v :: SA.blk g1 249 #[.string api, .map (some gm), pk, an] :: SA.mpo Try.prog 9 gm n f :: L) := Se198
     obtain ⟨M1, m1, M2, m2, M3, m3, mq, M4, m4, mu, Sm200⟩ := Sp.met_open S199.p2
     have S201 : Sp R w195 (SA.blk gme 237 #[.string es[i].fMeta.fName, .string es[i].fMeta.fHome, .slice M1 (es[i].fMeta.fSources.length) m1, .string es[i].fMeta.fVersion, .string es[i].fMeta.fDescription, .slice M2 (es[i].fMeta.fKeywords.length) m2, .slice M3 mq.length m3, .string es[i].fMeta.fIcon, .string es[i].fMeta.fAPIVersion, .string es[i].fMeta.fCondition, .string es[i].fMeta.fTags, .string es[i].fMeta.fAppVersion, .bool false, .map none, .string es[i].fMeta.fKubeVersion, .slice M4 mu.length m4, .string es[i].fMeta.fType] :: SA.own0 (.slice M1 es[i].fMeta.fSources.length m1) 9 1 es[i].fMeta.fSources.length (strs es[i].fMeta.fSources) :: SA.own0 (.slice M2 es[i].fMeta.fKeywords.length m2) 9 1 es[i].fMeta.fKeywords.length (strs es[i].fMeta.fKeywords) :: SA.own (.slice M3 mq.length m3) 238 1 mq.length (pps mq) :: SA.zips SA.per mq es[i].fMeta.fMaintainers :: SA.own (.slice M4 mu.length m4) 240 1 mu.length (pps mu) :: SA.zips SA.dep mu es[i].fMeta.fDependencies :: SA.blk ge 229 #[.pointer (some ⟨gme, 0, none⟩), .slice Ae es[i].fURLs.length ce, .bool false, .string es[i].fDigest, .string ⟨#[]⟩, .string ⟨#[]⟩, .string ⟨#[]⟩, .string ⟨#[]⟩] :: SA.own0 (.slice Ae es[i].fURLs.length ce) 9 1 es[i].fURLs.length (strs es[i].fURLs) :: SA.zips SA.ent (qs.take i) (es.take i) :: SA.zips SA.ent (qs.drop (i + 1)) (es.drop (i + 1)) :: SA.blk g123 276 #[.pointer (some ⟨gv123, 0, none⟩)] :: SA.ver gv123 v :: SA.blk g1 249 #[.string api, .map (some gm), pk, an] :: SA.mpo Try.prog 9 gm n f :: L) := Sm200
     obtain ⟨ad202, hA202⟩ := (h0 _ S201.drop.drop.drop.drop.drop.drop.drop.drop.drop.drop.drop.drop.drop.drop.drop).addr (by simp [pps]; omega)
     refine wp_seq_k fun K203 hK203 => ?_
     refine wp_region_lit ?_
     refine op_q F195 (.bool (decide ((↑i : Int) < ↑qs.length))) ?_; intro a204 F204
     have F205 := F204.sb 69 (by kernel_rfl) hc_i
     refine wpList_nil ?_
     refine hK203 _ _ ?_; clear hK203 K203
     refine wp_seq_k fun K206 hK206 => ?_
     refine wp_cond_true (F205.ev (by kernel_rfl)) ?_
     refine wp_skip ?_
     refine hK206 _ _ ?_; clear hK206 K206
     refine wp_seq_k fun K207 hK207 => ?_
     refine wp_block ?_
     refine wp_seq_k fun K208 hK208 => ?_
     refine wp_region_lit ?_
     refine op_rq (v := .pointer (some (ad202.add i))) F205 (r_ix rfl Try.underlying151 1 (by kernel_rfl) (F205.e (.slice Bp qs.length bp)) hA202 (F205.e (.int .i64 (↑i))) i (by first | rfl | omega | simp) (by first | omega | (simp; done) | (simp; omega)) (by simp only [Nat.mul_one])) ?_; intro a209 F209
     refine op_rq (v := .pointer (some ⟨ge, 0, none⟩)) F209 (r_ld rfl (F209.e (.pointer (some (ad202.add i)))) (v := .pointer (some ⟨ge, 0, none⟩)) ((h0 _ S201.drop.drop.drop.drop.drop.drop.drop.drop.drop.drop.drop.drop.drop.drop.drop).elA hA202 (j := i) (by simp only [pps, List.getElem?_map, List.getElem?_eq_getElem hlt_i]; rw [← hqi]; rfl)) Try.underlying154 rfl) ?_; intro a210 F210
     refine op_q F210 (.pointer (some ⟨ge, 0, none⟩)) ?_; intro a211 F211
     refine wpList_nil ?_
     refine hK208 _ _ ?_; clear hK208 K208
     refine wp_seq_k fun K212 hK212 => ?_
     refine wp_region_lit ?_
     refine op_q F211 (.pointer (some ⟨ge, 0, none⟩)) ?_; intro a213 F213
     refine op_q F213 (.pointer (some ⟨ge, 0, none⟩)) ?_; intro a214 F214
     refine op_q F214 (.pointer (some ⟨ge, 0, none⟩)) ?_; intro a215 F215
     refine op_rq (v := .pointer (some ⟨gme, 0, none⟩)) F215 (r_ld rfl (F215.e (.pointer (some ⟨ge, 0, none⟩))) (v := .pointer (some ⟨gme, 0, none⟩)) ((S201.bk 7 rfl).cell 0) Try.underlying163 rfl) ?_; intro a216 F216
     refine op_q F216 (.pointer (some ⟨gme, 0, none⟩)) ?_; intro a217 F217
     refine op_q F217 (.pointer (some ⟨gme, 3, none⟩)) ?_; intro a218 F218
     refine op_rq (v := .string es[i].fMeta.fVersion) F218 (r_ld rfl (F218.e (.pointer (some ⟨gme, 3, none⟩))) (v := .string es[i].fMeta.fVersion) ((S201.bk 0 rfl).cell 3) Try.underlying9 rfl) ?_; intro a219 F219
     refine op_cq F219 (f := 171) (args := #[.string es[i].fMeta.fVersion]) (newVer_b es[i].fMeta.fVersion _ _ _ S201 (by first | omega | (simp; done) | (simp; omega)) hq) ?_
     rintro _ w220 ⟨g220, rfl, S220⟩
     refine ⟨_, rfl, ?_⟩
     intro a221 F221
     refine op_q F221 (.tuple #[.pointer (some ⟨g220, 0, none⟩), .nilIface]) ?_; intro a222 F222
     refine op_q F222 (.pointer (some ⟨g220, 0, none⟩)) ?_; intro a223 F223
     refine op_q F223 (.nilIface) ?_; intro a224 F224
     refine op_q F224 (.pointer (some ⟨g220, 0, none⟩)) ?_; intro a225 F225
     refine op_q F225 (.nilIface) ?_; intro a226 F226
     refine wpList_nil ?_
     refine hK212 _ _ ?_; clear hK212 K212
     refine wp_seq_k fun K227 hK227 => ?_
     refine wp_seq_k fun K228 hK228 => ?_
     refine wp_region_lit ?_
     refine op_q F226 (.nilIface) ?_; intro a229 F229
     refine op_q F229 (.bool false) ?_; intro a230 F230
     refine wpList_nil ?_
     refine hK228 _ _ ?_; clear hK228 K228
     refine wp_cond_false (F230.ev (by kernel_rfl)) ?_
     refine wp_skip ?_
     refine hK227 _ _ ?_; clear hK227 K227
     refine wp_seq_k fun K231 hK231 => ?_
     refine wp_region_lit ?_
     refine op_q F230 (.pointer (some ⟨g123, 0, none⟩)) ?_; intro a232 F232
     refine op_q F232 (.pointer (some ⟨g220, 0, none⟩)) ?_; intro a233 F233
     refine op_cq F233 (f := 172) (args := #[.pointer (some ⟨g123, 0, none⟩), .pointer (some ⟨g220, 0, none⟩)]) (check_plain g123 gv123 g220 v es[i].fMeta.fVersion _ _ _ S220 (fun w S => S.bk 12 rfl) (fun w S => S.bk 13 rfl) (fun w S => S.bk 0 rfl) hp hq) ?_
     rintro _ w234 ⟨rfl, S234⟩
     refine ⟨_, rfl, ?_⟩
     intro a235 F235
     refine wpList_nil ?_
     refine hK231 _ _ ?_; clear hK231 K231
     have hc236 : (decide (v = es[i].fMeta.fVersion)) = false := (decide_eq_false (fun e => by have := hall i hlt_i2; rw [← e, beq_self_eq_true] at this; cases this))
     have F237 := F235.sb 87 (by kernel_rfl) hc236
     refine wp_cond_false (F237.ev (by kernel_rfl)) ?_
     refine wp_skip ?_
     refine hK207 _ _ ?_; clear hK207 K207
     refine wp_region_lit ?_
     refine op_rq (v := .int .i64 (↑(i + 1))) F237 (r_add (z := ↑(i + 1)) rfl (F237.e (.int .i64 (↑i))) (F237.e (.int .i64 1)) (wr64 (by omega) (by omega) (by omega))) ?_; intro a238 F238
     refine op_q F238 (.int .i64 (↑(i + 1))) ?_; intro a239 F239
     refine wpList_nil ?_
     have S240 : Sp R w234 (SA.met gme es[i].fMeta :: SA.ver g220 es[i].fMeta.fVersion :: SA.blk ge 229 #[.pointer (some ⟨gme, 0, none⟩), .slice Ae es[i].fURLs.length ce, .bool false, .string es[i].fDigest, .string ⟨#[]⟩, .string ⟨#[]⟩, .string ⟨#[]⟩, .string ⟨#[]⟩] :: SA.own0 (.slice Ae es[i].fURLs.length ce) 9 1 es[i].fURLs.length (strs es[i].fURLs) :: SA.zips SA.ent (qs.take i) (es.take i) :: SA.zips SA.ent (qs.drop (i + 1)) (es.drop (i + 1)) :: SA.blk g123 276 #[.pointer (some ⟨gv123, 0, none⟩)] :: SA.ver gv123 v :: SA.blk g1 249 #[.string api, .map (some gm), pk, an] :: SA.mpo Try.prog 9 gm n f :: L) := Sp.met_mk S234.p7.p7.p7.p7.p7.p7.p7
     have S241 : Sp R w234 (SA.ent (some ⟨ge, 0, none⟩) es[i] :: SA.ver g220 es[i].fMeta.fVersion :: SA.zips SA.ent (qs.take i) (es.take i) :: SA.zips SA.ent (qs.drop (i + 1)) (es.drop (i + 1)) :: SA.blk g123 276 #[.pointer (some ⟨gv123, 0, none⟩)] :: SA.ver gv123 v :: SA.blk g1 249 #[.string api, .map (some gm), pk, an] :: SA.mpo Try.prog 9 gm n f :: L) := Sp.ent_mk hen heb S240.p3.p3
     have S242 : Sp R w234 (SA.zips SA.ent qs es :: SA.ver g220 es[i].fMeta.fVersion :: SA.blk g123 276 #[.pointer (some ⟨gv123, 0, none⟩)] :: SA.ver gv123 v :: SA.blk g1 249 #[.string api, .map (some gm), pk, an] :: SA.mpo Try.prog 9 gm n f :: L) := Sp.zclose (k := i) hlt_i2 hv_i (by rw [← hqi]; exact S241.p3.p3.p2)
     exact hK195 _ _ _ (by first | omega | (simp; omega)) ⟨i + 1, rfl, (F239.kk 10 (F239.kk 66 (F239.kk 67 (F239.kk 68 F239.nil)))), S242.p1.drop.p4.p4.p4.p4, (by first | omega | (with_reducible assumption) | (simp; done)), (fun j hj h => (Nat.lt_succ_iff_lt_or_eq.1 h).elim (hn2 j hj) (fun e => by subst e; exact gtst_eq hc37 (hall _ _)))⟩
    ·have hc_i : decide ((↑i : Int) < ↑qs.length) = false := by first | (simp; done) | (simp; omega)
     obtain rfl : i = qs.length := by omega
     refine wp_seq_k fun K243 hK243 => ?_
     refine wp_region_lit ?_
     refine op_q F195 (.bool (decide ((↑qs.length : Int) < ↑qs.length))) ?_; intro a244 F244
     have F245 := F244.sb 69 (by kernel_rfl) hc_i
     refine wpList_nil ?_
     refine hK243 _ _ ?_; clear hK243 K243
     refine wp_seq_k fun K246 hK246 => ?_
     refine wp_cond_false (F245.ev (by kernel_rfl)) ?_
     refine wp_exit ?_
     refine ex_then ?_; clear hK246 K246
     refine ex_then ?_
     refine ex_in ?_
     refine hK190 _ _ ?_; clear hK190 K190
     refine wp_seq_k fun K247 hK247 => ?_
     refine wp_region_lit ?_
     refine op_cq F245 (f := 173) (args := #[.string ⟨zq21⟩]) (errNew_sp3 ⟨zq21⟩ _ _ _ S195 ) ?_
     rintro _ w248 ⟨ge248, rfl, S248⟩
     refine ⟨_, rfl, ?_⟩
     intro a249 F249
     refine op_q F249 (.pointer none) ?_; intro a250 F250
     refine op_q F250 (.iface 279 (.pointer (some ⟨ge248, 0, none⟩))) ?_; intro a251 F251
     refine wpList_nil ?_
     refine hK247 _ _ ?_; clear hK247 K247
     refine wp_ret ?_
     refine (F251.res2 rfl (v := .pointer none) (by kernel_rfl) (v2 := .iface 279 (.pointer (some ⟨ge248, 0, none⟩))) (by kernel_rfl) ?_).1
     exact ⟨none, true, 279, (Value.pointer (some ⟨ge248, 0, none⟩)), rfl, S248.drop.drop.drop.drop.p1.p1, (.inr ⟨rfl, rfl, fun x hx => by obtain ⟨j, hj, rfl⟩ := List.mem_iff_getElem.1 hx; exact hn2 j hj (by omega)⟩)⟩
end Go.Proofs.Ytkjcedlgljeoiaa

/- repo.NewIndexFile, impl.indexOf, IndexFile.Has. -/
namespace Go.Proofs.Ytkjcedlgljeoiaa
open Go.RowKit Go.Lib
set_option linter.unusedVariables false
set_option linter.unusedSimpArgs false
/-- The versions of a name: a row of pointers. -/
def SA.vr (v : Option Addr × Nat) (x : Ty103) : SA := SA.ex fun qs : List (Option Addr) => SA.star (SA.pure (qs.length = x.fVersions.length)) (SA.star (SA.own (.slice v.1 qs.length v.2) 154 1 qs.length (pps qs)) (SA.zips SA.ent qs x.fVersions))
theorem Sp.vr_mk {R : Ctx} {w : World} {L : List SA} {B : Option Addr} {b : Nat} {qs : List (Option Addr)} {x : Ty103} (hl : qs.length = x.fVersions.length) (S : Sp R w (SA.own (.slice B qs.length b) 154 1 qs.length (pps qs) :: SA.zips SA.ent qs x.fVersions :: L)) : Sp R w (SA.vr (B, b) x :: L) := Sp.ex.2 ⟨qs, Sp.star.2 (Sp.pure.2 ⟨hl, Sp.star.2 S⟩)⟩
theorem Sp.vr_open {R : Ctx} {w : World} {L : List SA} {v : Option Addr × Nat} {x : Ty103} (S : Sp R w (SA.vr v x :: L)) : ∃ qs : List (Option Addr), qs.length = x.fVersions.length ∧ Sp R w (SA.own (.slice v.1 qs.length v.2) 154 1 qs.length (pps qs) :: SA.zips SA.ent qs x.fVersions :: L) := by
  obtain ⟨qs, S⟩ := Sp.ex.1 S
  obtain ⟨hl, S⟩ := Sp.pure.1 (Sp.star.1 S)
  exact ⟨qs, hl, Sp.star.1 S⟩
def NamAt (w : World) (x : Ty103) : Prop := Rows w x.fVersions_a 19 (x.fVersions.map Ty69.cells) ∧ ∀ e ∈ x.fVersions, Sl w e.fURLs_a (strs e.fURLs) ∧ MetaAt w e.fMeta
/-- An index of names that rise. -/
def IdxOk (xs : List Ty103) : Prop := xs.length ≤ 200 ∧ (∀ x ∈ xs, x.fName.size ≤ 1000000 ∧ x.fVersions.length ≤ 200 ∧ ∀ e ∈ x.fVersions, EntOk e) ∧ ∀ i j, ∀ hi : i < xs.length, ∀ hj : j < xs.length, i < j → Op.bytesLess xs[i].fName.toList xs[j].fName.toList = true
theorem less_irr : ∀ l : List UInt8, Op.bytesLess l l = false
  | [] => rfl
  | a :: l => by unfold Op.bytesLess; rw [less_irr l]; simp
theorem idx_ne {xs : List Ty103} (h : IdxOk xs) {i j : Nat} (hi : i < xs.length) (hj : j < xs.length) (hij : i < j) : xs[i].fName ≠ xs[j].fName := fun e => by
  have := h.2.2 i j hi hj hij
  rw [e, less_irr] at this; cases this
def MapI (f : ByteArray → Option Value) (vs : List (Option Addr × Nat)) (xs : List Ty103) : Prop := vs.length = xs.length ∧ (∀ k, ∀ h : k < xs.length, ∀ h2 : k < vs.length, f xs[k].fName = some (.slice vs[k].1 xs[k].fVersions.length vs[k].2)) ∧ ∀ s, (∀ x ∈ xs, x.fName ≠ s) → f s = none
theorem mapI_0 {xs : List Ty103} : MapI (fun _ => none) [] (xs.take 0) := ⟨rfl, fun k h => absurd h (Nat.not_lt_zero _), fun _ _ => rfl⟩
theorem mapI_put {f : ByteArray → Option Value} {vs : List (Option Addr × Nat)} {xs : List Ty103} {i b n : Nat} {B : Option Addr} (hx : IdxOk xs) (hi : i < xs.length) (h : MapI f vs (xs.take i)) (hn : n = xs[i].fVersions.length) : MapI (fput f xs[i].fName (.slice B n b)) (vs ++ [(B, b)]) (xs.take (i + 1)) := by
  obtain ⟨h1, h2, h3⟩ := h
  have hv : vs.length = i := by rw [h1]; simp; omega
  refine ⟨by simp [hv]; omega, fun k hk hk2 => ?_, fun s hs => ?_⟩
  · have hk' : k < i + 1 := by simp at hk; omega
    have e1 : (xs.take (i + 1))[k] = xs[k]'(by simp at hk; omega) := by simp
    rw [e1]
    by_cases hki : k = i
    · subst hki
      have e2 : (vs ++ [(B, b)])[k] = (B, b) := by rw [List.getElem_append_right (by omega)]; simp [hv]
      rw [e2]; unfold fput; rw [if_pos rfl, hn]
    · have hlt : k < i := by omega
      have hkv : k < vs.length := by omega
      have e2 : (vs ++ [(B, b)])[k] = vs[k] := List.getElem_append_left hkv
      rw [e2]
      unfold fput
      rw [if_neg (idx_ne hx (by omega) hi hlt)]
      have := h2 k (by simp; omega) hkv
      simpa using this
  · have hne : s ≠ xs[i].fName := fun e => hs xs[i] (by rw [List.take_succ_eq_append_getElem hi]; exact List.mem_append_right _ (List.mem_singleton.2 rfl)) e.symm
    unfold fput
    rw [if_neg hne]
    exact h3 s fun x hx => hs x (by rw [List.take_succ_eq_append_getElem hi]; exact List.mem_append_left _ hx)
set_option maxRecDepth 100000 in
set_option maxHeartbeats 20000000 in
theorem newIdx_sp  (R : Ctx) (L : List SA) (w : World) (S : Sp R w (L))   :
    Calls Try.prog 167 #[] w fun e w' => ∃ g : Nat, ∃ gm : Nat, ∃ gk : Nat, e = .returned (.pointer (some ⟨g, 0, none⟩)) ∧ Sp R w' (SA.blk g 249 #[.string ⟨#[118, 49]⟩, .map (some gm), .slice (some ⟨gk, 0, none⟩) 0 0, .map none] :: SA.mpo Try.prog 9 gm 0 (fun _ => none) :: L) := by
  refine fw_enter (fn := Try.f167) rfl rfl 5 rfl (Nat.le_of_ble_eq_true rfl) ?_
  intro a0 F0
  refine wp_seq_k fun K1 hK1 => ?_
  refine wp_region_lit ?_
  refine op_q F0 (.pointer none) ?_; intro a2 F2
  refine wpList_nil ?_
  refine hK1 _ _ ?_; clear hK1 K1
  refine wp_seq_k fun K3 hK3 => ?_
  refine wp_region_lit ?_
  refine op_sq F2 (s_mkmap rfl 9 S) ?_
  rintro _ _ w5 ⟨g3, rfl, rfl⟩ S5 a5 F5
  refine op_sq F5 (s_news F5 9 #[] 0 (by kernel_rfl) (by kernel_rfl) (by kernel_rfl) S5) ?_
  rintro _ _ w7 ⟨g5, rfl, rfl⟩ S7 a7 F7
  refine op_q F7 (.agg #[.string ⟨#[118, 49]⟩, .map (some g3), .slice (some ⟨g5, 0, none⟩) 0 0, .map none]) ?_; intro a8 F8
  refine op_sq F8 (s_newp F8 249 #[.string ⟨#[118, 49]⟩, .map (some g3), .slice (some ⟨g5, 0, none⟩) 0 0, .map none] (by kernel_rfl) (by kernel_rfl) (by kernel_rfl) S7) ?_
  rintro _ _ w10 ⟨g8, rfl, rfl⟩ S10 a10 F10
  refine op_q F10 (.pointer (some ⟨g8, 0, none⟩)) ?_; intro a11 F11
  refine wpList_nil ?_
  refine hK3 _ _ ?_; clear hK3 K3
  refine wp_ret ?_
  refine (F11.res1 rfl (v := .pointer (some ⟨g8, 0, none⟩)) (by kernel_rfl) ?_).1
  exact ⟨g8, g3, g5, rfl, S10.p1.drop.p1.p1⟩
set_option maxRecDepth 100000 in
set_option maxHeartbeats 20000000 in
theorem indexOf_sp (A : Option Addr) (c : Nat) (xs : List Ty103) (R : Ctx) (L : List SA) (w : World) (S : Sp R w (L)) (h0 : Rf R L fun w => Rows w (A) 2 (xs.map Ty103.cells)) (h1 : Rf R L fun w => ∀ x ∈ xs, NamAt w x) (hx : IdxOk xs) :
  Calls Try.prog 104 #[.slice (A) (xs.length) (c)] w fun e w' => ∃ g : Nat, ∃ gm : Nat, ∃ gk : Nat, ∃ n : Nat, ∃ f : ByteArray → Option Value, ∃ vs : List (Option Addr × Nat), e = .returned (.tuple #[.pointer (some ⟨g, 0, none⟩), .bool true]) ∧ Sp R w' (SA.blk g 249 #[.string ⟨#[118, 49]⟩, .map (some gm), .slice (some ⟨gk, 0, none⟩) 0 0, .map none] :: SA.mpo Try.prog 9 gm n f :: SA.zips SA.vr vs xs :: L) ∧ (MapI f vs xs) := by
 have hl_xs : xs.length ≤ 9223372036854775807 := by have := (h0 _ S).1; simpa [strs, ptrs, pps] using this
 have hx200 := hx.1
 refine fw_enter (fn := Try.f104) rfl rfl 52 rfl (Nat.le_of_ble_eq_true rfl) ?_
 intro a0 F0
 refine wp_seq_k fun K1 hK1 => ?_
 refine wp_region_lit ?_
 refine op_q F0 (.pointer none) ?_; intro a2 F2
 refine op_q F2 (.bool false) ?_; intro a3 F3
 refine wpList_nil ?_
 refine hK1 _ _ ?_; clear hK1 K1
 refine wp_seq_k fun K4 hK4 => ?_
 refine wp_region_lit ?_
 refine op_cq F3 (f := 167) (args := #[]) (newIdx_sp  _ _ _ S ) ?_
 rintro _ w5 ⟨g5, gm5, gk5, rfl, S5⟩
 refine ⟨_, rfl, ?_⟩
 intro a6 F6
 refine op_q F6 (.pointer (some ⟨g5, 0, none⟩)) ?_; intro a7 F7
 refine wpList_nil ?_
 refine hK4 _ _ ?_; clear hK4 K4
 refine wp_seq_k fun K8 hK8 => ?_
 refine wp_seq_k fun K9 hK9 => ?_
 refine wp_region_lit ?_
 refine op_q F7 (.slice (A) (xs.length) (c)) ?_; intro a10 F10
 refine op_q F10 (.int .i64 (↑xs.length)) ?_; intro a11 F11
 refine op_q F11 (.int .i64 0) ?_; intro a12 F12
 refine wpList_nil ?_
 refine hK9 _ _ ?_; clear hK9 K9
 refine wp_block ?_
 have S13 : Sp R w5 (SA.zips SA.vr [] (xs.take 0) :: SA.blk g5 249 #[.string ⟨#[118, 49]⟩, .map (some gm5), .slice (some ⟨gk5, 0, none⟩) 0 0, .map none] :: SA.mpo Try.prog 9 gm5 0 (fun _ => none) :: L) := Sp.znil S5
 refine fw_loop (fun m' a' w' => ∃ f : ByteArray → Option Value, ∃ nn : Nat, ∃ vs : List (Option Addr × Nat), ∃ i : Nat, xs.length - i = m' ∧ Fr 52 [] a' [(0, .slice (A) (xs.length) (c)), (4, .pointer (some ⟨g5, 0, none⟩)), (10, .slice (A) (xs.length) (c)), (11, .int .i64 (↑xs.length)), (12, .int .i64 (↑i))] ∧ Sp R w' (SA.blk g5 249 #[.string ⟨#[118, 49]⟩, .map (some gm5), .slice (some ⟨gk5, 0, none⟩) 0 0, .map none] :: SA.mpo Try.prog 9 gm5 nn f :: SA.zips SA.vr vs (xs.take i) :: L) ∧ (i ≤ xs.length) ∧ (nn ≤ i) ∧ (MapI f vs (xs.take i))) _ ⟨(fun _ => none), 0, [], 0, rfl, (F12.kk 0 (F12.kk 4 (F12.kk 10 (F12.kk 11 (F12.kk 12 F12.nil))))), S13.p2.p2, (by first | omega | (with_reducible assumption) | (simp; done)), (by first | omega | (with_reducible assumption) | (simp; done)), mapI_0⟩ ?_
 rintro m14 a14 w14 ⟨f, nn, vs, i, hm14, F14, S14, hi, hnn, hf⟩ K14 hK14
 by_cases hlt_i : i < xs.length
 ·have hc_i : decide ((↑i : Int) < ↑xs.length) = true := by first | (simp; done) | (simp; omega)
  obtain ⟨ad15, hA15⟩ := (h0 _ S14.drop.drop.drop).addr (by simp; omega)
  have hxm := List.getElem_mem hlt_i
  obtain ⟨hxs, hxl, hnb⟩ := hx.2.1 _ hxm
  have hl := hxl
  have hkr : Rf R L fun w => Rows w xs[i].fVersions_a 19 (xs[i].fVersions.map Ty69.cells) := fun w S => (h1 w S _ hxm).1
  have hka : Rf R L fun w => ∀ e ∈ xs[i].fVersions, Sl w e.fURLs_a (strs e.fURLs) ∧ MetaAt w e.fMeta := fun w S => (h1 w S _ hxm).2
  refine wp_seq_k fun K16 hK16 => ?_
  refine wp_region_lit ?_
  refine op_q F14 (.bool (decide ((↑i : Int) < ↑xs.length))) ?_; intro a17 F17
  have F18 := F17.sb 13 (by kernel_rfl) hc_i
  refine wpList_nil ?_
  refine hK16 _ _ ?_; clear hK16 K16
  refine wp_seq_k fun K19 hK19 => ?_
  refine wp_cond_true (F18.ev (by kernel_rfl)) ?_
  refine wp_skip ?_
  refine hK19 _ _ ?_; clear hK19 K19
  refine wp_seq_k fun K20 hK20 => ?_
  refine wp_block ?_
  refine wp_seq_k fun K21 hK21 => ?_
  refine wp_region_lit ?_
  refine op_q F18 (.int .i64 (↑i)) ?_; intro a22 F22
  refine op_rq (v := .pointer (some (ad15.add (i * 2)))) F22 (r_ix rfl Try.underlying95 2 (by kernel_rfl) (F22.e (.slice (A) (xs.length) (c))) hA15 (F22.e (.int .i64 (↑i))) i (by first | rfl | omega | simp) (by first | omega | (simp; done) | (simp; omega)) (rfl)) ?_; intro a23 F23
  refine op_rq (v := .agg #[.string xs[i].fName, .slice xs[i].fVersions_a xs[i].fVersions.length xs[i].fVersions_c]) F23 (r_ldR rfl (F23.e (.pointer (some (ad15.add (i * 2))))) (cs := [.string xs[i].fName, .slice xs[i].fVersions_a xs[i].fVersions.length xs[i].fVersions_c]) ((h0 _ S14.drop.drop.drop).elA hA15 (j := i) (row := xs[i].cells) (by rw [List.getElem?_map, List.getElem?_eq_getElem hlt_i]; rfl)) Try.underlying103 rfl (by kernel_rfl) (v := #[.string xs[i].fName, .slice xs[i].fVersions_a xs[i].fVersions.length xs[i].fVersions_c]) (by kernel_rfl)) ?_; intro a24 F24
  refine op_sq F24 (s_newp F24 103 #[.string ⟨#[]⟩, .slice none 0 0] (by kernel_rfl) (by kernel_rfl) (by kernel_rfl) S14) ?_
  rintro _ _ w26 ⟨g24, rfl, rfl⟩ S26 a26 F26
  refine op_q F26 (.int .i64 (↑i)) ?_; intro a27 F27
  refine op_sq0 F27 (s_stb rfl (F27.e (.pointer (some ⟨g24, 0, none⟩))) (F27.e (.agg #[.string xs[i].fName, .slice xs[i].fVersions_a xs[i].fVersions.length xs[i].fVersions_c])) S26 (by kernel_rfl) rfl (by kernel_rfl)) ?_
  rintro _ _ w28 rfl S28 F28
  refine wpList_nil ?_
  refine hK21 _ _ ?_; clear hK21 K21
  refine wp_seq_k fun K29 hK29 => ?_
  refine wp_region_lit ?_
  refine op_q F28 (.pointer (some ⟨g24, 1, none⟩)) ?_; intro a30 F30
  refine op_rq (v := .slice xs[i].fVersions_a xs[i].fVersions.length xs[i].fVersions_c) F30 (r_ld rfl (F30.e (.pointer (some ⟨g24, 1, none⟩))) (v := .slice xs[i].fVersions_a xs[i].fVersions.length xs[i].fVersions_c) ((S28.bk 0 rfl).cell 1) Try.underlying65 rfl) ?_; intro a31 F31
  refine op_cq F31 (f := 85) (args := #[.slice xs[i].fVersions_a xs[i].fVersions.length xs[i].fVersions_c]) (entriesOf_sp xs[i].fVersions_a xs[i].fVersions_c xs[i].fVersions _ _ _ S28 (fun w S => hkr w S.drop.drop.drop.drop) (fun w S => hka w S.drop.drop.drop.drop) hnb hl) ?_
  rintro _ w32 ⟨B32, b32, qs32, rfl, S32⟩
  refine ⟨_, rfl, ?_⟩
  intro a33 F33
  refine op_q F33 (.tuple #[.slice B32 qs32.length b32, .bool true]) ?_; intro a34 F34
  refine op_q F34 (.slice B32 qs32.length b32) ?_; intro a35 F35
  refine op_q F35 (.bool true) ?_; intro a36 F36
  refine op_q F36 (.slice B32 qs32.length b32) ?_; intro a37 F37
  refine op_q F37 (.bool true) ?_; intro a38 F38
  refine wpList_nil ?_
  refine hK29 _ _ ?_; clear hK29 K29
  refine wp_seq_k fun K39 hK39 => ?_
  refine wp_seq_k fun K40 hK40 => ?_
  rcases btf (decide ((0 : Int) < ↑i)) with hc41 | hc41
  ·skip
   have hc41p := of_decide_eq_true hc41
   have hi0 : 0 < i := by have := of_decide_eq_true hc41; omega
   have hlt_p : i - 1 < xs.length := by omega
   have hbl := hx.2.2 (i - 1) i hlt_p hlt_i (by omega)
   refine wp_region_sepF (L0 := SA.own (.slice B32 qs32.length b32) 154 1 qs32.length (pps qs32) :: SA.zips SA.ent qs32 xs[i].fVersions :: SA.blk g24 103 #[.string xs[i].fName, .slice xs[i].fVersions_a xs[i].fVersions.length xs[i].fVersions_c] :: SA.blk g5 249 #[.string ⟨#[118, 49]⟩, .map (some gm5), .slice (some ⟨gk5, 0, none⟩) 0 0, .map none] :: SA.mpo Try.prog 9 gm5 nn f :: SA.zips SA.vr vs (xs.take i) :: L) [some [], some [(0, 23)], some [(1, 24)], some [(2, 25)], some [(2, 25), (3, 26)], some [(2, 25), (4, 27)], some [(5, 28)], some [(5, 28)], some [(5, 28), (7, 30)], some [(5, 28), (6, 29), (8, 31)], some [(5, 28), (9, 32)], some [(5, 28), (10, 33)], some [(5, 28)], some [(5, 28), (12, 35)], some [(5, 28), (11, 34), (13, 36)], some [(2, 25), (5, 28), (14, 37)], some [(2, 25), (15, 38)]] [.v 23 (.bool true), .v 24 (.bool false), .v 25 (.bool false), .v 26 (.int .i64 (↑i)), .v 27 (.bool true), .v 28 (.bool true), .v 29 (.slice (A) (xs.length) (c)), .v 30 (.int .i64 (↑i)), .v 31 (.int .i64 (↑i - 1)), .v 32 (.pointer (some (ad15.add ((i - 1) * 2)))), .v 33 (.pointer (some (ad15.add ((i - 1) * 2)))), .v 34 (.string (xs[i - 1].fName)), .v 35 (.pointer (some ⟨g24, 0, none⟩)), .v 36 (.string xs[i].fName), .v 37 (.bool (!(Op.bytesLess (xs[i - 1].fName).toList xs[i].fName.toList))), .v 38 (.bool (!(Op.bytesLess (xs[i - 1].fName).toList xs[i].fName.toList))), .v 39 (.bool (!(Op.bytesLess (xs[i - 1].fName).toList xs[i].fName.toList)))] [] F38 rfl (by kernel_rfl) S32 ?_ ?_
   ·refine ⟨?_, ?_, ?_, ?_, ?_, ?_, ?_, ?_, ?_, ?_, ?_, ?_, ?_, ?_, ?_, ?_, ?_, trivial⟩
    ·intro w88 M88
     intro a88 F88 S88
     refine obl_of (by rfl) ?_
     exact s_p F88 (v := .bool true) (by kernel_rfl) (by kernel_rfl) (by kernel_rfl) S88
    ·intro w89 M89
     intro a89 F89 S89
     refine obl_of (by rfl) ?_
     exact s_p F89 (v := .bool false) (by kernel_rfl) (by kernel_rfl) (by kernel_rfl) S89
    ·intro w91 M91
     intro a91 F91 S91
     refine obl_of (by rfl) ?_
     exact s_p F91 (v := .bool false) (by kernel_rfl) (by kernel_rfl) (by kernel_rfl) S91
    ·intro w93 M93
     intro a93 F93 S93
     refine obl_yes (F93.wanted (q := true) (by kernel_rfl) (by intro t ht; injection ht with ht; subst ht; exact nble rfl)) ?_
     exact s_p F93 (v := .int .i64 (↑i)) (by kernel_rfl) (by kernel_rfl) (by kernel_rfl) S93
    ·intro w95 M95
     intro a95 F95 S95
     refine obl_yes (F95.wanted (q := true) (by kernel_rfl) (by intro t ht; injection ht with ht; subst ht; exact nble rfl)) ?_
     exact s_pb F95 (b := decide ((0 : Int) < ↑i)) hc41 (by kernel_rfl) (by kernel_rfl) (by kernel_rfl) S95
    ·intro w98 M98
     intro a98 F98 S98
     refine obl_yes (F98.wanted (q := true) (by kernel_rfl) (by intro t ht; injection ht with ht; subst ht; exact nble rfl)) ?_
     exact s_p F98 (v := .bool true) (by kernel_rfl) (by kernel_rfl) (by kernel_rfl) S98
    ·intro w101 M101
     intro a101 F101 S101
     refine obl_yes (F101.wanted (q := true) (by kernel_rfl) (by intro t ht; injection ht with ht; subst ht; exact nble rfl)) ?_
     exact s_p F101 (v := .slice (A) (xs.length) (c)) (by kernel_rfl) (by kernel_rfl) (by kernel_rfl) S101
    ·intro w103 M103
     intro a103 F103 S103
     refine obl_yes (F103.wanted (q := true) (by kernel_rfl) (by intro t ht; injection ht with ht; subst ht; exact nble rfl)) ?_
     exact s_p F103 (v := .int .i64 (↑i)) (by kernel_rfl) (by kernel_rfl) (by kernel_rfl) S103
    ·intro w105 M105
     intro a105 F105 S105
     refine obl_yes (F105.wanted (q := true) (by kernel_rfl) (by intro t ht; injection ht with ht; subst ht; exact nble rfl)) ?_
     exact s_r (v := .int .i64 (↑i - 1)) (r_sub (z := (↑i - 1)) rfl (F105.e (.int .i64 (↑i))) (F105.e (.int .i64 1)) (wr64 (by omega) (by omega) (by omega))) S105
    ·intro w108 M108
     intro a108 F108 S108
     refine obl_yes (F108.wanted (q := true) (by kernel_rfl) (by intro t ht; injection ht with ht; subst ht; exact nble rfl)) ?_
     exact s_r (v := .pointer (some (ad15.add ((i - 1) * 2)))) (r_ix rfl Try.underlying95 2 (by kernel_rfl) (F108.e (.slice (A) (xs.length) (c))) hA15 (F108.e (.int .i64 (↑i - 1))) (i - 1) (by first | rfl | omega | simp) (by first | omega | (simp; done) | (simp; omega)) (rfl)) S108
    ·intro w112 M112
     intro a112 F112 S112
     refine obl_yes (F112.wanted (q := true) (by kernel_rfl) (by intro t ht; injection ht with ht; subst ht; exact nble rfl)) ?_
     exact s_p F112 (v := .pointer (some (ad15.add ((i - 1) * 2)))) (by kernel_rfl) (by kernel_rfl) (by kernel_rfl) S112
    ·intro w115 M115
     intro a115 F115 S115
     refine obl_yes (F115.wanted (q := true) (by kernel_rfl) (by intro t ht; injection ht with ht; subst ht; exact nble rfl)) ?_
     exact s_r (v := .string (xs[i - 1].fName)) (r_ld rfl (F115.e (.pointer (some (ad15.add ((i - 1) * 2))))) (v := .string (xs[i - 1].fName)) (cell0 ((h0 _ (Sp.dropM S115.drop).drop.drop.drop.drop.drop.drop).elA hA15 (j := i - 1) (row := xs[i - 1].cells) (by rw [List.getElem?_map, List.getElem?_eq_getElem hlt_p]; rfl)) rfl) Try.underlying9 rfl) S115
    ·intro w118 M118
     intro a118 F118 S118
     refine obl_yes (F118.wanted (q := true) (by kernel_rfl) (by intro t ht; injection ht with ht; subst ht; exact nble rfl)) ?_
     exact s_p F118 (v := .pointer (some ⟨g24, 0, none⟩)) (by kernel_rfl) (by kernel_rfl) (by kernel_rfl) S118
    ·intro w120 M120
     intro a120 F120 S120
     refine obl_yes (F120.wanted (q := true) (by kernel_rfl) (by intro t ht; injection ht with ht; subst ht; exact nble rfl)) ?_
     exact s_r (v := .string xs[i].fName) (r_ld rfl (F120.e (.pointer (some ⟨g24, 0, none⟩))) (v := .string xs[i].fName) (((Sp.dropM S120.drop).bk 2 rfl).cell 0) Try.underlying9 rfl) S120
    ·intro w123 M123
     intro a123 F123 S123
     refine obl_yes (F123.wanted (q := true) (by kernel_rfl) (by intro t ht; injection ht with ht; subst ht; exact nble rfl)) ?_
     exact s_p F123 (v := .bool (!(Op.bytesLess (xs[i - 1].fName).toList xs[i].fName.toList))) (by kernel_rfl) (by kernel_rfl) (by kernel_rfl) S123
    ·intro w127 M127
     intro a127 F127 S127
     refine obl_yes (F127.wanted (q := true) (by kernel_rfl) (by intro t ht; injection ht with ht; subst ht; exact nble rfl)) ?_
     exact s_p F127 (v := .bool (!(Op.bytesLess (xs[i - 1].fName).toList xs[i].fName.toList))) (by kernel_rfl) (by kernel_rfl) (by kernel_rfl) S127
    ·intro w131 M131
     intro a131 F131 S131
     refine obl_of (by rfl) ?_
     exact s_p F131 (v := .bool (!(Op.bytesLess (xs[i - 1].fName).toList xs[i].fName.toList))) (by kernel_rfl) (by kernel_rfl) (by kernel_rfl) S131
   ·intro a135 w134 F135 S134
    have S136 : Sp R w134 (SA.own (.slice B32 qs32.length b32) 154 1 qs32.length (pps qs32) :: SA.zips SA.ent qs32 xs[i].fVersions :: SA.blk g24 103 #[.string xs[i].fName, .slice xs[i].fVersions_a xs[i].fVersions.length xs[i].fVersions_c] :: SA.blk g5 249 #[.string ⟨#[118, 49]⟩, .map (some gm5), .slice (some ⟨gk5, 0, none⟩) 0 0, .map none] :: SA.mpo Try.prog 9 gm5 nn f :: SA.zips SA.vr vs (xs.take i) :: L) := S134
    refine wpList_nil ?_
    refine hK40 _ _ ?_; clear hK40 K40
    have hc137 : (Op.bytesLess (xs[i - 1].fName).toList xs[i].fName.toList) = true := hbl
    have F138 := F135.sb 37 (by kernel_rfl) (show (!(Op.bytesLess (xs[i - 1].fName).toList xs[i].fName.toList)) = false by rw [hc137]; rfl)
    have F139 := F138.sb 38 (by kernel_rfl) (show (!(Op.bytesLess (xs[i - 1].fName).toList xs[i].fName.toList)) = false by rw [hc137]; rfl)
    have F140 := F139.sb 39 (by kernel_rfl) (show (!(Op.bytesLess (xs[i - 1].fName).toList xs[i].fName.toList)) = false by rw [hc137]; rfl)
    refine wp_cond_false (F140.ev (by kernel_rfl)) ?_
    refine wp_skip ?_
    refine hK39 _ _ ?_; clear hK39 K39
    refine wp_region_sepF (L0 := SA.own (.slice B32 qs32.length b32) 154 1 qs32.length (pps qs32) :: SA.zips SA.ent qs32 xs[i].fVersions :: SA.blk g24 103 #[.string xs[i].fName, .slice xs[i].fVersions_a xs[i].fVersions.length xs[i].fVersions_c] :: SA.blk g5 249 #[.string ⟨#[118, 49]⟩, .map (some gm5), .slice (some ⟨gk5, 0, none⟩) 0 0, .map none] :: SA.zips SA.vr vs (xs.take i) :: L) [some [], some [(0, 40)], some [(1, 41)], some [(2, 42)], some [], some [(4, 44)], some [], some [(3, 43), (5, 45), (6, 46)]] [.v 40 (.pointer (some ⟨g5, 0, none⟩)), .v 41 (.pointer (some ⟨g5, 0, none⟩)), .v 42 (.pointer (some ⟨g5, 1, none⟩)), .v 43 (.map (some gm5)), .v 44 (.pointer (some ⟨g24, 0, none⟩)), .v 45 (.string xs[i].fName), .v 46 (.slice B32 qs32.length b32), .n (SA.mpo Try.prog 9 gm5 nn f) (fun _ _ AA => AA = SA.mpo Try.prog 9 gm5 (nn + 1) (fput f xs[i].fName (Value.slice B32 qs32.length b32)))] [] F140 rfl (by kernel_rfl) S136.p4 ?_ ?_
    ·refine ⟨?_, ?_, ?_, ?_, ?_, ?_, ?_, ?_, trivial⟩
     ·intro w156 M156
      intro a156 F156 S156
      refine obl_of (by rfl) ?_
      exact s_p F156 (v := .pointer (some ⟨g5, 0, none⟩)) (by kernel_rfl) (by kernel_rfl) (by kernel_rfl) S156
     ·intro w157 M157
      intro a157 F157 S157
      refine obl_of (by rfl) ?_
      exact s_p F157 (v := .pointer (some ⟨g5, 0, none⟩)) (by kernel_rfl) (by kernel_rfl) (by kernel_rfl) S157
     ·intro w159 M159
      intro a159 F159 S159
      refine obl_of (by rfl) ?_
      exact s_p F159 (v := .pointer (some ⟨g5, 1, none⟩)) (by kernel_rfl) (by kernel_rfl) (by kernel_rfl) S159
     ·intro w161 M161
      intro a161 F161 S161
      refine obl_of (by rfl) ?_
      exact s_r (v := .map (some gm5)) (r_ld rfl (F161.e (.pointer (some ⟨g5, 1, none⟩))) (v := .map (some gm5)) (((Sp.dropM S161.drop).bk 3 rfl).cell 1) Try.underlying247 rfl) S161
     ·intro w163 M163
      intro a163 F163 S163
      refine obl_of (by rfl) ?_
      exact s_p F163 (v := .pointer (some ⟨g24, 0, none⟩)) (by kernel_rfl) (by kernel_rfl) (by kernel_rfl) S163
     ·intro w164 M164
      intro a164 F164 S164
      refine obl_of (by rfl) ?_
      exact s_r (v := .string xs[i].fName) (r_ld rfl (F164.e (.pointer (some ⟨g24, 0, none⟩))) (v := .string xs[i].fName) (((Sp.dropM S164.drop).bk 2 rfl).cell 0) Try.underlying9 rfl) S164
     ·intro w166 M166
      intro a166 F166 S166
      refine obl_of (by rfl) ?_
      exact s_p F166 (v := .slice B32 qs32.length b32) (by kernel_rfl) (by kernel_rfl) (by kernel_rfl) S166
     ·intro w167 M167
      intro a167 F167 S167
      refine obl_of (by rfl) ?_
      exact s_mput rfl Try.underlying9 Try.underlying247 (F167.e (.map (some gm5))) (F167.e (.string xs[i].fName)) (F167.e (.slice B32 qs32.length b32)) S167 (by simp only [maxLen]; omega) (by simp only [maxLen]; omega)
    ·rintro _ _ rfl
     intro a172 w171 F172 S171
     have S173 : Sp R w171 (SA.mpo Try.prog 9 gm5 (nn + 1) (fput f xs[i].fName (Value.slice B32 qs32.length b32)) :: SA.own (.slice B32 qs32.length b32) 154 1 qs32.length (pps qs32) :: SA.zips SA.ent qs32 xs[i].fVersions :: SA.blk g24 103 #[.string xs[i].fName, .slice xs[i].fVersions_a xs[i].fVersions.length xs[i].fVersions_c] :: SA.blk g5 249 #[.string ⟨#[118, 49]⟩, .map (some gm5), .slice (some ⟨gk5, 0, none⟩) 0 0, .map none] :: SA.zips SA.vr vs (xs.take i) :: L) := S171
     refine wpList_nil ?_
     refine hK20 _ _ ?_; clear hK20 K20
     refine wp_region_lit ?_
     refine op_rq (v := .int .i64 (↑(i + 1))) F172 (r_add (z := ↑(i + 1)) rfl (F172.e (.int .i64 (↑i))) (F172.e (.int .i64 1)) (wr64 (by omega) (by omega) (by omega))) ?_; intro a174 F174
     refine op_q F174 (.int .i64 (↑(i + 1))) ?_; intro a175 F175
     refine wpList_nil ?_
     have hzl176 := Sp.zlen (S173.p2.p2).p1
     have S177 : Sp R w171 (SA.vr (B32, b32) xs[i] :: SA.mpo Try.prog 9 gm5 (nn + 1) (fput f xs[i].fName (Value.slice B32 qs32.length b32)) :: SA.blk g24 103 #[.string xs[i].fName, .slice xs[i].fVersions_a xs[i].fVersions.length xs[i].fVersions_c] :: SA.blk g5 249 #[.string ⟨#[118, 49]⟩, .map (some gm5), .slice (some ⟨gk5, 0, none⟩) 0 0, .map none] :: SA.zips SA.vr vs (xs.take i) :: L) := Sp.vr_mk hzl176 S173.p2.p2
     have S178 : Sp R w171 (SA.zips SA.vr (vs ++ [(B32, b32)]) (xs.take (i + 1)) :: SA.mpo Try.prog 9 gm5 (nn + 1) (fput f xs[i].fName (Value.slice B32 qs32.length b32)) :: SA.blk g24 103 #[.string xs[i].fName, .slice xs[i].fVersions_a xs[i].fVersions.length xs[i].fVersions_c] :: SA.blk g5 249 #[.string ⟨#[118, 49]⟩, .map (some gm5), .slice (some ⟨gk5, 0, none⟩) 0 0, .map none] :: L) := by rw [List.take_succ_eq_append_getElem hlt_i]; exact Sp.zsnoc S177.p4.p1
     exact hK14 _ _ _ (by first | omega | (simp; omega)) ⟨(fput f xs[i].fName (Value.slice B32 qs32.length b32)), nn + 1, vs ++ [(B32, b32)], i + 1, rfl, (F175.kk 0 (F175.kk 4 (F175.kk 10 (F175.kk 11 (F175.kk 12 F175.nil))))), S178.p2.drop.p1.p2, (by first | omega | (with_reducible assumption) | (simp; done)), (by first | omega | (with_reducible assumption) | (simp; done)), (mapI_put hx hlt_i hf hzl176)⟩
  ·skip
   have hc41p := of_decide_eq_false hc41
   refine wp_region_sepF (L0 := SA.own (.slice B32 qs32.length b32) 154 1 qs32.length (pps qs32) :: SA.zips SA.ent qs32 xs[i].fVersions :: SA.blk g24 103 #[.string xs[i].fName, .slice xs[i].fVersions_a xs[i].fVersions.length xs[i].fVersions_c] :: SA.blk g5 249 #[.string ⟨#[118, 49]⟩, .map (some gm5), .slice (some ⟨gk5, 0, none⟩) 0 0, .map none] :: SA.mpo Try.prog 9 gm5 nn f :: SA.zips SA.vr vs (xs.take i) :: L) [some [], some [(0, 23)], some [(1, 24)], some [(2, 25)], some [(2, 25), (3, 26)], some [(2, 25), (4, 27)], some [(5, 28)], some [(5, 28)], some [(5, 28), (7, 30)], some [(5, 28), (6, 29), (8, 31)], some [(5, 28), (9, 32)], some [(5, 28), (10, 33)], some [(5, 28)], some [(5, 28), (12, 35)], some [(5, 28), (11, 34), (13, 36)], some [(2, 25), (5, 28), (14, 37)], some [(2, 25), (15, 38)]] [.v 23 (.bool true), .v 24 (.bool false), .v 25 (.bool false), .v 26 (.int .i64 (↑i)), .v 27 (.bool false), .v 28 (.bool false), .v 29 undef, .v 30 undef, .v 31 undef, .v 32 undef, .v 33 undef, .v 34 undef, .v 35 undef, .v 36 undef, .v 37 undef, .v 38 (.bool false), .v 39 (.bool false)] [] F38 rfl (by kernel_rfl) S32 ?_ ?_
   ·refine ⟨?_, ?_, ?_, ?_, ?_, ?_, ?_, ?_, ?_, ?_, ?_, ?_, ?_, ?_, ?_, ?_, ?_, trivial⟩
    ·intro w225 M225
     intro a225 F225 S225
     refine obl_of (by rfl) ?_
     exact s_p F225 (v := .bool true) (by kernel_rfl) (by kernel_rfl) (by kernel_rfl) S225
    ·intro w226 M226
     intro a226 F226 S226
     refine obl_of (by rfl) ?_
     exact s_p F226 (v := .bool false) (by kernel_rfl) (by kernel_rfl) (by kernel_rfl) S226
    ·intro w228 M228
     intro a228 F228 S228
     refine obl_of (by rfl) ?_
     exact s_p F228 (v := .bool false) (by kernel_rfl) (by kernel_rfl) (by kernel_rfl) S228
    ·intro w230 M230
     intro a230 F230 S230
     refine obl_yes (F230.wanted (q := true) (by kernel_rfl) (by intro t ht; injection ht with ht; subst ht; exact nble rfl)) ?_
     exact s_p F230 (v := .int .i64 (↑i)) (by kernel_rfl) (by kernel_rfl) (by kernel_rfl) S230
    ·intro w232 M232
     intro a232 F232 S232
     refine obl_yes (F232.wanted (q := true) (by kernel_rfl) (by intro t ht; injection ht with ht; subst ht; exact nble rfl)) ?_
     exact s_pb F232 (b := decide ((0 : Int) < ↑i)) hc41 (by kernel_rfl) (by kernel_rfl) (by kernel_rfl) S232
    ·intro w235 M235
     intro a235 F235 S235
     refine obl_yes (F235.wanted (q := true) (by kernel_rfl) (by intro t ht; injection ht with ht; subst ht; exact nble rfl)) ?_
     exact s_p F235 (v := .bool false) (by kernel_rfl) (by kernel_rfl) (by kernel_rfl) S235
    ·intro w238 M238
     intro a238 F238 S238
     exact obl_no (by rfl) (F238.wanted (q := false) (by kernel_rfl) (by intro t ht; injection ht with ht; subst ht; exact nble rfl)) ⟨rfl, rfl⟩
    ·intro w240 M240
     intro a240 F240 S240
     exact obl_no (by rfl) (F240.wanted (q := false) (by kernel_rfl) (by intro t ht; injection ht with ht; subst ht; exact nble rfl)) ⟨rfl, rfl⟩
    ·intro w242 M242
     intro a242 F242 S242
     exact obl_no (by rfl) (F242.wanted (q := false) (by kernel_rfl) (by intro t ht; injection ht with ht; subst ht; exact nble rfl)) ⟨rfl, rfl⟩
    ·intro w245 M245
     intro a245 F245 S245
     exact obl_no (by rfl) (F245.wanted (q := false) (by kernel_rfl) (by intro t ht; injection ht with ht; subst ht; exact nble rfl)) ⟨rfl, rfl⟩
    ·intro w249 M249
     intro a249 F249 S249
     exact obl_no (by rfl) (F249.wanted (q := false) (by kernel_rfl) (by intro t ht; injection ht with ht; subst ht; exact nble rfl)) ⟨rfl, rfl⟩
    ·intro w252 M252
     intro a252 F252 S252
     exact obl_no (by rfl) (F252.wanted (q := false) (by kernel_rfl) (by intro t ht; injection ht with ht; subst ht; exact nble rfl)) ⟨rfl, rfl⟩
    ·intro w255 M255
     intro a255 F255 S255
     exact obl_no (by rfl) (F255.wanted (q := false) (by kernel_rfl) (by intro t ht; injection ht with ht; subst ht; exact nble rfl)) ⟨rfl, rfl⟩
    ·intro w257 M257
     intro a257 F257 S257
     exact obl_no (by rfl) (F257.wanted (q := false) (by kernel_rfl) (by intro t ht; injection ht with ht; subst ht; exact nble rfl)) ⟨rfl, rfl⟩
    ·intro w260 M260
     intro a260 F260 S260
     exact obl_no (by rfl) (F260.wanted (q := false) (by kernel_rfl) (by intro t ht; injection ht with ht; subst ht; exact nble rfl)) ⟨rfl, rfl⟩
    ·intro w264 M264
     intro a264 F264 S264
     refine obl_yes (F264.wanted (q := true) (by kernel_rfl) (by intro t ht; injection ht with ht; subst ht; exact nble rfl)) ?_
     exact s_p F264 (v := .bool false) (by kernel_rfl) (by kernel_rfl) (by kernel_rfl) S264
    ·intro w268 M268
     intro a268 F268 S268
     refine obl_of (by rfl) ?_
     exact s_p F268 (v := .bool false) (by kernel_rfl) (by kernel_rfl) (by kernel_rfl) S268
   ·intro a272 w271 F272 S271
    have S273 : Sp R w271 (SA.own (.slice B32 qs32.length b32) 154 1 qs32.length (pps qs32) :: SA.zips SA.ent qs32 xs[i].fVersions :: SA.blk g24 103 #[.string xs[i].fName, .slice xs[i].fVersions_a xs[i].fVersions.length xs[i].fVersions_c] :: SA.blk g5 249 #[.string ⟨#[118, 49]⟩, .map (some gm5), .slice (some ⟨gk5, 0, none⟩) 0 0, .map none] :: SA.mpo Try.prog 9 gm5 nn f :: SA.zips SA.vr vs (xs.take i) :: L) := S271
    refine wpList_nil ?_
    refine hK40 _ _ ?_; clear hK40 K40
    refine wp_cond_false (F272.ev (by kernel_rfl)) ?_
    refine wp_skip ?_
    refine hK39 _ _ ?_; clear hK39 K39
    refine wp_region_sepF (L0 := SA.own (.slice B32 qs32.length b32) 154 1 qs32.length (pps qs32) :: SA.zips SA.ent qs32 xs[i].fVersions :: SA.blk g24 103 #[.string xs[i].fName, .slice xs[i].fVersions_a xs[i].fVersions.length xs[i].fVersions_c] :: SA.blk g5 249 #[.string ⟨#[118, 49]⟩, .map (some gm5), .slice (some ⟨gk5, 0, none⟩) 0 0, .map none] :: SA.zips SA.vr vs (xs.take i) :: L) [some [], some [(0, 40)], some [(1, 41)], some [(2, 42)], some [], some [(4, 44)], some [], some [(3, 43), (5, 45), (6, 46)]] [.v 40 (.pointer (some ⟨g5, 0, none⟩)), .v 41 (.pointer (some ⟨g5, 0, none⟩)), .v 42 (.pointer (some ⟨g5, 1, none⟩)), .v 43 (.map (some gm5)), .v 44 (.pointer (some ⟨g24, 0, none⟩)), .v 45 (.string xs[i].fName), .v 46 (.slice B32 qs32.length b32), .n (SA.mpo Try.prog 9 gm5 nn f) (fun _ _ AA => AA = SA.mpo Try.prog 9 gm5 (nn + 1) (fput f xs[i].fName (Value.slice B32 qs32.length b32)))] [] F272 rfl (by kernel_rfl) S273.p4 ?_ ?_
    ·refine ⟨?_, ?_, ?_, ?_, ?_, ?_, ?_, ?_, trivial⟩
     ·intro w289 M289
      intro a289 F289 S289
      refine obl_of (by rfl) ?_
      exact s_p F289 (v := .pointer (some ⟨g5, 0, none⟩)) (by kernel_rfl) (by kernel_rfl) (by kernel_rfl) S289
     ·intro w290 M290
      intro a290 F290 S290
      refine obl_of (by rfl) ?_
      exact s_p F290 (v := .pointer (some ⟨g5, 0, none⟩)) (by kernel_rfl) (by kernel_rfl) (by kernel_rfl) S290
     ·intro w292 M292
      intro a292 F292 S292
      refine obl_of (by rfl) ?_
      exact s_p F292 (v := .pointer (some ⟨g5, 1, none⟩)) (by kernel_rfl) (by kernel_rfl) (by kernel_rfl) S292
     ·intro w294 M294
      intro a294 F294 S294
      refine obl_of (by rfl) ?_
      exact s_r (v := .map (some gm5)) (r_ld rfl (F294.e (.pointer (some ⟨g5, 1, none⟩))) (v := .map (some gm5)) (((Sp.dropM S294.drop).bk 3 rfl).cell 1) Try.underlying247 rfl) S294
     ·intro w296 M296
      intro a296 F296 S296
      refine obl_of (by rfl) ?_
      exact s_p F296 (v := .pointer (some ⟨g24, 0, none⟩)) (by kernel_rfl) (by kernel_rfl) (by kernel_rfl) S296
     ·intro w297 M297
      intro a297 F297 S297
      refine obl_of (by rfl) ?_
      exact s_r (v := .string xs[i].fName) (r_ld rfl (F297.e (.pointer (some ⟨g24, 0, none⟩))) (v := .string xs[i].fName) (((Sp.dropM S297.drop).bk 2 rfl).cell 0) Try.underlying9 rfl) S297
     ·intro w299 M299
      intro a299 F299 S299
      refine obl_of (by rfl) ?_
      exact s_p F299 (v := .slice B32 qs32.length b32) (by kernel_rfl) (by kernel_rfl) (by kernel_rfl) S299
     ·intro w300 M300
      intro a300 F300 S300
      refine obl_of (by rfl) ?_
      exact s_mput rfl Try.underlying9 Try.underlying247 (F300.e (.map (some gm5))) (F300.e (.string xs[i].fName)) (F300.e (.slice B32 qs32.length b32)) S300 (by simp only [maxLen]; omega) (by simp only [maxLen]; omega)
    ·rintro _ _ rfl
     intro a305 w304 F305 S304
     have S306 : Sp R w304 (SA.mpo Try.prog 9 gm5 (nn + 1) (fput f xs[i].fName (Value.slice B32 qs32.length b32)) :: SA.own (.slice B32 qs32.length b32) 154 1 qs32.length (pps qs32) :: SA.zips SA.ent qs32 xs[i].fVersions :: SA.blk g24 103 #[.string xs[i].fName, .slice xs[i].fVersions_a xs[i].fVersions.length xs[i].fVersions_c] :: SA.blk g5 249 #[.string ⟨#[118, 49]⟩, .map (some gm5), .slice (some ⟨gk5, 0, none⟩) 0 0, .map none] :: SA.zips SA.vr vs (xs.take i) :: L) := S304
     refine wpList_nil ?_
     refine hK20 _ _ ?_; clear hK20 K20
     refine wp_region_lit ?_
     refine op_rq (v := .int .i64 (↑(i + 1))) F305 (r_add (z := ↑(i + 1)) rfl (F305.e (.int .i64 (↑i))) (F305.e (.int .i64 1)) (wr64 (by omega) (by omega) (by omega))) ?_; intro a307 F307
     refine op_q F307 (.int .i64 (↑(i + 1))) ?_; intro a308 F308
     refine wpList_nil ?_
     have hzl309 := Sp.zlen (S306.p2.p2).p1
     have S310 : Sp R w304 (SA.vr (B32, b32) xs[i] :: SA.mpo Try.prog 9 gm5 (nn + 1) (fput f xs[i].fName (Value.slice B32 qs32.length b32)) :: SA.blk g24 103 #[.string xs[i].fName, .slice xs[i].fVersions_a xs[i].fVersions.length xs[i].fVersions_c] :: SA.blk g5 249 #[.string ⟨#[118, 49]⟩, .map (some gm5), .slice (some ⟨gk5, 0, none⟩) 0 0, .map none] :: SA.zips SA.vr vs (xs.take i) :: L) := Sp.vr_mk hzl309 S306.p2.p2
     have S311 : Sp R w304 (SA.zips SA.vr (vs ++ [(B32, b32)]) (xs.take (i + 1)) :: SA.mpo Try.prog 9 gm5 (nn + 1) (fput f xs[i].fName (Value.slice B32 qs32.length b32)) :: SA.blk g24 103 #[.string xs[i].fName, .slice xs[i].fVersions_a xs[i].fVersions.length xs[i].fVersions_c] :: SA.blk g5 249 #[.string ⟨#[118, 49]⟩, .map (some gm5), .slice (some ⟨gk5, 0, none⟩) 0 0, .map none] :: L) := by rw [List.take_succ_eq_append_getElem hlt_i]; exact Sp.zsnoc S310.p4.p1
     exact hK14 _ _ _ (by first | omega | (simp; omega)) ⟨(fput f xs[i].fName (Value.slice B32 qs32.length b32)), nn + 1, vs ++ [(B32, b32)], i + 1, rfl, (F308.kk 0 (F308.kk 4 (F308.kk 10 (F308.kk 11 (F308.kk 12 F308.nil))))), S311.p2.drop.p1.p2, (by first | omega | (with_reducible assumption) | (simp; done)), (by first | omega | (with_reducible assumption) | (simp; done)), (mapI_put hx hlt_i hf hzl309)⟩
 ·have hc_i : decide ((↑i : Int) < ↑xs.length) = false := by first | (simp; done) | (simp; omega)
  obtain rfl : i = xs.length := by omega
  rw [List.take_length] at hf
  rw [List.take_length] at S14
  refine wp_seq_k fun K312 hK312 => ?_
  refine wp_region_lit ?_
  refine op_q F14 (.bool (decide ((↑xs.length : Int) < ↑xs.length))) ?_; intro a313 F313
  have F314 := F313.sb 13 (by kernel_rfl) hc_i
  refine wpList_nil ?_
  refine hK312 _ _ ?_; clear hK312 K312
  refine wp_seq_k fun K315 hK315 => ?_
  refine wp_cond_false (F314.ev (by kernel_rfl)) ?_
  refine wp_exit ?_
  refine ex_then ?_; clear hK315 K315
  refine ex_then ?_
  refine ex_in ?_
  refine hK8 _ _ ?_; clear hK8 K8
  refine wp_seq_k fun K316 hK316 => ?_
  refine wp_region_lit ?_
  refine op_q F314 (.pointer (some ⟨g5, 0, none⟩)) ?_; intro a317 F317
  refine op_q F317 (.slice (A) (xs.length) (c)) ?_; intro a318 F318
  refine op_q F318 (.int .i64 (↑xs.length)) ?_; intro a319 F319
  refine op_q F319 (.bool (decide ((↑xs.length : Int) ≤ 200))) ?_; intro a320 F320
  refine op_q F320 (.pointer (some ⟨g5, 0, none⟩)) ?_; intro a321 F321
  refine op_q F321 (.bool (decide ((↑xs.length : Int) ≤ 200))) ?_; intro a322 F322
  refine wpList_nil ?_
  refine hK316 _ _ ?_; clear hK316 K316
  refine wp_ret ?_
  refine (F322.res2 rfl (v := .pointer (some ⟨g5, 0, none⟩)) (by kernel_rfl) (v2 := .bool (decide ((↑xs.length : Int) ≤ 200))) (by kernel_rfl) ?_).1
  exact ⟨g5, gm5, gk5, nn, f, vs, (by rw [show decide ((↑xs.length : Int) ≤ 200) = true from decide_eq_true (by omega)]), S14.p2.p2.p2, (by first | (with_reducible assumption) | omega)⟩
set_option maxRecDepth 100000 in
set_option maxHeartbeats 20000000 in
theorem ixHas_none (gm : Nat) (n : Nat) (f : ByteArray → Option Value) (api : ByteArray) (pk : Value) (an : Value) (nm : ByteArray) (v : ByteArray) (R : Ctx) (L : List SA) (w : World) (S : Sp R w (SA.mpo Try.prog 9 gm n f :: L))  (hf : f nm = none) (hnz : nm.size ≤ 1000000) :
    Calls Try.prog 105 #[.agg #[.string api, .map (some gm), pk, an], .string nm, .string v] w fun e w' => e = .returned (.bool false) ∧ Sp R w' (SA.mpo Try.prog 9 gm n f :: L) := by
  refine fw_enter (fn := Try.f105) rfl rfl 18 rfl (Nat.le_of_ble_eq_true rfl) ?_
  intro a0 F0
  refine wp_seq_k fun K1 hK1 => ?_
  refine wp_region_lit ?_
  refine op_sq F0 (s_newp F0 249 #[.string api, .map (some gm), pk, an] (by kernel_rfl) (by kernel_rfl) (by kernel_rfl) S) ?_
  rintro _ _ w3 ⟨g1, rfl, rfl⟩ S3 a3 F3
  refine op_q F3 (.bool false) ?_; intro a4 F4
  refine wpList_nil ?_
  refine hK1 _ _ ?_; clear hK1 K1
  refine wp_seq_k fun K5 hK5 => ?_
  refine wp_region_lit ?_
  refine op_rq (v := .agg #[.string api, .map (some gm), pk, an]) F4 (r_ldm rfl (F4.e (.pointer (some ⟨g1, 0, none⟩))) (S3.bk 0 rfl) 4 (by kernel_rfl) Try.underlying249 rfl (by kernel_rfl) (v := #[.string api, .map (some gm), pk, an]) (by kernel_rfl)) ?_; intro a6 F6
  refine op_q F6 (.string nm) ?_; intro a7 F7
  refine op_q F7 (.string v) ?_; intro a8 F8
  refine op_cq F8 (f := 106) (args := #[.agg #[.string api, .map (some gm), pk, an], .string nm, .string v]) (ixGet_none gm n f api pk an nm v _ _ _ S3.p1 hf (by first | omega | (simp; done) | (simp; omega))) ?_
  rintro _ w9 ⟨t9, ev9, rfl, S9⟩
  refine ⟨_, rfl, ?_⟩
  intro a10 F10
  refine op_q F10 (.tuple #[.pointer none, gerV true t9 ev9]) ?_; intro a11 F11
  refine op_q F11 (.pointer none) ?_; intro a12 F12
  refine op_q F12 (gerV true t9 ev9) ?_; intro a13 F13
  refine op_q F13 (.pointer none) ?_; intro a14 F14
  refine op_q F14 (gerV true t9 ev9) ?_; intro a15 F15
  refine wpList_nil ?_
  refine hK5 _ _ ?_; clear hK5 K5
  refine wp_seq_k fun K16 hK16 => ?_
  refine wp_region_lit ?_
  refine op_q F15 (gerV true t9 ev9) ?_; intro a17 F17
  refine op_rq (v := .bool false) F17 (r_gereq rfl (F17.e (gerV true t9 ev9))) ?_; intro a18 F18
  refine op_q F18 (.bool false) ?_; intro a19 F19
  refine wpList_nil ?_
  refine hK16 _ _ ?_; clear hK16 K16
  refine wp_ret ?_
  refine (F19.res1 rfl (v := .bool false) (by kernel_rfl) ?_).1
  exact ⟨rfl, S9.p1.drop⟩
set_option maxRecDepth 100000 in
set_option maxHeartbeats 20000000 in
theorem ixHas_some (gm : Nat) (n : Nat) (f : ByteArray → Option Value) (api : ByteArray) (pk : Value) (an : Value) (nm : ByteArray) (v : ByteArray) (Bp : Option Addr) (bp : Nat) (qs : List (Option Addr)) (es : List Ty69) (R : Ctx) (L : List SA) (w : World) (S : Sp R w (SA.mpo Try.prog 9 gm n f :: SA.zips SA.ent qs es :: L)) (h0 : Rf R L fun w => Sl w (Bp) (pps qs)) (hf : f nm = some (.slice Bp qs.length bp)) (hnz : nm.size ≤ 1000000) (hnb : ∀ x ∈ es, EntOk x) (hvo : ∀ x ∈ es, PlainE x) (hvs : v.size ≤ 1000000) (hvp : (v.toList == (⟨#[]⟩ : ByteArray).toList) = true ∨ plainB v = true) :
    Calls Try.prog 105 #[.agg #[.string api, .map (some gm), pk, an], .string nm, .string v] w fun e w' => ∃ q : Option Addr, ∃ b : Bool, e = .returned (.bool (!b)) ∧ Sp R w' (SA.mpo Try.prog 9 gm n f :: SA.zips SA.ent qs es :: L) ∧ (GetR v es qs q b) := by
  have hl_qs : qs.length ≤ 9223372036854775807 := by have := (h0 _ S.drop.drop).1; simpa [strs, ptrs, pps] using this
  refine fw_enter (fn := Try.f105) rfl rfl 18 rfl (Nat.le_of_ble_eq_true rfl) ?_
  intro a0 F0
  refine wp_seq_k fun K1 hK1 => ?_
  refine wp_region_lit ?_
  refine op_sq F0 (s_newp F0 249 #[.string api, .map (some gm), pk, an] (by kernel_rfl) (by kernel_rfl) (by kernel_rfl) S) ?_
  rintro _ _ w3 ⟨g1, rfl, rfl⟩ S3 a3 F3
  refine op_q F3 (.bool false) ?_; intro a4 F4
  refine wpList_nil ?_
  refine hK1 _ _ ?_; clear hK1 K1
  refine wp_seq_k fun K5 hK5 => ?_
  refine wp_region_lit ?_
  refine op_rq (v := .agg #[.string api, .map (some gm), pk, an]) F4 (r_ldm rfl (F4.e (.pointer (some ⟨g1, 0, none⟩))) (S3.bk 0 rfl) 4 (by kernel_rfl) Try.underlying249 rfl (by kernel_rfl) (v := #[.string api, .map (some gm), pk, an]) (by kernel_rfl)) ?_; intro a6 F6
  refine op_q F6 (.string nm) ?_; intro a7 F7
  refine op_q F7 (.string v) ?_; intro a8 F8
  refine op_cq F8 (f := 106) (args := #[.agg #[.string api, .map (some gm), pk, an], .string nm, .string v]) (ixGet_some gm n f api pk an nm v Bp _ qs es _ _ _ ((S3.p2).p2) (fun w S => h0 w S.drop) hf (by first | omega | (simp; done) | (simp; omega)) hnb hvo (by first | omega | (simp; done) | (simp; omega)) hvp) ?_
  rintro _ w9 ⟨q9, b9, t9, ev9, rfl, S9, hp0_9⟩
  refine ⟨_, rfl, ?_⟩
  intro a10 F10
  refine op_q F10 (.tuple #[.pointer q9, gerV b9 t9 ev9]) ?_; intro a11 F11
  refine op_q F11 (.pointer q9) ?_; intro a12 F12
  refine op_q F12 (gerV b9 t9 ev9) ?_; intro a13 F13
  refine op_q F13 (.pointer q9) ?_; intro a14 F14
  refine op_q F14 (gerV b9 t9 ev9) ?_; intro a15 F15
  refine wpList_nil ?_
  refine hK5 _ _ ?_; clear hK5 K5
  refine wp_seq_k fun K16 hK16 => ?_
  refine wp_region_lit ?_
  refine op_q F15 (gerV b9 t9 ev9) ?_; intro a17 F17
  refine op_rq (v := .bool (!b9)) F17 (r_gereq rfl (F17.e (gerV b9 t9 ev9))) ?_; intro a18 F18
  refine op_q F18 (.bool (!b9)) ?_; intro a19 F19
  refine wpList_nil ?_
  refine hK16 _ _ ?_; clear hK16 K16
  refine wp_ret ?_
  refine (F19.res1 rfl (v := .bool (!b9)) (by kernel_rfl) ?_).1
  exact ⟨q9, b9, rfl, S9.p2.drop.p1.p1, hp0_9⟩
end Go.Proofs.Ytkjcedlgljeoiaa

/- plain.Base. -/
namespace Go.Proofs.Ytkjcedlgljeoiaa
open Go.RowKit Go.Lib
set_option linter.unusedVariables false
set_option linter.unusedSimpArgs false
def slB (s : ByteArray) : Bool := s.data.toList.any fun c => c == 47
end Go.Proofs.Ytkjcedlgljeoiaa

/- rules.ZzChart, impl.LintChart. -/
namespace Go.Proofs.Ytkjcedlgljeoiaa
open Go.RowKit Go.Lib
set_option linter.unusedVariables false
set_option linter.unusedSimpArgs false
/-- An error, or none. -/
def errV (b : Bool) (g : Nat) : Value := cond b (.iface 279 (.pointer (some ⟨g, 0, none⟩))) .nilIface
def errs (bs : List Bool) (gs : List Nat) : List Value := List.zipWith errV bs gs
def bools (l : List Bool) : List Value := l.map Value.bool
def lname (m : Ty26) : Bool := m.fName.toList == (⟨#[]⟩ : ByteArray).toList || !(!slB m.fName || (m.fName.toList == (⟨#[47]⟩ : ByteArray).toList))
def isV1 (s : ByteArray) : Bool := s.toList == (⟨#[118, 49]⟩ : ByteArray).toList
def isV2 (s : ByteArray) : Bool := s.toList == (⟨#[118, 50]⟩ : ByteArray).toList
def lapi (m : Ty26) : Bool := m.fAPIVersion.toList == (⟨#[]⟩ : ByteArray).toList || (!isV1 m.fAPIVersion && !isV2 m.fAPIVersion)
def lper (ps : List Ty78) : Bool := ps.any fun p => p.fNil || (p.fName.toList == (⟨#[]⟩ : ByteArray).toList)
def ltype (m : Ty26) : Bool := decide ((0 : Int) < m.fType.size) && !isV2 m.fAPIVersion
def ldep (m : Ty26) : Bool := decide ((0 : Int) < m.fDependencies.length) && !isV2 m.fAPIVersion
/-- Where a maintainer is told, or none. -/
def PerAt (w : World) (q : Option Addr) (p : Ty78) : Prop := (p.fNil = true ∧ q = none) ∨ (p.fNil = false ∧ ∃ g, q = some ⟨g, 0, none⟩ ∧ Blk w g 270 #[.string p.fName, .string p.fEmail, .string p.fURL])
end Go.Proofs.Ytkjcedlgljeoiaa

/- downloader.findVersionedEntry, impl.VersionFind. -/
namespace Go.Proofs.Ytkjcedlgljeoiaa
open Go.RowKit Go.Lib
set_option linter.unusedVariables false
set_option linter.unusedSimpArgs false
/-- Whether an entry is the one that is wanted. -/
def vtst (v : ByteArray) (x : Ty69) : Bool := !((x.fURLs.length : Int) == 0) && ((v.toList == (⟨#[]⟩ : ByteArray).toList) || eqvF v x.fMeta.fVersion)
def FindR (v : ByteArray) (es : List Ty69) (qs : List (Option Addr)) (q : Option Addr) (b : Bool) : Prop :=
  (b = false ∧ ∃ (k : Nat) (h : k < es.length) (h2 : k < qs.length), vtst v es[k] = true ∧ (∀ j, ∀ h : j < es.length, j < k → vtst v es[j] = false) ∧ q = qs[k]) ∨ (b = true ∧ q = none ∧ ∀ x ∈ es, vtst v x = false)
def VerOk (x : Ty69) : Prop := x.fMeta.fVersion.size ≤ 1000000 ∧ (plainB x.fMeta.fVersion = true ∨ errB x.fMeta.fVersion = true)
end Go.Proofs.Ytkjcedlgljeoiaa

/- impl.VersionFind. -/
namespace Go.Proofs.Ytkjcedlgljeoiaa
open Go.RowKit Go.Lib
set_option linter.unusedVariables false
set_option linter.unusedSimpArgs false
/-- An entry as a value with rows of its own. -/
def SA.ev (y : Ty69) : SA := SA.star (SA.mv y.fMeta) (SA.own0 (.slice y.fURLs_a y.fURLs.length y.fURLs_c) 9 1 y.fURLs.length (strs y.fURLs))
/-- But for addresses. -/
def entS (x : Ty69) : Ty69 := { x with fMeta := metS x.fMeta, fURLs_a := none, fURLs_c := 0 }
def entT (x : Ty69) : Ty69 := { entS x with fMeta := metT x.fMeta }
def entZ : Ty69 := { fNil := false, fBare := false, fMeta := { fName := ⟨#[]⟩, fHome := ⟨#[]⟩, fVersion := ⟨#[]⟩, fDescription := ⟨#[]⟩, fIcon := ⟨#[]⟩, fAPIVersion := ⟨#[]⟩, fCondition := ⟨#[]⟩, fTags := ⟨#[]⟩, fAppVersion := ⟨#[]⟩, fKubeVersion := ⟨#[]⟩, fType := ⟨#[]⟩, fSources_a := none, fSources_c := 0, fSources := [], fKeywords_a := none, fKeywords_c := 0, fKeywords := [], fMaintainers_a := none, fMaintainers_c := 0, fMaintainers := [], fDependencies_a := none, fDependencies_c := 0, fDependencies := [] }, fURLs_a := none, fURLs_c := 0, fURLs := [], fDigest := ⟨#[]⟩ }
section
variable {R : Ctx} {w : World} {L : List SA}
theorem Sp.evZ (S : Sp R w L) : Sp R w (SA.ev entZ :: L) :=
  Sp.star.2 (Sp.mv_mk (y := entZ.fMeta) (Sp.own0nil (Sp.own0nil (Sp.own0nil (Sp.own0nil ((Sp.stars (l := [])).2 (Sp.own0nil S))))))) 
theorem Sp.ev_mk {y : Ty26} {B : Option Addr} {b : Nat} {us : List ByteArray} {dig : ByteArray} (S : Sp R w (SA.mv y :: SA.own0 (.slice B us.length b) 9 1 us.length (strs us) :: L)) : Sp R w (SA.ev { fNil := false, fBare := false, fMeta := y, fURLs_a := B, fURLs_c := b, fURLs := us, fDigest := dig } :: L) := Sp.star.2 S
end
/-- What is found: the first one that is wanted, as it is told; or none. -/
def FoundE (v : ByteArray) (es : List Ty69) (y : Ty69) (f : Int) : Prop :=
  (f = 0 ∧ ∃ (k : Nat) (h : k < es.length), vtst v es[k] = true ∧ (∀ j, ∀ h : j < es.length, j < k → vtst v es[j] = false) ∧ entS y = entT es[k]) ∨ (f = 1 ∧ ∀ x ∈ es, vtst v x = false)
end Go.Proofs.Ytkjcedlgljeoiaa

/- spec.IxAt, IxGet; impl.IndexGet. -/
namespace Go.Proofs.Ytkjcedlgljeoiaa
open Go.RowKit Go.Lib
set_option linter.unusedVariables false
set_option linter.unusedSimpArgs false
theorem catch103 (x0 x1 x2 : Nat) (w : World) :
    CallsD Try.prog 103 #[.pointer (some ⟨x0, 0, none⟩), .pointer (some ⟨x1, 0, none⟩), .pointer (some ⟨x2, 0, none⟩)] .returning w fun e u' w' => e = .returned (.tuple #[]) ∧ u' = .returning ∧ w' = w := by
  refine callsD_of_wpS Try.func103 rfl fun c₀ cs hu => ?_
  apply wpS_seq
  apply wpS_region
  simp [wpOpsS, go_sem, recoverD, hu, Try.ntmps103, Exit.thenS]
  refine wpS_cond (t := false) (by simp [Act.eval, Array.replicate]) ?_
  simp only [Bool.false_eq_true, if_false]
  refine wpS_of_wp (wp_skip ?_)
  cases c₀
  simp_all [bodyPostS, results, Try.results103]
/-- The one of that name, or none. -/
def AtNm (nm : ByteArray) (xs : List Ty103) (B : Option Addr) (c : Nat) (es : List Ty69) (ok : Bool) : Prop := (ok = false ∧ B = none ∧ c = 0 ∧ es = [] ∧ ∀ k, ∀ h : k < xs.length, xs[k].fName ≠ nm) ∨ (ok = true ∧ ∃ (k : Nat) (h : k < xs.length), xs[k].fName = nm ∧ B = xs[k].fVersions_a ∧ c = xs[k].fVersions_c ∧ es = xs[k].fVersions)
theorem nm_at {xs : List Ty103} {k : Nat} {h : k < xs.length} {nm : ByteArray} (e : (xs[k].fName.toList == nm.toList) = true) : xs[k].fName = nm := bytes_eqL e
theorem nm_no {xs : List Ty103} {k : Nat} {h : k < xs.length} {nm : ByteArray} (e : (xs[k].fName.toList == nm.toList) = false) : xs[k].fName ≠ nm := fun he => by rw [he, beq_self_eq_true] at e; cases e
theorem idx_one {xs : List Ty103} (hx : IdxOk xs) {i j : Nat} (hi : i < xs.length) (hj : j < xs.length) (e : xs[i].fName = xs[j].fName) : i = j := by
  rcases Nat.lt_trichotomy i j with c | c | c
  · exact absurd e (idx_ne hx hi hj c)
  · exact c
  · exact absurd e.symm (idx_ne hx hj hi c)
/-- What the law's own search tells. -/
def IxR (nm v : ByteArray) (xs : List Ty103) (y : Ty69) (ok : Bool) : Prop :=
  (ok = false ∧ ∀ k, ∀ h : k < xs.length, xs[k].fName = nm → ∀ e ∈ xs[k].fVersions, gtst v e = false) ∨
  (ok = true ∧ ∃ (k : Nat) (h : k < xs.length), xs[k].fName = nm ∧ ∃ (j : Nat) (hj : j < xs[k].fVersions.length), gtst v xs[k].fVersions[j] = true ∧ (∀ i, ∀ hi : i < xs[k].fVersions.length, i < j → gtst v xs[k].fVersions[i] = false) ∧ y = xs[k].fVersions[j])
theorem ixR_no {nm v : ByteArray} {xs : List Ty103} {y : Ty69} {B : Option Addr} {c : Nat} {es : List Ty69} {ok : Bool} (hx : IdxOk xs) (h : AtNm nm xs B c es ok) (h2 : ∀ e ∈ es, gtst v e = false) : IxR nm v xs y false := by
  refine .inl ⟨rfl, fun k hk hn => ?_⟩
  rcases h with ⟨_, _, _, _, h⟩ | ⟨_, k', hk', hn', _, _, rfl⟩
  · exact absurd hn (h k hk)
  · obtain rfl := idx_one hx hk hk' (hn.trans hn'.symm); exact h2
theorem ixR_yes {nm v : ByteArray} {xs : List Ty103} {B : Option Addr} {c : Nat} {es : List Ty69} {ok : Bool} {j : Nat} (h : AtNm nm xs B c es ok) (hj : j < es.length) (h2 : gtst v es[j] = true) (h3 : ∀ i, ∀ hi : i < es.length, i < j → gtst v es[i] = false) : IxR nm v xs es[j] true := by
  rcases h with ⟨_, _, _, rfl, h⟩ | ⟨_, k', hk', hn', _, _, rfl⟩
  · exact absurd hj (Nat.not_lt_zero _)
  · exact .inr ⟨rfl, k', hk', hn', j, hj, h2, h3, rfl⟩
theorem gtst_sw {v : ByteArray} {x : Ty69} {q : Bool} (h : (v.toList == (⟨#[]⟩ : ByteArray).toList) = false) (h2 : (x.fMeta.fVersion.toList == v.toList) = q) : gtst v x = q := gtst_eq h (by rw [← h2]; exact Bool.beq_comm)
/-- What an index of its own tells. -/
def IdxR (nm v : ByteArray) (xs : List Ty103) (y : Ty69) (has : Bool) (f : Int) : Prop :=
  (has = false ∧ f = 1 ∧ ∀ k, ∀ h : k < xs.length, xs[k].fName = nm → ∀ e ∈ xs[k].fVersions, gtst v e = false) ∨
  (has = true ∧ f = 0 ∧ ∃ (k : Nat) (h : k < xs.length), xs[k].fName = nm ∧ ∃ (j : Nat) (hj : j < xs[k].fVersions.length), gtst v xs[k].fVersions[j] = true ∧ (∀ i, ∀ hi : i < xs[k].fVersions.length, i < j → gtst v xs[k].fVersions[i] = false) ∧ entS y = entT xs[k].fVersions[j])
theorem getR_b {v : ByteArray} {es : List Ty69} {qs : List (Option Addr)} {q q' : Option Addr} {b b' : Bool} (h : GetR v es qs q b) (h' : GetR v es qs q' b') : b = b' := by
  rcases h with ⟨rfl, k, hk, _, h1, _⟩ | ⟨rfl, _, h1⟩ <;> rcases h' with ⟨rfl, k', hk', _, h2, _⟩ | ⟨rfl, _, h2⟩
  · rfl
  · rw [h2 _ (List.getElem_mem hk)] at h1; cases h1
  · rw [h1 _ (List.getElem_mem hk')] at h2; cases h2
  · rfl
theorem getR_f {v : ByteArray} {es : List Ty69} {qs : List (Option Addr)} {q : Option Addr} {b : Bool} (h : GetR v es qs q b) (hb : b = false) : ∃ (k : Nat) (h : k < es.length) (h2 : k < qs.length), gtst v es[k] = true ∧ (∀ j, ∀ h : j < es.length, j < k → gtst v es[j] = false) ∧ q = qs[k] := by
  rcases h with ⟨_, h⟩ | ⟨h, _⟩
  · exact h
  · rw [hb] at h; cases h
theorem getR_t {v : ByteArray} {es : List Ty69} {qs : List (Option Addr)} {q : Option Addr} {b : Bool} (h : GetR v es qs q b) (hb : b = true) : ∀ x ∈ es, gtst v x = false := by
  rcases h with ⟨h, _⟩ | ⟨_, _, h⟩
  · rw [hb] at h; cases h
  · exact h
theorem mapI_at {f : ByteArray → Option Value} {vs : List (Option Addr × Nat)} {xs : List Ty103} {nm : ByteArray} {qs : List (Option Addr)} {k : Nat} {q : Option Addr × Nat} (h : MapI f vs xs) (hk : k < xs.length) (hn : xs[k].fName = nm) (hv : k < vs.length) (hq : q = vs[k]) (hl : qs.length = xs[k].fVersions.length) : f nm = some (.slice q.1 qs.length q.2) := by
  rw [← hn, h.2.1 k hk hv, hq, hl]
theorem mapI_no {f : ByteArray → Option Value} {vs : List (Option Addr × Nat)} {xs : List Ty103} {nm : ByteArray} (h : MapI f vs xs) (hn : ¬ ∃ (k : Nat) (h : k < xs.length), xs[k].fName = nm) : f nm = none :=
  h.2.2 nm fun x hx e => by obtain ⟨k, hk, rfl⟩ := List.mem_iff_getElem.1 hx; exact hn ⟨k, hk, e⟩
theorem chNums4 (s : ByteArray) (R : Ctx) (L : List SA) (w : World) (S : Sp R w L) (hs : s.size ≤ 1000000) (hp : plainB s = true) : Calls Try.prog 82 #[.string s] w fun e w' => ∃ (n0 n1 n2 : Int), e = .returned (.tuple #[.agg #[.int .i64 n0, .int .i64 n1, .int .i64 n2], .bool true]) ∧ Sp R w' L := by
  obtain ⟨n0, n1, n2, hn⟩ : ∃ n0 n1 n2, numsF s = [n0, n1, n2] := by
    have hl := nums_len s
    match h : numsF s, hl with
    | [a, b, c], _ => exact ⟨a, b, c, rfl⟩
  refine (chNums_any s w hs).mono fun e w' ⟨he, hb⟩ => ⟨n0, n1, n2, ?_, S.below hb⟩
  rw [he, hn, hp]; rfl
set_option maxRecDepth 100000 in
set_option maxHeartbeats 20000000 in
theorem ixAt_sp (nm : ByteArray) (A : Option Addr) (c : Nat) (xs : List Ty103) (R : Ctx) (L : List SA) (w : World) (S : Sp R w (L)) (h0 : Rf R L fun w => Rows w (A) 2 (xs.map Ty103.cells))  :
  Calls Try.prog 107 #[.slice (A) (xs.length) (c), .string nm] w fun e w' => ∃ B : Option Addr, ∃ b : Nat, ∃ es : List Ty69, ∃ ok : Bool, e = .returned (.tuple #[.slice B es.length b, .bool ok]) ∧ Sp R w' (L) ∧ (AtNm nm xs B b es ok) := by
 have hl_xs : xs.length ≤ 9223372036854775807 := by have := (h0 _ S).1; simpa [strs, ptrs, pps] using this
 refine fw_enter (fn := Try.f107) rfl rfl 21 rfl (Nat.le_of_ble_eq_true rfl) ?_
 intro a0 F0
 refine wp_seq_k fun K1 hK1 => ?_
 refine wp_region_lit ?_
 refine op_q F0 (.slice none 0 0) ?_; intro a2 F2
 refine op_q F2 (.bool false) ?_; intro a3 F3
 refine wpList_nil ?_
 refine hK1 _ _ ?_; clear hK1 K1
 refine wp_seq_k fun K4 hK4 => ?_
 refine wp_seq_k fun K5 hK5 => ?_
 refine wp_region_lit ?_
 refine op_q F3 (.slice (A) (xs.length) (c)) ?_; intro a6 F6
 refine op_q F6 (.int .i64 (↑xs.length)) ?_; intro a7 F7
 refine op_q F7 (.int .i64 0) ?_; intro a8 F8
 refine wpList_nil ?_
 refine hK5 _ _ ?_; clear hK5 K5
 refine wp_block ?_
 refine fw_loop (fun m' a' w' => ∃ k : Nat, xs.length - k = m' ∧ Fr 21 [] a' [(1, .string nm), (8, .slice (A) (xs.length) (c)), (9, .int .i64 (↑xs.length)), (10, .int .i64 (↑k))] ∧ Sp R w' (L) ∧ (k ≤ xs.length) ∧ (∀ j, ∀ h : j < xs.length, j < k → xs[j].fName ≠ nm)) _ ⟨0, rfl, (F8.kk 1 (F8.kk 8 (F8.kk 9 (F8.kk 10 F8.nil)))), S, (by first | omega | (with_reducible assumption) | (simp; done)), (fun j _ h => absurd h (Nat.not_lt_zero _))⟩ ?_
 rintro m9 a9 w9 ⟨k, hm9, F9, S9, hk, hno⟩ K9 hK9
 by_cases hlt_k : k < xs.length
 ·have hc_k : decide ((↑k : Int) < ↑xs.length) = true := by first | (simp; done) | (simp; omega)
  obtain ⟨ad10, hA10⟩ := (h0 _ S9).addr (by simp; omega)
  refine wp_seq_k fun K11 hK11 => ?_
  refine wp_region_lit ?_
  refine op_q F9 (.bool (decide ((↑k : Int) < ↑xs.length))) ?_; intro a12 F12
  have F13 := F12.sb 11 (by kernel_rfl) hc_k
  refine wpList_nil ?_
  refine hK11 _ _ ?_; clear hK11 K11
  refine wp_seq_k fun K14 hK14 => ?_
  refine wp_cond_true (F13.ev (by kernel_rfl)) ?_
  refine wp_skip ?_
  refine hK14 _ _ ?_; clear hK14 K14
  refine wp_seq_k fun K15 hK15 => ?_
  refine wp_block ?_
  refine wp_seq_k fun K16 hK16 => ?_
  refine wp_region_lit ?_
  refine op_rq (v := .pointer (some (ad10.add (k * 2)))) F13 (r_ix rfl Try.underlying95 2 (by kernel_rfl) (F13.e (.slice (A) (xs.length) (c))) hA10 (F13.e (.int .i64 (↑k))) k (by first | rfl | omega | simp) (by first | omega | (simp; done) | (simp; omega)) (rfl)) ?_; intro a17 F17
  refine op_rq (v := .agg #[.string xs[k].fName, .slice xs[k].fVersions_a xs[k].fVersions.length xs[k].fVersions_c]) F17 (r_ldR rfl (F17.e (.pointer (some (ad10.add (k * 2))))) (cs := [.string xs[k].fName, .slice xs[k].fVersions_a xs[k].fVersions.length xs[k].fVersions_c]) ((h0 _ S9).elA hA10 (j := k) (row := xs[k].cells) (by rw [List.getElem?_map, List.getElem?_eq_getElem hlt_k]; rfl)) Try.underlying103 rfl (by kernel_rfl) (v := #[.string xs[k].fName, .slice xs[k].fVersions_a xs[k].fVersions.length xs[k].fVersions_c]) (by kernel_rfl)) ?_; intro a18 F18
  refine op_sq F18 (s_newp F18 103 #[.string ⟨#[]⟩, .slice none 0 0] (by kernel_rfl) (by kernel_rfl) (by kernel_rfl) S9) ?_
  rintro _ _ w20 ⟨g18, rfl, rfl⟩ S20 a20 F20
  refine op_sq0 F20 (s_stb rfl (F20.e (.pointer (some ⟨g18, 0, none⟩))) (F20.e (.agg #[.string xs[k].fName, .slice xs[k].fVersions_a xs[k].fVersions.length xs[k].fVersions_c])) S20 (by kernel_rfl) rfl (by kernel_rfl)) ?_
  rintro _ _ w21 rfl S21 F21
  refine wpList_nil ?_
  refine hK16 _ _ ?_; clear hK16 K16
  refine wp_seq_k fun K22 hK22 => ?_
  refine wp_region_lit ?_
  refine op_q F21 (.pointer (some ⟨g18, 0, none⟩)) ?_; intro a23 F23
  refine op_rq (v := .string xs[k].fName) F23 (r_ld rfl (F23.e (.pointer (some ⟨g18, 0, none⟩))) (v := .string xs[k].fName) ((S21.bk 0 rfl).cell 0) Try.underlying9 rfl) ?_; intro a24 F24
  refine op_q F24 (.string nm) ?_; intro a25 F25
  refine op_q F25 (.bool (xs[k].fName.toList == nm.toList)) ?_; intro a26 F26
  refine wpList_nil ?_
  refine hK22 _ _ ?_; clear hK22 K22
  rcases btf (xs[k].fName.toList == nm.toList) with hc27 | hc27
  ·have F28 := F26.sb 17 (by kernel_rfl) hc27
   refine wp_cond_true (F28.ev (by kernel_rfl)) ?_
   refine wp_seq_k fun K29 hK29 => ?_
   refine wp_region_lit ?_
   refine op_q F28 (.pointer (some ⟨g18, 1, none⟩)) ?_; intro a30 F30
   refine op_rq (v := .slice xs[k].fVersions_a xs[k].fVersions.length xs[k].fVersions_c) F30 (r_ld rfl (F30.e (.pointer (some ⟨g18, 1, none⟩))) (v := .slice xs[k].fVersions_a xs[k].fVersions.length xs[k].fVersions_c) ((S21.bk 0 rfl).cell 1) Try.underlying65 rfl) ?_; intro a31 F31
   refine op_q F31 (.slice xs[k].fVersions_a xs[k].fVersions.length xs[k].fVersions_c) ?_; intro a32 F32
   refine op_q F32 (.bool true) ?_; intro a33 F33
   refine wpList_nil ?_
   refine hK29 _ _ ?_; clear hK29 K29
   refine wp_ret ?_
   refine ret_in ?_
   refine ret_then ?_
   refine ret_then ?_
   refine ret_in ?_
   refine ret_then ?_
   refine (F33.res2 rfl (v := .slice xs[k].fVersions_a xs[k].fVersions.length xs[k].fVersions_c) (by kernel_rfl) (v2 := .bool true) (by kernel_rfl) ?_).1
   exact ⟨xs[k].fVersions_a, xs[k].fVersions_c, xs[k].fVersions, true, rfl, S21.drop, (.inr ⟨rfl, k, hlt_k, nm_at hc27, rfl, rfl, rfl⟩)⟩
  ·have F34 := F26.sb 17 (by kernel_rfl) hc27
   refine wp_cond_false (F34.ev (by kernel_rfl)) ?_
   refine wp_skip ?_
   refine hK15 _ _ ?_; clear hK15 K15
   refine wp_region_lit ?_
   refine op_rq (v := .int .i64 (↑(k + 1))) F34 (r_add (z := ↑(k + 1)) rfl (F34.e (.int .i64 (↑k))) (F34.e (.int .i64 1)) (wr64 (by omega) (by omega) (by omega))) ?_; intro a35 F35
   refine op_q F35 (.int .i64 (↑(k + 1))) ?_; intro a36 F36
   refine wpList_nil ?_
   exact hK9 _ _ _ (by first | omega | (simp; omega)) ⟨k + 1, rfl, (F36.kk 1 (F36.kk 8 (F36.kk 9 (F36.kk 10 F36.nil)))), S21.drop, (by first | omega | (with_reducible assumption) | (simp; done)), (fun j hj h => (Nat.lt_succ_iff_lt_or_eq.1 h).elim (hno j hj) (fun e => by subst e; exact nm_no hc27))⟩
 ·have hc_k : decide ((↑k : Int) < ↑xs.length) = false := by first | (simp; done) | (simp; omega)
  obtain rfl : k = xs.length := by omega
  refine wp_seq_k fun K37 hK37 => ?_
  refine wp_region_lit ?_
  refine op_q F9 (.bool (decide ((↑xs.length : Int) < ↑xs.length))) ?_; intro a38 F38
  have F39 := F38.sb 11 (by kernel_rfl) hc_k
  refine wpList_nil ?_
  refine hK37 _ _ ?_; clear hK37 K37
  refine wp_seq_k fun K40 hK40 => ?_
  refine wp_cond_false (F39.ev (by kernel_rfl)) ?_
  refine wp_exit ?_
  refine ex_then ?_; clear hK40 K40
  refine ex_then ?_
  refine ex_in ?_
  refine hK4 _ _ ?_; clear hK4 K4
  refine wp_seq_k fun K41 hK41 => ?_
  refine wp_region_lit ?_
  refine op_q F39 (.slice none 0 0) ?_; intro a42 F42
  refine op_q F42 (.bool false) ?_; intro a43 F43
  refine wpList_nil ?_
  refine hK41 _ _ ?_; clear hK41 K41
  refine wp_ret ?_
  refine (F43.res2 rfl (v := .slice none 0 0) (by kernel_rfl) (v2 := .bool false) (by kernel_rfl) ?_).1
  exact ⟨none, 0, [], false, rfl, S9, (.inl ⟨rfl, rfl, rfl, rfl, fun j hj => hno j hj (by omega)⟩)⟩
set_option maxRecDepth 100000 in
set_option maxHeartbeats 20000000 in
theorem ixGet_sp (nm : ByteArray) (v : ByteArray) (A : Option Addr) (c : Nat) (xs : List Ty103) (R : Ctx) (L : List SA) (w : World) (S : Sp R w (L)) (h0 : Rf R L fun w => Rows w (A) 2 (xs.map Ty103.cells)) (h1 : Rf R L fun w => ∀ x ∈ xs, NamAt w x) (hx : IdxOk xs) (hpe : ∀ x ∈ xs, ∀ e ∈ x.fVersions, PlainE e) (hvs : v.size ≤ 1000000) (hvp : (v.toList == (⟨#[]⟩ : ByteArray).toList) = true ∨ plainB v = true) :
  Calls Try.prog 53 #[.slice (A) (xs.length) (c), .string nm, .string v] w fun e w' => ∃ y : Ty69, ∃ ok : Bool, e = .returned (.tuple #[.agg #[.bool y.fNil, .bool y.fBare, .string y.fMeta.fName, .string y.fMeta.fHome, .string y.fMeta.fVersion, .string y.fMeta.fDescription, .string y.fMeta.fIcon, .string y.fMeta.fAPIVersion, .string y.fMeta.fCondition, .string y.fMeta.fTags, .string y.fMeta.fAppVersion, .string y.fMeta.fKubeVersion, .string y.fMeta.fType, .slice y.fMeta.fSources_a y.fMeta.fSources.length y.fMeta.fSources_c, .slice y.fMeta.fKeywords_a y.fMeta.fKeywords.length y.fMeta.fKeywords_c, .slice y.fMeta.fMaintainers_a y.fMeta.fMaintainers.length y.fMeta.fMaintainers_c, .slice y.fMeta.fDependencies_a y.fMeta.fDependencies.length y.fMeta.fDependencies_c, .slice y.fURLs_a y.fURLs.length y.fURLs_c, .string y.fDigest], .bool ok]) ∧ Sp R w' (L) ∧ (IxR nm v xs y ok) := by
 have hl_xs : xs.length ≤ 9223372036854775807 := by have := (h0 _ S).1; simpa [strs, ptrs, pps] using this
 refine fw_enter (fn := Try.f53) rfl rfl 48 rfl (Nat.le_of_ble_eq_true rfl) ?_
 intro a0 F0
 refine wp_seq_k fun K1 hK1 => ?_
 refine wp_region_lit ?_
 refine op_sq F0 (s_newp F0 69 zq18 (by kernel_rfl) (by kernel_rfl) (by kernel_rfl) S) ?_
 rintro _ _ w3 ⟨g1, rfl, rfl⟩ S3 a3 F3
 refine op_q F3 (.bool false) ?_; intro a4 F4
 refine wpList_nil ?_
 refine hK1 _ _ ?_; clear hK1 K1
 refine wp_seq_k fun K5 hK5 => ?_
 refine wp_region_lit ?_
 refine op_q F4 (.slice (A) (xs.length) (c)) ?_; intro a6 F6
 refine op_q F6 (.string nm) ?_; intro a7 F7
 refine op_cq F7 (f := 107) (args := #[.slice (A) (xs.length) (c), .string nm]) (ixAt_sp nm A c xs _ _ _ S3 (fun w S => h0 w S.drop)) ?_
 rintro _ w8 ⟨B8, b8, es8, ok8, rfl, S8, hp0_8⟩
 refine ⟨_, rfl, ?_⟩
 intro a9 F9
 refine op_q F9 (.tuple #[.slice B8 es8.length b8, .bool ok8]) ?_; intro a10 F10
 refine op_q F10 (.slice B8 es8.length b8) ?_; intro a11 F11
 refine op_q F11 (.bool ok8) ?_; intro a12 F12
 refine op_q F12 (.slice B8 es8.length b8) ?_; intro a13 F13
 refine op_q F13 (.bool ok8) ?_; intro a14 F14
 refine wpList_nil ?_
 refine hK5 _ _ ?_; clear hK5 K5
 refine wp_seq_k fun K15 hK15 => ?_
 refine wp_seq_k fun K16 hK16 => ?_
 have hkr : Rf R L fun w => Rows w B8 19 (es8.map Ty69.cells) := by rcases hp0_8 with ⟨_, rfl, _, rfl, _⟩ | ⟨_, k, hk, _, rfl, _, rfl⟩; exact fun _ _ => Rows.nil; exact fun w S => (h1 w S _ (List.getElem_mem hk)).1
 have hpo : ∀ e ∈ es8, PlainE e := by rcases hp0_8 with ⟨_, _, _, rfl, _⟩ | ⟨_, k, hk, _, _, _, rfl⟩; exact fun _ h => (by cases h); exact hpe _ (List.getElem_mem hk)
 have hel : es8.length ≤ 200 := by rcases hp0_8 with ⟨_, _, _, rfl, _⟩ | ⟨_, k, hk, _, _, _, rfl⟩; exact Nat.zero_le _; exact (hx.2.1 _ (List.getElem_mem hk)).2.1
 have hAt := hp0_8
 refine wp_region_lit ?_
 refine op_q F14 (.slice B8 es8.length b8) ?_; intro a17 F17
 refine op_q F17 (.int .i64 (↑es8.length)) ?_; intro a18 F18
 refine op_q F18 (.int .i64 0) ?_; intro a19 F19
 refine wpList_nil ?_
 refine hK16 _ _ ?_; clear hK16 K16
 refine wp_block ?_
 refine fw_loop (fun m' a' w' => ∃ k : Nat, es8.length - k = m' ∧ Fr 48 [] a' [(2, .string v), (6, .pointer (some ⟨g1, 0, none⟩)), (20, .slice B8 es8.length b8), (21, .int .i64 (↑es8.length)), (22, .int .i64 (↑k))] ∧ Sp R w' (SA.blk g1 69 zq18 :: L) ∧ (k ≤ es8.length) ∧ (∀ j, ∀ h : j < es8.length, j < k → gtst v es8[j] = false)) _ ⟨0, rfl, (F19.kk 2 (F19.kk 6 (F19.kk 20 (F19.kk 21 (F19.kk 22 F19.nil))))), S8, (by first | omega | (with_reducible assumption) | (simp; done)), (fun j _ h => absurd h (Nat.not_lt_zero _))⟩ ?_
 rintro m20 a20 w20 ⟨k, hm20, F20, S20, hk, hno⟩ K20 hK20
 by_cases hlt_k : k < es8.length
 ·have hc_k : decide ((↑k : Int) < ↑es8.length) = true := by first | (simp; done) | (simp; omega)
  obtain ⟨hzk, hpk⟩ := hpo _ (List.getElem_mem hlt_k)
  obtain ⟨ad21, hA21⟩ := (hkr _ S20.drop).addr (by simp; omega)
  refine wp_seq_k fun K22 hK22 => ?_
  refine wp_region_lit ?_
  refine op_q F20 (.bool (decide ((↑k : Int) < ↑es8.length))) ?_; intro a23 F23
  have F24 := F23.sb 23 (by kernel_rfl) hc_k
  refine wpList_nil ?_
  refine hK22 _ _ ?_; clear hK22 K22
  refine wp_seq_k fun K25 hK25 => ?_
  refine wp_cond_true (F24.ev (by kernel_rfl)) ?_
  refine wp_skip ?_
  refine hK25 _ _ ?_; clear hK25 K25
  refine wp_seq_k fun K26 hK26 => ?_
  refine wp_block ?_
  refine wp_seq_k fun K27 hK27 => ?_
  refine wp_region_lit ?_
  refine op_rq (v := .pointer (some (ad21.add (k * 19)))) F24 (r_ix rfl Try.underlying65 19 (by kernel_rfl) (F24.e (.slice B8 es8.length b8)) hA21 (F24.e (.int .i64 (↑k))) k (by first | rfl | omega | simp) (by first | omega | (simp; done) | (simp; omega)) (rfl)) ?_; intro a28 F28
  refine op_rq (v := .agg #[.bool es8[k].fNil, .bool es8[k].fBare, .string es8[k].fMeta.fName, .string es8[k].fMeta.fHome, .string es8[k].fMeta.fVersion, .string es8[k].fMeta.fDescription, .string es8[k].fMeta.fIcon, .string es8[k].fMeta.fAPIVersion, .string es8[k].fMeta.fCondition, .string es8[k].fMeta.fTags, .string es8[k].fMeta.fAppVersion, .string es8[k].fMeta.fKubeVersion, .string es8[k].fMeta.fType, .slice es8[k].fMeta.fSources_a es8[k].fMeta.fSources.length es8[k].fMeta.fSources_c, .slice es8[k].fMeta.fKeywords_a es8[k].fMeta.fKeywords.length es8[k].fMeta.fKeywords_c, .slice es8[k].fMeta.fMaintainers_a es8[k].fMeta.fMaintainers.length es8[k].fMeta.fMaintainers_c, .slice es8[k].fMeta.fDependencies_a es8[k].fMeta.fDependencies.length es8[k].fMeta.fDependencies_c, .slice es8[k].fURLs_a es8[k].fURLs.length es8[k].fURLs_c, .string es8[k].fDigest]) F28 (r_ldR rfl (F28.e (.pointer (some (ad21.add (k * 19))))) (cs := [.bool es8[k].fNil, .bool es8[k].fBare, .string es8[k].fMeta.fName, .string es8[k].fMeta.fHome, .string es8[k].fMeta.fVersion, .string es8[k].fMeta.fDescription, .string es8[k].fMeta.fIcon, .string es8[k].fMeta.fAPIVersion, .string es8[k].fMeta.fCondition, .string es8[k].fMeta.fTags, .string es8[k].fMeta.fAppVersion, .string es8[k].fMeta.fKubeVersion, .string es8[k].fMeta.fType, .slice es8[k].fMeta.fSources_a es8[k].fMeta.fSources.length es8[k].fMeta.fSources_c, .slice es8[k].fMeta.fKeywords_a es8[k].fMeta.fKeywords.length es8[k].fMeta.fKeywords_c, .slice es8[k].fMeta.fMaintainers_a es8[k].fMeta.fMaintainers.length es8[k].fMeta.fMaintainers_c, .slice es8[k].fMeta.fDependencies_a es8[k].fMeta.fDependencies.length es8[k].fMeta.fDependencies_c, .slice es8[k].fURLs_a es8[k].fURLs.length es8[k].fURLs_c, .string es8[k].fDigest]) ((hkr _ S20.drop).elA hA21 (j := k) (row := es8[k].cells) (by rw [List.getElem?_map, List.getElem?_eq_getElem hlt_k]; rfl)) Try.underlying69 rfl (by kernel_rfl) (v := #[.bool es8[k].fNil, .bool es8[k].fBare, .string es8[k].fMeta.fName, .string es8[k].fMeta.fHome, .string es8[k].fMeta.fVersion, .string es8[k].fMeta.fDescription, .string es8[k].fMeta.fIcon, .string es8[k].fMeta.fAPIVersion, .string es8[k].fMeta.fCondition, .string es8[k].fMeta.fTags, .string es8[k].fMeta.fAppVersion, .string es8[k].fMeta.fKubeVersion, .string es8[k].fMeta.fType, .slice es8[k].fMeta.fSources_a es8[k].fMeta.fSources.length es8[k].fMeta.fSources_c, .slice es8[k].fMeta.fKeywords_a es8[k].fMeta.fKeywords.length es8[k].fMeta.fKeywords_c, .slice es8[k].fMeta.fMaintainers_a es8[k].fMeta.fMaintainers.length es8[k].fMeta.fMaintainers_c, .slice es8[k].fMeta.fDependencies_a es8[k].fMeta.fDependencies.length es8[k].fMeta.fDependencies_c, .slice es8[k].fURLs_a es8[k].fURLs.length es8[k].fURLs_c, .string es8[k].fDigest]) (by kernel_rfl)) ?_; intro a29 F29
  refine op_sq F29 (s_newp F29 69 zq18 (by kernel_rfl) (by kernel_rfl) (by kernel_rfl) S20) ?_
  rintro _ _ w31 ⟨g29, rfl, rfl⟩ S31 a31 F31
  refine op_sq0 F31 (s_stb rfl (F31.e (.pointer (some ⟨g29, 0, none⟩))) (F31.e (.agg #[.bool es8[k].fNil, .bool es8[k].fBare, .string es8[k].fMeta.fName, .string es8[k].fMeta.fHome, .string es8[k].fMeta.fVersion, .string es8[k].fMeta.fDescription, .string es8[k].fMeta.fIcon, .string es8[k].fMeta.fAPIVersion, .string es8[k].fMeta.fCondition, .string es8[k].fMeta.fTags, .string es8[k].fMeta.fAppVersion, .string es8[k].fMeta.fKubeVersion, .string es8[k].fMeta.fType, .slice es8[k].fMeta.fSources_a es8[k].fMeta.fSources.length es8[k].fMeta.fSources_c, .slice es8[k].fMeta.fKeywords_a es8[k].fMeta.fKeywords.length es8[k].fMeta.fKeywords_c, .slice es8[k].fMeta.fMaintainers_a es8[k].fMeta.fMaintainers.length es8[k].fMeta.fMaintainers_c, .slice es8[k].fMeta.fDependencies_a es8[k].fMeta.fDependencies.length es8[k].fMeta.fDependencies_c, .slice es8[k].fURLs_a es8[k].fURLs.length es8[k].fURLs_c, .string es8[k].fDigest])) S31 (by kernel_rfl) rfl (by kernel_rfl)) ?_
  rintro _ _ w32 rfl S32 F32
  refine wpList_nil ?_
  refine hK27 _ _ ?_; clear hK27 K27
  refine wp_seq_k fun K33 hK33 => ?_
  refine wp_region_lit ?_
  refine op_q F32 (.pointer (some ⟨g29, 2, none⟩)) ?_; intro a34 F34
  refine op_q F34 (.pointer (some ⟨g29, 4, none⟩)) ?_; intro a35 F35
  refine op_rq (v := .string es8[k].fMeta.fVersion) F35 (r_ld rfl (F35.e (.pointer (some ⟨g29, 4, none⟩))) (v := .string es8[k].fMeta.fVersion) ((S32.bk 0 rfl).cell 4) Try.underlying9 rfl) ?_; intro a36 F36
  refine op_cq F36 (f := 82) (args := #[.string es8[k].fMeta.fVersion]) (chNums4 es8[k].fMeta.fVersion _ _ _ S32 hzk hpk) ?_
  rintro _ w37 ⟨n037, n137, n237, rfl, S37⟩
  refine ⟨_, rfl, ?_⟩
  intro a38 F38
  refine op_q F38 (.tuple #[.agg #[.int .i64 n037, .int .i64 n137, .int .i64 n237], .bool true]) ?_; intro a39 F39
  refine op_q F39 (.agg #[.int .i64 n037, .int .i64 n137, .int .i64 n237]) ?_; intro a40 F40
  refine op_q F40 (.bool true) ?_; intro a41 F41
  refine op_sq F41 (s_newp F41 145 #[.int .i64 0, .int .i64 0, .int .i64 0] (by kernel_rfl) (by kernel_rfl) (by kernel_rfl) S37) ?_
  rintro _ _ w43 ⟨g41, rfl, rfl⟩ S43 a43 F43
  refine op_sq0 F43 (s_stb rfl (F43.e (.pointer (some ⟨g41, 0, none⟩))) (F43.e (.agg #[.int .i64 n037, .int .i64 n137, .int .i64 n237])) S43 (by kernel_rfl) rfl (by kernel_rfl)) ?_
  rintro _ _ w44 rfl S44 F44
  refine op_q F44 (.bool true) ?_; intro a45 F45
  refine wpList_nil ?_
  refine hK33 _ _ ?_; clear hK33 K33
  refine wp_seq_k fun K46 hK46 => ?_
  refine wp_region_lit ?_
  refine op_q F45 (.bool true) ?_; intro a47 F47
  refine op_q F47 (.bool true) ?_; intro a48 F48
  refine op_wq F48 ?_
  refine op_q F48 (.string v) ?_; intro a49 F49
  refine op_wq F49 ?_
  refine op_q F49 (.bool (v.toList == (⟨#[]⟩ : ByteArray).toList)) ?_; intro a50 F50
  refine op_wq F50 ?_
  refine op_q F50 (.bool (v.toList == (⟨#[]⟩ : ByteArray).toList)) ?_; intro a51 F51
  rcases btf (v.toList == (⟨#[]⟩ : ByteArray).toList) with hc52 | hc52
  ·have F53 := F51.sb 36 (by kernel_rfl) hc52
   have F54 := F53.sb 37 (by kernel_rfl) hc52
   refine op_kq F54 ?_; intro a55 F55
   refine op_kq F55 ?_; intro a56 F56
   refine op_kq F56 ?_; intro a57 F57
   refine op_kq F57 ?_; intro a58 F58
   refine op_kq F58 ?_; intro a59 F59
   refine op_wq F59 ?_
   refine op_q F59 (.bool true) ?_; intro a60 F60
   refine op_q F60 (.bool true) ?_; intro a61 F61
   refine wpList_nil ?_
   refine hK46 _ _ ?_; clear hK46 K46
   refine wp_cond_true (F61.ev (by kernel_rfl)) ?_
   refine wp_seq_k fun K62 hK62 => ?_
   refine wp_region_lit ?_
   refine op_rq (v := .agg #[.bool es8[k].fNil, .bool es8[k].fBare, .string es8[k].fMeta.fName, .string es8[k].fMeta.fHome, .string es8[k].fMeta.fVersion, .string es8[k].fMeta.fDescription, .string es8[k].fMeta.fIcon, .string es8[k].fMeta.fAPIVersion, .string es8[k].fMeta.fCondition, .string es8[k].fMeta.fTags, .string es8[k].fMeta.fAppVersion, .string es8[k].fMeta.fKubeVersion, .string es8[k].fMeta.fType, .slice es8[k].fMeta.fSources_a es8[k].fMeta.fSources.length es8[k].fMeta.fSources_c, .slice es8[k].fMeta.fKeywords_a es8[k].fMeta.fKeywords.length es8[k].fMeta.fKeywords_c, .slice es8[k].fMeta.fMaintainers_a es8[k].fMeta.fMaintainers.length es8[k].fMeta.fMaintainers_c, .slice es8[k].fMeta.fDependencies_a es8[k].fMeta.fDependencies.length es8[k].fMeta.fDependencies_c, .slice es8[k].fURLs_a es8[k].fURLs.length es8[k].fURLs_c, .string es8[k].fDigest]) F61 (r_ldm rfl (F61.e (.pointer (some ⟨g29, 0, none⟩))) (S44.bk 1 rfl) 19 (by kernel_rfl) Try.underlying69 rfl (by kernel_rfl) (v := #[.bool es8[k].fNil, .bool es8[k].fBare, .string es8[k].fMeta.fName, .string es8[k].fMeta.fHome, .string es8[k].fMeta.fVersion, .string es8[k].fMeta.fDescription, .string es8[k].fMeta.fIcon, .string es8[k].fMeta.fAPIVersion, .string es8[k].fMeta.fCondition, .string es8[k].fMeta.fTags, .string es8[k].fMeta.fAppVersion, .string es8[k].fMeta.fKubeVersion, .string es8[k].fMeta.fType, .slice es8[k].fMeta.fSources_a es8[k].fMeta.fSources.length es8[k].fMeta.fSources_c, .slice es8[k].fMeta.fKeywords_a es8[k].fMeta.fKeywords.length es8[k].fMeta.fKeywords_c, .slice es8[k].fMeta.fMaintainers_a es8[k].fMeta.fMaintainers.length es8[k].fMeta.fMaintainers_c, .slice es8[k].fMeta.fDependencies_a es8[k].fMeta.fDependencies.length es8[k].fMeta.fDependencies_c, .slice es8[k].fURLs_a es8[k].fURLs.length es8[k].fURLs_c, .string es8[k].fDigest]) (by kernel_rfl)) ?_; intro a63 F63
   refine op_sq0 F63 (s_stb rfl (F63.e (.pointer (some ⟨g1, 0, none⟩))) (F63.e (.agg #[.bool es8[k].fNil, .bool es8[k].fBare, .string es8[k].fMeta.fName, .string es8[k].fMeta.fHome, .string es8[k].fMeta.fVersion, .string es8[k].fMeta.fDescription, .string es8[k].fMeta.fIcon, .string es8[k].fMeta.fAPIVersion, .string es8[k].fMeta.fCondition, .string es8[k].fMeta.fTags, .string es8[k].fMeta.fAppVersion, .string es8[k].fMeta.fKubeVersion, .string es8[k].fMeta.fType, .slice es8[k].fMeta.fSources_a es8[k].fMeta.fSources.length es8[k].fMeta.fSources_c, .slice es8[k].fMeta.fKeywords_a es8[k].fMeta.fKeywords.length es8[k].fMeta.fKeywords_c, .slice es8[k].fMeta.fMaintainers_a es8[k].fMeta.fMaintainers.length es8[k].fMeta.fMaintainers_c, .slice es8[k].fMeta.fDependencies_a es8[k].fMeta.fDependencies.length es8[k].fMeta.fDependencies_c, .slice es8[k].fURLs_a es8[k].fURLs.length es8[k].fURLs_c, .string es8[k].fDigest])) S44.p2 (by kernel_rfl) rfl (by kernel_rfl)) ?_
   rintro _ _ w64 rfl S64 F64
   refine op_q F64 (.bool true) ?_; intro a65 F65
   refine wpList_nil ?_
   refine hK62 _ _ ?_; clear hK62 K62
   refine wp_ret ?_
   refine ret_in ?_
   refine ret_then ?_
   refine ret_then ?_
   refine ret_in ?_
   refine ret_then ?_
   refine (F65.resC (results2 Try.results53 (F65.rvc (p := ⟨g1, 0, none⟩) (by kernel_rfl) (ld_mid (S64.bk 0 rfl) 19 (by kernel_rfl) Try.underlying69 rfl (by kernel_rfl) (v := #[.bool es8[k].fNil, .bool es8[k].fBare, .string es8[k].fMeta.fName, .string es8[k].fMeta.fHome, .string es8[k].fMeta.fVersion, .string es8[k].fMeta.fDescription, .string es8[k].fMeta.fIcon, .string es8[k].fMeta.fAPIVersion, .string es8[k].fMeta.fCondition, .string es8[k].fMeta.fTags, .string es8[k].fMeta.fAppVersion, .string es8[k].fMeta.fKubeVersion, .string es8[k].fMeta.fType, .slice es8[k].fMeta.fSources_a es8[k].fMeta.fSources.length es8[k].fMeta.fSources_c, .slice es8[k].fMeta.fKeywords_a es8[k].fMeta.fKeywords.length es8[k].fMeta.fKeywords_c, .slice es8[k].fMeta.fMaintainers_a es8[k].fMeta.fMaintainers.length es8[k].fMeta.fMaintainers_c, .slice es8[k].fMeta.fDependencies_a es8[k].fMeta.fDependencies.length es8[k].fMeta.fDependencies_c, .slice es8[k].fURLs_a es8[k].fURLs.length es8[k].fURLs_c, .string es8[k].fDigest]) (by kernel_rfl))) (F65.rvt (v := .bool true) (by kernel_rfl))) ?_).1
   exact ⟨es8[k], true, rfl, S64.drop.drop.drop, (ixR_yes hAt hlt_k (gtst_emp hc52) hno)⟩
  ·have F66 := F51.sb 36 (by kernel_rfl) hc52
   have F67 := F66.sb 37 (by kernel_rfl) hc52
   refine op_wq F67 ?_
   refine op_q F67 (.pointer (some ⟨g29, 2, none⟩)) ?_; intro a68 F68
   refine op_wq F68 ?_
   refine op_q F68 (.pointer (some ⟨g29, 4, none⟩)) ?_; intro a69 F69
   refine op_wq F69 ?_
   refine op_rq (v := .string es8[k].fMeta.fVersion) F69 (r_ld rfl (F69.e (.pointer (some ⟨g29, 4, none⟩))) (v := .string es8[k].fMeta.fVersion) ((S44.bk 1 rfl).cell 4) Try.underlying9 rfl) ?_; intro a70 F70
   refine op_wq F70 ?_
   refine op_q F70 (.string v) ?_; intro a71 F71
   refine op_wq F71 ?_
   refine op_q F71 (.bool (es8[k].fMeta.fVersion.toList == v.toList)) ?_; intro a72 F72
   refine op_wq F72 ?_
   refine op_q F72 (.bool (es8[k].fMeta.fVersion.toList == v.toList)) ?_; intro a73 F73
   refine op_q F73 (.bool (es8[k].fMeta.fVersion.toList == v.toList)) ?_; intro a74 F74
   refine wpList_nil ?_
   refine hK46 _ _ ?_; clear hK46 K46
   rcases btf (es8[k].fMeta.fVersion.toList == v.toList) with hc75 | hc75
   ·have F76 := F74.sb 42 (by kernel_rfl) hc75
    have F77 := F76.sb 43 (by kernel_rfl) hc75
    have F78 := F77.sb 44 (by kernel_rfl) hc75
    refine wp_cond_true (F78.ev (by kernel_rfl)) ?_
    refine wp_seq_k fun K79 hK79 => ?_
    refine wp_region_lit ?_
    refine op_rq (v := .agg #[.bool es8[k].fNil, .bool es8[k].fBare, .string es8[k].fMeta.fName, .string es8[k].fMeta.fHome, .string es8[k].fMeta.fVersion, .string es8[k].fMeta.fDescription, .string es8[k].fMeta.fIcon, .string es8[k].fMeta.fAPIVersion, .string es8[k].fMeta.fCondition, .string es8[k].fMeta.fTags, .string es8[k].fMeta.fAppVersion, .string es8[k].fMeta.fKubeVersion, .string es8[k].fMeta.fType, .slice es8[k].fMeta.fSources_a es8[k].fMeta.fSources.length es8[k].fMeta.fSources_c, .slice es8[k].fMeta.fKeywords_a es8[k].fMeta.fKeywords.length es8[k].fMeta.fKeywords_c, .slice es8[k].fMeta.fMaintainers_a es8[k].fMeta.fMaintainers.length es8[k].fMeta.fMaintainers_c, .slice es8[k].fMeta.fDependencies_a es8[k].fMeta.fDependencies.length es8[k].fMeta.fDependencies_c, .slice es8[k].fURLs_a es8[k].fURLs.length es8[k].fURLs_c, .string es8[k].fDigest]) F78 (r_ldm rfl (F78.e (.pointer (some ⟨g29, 0, none⟩))) (S44.bk 1 rfl) 19 (by kernel_rfl) Try.underlying69 rfl (by kernel_rfl) (v := #[.bool es8[k].fNil, .bool es8[k].fBare, .string es8[k].fMeta.fName, .string es8[k].fMeta.fHome, .string es8[k].fMeta.fVersion, .string es8[k].fMeta.fDescription, .string es8[k].fMeta.fIcon, .string es8[k].fMeta.fAPIVersion, .string es8[k].fMeta.fCondition, .string es8[k].fMeta.fTags, .string es8[k].fMeta.fAppVersion, .string es8[k].fMeta.fKubeVersion, .string es8[k].fMeta.fType, .slice es8[k].fMeta.fSources_a es8[k].fMeta.fSources.length es8[k].fMeta.fSources_c, .slice es8[k].fMeta.fKeywords_a es8[k].fMeta.fKeywords.length es8[k].fMeta.fKeywords_c, .slice es8[k].fMeta.fMaintainers_a es8[k].fMeta.fMaintainers.length es8[k].fMeta.fMaintainers_c, .slice es8[k].fMeta.fDependencies_a es8[k].fMeta.fDependencies.length es8[k].fMeta.fDependencies_c, .slice es8[k].fURLs_a es8[k].fURLs.length es8[k].fURLs_c, .string es8[k].fDigest]) (by kernel_rfl)) ?_; intro a80 F80
    refine op_sq0 F80 (s_stb rfl (F80.e (.pointer (some ⟨g1, 0, none⟩))) (F80.e (.agg #[.bool es8[k].fNil, .bool es8[k].fBare, .string es8[k].fMeta.fName, .string es8[k].fMeta.fHome, .string es8[k].fMeta.fVersion, .string es8[k].fMeta.fDescription, .string es8[k].fMeta.fIcon, .string es8[k].fMeta.fAPIVersion, .string es8[k].fMeta.fCondition, .string es8[k].fMeta.fTags, .string es8[k].fMeta.fAppVersion, .string es8[k].fMeta.fKubeVersion, .string es8[k].fMeta.fType, .slice es8[k].fMeta.fSources_a es8[k].fMeta.fSources.length es8[k].fMeta.fSources_c, .slice es8[k].fMeta.fKeywords_a es8[k].fMeta.fKeywords.length es8[k].fMeta.fKeywords_c, .slice es8[k].fMeta.fMaintainers_a es8[k].fMeta.fMaintainers.length es8[k].fMeta.fMaintainers_c, .slice es8[k].fMeta.fDependencies_a es8[k].fMeta.fDependencies.length es8[k].fMeta.fDependencies_c, .slice es8[k].fURLs_a es8[k].fURLs.length es8[k].fURLs_c, .string es8[k].fDigest])) S44.p2 (by kernel_rfl) rfl (by kernel_rfl)) ?_
    rintro _ _ w81 rfl S81 F81
    refine op_q F81 (.bool true) ?_; intro a82 F82
    refine wpList_nil ?_
    refine hK79 _ _ ?_; clear hK79 K79
    refine wp_ret ?_
    refine ret_in ?_
    refine ret_then ?_
    refine ret_then ?_
    refine ret_in ?_
    refine ret_then ?_
    refine (F82.resC (results2 Try.results53 (F82.rvc (p := ⟨g1, 0, none⟩) (by kernel_rfl) (ld_mid (S81.bk 0 rfl) 19 (by kernel_rfl) Try.underlying69 rfl (by kernel_rfl) (v := #[.bool es8[k].fNil, .bool es8[k].fBare, .string es8[k].fMeta.fName, .string es8[k].fMeta.fHome, .string es8[k].fMeta.fVersion, .string es8[k].fMeta.fDescription, .string es8[k].fMeta.fIcon, .string es8[k].fMeta.fAPIVersion, .string es8[k].fMeta.fCondition, .string es8[k].fMeta.fTags, .string es8[k].fMeta.fAppVersion, .string es8[k].fMeta.fKubeVersion, .string es8[k].fMeta.fType, .slice es8[k].fMeta.fSources_a es8[k].fMeta.fSources.length es8[k].fMeta.fSources_c, .slice es8[k].fMeta.fKeywords_a es8[k].fMeta.fKeywords.length es8[k].fMeta.fKeywords_c, .slice es8[k].fMeta.fMaintainers_a es8[k].fMeta.fMaintainers.length es8[k].fMeta.fMaintainers_c, .slice es8[k].fMeta.fDependencies_a es8[k].fMeta.fDependencies.length es8[k].fMeta.fDependencies_c, .slice es8[k].fURLs_a es8[k].fURLs.length es8[k].fURLs_c, .string es8[k].fDigest]) (by kernel_rfl))) (F82.rvt (v := .bool true) (by kernel_rfl))) ?_).1
    exact ⟨es8[k], true, rfl, S81.drop.drop.drop, (ixR_yes hAt hlt_k (gtst_sw hc52 hc75) hno)⟩
   ·have F83 := F74.sb 42 (by kernel_rfl) hc75
    have F84 := F83.sb 43 (by kernel_rfl) hc75
    have F85 := F84.sb 44 (by kernel_rfl) hc75
    refine wp_cond_false (F85.ev (by kernel_rfl)) ?_
    refine wp_skip ?_
    refine hK26 _ _ ?_; clear hK26 K26
    refine wp_region_lit ?_
    refine op_rq (v := .int .i64 (↑(k + 1))) F85 (r_add (z := ↑(k + 1)) rfl (F85.e (.int .i64 (↑k))) (F85.e (.int .i64 1)) (wr64 (by omega) (by omega) (by omega))) ?_; intro a86 F86
    refine op_q F86 (.int .i64 (↑(k + 1))) ?_; intro a87 F87
    refine wpList_nil ?_
    exact hK20 _ _ _ (by first | omega | (simp; omega)) ⟨k + 1, rfl, (F87.kk 2 (F87.kk 6 (F87.kk 20 (F87.kk 21 (F87.kk 22 F87.nil))))), S44.drop.drop, (by first | omega | (with_reducible assumption) | (simp; done)), (fun j hj h => (Nat.lt_succ_iff_lt_or_eq.1 h).elim (hno j hj) (fun e => by subst e; exact gtst_sw hc52 hc75))⟩
 ·have hc_k : decide ((↑k : Int) < ↑es8.length) = false := by first | (simp; done) | (simp; omega)
  obtain rfl : k = es8.length := by omega
  refine wp_seq_k fun K88 hK88 => ?_
  refine wp_region_lit ?_
  refine op_q F20 (.bool (decide ((↑es8.length : Int) < ↑es8.length))) ?_; intro a89 F89
  have F90 := F89.sb 23 (by kernel_rfl) hc_k
  refine wpList_nil ?_
  refine hK88 _ _ ?_; clear hK88 K88
  refine wp_seq_k fun K91 hK91 => ?_
  refine wp_cond_false (F90.ev (by kernel_rfl)) ?_
  refine wp_exit ?_
  refine ex_then ?_; clear hK91 K91
  refine ex_then ?_
  refine ex_in ?_
  refine hK15 _ _ ?_; clear hK15 K15
  refine wp_seq_k fun K92 hK92 => ?_
  refine wp_region_lit ?_
  refine op_q F90 (.agg zq18) ?_; intro a93 F93
  refine op_sq0 F93 (s_stb rfl (F93.e (.pointer (some ⟨g1, 0, none⟩))) (F93.e (.agg zq18)) S20 (by kernel_rfl) rfl (by kernel_rfl)) ?_
  rintro _ _ w94 rfl S94 F94
  refine op_q F94 (.bool false) ?_; intro a95 F95
  refine wpList_nil ?_
  refine hK92 _ _ ?_; clear hK92 K92
  refine wp_ret ?_
  refine (F95.resC (results2 Try.results53 (F95.rvc (p := ⟨g1, 0, none⟩) (by kernel_rfl) (ld_mid (S94.bk 0 rfl) 19 (by kernel_rfl) Try.underlying69 rfl (by kernel_rfl) (v := zq18) (by kernel_rfl))) (F95.rvt (v := .bool false) (by kernel_rfl))) ?_).1
  exact ⟨entZ, false, rfl, S94.drop, (ixR_no hx hAt fun e he => by obtain ⟨j, hj, rfl⟩ := List.mem_iff_getElem.1 he; exact hno j hj (by omega))⟩
abbrev zq22 (x0 : Nat) (x1 : Nat) (x2 : Nat) : Array Value := #[.pointer (some ⟨x0, 0, none⟩), .pointer (some ⟨x1, 0, none⟩), .pointer (some ⟨x2, 0, none⟩)]
set_option maxRecDepth 100000 in
set_option maxHeartbeats 20000000 in
theorem indexGet_sp (nm : ByteArray) (v : ByteArray) (A : Option Addr) (c : Nat) (xs : List Ty103) (R : Ctx) (L : List SA) (w : World) (S : Sp R w (L)) (h0 : Rf R L fun w => Rows w (A) 2 (xs.map Ty103.cells)) (h1 : Rf R L fun w => ∀ x ∈ xs, NamAt w x) (hx : IdxOk xs) (hpe : ∀ x ∈ xs, ∀ e ∈ x.fVersions, PlainE e) (hvs : v.size ≤ 1000000) (hvp : (v.toList == (⟨#[]⟩ : ByteArray).toList) = true ∨ plainB v = true) (hnz : nm.size ≤ 1000000) :
  Calls Try.prog 52 #[.slice (A) (xs.length) (c), .string nm, .string v] w fun e w' => ∃ y : Ty69, ∃ has : Bool, ∃ f : Int, e = .returned (.tuple #[.agg #[.bool y.fNil, .bool y.fBare, .string y.fMeta.fName, .string y.fMeta.fHome, .string y.fMeta.fVersion, .string y.fMeta.fDescription, .string y.fMeta.fIcon, .string y.fMeta.fAPIVersion, .string y.fMeta.fCondition, .string y.fMeta.fTags, .string y.fMeta.fAppVersion, .string y.fMeta.fKubeVersion, .string y.fMeta.fType, .slice y.fMeta.fSources_a y.fMeta.fSources.length y.fMeta.fSources_c, .slice y.fMeta.fKeywords_a y.fMeta.fKeywords.length y.fMeta.fKeywords_c, .slice y.fMeta.fMaintainers_a y.fMeta.fMaintainers.length y.fMeta.fMaintainers_c, .slice y.fMeta.fDependencies_a y.fMeta.fDependencies.length y.fMeta.fDependencies_c, .slice y.fURLs_a y.fURLs.length y.fURLs_c, .string y.fDigest], .bool has, .int .i64 f]) ∧ Sp R w' (SA.ev y :: L) ∧ (IdxR nm v xs y has f) := by
 have hl_xs : xs.length ≤ 9223372036854775807 := by have := (h0 _ S).1; simpa [strs, ptrs, pps] using this
 refine fw_enterD (fn := Try.f52) rfl rfl 44 rfl (Nat.le_of_ble_eq_true rfl) ?_
 intro a0 F0
 refine wp_seq_k fun K1 hK1 => ?_
 refine wp_region_lit ?_
 refine op_sq F0 (s_newp F0 69 zq18 (by kernel_rfl) (by kernel_rfl) (by kernel_rfl) S) ?_
 rintro _ _ w3 ⟨g1, rfl, rfl⟩ S3 a3 F3
 refine op_sq F3 (s_newp F3 4 #[.bool false] (by kernel_rfl) (by kernel_rfl) (by kernel_rfl) S3) ?_
 rintro _ _ w5 ⟨g3, rfl, rfl⟩ S5 a5 F5
 refine op_sq F5 (s_newp F5 3 #[.int .i64 0] (by kernel_rfl) (by kernel_rfl) (by kernel_rfl) S5) ?_
 rintro _ _ w7 ⟨g5, rfl, rfl⟩ S7 a7 F7
 refine wpList_nil ?_
 refine hK1 _ _ ?_; clear hK1 K1
 refine wp_seq_k fun K8 hK8 => ?_
 refine wp_region_lit ?_
 refine op_q F7 (.func (.func 103) #[] (zq22 g1 g3 g5)) ?_; intro a9 F9
 refine op_defer F9 ({ target := .fn (.func 103) (zq22 g1 g3 g5), args := #[] }) (by kernel_rfl) (by kernel_rfl) rfl rfl rfl ?_; intro a10 F10
 refine wpList_nil ?_
 refine hK8 _ _ ?_; clear hK8 K8
 refine wp_seq_k fun K11 hK11 => ?_
 refine wp_region_lit ?_
 refine op_q F10 (.slice (A) (xs.length) (c)) ?_; intro a12 F12
 refine op_cq F12 (f := 104) (args := #[.slice (A) (xs.length) (c)]) (indexOf_sp A c xs _ _ _ S7 (fun w S => h0 w S.drop.drop.drop) (fun w S => h1 w S.drop.drop.drop) hx) ?_
 rintro _ w13 ⟨g13, gm13, gk13, n13, f13, vs13, rfl, S13, hp0_13⟩
 refine ⟨_, rfl, ?_⟩
 intro a14 F14
 refine op_q F14 (.tuple #[.pointer (some ⟨g13, 0, none⟩), .bool true]) ?_; intro a15 F15
 refine op_q F15 (.pointer (some ⟨g13, 0, none⟩)) ?_; intro a16 F16
 refine op_q F16 (.bool true) ?_; intro a17 F17
 refine op_q F17 (.pointer (some ⟨g13, 0, none⟩)) ?_; intro a18 F18
 refine op_q F18 (.bool true) ?_; intro a19 F19
 refine wpList_nil ?_
 refine hK11 _ _ ?_; clear hK11 K11
 refine wp_seq_k fun K20 hK20 => ?_
 refine wp_seq_k fun K21 hK21 => ?_
 refine wp_region_lit ?_
 refine op_q F19 (.bool true) ?_; intro a22 F22
 refine op_q F22 (.bool false) ?_; intro a23 F23
 refine wpList_nil ?_
 refine hK21 _ _ ?_; clear hK21 K21
 refine wp_cond_false (F23.ev (by kernel_rfl)) ?_
 refine wp_skip ?_
 refine hK20 _ _ ?_; clear hK20 K20
 refine wp_seq_k fun K24 hK24 => ?_
 by_cases hnm : ∃ (k : Nat) (h : k < xs.length), xs[k].fName = nm
 ·obtain ⟨k, hlt_k, hnk⟩ := hnm
  have hxm := List.getElem_mem hlt_k
  obtain ⟨hxs, hxl, hnb⟩ := hx.2.1 _ hxm
  have hvo := hpe _ hxm
  obtain ⟨hv_k, Sz25⟩ := Sp.zat (k := k) hlt_k S13.p2
  obtain ⟨vk, hvk⟩ : ∃ q, q = vs13[k] := ⟨_, rfl⟩
  have S26 : Sp R w13 (SA.vr vk xs[k] :: SA.zips SA.vr (vs13.take k) (xs.take k) :: SA.zips SA.vr (vs13.drop (k + 1)) (xs.drop (k + 1)) :: SA.blk g13 249 #[.string ⟨#[118, 49]⟩, .map (some gm13), .slice (some ⟨gk13, 0, none⟩) 0 0, .map none] :: SA.mpo Try.prog 9 gm13 n13 f13 :: SA.blk g5 3 #[.int .i64 0] :: SA.blk g3 4 #[.bool false] :: SA.blk g1 69 zq18 :: L) := by rw [hvk]; exact Sz25
  obtain ⟨qs, hqsl, Sv27⟩ := Sp.vr_open S26
  have hf := mapI_at (qs := qs) hp0_13 hlt_k hnk hv_k hvk hqsl
  have S28 : Sp R w13 (SA.own (.slice vk.1 qs.length vk.2) 154 1 qs.length (pps qs) :: SA.zips SA.ent qs xs[k].fVersions :: SA.zips SA.vr (vs13.take k) (xs.take k) :: SA.zips SA.vr (vs13.drop (k + 1)) (xs.drop (k + 1)) :: SA.blk g13 249 #[.string ⟨#[118, 49]⟩, .map (some gm13), .slice (some ⟨gk13, 0, none⟩) 0 0, .map none] :: SA.mpo Try.prog 9 gm13 n13 f13 :: SA.blk g5 3 #[.int .i64 0] :: SA.blk g3 4 #[.bool false] :: SA.blk g1 69 zq18 :: L) := Sv27
  refine wp_region_lit ?_
  refine op_q F23 (.pointer (some ⟨g13, 0, none⟩)) ?_; intro a29 F29
  refine op_q F29 (.pointer (some ⟨g13, 0, none⟩)) ?_; intro a30 F30
  refine op_rq (v := .agg #[.string ⟨#[118, 49]⟩, .map (some gm13), .slice (some ⟨gk13, 0, none⟩) 0 0, .map none]) F30 (r_ldm rfl (F30.e (.pointer (some ⟨g13, 0, none⟩))) (S28.bk 4 rfl) 4 (by kernel_rfl) Try.underlying249 rfl (by kernel_rfl) (v := #[.string ⟨#[118, 49]⟩, .map (some gm13), .slice (some ⟨gk13, 0, none⟩) 0 0, .map none]) (by kernel_rfl)) ?_; intro a31 F31
  refine op_q F31 (.string nm) ?_; intro a32 F32
  refine op_q F32 (.string v) ?_; intro a33 F33
  refine op_cq F33 (f := 105) (args := #[.agg #[.string ⟨#[118, 49]⟩, .map (some gm13), .slice (some ⟨gk13, 0, none⟩) 0 0, .map none], .string nm, .string v]) (ixHas_some gm13 n13 f13 ⟨#[118, 49]⟩ (.slice (some ⟨gk13, 0, none⟩) 0 0) (.map none) nm v vk.1 vk.2 qs xs[k].fVersions _ _ _ ((S28.p1).p5) (fun w S => own_sl1 (S.ow 0 rfl) (by first | omega | (simp; omega))) hf (by first | omega | (simp; done) | (simp; omega)) hnb hvo (by first | omega | (simp; done) | (simp; omega)) hvp) ?_
  rintro _ w34 ⟨q34, b34, rfl, S34, hp0_34⟩
  refine ⟨_, rfl, ?_⟩
  intro a35 F35
  refine op_sq0 F35 (s_st rfl (F35.e (.pointer (some ⟨g3, 0, none⟩))) (F35.e (.bool (!b34))) S34.p7 (by kernel_rfl) rfl rfl rfl (cs := #[.bool (!b34)]) (by kernel_rfl)) ?_
  rintro _ _ w36 rfl S36 F36
  refine wpList_nil ?_
  refine hK24 _ _ ?_; clear hK24 K24
  refine wp_seq_k fun K37 hK37 => ?_
  refine wp_region_lit ?_
  refine op_q F36 (.pointer (some ⟨g13, 0, none⟩)) ?_; intro a38 F38
  refine op_q F38 (.pointer (some ⟨g13, 0, none⟩)) ?_; intro a39 F39
  refine op_rq (v := .agg #[.string ⟨#[118, 49]⟩, .map (some gm13), .slice (some ⟨gk13, 0, none⟩) 0 0, .map none]) F39 (r_ldm rfl (F39.e (.pointer (some ⟨g13, 0, none⟩))) (S36.bk 6 rfl) 4 (by kernel_rfl) Try.underlying249 rfl (by kernel_rfl) (v := #[.string ⟨#[118, 49]⟩, .map (some gm13), .slice (some ⟨gk13, 0, none⟩) 0 0, .map none]) (by kernel_rfl)) ?_; intro a40 F40
  refine op_q F40 (.string nm) ?_; intro a41 F41
  refine op_q F41 (.string v) ?_; intro a42 F42
  refine op_cq F42 (f := 106) (args := #[.agg #[.string ⟨#[118, 49]⟩, .map (some gm13), .slice (some ⟨gk13, 0, none⟩) 0 0, .map none], .string nm, .string v]) (ixGet_some gm13 n13 f13 ⟨#[118, 49]⟩ (.slice (some ⟨gk13, 0, none⟩) 0 0) (.map none) nm v vk.1 vk.2 qs xs[k].fVersions _ _ _ ((S36.p2).p2) (fun w S => own_sl1 (S.ow 1 rfl) (by first | omega | (simp; omega))) hf (by first | omega | (simp; done) | (simp; omega)) hnb hvo (by first | omega | (simp; done) | (simp; omega)) hvp) ?_
  rintro _ w43 ⟨q43, b43, t43, ev43, rfl, S43, hp0_43⟩
  refine ⟨_, rfl, ?_⟩
  intro a44 F44
  refine op_q F44 (.tuple #[.pointer q43, gerV b43 t43 ev43]) ?_; intro a45 F45
  refine op_q F45 (.pointer q43) ?_; intro a46 F46
  refine op_q F46 (gerV b43 t43 ev43) ?_; intro a47 F47
  refine op_q F47 (.pointer q43) ?_; intro a48 F48
  refine op_q F48 (gerV b43 t43 ev43) ?_; intro a49 F49
  refine wpList_nil ?_
  refine hK37 _ _ ?_; clear hK37 K37
  refine wp_seq_k fun K50 hK50 => ?_
  refine wp_seq_k fun K51 hK51 => ?_
  obtain rfl := getR_b hp0_34 hp0_43
  refine wp_region_lit ?_
  refine op_q F49 (gerV b34 t43 ev43) ?_; intro a52 F52
  refine op_rq (v := .bool b34) F52 (r_gerne rfl (F52.e (gerV b34 t43 ev43))) ?_; intro a53 F53
  refine wpList_nil ?_
  refine hK51 _ _ ?_; clear hK51 K51
  rcases btf (b34) with hc54 | hc54
  ·have hall := getR_t hp0_43 hc54
   have F55 := F53.sb 38 (by kernel_rfl) hc54
   refine wp_cond_true (F55.ev (by kernel_rfl)) ?_
   refine wp_seq_k fun K56 hK56 => ?_
   refine wp_region_sepF (L0 := SA.mpo Try.prog 9 gm13 n13 f13 :: SA.zips SA.ent qs xs[k].fVersions :: SA.blk g3 4 #[.bool (!b34)] :: SA.own (.slice vk.1 qs.length vk.2) 154 1 qs.length (pps qs) :: SA.zips SA.vr (vs13.take k) (xs.take k) :: SA.zips SA.vr (vs13.drop (k + 1)) (xs.drop (k + 1)) :: SA.blk g13 249 #[.string ⟨#[118, 49]⟩, .map (some gm13), .slice (some ⟨gk13, 0, none⟩) 0 0, .map none] :: L) [some [], some [], some [(0, 39)], some [(1, 40)], some []] [.v 39 (.agg zq18), .v 40 (.bool (!b34)), .n (SA.blk g1 69 zq18) (fun _ _ AA => AA = SA.blk g1 69 zq18), .n (SA.emp) (fun _ _ AA => AA = SA.emp), .n (SA.blk g5 3 #[.int .i64 0]) (fun _ _ AA => AA = SA.blk g5 3 #[.int .i64 1])] [] F55 rfl (by kernel_rfl) (((((S43.p7).p8).p1).emp).p2) ?_ ?_
   ·refine ⟨?_, ?_, ?_, ?_, ?_, trivial⟩
    ·intro w64 M64
     intro a64 F64 S64
     refine obl_of (by rfl) ?_
     exact s_p F64 (v := .agg zq18) (by kernel_rfl) (by kernel_rfl) (by kernel_rfl) S64
    ·intro w65 M65
     intro a65 F65 S65
     refine obl_of (by rfl) ?_
     exact s_r (v := .bool (!b34)) (r_ld rfl (F65.e (.pointer (some ⟨g3, 0, none⟩))) (v := .bool (!b34)) (((Sp.dropM S65.drop).bk 2 rfl).cell 0) Try.underlying4 rfl) S65
    ·intro w66 M66
     intro a66 F66 S66
     refine obl_of (by rfl) ?_
     exact s_stb rfl (F66.e (.pointer (some ⟨g1, 0, none⟩))) (F66.e (.agg zq18)) S66 (by kernel_rfl) rfl (by kernel_rfl)
    ·intro w68 M68
     intro a68 F68 S68
     refine obl_of (by rfl) ?_
     exact s_st_same rfl (F68.e (.pointer (some ⟨g3, 0, none⟩))) (F68.e (.bool (!b34))) ((Sp.dropM S68.drop).bk 2 rfl) S68 (by kernel_rfl) rfl rfl rfl (by kernel_rfl)
    ·intro w70 M70
     intro a70 F70 S70
     refine obl_of (by rfl) ?_
     exact s_st rfl (F70.e (.pointer (some ⟨g5, 0, none⟩))) (F70.e (.int .i64 1)) S70 (by kernel_rfl) rfl rfl rfl (cs := #[.int .i64 1]) (by kernel_rfl)
   ·rintro _ _ rfl
    rintro _ _ rfl
    rintro _ _ rfl
    intro a72 w71 F72 S71
    have S73 : Sp R w71 (SA.blk g5 3 #[.int .i64 1] :: SA.blk g1 69 zq18 :: SA.mpo Try.prog 9 gm13 n13 f13 :: SA.zips SA.ent qs xs[k].fVersions :: SA.blk g3 4 #[.bool (!b34)] :: SA.own (.slice vk.1 qs.length vk.2) 154 1 qs.length (pps qs) :: SA.zips SA.vr (vs13.take k) (xs.take k) :: SA.zips SA.vr (vs13.drop (k + 1)) (xs.drop (k + 1)) :: SA.blk g13 249 #[.string ⟨#[118, 49]⟩, .map (some gm13), .slice (some ⟨gk13, 0, none⟩) 0 0, .map none] :: L) := S71.p1.drop
    refine wpList_nil ?_
    refine hK56 _ _ ?_; clear hK56 K56
    refine wp_ret ?_
    refine ret_then ?_
    have S74 : Sp R w71 (SA.ev entZ :: SA.blk g5 3 #[.int .i64 1] :: SA.blk g1 69 zq18 :: SA.mpo Try.prog 9 gm13 n13 f13 :: SA.zips SA.ent qs xs[k].fVersions :: SA.blk g3 4 #[.bool (!b34)] :: SA.own (.slice vk.1 qs.length vk.2) 154 1 qs.length (pps qs) :: SA.zips SA.vr (vs13.take k) (xs.take k) :: SA.zips SA.vr (vs13.drop (k + 1)) (xs.drop (k + 1)) :: SA.blk g13 249 #[.string ⟨#[118, 49]⟩, .map (some gm13), .slice (some ⟨gk13, 0, none⟩) 0 0, .map none] :: L) := Sp.evZ S73
    refine (F72.leaveD (f := 103) (args := (zq22 g1 g3 g5)) (by simp [go_sem]) (catch103 g1 g3 g5 _) (results3 Try.results52 (F72.rvc (p := ⟨g1, 0, none⟩) (by kernel_rfl) (ld_mid (S73.bk 1 rfl) 19 (by kernel_rfl) Try.underlying69 rfl (by kernel_rfl) (v := zq18) (by kernel_rfl))) (F72.rvc (p := ⟨g3, 0, none⟩) (by kernel_rfl) (load_one _ _ _ (.bool (!b34)) ((S73.bk 4 rfl).cell 0) _ Try.underlying4 rfl)) (F72.rvc (p := ⟨g5, 0, none⟩) (by kernel_rfl) (load_one _ _ _ (.int .i64 1) ((S73.bk 0 rfl).cell 0) _ Try.underlying3 rfl))) ?_).1
    exact ⟨entZ, (!b34), 1, rfl, S74.p1.drop.p1.drop.p1.drop.p1.drop.p1.drop.p1.drop.p1.drop.p1.drop.p1.drop, (.inl ⟨by rw [hc54]; rfl, rfl, fun k' hk' hn' => by obtain rfl := idx_one hx hk' hlt_k (hn'.trans hnk.symm); exact hall⟩)⟩
  ·obtain ⟨j, hlt_j2, hlt_j, hvt, hvn, hqv⟩ := getR_f hp0_43 hc54
   obtain ⟨hen, heb, heu, hef, het⟩ := hnb _ (List.getElem_mem hlt_j2)
   obtain ⟨hef1, hef2, hef3, hef4⟩ := mfits_len hef
   obtain ⟨hv_j, Sz75⟩ := Sp.zat (k := j) hlt_j2 S43.p1
   obtain ⟨qj, hqj⟩ : ∃ q, q = qs[j] := ⟨_, rfl⟩
   have S76 : Sp R w43 (SA.ent qj xs[k].fVersions[j] :: SA.zips SA.ent (qs.take j) (xs[k].fVersions.take j) :: SA.zips SA.ent (qs.drop (j + 1)) (xs[k].fVersions.drop (j + 1)) :: SA.mpo Try.prog 9 gm13 n13 f13 :: SA.blk g3 4 #[.bool (!b34)] :: SA.own (.slice vk.1 qs.length vk.2) 154 1 qs.length (pps qs) :: SA.zips SA.vr (vs13.take k) (xs.take k) :: SA.zips SA.vr (vs13.drop (k + 1)) (xs.drop (k + 1)) :: SA.blk g13 249 #[.string ⟨#[118, 49]⟩, .map (some gm13), .slice (some ⟨gk13, 0, none⟩) 0 0, .map none] :: SA.blk g5 3 #[.int .i64 0] :: SA.blk g1 69 zq18 :: L) := by rw [hqj]; exact Sz75
   have hqq : q43 = qj := by rw [hqv, hqj]
   obtain ⟨ge, gme, Ae, ce, hqj2, Se77⟩ := Sp.ent_open hen heb S76
   rw [hqj2] at hqq
   subst hqq
   have S78 : Sp R w43 (SA.blk ge 229 #[.pointer (some ⟨gme, 0, none⟩), .slice Ae (xs[k].fVersions[j].fURLs.length) ce, .bool false, .string (xs[k].fVersions[j].fDigest), .string ⟨#[]⟩, .string ⟨#[]⟩, .string ⟨#[]⟩, .string ⟨#[]⟩] :: SA.own0 (.slice Ae xs[k].fVersions[j].fURLs.length ce) 9 1 (xs[k].fVersions[j].fURLs.length) (strs xs[k].fVersions[j].fURLs) :: SA.met gme xs[k].fVersions[j].fMeta :: SA.zips SA.ent (qs.take j) (xs[k].fVersions.take j) :: SA.zips SA.ent (qs.drop (j + 1)) (xs[k].fVersions.drop (j + 1)) :: SA.mpo Try.prog 9 gm13 n13 f13 :: SA.blk g3 4 #[.bool (!b34)] :: SA.own (.slice vk.1 qs.length vk.2) 154 1 qs.length (pps qs) :: SA.zips SA.vr (vs13.take k) (xs.take k) :: SA.zips SA.vr (vs13.drop (k + 1)) (xs.drop (k + 1)) :: SA.blk g13 249 #[.string ⟨#[118, 49]⟩, .map (some gm13), .slice (some ⟨gk13, 0, none⟩) 0 0, .map none] :: SA.blk g5 3 #[.int .i64 0] :: SA.blk g1 69 zq18 :: L) := Se77
   have F79 := F53.sb 38 (by kernel_rfl) hc54
   refine wp_cond_false (F79.ev (by kernel_rfl)) ?_
   refine wp_skip ?_
   refine hK50 _ _ ?_; clear hK50 K50
   refine wp_seq_k fun K80 hK80 => ?_
   refine wp_region_sepF (L0 := SA.blk ge 229 #[.pointer (some ⟨gme, 0, none⟩), .slice Ae (xs[k].fVersions[j].fURLs.length) ce, .bool false, .string (xs[k].fVersions[j].fDigest), .string ⟨#[]⟩, .string ⟨#[]⟩, .string ⟨#[]⟩, .string ⟨#[]⟩] :: SA.own0 (.slice Ae xs[k].fVersions[j].fURLs.length ce) 9 1 (xs[k].fVersions[j].fURLs.length) (strs xs[k].fVersions[j].fURLs) :: SA.zips SA.ent (qs.take j) (xs[k].fVersions.take j) :: SA.zips SA.ent (qs.drop (j + 1)) (xs[k].fVersions.drop (j + 1)) :: SA.mpo Try.prog 9 gm13 n13 f13 :: SA.blk g3 4 #[.bool (!b34)] :: SA.own (.slice vk.1 qs.length vk.2) 154 1 qs.length (pps qs) :: SA.zips SA.vr (vs13.take k) (xs.take k) :: SA.zips SA.vr (vs13.drop (k + 1)) (xs.drop (k + 1)) :: SA.blk g13 249 #[.string ⟨#[118, 49]⟩, .map (some gm13), .slice (some ⟨gk13, 0, none⟩) 0 0, .map none] :: SA.blk g5 3 #[.int .i64 0] :: L) [some [], some [(0, 41)], some [], some [(0, 41), (1, 42)], some [(2, 43)], some []] [.v 41 (.pointer (some ⟨ge, 0, none⟩)), .p 42 (SA.met gme xs[k].fVersions[j].fMeta) (fun _ vv AA => ∃ B195 : Option Addr, ∃ b195 : Nat, ∃ B295 : Option Addr, ∃ b295 : Nat, ∃ B395 : Option Addr, ∃ b395 : Nat, ∃ B495 : Option Addr, ∃ b495 : Nat, ∃ B595 : Option Addr, ∃ b595 : Nat, vv = .agg #[.bool false, .bool false, .string ((xs[k].fVersions[j]).fMeta.fName), .string ((xs[k].fVersions[j]).fMeta.fHome), .string ((xs[k].fVersions[j]).fMeta.fVersion), .string ((xs[k].fVersions[j]).fMeta.fDescription), .string ((xs[k].fVersions[j]).fMeta.fIcon), .string ((xs[k].fVersions[j]).fMeta.fAPIVersion), .string ((xs[k].fVersions[j]).fMeta.fCondition), .string ((xs[k].fVersions[j]).fMeta.fTags), .string ((xs[k].fVersions[j]).fMeta.fAppVersion), .string ((xs[k].fVersions[j]).fMeta.fKubeVersion), .string ((xs[k].fVersions[j]).fMeta.fType), .slice B195 ((xs[k].fVersions[j]).fMeta.fSources.length) b195, .slice B295 ((xs[k].fVersions[j]).fMeta.fKeywords.length) b295, .slice B395 ((xs[k].fVersions[j]).fMeta.fMaintainers.length) b395, .slice B495 ((xs[k].fVersions[j]).fMeta.fDependencies.length) b495, .slice B595 ((xs[k].fVersions[j]).fURLs.length) b595, .string ((xs[k].fVersions[j]).fDigest)] ∧ AA = SA.stars [SA.mvx (xs[k].fVersions[j]).fMeta B195 b195 B295 b295 B395 b395 B495 b495, SA.own0 (.slice B595 (xs[k].fVersions[j]).fURLs.length b595) 9 1 ((xs[k].fVersions[j]).fURLs.length) (strs (xs[k].fVersions[j]).fURLs), SA.met gme (xs[k].fVersions[j]).fMeta]), .v 43 (.bool (!b34)), .n (SA.blk g1 69 zq18) (fun env _ AA => ∃ B195x : Option Addr, ∃ b195x : Nat, ∃ B295x : Option Addr, ∃ b295x : Nat, ∃ B395x : Option Addr, ∃ b395x : Nat, ∃ B495x : Option Addr, ∃ b495x : Nat, ∃ B595x : Option Addr, ∃ b595x : Nat, (env.getD 1 undef) = .agg #[.bool false, .bool false, .string ((xs[k].fVersions[j]).fMeta.fName), .string ((xs[k].fVersions[j]).fMeta.fHome), .string ((xs[k].fVersions[j]).fMeta.fVersion), .string ((xs[k].fVersions[j]).fMeta.fDescription), .string ((xs[k].fVersions[j]).fMeta.fIcon), .string ((xs[k].fVersions[j]).fMeta.fAPIVersion), .string ((xs[k].fVersions[j]).fMeta.fCondition), .string ((xs[k].fVersions[j]).fMeta.fTags), .string ((xs[k].fVersions[j]).fMeta.fAppVersion), .string ((xs[k].fVersions[j]).fMeta.fKubeVersion), .string ((xs[k].fVersions[j]).fMeta.fType), .slice B195x ((xs[k].fVersions[j]).fMeta.fSources.length) b195x, .slice B295x ((xs[k].fVersions[j]).fMeta.fKeywords.length) b295x, .slice B395x ((xs[k].fVersions[j]).fMeta.fMaintainers.length) b395x, .slice B495x ((xs[k].fVersions[j]).fMeta.fDependencies.length) b495x, .slice B595x ((xs[k].fVersions[j]).fURLs.length) b595x, .string ((xs[k].fVersions[j]).fDigest)] ∧ AA = SA.blk g1 69 #[.bool false, .bool false, .string ((xs[k].fVersions[j]).fMeta.fName), .string ((xs[k].fVersions[j]).fMeta.fHome), .string ((xs[k].fVersions[j]).fMeta.fVersion), .string ((xs[k].fVersions[j]).fMeta.fDescription), .string ((xs[k].fVersions[j]).fMeta.fIcon), .string ((xs[k].fVersions[j]).fMeta.fAPIVersion), .string ((xs[k].fVersions[j]).fMeta.fCondition), .string ((xs[k].fVersions[j]).fMeta.fTags), .string ((xs[k].fVersions[j]).fMeta.fAppVersion), .string ((xs[k].fVersions[j]).fMeta.fKubeVersion), .string ((xs[k].fVersions[j]).fMeta.fType), .slice B195x ((xs[k].fVersions[j]).fMeta.fSources.length) b195x, .slice B295x ((xs[k].fVersions[j]).fMeta.fKeywords.length) b295x, .slice B395x ((xs[k].fVersions[j]).fMeta.fMaintainers.length) b395x, .slice B495x ((xs[k].fVersions[j]).fMeta.fDependencies.length) b495x, .slice B595x ((xs[k].fVersions[j]).fURLs.length) b595x, .string ((xs[k].fVersions[j]).fDigest)]), .n (SA.emp) (fun _ _ AA => AA = SA.emp), .n (SA.emp) (fun _ _ AA => AA = SA.emp)] [] F79 rfl (by kernel_rfl) ((((((S78.p12).p3).emp).emp).p3).p3) ?_ ?_
   ·refine ⟨?_, ?_, ?_, ?_, ?_, ?_, trivial⟩
    ·intro w92 M92
     intro a92 F92 S92
     refine obl_of (by rfl) ?_
     exact s_p F92 (v := .pointer (some ⟨ge, 0, none⟩)) (by kernel_rfl) (by kernel_rfl) (by kernel_rfl) S92
    ·intro w93 M93
     intro a93 F93 S93
     refine obl_of (by rfl) ?_
     refine s_c F93 (f := 87) (args := #[.pointer (some ⟨ge, 0, none⟩)]) (by kernel_rfl) (by kernel_rfl) (by kernel_rfl) (entryTold_sp (xs[k].fVersions[j]) ge gme Ae ce _ _ _ S93 (fun w S => (Sp.dropM S).bk 0 rfl) (fun w S => own0_sl1 ((Sp.dropM S).ow0 1 rfl) (by first | omega | (simp; omega))) (by first | omega | (simp; done) | (simp; omega)) (by first | omega | (simp; done) | (simp; omega)) (by first | omega | (simp; done) | (simp; omega)) (by first | omega | (simp; done) | (simp; omega)) (by first | omega | (simp; done) | (simp; omega)) (by first | omega | (simp; done) | (simp; omega))) ?_
     rintro _ _ ⟨B195, b195, B295, b295, B395, b395, B495, b495, B595, b595, rfl, S95⟩
     exact ⟨_, _, rfl, ⟨B195, b195, B295, b295, B395, b395, B495, b495, B595, b595, rfl, rfl⟩, Sp.stars.2 S95⟩
    ·intro w96 M96
     intro a96 F96 S96
     refine obl_of (by rfl) ?_
     exact s_r (v := .bool (!b34)) (r_ld rfl (F96.e (.pointer (some ⟨g3, 0, none⟩))) (v := .bool (!b34)) (((Sp.dropM S96.drop).bk 5 rfl).cell 0) Try.underlying4 rfl) S96
    ·intro w97 M97
     rintro _ _ ⟨B195, b195, B295, b295, B395, b395, B495, b495, B595, b595, rfl, rfl⟩ hA99
     intro a97 F97 S97
     refine obl_of (by rfl) ?_
     exact sAt_mono (s_stb rfl (F97.e (.pointer (some ⟨g1, 0, none⟩))) (F97.e (.agg #[.bool false, .bool false, .string ((xs[k].fVersions[j]).fMeta.fName), .string ((xs[k].fVersions[j]).fMeta.fHome), .string ((xs[k].fVersions[j]).fMeta.fVersion), .string ((xs[k].fVersions[j]).fMeta.fDescription), .string ((xs[k].fVersions[j]).fMeta.fIcon), .string ((xs[k].fVersions[j]).fMeta.fAPIVersion), .string ((xs[k].fVersions[j]).fMeta.fCondition), .string ((xs[k].fVersions[j]).fMeta.fTags), .string ((xs[k].fVersions[j]).fMeta.fAppVersion), .string ((xs[k].fVersions[j]).fMeta.fKubeVersion), .string ((xs[k].fVersions[j]).fMeta.fType), .slice B195 ((xs[k].fVersions[j]).fMeta.fSources.length) b195, .slice B295 ((xs[k].fVersions[j]).fMeta.fKeywords.length) b295, .slice B395 ((xs[k].fVersions[j]).fMeta.fMaintainers.length) b395, .slice B495 ((xs[k].fVersions[j]).fMeta.fDependencies.length) b495, .slice B595 ((xs[k].fVersions[j]).fURLs.length) b595, .string ((xs[k].fVersions[j]).fDigest)])) S97 (by kernel_rfl) rfl (by kernel_rfl)) fun _ _ e1 => ⟨B195, b195, B295, b295, B395, b395, B495, b495, B595, b595, (by kernel_rfl), e1⟩
    ·intro w100 M100
     intro a100 F100 S100
     refine obl_of (by rfl) ?_
     exact s_st_same rfl (F100.e (.pointer (some ⟨g3, 0, none⟩))) (F100.e (.bool (!b34))) ((Sp.dropM S100.drop).bk 5 rfl) S100 (by kernel_rfl) rfl rfl rfl (by kernel_rfl)
    ·intro w102 M102
     intro a102 F102 S102
     refine obl_of (by rfl) ?_
     exact s_st_same rfl (F102.e (.pointer (some ⟨g5, 0, none⟩))) (F102.e (.int .i64 0)) ((Sp.dropM S102.drop).bk 10 rfl) S102 (by kernel_rfl) rfl rfl rfl (by kernel_rfl)
   ·rintro _ _ ⟨B195, b195, B295, b295, B395, b395, B495, b495, B595, b595, rfl, rfl⟩
    rintro _ _ ⟨B195x, b195x, B295x, b295x, B395x, b395x, B495x, b495x, B595x, b595x, e3_1, rfl⟩
    have e3_1 := envE_at (v := .agg #[.bool false, .bool false, .string ((xs[k].fVersions[j]).fMeta.fName), .string ((xs[k].fVersions[j]).fMeta.fHome), .string ((xs[k].fVersions[j]).fMeta.fVersion), .string ((xs[k].fVersions[j]).fMeta.fDescription), .string ((xs[k].fVersions[j]).fMeta.fIcon), .string ((xs[k].fVersions[j]).fMeta.fAPIVersion), .string ((xs[k].fVersions[j]).fMeta.fCondition), .string ((xs[k].fVersions[j]).fMeta.fTags), .string ((xs[k].fVersions[j]).fMeta.fAppVersion), .string ((xs[k].fVersions[j]).fMeta.fKubeVersion), .string ((xs[k].fVersions[j]).fMeta.fType), .slice B195 ((xs[k].fVersions[j]).fMeta.fSources.length) b195, .slice B295 ((xs[k].fVersions[j]).fMeta.fKeywords.length) b295, .slice B395 ((xs[k].fVersions[j]).fMeta.fMaintainers.length) b395, .slice B495 ((xs[k].fVersions[j]).fMeta.fDependencies.length) b495, .slice B595 ((xs[k].fVersions[j]).fURLs.length) b595, .string ((xs[k].fVersions[j]).fDigest)]) e3_1 (by kernel_rfl)
    obtain ⟨rfl, rfl, rfl, rfl, rfl, rfl, rfl, rfl, rfl, rfl⟩ : B195 = B195x ∧ b195 = b195x ∧ B295 = B295x ∧ b295 = b295x ∧ B395 = B395x ∧ b395 = b395x ∧ B495 = B495x ∧ b495 = b495x ∧ B595 = B595x ∧ b595 = b595x := by cases e3_1; exact ⟨rfl, rfl, rfl, rfl, rfl, rfl, rfl, rfl, rfl, rfl⟩
    clear e3_1
    rintro _ _ rfl
    rintro _ _ rfl
    intro a104 w103 F104 S103
    have S105 : Sp R w103 (SA.blk g1 69 #[.bool false, .bool false, .string ((xs[k].fVersions[j]).fMeta.fName), .string ((xs[k].fVersions[j]).fMeta.fHome), .string ((xs[k].fVersions[j]).fMeta.fVersion), .string ((xs[k].fVersions[j]).fMeta.fDescription), .string ((xs[k].fVersions[j]).fMeta.fIcon), .string ((xs[k].fVersions[j]).fMeta.fAPIVersion), .string ((xs[k].fVersions[j]).fMeta.fCondition), .string ((xs[k].fVersions[j]).fMeta.fTags), .string ((xs[k].fVersions[j]).fMeta.fAppVersion), .string ((xs[k].fVersions[j]).fMeta.fKubeVersion), .string ((xs[k].fVersions[j]).fMeta.fType), .slice B195 ((xs[k].fVersions[j]).fMeta.fSources.length) b195, .slice B295 ((xs[k].fVersions[j]).fMeta.fKeywords.length) b295, .slice B395 ((xs[k].fVersions[j]).fMeta.fMaintainers.length) b395, .slice B495 ((xs[k].fVersions[j]).fMeta.fDependencies.length) b495, .slice B595 ((xs[k].fVersions[j]).fURLs.length) b595, .string ((xs[k].fVersions[j]).fDigest)] :: SA.stars [SA.mvx (xs[k].fVersions[j]).fMeta B195 b195 B295 b295 B395 b395 B495 b495, SA.own0 (.slice B595 (xs[k].fVersions[j]).fURLs.length b595) 9 1 ((xs[k].fVersions[j]).fURLs.length) (strs (xs[k].fVersions[j]).fURLs), SA.met gme (xs[k].fVersions[j]).fMeta] :: SA.blk ge 229 #[.pointer (some ⟨gme, 0, none⟩), .slice Ae (xs[k].fVersions[j].fURLs.length) ce, .bool false, .string (xs[k].fVersions[j].fDigest), .string ⟨#[]⟩, .string ⟨#[]⟩, .string ⟨#[]⟩, .string ⟨#[]⟩] :: SA.own0 (.slice Ae xs[k].fVersions[j].fURLs.length ce) 9 1 (xs[k].fVersions[j].fURLs.length) (strs xs[k].fVersions[j].fURLs) :: SA.zips SA.ent (qs.take j) (xs[k].fVersions.take j) :: SA.zips SA.ent (qs.drop (j + 1)) (xs[k].fVersions.drop (j + 1)) :: SA.mpo Try.prog 9 gm13 n13 f13 :: SA.blk g3 4 #[.bool (!b34)] :: SA.own (.slice vk.1 qs.length vk.2) 154 1 qs.length (pps qs) :: SA.zips SA.vr (vs13.take k) (xs.take k) :: SA.zips SA.vr (vs13.drop (k + 1)) (xs.drop (k + 1)) :: SA.blk g13 249 #[.string ⟨#[118, 49]⟩, .map (some gm13), .slice (some ⟨gk13, 0, none⟩) 0 0, .map none] :: SA.blk g5 3 #[.int .i64 0] :: L) := S103.drop.drop
    have S106 := Sp.stars.1 (S105.p1)
    refine wpList_nil ?_
    refine hK80 _ _ ?_; clear hK80 K80
    refine wp_ret ?_
    obtain ⟨y0, hy0, Sy107, hyS⟩ := Sp.mvx_open S106.p1.p1
    have S108 : Sp R w103 (SA.ev { fNil := false, fBare := false, fMeta := y0, fURLs_a := B595, fURLs_c := b595, fURLs := xs[k].fVersions[j].fURLs, fDigest := xs[k].fVersions[j].fDigest } :: SA.met gme (xs[k].fVersions[j]).fMeta :: SA.blk g1 69 #[.bool false, .bool false, .string ((xs[k].fVersions[j]).fMeta.fName), .string ((xs[k].fVersions[j]).fMeta.fHome), .string ((xs[k].fVersions[j]).fMeta.fVersion), .string ((xs[k].fVersions[j]).fMeta.fDescription), .string ((xs[k].fVersions[j]).fMeta.fIcon), .string ((xs[k].fVersions[j]).fMeta.fAPIVersion), .string ((xs[k].fVersions[j]).fMeta.fCondition), .string ((xs[k].fVersions[j]).fMeta.fTags), .string ((xs[k].fVersions[j]).fMeta.fAppVersion), .string ((xs[k].fVersions[j]).fMeta.fKubeVersion), .string ((xs[k].fVersions[j]).fMeta.fType), .slice B195 ((xs[k].fVersions[j]).fMeta.fSources.length) b195, .slice B295 ((xs[k].fVersions[j]).fMeta.fKeywords.length) b295, .slice B395 ((xs[k].fVersions[j]).fMeta.fMaintainers.length) b395, .slice B495 ((xs[k].fVersions[j]).fMeta.fDependencies.length) b495, .slice B595 ((xs[k].fVersions[j]).fURLs.length) b595, .string ((xs[k].fVersions[j]).fDigest)] :: SA.blk ge 229 #[.pointer (some ⟨gme, 0, none⟩), .slice Ae (xs[k].fVersions[j].fURLs.length) ce, .bool false, .string (xs[k].fVersions[j].fDigest), .string ⟨#[]⟩, .string ⟨#[]⟩, .string ⟨#[]⟩, .string ⟨#[]⟩] :: SA.own0 (.slice Ae xs[k].fVersions[j].fURLs.length ce) 9 1 (xs[k].fVersions[j].fURLs.length) (strs xs[k].fVersions[j].fURLs) :: SA.zips SA.ent (qs.take j) (xs[k].fVersions.take j) :: SA.zips SA.ent (qs.drop (j + 1)) (xs[k].fVersions.drop (j + 1)) :: SA.mpo Try.prog 9 gm13 n13 f13 :: SA.blk g3 4 #[.bool (!b34)] :: SA.own (.slice vk.1 qs.length vk.2) 154 1 qs.length (pps qs) :: SA.zips SA.vr (vs13.take k) (xs.take k) :: SA.zips SA.vr (vs13.drop (k + 1)) (xs.drop (k + 1)) :: SA.blk g13 249 #[.string ⟨#[118, 49]⟩, .map (some gm13), .slice (some ⟨gk13, 0, none⟩) 0 0, .map none] :: SA.blk g5 3 #[.int .i64 0] :: L) := Sp.ev_mk Sy107
    refine (F104.leaveD (f := 103) (args := (zq22 g1 g3 g5)) (by simp [go_sem]) (catch103 g1 g3 g5 _) (results3 Try.results52 (F104.rvc (p := ⟨g1, 0, none⟩) (by kernel_rfl) (ld_mid (S106.bk 3 rfl) 19 (by kernel_rfl) Try.underlying69 rfl (by kernel_rfl) (v := #[.bool false, .bool false, .string ((xs[k].fVersions[j]).fMeta.fName), .string ((xs[k].fVersions[j]).fMeta.fHome), .string ((xs[k].fVersions[j]).fMeta.fVersion), .string ((xs[k].fVersions[j]).fMeta.fDescription), .string ((xs[k].fVersions[j]).fMeta.fIcon), .string ((xs[k].fVersions[j]).fMeta.fAPIVersion), .string ((xs[k].fVersions[j]).fMeta.fCondition), .string ((xs[k].fVersions[j]).fMeta.fTags), .string ((xs[k].fVersions[j]).fMeta.fAppVersion), .string ((xs[k].fVersions[j]).fMeta.fKubeVersion), .string ((xs[k].fVersions[j]).fMeta.fType), .slice B195 ((xs[k].fVersions[j]).fMeta.fSources.length) b195, .slice B295 ((xs[k].fVersions[j]).fMeta.fKeywords.length) b295, .slice B395 ((xs[k].fVersions[j]).fMeta.fMaintainers.length) b395, .slice B495 ((xs[k].fVersions[j]).fMeta.fDependencies.length) b495, .slice B595 ((xs[k].fVersions[j]).fURLs.length) b595, .string ((xs[k].fVersions[j]).fDigest)]) (by kernel_rfl))) (F104.rvc (p := ⟨g3, 0, none⟩) (by kernel_rfl) (load_one _ _ _ (.bool (!b34)) ((S106.bk 9 rfl).cell 0) _ Try.underlying4 rfl)) (F104.rvc (p := ⟨g5, 0, none⟩) (by kernel_rfl) (load_one _ _ _ (.int .i64 0) ((S106.bk 14 rfl).cell 0) _ Try.underlying3 rfl))) ?_).1
    exact ⟨{ fNil := false, fBare := false, fMeta := y0, fURLs_a := B595, fURLs_c := b595, fURLs := xs[k].fVersions[j].fURLs, fDigest := xs[k].fVersions[j].fDigest }, (!b34), 0, (by show _ = Ending.returned (.tuple #[.agg (([Value.bool false, Value.bool false] ++ y0.cells ++ [Value.slice B595 xs[k].fVersions[j].fURLs.length b595, Value.string xs[k].fVersions[j].fDigest]).toArray), .bool (!b34), .int .i64 0]); rw [hy0]; rfl), S108.p1.drop.p1.drop.p1.drop.p1.drop.p1.drop.p1.drop.p1.drop.p1.drop.p1.drop.p1.drop.p1.drop.p1.drop.p1.drop, (.inr ⟨by rw [hc54]; rfl, rfl, k, hlt_k, hnk, j, hlt_j2, hvt, hvn, by show ({ fNil := false, fBare := false, fMeta := metS y0, fURLs_a := none, fURLs_c := 0, fURLs := xs[k].fVersions[j].fURLs, fDigest := xs[k].fVersions[j].fDigest } : Ty69) = { fNil := xs[k].fVersions[j].fNil, fBare := xs[k].fVersions[j].fBare, fMeta := metT xs[k].fVersions[j].fMeta, fURLs_a := none, fURLs_c := 0, fURLs := xs[k].fVersions[j].fURLs, fDigest := xs[k].fVersions[j].fDigest }; rw [hyS, hen, heb]⟩)⟩
 ·have hf := mapI_no hp0_13 hnm
  refine wp_region_lit ?_
  refine op_q F23 (.pointer (some ⟨g13, 0, none⟩)) ?_; intro a109 F109
  refine op_q F109 (.pointer (some ⟨g13, 0, none⟩)) ?_; intro a110 F110
  refine op_rq (v := .agg #[.string ⟨#[118, 49]⟩, .map (some gm13), .slice (some ⟨gk13, 0, none⟩) 0 0, .map none]) F110 (r_ldm rfl (F110.e (.pointer (some ⟨g13, 0, none⟩))) (S13.bk 0 rfl) 4 (by kernel_rfl) Try.underlying249 rfl (by kernel_rfl) (v := #[.string ⟨#[118, 49]⟩, .map (some gm13), .slice (some ⟨gk13, 0, none⟩) 0 0, .map none]) (by kernel_rfl)) ?_; intro a111 F111
  refine op_q F111 (.string nm) ?_; intro a112 F112
  refine op_q F112 (.string v) ?_; intro a113 F113
  refine op_cq F113 (f := 105) (args := #[.agg #[.string ⟨#[118, 49]⟩, .map (some gm13), .slice (some ⟨gk13, 0, none⟩) 0 0, .map none], .string nm, .string v]) (ixHas_none gm13 n13 f13 ⟨#[118, 49]⟩ (.slice (some ⟨gk13, 0, none⟩) 0 0) (.map none) nm v _ _ _ S13.p1 hf (by first | omega | (simp; done) | (simp; omega))) ?_
  rintro _ w114 ⟨rfl, S114⟩
  refine ⟨_, rfl, ?_⟩
  intro a115 F115
  refine op_sq0 F115 (s_st rfl (F115.e (.pointer (some ⟨g3, 0, none⟩))) (F115.e (.bool false)) S114.p4 (by kernel_rfl) rfl rfl rfl (cs := #[.bool false]) (by kernel_rfl)) ?_
  rintro _ _ w116 rfl S116 F116
  refine wpList_nil ?_
  refine hK24 _ _ ?_; clear hK24 K24
  refine wp_seq_k fun K117 hK117 => ?_
  refine wp_region_lit ?_
  refine op_q F116 (.pointer (some ⟨g13, 0, none⟩)) ?_; intro a118 F118
  refine op_q F118 (.pointer (some ⟨g13, 0, none⟩)) ?_; intro a119 F119
  refine op_rq (v := .agg #[.string ⟨#[118, 49]⟩, .map (some gm13), .slice (some ⟨gk13, 0, none⟩) 0 0, .map none]) F119 (r_ldm rfl (F119.e (.pointer (some ⟨g13, 0, none⟩))) (S116.bk 2 rfl) 4 (by kernel_rfl) Try.underlying249 rfl (by kernel_rfl) (v := #[.string ⟨#[118, 49]⟩, .map (some gm13), .slice (some ⟨gk13, 0, none⟩) 0 0, .map none]) (by kernel_rfl)) ?_; intro a120 F120
  refine op_q F120 (.string nm) ?_; intro a121 F121
  refine op_q F121 (.string v) ?_; intro a122 F122
  refine op_cq F122 (f := 106) (args := #[.agg #[.string ⟨#[118, 49]⟩, .map (some gm13), .slice (some ⟨gk13, 0, none⟩) 0 0, .map none], .string nm, .string v]) (ixGet_none gm13 n13 f13 ⟨#[118, 49]⟩ (.slice (some ⟨gk13, 0, none⟩) 0 0) (.map none) nm v _ _ _ S116.p1 hf (by first | omega | (simp; done) | (simp; omega))) ?_
  rintro _ w123 ⟨t123, ev123, rfl, S123⟩
  refine ⟨_, rfl, ?_⟩
  intro a124 F124
  refine op_q F124 (.tuple #[.pointer none, gerV true t123 ev123]) ?_; intro a125 F125
  refine op_q F125 (.pointer none) ?_; intro a126 F126
  refine op_q F126 (gerV true t123 ev123) ?_; intro a127 F127
  refine op_q F127 (.pointer none) ?_; intro a128 F128
  refine op_q F128 (gerV true t123 ev123) ?_; intro a129 F129
  refine wpList_nil ?_
  refine hK117 _ _ ?_; clear hK117 K117
  refine wp_seq_k fun K130 hK130 => ?_
  refine wp_seq_k fun K131 hK131 => ?_
  refine wp_region_lit ?_
  refine op_q F129 (gerV true t123 ev123) ?_; intro a132 F132
  refine op_rq (v := .bool true) F132 (r_gerne rfl (F132.e (gerV true t123 ev123))) ?_; intro a133 F133
  refine wpList_nil ?_
  refine hK131 _ _ ?_; clear hK131 K131
  refine wp_cond_true (F133.ev (by kernel_rfl)) ?_
  refine wp_seq_k fun K134 hK134 => ?_
  refine wp_region_sepF (L0 := SA.mpo Try.prog 9 gm13 n13 f13 :: SA.blk g3 4 #[.bool false] :: SA.blk g13 249 #[.string ⟨#[118, 49]⟩, .map (some gm13), .slice (some ⟨gk13, 0, none⟩) 0 0, .map none] :: SA.zips SA.vr vs13 xs :: L) [some [], some [], some [(0, 39)], some [(1, 40)], some []] [.v 39 (.agg zq18), .v 40 (.bool false), .n (SA.blk g1 69 zq18) (fun _ _ AA => AA = SA.blk g1 69 zq18), .n (SA.emp) (fun _ _ AA => AA = SA.emp), .n (SA.blk g5 3 #[.int .i64 0]) (fun _ _ AA => AA = SA.blk g5 3 #[.int .i64 1])] [] F133 rfl (by kernel_rfl) (((((S123.p4).p5).p1).emp).p2) ?_ ?_
  ·refine ⟨?_, ?_, ?_, ?_, ?_, trivial⟩
   ·intro w142 M142
    intro a142 F142 S142
    refine obl_of (by rfl) ?_
    exact s_p F142 (v := .agg zq18) (by kernel_rfl) (by kernel_rfl) (by kernel_rfl) S142
   ·intro w143 M143
    intro a143 F143 S143
    refine obl_of (by rfl) ?_
    exact s_r (v := .bool false) (r_ld rfl (F143.e (.pointer (some ⟨g3, 0, none⟩))) (v := .bool false) (((Sp.dropM S143.drop).bk 1 rfl).cell 0) Try.underlying4 rfl) S143
   ·intro w144 M144
    intro a144 F144 S144
    refine obl_of (by rfl) ?_
    exact s_stb rfl (F144.e (.pointer (some ⟨g1, 0, none⟩))) (F144.e (.agg zq18)) S144 (by kernel_rfl) rfl (by kernel_rfl)
   ·intro w146 M146
    intro a146 F146 S146
    refine obl_of (by rfl) ?_
    exact s_st_same rfl (F146.e (.pointer (some ⟨g3, 0, none⟩))) (F146.e (.bool false)) ((Sp.dropM S146.drop).bk 1 rfl) S146 (by kernel_rfl) rfl rfl rfl (by kernel_rfl)
   ·intro w148 M148
    intro a148 F148 S148
    refine obl_of (by rfl) ?_
    exact s_st rfl (F148.e (.pointer (some ⟨g5, 0, none⟩))) (F148.e (.int .i64 1)) S148 (by kernel_rfl) rfl rfl rfl (cs := #[.int .i64 1]) (by kernel_rfl)
  ·rintro _ _ rfl
   rintro _ _ rfl
   rintro _ _ rfl
   intro a150 w149 F150 S149
   have S151 : Sp R w149 (SA.blk g5 3 #[.int .i64 1] :: SA.blk g1 69 zq18 :: SA.mpo Try.prog 9 gm13 n13 f13 :: SA.blk g3 4 #[.bool false] :: SA.blk g13 249 #[.string ⟨#[118, 49]⟩, .map (some gm13), .slice (some ⟨gk13, 0, none⟩) 0 0, .map none] :: SA.zips SA.vr vs13 xs :: L) := S149.p1.drop
   refine wpList_nil ?_
   refine hK134 _ _ ?_; clear hK134 K134
   refine wp_ret ?_
   refine ret_then ?_
   have S152 : Sp R w149 (SA.ev entZ :: SA.blk g5 3 #[.int .i64 1] :: SA.blk g1 69 zq18 :: SA.mpo Try.prog 9 gm13 n13 f13 :: SA.blk g3 4 #[.bool false] :: SA.blk g13 249 #[.string ⟨#[118, 49]⟩, .map (some gm13), .slice (some ⟨gk13, 0, none⟩) 0 0, .map none] :: SA.zips SA.vr vs13 xs :: L) := Sp.evZ S151
   refine (F150.leaveD (f := 103) (args := (zq22 g1 g3 g5)) (by simp [go_sem]) (catch103 g1 g3 g5 _) (results3 Try.results52 (F150.rvc (p := ⟨g1, 0, none⟩) (by kernel_rfl) (ld_mid (S151.bk 1 rfl) 19 (by kernel_rfl) Try.underlying69 rfl (by kernel_rfl) (v := zq18) (by kernel_rfl))) (F150.rvc (p := ⟨g3, 0, none⟩) (by kernel_rfl) (load_one _ _ _ (.bool false) ((S151.bk 3 rfl).cell 0) _ Try.underlying4 rfl)) (F150.rvc (p := ⟨g5, 0, none⟩) (by kernel_rfl) (load_one _ _ _ (.int .i64 1) ((S151.bk 0 rfl).cell 0) _ Try.underlying3 rfl))) ?_).1
   exact ⟨entZ, false, 1, rfl, S152.p1.drop.p1.drop.p1.drop.p1.drop.p1.drop.p1.drop, (.inl ⟨rfl, rfl, fun k hk hn => absurd ⟨k, hk, hn⟩ hnm⟩)⟩
end Go.Proofs.Ytkjcedlgljeoiaa

