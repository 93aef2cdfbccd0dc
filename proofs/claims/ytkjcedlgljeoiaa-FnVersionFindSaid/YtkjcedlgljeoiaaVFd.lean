/- Texts Vf2, P6, T0, Q1, Lc1, Lc2, Lc3, Lc4, Vf3, Vf4, Me5, laid together. -/
import Derived.WalkKit
import Derived.WalkLawsBesides
import Derived.WalkSpells
import Derived.Lib.Hide
import Derived.Deep.RegionWith
import Derived.Deep.DeepCutAuto
import Derived.Deep.QuietTactic
import Derived.BigQuiet
import Derived.Laws.OwnMore
import Derived.Deep.LoopGhost
import Derived.KernelRfl
import Derived.Deep.WholeRow
import Derived.StillTail
import Derived.SliceStrings
import Derived.Deep.Slices
import Derived.Deep.Fields
import Derived.ChangeSame
import Derived.Deep.MidRow
import Derived.Maps.AppendAt
import Derived.Lib.AppendStr
import Derived.Lib.ConvBytes
import Derived.Laws.BytesArg
import Derived.Deep.RegionLaw
import Derived.OwnWalk
import Derived.Maps.OwnSet
import Derived.Maps.OwnOps
import Derived.ArgAppend
import Derived.Defers
import Derived.Recover
import Derived.Laws.Pointers
import Derived.Laws.StructEq
import Derived.IntWalk
import Derived.Test.YtkjcedlgljeoiaaProg
import Derived.BigRegion
import Derived.Deep.CutBlock
import Derived.Test.YtkjcedlgljeoiaaVFc
/- Entries of an index in memory: impl.entriesOf, entryTold. -/
namespace Go.Proofs.Ytkjcedlgljeoiaa
open Go.RowKit Go.Lib
set_option linter.unusedVariables false
set_option linter.unusedSimpArgs false
def metV (m : Ty26) (B1 : Option Addr) (b1 : Nat) (B2 : Option Addr) (b2 : Nat) (B3 : Option Addr) (b3 : Nat) (B4 : Option Addr) (b4 : Nat) (ds : List Ty80) : Ty26 := { m with fSources_a := B1, fSources_c := b1, fKeywords_a := B2, fKeywords_c := b2, fMaintainers_a := B3, fMaintainers_c := b3, fMaintainers := m.fMaintainers.map perT, fDependencies_a := B4, fDependencies_c := b4, fDependencies := ds }
/-- Metadata that are told, by where their rows lie. -/
def SA.mvx (m : Ty26) (B1 : Option Addr) (b1 : Nat) (B2 : Option Addr) (b2 : Nat) (B3 : Option Addr) (b3 : Nat) (B4 : Option Addr) (b4 : Nat) : SA := SA.ex fun ds : List Ty80 => SA.star (SA.pure (ds.map depS = m.fDependencies.map fun d => depT d none 0)) (SA.mv (metV m B1 b1 B2 b2 B3 b3 B4 b4 ds))
theorem metV_S {m : Ty26} {B1 : Option Addr} {b1 : Nat} {B2 : Option Addr} {b2 : Nat} {B3 : Option Addr} {b3 : Nat} {B4 : Option Addr} {b4 : Nat} {ds : List Ty80} (hds : ds.map depS = m.fDependencies.map fun d => depT d none 0) : metS (metV m B1 b1 B2 b2 B3 b3 B4 b4 ds) = metT m := by
  unfold metT metS metV
  simp only [hds, List.map_map]
  congr 1
  exact List.map_congr_left fun d _ => (depS_told).symm
theorem Sp.mvx_open {R : Ctx} {w : World} {L : List SA} {m : Ty26} {B1 : Option Addr} {b1 : Nat} {B2 : Option Addr} {b2 : Nat} {B3 : Option Addr} {b3 : Nat} {B4 : Option Addr} {b4 : Nat} (S : Sp R w (SA.mvx m B1 b1 B2 b2 B3 b3 B4 b4 :: L)) : ∃ y : Ty26, y.cells = [.string m.fName, .string m.fHome, .string m.fVersion, .string m.fDescription, .string m.fIcon, .string m.fAPIVersion, .string m.fCondition, .string m.fTags, .string m.fAppVersion, .string m.fKubeVersion, .string m.fType, .slice B1 m.fSources.length b1, .slice B2 m.fKeywords.length b2, .slice B3 m.fMaintainers.length b3, .slice B4 m.fDependencies.length b4] ∧ Sp R w (SA.mv y :: L) ∧ metS y = metT m := by
  obtain ⟨ds, S⟩ := Sp.ex.1 S
  obtain ⟨hds, S⟩ := Sp.pure.1 (Sp.star.1 S)
  have hdl : ds.length = m.fDependencies.length := by have := congrArg List.length hds; simpa using this
  have hpl : (m.fMaintainers.map perT).length = m.fMaintainers.length := List.length_map _
  refine ⟨_, ?_, S, metV_S hds⟩
  simp only [Ty26.cells, metV, hdl, hpl]
theorem metaTold_f (m : Ty26) (g : Nat) (R : Ctx) (L : List SA) (w : World) (S : Sp R w (SA.met g m :: L)) (hm1 : m.fSources.length ≤ 1000000) (hm2 : m.fKeywords.length ≤ 1000000) (hm3 : m.fMaintainers.length ≤ 1000000) (hm4 : m.fDependencies.length ≤ 1000000) (hm5 : ∀ d ∈ m.fDependencies, d.fTags.length ≤ 1000000) : Calls Try.prog 117 #[.pointer (some ⟨g, 0, none⟩)] w fun e w' => ∃ (B1 : Option Addr) (b1 : Nat) (B2 : Option Addr) (b2 : Nat) (B3 : Option Addr) (b3 : Nat) (B4 : Option Addr) (b4 : Nat), e = .returned (.agg #[.string m.fName, .string m.fHome, .string m.fVersion, .string m.fDescription, .string m.fIcon, .string m.fAPIVersion, .string m.fCondition, .string m.fTags, .string m.fAppVersion, .string m.fKubeVersion, .string m.fType, .slice B1 m.fSources.length b1, .slice B2 m.fKeywords.length b2, .slice B3 m.fMaintainers.length b3, .slice B4 m.fDependencies.length b4]) ∧ Sp R w' (SA.mvx m B1 b1 B2 b2 B3 b3 B4 b4 :: SA.met g m :: L) := by
  obtain ⟨A1, c1, A2, c2, A3, c3, qs, A4, c4, us, S1⟩ := S.met_open
  refine (metaTold_sp m g A1 c1 A2 c2 A3 c3 A4 c4 qs us R (SA.blk g 237 #[.string m.fName, .string m.fHome, .slice A1 m.fSources.length c1, .string m.fVersion, .string m.fDescription, .slice A2 m.fKeywords.length c2, .slice A3 qs.length c3, .string m.fIcon, .string m.fAPIVersion, .string m.fCondition, .string m.fTags, .string m.fAppVersion, .bool false, .map none, .string m.fKubeVersion, .slice A4 us.length c4, .string m.fType] :: SA.own0 (.slice A1 m.fSources.length c1) 9 1 m.fSources.length (strs m.fSources) :: SA.own0 (.slice A2 m.fKeywords.length c2) 9 1 m.fKeywords.length (strs m.fKeywords) :: SA.own (.slice A3 qs.length c3) 238 1 qs.length (pps qs) :: SA.own (.slice A4 us.length c4) 240 1 us.length (pps us) :: L) w S1.p6.p5 (fun w S => S.bk 0 rfl) (fun w S => own0_sl1 (S.ow0 1 rfl) (by omega)) (fun w S => own0_sl1 (S.ow0 2 rfl) (by omega)) (fun w S => own_sl1 (S.ow 3 rfl) (by have := Sp.zlen S1.p4; omega)) (fun w S => own_sl1 (S.ow 4 rfl) (by have := Sp.zlen S1.p6; omega)) hm1 hm2 hm3 hm4 hm5).mono ?_
  rintro e w' ⟨B1, b1, B2, b2, B3, b3, B4, b4, ds, rfl, S2, hds⟩
  have hdl : ds.length = m.fDependencies.length := by have := congrArg List.length hds; simpa using this
  have hpl : (m.fMaintainers.map perT).length = m.fMaintainers.length := List.length_map _
  refine ⟨B1, b1, B2, b2, B3, b3, B4, b4, rfl, ?_⟩
  rw [← hpl, ← hdl] at S2
  have S3 := Sp.met_mk S2.p6.p11.p7.p11.p11.p11.p11
  exact Sp.ex.2 ⟨ds, Sp.star.2 (Sp.pure.2 ⟨hds, Sp.mv_mk (y := metV m B1 b1 B2 b2 B3 b3 B4 b4 ds) (Sp.own0_of (Sp.own0_of S3.p5.p5).p5).p5.p5⟩)⟩
/-- The metadata of an entry, or none. -/
def SA.mtp (q : Option Addr) (e : Ty69) : SA := cond e.fBare (SA.pure (q = none)) (SA.ex fun gm : Nat => SA.star (SA.pure (q = some ⟨gm, 0, none⟩)) (SA.met gm e.fMeta))
/-- An entry as an object, or none. -/
def SA.ent (q : Option Addr) (e : Ty69) : SA := cond e.fNil (SA.pure (q = none)) (SA.ex fun g : Nat => SA.ex fun q2 : Option Addr => SA.ex fun A : Option Addr => SA.ex fun c : Nat => SA.star (SA.pure (q = some ⟨g, 0, none⟩)) (SA.stars [SA.blk g 229 #[.pointer q2, .slice A e.fURLs.length c, .bool false, .string e.fDigest, .string ⟨#[]⟩, .string ⟨#[]⟩, .string ⟨#[]⟩, .string ⟨#[]⟩], SA.own0 (.slice A e.fURLs.length c) 9 1 e.fURLs.length (strs e.fURLs), SA.mtp q2 e]))
section
variable {R : Ctx} {w : World} {L : List SA} {q : Option Addr} {e : Ty69} {g gm c : Nat} {A : Option Addr}
theorem Sp.ent_mk (hn : e.fNil = false) (hb : e.fBare = false) (S : Sp R w (SA.blk g 229 #[.pointer (some ⟨gm, 0, none⟩), .slice A e.fURLs.length c, .bool false, .string e.fDigest, .string ⟨#[]⟩, .string ⟨#[]⟩, .string ⟨#[]⟩, .string ⟨#[]⟩] :: SA.own0 (.slice A e.fURLs.length c) 9 1 e.fURLs.length (strs e.fURLs) :: SA.met gm e.fMeta :: L)) : Sp R w (SA.ent (some ⟨g, 0, none⟩) e :: L) := by
  unfold SA.ent; rw [hn]
  refine Sp.ex.2 ⟨g, Sp.ex.2 ⟨some ⟨gm, 0, none⟩, Sp.ex.2 ⟨A, Sp.ex.2 ⟨c, Sp.star.2 (Sp.pure.2 ⟨rfl, (Sp.stars (l := [_, _, _])).2 ?_⟩)⟩⟩⟩⟩
  have S1 : Sp R w (SA.mtp (some ⟨gm, 0, none⟩) e :: SA.blk g 229 #[.pointer (some ⟨gm, 0, none⟩), .slice A e.fURLs.length c, .bool false, .string e.fDigest, .string ⟨#[]⟩, .string ⟨#[]⟩, .string ⟨#[]⟩, .string ⟨#[]⟩] :: SA.own0 (.slice A e.fURLs.length c) 9 1 e.fURLs.length (strs e.fURLs) :: L) := by unfold SA.mtp; rw [hb]; exact Sp.ex.2 ⟨gm, Sp.star.2 (Sp.pure.2 ⟨rfl, S.p2⟩)⟩
  exact S1.p2.p2
theorem Sp.ent_open (hn : e.fNil = false) (hb : e.fBare = false) (S : Sp R w (SA.ent q e :: L)) : ∃ (g gm : Nat) (A : Option Addr) (c : Nat), q = some ⟨g, 0, none⟩ ∧ Sp R w (SA.blk g 229 #[.pointer (some ⟨gm, 0, none⟩), .slice A e.fURLs.length c, .bool false, .string e.fDigest, .string ⟨#[]⟩, .string ⟨#[]⟩, .string ⟨#[]⟩, .string ⟨#[]⟩] :: SA.own0 (.slice A e.fURLs.length c) 9 1 e.fURLs.length (strs e.fURLs) :: SA.met gm e.fMeta :: L) := by
  unfold SA.ent at S; rw [hn] at S
  obtain ⟨g, S⟩ := Sp.ex.1 S; obtain ⟨q2, S⟩ := Sp.ex.1 S; obtain ⟨A, S⟩ := Sp.ex.1 S; obtain ⟨c, S⟩ := Sp.ex.1 S
  obtain ⟨hq, S⟩ := Sp.pure.1 (Sp.star.1 S)
  have S2 := (Sp.stars.1 S : Sp R w (_ :: _ :: SA.mtp q2 e :: L)).p2
  unfold SA.mtp at S2; rw [hb] at S2
  obtain ⟨gm, S2⟩ := Sp.ex.1 S2
  obtain ⟨rfl, S2⟩ := Sp.pure.1 (Sp.star.1 S2)
  exact ⟨g, gm, A, c, hq, S2.p2.p2⟩
end
def EntOk (e : Ty69) : Prop := e.fNil = false ∧ e.fBare = false ∧ e.fURLs.length ≤ 200 ∧ mfitsB e.fMeta = true ∧ ∀ d ∈ e.fMeta.fDependencies, d.fTags.length ≤ 1000000

set_option maxRecDepth 100000 in
set_option maxHeartbeats 20000000 in
theorem entriesOf_sp (A : Option Addr) (c : Nat) (es : List Ty69) (R : Ctx) (L : List SA) (w : World) (S : Sp R w (L)) (h0 : Rf R L fun w => Rows w (A) 19 (es.map Ty69.cells)) (h1 : Rf R L fun w => ∀ e ∈ es, Sl w e.fURLs_a (strs e.fURLs) ∧ MetaAt w e.fMeta) (hnb : ∀ e ∈ es, EntOk e) (hl : es.length ≤ 200) :
    Calls Try.prog 85 #[.slice (A) (es.length) (c)] w fun e w' => ∃ B : Option Addr, ∃ b : Nat, ∃ qs : List (Option Addr), e = .returned (.tuple #[.slice B qs.length b, .bool true]) ∧ Sp R w' (SA.own (.slice B qs.length b) 154 1 qs.length (pps qs) :: SA.zips SA.ent qs es :: L) := by
  have hl_es : es.length ≤ 9223372036854775807 := by have := (h0 _ S).1; simpa [strs, ptrs, pps] using this
  refine fw_enter (fn := Try.f85) rfl rfl 55 rfl (Nat.le_of_ble_eq_true rfl) ?_
  intro a0 F0
  refine wp_seq_k fun K1 hK1 => ?_
  refine wp_region_lit ?_
  refine op_q F0 (.slice none 0 0) ?_; intro a2 F2
  refine op_q F2 (.bool false) ?_; intro a3 F3
  refine wpList_nil ?_
  refine hK1 _ _ ?_; clear hK1 K1
  refine wp_seq_k fun K4 hK4 => ?_
  refine wp_region_lit ?_
  refine op_q F3 (.slice none 0 0) ?_; intro a5 F5
  refine wpList_nil ?_
  refine hK4 _ _ ?_; clear hK4 K4
  refine wp_seq_k fun K6 hK6 => ?_
  refine wp_seq_k fun K7 hK7 => ?_
  refine wp_region_lit ?_
  refine op_q F5 (.slice (A) (es.length) (c)) ?_; intro a8 F8
  refine op_q F8 (.int .i64 (↑es.length)) ?_; intro a9 F9
  refine op_q F9 (.int .i64 0) ?_; intro a10 F10
  refine wpList_nil ?_
  refine hK7 _ _ ?_; clear hK7 K7
  refine wp_block ?_
  have S11 : Sp R w (SA.zips SA.ent [] (es.take 0) :: L) := Sp.znil S
  have S12 := Sp.nilown (e := 154) (sz := 1) S11
  refine fw_loop (fun m' a' w' => ∃ B : Option Addr, ∃ b : Nat, ∃ qs : List (Option Addr), ∃ k : Nat, es.length - k = m' ∧ Fr 55 [] a' [(0, .slice (A) (es.length) (c)), (4, .slice B qs.length b), (8, .slice (A) (es.length) (c)), (9, .int .i64 (↑es.length)), (10, .int .i64 (↑k))] ∧ Sp R w' (SA.own (.slice B qs.length b) 154 1 qs.length (pps qs) :: SA.zips SA.ent qs (es.take k) :: L) ∧ (k ≤ es.length) ∧ (qs.length = k)) _ ⟨none, 0, [], 0, rfl, (F10.kk 0 (F10.kk 4 (F10.kk 8 (F10.kk 9 (F10.kk 10 F10.nil))))), S12.p1.p1, (by first | omega | (with_reducible assumption) | (simp; done)), rfl⟩ ?_
  rintro m13 a13 w13 ⟨B, b, qs, k, hm13, F13, S13, hk, hql⟩ K13 hK13
  by_cases hlt_k : k < es.length
  · have hc_k : decide ((↑k : Int) < ↑es.length) = true := by first | (simp; done) | (simp; omega)
    obtain ⟨ad14, hA14⟩ := (h0 _ S13.drop.drop).addr (by simp; omega)
    obtain ⟨hen, heb, heu, hef, het⟩ := hnb _ (List.getElem_mem hlt_k)
    obtain ⟨hef1, hef2, hef3, hef4⟩ := mfits_len hef
    have hks : Rf R L fun w => Sl w es[k].fURLs_a (strs es[k].fURLs) := fun w S => (h1 w S _ (List.getElem_mem hlt_k)).1
    have hkm : Rf R L fun w => MetaAt w es[k].fMeta := fun w S => (h1 w S _ (List.getElem_mem hlt_k)).2
    refine wp_seq_k fun K15 hK15 => ?_
    refine wp_region_lit ?_
    refine op_q F13 (.bool (decide ((↑k : Int) < ↑es.length))) ?_; intro a16 F16
    have F17 := F16.sb 11 (by kernel_rfl) hc_k
    refine wpList_nil ?_
    refine hK15 _ _ ?_; clear hK15 K15
    refine wp_seq_k fun K18 hK18 => ?_
    refine wp_cond_true (F17.ev (by kernel_rfl)) ?_
    refine wp_skip ?_
    refine hK18 _ _ ?_; clear hK18 K18
    refine wp_seq_k fun K19 hK19 => ?_
    refine wp_block ?_
    refine wp_seq_k fun K20 hK20 => ?_
    refine wp_region_lit ?_
    refine op_rq (v := .pointer (some (ad14.add (k * 19)))) F17 (r_ix rfl Try.underlying65 19 (by kernel_rfl) (F17.e (.slice (A) (es.length) (c))) hA14 (F17.e (.int .i64 (↑k))) k (by first | rfl | omega | simp) (by first | omega | (simp; done) | (simp; omega)) (rfl)) ?_; intro a21 F21
    refine op_rq (v := .agg #[.bool es[k].fNil, .bool es[k].fBare, .string es[k].fMeta.fName, .string es[k].fMeta.fHome, .string es[k].fMeta.fVersion, .string es[k].fMeta.fDescription, .string es[k].fMeta.fIcon, .string es[k].fMeta.fAPIVersion, .string es[k].fMeta.fCondition, .string es[k].fMeta.fTags, .string es[k].fMeta.fAppVersion, .string es[k].fMeta.fKubeVersion, .string es[k].fMeta.fType, .slice es[k].fMeta.fSources_a es[k].fMeta.fSources.length es[k].fMeta.fSources_c, .slice es[k].fMeta.fKeywords_a es[k].fMeta.fKeywords.length es[k].fMeta.fKeywords_c, .slice es[k].fMeta.fMaintainers_a es[k].fMeta.fMaintainers.length es[k].fMeta.fMaintainers_c, .slice es[k].fMeta.fDependencies_a es[k].fMeta.fDependencies.length es[k].fMeta.fDependencies_c, .slice es[k].fURLs_a es[k].fURLs.length es[k].fURLs_c, .string es[k].fDigest]) F21 (r_ldR rfl (F21.e (.pointer (some (ad14.add (k * 19))))) (cs := [.bool es[k].fNil, .bool es[k].fBare, .string es[k].fMeta.fName, .string es[k].fMeta.fHome, .string es[k].fMeta.fVersion, .string es[k].fMeta.fDescription, .string es[k].fMeta.fIcon, .string es[k].fMeta.fAPIVersion, .string es[k].fMeta.fCondition, .string es[k].fMeta.fTags, .string es[k].fMeta.fAppVersion, .string es[k].fMeta.fKubeVersion, .string es[k].fMeta.fType, .slice es[k].fMeta.fSources_a es[k].fMeta.fSources.length es[k].fMeta.fSources_c, .slice es[k].fMeta.fKeywords_a es[k].fMeta.fKeywords.length es[k].fMeta.fKeywords_c, .slice es[k].fMeta.fMaintainers_a es[k].fMeta.fMaintainers.length es[k].fMeta.fMaintainers_c, .slice es[k].fMeta.fDependencies_a es[k].fMeta.fDependencies.length es[k].fMeta.fDependencies_c, .slice es[k].fURLs_a es[k].fURLs.length es[k].fURLs_c, .string es[k].fDigest]) ((h0 _ S13.drop.drop).elA hA14 (j := k) (row := es[k].cells) (by rw [List.getElem?_map, List.getElem?_eq_getElem hlt_k]; rfl)) Try.underlying69 rfl (by kernel_rfl) (v := #[.bool es[k].fNil, .bool es[k].fBare, .string es[k].fMeta.fName, .string es[k].fMeta.fHome, .string es[k].fMeta.fVersion, .string es[k].fMeta.fDescription, .string es[k].fMeta.fIcon, .string es[k].fMeta.fAPIVersion, .string es[k].fMeta.fCondition, .string es[k].fMeta.fTags, .string es[k].fMeta.fAppVersion, .string es[k].fMeta.fKubeVersion, .string es[k].fMeta.fType, .slice es[k].fMeta.fSources_a es[k].fMeta.fSources.length es[k].fMeta.fSources_c, .slice es[k].fMeta.fKeywords_a es[k].fMeta.fKeywords.length es[k].fMeta.fKeywords_c, .slice es[k].fMeta.fMaintainers_a es[k].fMeta.fMaintainers.length es[k].fMeta.fMaintainers_c, .slice es[k].fMeta.fDependencies_a es[k].fMeta.fDependencies.length es[k].fMeta.fDependencies_c, .slice es[k].fURLs_a es[k].fURLs.length es[k].fURLs_c, .string es[k].fDigest]) (by kernel_rfl)) ?_; intro a22 F22
    refine op_sq F22 (s_newp F22 69 #[.bool false, .bool false, .string ⟨#[]⟩, .string ⟨#[]⟩, .string ⟨#[]⟩, .string ⟨#[]⟩, .string ⟨#[]⟩, .string ⟨#[]⟩, .string ⟨#[]⟩, .string ⟨#[]⟩, .string ⟨#[]⟩, .string ⟨#[]⟩, .string ⟨#[]⟩, .slice none 0 0, .slice none 0 0, .slice none 0 0, .slice none 0 0, .slice none 0 0, .string ⟨#[]⟩] (by kernel_rfl) (by kernel_rfl) (by kernel_rfl) S13) ?_
    rintro _ _ w24 ⟨g22, rfl, rfl⟩ S24 a24 F24
    refine op_sq0 F24 (s_stb rfl (F24.e (.pointer (some ⟨g22, 0, none⟩))) (F24.e (.agg #[.bool es[k].fNil, .bool es[k].fBare, .string es[k].fMeta.fName, .string es[k].fMeta.fHome, .string es[k].fMeta.fVersion, .string es[k].fMeta.fDescription, .string es[k].fMeta.fIcon, .string es[k].fMeta.fAPIVersion, .string es[k].fMeta.fCondition, .string es[k].fMeta.fTags, .string es[k].fMeta.fAppVersion, .string es[k].fMeta.fKubeVersion, .string es[k].fMeta.fType, .slice es[k].fMeta.fSources_a es[k].fMeta.fSources.length es[k].fMeta.fSources_c, .slice es[k].fMeta.fKeywords_a es[k].fMeta.fKeywords.length es[k].fMeta.fKeywords_c, .slice es[k].fMeta.fMaintainers_a es[k].fMeta.fMaintainers.length es[k].fMeta.fMaintainers_c, .slice es[k].fMeta.fDependencies_a es[k].fMeta.fDependencies.length es[k].fMeta.fDependencies_c, .slice es[k].fURLs_a es[k].fURLs.length es[k].fURLs_c, .string es[k].fDigest])) S24 (by kernel_rfl) rfl (by kernel_rfl)) ?_
    rintro _ _ w25 rfl S25 F25
    refine wpList_nil ?_
    refine hK20 _ _ ?_; clear hK20 K20
    refine wp_seq_k fun K26 hK26 => ?_
    refine wp_seq_k fun K27 hK27 => ?_
    refine wp_region_lit ?_
    refine op_q F25 (.pointer (some ⟨g22, 17, none⟩)) ?_; intro a28 F28
    refine op_rq (v := .slice es[k].fURLs_a es[k].fURLs.length es[k].fURLs_c) F28 (r_ld rfl (F28.e (.pointer (some ⟨g22, 17, none⟩))) (v := .slice es[k].fURLs_a es[k].fURLs.length es[k].fURLs_c) ((S25.bk 0 rfl).cell 17) Try.underlying22 rfl) ?_; intro a29 F29
    refine op_q F29 (.int .i64 (↑es[k].fURLs.length)) ?_; intro a30 F30
    refine op_q F30 (.bool (decide ((200 : Int) < ↑es[k].fURLs.length))) ?_; intro a31 F31
    refine op_q F31 (.bool (decide ((200 : Int) < ↑es[k].fURLs.length))) ?_; intro a32 F32
    have hc33 : (decide ((200 : Int) < ↑es[k].fURLs.length)) = false := (by simp; omega)
    have F34 := F32.sb 17 (by kernel_rfl) hc33
    have F35 := F34.sb 18 (by kernel_rfl) hc33
    refine op_wq F35 ?_
    refine op_q F35 (.pointer (some ⟨g22, 2, none⟩)) ?_; intro a36 F36
    refine op_wq F36 ?_
    refine op_rq (v := .agg #[.string es[k].fMeta.fName, .string es[k].fMeta.fHome, .string es[k].fMeta.fVersion, .string es[k].fMeta.fDescription, .string es[k].fMeta.fIcon, .string es[k].fMeta.fAPIVersion, .string es[k].fMeta.fCondition, .string es[k].fMeta.fTags, .string es[k].fMeta.fAppVersion, .string es[k].fMeta.fKubeVersion, .string es[k].fMeta.fType, .slice es[k].fMeta.fSources_a es[k].fMeta.fSources.length es[k].fMeta.fSources_c, .slice es[k].fMeta.fKeywords_a es[k].fMeta.fKeywords.length es[k].fMeta.fKeywords_c, .slice es[k].fMeta.fMaintainers_a es[k].fMeta.fMaintainers.length es[k].fMeta.fMaintainers_c, .slice es[k].fMeta.fDependencies_a es[k].fMeta.fDependencies.length es[k].fMeta.fDependencies_c]) F36 (r_ldm rfl (F36.e (.pointer (some ⟨g22, 2, none⟩))) (S25.bk 0 rfl) 15 (by kernel_rfl) Try.underlying26 rfl (by kernel_rfl) (v := #[.string es[k].fMeta.fName, .string es[k].fMeta.fHome, .string es[k].fMeta.fVersion, .string es[k].fMeta.fDescription, .string es[k].fMeta.fIcon, .string es[k].fMeta.fAPIVersion, .string es[k].fMeta.fCondition, .string es[k].fMeta.fTags, .string es[k].fMeta.fAppVersion, .string es[k].fMeta.fKubeVersion, .string es[k].fMeta.fType, .slice es[k].fMeta.fSources_a es[k].fMeta.fSources.length es[k].fMeta.fSources_c, .slice es[k].fMeta.fKeywords_a es[k].fMeta.fKeywords.length es[k].fMeta.fKeywords_c, .slice es[k].fMeta.fMaintainers_a es[k].fMeta.fMaintainers.length es[k].fMeta.fMaintainers_c, .slice es[k].fMeta.fDependencies_a es[k].fMeta.fDependencies.length es[k].fMeta.fDependencies_c]) (by kernel_rfl)) ?_; intro a37 F37
    refine op_wq F37 ?_
    refine op_cq F37 (f := 93) (args := #[.agg #[.string es[k].fMeta.fName, .string es[k].fMeta.fHome, .string es[k].fMeta.fVersion, .string es[k].fMeta.fDescription, .string es[k].fMeta.fIcon, .string es[k].fMeta.fAPIVersion, .string es[k].fMeta.fCondition, .string es[k].fMeta.fTags, .string es[k].fMeta.fAppVersion, .string es[k].fMeta.fKubeVersion, .string es[k].fMeta.fType, .slice es[k].fMeta.fSources_a es[k].fMeta.fSources.length es[k].fMeta.fSources_c, .slice es[k].fMeta.fKeywords_a es[k].fMeta.fKeywords.length es[k].fMeta.fKeywords_c, .slice es[k].fMeta.fMaintainers_a es[k].fMeta.fMaintainers.length es[k].fMeta.fMaintainers_c, .slice es[k].fMeta.fDependencies_a es[k].fMeta.fDependencies.length es[k].fMeta.fDependencies_c]]) (metaFits_sp es[k].fMeta _ _ _ S25 ) ?_
    rintro _ w38 ⟨rfl, S38⟩
    refine ⟨_, rfl, ?_⟩
    intro a39 F39
    refine op_wq F39 ?_
    refine op_q F39 (.bool (!(mfitsB es[k].fMeta))) ?_; intro a40 F40
    refine op_q F40 (.bool (!(mfitsB es[k].fMeta))) ?_; intro a41 F41
    refine wpList_nil ?_
    refine hK27 _ _ ?_; clear hK27 K27
    have hc42 : (mfitsB es[k].fMeta) = true := hef
    have F43 := F41.sb 21 (by kernel_rfl) hc42
    have F44 := F43.sb 22 (by kernel_rfl) (show (!(mfitsB es[k].fMeta)) = false by rw [hc42]; rfl)
    have F45 := F44.sb 23 (by kernel_rfl) (show (!(mfitsB es[k].fMeta)) = false by rw [hc42]; rfl)
    refine wp_cond_false (F45.ev (by kernel_rfl)) ?_
    refine wp_skip ?_
    refine hK26 _ _ ?_; clear hK26 K26
    refine wp_seq_k fun K46 hK46 => ?_
    refine wp_seq_k fun K47 hK47 => ?_
    refine wp_region_lit ?_
    refine op_q F45 (.pointer (some ⟨g22, 0, none⟩)) ?_; intro a48 F48
    refine op_rq (v := .bool es[k].fNil) F48 (r_ld rfl (F48.e (.pointer (some ⟨g22, 0, none⟩))) (v := .bool es[k].fNil) ((S38.bk 0 rfl).cell 0) Try.underlying4 rfl) ?_; intro a49 F49
    refine wpList_nil ?_
    refine hK47 _ _ ?_; clear hK47 K47
    have hc50 : (es[k].fNil) = false := hen
    have F51 := F49.sb 25 (by kernel_rfl) hc50
    refine wp_cond_false (F51.ev (by kernel_rfl)) ?_
    refine wp_skip ?_
    refine hK46 _ _ ?_; clear hK46 K46
    refine wp_seq_k fun K52 hK52 => ?_
    refine wp_region_sepF (L0 := SA.blk g22 69 #[.bool es[k].fNil, .bool es[k].fBare, .string es[k].fMeta.fName, .string es[k].fMeta.fHome, .string es[k].fMeta.fVersion, .string es[k].fMeta.fDescription, .string es[k].fMeta.fIcon, .string es[k].fMeta.fAPIVersion, .string es[k].fMeta.fCondition, .string es[k].fMeta.fTags, .string es[k].fMeta.fAppVersion, .string es[k].fMeta.fKubeVersion, .string es[k].fMeta.fType, .slice es[k].fMeta.fSources_a es[k].fMeta.fSources.length es[k].fMeta.fSources_c, .slice es[k].fMeta.fKeywords_a es[k].fMeta.fKeywords.length es[k].fMeta.fKeywords_c, .slice es[k].fMeta.fMaintainers_a es[k].fMeta.fMaintainers.length es[k].fMeta.fMaintainers_c, .slice es[k].fMeta.fDependencies_a es[k].fMeta.fDependencies.length es[k].fMeta.fDependencies_c, .slice es[k].fURLs_a es[k].fURLs.length es[k].fURLs_c, .string es[k].fDigest] :: SA.own (.slice B qs.length b) 154 1 qs.length (pps qs) :: SA.zips SA.ent qs (es.take k) :: L) [some [], some [], some [(1, 30)], some [(0, 29), (2, 31)], some [], some [(4, 33)], some [(0, 29), (2, 31), (3, 32), (5, 34)], some [(0, 29), (2, 31), (3, 32), (5, 34), (6, 35)], some [(0, 29), (2, 31), (3, 32), (5, 34), (6, 35), (7, 36)]] [.p 29 (SA.emp) (fun _ vv AA => ∃ g82 : Nat, vv = .slice (some ⟨g82, 0, none⟩) 0 0 ∧ AA = SA.blk g82 9 #[]), .v 30 (.pointer (some ⟨g22, 17, none⟩)), .v 31 (.slice es[k].fURLs_a es[k].fURLs.length es[k].fURLs_c), .p 32 (SA.emp) (fun _ vv AA => ∃ A89 : Option Addr, ∃ c89 : Nat, vv = .slice A89 es[k].fURLs.length c89 ∧ AA = SA.own0 (.slice A89 es[k].fURLs.length c89) 9 1 es[k].fURLs.length (strs es[k].fURLs)), .v 33 (.pointer (some ⟨g22, 18, none⟩)), .v 34 (.string es[k].fDigest), .p 35 (SA.emp) (fun env vv AA => ∃ A89x : Option Addr, ∃ c89x : Nat, (env.getD 2 undef) = .slice A89x es[k].fURLs.length c89x ∧ vv = .agg #[.pointer none, .slice A89x es[k].fURLs.length c89x, .bool false, .string es[k].fDigest, .string ⟨#[]⟩, .string ⟨#[]⟩, .string ⟨#[]⟩, .string ⟨#[]⟩] ∧ AA = SA.emp), .p 36 (SA.emp) (fun env vv AA => ∃ A89x : Option Addr, ∃ c89x : Nat, ∃ g103 : Nat, (env.getD 2 undef) = .slice A89x es[k].fURLs.length c89x ∧ vv = .pointer (some ⟨g103, 0, none⟩) ∧ AA = SA.blk g103 229 #[.pointer none, .slice A89x es[k].fURLs.length c89x, .bool false, .string es[k].fDigest, .string ⟨#[]⟩, .string ⟨#[]⟩, .string ⟨#[]⟩, .string ⟨#[]⟩]), .p 7 (SA.emp) (fun env vv AA => ∃ g103x : Nat, (env.getD 5 undef) = .pointer (some ⟨g103x, 0, none⟩) ∧ vv = .pointer (some ⟨g103x, 0, none⟩) ∧ AA = SA.emp)] [] F51 rfl (by kernel_rfl) S38.emp.emp.emp.emp.emp ?_ ?_
    · refine ⟨?_, ?_, ?_, ?_, ?_, ?_, ?_, ?_, ?_, trivial⟩
      · intro w82 M82
        intro a82 F82 S82
        refine obl_of (by rfl) ?_
        exact s_news F82 9 #[] 0 (by kernel_rfl) (by kernel_rfl) (by kernel_rfl) S82.drop
      · intro w83 M83
        intro a83 F83 S83
        refine obl_of (by rfl) ?_
        exact s_p F83 (v := .pointer (some ⟨g22, 17, none⟩)) (by kernel_rfl) (by kernel_rfl) (by kernel_rfl) S83
      · intro w84 M84
        intro a84 F84 S84
        refine obl_of (by rfl) ?_
        exact s_r (v := .slice es[k].fURLs_a es[k].fURLs.length es[k].fURLs_c) (r_ld rfl (F84.e (.pointer (some ⟨g22, 17, none⟩))) (v := .slice es[k].fURLs_a es[k].fURLs.length es[k].fURLs_c) (((Sp.dropM S84.drop).bk 0 rfl).cell 17) Try.underlying22 rfl) S84
      · intro w86 M86
        rintro _ _ ⟨g82, rfl, rfl⟩ hA87
        intro a86 F86 S86
        refine obl_of (by rfl) ?_
        exact s_app0 rfl Try.underlying22 1 _ tin9 rfl rfl (F86.e (.slice (some ⟨g82, 0, none⟩) 0 0)) S86.drop (strs es[k].fURLs) (F86.e (.slice es[k].fURLs_a es[k].fURLs.length es[k].fURLs_c)) (hks _ (Sp.dropM S86.drop).drop.drop.drop) (by first | (simp [strs, ptrs, pps]; done) | (simp [strs, ptrs, pps]; omega)) (by omega) (by omega)
      · intro w90 M90
        intro a90 F90 S90
        refine obl_of (by rfl) ?_
        exact s_p F90 (v := .pointer (some ⟨g22, 18, none⟩)) (by kernel_rfl) (by kernel_rfl) (by kernel_rfl) S90
      · intro w91 M91
        intro a91 F91 S91
        refine obl_of (by rfl) ?_
        exact s_r (v := .string es[k].fDigest) (r_ld rfl (F91.e (.pointer (some ⟨g22, 18, none⟩))) (v := .string es[k].fDigest) (((Sp.dropM S91.drop).bk 0 rfl).cell 18) Try.underlying9 rfl) S91
      · intro w93 M93
        rintro _ _ ⟨g82, rfl, rfl⟩ hA94
        rintro _ _ ⟨A89, c89, rfl, rfl⟩ hA96
        intro a93 F93 S93
        refine obl_of (by rfl) ?_
        exact sAt_mono (s_p F93 (v := .agg #[.pointer none, .slice A89 es[k].fURLs.length c89, .bool false, .string es[k].fDigest, .string ⟨#[]⟩, .string ⟨#[]⟩, .string ⟨#[]⟩, .string ⟨#[]⟩]) (by kernel_rfl) (by kernel_rfl) (by kernel_rfl) S93) fun _ _ ⟨e1, e2⟩ => ⟨A89, c89, (by kernel_rfl), e1, e2⟩
      · intro w98 M98
        rintro _ _ ⟨g82, rfl, rfl⟩ hA99
        rintro _ _ ⟨A89, c89, rfl, rfl⟩ hA101
        rintro _ _ ⟨A89x, c89x, e6_2, rfl, rfl⟩ hA103
        have e6_2 := envE_at (v := .slice A89 es[k].fURLs.length c89) e6_2 (by kernel_rfl)
        obtain ⟨rfl, rfl⟩ : A89 = A89x ∧ c89 = c89x := by cases e6_2; exact ⟨rfl, rfl⟩
        clear e6_2
        intro a98 F98 S98
        refine obl_of (by rfl) ?_
        exact sAt_mono (s_newp F98 229 #[.pointer none, .slice A89 es[k].fURLs.length c89, .bool false, .string es[k].fDigest, .string ⟨#[]⟩, .string ⟨#[]⟩, .string ⟨#[]⟩, .string ⟨#[]⟩] (by kernel_rfl) (by kernel_rfl) (by kernel_rfl) S98.drop) fun _ _ ⟨g103, e1, e2⟩ => ⟨A89, c89, g103, (by kernel_rfl), e1, e2⟩
      · intro w104 M104
        rintro _ _ ⟨g82, rfl, rfl⟩ hA105
        rintro _ _ ⟨A89, c89, rfl, rfl⟩ hA107
        rintro _ _ ⟨A89x, c89x, e6_2, rfl, rfl⟩ hA109
        have e6_2 := envE_at (v := .slice A89 es[k].fURLs.length c89) e6_2 (by kernel_rfl)
        obtain ⟨rfl, rfl⟩ : A89 = A89x ∧ c89 = c89x := by cases e6_2; exact ⟨rfl, rfl⟩
        clear e6_2
        rintro _ _ ⟨A89x, c89x, g103, e7_2, rfl, rfl⟩ hA110
        have e7_2 := envE_at (v := .slice A89 es[k].fURLs.length c89) e7_2 (by kernel_rfl)
        obtain ⟨rfl, rfl⟩ : A89 = A89x ∧ c89 = c89x := by cases e7_2; exact ⟨rfl, rfl⟩
        clear e7_2
        intro a104 F104 S104
        refine obl_of (by rfl) ?_
        exact sAt_mono (s_p F104 (v := .pointer (some ⟨g103, 0, none⟩)) (by kernel_rfl) (by kernel_rfl) (by kernel_rfl) S104) fun _ _ ⟨e1, e2⟩ => ⟨g103, (by kernel_rfl), e1, e2⟩
    · rintro _ _ ⟨g82, rfl, rfl⟩
      rintro _ _ ⟨A89, c89, rfl, rfl⟩
      rintro _ _ ⟨A89x, c89x, e6_2, rfl, rfl⟩
      have e6_2 := envE_at (v := .slice A89 es[k].fURLs.length c89) e6_2 (by kernel_rfl)
      obtain ⟨rfl, rfl⟩ : A89 = A89x ∧ c89 = c89x := by cases e6_2; exact ⟨rfl, rfl⟩
      clear e6_2
      rintro _ _ ⟨A89x, c89x, g103, e7_2, rfl, rfl⟩
      have e7_2 := envE_at (v := .slice A89 es[k].fURLs.length c89) e7_2 (by kernel_rfl)
      obtain ⟨rfl, rfl⟩ : A89 = A89x ∧ c89 = c89x := by cases e7_2; exact ⟨rfl, rfl⟩
      clear e7_2
      rintro _ _ ⟨g103x, e8_5, rfl, rfl⟩
      have e8_5 := envE_at (v := .pointer (some ⟨g103, 0, none⟩)) e8_5 (by kernel_rfl)
      obtain rfl : g103 = g103x := by cases e8_5; rfl
      clear e8_5
      intro a112 w111 F112 S111
      have S113 : Sp R w111 (SA.blk g103 229 #[.pointer none, .slice A89 es[k].fURLs.length c89, .bool false, .string es[k].fDigest, .string ⟨#[]⟩, .string ⟨#[]⟩, .string ⟨#[]⟩, .string ⟨#[]⟩] :: SA.own0 (.slice A89 es[k].fURLs.length c89) 9 1 es[k].fURLs.length (strs es[k].fURLs) :: SA.blk g82 9 #[] :: SA.blk g22 69 #[.bool es[k].fNil, .bool es[k].fBare, .string es[k].fMeta.fName, .string es[k].fMeta.fHome, .string es[k].fMeta.fVersion, .string es[k].fMeta.fDescription, .string es[k].fMeta.fIcon, .string es[k].fMeta.fAPIVersion, .string es[k].fMeta.fCondition, .string es[k].fMeta.fTags, .string es[k].fMeta.fAppVersion, .string es[k].fMeta.fKubeVersion, .string es[k].fMeta.fType, .slice es[k].fMeta.fSources_a es[k].fMeta.fSources.length es[k].fMeta.fSources_c, .slice es[k].fMeta.fKeywords_a es[k].fMeta.fKeywords.length es[k].fMeta.fKeywords_c, .slice es[k].fMeta.fMaintainers_a es[k].fMeta.fMaintainers.length es[k].fMeta.fMaintainers_c, .slice es[k].fMeta.fDependencies_a es[k].fMeta.fDependencies.length es[k].fMeta.fDependencies_c, .slice es[k].fURLs_a es[k].fURLs.length es[k].fURLs_c, .string es[k].fDigest] :: SA.own (.slice B qs.length b) 154 1 qs.length (pps qs) :: SA.zips SA.ent qs (es.take k) :: L) := S111.drop.p1.drop
      refine wpList_nil ?_
      refine hK52 _ _ ?_; clear hK52 K52
      refine wp_seq_k fun K114 hK114 => ?_
      refine wp_seq_k fun K115 hK115 => ?_
      refine wp_region_lit ?_
      refine op_q F112 (.pointer (some ⟨g22, 1, none⟩)) ?_; intro a116 F116
      refine op_rq (v := .bool es[k].fBare) F116 (r_ld rfl (F116.e (.pointer (some ⟨g22, 1, none⟩))) (v := .bool es[k].fBare) ((S113.bk 3 rfl).cell 1) Try.underlying4 rfl) ?_; intro a117 F117
      refine op_q F117 (.bool (!(es[k].fBare))) ?_; intro a118 F118
      refine wpList_nil ?_
      refine hK115 _ _ ?_; clear hK115 K115
      have hc119 : (es[k].fBare) = false := heb
      have F120 := F118.sb 38 (by kernel_rfl) hc119
      have F121 := F120.sb 39 (by kernel_rfl) (show (!(es[k].fBare)) = true by rw [hc119]; rfl)
      refine wp_cond_true (F121.ev (by kernel_rfl)) ?_
      refine wp_region_lit ?_
      refine op_q F121 (.pointer (some ⟨g103, 0, none⟩)) ?_; intro a122 F122
      refine op_q F122 (.pointer (some ⟨g22, 2, none⟩)) ?_; intro a123 F123
      refine op_rq (v := .agg #[.string es[k].fMeta.fName, .string es[k].fMeta.fHome, .string es[k].fMeta.fVersion, .string es[k].fMeta.fDescription, .string es[k].fMeta.fIcon, .string es[k].fMeta.fAPIVersion, .string es[k].fMeta.fCondition, .string es[k].fMeta.fTags, .string es[k].fMeta.fAppVersion, .string es[k].fMeta.fKubeVersion, .string es[k].fMeta.fType, .slice es[k].fMeta.fSources_a es[k].fMeta.fSources.length es[k].fMeta.fSources_c, .slice es[k].fMeta.fKeywords_a es[k].fMeta.fKeywords.length es[k].fMeta.fKeywords_c, .slice es[k].fMeta.fMaintainers_a es[k].fMeta.fMaintainers.length es[k].fMeta.fMaintainers_c, .slice es[k].fMeta.fDependencies_a es[k].fMeta.fDependencies.length es[k].fMeta.fDependencies_c]) F123 (r_ldm rfl (F123.e (.pointer (some ⟨g22, 2, none⟩))) (S113.bk 3 rfl) 15 (by kernel_rfl) Try.underlying26 rfl (by kernel_rfl) (v := #[.string es[k].fMeta.fName, .string es[k].fMeta.fHome, .string es[k].fMeta.fVersion, .string es[k].fMeta.fDescription, .string es[k].fMeta.fIcon, .string es[k].fMeta.fAPIVersion, .string es[k].fMeta.fCondition, .string es[k].fMeta.fTags, .string es[k].fMeta.fAppVersion, .string es[k].fMeta.fKubeVersion, .string es[k].fMeta.fType, .slice es[k].fMeta.fSources_a es[k].fMeta.fSources.length es[k].fMeta.fSources_c, .slice es[k].fMeta.fKeywords_a es[k].fMeta.fKeywords.length es[k].fMeta.fKeywords_c, .slice es[k].fMeta.fMaintainers_a es[k].fMeta.fMaintainers.length es[k].fMeta.fMaintainers_c, .slice es[k].fMeta.fDependencies_a es[k].fMeta.fDependencies.length es[k].fMeta.fDependencies_c]) (by kernel_rfl)) ?_; intro a124 F124
      refine op_cq F124 (f := 95) (args := #[.agg #[.string es[k].fMeta.fName, .string es[k].fMeta.fHome, .string es[k].fMeta.fVersion, .string es[k].fMeta.fDescription, .string es[k].fMeta.fIcon, .string es[k].fMeta.fAPIVersion, .string es[k].fMeta.fCondition, .string es[k].fMeta.fTags, .string es[k].fMeta.fAppVersion, .string es[k].fMeta.fKubeVersion, .string es[k].fMeta.fType, .slice es[k].fMeta.fSources_a es[k].fMeta.fSources.length es[k].fMeta.fSources_c, .slice es[k].fMeta.fKeywords_a es[k].fMeta.fKeywords.length es[k].fMeta.fKeywords_c, .slice es[k].fMeta.fMaintainers_a es[k].fMeta.fMaintainers.length es[k].fMeta.fMaintainers_c, .slice es[k].fMeta.fDependencies_a es[k].fMeta.fDependencies.length es[k].fMeta.fDependencies_c]]) (metaOf_m es[k].fMeta _ _ _ S113 (fun w S => hkm w S.drop.drop.drop.drop.drop.drop) (by first | omega | (simp; done) | (simp; omega)) (by first | omega | (simp; done) | (simp; omega)) (by first | omega | (simp; done) | (simp; omega)) (by first | omega | (simp; done) | (simp; omega)) (by first | omega | (simp; done) | (simp; omega))) ?_
      rintro _ w125 ⟨g125, rfl, S125⟩
      refine ⟨_, rfl, ?_⟩
      intro a126 F126
      refine op_q F126 (.pointer (some ⟨g103, 0, none⟩)) ?_; intro a127 F127
      refine op_q F127 (.pointer (some ⟨g103, 0, none⟩)) ?_; intro a128 F128
      refine op_sq0 F128 (s_st rfl (F128.e (.pointer (some ⟨g103, 0, none⟩))) (F128.e (.pointer (some ⟨g125, 0, none⟩))) S125.p1 (by kernel_rfl) rfl rfl rfl (cs := #[.pointer (some ⟨g125, 0, none⟩), .slice A89 es[k].fURLs.length c89, .bool false, .string es[k].fDigest, .string ⟨#[]⟩, .string ⟨#[]⟩, .string ⟨#[]⟩, .string ⟨#[]⟩]) (by kernel_rfl)) ?_
      rintro _ _ w129 rfl S129 F129
      refine wpList_nil ?_
      refine hK114 _ _ ?_; clear hK114 K114
      refine wp_region_lit ?_
      refine op_q F129 (.slice B qs.length b) ?_; intro a130 F130
      refine op_q F130 (.pointer (some ⟨g103, 0, none⟩)) ?_; intro a131 F131
      refine op_sq F131 (s_news F131 154 #[.pointer (some ⟨g103, 0, none⟩)] 1 (by kernel_rfl) (by kernel_rfl) (by kernel_rfl) S129) ?_
      rintro _ _ w133 ⟨g131, rfl, rfl⟩ S133 a133 F133
      refine op_sq F133 (s_app rfl Try.underlying151 1 _ tin154 rfl rfl (F133.e (.slice B qs.length b)) S133.p6 ([Value.pointer (some ⟨g103, 0, none⟩)]) (F133.e (.slice (some ⟨g131, 0, none⟩) 1 1)) ((S133.bk 0 rfl).sl (by simp)) rfl (by simp [Value.oneCell']) (by omega) (by omega) (n' := (qs ++ [some (⟨g103, 0, none⟩ : Addr)]).length) (by first | (simp; done) | (simp; omega)) (cs' := pps (qs ++ [some (⟨g103, 0, none⟩ : Addr)])) (by simp [pps])) ?_
      rintro _ _ w135 ⟨A134, c134, rfl, rfl⟩ S135 a135 F135
      refine op_q F135 (.slice A134 ((qs ++ [some (⟨g103, 0, none⟩ : Addr)]).length) c134) ?_; intro a136 F136
      refine wpList_nil ?_
      refine hK19 _ _ ?_; clear hK19 K19
      refine wp_region_lit ?_
      refine op_rq (v := .int .i64 (↑(k + 1))) F136 (r_add (z := ↑(k + 1)) rfl (F136.e (.int .i64 (↑k))) (F136.e (.int .i64 1)) (wr64 (by omega) (by omega) (by omega))) ?_; intro a137 F137
      refine op_q F137 (.int .i64 (↑(k + 1))) ?_; intro a138 F138
      refine wpList_nil ?_
      have S139 : Sp R w135 (SA.ent (some (⟨g103, 0, none⟩ : Addr)) es[k] :: SA.own (.slice A134 ((qs ++ [some (⟨g103, 0, none⟩ : Addr)]).length) c134) 154 1 ((qs ++ [some (⟨g103, 0, none⟩ : Addr)]).length) (pps (qs ++ [some (⟨g103, 0, none⟩ : Addr)])) :: SA.blk g131 154 #[.pointer (some ⟨g103, 0, none⟩)] :: SA.blk g82 9 #[] :: SA.blk g22 69 #[.bool es[k].fNil, .bool es[k].fBare, .string es[k].fMeta.fName, .string es[k].fMeta.fHome, .string es[k].fMeta.fVersion, .string es[k].fMeta.fDescription, .string es[k].fMeta.fIcon, .string es[k].fMeta.fAPIVersion, .string es[k].fMeta.fCondition, .string es[k].fMeta.fTags, .string es[k].fMeta.fAppVersion, .string es[k].fMeta.fKubeVersion, .string es[k].fMeta.fType, .slice es[k].fMeta.fSources_a es[k].fMeta.fSources.length es[k].fMeta.fSources_c, .slice es[k].fMeta.fKeywords_a es[k].fMeta.fKeywords.length es[k].fMeta.fKeywords_c, .slice es[k].fMeta.fMaintainers_a es[k].fMeta.fMaintainers.length es[k].fMeta.fMaintainers_c, .slice es[k].fMeta.fDependencies_a es[k].fMeta.fDependencies.length es[k].fMeta.fDependencies_c, .slice es[k].fURLs_a es[k].fURLs.length es[k].fURLs_c, .string es[k].fDigest] :: SA.zips SA.ent qs (es.take k) :: L) := Sp.ent_mk hen heb S135.p3.p4.p4
      have S140 : Sp R w135 (SA.zips SA.ent (qs ++ [some (⟨g103, 0, none⟩ : Addr)]) (es.take (k + 1)) :: SA.own (.slice A134 ((qs ++ [some (⟨g103, 0, none⟩ : Addr)]).length) c134) 154 1 ((qs ++ [some (⟨g103, 0, none⟩ : Addr)]).length) (pps (qs ++ [some (⟨g103, 0, none⟩ : Addr)])) :: SA.blk g131 154 #[.pointer (some ⟨g103, 0, none⟩)] :: SA.blk g82 9 #[] :: SA.blk g22 69 #[.bool es[k].fNil, .bool es[k].fBare, .string es[k].fMeta.fName, .string es[k].fMeta.fHome, .string es[k].fMeta.fVersion, .string es[k].fMeta.fDescription, .string es[k].fMeta.fIcon, .string es[k].fMeta.fAPIVersion, .string es[k].fMeta.fCondition, .string es[k].fMeta.fTags, .string es[k].fMeta.fAppVersion, .string es[k].fMeta.fKubeVersion, .string es[k].fMeta.fType, .slice es[k].fMeta.fSources_a es[k].fMeta.fSources.length es[k].fMeta.fSources_c, .slice es[k].fMeta.fKeywords_a es[k].fMeta.fKeywords.length es[k].fMeta.fKeywords_c, .slice es[k].fMeta.fMaintainers_a es[k].fMeta.fMaintainers.length es[k].fMeta.fMaintainers_c, .slice es[k].fMeta.fDependencies_a es[k].fMeta.fDependencies.length es[k].fMeta.fDependencies_c, .slice es[k].fURLs_a es[k].fURLs.length es[k].fURLs_c, .string es[k].fDigest] :: L) := by rw [List.take_succ_eq_append_getElem hlt_k]; exact Sp.zsnoc S139.p5.p1
      exact hK13 _ _ _ (by first | omega | (simp; omega)) ⟨A134, c134, qs ++ [some (⟨g103, 0, none⟩ : Addr)], k + 1, rfl, (F138.kk 0 (F138.kk 4 (F138.kk 8 (F138.kk 9 (F138.kk 10 F138.nil))))), S140.p2.drop.p2.drop.p2.drop.p1, (by first | omega | (with_reducible assumption) | (simp; done)), (by simp [hql])⟩
  · have hc_k : decide ((↑k : Int) < ↑es.length) = false := by first | (simp; done) | (simp; omega)
    obtain rfl : k = es.length := by omega
    rw [List.take_length] at S13
    refine wp_seq_k fun K141 hK141 => ?_
    refine wp_region_lit ?_
    refine op_q F13 (.bool (decide ((↑es.length : Int) < ↑es.length))) ?_; intro a142 F142
    have F143 := F142.sb 11 (by kernel_rfl) hc_k
    refine wpList_nil ?_
    refine hK141 _ _ ?_; clear hK141 K141
    refine wp_seq_k fun K144 hK144 => ?_
    refine wp_cond_false (F143.ev (by kernel_rfl)) ?_
    refine wp_exit ?_
    refine ex_then ?_; clear hK144 K144
    refine ex_then ?_
    refine ex_in ?_
    refine hK6 _ _ ?_; clear hK6 K6
    refine wp_seq_k fun K145 hK145 => ?_
    refine wp_region_lit ?_
    refine op_q F143 (.slice B qs.length b) ?_; intro a146 F146
    refine op_q F146 (.slice (A) (es.length) (c)) ?_; intro a147 F147
    refine op_q F147 (.int .i64 (↑es.length)) ?_; intro a148 F148
    refine op_q F148 (.bool (decide ((↑es.length : Int) ≤ 200))) ?_; intro a149 F149
    refine op_q F149 (.slice B qs.length b) ?_; intro a150 F150
    refine op_q F150 (.bool (decide ((↑es.length : Int) ≤ 200))) ?_; intro a151 F151
    refine wpList_nil ?_
    refine hK145 _ _ ?_; clear hK145 K145
    refine wp_ret ?_
    refine (F151.res2 rfl (v := .slice B qs.length b) (by kernel_rfl) (v2 := .bool (decide ((↑es.length : Int) ≤ 200))) (by kernel_rfl) ?_).1
    exact ⟨B, b, qs, (by rw [show decide ((↑es.length : Int) ≤ 200) = true from decide_eq_true (by omega)]), S13.p1.p1⟩
set_option maxRecDepth 100000 in
set_option maxHeartbeats 20000000 in
theorem entryTold_sp (x : Ty69) (g : Nat) (gm : Nat) (A : Option Addr) (c : Nat) (R : Ctx) (L : List SA) (w : World) (S : Sp R w (SA.met gm x.fMeta :: L)) (h0 : Rf R L fun w => Blk w (g) 229 #[.pointer (some ⟨gm, 0, none⟩), .slice (A) (x.fURLs.length) (c), .bool false, .string (x.fDigest), .string ⟨#[]⟩, .string ⟨#[]⟩, .string ⟨#[]⟩, .string ⟨#[]⟩]) (h1 : Rf R L fun w => Sl w (A) (strs x.fURLs)) (hm1 : x.fMeta.fSources.length ≤ 1000000) (hm2 : x.fMeta.fKeywords.length ≤ 1000000) (hm3 : x.fMeta.fMaintainers.length ≤ 1000000) (hm4 : x.fMeta.fDependencies.length ≤ 1000000) (hm5 : ∀ d ∈ x.fMeta.fDependencies, d.fTags.length ≤ 1000000) (hu : x.fURLs.length ≤ 1000000) :
    Calls Try.prog 87 #[.pointer (some ⟨g, 0, none⟩)] w fun e w' => ∃ B1 : Option Addr, ∃ b1 : Nat, ∃ B2 : Option Addr, ∃ b2 : Nat, ∃ B3 : Option Addr, ∃ b3 : Nat, ∃ B4 : Option Addr, ∃ b4 : Nat, ∃ B5 : Option Addr, ∃ b5 : Nat, e = .returned (.agg #[.bool false, .bool false, .string x.fMeta.fName, .string x.fMeta.fHome, .string x.fMeta.fVersion, .string x.fMeta.fDescription, .string x.fMeta.fIcon, .string x.fMeta.fAPIVersion, .string x.fMeta.fCondition, .string x.fMeta.fTags, .string x.fMeta.fAppVersion, .string x.fMeta.fKubeVersion, .string x.fMeta.fType, .slice B1 (x.fMeta.fSources.length) b1, .slice B2 (x.fMeta.fKeywords.length) b2, .slice B3 (x.fMeta.fMaintainers.length) b3, .slice B4 (x.fMeta.fDependencies.length) b4, .slice B5 (x.fURLs.length) b5, .string x.fDigest]) ∧ Sp R w' (SA.mvx x.fMeta B1 b1 B2 b2 B3 b3 B4 b4 :: SA.own0 (.slice B5 x.fURLs.length b5) 9 1 (x.fURLs.length) (strs x.fURLs) :: SA.met gm x.fMeta :: L) := by
  have hl_x_fURLs : x.fURLs.length ≤ 9223372036854775807 := by have := (h1 _ S.drop).1; simpa [strs, ptrs, pps] using this
  refine fw_enter (fn := Try.f87) rfl rfl 27 rfl (Nat.le_of_ble_eq_true rfl) ?_
  intro a0 F0
  refine wp_seq_k fun K1 hK1 => ?_
  refine wp_region_lit ?_
  refine op_sq F0 (s_newp F0 69 #[.bool false, .bool false, .string ⟨#[]⟩, .string ⟨#[]⟩, .string ⟨#[]⟩, .string ⟨#[]⟩, .string ⟨#[]⟩, .string ⟨#[]⟩, .string ⟨#[]⟩, .string ⟨#[]⟩, .string ⟨#[]⟩, .string ⟨#[]⟩, .string ⟨#[]⟩, .slice none 0 0, .slice none 0 0, .slice none 0 0, .slice none 0 0, .slice none 0 0, .string ⟨#[]⟩] (by kernel_rfl) (by kernel_rfl) (by kernel_rfl) S) ?_
  rintro _ _ w3 ⟨g1, rfl, rfl⟩ S3 a3 F3
  refine wpList_nil ?_
  refine hK1 _ _ ?_; clear hK1 K1
  refine wp_seq_k fun K4 hK4 => ?_
  refine wp_seq_k fun K5 hK5 => ?_
  refine wp_region_lit ?_
  refine op_q F3 (.pointer (some ⟨g, 0, none⟩)) ?_; intro a6 F6
  refine op_q F6 (.bool false) ?_; intro a7 F7
  refine wpList_nil ?_
  refine hK5 _ _ ?_; clear hK5 K5
  refine wp_cond_false (F7.ev (by kernel_rfl)) ?_
  refine wp_skip ?_
  refine hK4 _ _ ?_; clear hK4 K4
  refine wp_seq_k fun K8 hK8 => ?_
  refine wp_region_sepF (L0 := SA.blk g1 69 #[.bool false, .bool false, .string ⟨#[]⟩, .string ⟨#[]⟩, .string ⟨#[]⟩, .string ⟨#[]⟩, .string ⟨#[]⟩, .string ⟨#[]⟩, .string ⟨#[]⟩, .string ⟨#[]⟩, .string ⟨#[]⟩, .string ⟨#[]⟩, .string ⟨#[]⟩, .slice none 0 0, .slice none 0 0, .slice none 0 0, .slice none 0 0, .slice none 0 0, .string ⟨#[]⟩] :: L) [some [], some [(0, 6)], some [(1, 7)], some [(2, 8)], some [(3, 9)], some [], some [(5, 11)], some [(6, 12)], some [(7, 13)], some [(8, 14)], some [], some [], some [(11, 17)], some [(12, 18)], some [(13, 19)], some [(10, 16), (14, 20)], some [], some [(16, 22)], some [(17, 23)], some [(18, 24)], some [(4, 10), (8, 14), (9, 15), (10, 16), (14, 20), (15, 21), (19, 25)], none] [.v 6 (.pointer (some ⟨g, 0, none⟩)), .v 7 (.pointer (some ⟨g, 0, none⟩)), .v 8 (.pointer (some ⟨g, 0, none⟩)), .v 9 (.pointer (some ⟨gm, 0, none⟩)), .v 10 (.bool false), .v 11 (.pointer (some ⟨g, 0, none⟩)), .v 12 (.pointer (some ⟨g, 0, none⟩)), .v 13 (.pointer (some ⟨g, 0, none⟩)), .v 14 (.pointer (some ⟨gm, 0, none⟩)), .p 15 (SA.met gm x.fMeta) (fun _ vv AA => ∃ B173 : Option Addr, ∃ b173 : Nat, ∃ B273 : Option Addr, ∃ b273 : Nat, ∃ B373 : Option Addr, ∃ b373 : Nat, ∃ B473 : Option Addr, ∃ b473 : Nat, vv = .agg #[.string x.fMeta.fName, .string x.fMeta.fHome, .string x.fMeta.fVersion, .string x.fMeta.fDescription, .string x.fMeta.fIcon, .string x.fMeta.fAPIVersion, .string x.fMeta.fCondition, .string x.fMeta.fTags, .string x.fMeta.fAppVersion, .string x.fMeta.fKubeVersion, .string x.fMeta.fType, .slice B173 (x.fMeta.fSources.length) b173, .slice B273 (x.fMeta.fKeywords.length) b273, .slice B373 (x.fMeta.fMaintainers.length) b373, .slice B473 (x.fMeta.fDependencies.length) b473] ∧ AA = SA.stars [SA.mvx x.fMeta B173 b173 B273 b273 B373 b373 B473 b473, SA.met gm x.fMeta]), .p 16 (SA.emp) (fun _ vv AA => ∃ g74 : Nat, vv = .slice (some ⟨g74, 0, none⟩) 0 0 ∧ AA = SA.blk g74 9 #[]), .v 17 (.pointer (some ⟨g, 0, none⟩)), .v 18 (.pointer (some ⟨g, 0, none⟩)), .v 19 (.pointer (some ⟨g, 1, none⟩)), .v 20 (.slice (A) (x.fURLs.length) (c)), .p 21 (SA.emp) (fun _ vv AA => ∃ A85 : Option Addr, ∃ c85 : Nat, vv = .slice A85 x.fURLs.length c85 ∧ AA = SA.own0 (.slice A85 x.fURLs.length c85) 9 1 x.fURLs.length (strs x.fURLs)), .v 22 (.pointer (some ⟨g, 0, none⟩)), .v 23 (.pointer (some ⟨g, 0, none⟩)), .v 24 (.pointer (some ⟨g, 3, none⟩)), .v 25 (.string x.fDigest), .p 26 (SA.emp) (fun env vv AA => ∃ B173x : Option Addr, ∃ b173x : Nat, ∃ B273x : Option Addr, ∃ b273x : Nat, ∃ B373x : Option Addr, ∃ b373x : Nat, ∃ B473x : Option Addr, ∃ b473x : Nat, ∃ A85x : Option Addr, ∃ c85x : Nat, (env.getD 2 undef) = .agg #[.string x.fMeta.fName, .string x.fMeta.fHome, .string x.fMeta.fVersion, .string x.fMeta.fDescription, .string x.fMeta.fIcon, .string x.fMeta.fAPIVersion, .string x.fMeta.fCondition, .string x.fMeta.fTags, .string x.fMeta.fAppVersion, .string x.fMeta.fKubeVersion, .string x.fMeta.fType, .slice B173x (x.fMeta.fSources.length) b173x, .slice B273x (x.fMeta.fKeywords.length) b273x, .slice B373x (x.fMeta.fMaintainers.length) b373x, .slice B473x (x.fMeta.fDependencies.length) b473x] ∧ (env.getD 5 undef) = .slice A85x x.fURLs.length c85x ∧ vv = .agg #[.bool false, .bool false, .string x.fMeta.fName, .string x.fMeta.fHome, .string x.fMeta.fVersion, .string x.fMeta.fDescription, .string x.fMeta.fIcon, .string x.fMeta.fAPIVersion, .string x.fMeta.fCondition, .string x.fMeta.fTags, .string x.fMeta.fAppVersion, .string x.fMeta.fKubeVersion, .string x.fMeta.fType, .slice B173x (x.fMeta.fSources.length) b173x, .slice B273x (x.fMeta.fKeywords.length) b273x, .slice B373x (x.fMeta.fMaintainers.length) b373x, .slice B473x (x.fMeta.fDependencies.length) b473x, .slice A85x x.fURLs.length c85x, .string x.fDigest] ∧ AA = SA.emp), .n SA.emp (fun _ _ A => A = SA.emp)] [] F7 rfl (by kernel_rfl) S3.p1.emp.emp.emp.p3 ?_ ?_
  · refine ⟨?_, ?_, ?_, ?_, ?_, ?_, ?_, ?_, ?_, ?_, ?_, ?_, ?_, ?_, ?_, ?_, ?_, ?_, ?_, ?_, ?_, trivial⟩
    · intro w55 M55
      intro a55 F55 S55
      refine obl_of (by rfl) ?_
      exact s_p F55 (v := .pointer (some ⟨g, 0, none⟩)) (by kernel_rfl) (by kernel_rfl) (by kernel_rfl) S55
    · intro w56 M56
      intro a56 F56 S56
      refine obl_of (by rfl) ?_
      exact s_p F56 (v := .pointer (some ⟨g, 0, none⟩)) (by kernel_rfl) (by kernel_rfl) (by kernel_rfl) S56
    · intro w58 M58
      intro a58 F58 S58
      refine obl_of (by rfl) ?_
      exact s_p F58 (v := .pointer (some ⟨g, 0, none⟩)) (by kernel_rfl) (by kernel_rfl) (by kernel_rfl) S58
    · intro w60 M60
      intro a60 F60 S60
      refine obl_of (by rfl) ?_
      exact s_r (v := .pointer (some ⟨gm, 0, none⟩)) (r_ld rfl (F60.e (.pointer (some ⟨g, 0, none⟩))) (v := .pointer (some ⟨gm, 0, none⟩)) ((h0 _ (Sp.dropM S60.drop).drop).cell 0) Try.underlying163 rfl) S60
    · intro w62 M62
      intro a62 F62 S62
      refine obl_of (by rfl) ?_
      exact s_p F62 (v := .bool false) (by kernel_rfl) (by kernel_rfl) (by kernel_rfl) S62
    · intro w64 M64
      intro a64 F64 S64
      refine obl_of (by rfl) ?_
      exact s_p F64 (v := .pointer (some ⟨g, 0, none⟩)) (by kernel_rfl) (by kernel_rfl) (by kernel_rfl) S64
    · intro w65 M65
      intro a65 F65 S65
      refine obl_of (by rfl) ?_
      exact s_p F65 (v := .pointer (some ⟨g, 0, none⟩)) (by kernel_rfl) (by kernel_rfl) (by kernel_rfl) S65
    · intro w67 M67
      intro a67 F67 S67
      refine obl_of (by rfl) ?_
      exact s_p F67 (v := .pointer (some ⟨g, 0, none⟩)) (by kernel_rfl) (by kernel_rfl) (by kernel_rfl) S67
    · intro w69 M69
      intro a69 F69 S69
      refine obl_of (by rfl) ?_
      exact s_r (v := .pointer (some ⟨gm, 0, none⟩)) (r_ld rfl (F69.e (.pointer (some ⟨g, 0, none⟩))) (v := .pointer (some ⟨gm, 0, none⟩)) ((h0 _ (Sp.dropM S69.drop).drop).cell 0) Try.underlying163 rfl) S69
    · intro w71 M71
      intro a71 F71 S71
      refine obl_of (by rfl) ?_
      refine s_c F71 (f := 117) (args := #[.pointer (some ⟨gm, 0, none⟩)]) (by kernel_rfl) (by kernel_rfl) (by kernel_rfl) (metaTold_f x.fMeta gm _ _ _ S71 (by first | omega | (simp; done) | (simp; omega)) (by first | omega | (simp; done) | (simp; omega)) (by first | omega | (simp; done) | (simp; omega)) (by first | omega | (simp; done) | (simp; omega)) (by first | omega | (simp; done) | (simp; omega))) ?_
      rintro _ _ ⟨B173, b173, B273, b273, B373, b373, B473, b473, rfl, S73⟩
      exact ⟨_, _, rfl, ⟨B173, b173, B273, b273, B373, b373, B473, b473, rfl, rfl⟩, Sp.stars.2 S73⟩
    · intro w74 M74
      intro a74 F74 S74
      refine obl_of (by rfl) ?_
      exact s_news F74 9 #[] 0 (by kernel_rfl) (by kernel_rfl) (by kernel_rfl) S74.drop
    · intro w75 M75
      intro a75 F75 S75
      refine obl_of (by rfl) ?_
      exact s_p F75 (v := .pointer (some ⟨g, 0, none⟩)) (by kernel_rfl) (by kernel_rfl) (by kernel_rfl) S75
    · intro w76 M76
      intro a76 F76 S76
      refine obl_of (by rfl) ?_
      exact s_p F76 (v := .pointer (some ⟨g, 0, none⟩)) (by kernel_rfl) (by kernel_rfl) (by kernel_rfl) S76
    · intro w78 M78
      intro a78 F78 S78
      refine obl_of (by rfl) ?_
      exact s_p F78 (v := .pointer (some ⟨g, 1, none⟩)) (by kernel_rfl) (by kernel_rfl) (by kernel_rfl) S78
    · intro w80 M80
      intro a80 F80 S80
      refine obl_of (by rfl) ?_
      exact s_r (v := .slice (A) (x.fURLs.length) (c)) (r_ld rfl (F80.e (.pointer (some ⟨g, 1, none⟩))) (v := .slice (A) (x.fURLs.length) (c)) ((h0 _ (Sp.dropM S80.drop).drop).cell 1) Try.underlying22 rfl) S80
    · intro w82 M82
      rintro _ _ ⟨g74, rfl, rfl⟩ hA83
      intro a82 F82 S82
      refine obl_of (by rfl) ?_
      exact s_app0 rfl Try.underlying22 1 _ tin9 rfl rfl (F82.e (.slice (some ⟨g74, 0, none⟩) 0 0)) S82.drop (strs x.fURLs) (F82.e (.slice (A) (x.fURLs.length) (c))) (h1 _ (Sp.dropM S82.drop).drop) (by first | (simp [strs, ptrs, pps]; done) | (simp [strs, ptrs, pps]; omega)) (by omega) (by omega)
    · intro w86 M86
      intro a86 F86 S86
      refine obl_of (by rfl) ?_
      exact s_p F86 (v := .pointer (some ⟨g, 0, none⟩)) (by kernel_rfl) (by kernel_rfl) (by kernel_rfl) S86
    · intro w87 M87
      intro a87 F87 S87
      refine obl_of (by rfl) ?_
      exact s_p F87 (v := .pointer (some ⟨g, 0, none⟩)) (by kernel_rfl) (by kernel_rfl) (by kernel_rfl) S87
    · intro w89 M89
      intro a89 F89 S89
      refine obl_of (by rfl) ?_
      exact s_p F89 (v := .pointer (some ⟨g, 3, none⟩)) (by kernel_rfl) (by kernel_rfl) (by kernel_rfl) S89
    · intro w91 M91
      intro a91 F91 S91
      refine obl_of (by rfl) ?_
      exact s_r (v := .string x.fDigest) (r_ld rfl (F91.e (.pointer (some ⟨g, 3, none⟩))) (v := .string x.fDigest) ((h0 _ (Sp.dropM S91.drop).drop).cell 3) Try.underlying9 rfl) S91
    · intro w93 M93
      rintro _ _ ⟨B173, b173, B273, b273, B373, b373, B473, b473, rfl, rfl⟩ hA96
      rintro _ _ ⟨g74, rfl, rfl⟩ hA97
      rintro _ _ ⟨A85, c85, rfl, rfl⟩ hA99
      intro a93 F93 S93
      refine obl_of (by rfl) ?_
      exact sAt_mono (s_p F93 (v := .agg #[.bool false, .bool false, .string x.fMeta.fName, .string x.fMeta.fHome, .string x.fMeta.fVersion, .string x.fMeta.fDescription, .string x.fMeta.fIcon, .string x.fMeta.fAPIVersion, .string x.fMeta.fCondition, .string x.fMeta.fTags, .string x.fMeta.fAppVersion, .string x.fMeta.fKubeVersion, .string x.fMeta.fType, .slice B173 (x.fMeta.fSources.length) b173, .slice B273 (x.fMeta.fKeywords.length) b273, .slice B373 (x.fMeta.fMaintainers.length) b373, .slice B473 (x.fMeta.fDependencies.length) b473, .slice A85 x.fURLs.length c85, .string x.fDigest]) (by kernel_rfl) (by kernel_rfl) (by kernel_rfl) S93) fun _ _ ⟨e1, e2⟩ => ⟨B173, b173, B273, b273, B373, b373, B473, b473, A85, c85, (by kernel_rfl), (by kernel_rfl), e1, e2⟩
  · rintro _ _ ⟨B173, b173, B273, b273, B373, b373, B473, b473, rfl, rfl⟩
    rintro _ _ ⟨g74, rfl, rfl⟩
    rintro _ _ ⟨A85, c85, rfl, rfl⟩
    rintro _ _ ⟨B173x, b173x, B273x, b273x, B373x, b373x, B473x, b473x, A85x, c85x, e20_2, e20_5, rfl, rfl⟩
    have e20_2 := envE_at (v := .agg #[.string x.fMeta.fName, .string x.fMeta.fHome, .string x.fMeta.fVersion, .string x.fMeta.fDescription, .string x.fMeta.fIcon, .string x.fMeta.fAPIVersion, .string x.fMeta.fCondition, .string x.fMeta.fTags, .string x.fMeta.fAppVersion, .string x.fMeta.fKubeVersion, .string x.fMeta.fType, .slice B173 (x.fMeta.fSources.length) b173, .slice B273 (x.fMeta.fKeywords.length) b273, .slice B373 (x.fMeta.fMaintainers.length) b373, .slice B473 (x.fMeta.fDependencies.length) b473]) e20_2 (by kernel_rfl)
    have e20_5 := envE_at (v := .slice A85 x.fURLs.length c85) e20_5 (by kernel_rfl)
    obtain ⟨rfl, rfl, rfl, rfl, rfl, rfl, rfl, rfl, rfl, rfl⟩ : B173 = B173x ∧ b173 = b173x ∧ B273 = B273x ∧ b273 = b273x ∧ B373 = B373x ∧ b373 = b373x ∧ B473 = B473x ∧ b473 = b473x ∧ A85 = A85x ∧ c85 = c85x := by cases e20_2; cases e20_5; exact ⟨rfl, rfl, rfl, rfl, rfl, rfl, rfl, rfl, rfl, rfl⟩
    clear e20_2 e20_5
    intro a102 w101 F102 S101
    have S103 : Sp R w101 (SA.own0 (.slice A85 x.fURLs.length c85) 9 1 x.fURLs.length (strs x.fURLs) :: SA.blk g74 9 #[] :: SA.stars [SA.mvx x.fMeta B173 b173 B273 b273 B373 b373 B473 b473, SA.met gm x.fMeta] :: SA.blk g1 69 #[.bool false, .bool false, .string ⟨#[]⟩, .string ⟨#[]⟩, .string ⟨#[]⟩, .string ⟨#[]⟩, .string ⟨#[]⟩, .string ⟨#[]⟩, .string ⟨#[]⟩, .string ⟨#[]⟩, .string ⟨#[]⟩, .string ⟨#[]⟩, .string ⟨#[]⟩, .slice none 0 0, .slice none 0 0, .slice none 0 0, .slice none 0 0, .slice none 0 0, .string ⟨#[]⟩] :: L) := S101.drop
    have S104 := Sp.stars.1 (S103.p2)
    refine op_sq0 F102 (s_stb rfl (F102.e (.pointer (some ⟨g1, 0, none⟩))) (F102.e (.agg #[.bool false, .bool false, .string x.fMeta.fName, .string x.fMeta.fHome, .string x.fMeta.fVersion, .string x.fMeta.fDescription, .string x.fMeta.fIcon, .string x.fMeta.fAPIVersion, .string x.fMeta.fCondition, .string x.fMeta.fTags, .string x.fMeta.fAppVersion, .string x.fMeta.fKubeVersion, .string x.fMeta.fType, .slice B173 (x.fMeta.fSources.length) b173, .slice B273 (x.fMeta.fKeywords.length) b273, .slice B373 (x.fMeta.fMaintainers.length) b373, .slice B473 (x.fMeta.fDependencies.length) b473, .slice A85 x.fURLs.length c85, .string x.fDigest])) S104.p4 (by kernel_rfl) rfl (by kernel_rfl)) ?_
    rintro _ _ w105 rfl S105 F105
    refine wpList_nil ?_
    refine hK8 _ _ ?_; clear hK8 K8
    refine wp_ret ?_
    refine (F105.resC (results1 (v := .agg #[.bool false, .bool false, .string x.fMeta.fName, .string x.fMeta.fHome, .string x.fMeta.fVersion, .string x.fMeta.fDescription, .string x.fMeta.fIcon, .string x.fMeta.fAPIVersion, .string x.fMeta.fCondition, .string x.fMeta.fTags, .string x.fMeta.fAppVersion, .string x.fMeta.fKubeVersion, .string x.fMeta.fType, .slice B173 (x.fMeta.fSources.length) b173, .slice B273 (x.fMeta.fKeywords.length) b273, .slice B373 (x.fMeta.fMaintainers.length) b373, .slice B473 (x.fMeta.fDependencies.length) b473, .slice A85 x.fURLs.length c85, .string x.fDigest]) Try.results87 (F105.rvc (p := ⟨g1, 0, none⟩) (by kernel_rfl) (ld_mid (S105.bk 0 rfl) 19 (by kernel_rfl) Try.underlying69 rfl (by kernel_rfl) (v := #[.bool false, .bool false, .string x.fMeta.fName, .string x.fMeta.fHome, .string x.fMeta.fVersion, .string x.fMeta.fDescription, .string x.fMeta.fIcon, .string x.fMeta.fAPIVersion, .string x.fMeta.fCondition, .string x.fMeta.fTags, .string x.fMeta.fAppVersion, .string x.fMeta.fKubeVersion, .string x.fMeta.fType, .slice B173 (x.fMeta.fSources.length) b173, .slice B273 (x.fMeta.fKeywords.length) b273, .slice B373 (x.fMeta.fMaintainers.length) b373, .slice B473 (x.fMeta.fDependencies.length) b473, .slice A85 x.fURLs.length c85, .string x.fDigest]) (by kernel_rfl)))) ?_).1
    exact ⟨B173, b173, B273, b273, B373, b373, B473, b473, A85, c85, rfl, S105.drop.p3.drop.p1.p2.p2⟩
end Go.Proofs.Ytkjcedlgljeoiaa

/- Contracts: transform, ZzTransform, Transform. -/
namespace Go.Proofs.Ytkjcedlgljeoiaa
open Go.RowKit Go.Lib

abbrev markS : ByteArray := ⟨#[60, 67, 72, 65, 82, 84, 78, 65, 77, 69, 62]⟩
end Go.Proofs.Ytkjcedlgljeoiaa

/- FnHlTransform: the plain law and the walk. -/
namespace Go.Proofs.Ytkjcedlgljeoiaa
open Go.RowKit Go.Lib

/-- No byte of s is '<'. -/
def noLt (s : ByteArray) : Prop := ∀ j, ∀ h : j < s.size, s[j].toNat ≠ 60
end Go.Proofs.Ytkjcedlgljeoiaa

/- Contracts: hlShort, hlSame, hlPieces, HlLines. -/
namespace Go.Proofs.Ytkjcedlgljeoiaa
open Go.RowKit Go.Lib

def shortS (s : ByteArray) : Bool := decide (s.size ≤ 100) && s.data.toList.all fun c => decide (c.toNat ≤ 127)
def shortB (xs : List ByteArray) : Bool := decide (xs.length ≤ 30) && xs.all shortS

end Go.Proofs.Ytkjcedlgljeoiaa

/- spec.HlPlain, laws.hlWord, plain.Base; plain versions and their pieces. -/
namespace Go.Proofs.Ytkjcedlgljeoiaa
open Go.RowKit Go.Lib
set_option linter.unusedVariables false
set_option linter.unusedSimpArgs false
def catL (c : UInt8) : List ByteArray → List UInt8
  | [] => []
  | [x] => x.data.toList
  | x :: y :: l => x.data.toList ++ c :: catL c (y :: l)
theorem bytes_eqL {a b : ByteArray} (h : (a.toList == b.toList) = true) : a = b := by
  have e := eq_of_beq h
  rw [Go.ByteArray.toList_eq, Go.ByteArray.toList_eq] at e
  exact ByteArray.ext (Array.toList_inj.1 e)
def okN (p : ByteArray) : Bool := decide (0 < p.size) && (decide (p.size ≤ 9) && (p.data.toList.all digB && !(decide (1 < p.size) && p.data.toList.head? == some 48)))
def hpB (s : ByteArray) : Bool := (splitF ⟨#[46]⟩ (s.size + 1) s).all okN && (splitF ⟨#[46]⟩ (s.size + 1) s).length == 3
end Go.Proofs.Ytkjcedlgljeoiaa

/- spec.HlPlain, laws.hlWord, plain.Base. -/
namespace Go.Proofs.Ytkjcedlgljeoiaa
open Go.RowKit Go.Lib
set_option linter.unusedVariables false
set_option linter.unusedSimpArgs false
def wB (s : ByteArray) : Bool := (s.data.toList.all fun c => decide (119 ≤ c.toNat) && decide (c.toNat ≤ 122)) && !(s.toList == (⟨#[]⟩ : ByteArray).toList)
end Go.Proofs.Ytkjcedlgljeoiaa

/- plain.Base. -/
namespace Go.Proofs.Ytkjcedlgljeoiaa
open Go.RowKit Go.Lib
set_option linter.unusedVariables false
set_option linter.unusedSimpArgs false
def slB (s : ByteArray) : Bool := s.data.toList.any fun c => c == 47
end Go.Proofs.Ytkjcedlgljeoiaa

/- rules.ZzChart, impl.LintChart. -/
namespace Go.Proofs.Ytkjcedlgljeoiaa
open Go.RowKit Go.Lib
set_option linter.unusedVariables false
set_option linter.unusedSimpArgs false
/-- An error, or none. -/
def errV (b : Bool) (g : Nat) : Value := cond b (.iface 279 (.pointer (some ⟨g, 0, none⟩))) .nilIface
set_option maxRecDepth 100000 in
theorem r_errne {a : Act} {o : Oper} {w : World} {x : Operand} {b : Bool} {g : Nat} (ho : o.op = .binOp .neq 140 x (.const .nilIface) 140) (hx : a.eval x = errV b g) : (execOp a.eval o).run Try.prog w = .ok (.value (.bool b)) w := by
  unfold execOp
  have hn : a.eval (.const .nilIface) = .nilIface := rfl
  simp only [ho, hx, hn]
  clear ho hx; cases b <;> cases x <;> (first | rfl | (show _ = _; kernel_rfl) | (simp [errV, eqGuard, binOp]; rfl))
def errs (bs : List Bool) (gs : List Nat) : List Value := List.zipWith errV bs gs
def bools (l : List Bool) : List Value := l.map Value.bool
def lname (m : Ty26) : Bool := m.fName.toList == (⟨#[]⟩ : ByteArray).toList || !(!slB m.fName || (m.fName.toList == (⟨#[47]⟩ : ByteArray).toList))
def isV1 (s : ByteArray) : Bool := s.toList == (⟨#[118, 49]⟩ : ByteArray).toList
def isV2 (s : ByteArray) : Bool := s.toList == (⟨#[118, 50]⟩ : ByteArray).toList
def lapi (m : Ty26) : Bool := m.fAPIVersion.toList == (⟨#[]⟩ : ByteArray).toList || (!isV1 m.fAPIVersion && !isV2 m.fAPIVersion)
def lper (ps : List Ty78) : Bool := ps.any fun p => p.fNil || (p.fName.toList == (⟨#[]⟩ : ByteArray).toList)
def ltype (m : Ty26) : Bool := decide ((0 : Int) < m.fType.size) && !isV2 m.fAPIVersion
def ldep (m : Ty26) : Bool := decide ((0 : Int) < m.fDependencies.length) && !isV2 m.fAPIVersion
set_option maxRecDepth 100000 in
set_option maxHeartbeats 20000000 in
theorem errNew_sp2 (s : ByteArray) (R : Ctx) (L : List SA) (w : World) (S : Sp R w (L))   :
    Calls Try.prog 173 #[.string s] w fun e w' => ∃ ge : Nat, e = .returned (.iface 279 (.pointer (some ⟨ge, 0, none⟩))) ∧ Sp R w' (SA.blk ge 281 #[.string (s)] :: L) := by
  refine fw_enter (fn := Try.f173) rfl rfl 7 rfl (Nat.le_of_ble_eq_true rfl) ?_
  intro a0 F0
  refine wp_seq_k fun K1 hK1 => ?_
  refine wp_region_lit ?_
  refine op_q F0 (.nilIface) ?_; intro a2 F2
  refine wpList_nil ?_
  refine hK1 _ _ ?_; clear hK1 K1
  refine wp_seq_k fun K3 hK3 => ?_
  refine wp_region_lit ?_
  refine op_q F2 (.string s) ?_; intro a4 F4
  refine op_q F4 (.agg #[.string s]) ?_; intro a5 F5
  refine op_sq F5 (s_newp F5 281 #[.string s] (by kernel_rfl) (by kernel_rfl) (by kernel_rfl) S) ?_
  rintro _ _ w7 ⟨g5, rfl, rfl⟩ S7 a7 F7
  refine op_q F7 (.iface 279 (.pointer (some ⟨g5, 0, none⟩))) ?_; intro a8 F8
  refine op_q F8 (.iface 279 (.pointer (some ⟨g5, 0, none⟩))) ?_; intro a9 F9
  refine wpList_nil ?_
  refine hK3 _ _ ?_; clear hK3 K3
  refine wp_ret ?_
  refine (F9.res1 rfl (v := .iface 279 (.pointer (some ⟨g5, 0, none⟩))) (by kernel_rfl) ?_).1
  exact ⟨g5, rfl, S7⟩
/-- Where a maintainer is told, or none. -/
def PerAt (w : World) (q : Option Addr) (p : Ty78) : Prop := (p.fNil = true ∧ q = none) ∨ (p.fNil = false ∧ ∃ g, q = some ⟨g, 0, none⟩ ∧ Blk w g 270 #[.string p.fName, .string p.fEmail, .string p.fURL])
end Go.Proofs.Ytkjcedlgljeoiaa

/- downloader.findVersionedEntry, impl.VersionFind. -/
namespace Go.Proofs.Ytkjcedlgljeoiaa
open Go.RowKit Go.Lib
set_option linter.unusedVariables false
set_option linter.unusedSimpArgs false
/-- Whether an entry is the one that is wanted. -/
def vtst (v : ByteArray) (x : Ty69) : Bool := !((x.fURLs.length : Int) == 0) && ((v.toList == (⟨#[]⟩ : ByteArray).toList) || eqvF v x.fMeta.fVersion)
theorem vtst_url {v : ByteArray} {x : Ty69} (h : ((x.fURLs.length : Int) == 0) = true) : vtst v x = false := by unfold vtst; rw [h]; rfl
theorem vtst_emp {v : ByteArray} {x : Ty69} (h : ((x.fURLs.length : Int) == 0) = false) (h2 : (v.toList == (⟨#[]⟩ : ByteArray).toList) = true) : vtst v x = true := by unfold vtst; rw [h, h2]; rfl
theorem vtst_eq {v : ByteArray} {x : Ty69} {q : Bool} (h : ((x.fURLs.length : Int) == 0) = false) (h2 : (v.toList == (⟨#[]⟩ : ByteArray).toList) = false) (h3 : eqvF v x.fMeta.fVersion = q) : vtst v x = q := by unfold vtst; rw [h, h2, h3]; rfl
def FindR (v : ByteArray) (es : List Ty69) (qs : List (Option Addr)) (q : Option Addr) (b : Bool) : Prop :=
  (b = false ∧ ∃ (k : Nat) (h : k < es.length) (h2 : k < qs.length), vtst v es[k] = true ∧ (∀ j, ∀ h : j < es.length, j < k → vtst v es[j] = false) ∧ q = qs[k]) ∨ (b = true ∧ q = none ∧ ∀ x ∈ es, vtst v x = false)
def VerOk (x : Ty69) : Prop := x.fMeta.fVersion.size ≤ 1000000 ∧ (plainB x.fMeta.fVersion = true ∨ errB x.fMeta.fVersion = true)
set_option maxRecDepth 100000 in
set_option maxHeartbeats 20000000 in
theorem findVer_sp (v : ByteArray) (Bp : Option Addr) (bp : Nat) (qs : List (Option Addr)) (es : List Ty69) (R : Ctx) (L : List SA) (w : World) (S : Sp R w (SA.zips SA.ent qs es :: L)) (h0 : Rf R L fun w => Sl w (Bp) (pps qs)) (hnb : ∀ x ∈ es, EntOk x) (hvo : ∀ x ∈ es, VerOk x) (hvs : v.size ≤ 1000000) (hvp : plainB v = true ∨ errB v = true) :
    Calls Try.prog 150 #[.string v, .slice (Bp) (qs.length) (bp)] w fun e w' => ∃ q : Option Addr, ∃ b : Bool, ∃ g : Nat, e = .returned (.tuple #[.pointer q, errV b g]) ∧ Sp R w' (SA.zips SA.ent qs es :: L) ∧ (FindR v es qs q b) := by
  have hl_qs : qs.length ≤ 9223372036854775807 := by have := (h0 _ S.drop).1; simpa [strs, ptrs, pps] using this
  have hql := Sp.zlen S
  refine fw_enter (fn := Try.f150) rfl rfl 36 rfl (Nat.le_of_ble_eq_true rfl) ?_
  intro a0 F0
  refine wp_seq_k fun K1 hK1 => ?_
  refine wp_region_lit ?_
  refine op_q F0 (.pointer none) ?_; intro a2 F2
  refine op_q F2 (.nilIface) ?_; intro a3 F3
  refine wpList_nil ?_
  refine hK1 _ _ ?_; clear hK1 K1
  refine wp_seq_k fun K4 hK4 => ?_
  refine wp_seq_k fun K5 hK5 => ?_
  refine wp_region_lit ?_
  refine op_q F3 (.slice (Bp) (qs.length) (bp)) ?_; intro a6 F6
  refine op_q F6 (.int .i64 (↑qs.length)) ?_; intro a7 F7
  refine op_q F7 (.int .i64 0) ?_; intro a8 F8
  refine wpList_nil ?_
  refine hK5 _ _ ?_; clear hK5 K5
  refine wp_block ?_
  refine fw_loop (fun m' a' w' => ∃ k : Nat, qs.length - k = m' ∧ Fr 36 [] a' [(0, .string v), (8, .slice (Bp) (qs.length) (bp)), (9, .int .i64 (↑qs.length)), (10, .int .i64 (↑k))] ∧ Sp R w' (SA.zips SA.ent qs es :: L) ∧ (k ≤ qs.length) ∧ (∀ j, ∀ h : j < es.length, j < k → vtst v es[j] = false)) _ ⟨0, rfl, (F8.kk 0 (F8.kk 8 (F8.kk 9 (F8.kk 10 F8.nil)))), S, (by first | omega | (with_reducible assumption) | (simp; done)), (fun j _ h => absurd h (Nat.not_lt_zero _))⟩ ?_
  rintro m9 a9 w9 ⟨k, hm9, F9, S9, hk, hno⟩ K9 hK9
  by_cases hlt_k : k < qs.length
  · have hc_k : decide ((↑k : Int) < ↑qs.length) = true := by first | (simp; done) | (simp; omega)
    have hlt_k2 : k < es.length := by omega
    obtain ⟨hen, heb, heu, hef, het⟩ := hnb _ (List.getElem_mem hlt_k2)
    obtain ⟨hvk, hpk⟩ := hvo _ (List.getElem_mem hlt_k2)
    obtain ⟨hv_k, Sz10⟩ := Sp.zat (k := k) hlt_k2 S9
    obtain ⟨qk, hqk⟩ : ∃ q, q = qs[k] := ⟨_, rfl⟩
    have S11 : Sp R w9 (SA.ent qk es[k] :: SA.zips SA.ent (qs.take k) (es.take k) :: SA.zips SA.ent (qs.drop (k + 1)) (es.drop (k + 1)) :: L) := by rw [hqk]; exact Sz10
    obtain ⟨ge, gm, Ae, ce, hqk2, Se12⟩ := Sp.ent_open hen heb S11
    subst hqk2
    have S13 : Sp R w9 (SA.blk ge 229 #[.pointer (some ⟨gm, 0, none⟩), .slice Ae es[k].fURLs.length ce, .bool false, .string es[k].fDigest, .string ⟨#[]⟩, .string ⟨#[]⟩, .string ⟨#[]⟩, .string ⟨#[]⟩] :: SA.own0 (.slice Ae es[k].fURLs.length ce) 9 1 es[k].fURLs.length (strs es[k].fURLs) :: SA.met gm es[k].fMeta :: SA.zips SA.ent (qs.take k) (es.take k) :: SA.zips SA.ent (qs.drop (k + 1)) (es.drop (k + 1)) :: L) := Se12
    obtain ⟨M1, m1, M2, m2, M3, m3, mq, M4, m4, mu, Sm14⟩ := Sp.met_open S13.p2
    have S15 : Sp R w9 (SA.blk gm 237 #[.string es[k].fMeta.fName, .string es[k].fMeta.fHome, .slice M1 (es[k].fMeta.fSources.length) m1, .string es[k].fMeta.fVersion, .string es[k].fMeta.fDescription, .slice M2 (es[k].fMeta.fKeywords.length) m2, .slice M3 mq.length m3, .string es[k].fMeta.fIcon, .string es[k].fMeta.fAPIVersion, .string es[k].fMeta.fCondition, .string es[k].fMeta.fTags, .string es[k].fMeta.fAppVersion, .bool false, .map none, .string es[k].fMeta.fKubeVersion, .slice M4 mu.length m4, .string es[k].fMeta.fType] :: SA.own0 (.slice M1 es[k].fMeta.fSources.length m1) 9 1 es[k].fMeta.fSources.length (strs es[k].fMeta.fSources) :: SA.own0 (.slice M2 es[k].fMeta.fKeywords.length m2) 9 1 es[k].fMeta.fKeywords.length (strs es[k].fMeta.fKeywords) :: SA.own (.slice M3 mq.length m3) 238 1 mq.length (pps mq) :: SA.zips SA.per mq es[k].fMeta.fMaintainers :: SA.own (.slice M4 mu.length m4) 240 1 mu.length (pps mu) :: SA.zips SA.dep mu es[k].fMeta.fDependencies :: SA.blk ge 229 #[.pointer (some ⟨gm, 0, none⟩), .slice Ae es[k].fURLs.length ce, .bool false, .string es[k].fDigest, .string ⟨#[]⟩, .string ⟨#[]⟩, .string ⟨#[]⟩, .string ⟨#[]⟩] :: SA.own0 (.slice Ae es[k].fURLs.length ce) 9 1 es[k].fURLs.length (strs es[k].fURLs) :: SA.zips SA.ent (qs.take k) (es.take k) :: SA.zips SA.ent (qs.drop (k + 1)) (es.drop (k + 1)) :: L) := Sm14
    obtain ⟨ad16, hA16⟩ := (h0 _ S15.drop.drop.drop.drop.drop.drop.drop.drop.drop.drop.drop).addr (by simp [pps]; omega)
    refine wp_seq_k fun K17 hK17 => ?_
    refine wp_region_lit ?_
    refine op_q F9 (.bool (decide ((↑k : Int) < ↑qs.length))) ?_; intro a18 F18
    have F19 := F18.sb 11 (by kernel_rfl) hc_k
    refine wpList_nil ?_
    refine hK17 _ _ ?_; clear hK17 K17
    refine wp_seq_k fun K20 hK20 => ?_
    refine wp_cond_true (F19.ev (by kernel_rfl)) ?_
    refine wp_skip ?_
    refine hK20 _ _ ?_; clear hK20 K20
    refine wp_seq_k fun K21 hK21 => ?_
    refine wp_block ?_
    refine wp_seq_k fun K22 hK22 => ?_
    refine wp_region_lit ?_
    refine op_rq (v := .pointer (some (ad16.add k))) F19 (r_ix rfl Try.underlying151 1 (by kernel_rfl) (F19.e (.slice (Bp) (qs.length) (bp))) hA16 (F19.e (.int .i64 (↑k))) k (by first | rfl | omega | simp) (by first | omega | (simp; done) | (simp; omega)) (by simp only [Nat.mul_one])) ?_; intro a23 F23
    refine op_rq (v := .pointer (some ⟨ge, 0, none⟩)) F23 (r_ld rfl (F23.e (.pointer (some (ad16.add k)))) (v := .pointer (some ⟨ge, 0, none⟩)) ((h0 _ S15.drop.drop.drop.drop.drop.drop.drop.drop.drop.drop.drop).elA hA16 (j := k) (by simp only [pps, List.getElem?_map, List.getElem?_eq_getElem hlt_k]; rw [← hqk]; rfl)) Try.underlying154 rfl) ?_; intro a24 F24
    refine op_q F24 (.pointer (some ⟨ge, 0, none⟩)) ?_; intro a25 F25
    refine wpList_nil ?_
    refine hK22 _ _ ?_; clear hK22 K22
    refine wp_seq_k fun K26 hK26 => ?_
    refine wp_seq_k fun K27 hK27 => ?_
    refine wp_region_lit ?_
    refine op_q F25 (.pointer (some ⟨ge, 0, none⟩)) ?_; intro a28 F28
    refine op_q F28 (.pointer (some ⟨ge, 0, none⟩)) ?_; intro a29 F29
    refine op_q F29 (.pointer (some ⟨ge, 1, none⟩)) ?_; intro a30 F30
    refine op_rq (v := .slice Ae es[k].fURLs.length ce) F30 (r_ld rfl (F30.e (.pointer (some ⟨ge, 1, none⟩))) (v := .slice Ae es[k].fURLs.length ce) ((S15.bk 7 rfl).cell 1) Try.underlying22 rfl) ?_; intro a31 F31
    refine op_q F31 (.int .i64 (↑es[k].fURLs.length)) ?_; intro a32 F32
    refine op_q F32 (.bool ((↑es[k].fURLs.length : Int) == 0)) ?_; intro a33 F33
    refine wpList_nil ?_
    refine hK27 _ _ ?_; clear hK27 K27
    rcases btf ((↑es[k].fURLs.length : Int) == 0) with hc34 | hc34
    · have hc34p := eq_of_beq hc34
      have F35 := F33.sb 19 (by kernel_rfl) hc34
      refine wp_cond_true (F35.ev (by kernel_rfl)) ?_
      refine wp_exit ?_
      refine ex_then ?_; clear hK26 K26
      refine ex_in ?_
      refine hK21 _ _ ?_; clear hK21 K21
      refine wp_region_lit ?_
      refine op_rq (v := .int .i64 (↑(k + 1))) F35 (r_add (z := ↑(k + 1)) rfl (F35.e (.int .i64 (↑k))) (F35.e (.int .i64 1)) (wr64 (by omega) (by omega) (by omega))) ?_; intro a36 F36
      refine op_q F36 (.int .i64 (↑(k + 1))) ?_; intro a37 F37
      refine wpList_nil ?_
      have S38 : Sp R w9 (SA.met gm es[k].fMeta :: SA.blk ge 229 #[.pointer (some ⟨gm, 0, none⟩), .slice Ae es[k].fURLs.length ce, .bool false, .string es[k].fDigest, .string ⟨#[]⟩, .string ⟨#[]⟩, .string ⟨#[]⟩, .string ⟨#[]⟩] :: SA.own0 (.slice Ae es[k].fURLs.length ce) 9 1 es[k].fURLs.length (strs es[k].fURLs) :: SA.zips SA.ent (qs.take k) (es.take k) :: SA.zips SA.ent (qs.drop (k + 1)) (es.drop (k + 1)) :: L) := Sp.met_mk S15.p6.p6.p6.p6.p6.p6.p6
      have S39 : Sp R w9 (SA.ent (some ⟨ge, 0, none⟩) es[k] :: SA.zips SA.ent (qs.take k) (es.take k) :: SA.zips SA.ent (qs.drop (k + 1)) (es.drop (k + 1)) :: L) := Sp.ent_mk hen heb S38.p2.p2
      have S40 : Sp R w9 (SA.zips SA.ent qs es :: L) := Sp.zclose (k := k) hlt_k2 hv_k (by rw [← hqk]; exact S39.p2.p2.p2)
      exact hK9 _ _ _ (by first | omega | (simp; omega)) ⟨k + 1, rfl, (F37.kk 0 (F37.kk 8 (F37.kk 9 (F37.kk 10 F37.nil)))), S40, (by first | omega | (with_reducible assumption) | (simp; done)), (fun j hj h => (Nat.lt_succ_iff_lt_or_eq.1 h).elim (hno j hj) (fun e => by subst e; exact (vtst_url hc34)))⟩
    · have hc34p := ne_of_beq_false hc34
      have F41 := F33.sb 19 (by kernel_rfl) hc34
      refine wp_cond_false (F41.ev (by kernel_rfl)) ?_
      refine wp_skip ?_
      refine hK26 _ _ ?_; clear hK26 K26
      refine wp_seq_k fun K42 hK42 => ?_
      refine wp_region_lit ?_
      refine op_q F41 (.string v) ?_; intro a43 F43
      refine op_q F43 (.bool (v.toList == (⟨#[]⟩ : ByteArray).toList)) ?_; intro a44 F44
      refine op_q F44 (.bool (v.toList == (⟨#[]⟩ : ByteArray).toList)) ?_; intro a45 F45
      rcases btf (v.toList == (⟨#[]⟩ : ByteArray).toList) with hc46 | hc46
      · have F47 := F45.sb 21 (by kernel_rfl) hc46
        have F48 := F47.sb 22 (by kernel_rfl) hc46
        refine op_kq F48 ?_; intro a49 F49
        refine op_kq F49 ?_; intro a50 F50
        refine op_kq F50 ?_; intro a51 F51
        refine op_kq F51 ?_; intro a52 F52
        refine op_kq F52 ?_; intro a53 F53
        refine op_kq F53 ?_; intro a54 F54
        refine op_kq F54 ?_; intro a55 F55
        refine op_kq F55 ?_; intro a56 F56
        refine op_kq F56 ?_; intro a57 F57
        refine op_q F57 (.bool true) ?_; intro a58 F58
        refine wpList_nil ?_
        refine hK42 _ _ ?_; clear hK42 K42
        refine wp_cond_true (F58.ev (by kernel_rfl)) ?_
        refine wp_seq_k fun K59 hK59 => ?_
        refine wp_region_lit ?_
        refine op_q F58 (.pointer (some ⟨ge, 0, none⟩)) ?_; intro a60 F60
        refine op_q F60 (.pointer (some ⟨ge, 0, none⟩)) ?_; intro a61 F61
        refine op_q F61 (.nilIface) ?_; intro a62 F62
        refine wpList_nil ?_
        refine hK59 _ _ ?_; clear hK59 K59
        refine wp_ret ?_
        refine ret_in ?_
        refine ret_then ?_
        refine ret_then ?_
        refine ret_in ?_
        refine ret_then ?_
        have S63 : Sp R w9 (SA.met gm es[k].fMeta :: SA.blk ge 229 #[.pointer (some ⟨gm, 0, none⟩), .slice Ae es[k].fURLs.length ce, .bool false, .string es[k].fDigest, .string ⟨#[]⟩, .string ⟨#[]⟩, .string ⟨#[]⟩, .string ⟨#[]⟩] :: SA.own0 (.slice Ae es[k].fURLs.length ce) 9 1 es[k].fURLs.length (strs es[k].fURLs) :: SA.zips SA.ent (qs.take k) (es.take k) :: SA.zips SA.ent (qs.drop (k + 1)) (es.drop (k + 1)) :: L) := Sp.met_mk S15.p6.p6.p6.p6.p6.p6.p6
        have S64 : Sp R w9 (SA.ent (some ⟨ge, 0, none⟩) es[k] :: SA.zips SA.ent (qs.take k) (es.take k) :: SA.zips SA.ent (qs.drop (k + 1)) (es.drop (k + 1)) :: L) := Sp.ent_mk hen heb S63.p2.p2
        have S65 : Sp R w9 (SA.zips SA.ent qs es :: L) := Sp.zclose (k := k) hlt_k2 hv_k (by rw [← hqk]; exact S64.p2.p2.p2)
        refine (F62.res2 rfl (v := .pointer (some ⟨ge, 0, none⟩)) (by kernel_rfl) (v2 := .nilIface) (by kernel_rfl) ?_).1
        exact ⟨(some ⟨ge, 0, none⟩), false, 0, rfl, S65, (.inl ⟨rfl, k, hlt_k2, hlt_k, (vtst_emp hc34 hc46), hno, hqk⟩)⟩
      · have F66 := F45.sb 21 (by kernel_rfl) hc46
        have F67 := F66.sb 22 (by kernel_rfl) hc46
        refine op_wq F67 ?_
        refine op_q F67 (.string v) ?_; intro a68 F68
        refine op_wq F68 ?_
        refine op_q F68 (.pointer (some ⟨ge, 0, none⟩)) ?_; intro a69 F69
        refine op_wq F69 ?_
        refine op_q F69 (.pointer (some ⟨ge, 0, none⟩)) ?_; intro a70 F70
        refine op_wq F70 ?_
        refine op_q F70 (.pointer (some ⟨ge, 0, none⟩)) ?_; intro a71 F71
        refine op_wq F71 ?_
        refine op_rq (v := .pointer (some ⟨gm, 0, none⟩)) F71 (r_ld rfl (F71.e (.pointer (some ⟨ge, 0, none⟩))) (v := .pointer (some ⟨gm, 0, none⟩)) ((S15.bk 7 rfl).cell 0) Try.underlying163 rfl) ?_; intro a72 F72
        refine op_wq F72 ?_
        refine op_q F72 (.pointer (some ⟨gm, 0, none⟩)) ?_; intro a73 F73
        refine op_wq F73 ?_
        refine op_q F73 (.pointer (some ⟨gm, 3, none⟩)) ?_; intro a74 F74
        refine op_wq F74 ?_
        refine op_rq (v := .string es[k].fMeta.fVersion) F74 (r_ld rfl (F74.e (.pointer (some ⟨gm, 3, none⟩))) (v := .string es[k].fMeta.fVersion) ((S15.bk 0 rfl).cell 3) Try.underlying9 rfl) ?_; intro a75 F75
        refine op_wq F75 ?_
        refine op_cq F75 (f := 194) (args := #[.string v, .string es[k].fMeta.fVersion]) (verEq_any v es[k].fMeta.fVersion _ (by first | omega | (simp; done) | (simp; omega)) (by first | omega | (simp; done) | (simp; omega)) hvp hpk) ?_
        rintro _ w76 ⟨rfl, hb_76⟩
        refine ⟨_, rfl, ?_⟩
        intro a77 F77
        have S76 := S15.below hb_76
        refine op_q F77 (.bool (eqvF v es[k].fMeta.fVersion)) ?_; intro a78 F78
        refine wpList_nil ?_
        refine hK42 _ _ ?_; clear hK42 K42
        rcases btf (eqvF v es[k].fMeta.fVersion) with hc79 | hc79
        · have F80 := F78.sb 31 (by kernel_rfl) hc79
          have F81 := F80.sb 32 (by kernel_rfl) hc79
          refine wp_cond_true (F81.ev (by kernel_rfl)) ?_
          refine wp_seq_k fun K82 hK82 => ?_
          refine wp_region_lit ?_
          refine op_q F81 (.pointer (some ⟨ge, 0, none⟩)) ?_; intro a83 F83
          refine op_q F83 (.pointer (some ⟨ge, 0, none⟩)) ?_; intro a84 F84
          refine op_q F84 (.nilIface) ?_; intro a85 F85
          refine wpList_nil ?_
          refine hK82 _ _ ?_; clear hK82 K82
          refine wp_ret ?_
          refine ret_in ?_
          refine ret_then ?_
          refine ret_then ?_
          refine ret_in ?_
          refine ret_then ?_
          have S86 : Sp R w76 (SA.met gm es[k].fMeta :: SA.blk ge 229 #[.pointer (some ⟨gm, 0, none⟩), .slice Ae es[k].fURLs.length ce, .bool false, .string es[k].fDigest, .string ⟨#[]⟩, .string ⟨#[]⟩, .string ⟨#[]⟩, .string ⟨#[]⟩] :: SA.own0 (.slice Ae es[k].fURLs.length ce) 9 1 es[k].fURLs.length (strs es[k].fURLs) :: SA.zips SA.ent (qs.take k) (es.take k) :: SA.zips SA.ent (qs.drop (k + 1)) (es.drop (k + 1)) :: L) := Sp.met_mk S76.p6.p6.p6.p6.p6.p6.p6
          have S87 : Sp R w76 (SA.ent (some ⟨ge, 0, none⟩) es[k] :: SA.zips SA.ent (qs.take k) (es.take k) :: SA.zips SA.ent (qs.drop (k + 1)) (es.drop (k + 1)) :: L) := Sp.ent_mk hen heb S86.p2.p2
          have S88 : Sp R w76 (SA.zips SA.ent qs es :: L) := Sp.zclose (k := k) hlt_k2 hv_k (by rw [← hqk]; exact S87.p2.p2.p2)
          refine (F85.res2 rfl (v := .pointer (some ⟨ge, 0, none⟩)) (by kernel_rfl) (v2 := .nilIface) (by kernel_rfl) ?_).1
          exact ⟨(some ⟨ge, 0, none⟩), false, 0, rfl, S88, (.inl ⟨rfl, k, hlt_k2, hlt_k, (vtst_eq hc34 hc46 hc79), hno, hqk⟩)⟩
        · have F89 := F78.sb 31 (by kernel_rfl) hc79
          have F90 := F89.sb 32 (by kernel_rfl) hc79
          refine wp_cond_false (F90.ev (by kernel_rfl)) ?_
          refine wp_skip ?_
          refine hK21 _ _ ?_; clear hK21 K21
          refine wp_region_lit ?_
          refine op_rq (v := .int .i64 (↑(k + 1))) F90 (r_add (z := ↑(k + 1)) rfl (F90.e (.int .i64 (↑k))) (F90.e (.int .i64 1)) (wr64 (by omega) (by omega) (by omega))) ?_; intro a91 F91
          refine op_q F91 (.int .i64 (↑(k + 1))) ?_; intro a92 F92
          refine wpList_nil ?_
          have S93 : Sp R w76 (SA.met gm es[k].fMeta :: SA.blk ge 229 #[.pointer (some ⟨gm, 0, none⟩), .slice Ae es[k].fURLs.length ce, .bool false, .string es[k].fDigest, .string ⟨#[]⟩, .string ⟨#[]⟩, .string ⟨#[]⟩, .string ⟨#[]⟩] :: SA.own0 (.slice Ae es[k].fURLs.length ce) 9 1 es[k].fURLs.length (strs es[k].fURLs) :: SA.zips SA.ent (qs.take k) (es.take k) :: SA.zips SA.ent (qs.drop (k + 1)) (es.drop (k + 1)) :: L) := Sp.met_mk S76.p6.p6.p6.p6.p6.p6.p6
          have S94 : Sp R w76 (SA.ent (some ⟨ge, 0, none⟩) es[k] :: SA.zips SA.ent (qs.take k) (es.take k) :: SA.zips SA.ent (qs.drop (k + 1)) (es.drop (k + 1)) :: L) := Sp.ent_mk hen heb S93.p2.p2
          have S95 : Sp R w76 (SA.zips SA.ent qs es :: L) := Sp.zclose (k := k) hlt_k2 hv_k (by rw [← hqk]; exact S94.p2.p2.p2)
          exact hK9 _ _ _ (by first | omega | (simp; omega)) ⟨k + 1, rfl, (F92.kk 0 (F92.kk 8 (F92.kk 9 (F92.kk 10 F92.nil)))), S95, (by first | omega | (with_reducible assumption) | (simp; done)), (fun j hj h => (Nat.lt_succ_iff_lt_or_eq.1 h).elim (hno j hj) (fun e => by subst e; exact (vtst_eq hc34 hc46 hc79)))⟩
  · have hc_k : decide ((↑k : Int) < ↑qs.length) = false := by first | (simp; done) | (simp; omega)
    obtain rfl : k = qs.length := by omega
    refine wp_seq_k fun K96 hK96 => ?_
    refine wp_region_lit ?_
    refine op_q F9 (.bool (decide ((↑qs.length : Int) < ↑qs.length))) ?_; intro a97 F97
    have F98 := F97.sb 11 (by kernel_rfl) hc_k
    refine wpList_nil ?_
    refine hK96 _ _ ?_; clear hK96 K96
    refine wp_seq_k fun K99 hK99 => ?_
    refine wp_cond_false (F98.ev (by kernel_rfl)) ?_
    refine wp_exit ?_
    refine ex_then ?_; clear hK99 K99
    refine ex_then ?_
    refine ex_in ?_
    refine hK4 _ _ ?_; clear hK4 K4
    refine wp_seq_k fun K100 hK100 => ?_
    refine wp_region_lit ?_
    refine op_cq F98 (f := 173) (args := #[.string ⟨#[110, 111, 32, 109, 97, 116, 99, 104, 105, 110, 103, 32, 118, 101, 114, 115, 105, 111, 110]⟩]) (errNew_sp2 ⟨#[110, 111, 32, 109, 97, 116, 99, 104, 105, 110, 103, 32, 118, 101, 114, 115, 105, 111, 110]⟩ _ _ _ S9 ) ?_
    rintro _ w101 ⟨ge101, rfl, S101⟩
    refine ⟨_, rfl, ?_⟩
    intro a102 F102
    refine op_q F102 (.pointer none) ?_; intro a103 F103
    refine op_q F103 (.iface 279 (.pointer (some ⟨ge101, 0, none⟩))) ?_; intro a104 F104
    refine wpList_nil ?_
    refine hK100 _ _ ?_; clear hK100 K100
    refine wp_ret ?_
    refine (F104.res2 rfl (v := .pointer none) (by kernel_rfl) (v2 := .iface 279 (.pointer (some ⟨ge101, 0, none⟩))) (by kernel_rfl) ?_).1
    exact ⟨none, true, ge101, rfl, S101.drop, (.inr ⟨rfl, rfl, fun x hx => by obtain ⟨j, hj, rfl⟩ := List.mem_iff_getElem.1 hx; exact hno j hj (by omega)⟩)⟩
set_option maxRecDepth 100000 in
set_option maxHeartbeats 20000000 in
theorem zzVer_sp (v : ByteArray) (Bp : Option Addr) (bp : Nat) (qs : List (Option Addr)) (es : List Ty69) (R : Ctx) (L : List SA) (w : World) (S : Sp R w (SA.zips SA.ent qs es :: L)) (h0 : Rf R L fun w => Sl w (Bp) (pps qs)) (hnb : ∀ x ∈ es, EntOk x) (hvo : ∀ x ∈ es, VerOk x) (hvs : v.size ≤ 1000000) (hvp : plainB v = true ∨ errB v = true) :
    Calls Try.prog 86 #[.string v, .slice (Bp) (qs.length) (bp)] w fun e w' => ∃ q : Option Addr, ∃ b : Bool, ∃ g : Nat, e = .returned (.tuple #[.pointer q, errV b g]) ∧ Sp R w' (SA.zips SA.ent qs es :: L) ∧ (FindR v es qs q b) := by
  have hl_qs : qs.length ≤ 9223372036854775807 := by have := (h0 _ S.drop).1; simpa [strs, ptrs, pps] using this
  refine fw_enter (fn := Try.f86) rfl rfl 11 rfl (Nat.le_of_ble_eq_true rfl) ?_
  intro a0 F0
  refine wp_seq_k fun K1 hK1 => ?_
  refine wp_region_lit ?_
  refine op_q F0 (.pointer none) ?_; intro a2 F2
  refine op_q F2 (.nilIface) ?_; intro a3 F3
  refine wpList_nil ?_
  refine hK1 _ _ ?_; clear hK1 K1
  refine wp_seq_k fun K4 hK4 => ?_
  refine wp_region_lit ?_
  refine op_q F3 (.string v) ?_; intro a5 F5
  refine op_q F5 (.slice (Bp) (qs.length) (bp)) ?_; intro a6 F6
  refine op_cq F6 (f := 150) (args := #[.string v, .slice (Bp) (qs.length) (bp)]) (findVer_sp v Bp bp qs es _ _ _ S h0 hnb hvo (by first | omega | (simp; done) | (simp; omega)) hvp) ?_
  rintro _ w7 ⟨q7, b7, g7, rfl, S7, hp0_7⟩
  refine ⟨_, rfl, ?_⟩
  intro a8 F8
  refine op_q F8 (.pointer q7) ?_; intro a9 F9
  refine op_q F9 (errV b7 g7) ?_; intro a10 F10
  refine op_q F10 (.pointer q7) ?_; intro a11 F11
  refine op_q F11 (errV b7 g7) ?_; intro a12 F12
  refine wpList_nil ?_
  refine hK4 _ _ ?_; clear hK4 K4
  refine wp_ret ?_
  refine (F12.res2 rfl (v := .pointer q7) (by kernel_rfl) (v2 := errV b7 g7) (by kernel_rfl) ?_).1
  exact ⟨q7, b7, g7, rfl, S7, hp0_7⟩
end Go.Proofs.Ytkjcedlgljeoiaa

/- impl.VersionFind. -/
namespace Go.Proofs.Ytkjcedlgljeoiaa
open Go.RowKit Go.Lib
set_option linter.unusedVariables false
set_option linter.unusedSimpArgs false
theorem catch84 (x0 x1 : Nat) (w : World) :
    CallsD Try.prog 84 #[.pointer (some ⟨x0, 0, none⟩), .pointer (some ⟨x1, 0, none⟩)] .returning w fun e u' w' => e = .returned (.tuple #[]) ∧ u' = .returning ∧ w' = w := by
  refine callsD_of_wpS Try.func84 rfl fun c₀ cs hu => ?_
  apply wpS_seq
  apply wpS_region
  simp [wpOpsS, go_sem, recoverD, hu, Try.ntmps84, Exit.thenS]
  refine wpS_cond (t := false) (by simp [Act.eval, Array.replicate]) ?_
  simp only [Bool.false_eq_true, if_false]
  refine wpS_of_wp (wp_skip ?_)
  cases c₀
  simp_all [bodyPostS, results, Try.results84]
/-- An entry as a value with rows of its own. -/
def SA.ev (y : Ty69) : SA := SA.star (SA.mv y.fMeta) (SA.own0 (.slice y.fURLs_a y.fURLs.length y.fURLs_c) 9 1 y.fURLs.length (strs y.fURLs))
/-- But for addresses. -/
def entS (x : Ty69) : Ty69 := { x with fMeta := metS x.fMeta, fURLs_a := none, fURLs_c := 0 }
def entT (x : Ty69) : Ty69 := { entS x with fMeta := metT x.fMeta }
def entZ : Ty69 := { fNil := false, fBare := false, fMeta := { fName := ⟨#[]⟩, fHome := ⟨#[]⟩, fVersion := ⟨#[]⟩, fDescription := ⟨#[]⟩, fIcon := ⟨#[]⟩, fAPIVersion := ⟨#[]⟩, fCondition := ⟨#[]⟩, fTags := ⟨#[]⟩, fAppVersion := ⟨#[]⟩, fKubeVersion := ⟨#[]⟩, fType := ⟨#[]⟩, fSources_a := none, fSources_c := 0, fSources := [], fKeywords_a := none, fKeywords_c := 0, fKeywords := [], fMaintainers_a := none, fMaintainers_c := 0, fMaintainers := [], fDependencies_a := none, fDependencies_c := 0, fDependencies := [] }, fURLs_a := none, fURLs_c := 0, fURLs := [], fDigest := ⟨#[]⟩ }
section
variable {R : Ctx} {w : World} {L : List SA}
theorem Sp.evZ (S : Sp R w L) : Sp R w (SA.ev entZ :: L) :=
  Sp.star.2 (Sp.mv_mk (y := entZ.fMeta) (Sp.own0nil (Sp.own0nil (Sp.own0nil (Sp.own0nil ((Sp.stars (l := [])).2 (Sp.own0nil S))))))) 
theorem Sp.ev_mk {y : Ty26} {B : Option Addr} {b : Nat} {us : List ByteArray} {dig : ByteArray} (S : Sp R w (SA.mv y :: SA.own0 (.slice B us.length b) 9 1 us.length (strs us) :: L)) : Sp R w (SA.ev { fNil := false, fBare := false, fMeta := y, fURLs_a := B, fURLs_c := b, fURLs := us, fDigest := dig } :: L) := Sp.star.2 S
end
theorem findR_f {v : ByteArray} {es : List Ty69} {qs : List (Option Addr)} {q : Option Addr} {b : Bool} (h : FindR v es qs q b) (hb : b = false) : ∃ (k : Nat) (h : k < es.length) (h2 : k < qs.length), vtst v es[k] = true ∧ (∀ j, ∀ h : j < es.length, j < k → vtst v es[j] = false) ∧ q = qs[k] := by
  rcases h with ⟨_, h⟩ | ⟨h, _⟩
  · exact h
  · rw [hb] at h; cases h
theorem findR_t {v : ByteArray} {es : List Ty69} {qs : List (Option Addr)} {q : Option Addr} {b : Bool} (h : FindR v es qs q b) (hb : b = true) : ∀ x ∈ es, vtst v x = false := by
  rcases h with ⟨h, _⟩ | ⟨_, _, h⟩
  · rw [hb] at h; cases h
  · exact h
/-- What is found: the first one that is wanted, as it is told; or none. -/
def FoundE (v : ByteArray) (es : List Ty69) (y : Ty69) (f : Int) : Prop :=
  (f = 0 ∧ ∃ (k : Nat) (h : k < es.length), vtst v es[k] = true ∧ (∀ j, ∀ h : j < es.length, j < k → vtst v es[j] = false) ∧ entS y = entT es[k]) ∨ (f = 1 ∧ ∀ x ∈ es, vtst v x = false)
set_option maxRecDepth 100000 in
set_option maxHeartbeats 20000000 in
theorem versionFind_sp (v : ByteArray) (A : Option Addr) (c : Nat) (es : List Ty69) (R : Ctx) (L : List SA) (w : World) (S : Sp R w (L)) (h0 : Rf R L fun w => Rows w (A) 19 (es.map Ty69.cells)) (h1 : Rf R L fun w => ∀ e ∈ es, Sl w e.fURLs_a (strs e.fURLs) ∧ MetaAt w e.fMeta) (hnb : ∀ x ∈ es, EntOk x) (hvo : ∀ x ∈ es, VerOk x) (hvs : v.size ≤ 1000000) (hvp : plainB v = true ∨ errB v = true) (hl : es.length ≤ 200) :
    Calls Try.prog 35 #[.string v, .slice (A) (es.length) (c)] w fun e w' => ∃ y : Ty69, ∃ f : Int, e = .returned (.tuple #[.agg #[.bool y.fNil, .bool y.fBare, .string y.fMeta.fName, .string y.fMeta.fHome, .string y.fMeta.fVersion, .string y.fMeta.fDescription, .string y.fMeta.fIcon, .string y.fMeta.fAPIVersion, .string y.fMeta.fCondition, .string y.fMeta.fTags, .string y.fMeta.fAppVersion, .string y.fMeta.fKubeVersion, .string y.fMeta.fType, .slice y.fMeta.fSources_a y.fMeta.fSources.length y.fMeta.fSources_c, .slice y.fMeta.fKeywords_a y.fMeta.fKeywords.length y.fMeta.fKeywords_c, .slice y.fMeta.fMaintainers_a y.fMeta.fMaintainers.length y.fMeta.fMaintainers_c, .slice y.fMeta.fDependencies_a y.fMeta.fDependencies.length y.fMeta.fDependencies_c, .slice y.fURLs_a y.fURLs.length y.fURLs_c, .string y.fDigest], .int .i64 f]) ∧ Sp R w' (SA.ev y :: L) ∧ (FoundE v es y f) := by
  have hl_es : es.length ≤ 9223372036854775807 := by have := (h0 _ S).1; simpa [strs, ptrs, pps] using this
  refine fw_enterD (fn := Try.f35) rfl rfl 30 rfl (Nat.le_of_ble_eq_true rfl) ?_
  intro a0 F0
  refine wp_seq_k fun K1 hK1 => ?_
  refine wp_region_lit ?_
  refine op_sq F0 (s_newp F0 69 #[.bool false, .bool false, .string ⟨#[]⟩, .string ⟨#[]⟩, .string ⟨#[]⟩, .string ⟨#[]⟩, .string ⟨#[]⟩, .string ⟨#[]⟩, .string ⟨#[]⟩, .string ⟨#[]⟩, .string ⟨#[]⟩, .string ⟨#[]⟩, .string ⟨#[]⟩, .slice none 0 0, .slice none 0 0, .slice none 0 0, .slice none 0 0, .slice none 0 0, .string ⟨#[]⟩] (by kernel_rfl) (by kernel_rfl) (by kernel_rfl) S) ?_
  rintro _ _ w3 ⟨g1, rfl, rfl⟩ S3 a3 F3
  refine op_sq F3 (s_newp F3 3 #[.int .i64 0] (by kernel_rfl) (by kernel_rfl) (by kernel_rfl) S3) ?_
  rintro _ _ w5 ⟨g3, rfl, rfl⟩ S5 a5 F5
  refine wpList_nil ?_
  refine hK1 _ _ ?_; clear hK1 K1
  refine wp_seq_k fun K6 hK6 => ?_
  refine wp_region_lit ?_
  refine op_q F5 (.func (.func 84) #[] #[.pointer (some ⟨g1, 0, none⟩), .pointer (some ⟨g3, 0, none⟩)]) ?_; intro a7 F7
  refine op_defer F7 ({ target := .fn (.func 84) #[.pointer (some ⟨g1, 0, none⟩), .pointer (some ⟨g3, 0, none⟩)], args := #[] }) (by kernel_rfl) (by kernel_rfl) rfl rfl rfl ?_; intro a8 F8
  refine wpList_nil ?_
  refine hK6 _ _ ?_; clear hK6 K6
  refine wp_seq_k fun K9 hK9 => ?_
  refine wp_region_lit ?_
  refine op_q F8 (.slice (A) (es.length) (c)) ?_; intro a10 F10
  refine op_cq F10 (f := 85) (args := #[.slice (A) (es.length) (c)]) (entriesOf_sp A c es _ _ _ S5 (fun w S => h0 w S.drop.drop) (fun w S => h1 w S.drop.drop) hnb (by first | omega | (simp; done) | (simp; omega))) ?_
  rintro _ w11 ⟨B11, b11, qs11, rfl, S11⟩
  refine ⟨_, rfl, ?_⟩
  intro a12 F12
  refine op_q F12 (.tuple #[.slice B11 qs11.length b11, .bool true]) ?_; intro a13 F13
  refine op_q F13 (.slice B11 qs11.length b11) ?_; intro a14 F14
  refine op_q F14 (.bool true) ?_; intro a15 F15
  refine op_q F15 (.slice B11 qs11.length b11) ?_; intro a16 F16
  refine op_q F16 (.bool true) ?_; intro a17 F17
  refine wpList_nil ?_
  refine hK9 _ _ ?_; clear hK9 K9
  refine wp_seq_k fun K18 hK18 => ?_
  refine wp_seq_k fun K19 hK19 => ?_
  refine wp_region_lit ?_
  refine op_q F17 (.bool true) ?_; intro a20 F20
  refine op_q F20 (.bool false) ?_; intro a21 F21
  refine wpList_nil ?_
  refine hK19 _ _ ?_; clear hK19 K19
  refine wp_cond_false (F21.ev (by kernel_rfl)) ?_
  refine wp_skip ?_
  refine hK18 _ _ ?_; clear hK18 K18
  refine wp_seq_k fun K22 hK22 => ?_
  refine wp_region_lit ?_
  refine op_q F21 (.string v) ?_; intro a23 F23
  refine op_q F23 (.slice B11 qs11.length b11) ?_; intro a24 F24
  have hql := Sp.zlen S11.p1
  refine op_cq F24 (f := 86) (args := #[.string v, .slice B11 qs11.length b11]) (zzVer_sp v B11 b11 qs11 es _ _ _ S11.p1 (fun w S => own_sl1 (S.ow 0 rfl) (by first | omega | (simp; omega))) hnb hvo (by first | omega | (simp; done) | (simp; omega)) hvp) ?_
  rintro _ w25 ⟨q25, b25, g25, rfl, S25, hp0_25⟩
  refine ⟨_, rfl, ?_⟩
  intro a26 F26
  refine op_q F26 (.tuple #[.pointer q25, errV b25 g25]) ?_; intro a27 F27
  refine op_q F27 (.pointer q25) ?_; intro a28 F28
  refine op_q F28 (errV b25 g25) ?_; intro a29 F29
  refine op_q F29 (.pointer q25) ?_; intro a30 F30
  refine op_q F30 (errV b25 g25) ?_; intro a31 F31
  refine wpList_nil ?_
  refine hK22 _ _ ?_; clear hK22 K22
  refine wp_seq_k fun K32 hK32 => ?_
  refine wp_seq_k fun K33 hK33 => ?_
  refine wp_region_lit ?_
  refine op_q F31 (errV b25 g25) ?_; intro a34 F34
  refine op_rq (v := .bool b25) F34 (r_errne rfl (F34.e (errV b25 g25))) ?_; intro a35 F35
  refine wpList_nil ?_
  refine hK33 _ _ ?_; clear hK33 K33
  rcases btf (b25) with hc36 | hc36
  · have hall := findR_t hp0_25 hc36
    have F37 := F35.sb 26 (by kernel_rfl) hc36
    refine wp_cond_true (F37.ev (by kernel_rfl)) ?_
    refine wp_seq_k fun K38 hK38 => ?_
    refine wp_region_lit ?_
    refine op_q F37 (.agg #[.bool false, .bool false, .string ⟨#[]⟩, .string ⟨#[]⟩, .string ⟨#[]⟩, .string ⟨#[]⟩, .string ⟨#[]⟩, .string ⟨#[]⟩, .string ⟨#[]⟩, .string ⟨#[]⟩, .string ⟨#[]⟩, .string ⟨#[]⟩, .string ⟨#[]⟩, .slice none 0 0, .slice none 0 0, .slice none 0 0, .slice none 0 0, .slice none 0 0, .string ⟨#[]⟩]) ?_; intro a39 F39
    refine op_sq0 F39 (s_stb rfl (F39.e (.pointer (some ⟨g1, 0, none⟩))) (F39.e (.agg #[.bool false, .bool false, .string ⟨#[]⟩, .string ⟨#[]⟩, .string ⟨#[]⟩, .string ⟨#[]⟩, .string ⟨#[]⟩, .string ⟨#[]⟩, .string ⟨#[]⟩, .string ⟨#[]⟩, .string ⟨#[]⟩, .string ⟨#[]⟩, .string ⟨#[]⟩, .slice none 0 0, .slice none 0 0, .slice none 0 0, .slice none 0 0, .slice none 0 0, .string ⟨#[]⟩])) S25.p3 (by kernel_rfl) rfl (by kernel_rfl)) ?_
    rintro _ _ w40 rfl S40 F40
    refine op_sq0 F40 (s_st rfl (F40.e (.pointer (some ⟨g3, 0, none⟩))) (F40.e (.int .i64 1)) S40.p3 (by kernel_rfl) rfl rfl rfl (cs := #[.int .i64 1]) (by kernel_rfl)) ?_
    rintro _ _ w41 rfl S41 F41
    refine wpList_nil ?_
    refine hK38 _ _ ?_; clear hK38 K38
    refine wp_ret ?_
    refine ret_then ?_
    have S42 : Sp R w41 (SA.ev entZ :: SA.blk g3 3 #[.int .i64 1] :: SA.blk g1 69 #[.bool false, .bool false, .string ⟨#[]⟩, .string ⟨#[]⟩, .string ⟨#[]⟩, .string ⟨#[]⟩, .string ⟨#[]⟩, .string ⟨#[]⟩, .string ⟨#[]⟩, .string ⟨#[]⟩, .string ⟨#[]⟩, .string ⟨#[]⟩, .string ⟨#[]⟩, .slice none 0 0, .slice none 0 0, .slice none 0 0, .slice none 0 0, .slice none 0 0, .string ⟨#[]⟩] :: SA.zips SA.ent qs11 es :: SA.own (.slice B11 qs11.length b11) 154 1 qs11.length (pps qs11) :: L) := Sp.evZ S41
    refine (F41.leaveD (f := 84) (args := #[.pointer (some ⟨g1, 0, none⟩), .pointer (some ⟨g3, 0, none⟩)]) (by simp [go_sem]) (catch84 g1 g3 _) (results2 Try.results35 (F41.rvc (p := ⟨g1, 0, none⟩) (by kernel_rfl) (ld_mid (S41.bk 1 rfl) 19 (by kernel_rfl) Try.underlying69 rfl (by kernel_rfl) (v := #[.bool false, .bool false, .string ⟨#[]⟩, .string ⟨#[]⟩, .string ⟨#[]⟩, .string ⟨#[]⟩, .string ⟨#[]⟩, .string ⟨#[]⟩, .string ⟨#[]⟩, .string ⟨#[]⟩, .string ⟨#[]⟩, .string ⟨#[]⟩, .string ⟨#[]⟩, .slice none 0 0, .slice none 0 0, .slice none 0 0, .slice none 0 0, .slice none 0 0, .string ⟨#[]⟩]) (by kernel_rfl))) (F41.rvc (p := ⟨g3, 0, none⟩) (by kernel_rfl) (load_one _ _ _ (.int .i64 1) ((S41.bk 0 rfl).cell 0) _ Try.underlying3 rfl))) ?_).1
    exact ⟨entZ, 1, rfl, S42.p1.drop.p1.drop.p1.drop.p1.drop, (.inr ⟨rfl, hall⟩)⟩
  · obtain ⟨k, hlt_k2, hlt_k, hvt, hvn, hqv⟩ := findR_f hp0_25 hc36
    obtain ⟨hen, heb, heu, hef, het⟩ := hnb _ (List.getElem_mem hlt_k2)
    obtain ⟨hef1, hef2, hef3, hef4⟩ := mfits_len hef
    obtain ⟨hv_k, Sz43⟩ := Sp.zat (k := k) hlt_k2 S25
    obtain ⟨qk, hqk⟩ : ∃ q, q = qs11[k] := ⟨_, rfl⟩
    have S44 : Sp R w25 (SA.ent qk es[k] :: SA.zips SA.ent (qs11.take k) (es.take k) :: SA.zips SA.ent (qs11.drop (k + 1)) (es.drop (k + 1)) :: SA.own (.slice B11 qs11.length b11) 154 1 qs11.length (pps qs11) :: SA.blk g3 3 #[.int .i64 0] :: SA.blk g1 69 #[.bool false, .bool false, .string ⟨#[]⟩, .string ⟨#[]⟩, .string ⟨#[]⟩, .string ⟨#[]⟩, .string ⟨#[]⟩, .string ⟨#[]⟩, .string ⟨#[]⟩, .string ⟨#[]⟩, .string ⟨#[]⟩, .string ⟨#[]⟩, .string ⟨#[]⟩, .slice none 0 0, .slice none 0 0, .slice none 0 0, .slice none 0 0, .slice none 0 0, .string ⟨#[]⟩] :: L) := by rw [hqk]; exact Sz43
    have hqq : q25 = qk := by rw [hqv, hqk]
    obtain ⟨ge, gm, Ae, ce, hqk2, Se45⟩ := Sp.ent_open hen heb S44
    rw [hqk2] at hqq
    subst hqq
    have S46 : Sp R w25 (SA.blk ge 229 #[.pointer (some ⟨gm, 0, none⟩), .slice Ae es[k].fURLs.length ce, .bool false, .string es[k].fDigest, .string ⟨#[]⟩, .string ⟨#[]⟩, .string ⟨#[]⟩, .string ⟨#[]⟩] :: SA.own0 (.slice Ae es[k].fURLs.length ce) 9 1 es[k].fURLs.length (strs es[k].fURLs) :: SA.met gm es[k].fMeta :: SA.zips SA.ent (qs11.take k) (es.take k) :: SA.zips SA.ent (qs11.drop (k + 1)) (es.drop (k + 1)) :: SA.own (.slice B11 qs11.length b11) 154 1 qs11.length (pps qs11) :: SA.blk g3 3 #[.int .i64 0] :: SA.blk g1 69 #[.bool false, .bool false, .string ⟨#[]⟩, .string ⟨#[]⟩, .string ⟨#[]⟩, .string ⟨#[]⟩, .string ⟨#[]⟩, .string ⟨#[]⟩, .string ⟨#[]⟩, .string ⟨#[]⟩, .string ⟨#[]⟩, .string ⟨#[]⟩, .string ⟨#[]⟩, .slice none 0 0, .slice none 0 0, .slice none 0 0, .slice none 0 0, .slice none 0 0, .string ⟨#[]⟩] :: L) := Se45
    have F47 := F35.sb 26 (by kernel_rfl) hc36
    refine wp_cond_false (F47.ev (by kernel_rfl)) ?_
    refine wp_skip ?_
    refine hK32 _ _ ?_; clear hK32 K32
    refine wp_seq_k fun K48 hK48 => ?_
    refine wp_region_lit ?_
    refine op_q F47 (.pointer (some ⟨ge, 0, none⟩)) ?_; intro a49 F49
    refine op_cq F49 (f := 87) (args := #[.pointer (some ⟨ge, 0, none⟩)]) (entryTold_sp es[k] ge gm Ae ce _ _ _ S46.p2 (fun w S => S.bk 0 rfl) (fun w S => own0_sl1 (S.ow0 1 rfl) (by first | omega | (simp; omega))) (by first | omega | (simp; done) | (simp; omega)) (by first | omega | (simp; done) | (simp; omega)) (by first | omega | (simp; done) | (simp; omega)) (by first | omega | (simp; done) | (simp; omega)) (by first | omega | (simp; done) | (simp; omega)) (by first | omega | (simp; done) | (simp; omega))) ?_
    rintro _ w50 ⟨B150, b150, B250, b250, B350, b350, B450, b450, B550, b550, rfl, S50⟩
    refine ⟨_, rfl, ?_⟩
    intro a51 F51
    refine op_sq0 F51 (s_stb rfl (F51.e (.pointer (some ⟨g1, 0, none⟩))) (F51.e (.agg #[.bool false, .bool false, .string es[k].fMeta.fName, .string es[k].fMeta.fHome, .string es[k].fMeta.fVersion, .string es[k].fMeta.fDescription, .string es[k].fMeta.fIcon, .string es[k].fMeta.fAPIVersion, .string es[k].fMeta.fCondition, .string es[k].fMeta.fTags, .string es[k].fMeta.fAppVersion, .string es[k].fMeta.fKubeVersion, .string es[k].fMeta.fType, .slice B150 (es[k].fMeta.fSources.length) b150, .slice B250 (es[k].fMeta.fKeywords.length) b250, .slice B350 (es[k].fMeta.fMaintainers.length) b350, .slice B450 (es[k].fMeta.fDependencies.length) b450, .slice B550 (es[k].fURLs.length) b550, .string es[k].fDigest])) S50.p9 (by kernel_rfl) rfl (by kernel_rfl)) ?_
    rintro _ _ w52 rfl S52 F52
    refine op_sq0 F52 (s_st rfl (F52.e (.pointer (some ⟨g3, 0, none⟩))) (F52.e (.int .i64 0)) S52.p9 (by kernel_rfl) rfl rfl rfl (cs := #[.int .i64 0]) (by kernel_rfl)) ?_
    rintro _ _ w53 rfl S53 F53
    refine wpList_nil ?_
    refine hK48 _ _ ?_; clear hK48 K48
    refine wp_ret ?_
    obtain ⟨y0, hy0, Sy54, hyS⟩ := Sp.mvx_open S53.p3.p3
    have S55 : Sp R w53 (SA.ev { fNil := false, fBare := false, fMeta := y0, fURLs_a := B550, fURLs_c := b550, fURLs := es[k].fURLs, fDigest := es[k].fDigest } :: SA.blk g3 3 #[.int .i64 0] :: SA.blk g1 69 #[.bool false, .bool false, .string es[k].fMeta.fName, .string es[k].fMeta.fHome, .string es[k].fMeta.fVersion, .string es[k].fMeta.fDescription, .string es[k].fMeta.fIcon, .string es[k].fMeta.fAPIVersion, .string es[k].fMeta.fCondition, .string es[k].fMeta.fTags, .string es[k].fMeta.fAppVersion, .string es[k].fMeta.fKubeVersion, .string es[k].fMeta.fType, .slice B150 (es[k].fMeta.fSources.length) b150, .slice B250 (es[k].fMeta.fKeywords.length) b250, .slice B350 (es[k].fMeta.fMaintainers.length) b350, .slice B450 (es[k].fMeta.fDependencies.length) b450, .slice B550 (es[k].fURLs.length) b550, .string es[k].fDigest] :: SA.met gm es[k].fMeta :: SA.blk ge 229 #[.pointer (some ⟨gm, 0, none⟩), .slice Ae es[k].fURLs.length ce, .bool false, .string es[k].fDigest, .string ⟨#[]⟩, .string ⟨#[]⟩, .string ⟨#[]⟩, .string ⟨#[]⟩] :: SA.own0 (.slice Ae es[k].fURLs.length ce) 9 1 es[k].fURLs.length (strs es[k].fURLs) :: SA.zips SA.ent (qs11.take k) (es.take k) :: SA.zips SA.ent (qs11.drop (k + 1)) (es.drop (k + 1)) :: SA.own (.slice B11 qs11.length b11) 154 1 qs11.length (pps qs11) :: L) := Sp.ev_mk Sy54
    refine (F53.leaveD (f := 84) (args := #[.pointer (some ⟨g1, 0, none⟩), .pointer (some ⟨g3, 0, none⟩)]) (by simp [go_sem]) (catch84 g1 g3 _) (results2 Try.results35 (F53.rvc (p := ⟨g1, 0, none⟩) (by kernel_rfl) (ld_mid (S53.bk 1 rfl) 19 (by kernel_rfl) Try.underlying69 rfl (by kernel_rfl) (v := #[.bool false, .bool false, .string es[k].fMeta.fName, .string es[k].fMeta.fHome, .string es[k].fMeta.fVersion, .string es[k].fMeta.fDescription, .string es[k].fMeta.fIcon, .string es[k].fMeta.fAPIVersion, .string es[k].fMeta.fCondition, .string es[k].fMeta.fTags, .string es[k].fMeta.fAppVersion, .string es[k].fMeta.fKubeVersion, .string es[k].fMeta.fType, .slice B150 (es[k].fMeta.fSources.length) b150, .slice B250 (es[k].fMeta.fKeywords.length) b250, .slice B350 (es[k].fMeta.fMaintainers.length) b350, .slice B450 (es[k].fMeta.fDependencies.length) b450, .slice B550 (es[k].fURLs.length) b550, .string es[k].fDigest]) (by kernel_rfl))) (F53.rvc (p := ⟨g3, 0, none⟩) (by kernel_rfl) (load_one _ _ _ (.int .i64 0) ((S53.bk 0 rfl).cell 0) _ Try.underlying3 rfl))) ?_).1
    exact ⟨{ fNil := false, fBare := false, fMeta := y0, fURLs_a := B550, fURLs_c := b550, fURLs := es[k].fURLs, fDigest := es[k].fDigest }, 0, (by show _ = Ending.returned (.tuple #[.agg (([Value.bool false, Value.bool false] ++ y0.cells ++ [Value.slice B550 es[k].fURLs.length b550, Value.string es[k].fDigest]).toArray), .int .i64 0]); rw [hy0]; rfl), S55.p1.drop.p1.drop.p1.drop.p1.drop.p1.drop.p1.drop.p1.drop.p1.drop, (.inl ⟨rfl, k, hlt_k2, hvt, hvn, by show ({ fNil := false, fBare := false, fMeta := metS y0, fURLs_a := none, fURLs_c := 0, fURLs := es[k].fURLs, fDigest := es[k].fDigest } : Ty69) = { fNil := es[k].fNil, fBare := es[k].fBare, fMeta := metT es[k].fMeta, fURLs_a := none, fURLs_c := 0, fURLs := es[k].fURLs, fDigest := es[k].fDigest }; rw [hyS, hen, heb]⟩)⟩
end Go.Proofs.Ytkjcedlgljeoiaa

/- spec.chTexts, ChSameDependency, ChSameMeta: of the same metadata. -/
namespace Go.Proofs.Ytkjcedlgljeoiaa
open Go.RowKit Go.Lib
set_option linter.unusedVariables false
set_option linter.unusedSimpArgs false
theorem neqT78 (x0 y0 : Bool) (x1 y1 : ByteArray) (x2 y2 : ByteArray) (x3 y3 : ByteArray) (w : World) : (binOp .neq 78 (.agg #[.bool x0, .string x1, .string x2, .string x3]) (.agg #[.bool y0, .string y1, .string y2, .string y3])).run Try.prog w = .ok (.bool (!((x0 == y0) && (x1.toList == y1.toList) && (x2.toList == y2.toList) && (x3.toList == y3.toList)))) w := by
  have u4 := Try.underlying4
  have u9 := Try.underlying9
  have a4 : (isAgg 4).run Try.prog w = .ok false w := by unfold isAgg; rw [Sem.run_bind, run_underlying u4 w]; rfl
  have z4 : (sizeOf 4).run Try.prog w = .ok 1 w := by kernel_rfl
  have a9 : (isAgg 9).run Try.prog w = .ok false w := by unfold isAgg; rw [Sem.run_bind, run_underlying u9 w]; rfl
  have z9 : (sizeOf 9).run Try.prog w = .ok 1 w := by kernel_rfl
  have hS : Try.prog.underlying 78 = some (.struct (Try.prog.fieldsOf 78)) := by kernel_rfl
  have hp : Try.prog.stoodInHeld 78 = false := by kernel_rfl
  rw [run_neq_struct, show (10000 : Nat) = 9999 + 1 from rfl, run_equalIn_agg w 9999 78 _ _ hS hp]
  simp only [Program.fieldsOf, Try.underlying78]
  go_simp
  cases h0 : (x0 == y0) <;> cases h1 : (x1.toList == y1.toList) <;> cases h2 : (x2.toList == y2.toList) <;> cases h3 : (x3.toList == y3.toList) <;> simp_all
set_option maxRecDepth 100000 in
set_option maxHeartbeats 20000000 in
theorem chTexts_yes (A : Option Addr) (c : Nat) (xs : List ByteArray) (B : Option Addr) (d : Nat) (R : Ctx) (L : List SA) (w : World) (S : Sp R w (L)) (h0 : Rf R L fun w => Sl w (A) (strs xs)) (h1 : Rf R L fun w => Sl w (B) (strs xs))  :
    Calls Try.prog 123 #[.slice (A) (xs.length) (c), .slice (B) (xs.length) (d)] w fun e w' => e = .returned (.bool true) ∧ Sp R w' (L) := by
  have hl_xs : xs.length ≤ 9223372036854775807 := by have := (h0 _ S).1; simpa [strs, ptrs, pps] using this
  have hl_xs : xs.length ≤ 9223372036854775807 := by have := (h1 _ S).1; simpa [strs, ptrs, pps] using this
  refine fw_enter (fn := Try.f123) rfl rfl 26 rfl (Nat.le_of_ble_eq_true rfl) ?_
  intro a0 F0
  refine wp_seq_k fun K1 hK1 => ?_
  refine wp_region_lit ?_
  refine op_q F0 (.bool false) ?_; intro a2 F2
  refine wpList_nil ?_
  refine hK1 _ _ ?_; clear hK1 K1
  refine wp_seq_k fun K3 hK3 => ?_
  refine wp_seq_k fun K4 hK4 => ?_
  refine wp_region_lit ?_
  refine op_q F2 (.slice (A) (xs.length) (c)) ?_; intro a5 F5
  refine op_q F5 (.int .i64 (↑xs.length)) ?_; intro a6 F6
  refine op_q F6 (.slice (B) (xs.length) (d)) ?_; intro a7 F7
  refine op_q F7 (.int .i64 (↑xs.length)) ?_; intro a8 F8
  refine op_q F8 (.bool (!((↑xs.length : Int) == ↑xs.length))) ?_; intro a9 F9
  refine wpList_nil ?_
  refine hK4 _ _ ?_; clear hK4 K4
  have hc10 : ((↑xs.length : Int) == ↑xs.length) = true := (beq_self_eq_true _)
  have F11 := F9.sb 10 (by kernel_rfl) (show (!((↑xs.length : Int) == ↑xs.length)) = false by rw [hc10]; rfl)
  refine wp_cond_false (F11.ev (by kernel_rfl)) ?_
  refine wp_skip ?_
  refine hK3 _ _ ?_; clear hK3 K3
  refine wp_seq_k fun K12 hK12 => ?_
  refine wp_seq_k fun K13 hK13 => ?_
  refine wp_region_lit ?_
  refine op_q F11 (.slice (A) (xs.length) (c)) ?_; intro a14 F14
  refine op_q F14 (.int .i64 (↑xs.length)) ?_; intro a15 F15
  refine op_q F15 (.int .i64 0) ?_; intro a16 F16
  refine wpList_nil ?_
  refine hK13 _ _ ?_; clear hK13 K13
  refine wp_block ?_
  refine fw_loop (fun m' a' w' => ∃ i : Nat, xs.length - i = m' ∧ Fr 26 [] a' [(0, .slice (A) (xs.length) (c)), (1, .slice (B) (xs.length) (d)), (12, .int .i64 (↑xs.length)), (13, .int .i64 (↑i))] ∧ Sp R w' (L) ∧ (i ≤ xs.length)) _ ⟨0, rfl, (F16.kk 0 (F16.kk 1 (F16.kk 12 (F16.kk 13 F16.nil)))), S, (by first | omega | (with_reducible assumption) | (simp; done))⟩ ?_
  rintro m17 a17 w17 ⟨i, hm17, F17, S17, hi⟩ K17 hK17
  by_cases hlt_i : i < xs.length
  · have hc_i : decide ((↑i : Int) < ↑xs.length) = true := by first | (simp; done) | (simp; omega)
    obtain ⟨ad18, hA18⟩ := (h0 _ S17).addr (by simp [strs]; omega)
    obtain ⟨ad19, hA19⟩ := (h1 _ S17).addr (by simp [strs]; omega)
    refine wp_seq_k fun K20 hK20 => ?_
    refine wp_region_lit ?_
    refine op_q F17 (.bool (decide ((↑i : Int) < ↑xs.length))) ?_; intro a21 F21
    have F22 := F21.sb 14 (by kernel_rfl) hc_i
    refine wpList_nil ?_
    refine hK20 _ _ ?_; clear hK20 K20
    refine wp_seq_k fun K23 hK23 => ?_
    refine wp_cond_true (F22.ev (by kernel_rfl)) ?_
    refine wp_skip ?_
    refine hK23 _ _ ?_; clear hK23 K23
    refine wp_seq_k fun K24 hK24 => ?_
    refine wp_block ?_
    refine wp_seq_k fun K25 hK25 => ?_
    refine wp_region_lit ?_
    refine op_q F22 (.int .i64 (↑i)) ?_; intro a26 F26
    refine op_q F26 (.int .i64 (↑i)) ?_; intro a27 F27
    refine wpList_nil ?_
    refine hK25 _ _ ?_; clear hK25 K25
    refine wp_seq_k fun K28 hK28 => ?_
    refine wp_region_sepF (L0 := L) [some [], some [], some [(0, 16), (1, 17)], some [(2, 18)], some [], some [], some [(4, 20), (5, 21)], some [(6, 22)], some [(3, 19), (7, 23)]] [.v 16 (.slice (A) (xs.length) (c)), .v 17 (.int .i64 (↑i)), .v 18 (.pointer (some (ad18.add i))), .v 19 (.string xs[i]), .v 20 (.slice (B) (xs.length) (d)), .v 21 (.int .i64 (↑i)), .v 22 (.pointer (some (ad19.add i))), .v 23 (.string xs[i]), .v 24 (.bool false)] [] F27 rfl (by kernel_rfl) S17 ?_ ?_
    · refine ⟨?_, ?_, ?_, ?_, ?_, ?_, ?_, ?_, ?_, trivial⟩
      · intro w47 M47
        intro a47 F47 S47
        refine obl_of (by rfl) ?_
        exact s_p F47 (v := .slice (A) (xs.length) (c)) (by kernel_rfl) (by kernel_rfl) (by kernel_rfl) S47
      · intro w48 M48
        intro a48 F48 S48
        refine obl_of (by rfl) ?_
        exact s_p F48 (v := .int .i64 (↑i)) (by kernel_rfl) (by kernel_rfl) (by kernel_rfl) S48
      · intro w49 M49
        intro a49 F49 S49
        refine obl_of (by rfl) ?_
        exact s_r (v := .pointer (some (ad18.add i))) (r_ix rfl Try.underlying22 1 (by kernel_rfl) (F49.e (.slice (A) (xs.length) (c))) hA18 (F49.e (.int .i64 (↑i))) i (by first | rfl | omega | simp) (by first | omega | (simp; done) | (simp; omega)) (by simp only [Nat.mul_one])) S49
      · intro w52 M52
        intro a52 F52 S52
        refine obl_of (by rfl) ?_
        exact s_r (v := .string xs[i]) (r_ld rfl (F52.e (.pointer (some (ad18.add i)))) (v := .string xs[i]) ((h0 _ (Sp.dropM S52.drop)).elA hA18 (j := i) (by simp only [strs, List.getElem?_map, List.getElem?_eq_getElem hlt_i]; rfl)) Try.underlying9 rfl) S52
      · intro w54 M54
        intro a54 F54 S54
        refine obl_of (by rfl) ?_
        exact s_p F54 (v := .slice (B) (xs.length) (d)) (by kernel_rfl) (by kernel_rfl) (by kernel_rfl) S54
      · intro w55 M55
        intro a55 F55 S55
        refine obl_of (by rfl) ?_
        exact s_p F55 (v := .int .i64 (↑i)) (by kernel_rfl) (by kernel_rfl) (by kernel_rfl) S55
      · intro w56 M56
        intro a56 F56 S56
        refine obl_of (by rfl) ?_
        exact s_r (v := .pointer (some (ad19.add i))) (r_ix rfl Try.underlying22 1 (by kernel_rfl) (F56.e (.slice (B) (xs.length) (d))) hA19 (F56.e (.int .i64 (↑i))) i (by first | rfl | omega | simp) (by first | omega | (simp; done) | (simp; omega)) (by simp only [Nat.mul_one])) S56
      · intro w59 M59
        intro a59 F59 S59
        refine obl_of (by rfl) ?_
        exact s_r (v := .string xs[i]) (r_ld rfl (F59.e (.pointer (some (ad19.add i)))) (v := .string xs[i]) ((h1 _ (Sp.dropM S59.drop)).elA hA19 (j := i) (by simp only [strs, List.getElem?_map, List.getElem?_eq_getElem hlt_i]; rfl)) Try.underlying9 rfl) S59
      · intro w61 M61
        intro a61 F61 S61
        refine obl_of (by rfl) ?_
        have hs64 : (xs[i].toList == xs[i].toList) = true := beq_self_eq_true _
        exact s_pb F61 (b := !(xs[i].toList == xs[i].toList)) (show (!(xs[i].toList == xs[i].toList)) = false by rw [hs64]; rfl) (by kernel_rfl) (by kernel_rfl) (by kernel_rfl) S61
    · intro a66 w65 F66 S65
      have S67 : Sp R w65 (L) := S65
      refine wpList_nil ?_
      refine hK28 _ _ ?_; clear hK28 K28
      refine wp_cond_false (F66.ev (by kernel_rfl)) ?_
      refine wp_skip ?_
      refine hK24 _ _ ?_; clear hK24 K24
      refine wp_region_lit ?_
      refine op_rq (v := .int .i64 (↑(i + 1))) F66 (r_add (z := ↑(i + 1)) rfl (F66.e (.int .i64 (↑i))) (F66.e (.int .i64 1)) (wr64 (by omega) (by omega) (by omega))) ?_; intro a68 F68
      refine op_q F68 (.int .i64 (↑(i + 1))) ?_; intro a69 F69
      refine wpList_nil ?_
      exact hK17 _ _ _ (by first | omega | (simp; omega)) ⟨i + 1, rfl, (F69.kk 0 (F69.kk 1 (F69.kk 12 (F69.kk 13 F69.nil)))), S67, (by first | omega | (with_reducible assumption) | (simp; done))⟩
  · have hc_i : decide ((↑i : Int) < ↑xs.length) = false := by first | (simp; done) | (simp; omega)
    refine wp_seq_k fun K70 hK70 => ?_
    refine wp_region_lit ?_
    refine op_q F17 (.bool (decide ((↑i : Int) < ↑xs.length))) ?_; intro a71 F71
    have F72 := F71.sb 14 (by kernel_rfl) hc_i
    refine wpList_nil ?_
    refine hK70 _ _ ?_; clear hK70 K70
    refine wp_seq_k fun K73 hK73 => ?_
    refine wp_cond_false (F72.ev (by kernel_rfl)) ?_
    refine wp_exit ?_
    refine ex_then ?_; clear hK73 K73
    refine ex_then ?_
    refine ex_in ?_
    refine hK12 _ _ ?_; clear hK12 K12
    refine wp_seq_k fun K74 hK74 => ?_
    refine wp_region_lit ?_
    refine op_q F72 (.bool true) ?_; intro a75 F75
    refine wpList_nil ?_
    refine hK74 _ _ ?_; clear hK74 K74
    refine wp_ret ?_
    refine (F75.res1 rfl (v := .bool true) (by kernel_rfl) ?_).1
    exact ⟨rfl, S17⟩
theorem chTexts_eq (A : Option Addr) (c : Nat) (xs : List ByteArray) (B : Option Addr) (d : Nat) (ys : List ByteArray) (R : Ctx) (L : List SA) (w : World) (S : Sp R w L) (h0 : Rf R L fun w => Sl w A (strs xs)) (h1 : Rf R L fun w => Sl w B (strs ys)) (he : ys = xs) :
    Calls Try.prog 123 #[.slice A xs.length c, .slice B ys.length d] w fun e w' => e = .returned (.bool true) ∧ Sp R w' L := by
  subst he; exact chTexts_yes A c ys B d R L w S h0 h1
set_option maxRecDepth 100000 in
set_option maxHeartbeats 20000000 in
theorem sameDep_yes (x : Ty80) (y : Ty80) (R : Ctx) (L : List SA) (w : World) (S : Sp R w (L)) (h0 : Rf R L fun w => Sl w (x.fTags_a) (strs x.fTags)) (h1 : Rf R L fun w => Sl w (y.fTags_a) (strs y.fTags)) (he : depS x = depS y) :
    Calls Try.prog 124 #[.agg #[.bool x.fNil, .string x.fName, .string x.fVersion, .string x.fRepository, .string x.fCondition, .slice (x.fTags_a) (x.fTags.length) (x.fTags_c), .string x.fAlias], .agg #[.bool y.fNil, .string y.fName, .string y.fVersion, .string y.fRepository, .string y.fCondition, .slice (y.fTags_a) (y.fTags.length) (y.fTags_c), .string y.fAlias]] w fun e w' => e = .returned (.bool true) ∧ Sp R w' (L) := by
  have hl_x_fTags : x.fTags.length ≤ 9223372036854775807 := by have := (h0 _ S).1; simpa [strs, ptrs, pps] using this
  have hl_y_fTags : y.fTags.length ≤ 9223372036854775807 := by have := (h1 _ S).1; simpa [strs, ptrs, pps] using this
  have hn_Nil : x.fNil = y.fNil := show (depS x).fNil = (depS y).fNil by rw [he]
  have hT : y.fTags = x.fTags := show (depS y).fTags = (depS x).fTags by rw [he]
  have hn_Name : x.fName = y.fName := show (depS x).fName = (depS y).fName by rw [he]
  have hn_Version : x.fVersion = y.fVersion := show (depS x).fVersion = (depS y).fVersion by rw [he]
  have hn_Repository : x.fRepository = y.fRepository := show (depS x).fRepository = (depS y).fRepository by rw [he]
  have hn_Condition : x.fCondition = y.fCondition := show (depS x).fCondition = (depS y).fCondition by rw [he]
  have hn_Alias : x.fAlias = y.fAlias := show (depS x).fAlias = (depS y).fAlias by rw [he]
  have h1' : Rf R L fun w => Sl w y.fTags_a (strs x.fTags) := fun w S => by rw [← hT]; exact h1 w S
  have hTl : y.fTags.length = x.fTags.length := by rw [hT]
  refine fw_enter (fn := Try.f124) rfl rfl 52 rfl (Nat.le_of_ble_eq_true rfl) ?_
  intro a0 F0
  refine wp_seq_k fun K1 hK1 => ?_
  refine wp_region_lit ?_
  refine op_sq F0 (s_newp F0 80 #[.bool x.fNil, .string x.fName, .string x.fVersion, .string x.fRepository, .string x.fCondition, .slice (x.fTags_a) (x.fTags.length) (x.fTags_c), .string x.fAlias] (by kernel_rfl) (by kernel_rfl) (by kernel_rfl) S) ?_
  rintro _ _ w3 ⟨g1, rfl, rfl⟩ S3 a3 F3
  refine op_sq F3 (s_newp F3 80 #[.bool y.fNil, .string y.fName, .string y.fVersion, .string y.fRepository, .string y.fCondition, .slice (y.fTags_a) (y.fTags.length) (y.fTags_c), .string y.fAlias] (by kernel_rfl) (by kernel_rfl) (by kernel_rfl) S3) ?_
  rintro _ _ w5 ⟨g3, rfl, rfl⟩ S5 a5 F5
  refine op_q F5 (.bool false) ?_; intro a6 F6
  refine wpList_nil ?_
  refine hK1 _ _ ?_; clear hK1 K1
  refine wp_seq_k fun K7 hK7 => ?_
  refine wp_region_lit ?_
  refine op_q F6 (.pointer (some ⟨g1, 0, none⟩)) ?_; intro a8 F8
  refine op_rq (v := .bool x.fNil) F8 (r_ld rfl (F8.e (.pointer (some ⟨g1, 0, none⟩))) (v := .bool x.fNil) ((S5.bk 1 rfl).cell 0) Try.underlying4 rfl) ?_; intro a9 F9
  refine op_q F9 (.pointer (some ⟨g3, 0, none⟩)) ?_; intro a10 F10
  refine op_rq (v := .bool y.fNil) F10 (r_ld rfl (F10.e (.pointer (some ⟨g3, 0, none⟩))) (v := .bool y.fNil) ((S5.bk 0 rfl).cell 0) Try.underlying4 rfl) ?_; intro a11 F11
  refine op_q F11 (.bool (x.fNil == y.fNil)) ?_; intro a12 F12
  refine op_q F12 (.bool (x.fNil == y.fNil)) ?_; intro a13 F13
  have hc14 : (x.fNil == y.fNil) = true := (by rw [hn_Nil]; exact beq_self_eq_true _)
  have F15 := F13.sb 9 (by kernel_rfl) hc14
  have F16 := F15.sb 10 (by kernel_rfl) hc14
  refine op_wq F16 ?_
  refine op_q F16 (.pointer (some ⟨g1, 1, none⟩)) ?_; intro a17 F17
  refine op_wq F17 ?_
  refine op_rq (v := .string x.fName) F17 (r_ld rfl (F17.e (.pointer (some ⟨g1, 1, none⟩))) (v := .string x.fName) ((S5.bk 1 rfl).cell 1) Try.underlying9 rfl) ?_; intro a18 F18
  refine op_wq F18 ?_
  refine op_q F18 (.pointer (some ⟨g3, 1, none⟩)) ?_; intro a19 F19
  refine op_wq F19 ?_
  refine op_rq (v := .string y.fName) F19 (r_ld rfl (F19.e (.pointer (some ⟨g3, 1, none⟩))) (v := .string y.fName) ((S5.bk 0 rfl).cell 1) Try.underlying9 rfl) ?_; intro a20 F20
  refine op_wq F20 ?_
  refine op_q F20 (.bool (x.fName.toList == y.fName.toList)) ?_; intro a21 F21
  refine op_q F21 (.bool (x.fName.toList == y.fName.toList)) ?_; intro a22 F22
  refine op_q F22 (.bool (x.fName.toList == y.fName.toList)) ?_; intro a23 F23
  have hc24 : (x.fName.toList == y.fName.toList) = true := (by rw [hn_Name]; exact beq_self_eq_true _)
  have F25 := F23.sb 15 (by kernel_rfl) hc24
  have F26 := F25.sb 16 (by kernel_rfl) hc24
  have F27 := F26.sb 17 (by kernel_rfl) hc24
  refine op_wq F27 ?_
  refine op_q F27 (.pointer (some ⟨g1, 2, none⟩)) ?_; intro a28 F28
  refine op_wq F28 ?_
  refine op_rq (v := .string x.fVersion) F28 (r_ld rfl (F28.e (.pointer (some ⟨g1, 2, none⟩))) (v := .string x.fVersion) ((S5.bk 1 rfl).cell 2) Try.underlying9 rfl) ?_; intro a29 F29
  refine op_wq F29 ?_
  refine op_q F29 (.pointer (some ⟨g3, 2, none⟩)) ?_; intro a30 F30
  refine op_wq F30 ?_
  refine op_rq (v := .string y.fVersion) F30 (r_ld rfl (F30.e (.pointer (some ⟨g3, 2, none⟩))) (v := .string y.fVersion) ((S5.bk 0 rfl).cell 2) Try.underlying9 rfl) ?_; intro a31 F31
  refine op_wq F31 ?_
  refine op_q F31 (.bool (x.fVersion.toList == y.fVersion.toList)) ?_; intro a32 F32
  refine op_q F32 (.bool (x.fVersion.toList == y.fVersion.toList)) ?_; intro a33 F33
  refine op_q F33 (.bool (x.fVersion.toList == y.fVersion.toList)) ?_; intro a34 F34
  have hc35 : (x.fVersion.toList == y.fVersion.toList) = true := (by rw [hn_Version]; exact beq_self_eq_true _)
  have F36 := F34.sb 22 (by kernel_rfl) hc35
  have F37 := F36.sb 23 (by kernel_rfl) hc35
  have F38 := F37.sb 24 (by kernel_rfl) hc35
  refine op_wq F38 ?_
  refine op_q F38 (.pointer (some ⟨g1, 3, none⟩)) ?_; intro a39 F39
  refine op_wq F39 ?_
  refine op_rq (v := .string x.fRepository) F39 (r_ld rfl (F39.e (.pointer (some ⟨g1, 3, none⟩))) (v := .string x.fRepository) ((S5.bk 1 rfl).cell 3) Try.underlying9 rfl) ?_; intro a40 F40
  refine op_wq F40 ?_
  refine op_q F40 (.pointer (some ⟨g3, 3, none⟩)) ?_; intro a41 F41
  refine op_wq F41 ?_
  refine op_rq (v := .string y.fRepository) F41 (r_ld rfl (F41.e (.pointer (some ⟨g3, 3, none⟩))) (v := .string y.fRepository) ((S5.bk 0 rfl).cell 3) Try.underlying9 rfl) ?_; intro a42 F42
  refine op_wq F42 ?_
  refine op_q F42 (.bool (x.fRepository.toList == y.fRepository.toList)) ?_; intro a43 F43
  refine op_q F43 (.bool (x.fRepository.toList == y.fRepository.toList)) ?_; intro a44 F44
  refine op_q F44 (.bool (x.fRepository.toList == y.fRepository.toList)) ?_; intro a45 F45
  have hc46 : (x.fRepository.toList == y.fRepository.toList) = true := (by rw [hn_Repository]; exact beq_self_eq_true _)
  have F47 := F45.sb 29 (by kernel_rfl) hc46
  have F48 := F47.sb 30 (by kernel_rfl) hc46
  have F49 := F48.sb 31 (by kernel_rfl) hc46
  refine op_wq F49 ?_
  refine op_q F49 (.pointer (some ⟨g1, 4, none⟩)) ?_; intro a50 F50
  refine op_wq F50 ?_
  refine op_rq (v := .string x.fCondition) F50 (r_ld rfl (F50.e (.pointer (some ⟨g1, 4, none⟩))) (v := .string x.fCondition) ((S5.bk 1 rfl).cell 4) Try.underlying9 rfl) ?_; intro a51 F51
  refine op_wq F51 ?_
  refine op_q F51 (.pointer (some ⟨g3, 4, none⟩)) ?_; intro a52 F52
  refine op_wq F52 ?_
  refine op_rq (v := .string y.fCondition) F52 (r_ld rfl (F52.e (.pointer (some ⟨g3, 4, none⟩))) (v := .string y.fCondition) ((S5.bk 0 rfl).cell 4) Try.underlying9 rfl) ?_; intro a53 F53
  refine op_wq F53 ?_
  refine op_q F53 (.bool (x.fCondition.toList == y.fCondition.toList)) ?_; intro a54 F54
  refine op_q F54 (.bool (x.fCondition.toList == y.fCondition.toList)) ?_; intro a55 F55
  refine op_q F55 (.bool (x.fCondition.toList == y.fCondition.toList)) ?_; intro a56 F56
  have hc57 : (x.fCondition.toList == y.fCondition.toList) = true := (by rw [hn_Condition]; exact beq_self_eq_true _)
  have F58 := F56.sb 36 (by kernel_rfl) hc57
  have F59 := F58.sb 37 (by kernel_rfl) hc57
  have F60 := F59.sb 38 (by kernel_rfl) hc57
  refine op_wq F60 ?_
  refine op_q F60 (.pointer (some ⟨g1, 6, none⟩)) ?_; intro a61 F61
  refine op_wq F61 ?_
  refine op_rq (v := .string x.fAlias) F61 (r_ld rfl (F61.e (.pointer (some ⟨g1, 6, none⟩))) (v := .string x.fAlias) ((S5.bk 1 rfl).cell 6) Try.underlying9 rfl) ?_; intro a62 F62
  refine op_wq F62 ?_
  refine op_q F62 (.pointer (some ⟨g3, 6, none⟩)) ?_; intro a63 F63
  refine op_wq F63 ?_
  refine op_rq (v := .string y.fAlias) F63 (r_ld rfl (F63.e (.pointer (some ⟨g3, 6, none⟩))) (v := .string y.fAlias) ((S5.bk 0 rfl).cell 6) Try.underlying9 rfl) ?_; intro a64 F64
  refine op_wq F64 ?_
  refine op_q F64 (.bool (x.fAlias.toList == y.fAlias.toList)) ?_; intro a65 F65
  refine op_q F65 (.bool (x.fAlias.toList == y.fAlias.toList)) ?_; intro a66 F66
  refine op_q F66 (.bool (x.fAlias.toList == y.fAlias.toList)) ?_; intro a67 F67
  have hc68 : (x.fAlias.toList == y.fAlias.toList) = true := (by rw [hn_Alias]; exact beq_self_eq_true _)
  have F69 := F67.sb 43 (by kernel_rfl) hc68
  have F70 := F69.sb 44 (by kernel_rfl) hc68
  have F71 := F70.sb 45 (by kernel_rfl) hc68
  refine op_wq F71 ?_
  refine op_q F71 (.pointer (some ⟨g1, 5, none⟩)) ?_; intro a72 F72
  refine op_wq F72 ?_
  refine op_rq (v := .slice (x.fTags_a) (x.fTags.length) (x.fTags_c)) F72 (r_ld rfl (F72.e (.pointer (some ⟨g1, 5, none⟩))) (v := .slice (x.fTags_a) (x.fTags.length) (x.fTags_c)) ((S5.bk 1 rfl).cell 5) Try.underlying22 rfl) ?_; intro a73 F73
  refine op_wq F73 ?_
  refine op_q F73 (.pointer (some ⟨g3, 5, none⟩)) ?_; intro a74 F74
  refine op_wq F74 ?_
  refine op_rq (v := .slice (y.fTags_a) (y.fTags.length) (y.fTags_c)) F74 (r_ld rfl (F74.e (.pointer (some ⟨g3, 5, none⟩))) (v := .slice (y.fTags_a) (y.fTags.length) (y.fTags_c)) ((S5.bk 0 rfl).cell 5) Try.underlying22 rfl) ?_; intro a75 F75
  refine op_wq F75 ?_
  refine op_cq F75 (f := 123) (args := #[.slice (x.fTags_a) (x.fTags.length) (x.fTags_c), .slice (y.fTags_a) (y.fTags.length) (y.fTags_c)]) (chTexts_eq x.fTags_a x.fTags_c x.fTags y.fTags_a y.fTags_c y.fTags _ _ _ S5 (fun w S => h0 w S.drop.drop) (fun w S => h1 w S.drop.drop) (by with_reducible assumption)) ?_
  rintro _ w76 ⟨rfl, S76⟩
  refine ⟨_, rfl, ?_⟩
  intro a77 F77
  refine op_q F77 (.bool true) ?_; intro a78 F78
  refine op_q F78 (.bool true) ?_; intro a79 F79
  refine wpList_nil ?_
  refine hK7 _ _ ?_; clear hK7 K7
  refine wp_ret ?_
  refine (F79.res1 rfl (v := .bool true) (by kernel_rfl) ?_).1
  exact ⟨rfl, S76.drop.drop⟩
set_option maxRecDepth 100000 in
set_option maxHeartbeats 20000000 in
theorem sameMeta_yes (x : Ty26) (y : Ty26) (R : Ctx) (L : List SA) (w : World) (S : Sp R w (L)) (h0 : Rf R L fun w => MetaAt w x) (h1 : Rf R L fun w => MetaAt w y) (he : metS x = metS y) :
    Calls Try.prog 62 #[.agg #[.string x.fName, .string x.fHome, .string x.fVersion, .string x.fDescription, .string x.fIcon, .string x.fAPIVersion, .string x.fCondition, .string x.fTags, .string x.fAppVersion, .string x.fKubeVersion, .string x.fType, .slice (x.fSources_a) (x.fSources.length) (x.fSources_c), .slice (x.fKeywords_a) (x.fKeywords.length) (x.fKeywords_c), .slice (x.fMaintainers_a) (x.fMaintainers.length) (x.fMaintainers_c), .slice (x.fDependencies_a) (x.fDependencies.length) (x.fDependencies_c)], .agg #[.string y.fName, .string y.fHome, .string y.fVersion, .string y.fDescription, .string y.fIcon, .string y.fAPIVersion, .string y.fCondition, .string y.fTags, .string y.fAppVersion, .string y.fKubeVersion, .string y.fType, .slice (y.fSources_a) (y.fSources.length) (y.fSources_c), .slice (y.fKeywords_a) (y.fKeywords.length) (y.fKeywords_c), .slice (y.fMaintainers_a) (y.fMaintainers.length) (y.fMaintainers_c), .slice (y.fDependencies_a) (y.fDependencies.length) (y.fDependencies_c)]] w fun e w' => e = .returned (.bool true) ∧ Sp R w' (L) := by
  have hn_Name : x.fName = y.fName := show (metS x).fName = (metS y).fName by rw [he]
  have hn_Home : x.fHome = y.fHome := show (metS x).fHome = (metS y).fHome by rw [he]
  have hn_Version : x.fVersion = y.fVersion := show (metS x).fVersion = (metS y).fVersion by rw [he]
  have hn_Description : x.fDescription = y.fDescription := show (metS x).fDescription = (metS y).fDescription by rw [he]
  have hn_Icon : x.fIcon = y.fIcon := show (metS x).fIcon = (metS y).fIcon by rw [he]
  have hn_APIVersion : x.fAPIVersion = y.fAPIVersion := show (metS x).fAPIVersion = (metS y).fAPIVersion by rw [he]
  have hn_Condition : x.fCondition = y.fCondition := show (metS x).fCondition = (metS y).fCondition by rw [he]
  have hn_Tags : x.fTags = y.fTags := show (metS x).fTags = (metS y).fTags by rw [he]
  have hn_AppVersion : x.fAppVersion = y.fAppVersion := show (metS x).fAppVersion = (metS y).fAppVersion by rw [he]
  have hn_KubeVersion : x.fKubeVersion = y.fKubeVersion := show (metS x).fKubeVersion = (metS y).fKubeVersion by rw [he]
  have hn_Type : x.fType = y.fType := show (metS x).fType = (metS y).fType by rw [he]
  have eSources : y.fSources = x.fSources := show (metS y).fSources = (metS x).fSources by rw [he]
  have eKeywords : y.fKeywords = x.fKeywords := show (metS y).fKeywords = (metS x).fKeywords by rw [he]
  have eMaintainers : y.fMaintainers = x.fMaintainers := show (metS y).fMaintainers = (metS x).fMaintainers by rw [he]
  have eD : x.fDependencies.map depS = y.fDependencies.map depS := show (metS x).fDependencies = (metS y).fDependencies by rw [he]
  have eSl : y.fSources.length = x.fSources.length := by rw [eSources]
  have eKl : y.fKeywords.length = x.fKeywords.length := by rw [eKeywords]
  have eMl : y.fMaintainers.length = x.fMaintainers.length := by rw [eMaintainers]
  have eDl : y.fDependencies.length = x.fDependencies.length := by have := congrArg List.length eD; simp at this; exact this.symm
  have k0 : Rf R L fun w => Sl w x.fSources_a (strs x.fSources) := fun w S => (h0 w S).1
  have k1 : Rf R L fun w => Sl w y.fSources_a (strs y.fSources) := fun w S => (h1 w S).1
  have k2 : Rf R L fun w => Sl w x.fKeywords_a (strs x.fKeywords) := fun w S => (h0 w S).2.1
  have k3 : Rf R L fun w => Sl w y.fKeywords_a (strs y.fKeywords) := fun w S => (h1 w S).2.1
  have k4 : Rf R L fun w => Rows w x.fMaintainers_a 4 (x.fMaintainers.map Ty78.cells) := fun w S => (h0 w S).2.2.1
  have k5 : Rf R L fun w => Rows w y.fMaintainers_a 4 (x.fMaintainers.map Ty78.cells) := fun w S => by rw [← eMaintainers]; exact (h1 w S).2.2.1
  have k6 : Rf R L fun w => Rows w x.fDependencies_a 7 (x.fDependencies.map Ty80.cells) := fun w S => (h0 w S).2.2.2.1
  have k7 : Rf R L fun w => Rows w y.fDependencies_a 7 (y.fDependencies.map Ty80.cells) := fun w S => (h1 w S).2.2.2.1
  have hlM : x.fMaintainers.length ≤ 9223372036854775807 := by have := (k4 w S).1; simpa using this
  have hlD : x.fDependencies.length ≤ 9223372036854775807 := by have := (k6 w S).1; simpa using this
  refine fw_enter (fn := Try.f62) rfl rfl 149 rfl (Nat.le_of_ble_eq_true rfl) ?_
  intro a0 F0
  refine wp_seq_k fun K1 hK1 => ?_
  refine wp_region_lit ?_
  refine op_sq F0 (s_newp F0 26 #[.string x.fName, .string x.fHome, .string x.fVersion, .string x.fDescription, .string x.fIcon, .string x.fAPIVersion, .string x.fCondition, .string x.fTags, .string x.fAppVersion, .string x.fKubeVersion, .string x.fType, .slice (x.fSources_a) (x.fSources.length) (x.fSources_c), .slice (x.fKeywords_a) (x.fKeywords.length) (x.fKeywords_c), .slice (x.fMaintainers_a) (x.fMaintainers.length) (x.fMaintainers_c), .slice (x.fDependencies_a) (x.fDependencies.length) (x.fDependencies_c)] (by kernel_rfl) (by kernel_rfl) (by kernel_rfl) S) ?_
  rintro _ _ w3 ⟨g1, rfl, rfl⟩ S3 a3 F3
  refine op_sq F3 (s_newp F3 26 #[.string y.fName, .string y.fHome, .string y.fVersion, .string y.fDescription, .string y.fIcon, .string y.fAPIVersion, .string y.fCondition, .string y.fTags, .string y.fAppVersion, .string y.fKubeVersion, .string y.fType, .slice (y.fSources_a) (y.fSources.length) (y.fSources_c), .slice (y.fKeywords_a) (y.fKeywords.length) (y.fKeywords_c), .slice (y.fMaintainers_a) (y.fMaintainers.length) (y.fMaintainers_c), .slice (y.fDependencies_a) (y.fDependencies.length) (y.fDependencies_c)] (by kernel_rfl) (by kernel_rfl) (by kernel_rfl) S3) ?_
  rintro _ _ w5 ⟨g3, rfl, rfl⟩ S5 a5 F5
  refine op_q F5 (.bool false) ?_; intro a6 F6
  refine wpList_nil ?_
  refine hK1 _ _ ?_; clear hK1 K1
  refine wp_seq_k fun K7 hK7 => ?_
  refine wp_seq_k fun K8 hK8 => ?_
  refine wp_region_lit ?_
  refine op_q F6 (.pointer (some ⟨g1, 0, none⟩)) ?_; intro a9 F9
  refine op_rq (v := .string x.fName) F9 (r_ld rfl (F9.e (.pointer (some ⟨g1, 0, none⟩))) (v := .string x.fName) ((S5.bk 1 rfl).cell 0) Try.underlying9 rfl) ?_; intro a10 F10
  refine op_q F10 (.pointer (some ⟨g3, 0, none⟩)) ?_; intro a11 F11
  refine op_rq (v := .string y.fName) F11 (r_ld rfl (F11.e (.pointer (some ⟨g3, 0, none⟩))) (v := .string y.fName) ((S5.bk 0 rfl).cell 0) Try.underlying9 rfl) ?_; intro a12 F12
  refine op_q F12 (.bool (!(x.fName.toList == y.fName.toList))) ?_; intro a13 F13
  refine op_q F13 (.bool (!(x.fName.toList == y.fName.toList))) ?_; intro a14 F14
  have hc15 : (x.fName.toList == y.fName.toList) = true := (by rw [hn_Name]; exact beq_self_eq_true _)
  have F16 := F14.sb 13 (by kernel_rfl) (show (!(x.fName.toList == y.fName.toList)) = false by rw [hc15]; rfl)
  have F17 := F16.sb 14 (by kernel_rfl) (show (!(x.fName.toList == y.fName.toList)) = false by rw [hc15]; rfl)
  refine op_wq F17 ?_
  refine op_q F17 (.pointer (some ⟨g1, 1, none⟩)) ?_; intro a18 F18
  refine op_wq F18 ?_
  refine op_rq (v := .string x.fHome) F18 (r_ld rfl (F18.e (.pointer (some ⟨g1, 1, none⟩))) (v := .string x.fHome) ((S5.bk 1 rfl).cell 1) Try.underlying9 rfl) ?_; intro a19 F19
  refine op_wq F19 ?_
  refine op_q F19 (.pointer (some ⟨g3, 1, none⟩)) ?_; intro a20 F20
  refine op_wq F20 ?_
  refine op_rq (v := .string y.fHome) F20 (r_ld rfl (F20.e (.pointer (some ⟨g3, 1, none⟩))) (v := .string y.fHome) ((S5.bk 0 rfl).cell 1) Try.underlying9 rfl) ?_; intro a21 F21
  refine op_wq F21 ?_
  refine op_q F21 (.bool (!(x.fHome.toList == y.fHome.toList))) ?_; intro a22 F22
  refine op_q F22 (.bool (!(x.fHome.toList == y.fHome.toList))) ?_; intro a23 F23
  refine op_q F23 (.bool (!(x.fHome.toList == y.fHome.toList))) ?_; intro a24 F24
  have hc25 : (x.fHome.toList == y.fHome.toList) = true := (by rw [hn_Home]; exact beq_self_eq_true _)
  have F26 := F24.sb 19 (by kernel_rfl) (show (!(x.fHome.toList == y.fHome.toList)) = false by rw [hc25]; rfl)
  have F27 := F26.sb 20 (by kernel_rfl) (show (!(x.fHome.toList == y.fHome.toList)) = false by rw [hc25]; rfl)
  have F28 := F27.sb 21 (by kernel_rfl) (show (!(x.fHome.toList == y.fHome.toList)) = false by rw [hc25]; rfl)
  refine op_wq F28 ?_
  refine op_q F28 (.pointer (some ⟨g1, 2, none⟩)) ?_; intro a29 F29
  refine op_wq F29 ?_
  refine op_rq (v := .string x.fVersion) F29 (r_ld rfl (F29.e (.pointer (some ⟨g1, 2, none⟩))) (v := .string x.fVersion) ((S5.bk 1 rfl).cell 2) Try.underlying9 rfl) ?_; intro a30 F30
  refine op_wq F30 ?_
  refine op_q F30 (.pointer (some ⟨g3, 2, none⟩)) ?_; intro a31 F31
  refine op_wq F31 ?_
  refine op_rq (v := .string y.fVersion) F31 (r_ld rfl (F31.e (.pointer (some ⟨g3, 2, none⟩))) (v := .string y.fVersion) ((S5.bk 0 rfl).cell 2) Try.underlying9 rfl) ?_; intro a32 F32
  refine op_wq F32 ?_
  refine op_q F32 (.bool (!(x.fVersion.toList == y.fVersion.toList))) ?_; intro a33 F33
  refine op_q F33 (.bool (!(x.fVersion.toList == y.fVersion.toList))) ?_; intro a34 F34
  refine op_q F34 (.bool (!(x.fVersion.toList == y.fVersion.toList))) ?_; intro a35 F35
  have hc36 : (x.fVersion.toList == y.fVersion.toList) = true := (by rw [hn_Version]; exact beq_self_eq_true _)
  have F37 := F35.sb 26 (by kernel_rfl) (show (!(x.fVersion.toList == y.fVersion.toList)) = false by rw [hc36]; rfl)
  have F38 := F37.sb 27 (by kernel_rfl) (show (!(x.fVersion.toList == y.fVersion.toList)) = false by rw [hc36]; rfl)
  have F39 := F38.sb 28 (by kernel_rfl) (show (!(x.fVersion.toList == y.fVersion.toList)) = false by rw [hc36]; rfl)
  refine op_wq F39 ?_
  refine op_q F39 (.pointer (some ⟨g1, 3, none⟩)) ?_; intro a40 F40
  refine op_wq F40 ?_
  refine op_rq (v := .string x.fDescription) F40 (r_ld rfl (F40.e (.pointer (some ⟨g1, 3, none⟩))) (v := .string x.fDescription) ((S5.bk 1 rfl).cell 3) Try.underlying9 rfl) ?_; intro a41 F41
  refine op_wq F41 ?_
  refine op_q F41 (.pointer (some ⟨g3, 3, none⟩)) ?_; intro a42 F42
  refine op_wq F42 ?_
  refine op_rq (v := .string y.fDescription) F42 (r_ld rfl (F42.e (.pointer (some ⟨g3, 3, none⟩))) (v := .string y.fDescription) ((S5.bk 0 rfl).cell 3) Try.underlying9 rfl) ?_; intro a43 F43
  refine op_wq F43 ?_
  refine op_q F43 (.bool (!(x.fDescription.toList == y.fDescription.toList))) ?_; intro a44 F44
  refine op_q F44 (.bool (!(x.fDescription.toList == y.fDescription.toList))) ?_; intro a45 F45
  refine op_q F45 (.bool (!(x.fDescription.toList == y.fDescription.toList))) ?_; intro a46 F46
  have hc47 : (x.fDescription.toList == y.fDescription.toList) = true := (by rw [hn_Description]; exact beq_self_eq_true _)
  have F48 := F46.sb 33 (by kernel_rfl) (show (!(x.fDescription.toList == y.fDescription.toList)) = false by rw [hc47]; rfl)
  have F49 := F48.sb 34 (by kernel_rfl) (show (!(x.fDescription.toList == y.fDescription.toList)) = false by rw [hc47]; rfl)
  have F50 := F49.sb 35 (by kernel_rfl) (show (!(x.fDescription.toList == y.fDescription.toList)) = false by rw [hc47]; rfl)
  refine op_wq F50 ?_
  refine op_q F50 (.pointer (some ⟨g1, 4, none⟩)) ?_; intro a51 F51
  refine op_wq F51 ?_
  refine op_rq (v := .string x.fIcon) F51 (r_ld rfl (F51.e (.pointer (some ⟨g1, 4, none⟩))) (v := .string x.fIcon) ((S5.bk 1 rfl).cell 4) Try.underlying9 rfl) ?_; intro a52 F52
  refine op_wq F52 ?_
  refine op_q F52 (.pointer (some ⟨g3, 4, none⟩)) ?_; intro a53 F53
  refine op_wq F53 ?_
  refine op_rq (v := .string y.fIcon) F53 (r_ld rfl (F53.e (.pointer (some ⟨g3, 4, none⟩))) (v := .string y.fIcon) ((S5.bk 0 rfl).cell 4) Try.underlying9 rfl) ?_; intro a54 F54
  refine op_wq F54 ?_
  refine op_q F54 (.bool (!(x.fIcon.toList == y.fIcon.toList))) ?_; intro a55 F55
  refine op_q F55 (.bool (!(x.fIcon.toList == y.fIcon.toList))) ?_; intro a56 F56
  refine op_q F56 (.bool (!(x.fIcon.toList == y.fIcon.toList))) ?_; intro a57 F57
  have hc58 : (x.fIcon.toList == y.fIcon.toList) = true := (by rw [hn_Icon]; exact beq_self_eq_true _)
  have F59 := F57.sb 40 (by kernel_rfl) (show (!(x.fIcon.toList == y.fIcon.toList)) = false by rw [hc58]; rfl)
  have F60 := F59.sb 41 (by kernel_rfl) (show (!(x.fIcon.toList == y.fIcon.toList)) = false by rw [hc58]; rfl)
  have F61 := F60.sb 42 (by kernel_rfl) (show (!(x.fIcon.toList == y.fIcon.toList)) = false by rw [hc58]; rfl)
  refine op_wq F61 ?_
  refine op_q F61 (.pointer (some ⟨g1, 5, none⟩)) ?_; intro a62 F62
  refine op_wq F62 ?_
  refine op_rq (v := .string x.fAPIVersion) F62 (r_ld rfl (F62.e (.pointer (some ⟨g1, 5, none⟩))) (v := .string x.fAPIVersion) ((S5.bk 1 rfl).cell 5) Try.underlying9 rfl) ?_; intro a63 F63
  refine op_wq F63 ?_
  refine op_q F63 (.pointer (some ⟨g3, 5, none⟩)) ?_; intro a64 F64
  refine op_wq F64 ?_
  refine op_rq (v := .string y.fAPIVersion) F64 (r_ld rfl (F64.e (.pointer (some ⟨g3, 5, none⟩))) (v := .string y.fAPIVersion) ((S5.bk 0 rfl).cell 5) Try.underlying9 rfl) ?_; intro a65 F65
  refine op_wq F65 ?_
  refine op_q F65 (.bool (!(x.fAPIVersion.toList == y.fAPIVersion.toList))) ?_; intro a66 F66
  refine op_q F66 (.bool (!(x.fAPIVersion.toList == y.fAPIVersion.toList))) ?_; intro a67 F67
  refine op_q F67 (.bool (!(x.fAPIVersion.toList == y.fAPIVersion.toList))) ?_; intro a68 F68
  have hc69 : (x.fAPIVersion.toList == y.fAPIVersion.toList) = true := (by rw [hn_APIVersion]; exact beq_self_eq_true _)
  have F70 := F68.sb 47 (by kernel_rfl) (show (!(x.fAPIVersion.toList == y.fAPIVersion.toList)) = false by rw [hc69]; rfl)
  have F71 := F70.sb 48 (by kernel_rfl) (show (!(x.fAPIVersion.toList == y.fAPIVersion.toList)) = false by rw [hc69]; rfl)
  have F72 := F71.sb 49 (by kernel_rfl) (show (!(x.fAPIVersion.toList == y.fAPIVersion.toList)) = false by rw [hc69]; rfl)
  refine op_wq F72 ?_
  refine op_q F72 (.pointer (some ⟨g1, 6, none⟩)) ?_; intro a73 F73
  refine op_wq F73 ?_
  refine op_rq (v := .string x.fCondition) F73 (r_ld rfl (F73.e (.pointer (some ⟨g1, 6, none⟩))) (v := .string x.fCondition) ((S5.bk 1 rfl).cell 6) Try.underlying9 rfl) ?_; intro a74 F74
  refine op_wq F74 ?_
  refine op_q F74 (.pointer (some ⟨g3, 6, none⟩)) ?_; intro a75 F75
  refine op_wq F75 ?_
  refine op_rq (v := .string y.fCondition) F75 (r_ld rfl (F75.e (.pointer (some ⟨g3, 6, none⟩))) (v := .string y.fCondition) ((S5.bk 0 rfl).cell 6) Try.underlying9 rfl) ?_; intro a76 F76
  refine op_wq F76 ?_
  refine op_q F76 (.bool (!(x.fCondition.toList == y.fCondition.toList))) ?_; intro a77 F77
  refine op_q F77 (.bool (!(x.fCondition.toList == y.fCondition.toList))) ?_; intro a78 F78
  refine op_q F78 (.bool (!(x.fCondition.toList == y.fCondition.toList))) ?_; intro a79 F79
  have hc80 : (x.fCondition.toList == y.fCondition.toList) = true := (by rw [hn_Condition]; exact beq_self_eq_true _)
  have F81 := F79.sb 54 (by kernel_rfl) (show (!(x.fCondition.toList == y.fCondition.toList)) = false by rw [hc80]; rfl)
  have F82 := F81.sb 55 (by kernel_rfl) (show (!(x.fCondition.toList == y.fCondition.toList)) = false by rw [hc80]; rfl)
  have F83 := F82.sb 56 (by kernel_rfl) (show (!(x.fCondition.toList == y.fCondition.toList)) = false by rw [hc80]; rfl)
  refine op_wq F83 ?_
  refine op_q F83 (.pointer (some ⟨g1, 7, none⟩)) ?_; intro a84 F84
  refine op_wq F84 ?_
  refine op_rq (v := .string x.fTags) F84 (r_ld rfl (F84.e (.pointer (some ⟨g1, 7, none⟩))) (v := .string x.fTags) ((S5.bk 1 rfl).cell 7) Try.underlying9 rfl) ?_; intro a85 F85
  refine op_wq F85 ?_
  refine op_q F85 (.pointer (some ⟨g3, 7, none⟩)) ?_; intro a86 F86
  refine op_wq F86 ?_
  refine op_rq (v := .string y.fTags) F86 (r_ld rfl (F86.e (.pointer (some ⟨g3, 7, none⟩))) (v := .string y.fTags) ((S5.bk 0 rfl).cell 7) Try.underlying9 rfl) ?_; intro a87 F87
  refine op_wq F87 ?_
  refine op_q F87 (.bool (!(x.fTags.toList == y.fTags.toList))) ?_; intro a88 F88
  refine op_q F88 (.bool (!(x.fTags.toList == y.fTags.toList))) ?_; intro a89 F89
  refine op_q F89 (.bool (!(x.fTags.toList == y.fTags.toList))) ?_; intro a90 F90
  have hc91 : (x.fTags.toList == y.fTags.toList) = true := (by rw [hn_Tags]; exact beq_self_eq_true _)
  have F92 := F90.sb 61 (by kernel_rfl) (show (!(x.fTags.toList == y.fTags.toList)) = false by rw [hc91]; rfl)
  have F93 := F92.sb 62 (by kernel_rfl) (show (!(x.fTags.toList == y.fTags.toList)) = false by rw [hc91]; rfl)
  have F94 := F93.sb 63 (by kernel_rfl) (show (!(x.fTags.toList == y.fTags.toList)) = false by rw [hc91]; rfl)
  refine op_wq F94 ?_
  refine op_q F94 (.pointer (some ⟨g1, 8, none⟩)) ?_; intro a95 F95
  refine op_wq F95 ?_
  refine op_rq (v := .string x.fAppVersion) F95 (r_ld rfl (F95.e (.pointer (some ⟨g1, 8, none⟩))) (v := .string x.fAppVersion) ((S5.bk 1 rfl).cell 8) Try.underlying9 rfl) ?_; intro a96 F96
  refine op_wq F96 ?_
  refine op_q F96 (.pointer (some ⟨g3, 8, none⟩)) ?_; intro a97 F97
  refine op_wq F97 ?_
  refine op_rq (v := .string y.fAppVersion) F97 (r_ld rfl (F97.e (.pointer (some ⟨g3, 8, none⟩))) (v := .string y.fAppVersion) ((S5.bk 0 rfl).cell 8) Try.underlying9 rfl) ?_; intro a98 F98
  refine op_wq F98 ?_
  refine op_q F98 (.bool (!(x.fAppVersion.toList == y.fAppVersion.toList))) ?_; intro a99 F99
  refine op_q F99 (.bool (!(x.fAppVersion.toList == y.fAppVersion.toList))) ?_; intro a100 F100
  refine op_q F100 (.bool (!(x.fAppVersion.toList == y.fAppVersion.toList))) ?_; intro a101 F101
  have hc102 : (x.fAppVersion.toList == y.fAppVersion.toList) = true := (by rw [hn_AppVersion]; exact beq_self_eq_true _)
  have F103 := F101.sb 68 (by kernel_rfl) (show (!(x.fAppVersion.toList == y.fAppVersion.toList)) = false by rw [hc102]; rfl)
  have F104 := F103.sb 69 (by kernel_rfl) (show (!(x.fAppVersion.toList == y.fAppVersion.toList)) = false by rw [hc102]; rfl)
  have F105 := F104.sb 70 (by kernel_rfl) (show (!(x.fAppVersion.toList == y.fAppVersion.toList)) = false by rw [hc102]; rfl)
  refine op_wq F105 ?_
  refine op_q F105 (.pointer (some ⟨g1, 9, none⟩)) ?_; intro a106 F106
  refine op_wq F106 ?_
  refine op_rq (v := .string x.fKubeVersion) F106 (r_ld rfl (F106.e (.pointer (some ⟨g1, 9, none⟩))) (v := .string x.fKubeVersion) ((S5.bk 1 rfl).cell 9) Try.underlying9 rfl) ?_; intro a107 F107
  refine op_wq F107 ?_
  refine op_q F107 (.pointer (some ⟨g3, 9, none⟩)) ?_; intro a108 F108
  refine op_wq F108 ?_
  refine op_rq (v := .string y.fKubeVersion) F108 (r_ld rfl (F108.e (.pointer (some ⟨g3, 9, none⟩))) (v := .string y.fKubeVersion) ((S5.bk 0 rfl).cell 9) Try.underlying9 rfl) ?_; intro a109 F109
  refine op_wq F109 ?_
  refine op_q F109 (.bool (!(x.fKubeVersion.toList == y.fKubeVersion.toList))) ?_; intro a110 F110
  refine op_q F110 (.bool (!(x.fKubeVersion.toList == y.fKubeVersion.toList))) ?_; intro a111 F111
  refine op_q F111 (.bool (!(x.fKubeVersion.toList == y.fKubeVersion.toList))) ?_; intro a112 F112
  have hc113 : (x.fKubeVersion.toList == y.fKubeVersion.toList) = true := (by rw [hn_KubeVersion]; exact beq_self_eq_true _)
  have F114 := F112.sb 75 (by kernel_rfl) (show (!(x.fKubeVersion.toList == y.fKubeVersion.toList)) = false by rw [hc113]; rfl)
  have F115 := F114.sb 76 (by kernel_rfl) (show (!(x.fKubeVersion.toList == y.fKubeVersion.toList)) = false by rw [hc113]; rfl)
  have F116 := F115.sb 77 (by kernel_rfl) (show (!(x.fKubeVersion.toList == y.fKubeVersion.toList)) = false by rw [hc113]; rfl)
  refine op_wq F116 ?_
  refine op_q F116 (.pointer (some ⟨g1, 10, none⟩)) ?_; intro a117 F117
  refine op_wq F117 ?_
  refine op_rq (v := .string x.fType) F117 (r_ld rfl (F117.e (.pointer (some ⟨g1, 10, none⟩))) (v := .string x.fType) ((S5.bk 1 rfl).cell 10) Try.underlying9 rfl) ?_; intro a118 F118
  refine op_wq F118 ?_
  refine op_q F118 (.pointer (some ⟨g3, 10, none⟩)) ?_; intro a119 F119
  refine op_wq F119 ?_
  refine op_rq (v := .string y.fType) F119 (r_ld rfl (F119.e (.pointer (some ⟨g3, 10, none⟩))) (v := .string y.fType) ((S5.bk 0 rfl).cell 10) Try.underlying9 rfl) ?_; intro a120 F120
  refine op_wq F120 ?_
  refine op_q F120 (.bool (!(x.fType.toList == y.fType.toList))) ?_; intro a121 F121
  refine op_q F121 (.bool (!(x.fType.toList == y.fType.toList))) ?_; intro a122 F122
  refine wpList_nil ?_
  refine hK8 _ _ ?_; clear hK8 K8
  have hc123 : (x.fType.toList == y.fType.toList) = true := (by rw [hn_Type]; exact beq_self_eq_true _)
  have F124 := F122.sb 82 (by kernel_rfl) (show (!(x.fType.toList == y.fType.toList)) = false by rw [hc123]; rfl)
  have F125 := F124.sb 83 (by kernel_rfl) (show (!(x.fType.toList == y.fType.toList)) = false by rw [hc123]; rfl)
  refine wp_cond_false (F125.ev (by kernel_rfl)) ?_
  refine wp_skip ?_
  refine hK7 _ _ ?_; clear hK7 K7
  refine wp_seq_k fun K126 hK126 => ?_
  refine wp_seq_k fun K127 hK127 => ?_
  refine wp_region_lit ?_
  refine op_q F125 (.pointer (some ⟨g1, 11, none⟩)) ?_; intro a128 F128
  refine op_rq (v := .slice (x.fSources_a) (x.fSources.length) (x.fSources_c)) F128 (r_ld rfl (F128.e (.pointer (some ⟨g1, 11, none⟩))) (v := .slice (x.fSources_a) (x.fSources.length) (x.fSources_c)) ((S5.bk 1 rfl).cell 11) Try.underlying22 rfl) ?_; intro a129 F129
  refine op_q F129 (.pointer (some ⟨g3, 11, none⟩)) ?_; intro a130 F130
  refine op_rq (v := .slice (y.fSources_a) (y.fSources.length) (y.fSources_c)) F130 (r_ld rfl (F130.e (.pointer (some ⟨g3, 11, none⟩))) (v := .slice (y.fSources_a) (y.fSources.length) (y.fSources_c)) ((S5.bk 0 rfl).cell 11) Try.underlying22 rfl) ?_; intro a131 F131
  refine op_cq F131 (f := 123) (args := #[.slice (x.fSources_a) (x.fSources.length) (x.fSources_c), .slice (y.fSources_a) (y.fSources.length) (y.fSources_c)]) (chTexts_eq x.fSources_a x.fSources_c x.fSources y.fSources_a y.fSources_c y.fSources _ _ _ S5 (fun w S => k0 w S.drop.drop) (fun w S => k1 w S.drop.drop) (by with_reducible assumption)) ?_
  rintro _ w132 ⟨rfl, S132⟩
  refine ⟨_, rfl, ?_⟩
  intro a133 F133
  refine op_q F133 (.bool false) ?_; intro a134 F134
  refine op_q F134 (.bool false) ?_; intro a135 F135
  refine op_wq F135 ?_
  refine op_q F135 (.pointer (some ⟨g1, 12, none⟩)) ?_; intro a136 F136
  refine op_wq F136 ?_
  refine op_rq (v := .slice (x.fKeywords_a) (x.fKeywords.length) (x.fKeywords_c)) F136 (r_ld rfl (F136.e (.pointer (some ⟨g1, 12, none⟩))) (v := .slice (x.fKeywords_a) (x.fKeywords.length) (x.fKeywords_c)) ((S132.bk 1 rfl).cell 12) Try.underlying22 rfl) ?_; intro a137 F137
  refine op_wq F137 ?_
  refine op_q F137 (.pointer (some ⟨g3, 12, none⟩)) ?_; intro a138 F138
  refine op_wq F138 ?_
  refine op_rq (v := .slice (y.fKeywords_a) (y.fKeywords.length) (y.fKeywords_c)) F138 (r_ld rfl (F138.e (.pointer (some ⟨g3, 12, none⟩))) (v := .slice (y.fKeywords_a) (y.fKeywords.length) (y.fKeywords_c)) ((S132.bk 0 rfl).cell 12) Try.underlying22 rfl) ?_; intro a139 F139
  refine op_wq F139 ?_
  refine op_cq F139 (f := 123) (args := #[.slice (x.fKeywords_a) (x.fKeywords.length) (x.fKeywords_c), .slice (y.fKeywords_a) (y.fKeywords.length) (y.fKeywords_c)]) (chTexts_eq x.fKeywords_a x.fKeywords_c x.fKeywords y.fKeywords_a y.fKeywords_c y.fKeywords _ _ _ S132 (fun w S => k2 w S.drop.drop) (fun w S => k3 w S.drop.drop) (by with_reducible assumption)) ?_
  rintro _ w140 ⟨rfl, S140⟩
  refine ⟨_, rfl, ?_⟩
  intro a141 F141
  refine op_wq F141 ?_
  refine op_q F141 (.bool false) ?_; intro a142 F142
  refine op_q F142 (.bool false) ?_; intro a143 F143
  refine op_q F143 (.bool false) ?_; intro a144 F144
  refine op_wq F144 ?_
  refine op_q F144 (.pointer (some ⟨g1, 13, none⟩)) ?_; intro a145 F145
  refine op_wq F145 ?_
  refine op_rq (v := .slice (x.fMaintainers_a) (x.fMaintainers.length) (x.fMaintainers_c)) F145 (r_ld rfl (F145.e (.pointer (some ⟨g1, 13, none⟩))) (v := .slice (x.fMaintainers_a) (x.fMaintainers.length) (x.fMaintainers_c)) ((S140.bk 1 rfl).cell 13) Try.underlying23 rfl) ?_; intro a146 F146
  refine op_wq F146 ?_
  refine op_q F146 (.int .i64 (↑x.fMaintainers.length)) ?_; intro a147 F147
  refine op_wq F147 ?_
  refine op_q F147 (.pointer (some ⟨g3, 13, none⟩)) ?_; intro a148 F148
  refine op_wq F148 ?_
  refine op_rq (v := .slice (y.fMaintainers_a) (y.fMaintainers.length) (y.fMaintainers_c)) F148 (r_ld rfl (F148.e (.pointer (some ⟨g3, 13, none⟩))) (v := .slice (y.fMaintainers_a) (y.fMaintainers.length) (y.fMaintainers_c)) ((S140.bk 0 rfl).cell 13) Try.underlying23 rfl) ?_; intro a149 F149
  refine op_wq F149 ?_
  refine op_q F149 (.int .i64 (↑y.fMaintainers.length)) ?_; intro a150 F150
  refine op_wq F150 ?_
  refine op_q F150 (.bool (!((↑x.fMaintainers.length : Int) == ↑y.fMaintainers.length))) ?_; intro a151 F151
  refine op_q F151 (.bool (!((↑x.fMaintainers.length : Int) == ↑y.fMaintainers.length))) ?_; intro a152 F152
  refine op_q F152 (.bool (!((↑x.fMaintainers.length : Int) == ↑y.fMaintainers.length))) ?_; intro a153 F153
  have hc154 : ((↑x.fMaintainers.length : Int) == ↑y.fMaintainers.length) = true := (by rw [eMl]; exact beq_self_eq_true _)
  have F155 := F153.sb 105 (by kernel_rfl) (show (!((↑x.fMaintainers.length : Int) == ↑y.fMaintainers.length)) = false by rw [hc154]; rfl)
  have F156 := F155.sb 106 (by kernel_rfl) (show (!((↑x.fMaintainers.length : Int) == ↑y.fMaintainers.length)) = false by rw [hc154]; rfl)
  have F157 := F156.sb 107 (by kernel_rfl) (show (!((↑x.fMaintainers.length : Int) == ↑y.fMaintainers.length)) = false by rw [hc154]; rfl)
  refine op_wq F157 ?_
  refine op_q F157 (.pointer (some ⟨g1, 14, none⟩)) ?_; intro a158 F158
  refine op_wq F158 ?_
  refine op_rq (v := .slice (x.fDependencies_a) (x.fDependencies.length) (x.fDependencies_c)) F158 (r_ld rfl (F158.e (.pointer (some ⟨g1, 14, none⟩))) (v := .slice (x.fDependencies_a) (x.fDependencies.length) (x.fDependencies_c)) ((S140.bk 1 rfl).cell 14) Try.underlying24 rfl) ?_; intro a159 F159
  refine op_wq F159 ?_
  refine op_q F159 (.int .i64 (↑x.fDependencies.length)) ?_; intro a160 F160
  refine op_wq F160 ?_
  refine op_q F160 (.pointer (some ⟨g3, 14, none⟩)) ?_; intro a161 F161
  refine op_wq F161 ?_
  refine op_rq (v := .slice (y.fDependencies_a) (y.fDependencies.length) (y.fDependencies_c)) F161 (r_ld rfl (F161.e (.pointer (some ⟨g3, 14, none⟩))) (v := .slice (y.fDependencies_a) (y.fDependencies.length) (y.fDependencies_c)) ((S140.bk 0 rfl).cell 14) Try.underlying24 rfl) ?_; intro a162 F162
  refine op_wq F162 ?_
  refine op_q F162 (.int .i64 (↑y.fDependencies.length)) ?_; intro a163 F163
  refine op_wq F163 ?_
  refine op_q F163 (.bool (!((↑x.fDependencies.length : Int) == ↑y.fDependencies.length))) ?_; intro a164 F164
  refine op_q F164 (.bool (!((↑x.fDependencies.length : Int) == ↑y.fDependencies.length))) ?_; intro a165 F165
  refine wpList_nil ?_
  refine hK127 _ _ ?_; clear hK127 K127
  have hc166 : ((↑x.fDependencies.length : Int) == ↑y.fDependencies.length) = true := (by rw [eDl]; exact beq_self_eq_true _)
  have F167 := F165.sb 114 (by kernel_rfl) (show (!((↑x.fDependencies.length : Int) == ↑y.fDependencies.length)) = false by rw [hc166]; rfl)
  have F168 := F167.sb 115 (by kernel_rfl) (show (!((↑x.fDependencies.length : Int) == ↑y.fDependencies.length)) = false by rw [hc166]; rfl)
  refine wp_cond_false (F168.ev (by kernel_rfl)) ?_
  refine wp_skip ?_
  refine hK126 _ _ ?_; clear hK126 K126
  refine wp_seq_k fun K169 hK169 => ?_
  refine wp_seq_k fun K170 hK170 => ?_
  refine wp_region_lit ?_
  refine op_q F168 (.pointer (some ⟨g1, 13, none⟩)) ?_; intro a171 F171
  refine op_rq (v := .slice (x.fMaintainers_a) (x.fMaintainers.length) (x.fMaintainers_c)) F171 (r_ld rfl (F171.e (.pointer (some ⟨g1, 13, none⟩))) (v := .slice (x.fMaintainers_a) (x.fMaintainers.length) (x.fMaintainers_c)) ((S140.bk 1 rfl).cell 13) Try.underlying23 rfl) ?_; intro a172 F172
  refine op_q F172 (.int .i64 (↑x.fMaintainers.length)) ?_; intro a173 F173
  refine op_q F173 (.int .i64 0) ?_; intro a174 F174
  refine wpList_nil ?_
  refine hK170 _ _ ?_; clear hK170 K170
  refine wp_block ?_
  refine fw_loop (fun m' a' w' => ∃ k : Nat, x.fMaintainers.length - k = m' ∧ Fr 149 [] a' [(2, .pointer (some ⟨g1, 0, none⟩)), (3, .pointer (some ⟨g3, 0, none⟩)), (117, .slice (x.fMaintainers_a) (x.fMaintainers.length) (x.fMaintainers_c)), (118, .int .i64 (↑x.fMaintainers.length)), (119, .int .i64 (↑k))] ∧ Sp R w' (SA.blk g3 26 #[.string y.fName, .string y.fHome, .string y.fVersion, .string y.fDescription, .string y.fIcon, .string y.fAPIVersion, .string y.fCondition, .string y.fTags, .string y.fAppVersion, .string y.fKubeVersion, .string y.fType, .slice (y.fSources_a) (y.fSources.length) (y.fSources_c), .slice (y.fKeywords_a) (y.fKeywords.length) (y.fKeywords_c), .slice (y.fMaintainers_a) (y.fMaintainers.length) (y.fMaintainers_c), .slice (y.fDependencies_a) (y.fDependencies.length) (y.fDependencies_c)] :: SA.blk g1 26 #[.string x.fName, .string x.fHome, .string x.fVersion, .string x.fDescription, .string x.fIcon, .string x.fAPIVersion, .string x.fCondition, .string x.fTags, .string x.fAppVersion, .string x.fKubeVersion, .string x.fType, .slice (x.fSources_a) (x.fSources.length) (x.fSources_c), .slice (x.fKeywords_a) (x.fKeywords.length) (x.fKeywords_c), .slice (x.fMaintainers_a) (x.fMaintainers.length) (x.fMaintainers_c), .slice (x.fDependencies_a) (x.fDependencies.length) (x.fDependencies_c)] :: L) ∧ (k ≤ x.fMaintainers.length)) _ ⟨0, rfl, (F174.kk 2 (F174.kk 3 (F174.kk 117 (F174.kk 118 (F174.kk 119 F174.nil))))), S140.p1.p1, (by first | omega | (with_reducible assumption) | (simp; done))⟩ ?_
  rintro m175 a175 w175 ⟨k, hm175, F175, S175, hk⟩ K175 hK175
  by_cases hlt_k : k < x.fMaintainers.length
  · have hc_k : decide ((↑k : Int) < ↑x.fMaintainers.length) = true := by first | (simp; done) | (simp; omega)
    obtain ⟨ad176, hA176⟩ := (k4 _ S175.drop.drop).addr (by simp; omega)
    obtain ⟨ad177, hA177⟩ := (k5 _ S175.drop.drop).addr (by simp; omega)
    refine wp_seq_k fun K178 hK178 => ?_
    refine wp_region_lit ?_
    refine op_q F175 (.bool (decide ((↑k : Int) < ↑x.fMaintainers.length))) ?_; intro a179 F179
    have F180 := F179.sb 120 (by kernel_rfl) hc_k
    refine wpList_nil ?_
    refine hK178 _ _ ?_; clear hK178 K178
    refine wp_seq_k fun K181 hK181 => ?_
    refine wp_cond_true (F180.ev (by kernel_rfl)) ?_
    refine wp_skip ?_
    refine hK181 _ _ ?_; clear hK181 K181
    refine wp_seq_k fun K182 hK182 => ?_
    refine wp_block ?_
    refine wp_seq_k fun K183 hK183 => ?_
    refine wp_region_lit ?_
    refine op_q F180 (.int .i64 (↑k)) ?_; intro a184 F184
    refine op_rq (v := .pointer (some (ad176.add (k * 4)))) F184 (r_ix rfl Try.underlying23 4 (by kernel_rfl) (F184.e (.slice (x.fMaintainers_a) (x.fMaintainers.length) (x.fMaintainers_c))) hA176 (F184.e (.int .i64 (↑k))) k (by first | rfl | omega | simp) (by first | omega | (simp; done) | (simp; omega)) (rfl)) ?_; intro a185 F185
    refine op_rq (v := .agg #[.bool x.fMaintainers[k].fNil, .string x.fMaintainers[k].fName, .string x.fMaintainers[k].fEmail, .string x.fMaintainers[k].fURL]) F185 (r_ldR rfl (F185.e (.pointer (some (ad176.add (k * 4))))) (cs := [.bool x.fMaintainers[k].fNil, .string x.fMaintainers[k].fName, .string x.fMaintainers[k].fEmail, .string x.fMaintainers[k].fURL]) ((k4 _ S175.drop.drop).elA hA176 (j := k) (row := x.fMaintainers[k].cells) (by rw [List.getElem?_map, List.getElem?_eq_getElem hlt_k]; rfl)) Try.underlying78 rfl (by kernel_rfl) (v := #[.bool x.fMaintainers[k].fNil, .string x.fMaintainers[k].fName, .string x.fMaintainers[k].fEmail, .string x.fMaintainers[k].fURL]) (by kernel_rfl)) ?_; intro a186 F186
    refine op_sq F186 (s_newp F186 78 #[.bool false, .string ⟨#[]⟩, .string ⟨#[]⟩, .string ⟨#[]⟩] (by kernel_rfl) (by kernel_rfl) (by kernel_rfl) S175) ?_
    rintro _ _ w188 ⟨g186, rfl, rfl⟩ S188 a188 F188
    refine op_q F188 (.int .i64 (↑k)) ?_; intro a189 F189
    refine op_sq0 F189 (s_stb rfl (F189.e (.pointer (some ⟨g186, 0, none⟩))) (F189.e (.agg #[.bool x.fMaintainers[k].fNil, .string x.fMaintainers[k].fName, .string x.fMaintainers[k].fEmail, .string x.fMaintainers[k].fURL])) S188 (by kernel_rfl) rfl (by kernel_rfl)) ?_
    rintro _ _ w190 rfl S190 F190
    refine wpList_nil ?_
    refine hK183 _ _ ?_; clear hK183 K183
    refine wp_seq_k fun K191 hK191 => ?_
    refine wp_region_sepF (L0 := SA.blk g186 78 #[.bool x.fMaintainers[k].fNil, .string x.fMaintainers[k].fName, .string x.fMaintainers[k].fEmail, .string x.fMaintainers[k].fURL] :: SA.blk g3 26 #[.string y.fName, .string y.fHome, .string y.fVersion, .string y.fDescription, .string y.fIcon, .string y.fAPIVersion, .string y.fCondition, .string y.fTags, .string y.fAppVersion, .string y.fKubeVersion, .string y.fType, .slice (y.fSources_a) (y.fSources.length) (y.fSources_c), .slice (y.fKeywords_a) (y.fKeywords.length) (y.fKeywords_c), .slice (y.fMaintainers_a) (y.fMaintainers.length) (y.fMaintainers_c), .slice (y.fDependencies_a) (y.fDependencies.length) (y.fDependencies_c)] :: SA.blk g1 26 #[.string x.fName, .string x.fHome, .string x.fVersion, .string x.fDescription, .string x.fIcon, .string x.fAPIVersion, .string x.fCondition, .string x.fTags, .string x.fAppVersion, .string x.fKubeVersion, .string x.fType, .slice (x.fSources_a) (x.fSources.length) (x.fSources_c), .slice (x.fKeywords_a) (x.fKeywords.length) (x.fKeywords_c), .slice (x.fMaintainers_a) (x.fMaintainers.length) (x.fMaintainers_c), .slice (x.fDependencies_a) (x.fDependencies.length) (x.fDependencies_c)] :: L) [some [], some [], some [(1, 125)], some [], some [(2, 126), (3, 127)], some [(4, 128)], some [(0, 124), (5, 129)]] [.v 124 (.agg #[.bool x.fMaintainers[k].fNil, .string x.fMaintainers[k].fName, .string x.fMaintainers[k].fEmail, .string x.fMaintainers[k].fURL]), .v 125 (.pointer (some ⟨g3, 13, none⟩)), .v 126 (.slice (y.fMaintainers_a) (y.fMaintainers.length) (y.fMaintainers_c)), .v 127 (.int .i64 (↑k)), .v 128 (.pointer (some (ad177.add (k * 4)))), .v 129 (.agg #[.bool x.fMaintainers[k].fNil, .string x.fMaintainers[k].fName, .string x.fMaintainers[k].fEmail, .string x.fMaintainers[k].fURL]), .v 130 (.bool (!((x.fMaintainers[k].fNil == x.fMaintainers[k].fNil) && (x.fMaintainers[k].fName.toList == x.fMaintainers[k].fName.toList) && (x.fMaintainers[k].fEmail.toList == x.fMaintainers[k].fEmail.toList) && (x.fMaintainers[k].fURL.toList == x.fMaintainers[k].fURL.toList))))] [] F190 rfl (by kernel_rfl) S190 ?_ ?_
    · refine ⟨?_, ?_, ?_, ?_, ?_, ?_, ?_, trivial⟩
      · intro w206 M206
        intro a206 F206 S206
        refine obl_of (by rfl) ?_
        exact s_r (v := .agg #[.bool x.fMaintainers[k].fNil, .string x.fMaintainers[k].fName, .string x.fMaintainers[k].fEmail, .string x.fMaintainers[k].fURL]) (r_ldm rfl (F206.e (.pointer (some ⟨g186, 0, none⟩))) ((Sp.dropM S206.drop).bk 0 rfl) 4 (by kernel_rfl) Try.underlying78 rfl (by kernel_rfl) (v := #[.bool x.fMaintainers[k].fNil, .string x.fMaintainers[k].fName, .string x.fMaintainers[k].fEmail, .string x.fMaintainers[k].fURL]) (by kernel_rfl)) S206
      · intro w207 M207
        intro a207 F207 S207
        refine obl_of (by rfl) ?_
        exact s_p F207 (v := .pointer (some ⟨g3, 13, none⟩)) (by kernel_rfl) (by kernel_rfl) (by kernel_rfl) S207
      · intro w208 M208
        intro a208 F208 S208
        refine obl_of (by rfl) ?_
        exact s_r (v := .slice (y.fMaintainers_a) (y.fMaintainers.length) (y.fMaintainers_c)) (r_ld rfl (F208.e (.pointer (some ⟨g3, 13, none⟩))) (v := .slice (y.fMaintainers_a) (y.fMaintainers.length) (y.fMaintainers_c)) (((Sp.dropM S208.drop).bk 1 rfl).cell 13) Try.underlying23 rfl) S208
      · intro w210 M210
        intro a210 F210 S210
        refine obl_of (by rfl) ?_
        exact s_p F210 (v := .int .i64 (↑k)) (by kernel_rfl) (by kernel_rfl) (by kernel_rfl) S210
      · intro w211 M211
        intro a211 F211 S211
        refine obl_of (by rfl) ?_
        exact s_r (v := .pointer (some (ad177.add (k * 4)))) (r_ix rfl Try.underlying23 4 (by kernel_rfl) (F211.e (.slice (y.fMaintainers_a) (y.fMaintainers.length) (y.fMaintainers_c))) hA177 (F211.e (.int .i64 (↑k))) k (by first | rfl | omega | simp) (by first | omega | (simp; done) | (simp; omega)) (rfl)) S211
      · intro w214 M214
        intro a214 F214 S214
        refine obl_of (by rfl) ?_
        exact s_r (v := .agg #[.bool x.fMaintainers[k].fNil, .string x.fMaintainers[k].fName, .string x.fMaintainers[k].fEmail, .string x.fMaintainers[k].fURL]) (r_ldR rfl (F214.e (.pointer (some (ad177.add (k * 4))))) (cs := [.bool x.fMaintainers[k].fNil, .string x.fMaintainers[k].fName, .string x.fMaintainers[k].fEmail, .string x.fMaintainers[k].fURL]) ((k5 _ (Sp.dropM S214.drop).drop.drop.drop).elA hA177 (j := k) (row := x.fMaintainers[k].cells) (by rw [List.getElem?_map, List.getElem?_eq_getElem hlt_k]; rfl)) Try.underlying78 rfl (by kernel_rfl) (v := #[.bool x.fMaintainers[k].fNil, .string x.fMaintainers[k].fName, .string x.fMaintainers[k].fEmail, .string x.fMaintainers[k].fURL]) (by kernel_rfl)) S214
      · intro w216 M216
        intro a216 F216 S216
        refine obl_of (by rfl) ?_
        exact s_r (v := .bool (!((x.fMaintainers[k].fNil == x.fMaintainers[k].fNil) && (x.fMaintainers[k].fName.toList == x.fMaintainers[k].fName.toList) && (x.fMaintainers[k].fEmail.toList == x.fMaintainers[k].fEmail.toList) && (x.fMaintainers[k].fURL.toList == x.fMaintainers[k].fURL.toList)))) (r_eq (neqT78 x.fMaintainers[k].fNil x.fMaintainers[k].fNil x.fMaintainers[k].fName x.fMaintainers[k].fName x.fMaintainers[k].fEmail x.fMaintainers[k].fEmail x.fMaintainers[k].fURL x.fMaintainers[k].fURL _) rfl (F216.e (.agg #[.bool x.fMaintainers[k].fNil, .string x.fMaintainers[k].fName, .string x.fMaintainers[k].fEmail, .string x.fMaintainers[k].fURL])) (F216.e (.agg #[.bool x.fMaintainers[k].fNil, .string x.fMaintainers[k].fName, .string x.fMaintainers[k].fEmail, .string x.fMaintainers[k].fURL])) (by kernel_rfl)) S216
    · intro a221 w220 F221 S220
      have S222 : Sp R w220 (SA.blk g186 78 #[.bool x.fMaintainers[k].fNil, .string x.fMaintainers[k].fName, .string x.fMaintainers[k].fEmail, .string x.fMaintainers[k].fURL] :: SA.blk g3 26 #[.string y.fName, .string y.fHome, .string y.fVersion, .string y.fDescription, .string y.fIcon, .string y.fAPIVersion, .string y.fCondition, .string y.fTags, .string y.fAppVersion, .string y.fKubeVersion, .string y.fType, .slice (y.fSources_a) (y.fSources.length) (y.fSources_c), .slice (y.fKeywords_a) (y.fKeywords.length) (y.fKeywords_c), .slice (y.fMaintainers_a) (y.fMaintainers.length) (y.fMaintainers_c), .slice (y.fDependencies_a) (y.fDependencies.length) (y.fDependencies_c)] :: SA.blk g1 26 #[.string x.fName, .string x.fHome, .string x.fVersion, .string x.fDescription, .string x.fIcon, .string x.fAPIVersion, .string x.fCondition, .string x.fTags, .string x.fAppVersion, .string x.fKubeVersion, .string x.fType, .slice (x.fSources_a) (x.fSources.length) (x.fSources_c), .slice (x.fKeywords_a) (x.fKeywords.length) (x.fKeywords_c), .slice (x.fMaintainers_a) (x.fMaintainers.length) (x.fMaintainers_c), .slice (x.fDependencies_a) (x.fDependencies.length) (x.fDependencies_c)] :: L) := S220
      refine wpList_nil ?_
      refine hK191 _ _ ?_; clear hK191 K191
      have hc223 : ((x.fMaintainers[k].fNil == x.fMaintainers[k].fNil) && (x.fMaintainers[k].fName.toList == x.fMaintainers[k].fName.toList) && (x.fMaintainers[k].fEmail.toList == x.fMaintainers[k].fEmail.toList) && (x.fMaintainers[k].fURL.toList == x.fMaintainers[k].fURL.toList)) = true := (by simp)
      have F224 := F221.sb 130 (by kernel_rfl) (show (!((x.fMaintainers[k].fNil == x.fMaintainers[k].fNil) && (x.fMaintainers[k].fName.toList == x.fMaintainers[k].fName.toList) && (x.fMaintainers[k].fEmail.toList == x.fMaintainers[k].fEmail.toList) && (x.fMaintainers[k].fURL.toList == x.fMaintainers[k].fURL.toList))) = false by rw [hc223]; rfl)
      refine wp_cond_false (F224.ev (by kernel_rfl)) ?_
      refine wp_skip ?_
      refine hK182 _ _ ?_; clear hK182 K182
      refine wp_region_lit ?_
      refine op_rq (v := .int .i64 (↑(k + 1))) F224 (r_add (z := ↑(k + 1)) rfl (F224.e (.int .i64 (↑k))) (F224.e (.int .i64 1)) (wr64 (by omega) (by omega) (by omega))) ?_; intro a225 F225
      refine op_q F225 (.int .i64 (↑(k + 1))) ?_; intro a226 F226
      refine wpList_nil ?_
      exact hK175 _ _ _ (by first | omega | (simp; omega)) ⟨k + 1, rfl, (F226.kk 2 (F226.kk 3 (F226.kk 117 (F226.kk 118 (F226.kk 119 F226.nil))))), S222.drop.p1.p1, (by first | omega | (with_reducible assumption) | (simp; done))⟩
  · have hc_k : decide ((↑k : Int) < ↑x.fMaintainers.length) = false := by first | (simp; done) | (simp; omega)
    refine wp_seq_k fun K227 hK227 => ?_
    refine wp_region_lit ?_
    refine op_q F175 (.bool (decide ((↑k : Int) < ↑x.fMaintainers.length))) ?_; intro a228 F228
    have F229 := F228.sb 120 (by kernel_rfl) hc_k
    refine wpList_nil ?_
    refine hK227 _ _ ?_; clear hK227 K227
    refine wp_seq_k fun K230 hK230 => ?_
    refine wp_cond_false (F229.ev (by kernel_rfl)) ?_
    refine wp_exit ?_
    refine ex_then ?_; clear hK230 K230
    refine ex_then ?_
    refine ex_in ?_
    refine hK169 _ _ ?_; clear hK169 K169
    refine wp_seq_k fun K231 hK231 => ?_
    refine wp_seq_k fun K232 hK232 => ?_
    refine wp_region_lit ?_
    refine op_q F229 (.pointer (some ⟨g1, 14, none⟩)) ?_; intro a233 F233
    refine op_rq (v := .slice (x.fDependencies_a) (x.fDependencies.length) (x.fDependencies_c)) F233 (r_ld rfl (F233.e (.pointer (some ⟨g1, 14, none⟩))) (v := .slice (x.fDependencies_a) (x.fDependencies.length) (x.fDependencies_c)) ((S175.bk 1 rfl).cell 14) Try.underlying24 rfl) ?_; intro a234 F234
    refine op_q F234 (.int .i64 (↑x.fDependencies.length)) ?_; intro a235 F235
    refine op_q F235 (.int .i64 0) ?_; intro a236 F236
    refine wpList_nil ?_
    refine hK232 _ _ ?_; clear hK232 K232
    refine wp_block ?_
    refine fw_loop (fun m' a' w' => ∃ j : Nat, x.fDependencies.length - j = m' ∧ Fr 149 [] a' [(3, .pointer (some ⟨g3, 0, none⟩)), (133, .slice (x.fDependencies_a) (x.fDependencies.length) (x.fDependencies_c)), (134, .int .i64 (↑x.fDependencies.length)), (135, .int .i64 (↑j))] ∧ Sp R w' (SA.blk g3 26 #[.string y.fName, .string y.fHome, .string y.fVersion, .string y.fDescription, .string y.fIcon, .string y.fAPIVersion, .string y.fCondition, .string y.fTags, .string y.fAppVersion, .string y.fKubeVersion, .string y.fType, .slice (y.fSources_a) (y.fSources.length) (y.fSources_c), .slice (y.fKeywords_a) (y.fKeywords.length) (y.fKeywords_c), .slice (y.fMaintainers_a) (y.fMaintainers.length) (y.fMaintainers_c), .slice (y.fDependencies_a) (y.fDependencies.length) (y.fDependencies_c)] :: SA.blk g1 26 #[.string x.fName, .string x.fHome, .string x.fVersion, .string x.fDescription, .string x.fIcon, .string x.fAPIVersion, .string x.fCondition, .string x.fTags, .string x.fAppVersion, .string x.fKubeVersion, .string x.fType, .slice (x.fSources_a) (x.fSources.length) (x.fSources_c), .slice (x.fKeywords_a) (x.fKeywords.length) (x.fKeywords_c), .slice (x.fMaintainers_a) (x.fMaintainers.length) (x.fMaintainers_c), .slice (x.fDependencies_a) (x.fDependencies.length) (x.fDependencies_c)] :: L) ∧ (j ≤ x.fDependencies.length)) _ ⟨0, rfl, (F236.kk 3 (F236.kk 133 (F236.kk 134 (F236.kk 135 F236.nil)))), S175.p1.p1, (by first | omega | (with_reducible assumption) | (simp; done))⟩ ?_
    rintro m237 a237 w237 ⟨j, hm237, F237, S237, hj⟩ K237 hK237
    by_cases hlt_j : j < x.fDependencies.length
    · have hc_j : decide ((↑j : Int) < ↑x.fDependencies.length) = true := by first | (simp; done) | (simp; omega)
      have hlt_j2 : j < y.fDependencies.length := by omega
      have hdj : depS x.fDependencies[j] = depS y.fDependencies[j] := by have := congrArg (fun l => l[j]?) eD; simpa [List.getElem?_eq_getElem hlt_j, List.getElem?_eq_getElem hlt_j2] using this
      have t0 : Rf R L fun w => Sl w x.fDependencies[j].fTags_a (strs x.fDependencies[j].fTags) := fun w S => (h0 w S).2.2.2.2 _ (List.getElem_mem hlt_j)
      have t1 : Rf R L fun w => Sl w y.fDependencies[j].fTags_a (strs y.fDependencies[j].fTags) := fun w S => (h1 w S).2.2.2.2 _ (List.getElem_mem hlt_j2)
      obtain ⟨ad238, hA238⟩ := (k6 _ S237.drop.drop).addr (by simp; omega)
      obtain ⟨ad239, hA239⟩ := (k7 _ S237.drop.drop).addr (by simp; omega)
      refine wp_seq_k fun K240 hK240 => ?_
      refine wp_region_lit ?_
      refine op_q F237 (.bool (decide ((↑j : Int) < ↑x.fDependencies.length))) ?_; intro a241 F241
      have F242 := F241.sb 136 (by kernel_rfl) hc_j
      refine wpList_nil ?_
      refine hK240 _ _ ?_; clear hK240 K240
      refine wp_seq_k fun K243 hK243 => ?_
      refine wp_cond_true (F242.ev (by kernel_rfl)) ?_
      refine wp_skip ?_
      refine hK243 _ _ ?_; clear hK243 K243
      refine wp_seq_k fun K244 hK244 => ?_
      refine wp_block ?_
      refine wp_seq_k fun K245 hK245 => ?_
      refine wp_region_lit ?_
      refine op_q F242 (.int .i64 (↑j)) ?_; intro a246 F246
      refine op_rq (v := .pointer (some (ad238.add (j * 7)))) F246 (r_ix rfl Try.underlying24 7 (by kernel_rfl) (F246.e (.slice (x.fDependencies_a) (x.fDependencies.length) (x.fDependencies_c))) hA238 (F246.e (.int .i64 (↑j))) j (by first | rfl | omega | simp) (by first | omega | (simp; done) | (simp; omega)) (rfl)) ?_; intro a247 F247
      refine op_rq (v := .agg #[.bool x.fDependencies[j].fNil, .string x.fDependencies[j].fName, .string x.fDependencies[j].fVersion, .string x.fDependencies[j].fRepository, .string x.fDependencies[j].fCondition, .slice x.fDependencies[j].fTags_a x.fDependencies[j].fTags.length x.fDependencies[j].fTags_c, .string x.fDependencies[j].fAlias]) F247 (r_ldR rfl (F247.e (.pointer (some (ad238.add (j * 7))))) (cs := [.bool x.fDependencies[j].fNil, .string x.fDependencies[j].fName, .string x.fDependencies[j].fVersion, .string x.fDependencies[j].fRepository, .string x.fDependencies[j].fCondition, .slice x.fDependencies[j].fTags_a x.fDependencies[j].fTags.length x.fDependencies[j].fTags_c, .string x.fDependencies[j].fAlias]) ((k6 _ S237.drop.drop).elA hA238 (j := j) (row := x.fDependencies[j].cells) (by rw [List.getElem?_map, List.getElem?_eq_getElem hlt_j]; rfl)) Try.underlying80 rfl (by kernel_rfl) (v := #[.bool x.fDependencies[j].fNil, .string x.fDependencies[j].fName, .string x.fDependencies[j].fVersion, .string x.fDependencies[j].fRepository, .string x.fDependencies[j].fCondition, .slice x.fDependencies[j].fTags_a x.fDependencies[j].fTags.length x.fDependencies[j].fTags_c, .string x.fDependencies[j].fAlias]) (by kernel_rfl)) ?_; intro a248 F248
      refine op_sq F248 (s_newp F248 80 #[.bool false, .string ⟨#[]⟩, .string ⟨#[]⟩, .string ⟨#[]⟩, .string ⟨#[]⟩, .slice none 0 0, .string ⟨#[]⟩] (by kernel_rfl) (by kernel_rfl) (by kernel_rfl) S237) ?_
      rintro _ _ w250 ⟨g248, rfl, rfl⟩ S250 a250 F250
      refine op_q F250 (.int .i64 (↑j)) ?_; intro a251 F251
      refine op_sq0 F251 (s_stb rfl (F251.e (.pointer (some ⟨g248, 0, none⟩))) (F251.e (.agg #[.bool x.fDependencies[j].fNil, .string x.fDependencies[j].fName, .string x.fDependencies[j].fVersion, .string x.fDependencies[j].fRepository, .string x.fDependencies[j].fCondition, .slice x.fDependencies[j].fTags_a x.fDependencies[j].fTags.length x.fDependencies[j].fTags_c, .string x.fDependencies[j].fAlias])) S250 (by kernel_rfl) rfl (by kernel_rfl)) ?_
      rintro _ _ w252 rfl S252 F252
      refine wpList_nil ?_
      refine hK245 _ _ ?_; clear hK245 K245
      refine wp_seq_k fun K253 hK253 => ?_
      refine wp_region_sepF (L0 := SA.blk g248 80 #[.bool x.fDependencies[j].fNil, .string x.fDependencies[j].fName, .string x.fDependencies[j].fVersion, .string x.fDependencies[j].fRepository, .string x.fDependencies[j].fCondition, .slice x.fDependencies[j].fTags_a x.fDependencies[j].fTags.length x.fDependencies[j].fTags_c, .string x.fDependencies[j].fAlias] :: SA.blk g3 26 #[.string y.fName, .string y.fHome, .string y.fVersion, .string y.fDescription, .string y.fIcon, .string y.fAPIVersion, .string y.fCondition, .string y.fTags, .string y.fAppVersion, .string y.fKubeVersion, .string y.fType, .slice (y.fSources_a) (y.fSources.length) (y.fSources_c), .slice (y.fKeywords_a) (y.fKeywords.length) (y.fKeywords_c), .slice (y.fMaintainers_a) (y.fMaintainers.length) (y.fMaintainers_c), .slice (y.fDependencies_a) (y.fDependencies.length) (y.fDependencies_c)] :: SA.blk g1 26 #[.string x.fName, .string x.fHome, .string x.fVersion, .string x.fDescription, .string x.fIcon, .string x.fAPIVersion, .string x.fCondition, .string x.fTags, .string x.fAppVersion, .string x.fKubeVersion, .string x.fType, .slice (x.fSources_a) (x.fSources.length) (x.fSources_c), .slice (x.fKeywords_a) (x.fKeywords.length) (x.fKeywords_c), .slice (x.fMaintainers_a) (x.fMaintainers.length) (x.fMaintainers_c), .slice (x.fDependencies_a) (x.fDependencies.length) (x.fDependencies_c)] :: L) [some [], some [], some [(1, 141)], some [], some [(2, 142), (3, 143)], some [(4, 144)], some [(0, 140), (5, 145)], some [(6, 146)]] [.v 140 (.agg #[.bool x.fDependencies[j].fNil, .string x.fDependencies[j].fName, .string x.fDependencies[j].fVersion, .string x.fDependencies[j].fRepository, .string x.fDependencies[j].fCondition, .slice x.fDependencies[j].fTags_a x.fDependencies[j].fTags.length x.fDependencies[j].fTags_c, .string x.fDependencies[j].fAlias]), .v 141 (.pointer (some ⟨g3, 14, none⟩)), .v 142 (.slice (y.fDependencies_a) (y.fDependencies.length) (y.fDependencies_c)), .v 143 (.int .i64 (↑j)), .v 144 (.pointer (some (ad239.add (j * 7)))), .v 145 (.agg #[.bool y.fDependencies[j].fNil, .string y.fDependencies[j].fName, .string y.fDependencies[j].fVersion, .string y.fDependencies[j].fRepository, .string y.fDependencies[j].fCondition, .slice y.fDependencies[j].fTags_a y.fDependencies[j].fTags.length y.fDependencies[j].fTags_c, .string y.fDependencies[j].fAlias]), .v 146 (.bool true), .v 147 (.bool false)] [] F252 rfl (by kernel_rfl) S252 ?_ ?_
      · refine ⟨?_, ?_, ?_, ?_, ?_, ?_, ?_, ?_, trivial⟩
        · intro w270 M270
          intro a270 F270 S270
          refine obl_of (by rfl) ?_
          exact s_r (v := .agg #[.bool x.fDependencies[j].fNil, .string x.fDependencies[j].fName, .string x.fDependencies[j].fVersion, .string x.fDependencies[j].fRepository, .string x.fDependencies[j].fCondition, .slice x.fDependencies[j].fTags_a x.fDependencies[j].fTags.length x.fDependencies[j].fTags_c, .string x.fDependencies[j].fAlias]) (r_ldm rfl (F270.e (.pointer (some ⟨g248, 0, none⟩))) ((Sp.dropM S270.drop).bk 0 rfl) 7 (by kernel_rfl) Try.underlying80 rfl (by kernel_rfl) (v := #[.bool x.fDependencies[j].fNil, .string x.fDependencies[j].fName, .string x.fDependencies[j].fVersion, .string x.fDependencies[j].fRepository, .string x.fDependencies[j].fCondition, .slice x.fDependencies[j].fTags_a x.fDependencies[j].fTags.length x.fDependencies[j].fTags_c, .string x.fDependencies[j].fAlias]) (by kernel_rfl)) S270
        · intro w271 M271
          intro a271 F271 S271
          refine obl_of (by rfl) ?_
          exact s_p F271 (v := .pointer (some ⟨g3, 14, none⟩)) (by kernel_rfl) (by kernel_rfl) (by kernel_rfl) S271
        · intro w272 M272
          intro a272 F272 S272
          refine obl_of (by rfl) ?_
          exact s_r (v := .slice (y.fDependencies_a) (y.fDependencies.length) (y.fDependencies_c)) (r_ld rfl (F272.e (.pointer (some ⟨g3, 14, none⟩))) (v := .slice (y.fDependencies_a) (y.fDependencies.length) (y.fDependencies_c)) (((Sp.dropM S272.drop).bk 1 rfl).cell 14) Try.underlying24 rfl) S272
        · intro w274 M274
          intro a274 F274 S274
          refine obl_of (by rfl) ?_
          exact s_p F274 (v := .int .i64 (↑j)) (by kernel_rfl) (by kernel_rfl) (by kernel_rfl) S274
        · intro w275 M275
          intro a275 F275 S275
          refine obl_of (by rfl) ?_
          exact s_r (v := .pointer (some (ad239.add (j * 7)))) (r_ix rfl Try.underlying24 7 (by kernel_rfl) (F275.e (.slice (y.fDependencies_a) (y.fDependencies.length) (y.fDependencies_c))) hA239 (F275.e (.int .i64 (↑j))) j (by first | rfl | omega | simp) (by first | omega | (simp; done) | (simp; omega)) (rfl)) S275
        · intro w278 M278
          intro a278 F278 S278
          refine obl_of (by rfl) ?_
          exact s_r (v := .agg #[.bool y.fDependencies[j].fNil, .string y.fDependencies[j].fName, .string y.fDependencies[j].fVersion, .string y.fDependencies[j].fRepository, .string y.fDependencies[j].fCondition, .slice y.fDependencies[j].fTags_a y.fDependencies[j].fTags.length y.fDependencies[j].fTags_c, .string y.fDependencies[j].fAlias]) (r_ldR rfl (F278.e (.pointer (some (ad239.add (j * 7))))) (cs := [.bool y.fDependencies[j].fNil, .string y.fDependencies[j].fName, .string y.fDependencies[j].fVersion, .string y.fDependencies[j].fRepository, .string y.fDependencies[j].fCondition, .slice y.fDependencies[j].fTags_a y.fDependencies[j].fTags.length y.fDependencies[j].fTags_c, .string y.fDependencies[j].fAlias]) ((k7 _ (Sp.dropM S278.drop).drop.drop.drop).elA hA239 (j := j) (row := y.fDependencies[j].cells) (by rw [List.getElem?_map, List.getElem?_eq_getElem hlt_j2]; rfl)) Try.underlying80 rfl (by kernel_rfl) (v := #[.bool y.fDependencies[j].fNil, .string y.fDependencies[j].fName, .string y.fDependencies[j].fVersion, .string y.fDependencies[j].fRepository, .string y.fDependencies[j].fCondition, .slice y.fDependencies[j].fTags_a y.fDependencies[j].fTags.length y.fDependencies[j].fTags_c, .string y.fDependencies[j].fAlias]) (by kernel_rfl)) S278
        · intro w280 M280
          intro a280 F280 S280
          refine obl_of (by rfl) ?_
          refine s_c F280 (f := 124) (args := #[.agg #[.bool x.fDependencies[j].fNil, .string x.fDependencies[j].fName, .string x.fDependencies[j].fVersion, .string x.fDependencies[j].fRepository, .string x.fDependencies[j].fCondition, .slice x.fDependencies[j].fTags_a x.fDependencies[j].fTags.length x.fDependencies[j].fTags_c, .string x.fDependencies[j].fAlias], .agg #[.bool y.fDependencies[j].fNil, .string y.fDependencies[j].fName, .string y.fDependencies[j].fVersion, .string y.fDependencies[j].fRepository, .string y.fDependencies[j].fCondition, .slice y.fDependencies[j].fTags_a y.fDependencies[j].fTags.length y.fDependencies[j].fTags_c, .string y.fDependencies[j].fAlias]]) (by kernel_rfl) (by kernel_rfl) (by kernel_rfl) (sameDep_yes x.fDependencies[j] y.fDependencies[j] _ _ _ S280.drop (fun w S => t0 w (Sp.dropM S).drop.drop.drop) (fun w S => t1 w (Sp.dropM S).drop.drop.drop) (by with_reducible assumption)) ?_
          rintro _ _ ⟨rfl, S283⟩
          exact ⟨_, _, rfl, ⟨rfl, rfl⟩, S283.emp⟩
        · intro w284 M284
          intro a284 F284 S284
          refine obl_of (by rfl) ?_
          exact s_p F284 (v := .bool false) (by kernel_rfl) (by kernel_rfl) (by kernel_rfl) S284
      · intro a287 w286 F287 S286
        have S288 : Sp R w286 (SA.blk g248 80 #[.bool x.fDependencies[j].fNil, .string x.fDependencies[j].fName, .string x.fDependencies[j].fVersion, .string x.fDependencies[j].fRepository, .string x.fDependencies[j].fCondition, .slice x.fDependencies[j].fTags_a x.fDependencies[j].fTags.length x.fDependencies[j].fTags_c, .string x.fDependencies[j].fAlias] :: SA.blk g3 26 #[.string y.fName, .string y.fHome, .string y.fVersion, .string y.fDescription, .string y.fIcon, .string y.fAPIVersion, .string y.fCondition, .string y.fTags, .string y.fAppVersion, .string y.fKubeVersion, .string y.fType, .slice (y.fSources_a) (y.fSources.length) (y.fSources_c), .slice (y.fKeywords_a) (y.fKeywords.length) (y.fKeywords_c), .slice (y.fMaintainers_a) (y.fMaintainers.length) (y.fMaintainers_c), .slice (y.fDependencies_a) (y.fDependencies.length) (y.fDependencies_c)] :: SA.blk g1 26 #[.string x.fName, .string x.fHome, .string x.fVersion, .string x.fDescription, .string x.fIcon, .string x.fAPIVersion, .string x.fCondition, .string x.fTags, .string x.fAppVersion, .string x.fKubeVersion, .string x.fType, .slice (x.fSources_a) (x.fSources.length) (x.fSources_c), .slice (x.fKeywords_a) (x.fKeywords.length) (x.fKeywords_c), .slice (x.fMaintainers_a) (x.fMaintainers.length) (x.fMaintainers_c), .slice (x.fDependencies_a) (x.fDependencies.length) (x.fDependencies_c)] :: L) := S286
        refine wpList_nil ?_
        refine hK253 _ _ ?_; clear hK253 K253
        refine wp_cond_false (F287.ev (by kernel_rfl)) ?_
        refine wp_skip ?_
        refine hK244 _ _ ?_; clear hK244 K244
        refine wp_region_lit ?_
        refine op_rq (v := .int .i64 (↑(j + 1))) F287 (r_add (z := ↑(j + 1)) rfl (F287.e (.int .i64 (↑j))) (F287.e (.int .i64 1)) (wr64 (by omega) (by omega) (by omega))) ?_; intro a289 F289
        refine op_q F289 (.int .i64 (↑(j + 1))) ?_; intro a290 F290
        refine wpList_nil ?_
        exact hK237 _ _ _ (by first | omega | (simp; omega)) ⟨j + 1, rfl, (F290.kk 3 (F290.kk 133 (F290.kk 134 (F290.kk 135 F290.nil)))), S288.drop.p1.p1, (by first | omega | (with_reducible assumption) | (simp; done))⟩
    · have hc_j : decide ((↑j : Int) < ↑x.fDependencies.length) = false := by first | (simp; done) | (simp; omega)
      refine wp_seq_k fun K291 hK291 => ?_
      refine wp_region_lit ?_
      refine op_q F237 (.bool (decide ((↑j : Int) < ↑x.fDependencies.length))) ?_; intro a292 F292
      have F293 := F292.sb 136 (by kernel_rfl) hc_j
      refine wpList_nil ?_
      refine hK291 _ _ ?_; clear hK291 K291
      refine wp_seq_k fun K294 hK294 => ?_
      refine wp_cond_false (F293.ev (by kernel_rfl)) ?_
      refine wp_exit ?_
      refine ex_then ?_; clear hK294 K294
      refine ex_then ?_
      refine ex_in ?_
      refine hK231 _ _ ?_; clear hK231 K231
      refine wp_seq_k fun K295 hK295 => ?_
      refine wp_region_lit ?_
      refine op_q F293 (.bool true) ?_; intro a296 F296
      refine wpList_nil ?_
      refine hK295 _ _ ?_; clear hK295 K295
      refine wp_ret ?_
      refine (F296.res1 rfl (v := .bool true) (by kernel_rfl) ?_).1
      exact ⟨rfl, S237.drop.drop⟩
end Go.Proofs.Ytkjcedlgljeoiaa

