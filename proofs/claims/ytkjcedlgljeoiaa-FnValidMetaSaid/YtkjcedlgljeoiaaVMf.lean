/- Texts Vm5, Vf2, Me5, Vm6, laid together. -/
import Derived.WalkKit
import Derived.WalkLawsBesides
import Derived.WalkSpells
import Derived.Lib.Hide
import Derived.Deep.RegionWith
import Derived.Deep.DeepCutAuto
import Derived.Deep.QuietTactic
import Derived.BigQuiet
import Derived.Laws.OwnMore
import Derived.Deep.LoopGhost
import Derived.KernelRfl
import Derived.Deep.WholeRow
import Derived.StillTail
import Derived.SliceStrings
import Derived.Deep.Slices
import Derived.Deep.Fields
import Derived.ChangeSame
import Derived.Deep.MidRow
import Derived.Maps.AppendAt
import Derived.Lib.AppendStr
import Derived.Lib.ConvBytes
import Derived.Laws.BytesArg
import Derived.Deep.RegionLaw
import Derived.OwnWalk
import Derived.Maps.OwnSet
import Derived.Maps.OwnOps
import Derived.ArgAppend
import Derived.Defers
import Derived.Recover
import Derived.Laws.Pointers
import Derived.Laws.StructEq
import Derived.IntWalk
import Derived.Test.YtkjcedlgljeoiaaProg
import Derived.BigRegion
import Derived.Deep.CutBlock
import Derived.Carry
import Derived.Test.YtkjcedlgljeoiaaVMe
/- chart.Metadata.Validate. -/
namespace Go.Proofs.Ytkjcedlgljeoiaa
open Go.RowKit Go.Lib
set_option linter.unusedVariables false
set_option linter.unusedSimpArgs false
theorem Sp.zat2 {R : Ctx} {w : World} {L : List SA} {β α : Type} {f : β → α → SA} {vs : List β} {xs : List α} {k : Nat} {x : α} (hx : xs[k]? = some x) (S : Sp R w (SA.zips f vs xs :: L)) : ∃ hv : k < vs.length, Sp R w (f vs[k] x :: SA.zips f (vs.take k) (xs.take k) :: SA.zips f (vs.drop (k + 1)) (xs.drop (k + 1)) :: L) := by
  obtain ⟨hk, rfl⟩ := List.getElem?_eq_some_iff.1 hx
  exact Sp.zat hk S
theorem Sp.zset2 {R : Ctx} {w : World} {L : List SA} {β α : Type} {f : β → α → SA} {vs : List β} {xs : List α} {k : Nat} {x : α} (hk : k < xs.length) (hv : k < vs.length) (S : Sp R w (f vs[k] x :: SA.zips f (vs.take k) (xs.take k) :: SA.zips f (vs.drop (k + 1)) (xs.drop (k + 1)) :: L)) : Sp R w (SA.zips f vs (xs.set k x) :: L) := by
  have h := Sp.zback (k := k) (by simp; omega) (by simp; omega) (by simp; omega) S
  rw [List.getElem_cons_drop, List.take_append_drop] at h
  rwa [List.set_eq_take_append_cons_drop, if_pos hk]
def dvs (es : List Ty80) (j : Nat) : List Ty80 := (es.take j).map (fun d => depC d none 0) ++ es.drop j
theorem dvs_len {es : List Ty80} {j : Nat} : (dvs es j).length = es.length := by simp [dvs]; omega
theorem dvs_get {es : List Ty80} {j : Nat} (h : j < es.length) : (dvs es j)[j]? = some es[j] := by
  unfold dvs
  rw [List.getElem?_append_right (by simp; omega)]
  simp [Nat.min_eq_left (Nat.le_of_lt h), h]
theorem dvs_set {es : List Ty80} {j : Nat} (h : j < es.length) : (dvs es j).set j (depC es[j] none 0) = dvs es (j + 1) := by
  unfold dvs
  rw [List.take_succ_eq_append_getElem h, List.drop_eq_getElem_cons h, List.set_append_right _ _ (by simp; omega)]
  have e : j - ((es.take j).map fun d => depC d none 0).length = 0 := by simp; omega
  rw [e, List.set_cons_zero, List.map_append, List.append_assoc]
  rfl
theorem dvs_all {es : List Ty80} : dvs es es.length = es.map fun d => depC d none 0 := by simp [dvs]
theorem Sp.dep_clean {R : Ctx} {w : World} {L : List SA} {d : Ty80} {g c : Nat} {A : Option Addr} (h : d.fNil = false) (S : Sp R w (SA.blk g 262 #[.string (cleanF d.fName), .string (cleanF d.fVersion), .string (cleanF d.fRepository), .string (cleanF d.fCondition), .slice A d.fTags.length c, .bool false, .slice none 0 0, .string d.fAlias] :: SA.own0 (.slice A d.fTags.length c) 9 1 d.fTags.length (strs (cleansF d.fTags)) :: L)) : Sp R w (SA.dep (some ⟨g, 0, none⟩) (depC d none 0) :: L) := by
  rw [← cleansF_len d.fTags] at S
  exact Sp.dep_some (d := depC d none 0) h S
/-- The keys that were met, as a map. -/
def MapR (f : ByteArray → Option Value) (met : List ByteArray) : Prop := ∀ s, ((met.any fun t => t.toList == s.toList) = false → f s = none) ∧ ((met.any fun t => t.toList == s.toList) = true → ∃ g : Nat, f s = some (.pointer (some ⟨g, 0, none⟩)))
theorem mapR_0 : MapR (fun _ => none) [] := fun s => ⟨fun _ => rfl, fun h => by cases h⟩
theorem mapR_put {f : ByteArray → Option Value} {met : List ByteArray} {s : ByteArray} {g : Nat} (h : MapR f met) : MapR (fput f s (.pointer (some ⟨g, 0, none⟩))) (met ++ [s]) := fun t => by
  by_cases e : t = s
  · subst e
    have : ((met ++ [t]).any fun u => u.toList == t.toList) = true := by simp
    rw [this]
    exact ⟨fun h => (by cases h), fun _ => ⟨g, by simp [fput]⟩⟩
  · have he : (s.toList == t.toList) = false := by
      cases hc : s.toList == t.toList with
      | false => rfl
      | true => exact absurd (bytes_eqL hc).symm e
    have : ((met ++ [s]).any fun u => u.toList == t.toList) = met.any fun u => u.toList == t.toList := by rw [List.any_append]; simp [he]
    rw [this]
    have h2 := h t
    unfold fput
    rw [if_neg e]
    exact h2
theorem whatD_9b {ds : List Ty80} {met : List ByteArray} {j : Nat} (hj : j < ds.length) (h : (ds[j].fNil || !aliasF ds[j].fAlias) = false) (hm : (met.any fun s => s.toList == (keyF ds[j]).toList) = true) : whatD (ds.drop j) met = 9 := by
  rw [List.drop_eq_getElem_cons hj]; unfold whatD; rw [h, hm]; rfl
theorem whatD_nb {ds : List Ty80} {met : List ByteArray} {j : Nat} (hj : j < ds.length) (h : (ds[j].fNil || !aliasF ds[j].fAlias) = false) (hm : (met.any fun s => s.toList == (keyF ds[j]).toList) = false) : whatD (ds.drop j) met = whatD (ds.drop (j + 1)) (met ++ [keyF ds[j]]) := by
  rw [List.drop_eq_getElem_cons hj]
  conv => lhs; unfold whatD
  rw [h, hm]; rfl
def metAsc (m : Ty26) : Prop := (asciiB m.fName ∧ asciiB m.fDescription ∧ asciiB m.fHome ∧ asciiB m.fIcon ∧ asciiB m.fCondition ∧ asciiB m.fTags ∧ asciiB m.fAppVersion ∧ asciiB m.fKubeVersion) ∧ (∀ x ∈ m.fSources, asciiB x) ∧ (∀ x ∈ m.fKeywords, asciiB x) ∧ (∀ p ∈ m.fMaintainers, asciiB p.fName ∧ asciiB p.fEmail ∧ asciiB p.fURL) ∧ ∀ d ∈ m.fDependencies, (asciiB d.fName ∧ asciiB d.fVersion ∧ asciiB d.fRepository ∧ asciiB d.fCondition) ∧ ∀ x ∈ d.fTags, asciiB x
def says (f : Nat) : ByteArray := cond (Nat.beq f 1) ⟨#[99, 104, 97, 114, 116, 46, 109, 101, 116, 97, 100, 97, 116, 97, 46, 97, 112, 105, 86, 101, 114, 115, 105, 111, 110, 32, 105, 115, 32, 114, 101, 113, 117, 105, 114, 101, 100]⟩ (cond (Nat.beq f 2) ⟨#[99, 104, 97, 114, 116, 46, 109, 101, 116, 97, 100, 97, 116, 97, 46, 110, 97, 109, 101, 32, 105, 115, 32, 114, 101, 113, 117, 105, 114, 101, 100]⟩ (cond (Nat.beq f 4) ⟨#[99, 104, 97, 114, 116, 46, 109, 101, 116, 97, 100, 97, 116, 97, 46, 118, 101, 114, 115, 105, 111, 110, 32, 105, 115, 32, 114, 101, 113, 117, 105, 114, 101, 100]⟩ (cond (Nat.beq f 6) ⟨#[99, 104, 97, 114, 116, 46, 109, 101, 116, 97, 100, 97, 116, 97, 46, 116, 121, 112, 101, 32, 109, 117, 115, 116, 32, 98, 101, 32, 97, 112, 112, 108, 105, 99, 97, 116, 105, 111, 110, 32, 111, 114, 32, 108, 105, 98, 114, 97, 114, 121]⟩ ⟨#[]⟩)))
theorem dvs_tags {es : List Ty80} {j : Nat} : ∀ d ∈ dvs es j, ∃ e ∈ es, d.fTags.length = e.fTags.length := fun d hd => by
  unfold dvs at hd
  rcases List.mem_append.1 hd with h | h
  · obtain ⟨e, he, rfl⟩ := List.mem_map.1 h
    exact ⟨e, List.mem_of_mem_take he, cleansF_len _⟩
  · exact ⟨d, List.mem_of_mem_drop h, rfl⟩
theorem dvs_tags2 {es : List Ty80} {j : Nat} (hj : j < es.length) : ∀ d ∈ (dvs es j).set j es[j], ∃ e ∈ es, d.fTags.length = e.fTags.length := fun d hd => by
  rcases List.mem_or_eq_of_mem_set hd with h | h
  · exact dvs_tags d h
  · exact ⟨_, List.getElem_mem hj, by rw [h]⟩
def LenOk (m : Ty26) : Prop := m.fSources.length ≤ 1000000 ∧ m.fKeywords.length ≤ 1000000 ∧ m.fMaintainers.length ≤ 1000000 ∧ m.fDependencies.length ≤ 1000000 ∧ ∀ d ∈ m.fDependencies, d.fTags.length ≤ 1000000
theorem lens_of {m m2 : Ty26} (hm1 : m.fSources.length ≤ 1000000) (hm2 : m.fKeywords.length ≤ 1000000) (hm3 : m.fMaintainers.length ≤ 1000000) (hm4 : m.fDependencies.length ≤ 1000000) (hm5 : ∀ d ∈ m.fDependencies, d.fTags.length ≤ 1000000) (h1 : m2.fSources = cleansF m.fSources) (h2 : m2.fKeywords = cleansF m.fKeywords) (h3 : m2.fMaintainers.length = m.fMaintainers.length) (h4 : m2.fDependencies.length = m.fDependencies.length) (h5 : ∀ d ∈ m2.fDependencies, ∃ e ∈ m.fDependencies, d.fTags.length = e.fTags.length) : LenOk m2 :=
  ⟨by rw [h1, cleansF_len]; exact hm1, by rw [h2, cleansF_len]; exact hm2, by omega, by omega, fun d hd => by obtain ⟨e, he, hl⟩ := h5 d hd; rw [hl]; exact hm5 e he⟩
def VRes (m m2 : Ty26) (b : Bool) (s : ByteArray) : Prop := b = !(Nat.beq (whatF m) 0) ∧ (says (whatF m) ≠ ⟨#[]⟩ → s = says (whatF m)) ∧ (whatF m = 0 → m2 = clnA m) ∧ (1 ≤ whatF m → whatF m ≤ 6 → m2 = cln8 m) ∧ s.size ≤ 1000 ∧ LenOk m2
theorem met_of {R : Ctx} {w : World} {L : List SA} {m2 : Ty26} {g : Nat} {A1 : Option Addr} {c1 : Nat} {A2 : Option Addr} {c2 : Nat} {A3 : Option Addr} {c3 : Nat} {qs : List (Option Addr)} {A4 : Option Addr} {c4 : Nat} {us : List (Option Addr)} {n1 n2 : Nat} (S : Sp R w (SA.blk g 237 #[.string m2.fName, .string m2.fHome, .slice A1 n1 c1, .string m2.fVersion, .string m2.fDescription, .slice A2 n2 c2, .slice A3 qs.length c3, .string m2.fIcon, .string m2.fAPIVersion, .string m2.fCondition, .string m2.fTags, .string m2.fAppVersion, .bool false, .map none, .string m2.fKubeVersion, .slice A4 us.length c4, .string m2.fType] :: SA.own0 (.slice A1 n1 c1) 9 1 n1 (strs m2.fSources) :: SA.own0 (.slice A2 n2 c2) 9 1 n2 (strs m2.fKeywords) :: SA.own (.slice A3 qs.length c3) 238 1 qs.length (pps qs) :: SA.zips SA.per qs m2.fMaintainers :: SA.own (.slice A4 us.length c4) 240 1 us.length (pps us) :: SA.zips SA.dep us m2.fDependencies :: L)) (h1 : m2.fSources.length = n1) (h2 : m2.fKeywords.length = n2) : Sp R w (SA.met g m2 :: L) := by
  subst h1; subst h2; exact Sp.met_mk S
abbrev zq32 : Array UInt8 := #[99, 104, 97, 114, 116, 46, 109, 101, 116, 97, 100, 97, 116, 97, 46, 97, 112, 105, 86, 101, 114, 115, 105, 111, 110, 32, 105, 115, 32, 114, 101, 113, 117, 105, 114, 101, 100]
abbrev zq33 : Array UInt8 := #[99, 104, 97, 114, 116, 46, 109, 101, 116, 97, 100, 97, 116, 97, 46, 110, 97, 109, 101, 32, 105, 115, 32, 114, 101, 113, 117, 105, 114, 101, 100]
abbrev zq34 : Array UInt8 := #[99, 104, 97, 114, 116, 46, 109, 101, 116, 97, 100, 97, 116, 97, 46, 110, 97, 109, 101, 32, 105, 115, 32, 110, 111, 116, 32, 97, 108, 108, 111, 119, 101, 100]
abbrev zq35 : Array UInt8 := #[99, 104, 97, 114, 116, 46, 109, 101, 116, 97, 100, 97, 116, 97, 46, 118, 101, 114, 115, 105, 111, 110, 32, 105, 115, 32, 114, 101, 113, 117, 105, 114, 101, 100]
abbrev zq36 : Array UInt8 := #[99, 104, 97, 114, 116, 46, 109, 101, 116, 97, 100, 97, 116, 97, 46, 116, 121, 112, 101, 32, 109, 117, 115, 116, 32, 98, 101, 32, 97, 112, 112, 108, 105, 99, 97, 116, 105, 111, 110, 32, 111, 114, 32, 108, 105, 98, 114, 97, 114, 121]
abbrev zq37 : Array UInt8 := #[109, 111, 114, 101, 32, 116, 104, 97, 110, 32, 111, 110, 101, 32, 100, 101, 112, 101, 110, 100, 101, 110, 99, 121, 32, 119, 105, 116, 104, 32, 110, 97, 109, 101, 32, 111, 114, 32, 97, 108, 105, 97, 115]
abbrev zq38 : Array UInt8 := #[99, 104, 97, 114, 116, 46, 109, 101, 116, 97, 100, 97, 116, 97, 46, 118, 101, 114, 115, 105, 111, 110, 32, 105, 115, 32, 105, 110, 118, 97, 108, 105, 100]
abbrev zq39 : Array UInt8 := #[99, 104, 97, 114, 116, 46, 109, 101, 116, 97, 100, 97, 116, 97, 46, 110, 97, 109, 101, 32, 105, 115, 32, 105, 110, 118, 97, 108, 105, 100]
set_option maxRecDepth 100000 in
set_option maxHeartbeats 20000000 in
theorem metaVal_sp (m : Ty26) (gm : Nat) (A1 : Option Addr) (c1 : Nat) (A2 : Option Addr) (c2 : Nat) (A3 : Option Addr) (c3 : Nat) (A4 : Option Addr) (c4 : Nat) (qs : List (Option Addr)) (us : List (Option Addr)) (R : Ctx) (L : List SA) (w : World) (S : Sp R w (SA.blk (gm) 237 #[.string (m.fName), .string (m.fHome), .slice (A1) (m.fSources.length) (c1), .string (m.fVersion), .string (m.fDescription), .slice (A2) (m.fKeywords.length) (c2), .slice (A3) (qs.length) (c3), .string (m.fIcon), .string (m.fAPIVersion), .string (m.fCondition), .string (m.fTags), .string (m.fAppVersion), .bool false, .map none, .string (m.fKubeVersion), .slice (A4) (us.length) (c4), .string (m.fType)] :: SA.own0 (.slice A1 m.fSources.length c1) 9 1 (m.fSources.length) (strs m.fSources) :: SA.own0 (.slice A2 m.fKeywords.length c2) 9 1 (m.fKeywords.length) (strs m.fKeywords) :: SA.own (.slice A3 qs.length c3) 238 1 (qs.length) (pps qs) :: SA.zips SA.per qs m.fMaintainers :: SA.own (.slice A4 us.length c4) 240 1 (us.length) (pps us) :: SA.zips SA.dep us m.fDependencies :: L))  (hz : metMil m) (hza : metAsc m) (hv : plainB m.fVersion = true ∨ errB m.fVersion = true) (hm1 : m.fSources.length ≤ 1000000) (hm2 : m.fKeywords.length ≤ 1000000) (hm3 : m.fMaintainers.length ≤ 1000000) (hm4 : m.fDependencies.length ≤ 1000000) (hm5 : ∀ d ∈ m.fDependencies, d.fTags.length ≤ 1000000) :
  Calls Try.prog 116 #[.pointer (some ⟨gm, 0, none⟩)] w fun e w' => ∃ m2 : Ty26, ∃ b : Bool, ∃ s : ByteArray, e = .returned (verV b s) ∧ Sp R w' (SA.met gm m2 :: L) ∧ (VRes m m2 b s) := by
 have hlo_3 : qs.length ≤ 9223372036854775807 := own_max1 (S.ow 3 rfl)
 have hlo_5 : us.length ≤ 9223372036854775807 := own_max1 (S.ow 5 rfl)
 obtain ⟨hzs, hzS, hzK, hzM, hzD⟩ := hz
 obtain ⟨hz0, hz1, hz2, hz3, hz4, hz5, hz6, hz7, hz8, hz9, hz10⟩ := hzs
 obtain ⟨has, haS, haK, haM, haD⟩ := hza
 obtain ⟨ha0, ha1, ha2, ha3, ha4, ha5, ha6, ha7⟩ := has
 have hql := Sp.zlen S.p4
 have hul := Sp.zlen S.p6
 refine fw_enter (fn := Try.f116) rfl rfl 234 rfl (Nat.le_of_ble_eq_true rfl) ?_
 intro a0 F0
 refine wp_seq_k fun K1 hK1 => ?_
 refine wp_region_lit ?_
 refine op_q F0 (.nilIface) ?_; intro a2 F2
 refine wpList_nil ?_
 refine hK1 _ _ ?_; clear hK1 K1
 refine wp_seq_k fun K3 hK3 => ?_
 refine wp_seq_k fun K4 hK4 => ?_
 refine wp_region_lit ?_
 refine op_q F2 (.pointer (some ⟨gm, 0, none⟩)) ?_; intro a5 F5
 refine op_q F5 (.bool false) ?_; intro a6 F6
 refine wpList_nil ?_
 refine hK4 _ _ ?_; clear hK4 K4
 refine wp_cond_false (F6.ev (by kernel_rfl)) ?_
 refine wp_skip ?_
 refine hK3 _ _ ?_; clear hK3 K3
 refine wp_seq_k fun K7 hK7 => ?_
 refine wp_region_lit ?_
 refine op_q F6 (.pointer (some ⟨gm, 0, none⟩)) ?_; intro a8 F8
 refine op_q F8 (.pointer (some ⟨gm, 0, none⟩)) ?_; intro a9 F9
 refine op_q F9 (.pointer (some ⟨gm, 0, none⟩)) ?_; intro a10 F10
 refine op_q F10 (.pointer (some ⟨gm, 0, none⟩)) ?_; intro a11 F11
 refine op_rq (v := .string m.fName) F11 (r_ld rfl (F11.e (.pointer (some ⟨gm, 0, none⟩))) (v := .string m.fName) ((S.bk 0 rfl).cell 0) Try.underlying9 rfl) ?_; intro a12 F12
 refine op_cq F12 (f := 175) (args := #[.string m.fName]) (sanStr_any m.fName _ (by first | omega | (simp; done) | (simp; omega)) (by assumption)) ?_
 rintro _ w13 ⟨rfl, hb_13⟩
 refine ⟨_, rfl, ?_⟩
 intro a14 F14
 have S13 := S.below hb_13
 refine op_q F14 (.pointer (some ⟨gm, 0, none⟩)) ?_; intro a15 F15
 refine op_q F15 (.pointer (some ⟨gm, 0, none⟩)) ?_; intro a16 F16
 refine op_sq0 F16 (s_st rfl (F16.e (.pointer (some ⟨gm, 0, none⟩))) (F16.e (.string (cleanF m.fName))) S13 (by kernel_rfl) rfl rfl rfl (cs := #[.string (cleanF m.fName), .string m.fHome, .slice (A1) (m.fSources.length) (c1), .string m.fVersion, .string m.fDescription, .slice (A2) (m.fKeywords.length) (c2), .slice (A3) (qs.length) (c3), .string m.fIcon, .string m.fAPIVersion, .string m.fCondition, .string m.fTags, .string m.fAppVersion, .bool false, .map none, .string m.fKubeVersion, .slice (A4) (us.length) (c4), .string m.fType]) (by kernel_rfl)) ?_
 rintro _ _ w17 rfl S17 F17
 refine wpList_nil ?_
 refine hK7 _ _ ?_; clear hK7 K7
 refine wp_seq_k fun K18 hK18 => ?_
 refine wp_region_lit ?_
 refine op_q F17 (.pointer (some ⟨gm, 0, none⟩)) ?_; intro a19 F19
 refine op_q F19 (.pointer (some ⟨gm, 0, none⟩)) ?_; intro a20 F20
 refine op_q F20 (.pointer (some ⟨gm, 0, none⟩)) ?_; intro a21 F21
 refine op_q F21 (.pointer (some ⟨gm, 4, none⟩)) ?_; intro a22 F22
 refine op_rq (v := .string m.fDescription) F22 (r_ld rfl (F22.e (.pointer (some ⟨gm, 4, none⟩))) (v := .string m.fDescription) ((S17.bk 0 rfl).cell 4) Try.underlying9 rfl) ?_; intro a23 F23
 refine op_cq F23 (f := 175) (args := #[.string m.fDescription]) (sanStr_any m.fDescription _ (by first | omega | (simp; done) | (simp; omega)) (by assumption)) ?_
 rintro _ w24 ⟨rfl, hb_24⟩
 refine ⟨_, rfl, ?_⟩
 intro a25 F25
 have S24 := S17.below hb_24
 refine op_q F25 (.pointer (some ⟨gm, 0, none⟩)) ?_; intro a26 F26
 refine op_q F26 (.pointer (some ⟨gm, 4, none⟩)) ?_; intro a27 F27
 refine op_sq0 F27 (s_st rfl (F27.e (.pointer (some ⟨gm, 4, none⟩))) (F27.e (.string (cleanF m.fDescription))) S24 (by kernel_rfl) rfl rfl rfl (cs := #[.string (cleanF m.fName), .string m.fHome, .slice (A1) (m.fSources.length) (c1), .string m.fVersion, .string (cleanF m.fDescription), .slice (A2) (m.fKeywords.length) (c2), .slice (A3) (qs.length) (c3), .string m.fIcon, .string m.fAPIVersion, .string m.fCondition, .string m.fTags, .string m.fAppVersion, .bool false, .map none, .string m.fKubeVersion, .slice (A4) (us.length) (c4), .string m.fType]) (by kernel_rfl)) ?_
 rintro _ _ w28 rfl S28 F28
 refine wpList_nil ?_
 refine hK18 _ _ ?_; clear hK18 K18
 refine wp_seq_k fun K29 hK29 => ?_
 refine wp_region_lit ?_
 refine op_q F28 (.pointer (some ⟨gm, 0, none⟩)) ?_; intro a30 F30
 refine op_q F30 (.pointer (some ⟨gm, 0, none⟩)) ?_; intro a31 F31
 refine op_q F31 (.pointer (some ⟨gm, 0, none⟩)) ?_; intro a32 F32
 refine op_q F32 (.pointer (some ⟨gm, 1, none⟩)) ?_; intro a33 F33
 refine op_rq (v := .string m.fHome) F33 (r_ld rfl (F33.e (.pointer (some ⟨gm, 1, none⟩))) (v := .string m.fHome) ((S28.bk 0 rfl).cell 1) Try.underlying9 rfl) ?_; intro a34 F34
 refine op_cq F34 (f := 175) (args := #[.string m.fHome]) (sanStr_any m.fHome _ (by first | omega | (simp; done) | (simp; omega)) (by assumption)) ?_
 rintro _ w35 ⟨rfl, hb_35⟩
 refine ⟨_, rfl, ?_⟩
 intro a36 F36
 have S35 := S28.below hb_35
 refine op_q F36 (.pointer (some ⟨gm, 0, none⟩)) ?_; intro a37 F37
 refine op_q F37 (.pointer (some ⟨gm, 1, none⟩)) ?_; intro a38 F38
 refine op_sq0 F38 (s_st rfl (F38.e (.pointer (some ⟨gm, 1, none⟩))) (F38.e (.string (cleanF m.fHome))) S35 (by kernel_rfl) rfl rfl rfl (cs := #[.string (cleanF m.fName), .string (cleanF m.fHome), .slice (A1) (m.fSources.length) (c1), .string m.fVersion, .string (cleanF m.fDescription), .slice (A2) (m.fKeywords.length) (c2), .slice (A3) (qs.length) (c3), .string m.fIcon, .string m.fAPIVersion, .string m.fCondition, .string m.fTags, .string m.fAppVersion, .bool false, .map none, .string m.fKubeVersion, .slice (A4) (us.length) (c4), .string m.fType]) (by kernel_rfl)) ?_
 rintro _ _ w39 rfl S39 F39
 refine wpList_nil ?_
 refine hK29 _ _ ?_; clear hK29 K29
 refine wp_seq_k fun K40 hK40 => ?_
 refine wp_region_lit ?_
 refine op_q F39 (.pointer (some ⟨gm, 0, none⟩)) ?_; intro a41 F41
 refine op_q F41 (.pointer (some ⟨gm, 0, none⟩)) ?_; intro a42 F42
 refine op_q F42 (.pointer (some ⟨gm, 0, none⟩)) ?_; intro a43 F43
 refine op_q F43 (.pointer (some ⟨gm, 7, none⟩)) ?_; intro a44 F44
 refine op_rq (v := .string m.fIcon) F44 (r_ld rfl (F44.e (.pointer (some ⟨gm, 7, none⟩))) (v := .string m.fIcon) ((S39.bk 0 rfl).cell 7) Try.underlying9 rfl) ?_; intro a45 F45
 refine op_cq F45 (f := 175) (args := #[.string m.fIcon]) (sanStr_any m.fIcon _ (by first | omega | (simp; done) | (simp; omega)) (by assumption)) ?_
 rintro _ w46 ⟨rfl, hb_46⟩
 refine ⟨_, rfl, ?_⟩
 intro a47 F47
 have S46 := S39.below hb_46
 refine op_q F47 (.pointer (some ⟨gm, 0, none⟩)) ?_; intro a48 F48
 refine op_q F48 (.pointer (some ⟨gm, 7, none⟩)) ?_; intro a49 F49
 refine op_sq0 F49 (s_st rfl (F49.e (.pointer (some ⟨gm, 7, none⟩))) (F49.e (.string (cleanF m.fIcon))) S46 (by kernel_rfl) rfl rfl rfl (cs := #[.string (cleanF m.fName), .string (cleanF m.fHome), .slice (A1) (m.fSources.length) (c1), .string m.fVersion, .string (cleanF m.fDescription), .slice (A2) (m.fKeywords.length) (c2), .slice (A3) (qs.length) (c3), .string (cleanF m.fIcon), .string m.fAPIVersion, .string m.fCondition, .string m.fTags, .string m.fAppVersion, .bool false, .map none, .string m.fKubeVersion, .slice (A4) (us.length) (c4), .string m.fType]) (by kernel_rfl)) ?_
 rintro _ _ w50 rfl S50 F50
 refine wpList_nil ?_
 refine hK40 _ _ ?_; clear hK40 K40
 refine wp_seq_k fun K51 hK51 => ?_
 refine wp_region_lit ?_
 refine op_q F50 (.pointer (some ⟨gm, 0, none⟩)) ?_; intro a52 F52
 refine op_q F52 (.pointer (some ⟨gm, 0, none⟩)) ?_; intro a53 F53
 refine op_q F53 (.pointer (some ⟨gm, 0, none⟩)) ?_; intro a54 F54
 refine op_q F54 (.pointer (some ⟨gm, 9, none⟩)) ?_; intro a55 F55
 refine op_rq (v := .string m.fCondition) F55 (r_ld rfl (F55.e (.pointer (some ⟨gm, 9, none⟩))) (v := .string m.fCondition) ((S50.bk 0 rfl).cell 9) Try.underlying9 rfl) ?_; intro a56 F56
 refine op_cq F56 (f := 175) (args := #[.string m.fCondition]) (sanStr_any m.fCondition _ (by first | omega | (simp; done) | (simp; omega)) (by assumption)) ?_
 rintro _ w57 ⟨rfl, hb_57⟩
 refine ⟨_, rfl, ?_⟩
 intro a58 F58
 have S57 := S50.below hb_57
 refine op_q F58 (.pointer (some ⟨gm, 0, none⟩)) ?_; intro a59 F59
 refine op_q F59 (.pointer (some ⟨gm, 9, none⟩)) ?_; intro a60 F60
 refine op_sq0 F60 (s_st rfl (F60.e (.pointer (some ⟨gm, 9, none⟩))) (F60.e (.string (cleanF m.fCondition))) S57 (by kernel_rfl) rfl rfl rfl (cs := #[.string (cleanF m.fName), .string (cleanF m.fHome), .slice (A1) (m.fSources.length) (c1), .string m.fVersion, .string (cleanF m.fDescription), .slice (A2) (m.fKeywords.length) (c2), .slice (A3) (qs.length) (c3), .string (cleanF m.fIcon), .string m.fAPIVersion, .string (cleanF m.fCondition), .string m.fTags, .string m.fAppVersion, .bool false, .map none, .string m.fKubeVersion, .slice (A4) (us.length) (c4), .string m.fType]) (by kernel_rfl)) ?_
 rintro _ _ w61 rfl S61 F61
 refine wpList_nil ?_
 refine hK51 _ _ ?_; clear hK51 K51
 refine wp_seq_k fun K62 hK62 => ?_
 refine wp_region_lit ?_
 refine op_q F61 (.pointer (some ⟨gm, 0, none⟩)) ?_; intro a63 F63
 refine op_q F63 (.pointer (some ⟨gm, 0, none⟩)) ?_; intro a64 F64
 refine op_q F64 (.pointer (some ⟨gm, 0, none⟩)) ?_; intro a65 F65
 refine op_q F65 (.pointer (some ⟨gm, 10, none⟩)) ?_; intro a66 F66
 refine op_rq (v := .string m.fTags) F66 (r_ld rfl (F66.e (.pointer (some ⟨gm, 10, none⟩))) (v := .string m.fTags) ((S61.bk 0 rfl).cell 10) Try.underlying9 rfl) ?_; intro a67 F67
 refine op_cq F67 (f := 175) (args := #[.string m.fTags]) (sanStr_any m.fTags _ (by first | omega | (simp; done) | (simp; omega)) (by assumption)) ?_
 rintro _ w68 ⟨rfl, hb_68⟩
 refine ⟨_, rfl, ?_⟩
 intro a69 F69
 have S68 := S61.below hb_68
 refine op_q F69 (.pointer (some ⟨gm, 0, none⟩)) ?_; intro a70 F70
 refine op_q F70 (.pointer (some ⟨gm, 10, none⟩)) ?_; intro a71 F71
 refine op_sq0 F71 (s_st rfl (F71.e (.pointer (some ⟨gm, 10, none⟩))) (F71.e (.string (cleanF m.fTags))) S68 (by kernel_rfl) rfl rfl rfl (cs := #[.string (cleanF m.fName), .string (cleanF m.fHome), .slice (A1) (m.fSources.length) (c1), .string m.fVersion, .string (cleanF m.fDescription), .slice (A2) (m.fKeywords.length) (c2), .slice (A3) (qs.length) (c3), .string (cleanF m.fIcon), .string m.fAPIVersion, .string (cleanF m.fCondition), .string (cleanF m.fTags), .string m.fAppVersion, .bool false, .map none, .string m.fKubeVersion, .slice (A4) (us.length) (c4), .string m.fType]) (by kernel_rfl)) ?_
 rintro _ _ w72 rfl S72 F72
 refine wpList_nil ?_
 refine hK62 _ _ ?_; clear hK62 K62
 refine wp_seq_k fun K73 hK73 => ?_
 refine wp_region_lit ?_
 refine op_q F72 (.pointer (some ⟨gm, 0, none⟩)) ?_; intro a74 F74
 refine op_q F74 (.pointer (some ⟨gm, 0, none⟩)) ?_; intro a75 F75
 refine op_q F75 (.pointer (some ⟨gm, 0, none⟩)) ?_; intro a76 F76
 refine op_q F76 (.pointer (some ⟨gm, 11, none⟩)) ?_; intro a77 F77
 refine op_rq (v := .string m.fAppVersion) F77 (r_ld rfl (F77.e (.pointer (some ⟨gm, 11, none⟩))) (v := .string m.fAppVersion) ((S72.bk 0 rfl).cell 11) Try.underlying9 rfl) ?_; intro a78 F78
 refine op_cq F78 (f := 175) (args := #[.string m.fAppVersion]) (sanStr_any m.fAppVersion _ (by first | omega | (simp; done) | (simp; omega)) (by assumption)) ?_
 rintro _ w79 ⟨rfl, hb_79⟩
 refine ⟨_, rfl, ?_⟩
 intro a80 F80
 have S79 := S72.below hb_79
 refine op_q F80 (.pointer (some ⟨gm, 0, none⟩)) ?_; intro a81 F81
 refine op_q F81 (.pointer (some ⟨gm, 11, none⟩)) ?_; intro a82 F82
 refine op_sq0 F82 (s_st rfl (F82.e (.pointer (some ⟨gm, 11, none⟩))) (F82.e (.string (cleanF m.fAppVersion))) S79 (by kernel_rfl) rfl rfl rfl (cs := #[.string (cleanF m.fName), .string (cleanF m.fHome), .slice (A1) (m.fSources.length) (c1), .string m.fVersion, .string (cleanF m.fDescription), .slice (A2) (m.fKeywords.length) (c2), .slice (A3) (qs.length) (c3), .string (cleanF m.fIcon), .string m.fAPIVersion, .string (cleanF m.fCondition), .string (cleanF m.fTags), .string (cleanF m.fAppVersion), .bool false, .map none, .string m.fKubeVersion, .slice (A4) (us.length) (c4), .string m.fType]) (by kernel_rfl)) ?_
 rintro _ _ w83 rfl S83 F83
 refine wpList_nil ?_
 refine hK73 _ _ ?_; clear hK73 K73
 refine wp_seq_k fun K84 hK84 => ?_
 refine wp_region_lit ?_
 refine op_q F83 (.pointer (some ⟨gm, 0, none⟩)) ?_; intro a85 F85
 refine op_q F85 (.pointer (some ⟨gm, 0, none⟩)) ?_; intro a86 F86
 refine op_q F86 (.pointer (some ⟨gm, 0, none⟩)) ?_; intro a87 F87
 refine op_q F87 (.pointer (some ⟨gm, 14, none⟩)) ?_; intro a88 F88
 refine op_rq (v := .string m.fKubeVersion) F88 (r_ld rfl (F88.e (.pointer (some ⟨gm, 14, none⟩))) (v := .string m.fKubeVersion) ((S83.bk 0 rfl).cell 14) Try.underlying9 rfl) ?_; intro a89 F89
 refine op_cq F89 (f := 175) (args := #[.string m.fKubeVersion]) (sanStr_any m.fKubeVersion _ (by first | omega | (simp; done) | (simp; omega)) (by assumption)) ?_
 rintro _ w90 ⟨rfl, hb_90⟩
 refine ⟨_, rfl, ?_⟩
 intro a91 F91
 have S90 := S83.below hb_90
 refine op_q F91 (.pointer (some ⟨gm, 0, none⟩)) ?_; intro a92 F92
 refine op_q F92 (.pointer (some ⟨gm, 14, none⟩)) ?_; intro a93 F93
 refine op_sq0 F93 (s_st rfl (F93.e (.pointer (some ⟨gm, 14, none⟩))) (F93.e (.string (cleanF m.fKubeVersion))) S90 (by kernel_rfl) rfl rfl rfl (cs := #[.string (cleanF m.fName), .string (cleanF m.fHome), .slice (A1) (m.fSources.length) (c1), .string m.fVersion, .string (cleanF m.fDescription), .slice (A2) (m.fKeywords.length) (c2), .slice (A3) (qs.length) (c3), .string (cleanF m.fIcon), .string m.fAPIVersion, .string (cleanF m.fCondition), .string (cleanF m.fTags), .string (cleanF m.fAppVersion), .bool false, .map none, .string (cleanF m.fKubeVersion), .slice (A4) (us.length) (c4), .string m.fType]) (by kernel_rfl)) ?_
 rintro _ _ w94 rfl S94 F94
 refine wpList_nil ?_
 refine hK84 _ _ ?_; clear hK84 K84
 refine wp_seq_k fun K95 hK95 => ?_
 refine wp_seq_k fun K96 hK96 => ?_
 refine wp_region_lit ?_
 refine op_q F94 (.pointer (some ⟨gm, 0, none⟩)) ?_; intro a97 F97
 refine op_q F97 (.pointer (some ⟨gm, 0, none⟩)) ?_; intro a98 F98
 refine op_q F98 (.pointer (some ⟨gm, 2, none⟩)) ?_; intro a99 F99
 refine op_rq (v := .slice (A1) (m.fSources.length) (c1)) F99 (r_ld rfl (F99.e (.pointer (some ⟨gm, 2, none⟩))) (v := .slice (A1) (m.fSources.length) (c1)) ((S94.bk 0 rfl).cell 2) Try.underlying22 rfl) ?_; intro a100 F100
 refine op_q F100 (.int .i64 (↑m.fSources.length)) ?_; intro a101 F101
 refine op_q F101 (.int .i64 0) ?_; intro a102 F102
 refine wpList_nil ?_
 refine hK96 _ _ ?_; clear hK96 K96
 refine wp_block ?_
 have S103 : Sp R w94 (SA.own0 (.slice A1 m.fSources.length c1) 9 1 m.fSources.length (strs (setsF m.fSources 0)) :: SA.blk gm 237 #[.string (cleanF m.fName), .string (cleanF m.fHome), .slice (A1) (m.fSources.length) (c1), .string m.fVersion, .string (cleanF m.fDescription), .slice (A2) (m.fKeywords.length) (c2), .slice (A3) (qs.length) (c3), .string (cleanF m.fIcon), .string m.fAPIVersion, .string (cleanF m.fCondition), .string (cleanF m.fTags), .string (cleanF m.fAppVersion), .bool false, .map none, .string (cleanF m.fKubeVersion), .slice (A4) (us.length) (c4), .string m.fType] :: SA.own0 (.slice A2 m.fKeywords.length c2) 9 1 m.fKeywords.length (strs m.fKeywords) :: SA.own (.slice A3 qs.length c3) 238 1 qs.length (pps qs) :: SA.zips SA.per qs m.fMaintainers :: SA.own (.slice A4 us.length c4) 240 1 us.length (pps us) :: SA.zips SA.dep us m.fDependencies :: L) := by rw [setsF_zero]; exact S94.p1
 refine fw_loop (fun m' a' w' => ∃ i : Nat, m.fSources.length - i = m' ∧ Fr 234 [] a' [(0, .pointer (some ⟨gm, 0, none⟩)), (2, .nilIface), (84, .int .i64 (↑m.fSources.length)), (85, .int .i64 (↑i))] ∧ Sp R w' (SA.own0 (.slice A1 m.fSources.length c1) 9 1 m.fSources.length (strs (setsF m.fSources i)) :: SA.blk gm 237 #[.string (cleanF m.fName), .string (cleanF m.fHome), .slice (A1) (m.fSources.length) (c1), .string m.fVersion, .string (cleanF m.fDescription), .slice (A2) (m.fKeywords.length) (c2), .slice (A3) (qs.length) (c3), .string (cleanF m.fIcon), .string m.fAPIVersion, .string (cleanF m.fCondition), .string (cleanF m.fTags), .string (cleanF m.fAppVersion), .bool false, .map none, .string (cleanF m.fKubeVersion), .slice (A4) (us.length) (c4), .string m.fType] :: SA.own0 (.slice A2 m.fKeywords.length c2) 9 1 m.fKeywords.length (strs m.fKeywords) :: SA.own (.slice A3 qs.length c3) 238 1 qs.length (pps qs) :: SA.zips SA.per qs m.fMaintainers :: SA.own (.slice A4 us.length c4) 240 1 us.length (pps us) :: SA.zips SA.dep us m.fDependencies :: L) ∧ (i ≤ m.fSources.length)) _ ⟨0, rfl, (F102.kk 0 (F102.kk 2 (F102.kk 84 (F102.kk 85 F102.nil)))), S103.p6.p6.p6.p6.p6.p6.p6, (by first | omega | (with_reducible assumption) | (simp; done))⟩ ?_
 rintro m104 a104 w104 ⟨i, hm104, F104, S104, hi⟩ K104 hK104
 by_cases hlt_i : i < m.fSources.length
 ·have hc_i : decide ((↑i : Int) < ↑m.fSources.length) = true := by first | (simp; done) | (simp; omega)
  have hxi := hzS _ (List.getElem_mem hlt_i)
  have hxai := haS _ (List.getElem_mem hlt_i)
  obtain ⟨ad105, hA105⟩ := (own0_sl1 (S104.ow0 0 rfl) (by omega)).addr (by simp [strs, setsF_len]; omega)
  refine wp_seq_k fun K106 hK106 => ?_
  refine wp_region_lit ?_
  refine op_q F104 (.bool (decide ((↑i : Int) < ↑m.fSources.length))) ?_; intro a107 F107
  have F108 := F107.sb 86 (by kernel_rfl) hc_i
  refine wpList_nil ?_
  refine hK106 _ _ ?_; clear hK106 K106
  refine wp_seq_k fun K109 hK109 => ?_
  refine wp_cond_true (F108.ev (by kernel_rfl)) ?_
  refine wp_skip ?_
  refine hK109 _ _ ?_; clear hK109 K109
  refine wp_seq_k fun K110 hK110 => ?_
  refine wp_block ?_
  refine wp_seq_k fun K111 hK111 => ?_
  refine wp_region_lit ?_
  refine op_q F108 (.int .i64 (↑i)) ?_; intro a112 F112
  refine op_q F112 (.int .i64 (↑i)) ?_; intro a113 F113
  refine wpList_nil ?_
  refine hK111 _ _ ?_; clear hK111 K111
  refine wp_region_sepF (L0 := SA.own0 (.slice A1 m.fSources.length c1) 9 1 m.fSources.length (strs (setsF m.fSources i)) :: SA.blk gm 237 #[.string (cleanF m.fName), .string (cleanF m.fHome), .slice (A1) (m.fSources.length) (c1), .string m.fVersion, .string (cleanF m.fDescription), .slice (A2) (m.fKeywords.length) (c2), .slice (A3) (qs.length) (c3), .string (cleanF m.fIcon), .string m.fAPIVersion, .string (cleanF m.fCondition), .string (cleanF m.fTags), .string (cleanF m.fAppVersion), .bool false, .map none, .string (cleanF m.fKubeVersion), .slice (A4) (us.length) (c4), .string m.fType] :: SA.own0 (.slice A2 m.fKeywords.length c2) 9 1 m.fKeywords.length (strs m.fKeywords) :: SA.own (.slice A3 qs.length c3) 238 1 qs.length (pps qs) :: SA.zips SA.per qs m.fMaintainers :: SA.own (.slice A4 us.length c4) 240 1 us.length (pps us) :: SA.zips SA.dep us m.fDependencies :: L) [some [], some [(0, 88)], some [(1, 89)], some [(2, 90)], some [], some [], some [(5, 93)], some [(6, 94)], some [(7, 95)], some [], some [(8, 96), (9, 97)], some [(10, 98)], some [(11, 99)], some [(3, 91), (4, 92)], none] [.v 88 (.pointer (some ⟨gm, 0, none⟩)), .v 89 (.pointer (some ⟨gm, 0, none⟩)), .v 90 (.pointer (some ⟨gm, 2, none⟩)), .v 91 (.slice (A1) (m.fSources.length) (c1)), .v 92 (.int .i64 (↑i)), .v 93 (.pointer (some ⟨gm, 0, none⟩)), .v 94 (.pointer (some ⟨gm, 0, none⟩)), .v 95 (.pointer (some ⟨gm, 2, none⟩)), .v 96 (.slice (A1) (m.fSources.length) (c1)), .v 97 (.int .i64 (↑i)), .v 98 (.pointer (some (ad105.add i))), .v 99 (.string m.fSources[i]), .v 100 (.string (cleanF m.fSources[i])), .v 101 (.pointer (some (ad105.add i))), .n SA.emp (fun _ _ A => A = SA.emp)] [] F113 rfl (by kernel_rfl) S104 ?_ ?_
  ·refine ⟨?_, ?_, ?_, ?_, ?_, ?_, ?_, ?_, ?_, ?_, ?_, ?_, ?_, ?_, trivial⟩
   ·intro w141 M141
    intro a141 F141 S141
    refine obl_of (by rfl) ?_
    exact s_p F141 (v := .pointer (some ⟨gm, 0, none⟩)) (by kernel_rfl) (by kernel_rfl) (by kernel_rfl) S141
   ·intro w142 M142
    intro a142 F142 S142
    refine obl_of (by rfl) ?_
    exact s_p F142 (v := .pointer (some ⟨gm, 0, none⟩)) (by kernel_rfl) (by kernel_rfl) (by kernel_rfl) S142
   ·intro w144 M144
    intro a144 F144 S144
    refine obl_of (by rfl) ?_
    exact s_p F144 (v := .pointer (some ⟨gm, 2, none⟩)) (by kernel_rfl) (by kernel_rfl) (by kernel_rfl) S144
   ·intro w146 M146
    intro a146 F146 S146
    refine obl_of (by rfl) ?_
    exact s_r (v := .slice (A1) (m.fSources.length) (c1)) (r_ld rfl (F146.e (.pointer (some ⟨gm, 2, none⟩))) (v := .slice (A1) (m.fSources.length) (c1)) (((Sp.dropM S146.drop).bk 1 rfl).cell 2) Try.underlying22 rfl) S146
   ·intro w148 M148
    intro a148 F148 S148
    refine obl_of (by rfl) ?_
    exact s_p F148 (v := .int .i64 (↑i)) (by kernel_rfl) (by kernel_rfl) (by kernel_rfl) S148
   ·intro w149 M149
    intro a149 F149 S149
    refine obl_of (by rfl) ?_
    exact s_p F149 (v := .pointer (some ⟨gm, 0, none⟩)) (by kernel_rfl) (by kernel_rfl) (by kernel_rfl) S149
   ·intro w150 M150
    intro a150 F150 S150
    refine obl_of (by rfl) ?_
    exact s_p F150 (v := .pointer (some ⟨gm, 0, none⟩)) (by kernel_rfl) (by kernel_rfl) (by kernel_rfl) S150
   ·intro w152 M152
    intro a152 F152 S152
    refine obl_of (by rfl) ?_
    exact s_p F152 (v := .pointer (some ⟨gm, 2, none⟩)) (by kernel_rfl) (by kernel_rfl) (by kernel_rfl) S152
   ·intro w154 M154
    intro a154 F154 S154
    refine obl_of (by rfl) ?_
    exact s_r (v := .slice (A1) (m.fSources.length) (c1)) (r_ld rfl (F154.e (.pointer (some ⟨gm, 2, none⟩))) (v := .slice (A1) (m.fSources.length) (c1)) (((Sp.dropM S154.drop).bk 1 rfl).cell 2) Try.underlying22 rfl) S154
   ·intro w156 M156
    intro a156 F156 S156
    refine obl_of (by rfl) ?_
    exact s_p F156 (v := .int .i64 (↑i)) (by kernel_rfl) (by kernel_rfl) (by kernel_rfl) S156
   ·intro w157 M157
    intro a157 F157 S157
    refine obl_of (by rfl) ?_
    exact s_r (v := .pointer (some (ad105.add i))) (r_ix rfl Try.underlying22 1 (by kernel_rfl) (F157.e (.slice (A1) (m.fSources.length) (c1))) hA105 (F157.e (.int .i64 (↑i))) i (by first | rfl | omega | simp) (by first | omega | (simp; done) | (simp; omega)) (by simp only [Nat.mul_one])) S157
   ·intro w160 M160
    intro a160 F160 S160
    refine obl_of (by rfl) ?_
    exact s_r (v := .string m.fSources[i]) (r_ld rfl (F160.e (.pointer (some (ad105.add i)))) (v := .string m.fSources[i]) ((own0_sl1 ((Sp.dropM S160.drop).ow0 0 rfl) (by omega)).elA hA105 (j := i) (by rw [strs, List.getElem?_map, setsF_get hlt_i]; rfl)) Try.underlying9 rfl) S160
   ·intro w162 M162
    intro a162 F162 S162
    refine obl_of (by rfl) ?_
    refine s_c F162 (f := 175) (args := #[.string m.fSources[i]]) (by kernel_rfl) (by kernel_rfl) (by kernel_rfl) (sanStr_any m.fSources[i] _ (by first | omega | (simp; done) | (simp; omega)) (by assumption)) ?_
    rintro _ _ ⟨rfl, hb_164⟩
    exact ⟨_, _, rfl, ⟨rfl, rfl⟩, S162.below hb_164⟩
   ·intro w165 M165
    intro a165 F165 S165
    refine obl_of (by rfl) ?_
    exact s_r (v := .pointer (some (ad105.add i))) (r_ix rfl Try.underlying22 1 (by kernel_rfl) (F165.e (.slice (A1) (m.fSources.length) (c1))) hA105 (F165.e (.int .i64 (↑i))) i (by first | rfl | omega | simp) (by first | omega | (simp; done) | (simp; omega)) (by simp only [Nat.mul_one])) S165
  ·intro a169 w168 F169 S168
   have S170 : Sp R w168 (SA.own0 (.slice A1 m.fSources.length c1) 9 1 m.fSources.length (strs (setsF m.fSources i)) :: SA.blk gm 237 #[.string (cleanF m.fName), .string (cleanF m.fHome), .slice (A1) (m.fSources.length) (c1), .string m.fVersion, .string (cleanF m.fDescription), .slice (A2) (m.fKeywords.length) (c2), .slice (A3) (qs.length) (c3), .string (cleanF m.fIcon), .string m.fAPIVersion, .string (cleanF m.fCondition), .string (cleanF m.fTags), .string (cleanF m.fAppVersion), .bool false, .map none, .string (cleanF m.fKubeVersion), .slice (A4) (us.length) (c4), .string m.fType] :: SA.own0 (.slice A2 m.fKeywords.length c2) 9 1 m.fKeywords.length (strs m.fKeywords) :: SA.own (.slice A3 qs.length c3) 238 1 qs.length (pps qs) :: SA.zips SA.per qs m.fMaintainers :: SA.own (.slice A4 us.length c4) 240 1 us.length (pps us) :: SA.zips SA.dep us m.fDependencies :: L) := S168
   refine op_sq0 F169 (s_sts0 rfl (F169.e (.pointer (some (ad105.add i)))) (F169.e (.string (cleanF m.fSources[i]))) hA105 rfl S170 (setsF_len _ _) hlt_i (by kernel_rfl) (setsF_set hlt_i)) ?_
   rintro _ _ w171 rfl S171 F171
   refine wpList_nil ?_
   refine hK110 _ _ ?_; clear hK110 K110
   refine wp_region_lit ?_
   refine op_rq (v := .int .i64 (↑(i + 1))) F171 (r_add (z := ↑(i + 1)) rfl (F171.e (.int .i64 (↑i))) (F171.e (.int .i64 1)) (wr64 (by omega) (by omega) (by omega))) ?_; intro a172 F172
   refine op_q F172 (.int .i64 (↑(i + 1))) ?_; intro a173 F173
   refine wpList_nil ?_
   exact hK104 _ _ _ (by first | omega | (simp; omega)) ⟨i + 1, rfl, (F173.kk 0 (F173.kk 2 (F173.kk 84 (F173.kk 85 F173.nil)))), S171.p6.p6.p6.p6.p6.p6.p6, (by first | omega | (with_reducible assumption) | (simp; done))⟩
 ·have hc_i : decide ((↑i : Int) < ↑m.fSources.length) = false := by first | (simp; done) | (simp; omega)
  obtain rfl : i = m.fSources.length := by omega
  rw [setsF_all] at S104
  refine wp_seq_k fun K174 hK174 => ?_
  refine wp_region_lit ?_
  refine op_q F104 (.bool (decide ((↑m.fSources.length : Int) < ↑m.fSources.length))) ?_; intro a175 F175
  have F176 := F175.sb 86 (by kernel_rfl) hc_i
  refine wpList_nil ?_
  refine hK174 _ _ ?_; clear hK174 K174
  refine wp_seq_k fun K177 hK177 => ?_
  refine wp_cond_false (F176.ev (by kernel_rfl)) ?_
  refine wp_exit ?_
  refine ex_then ?_; clear hK177 K177
  refine ex_then ?_
  refine ex_in ?_
  refine hK95 _ _ ?_; clear hK95 K95
  refine wp_seq_k fun K178 hK178 => ?_
  refine wp_seq_k fun K179 hK179 => ?_
  refine wp_region_lit ?_
  refine op_q F176 (.pointer (some ⟨gm, 0, none⟩)) ?_; intro a180 F180
  refine op_q F180 (.pointer (some ⟨gm, 0, none⟩)) ?_; intro a181 F181
  refine op_q F181 (.pointer (some ⟨gm, 5, none⟩)) ?_; intro a182 F182
  refine op_rq (v := .slice (A2) (m.fKeywords.length) (c2)) F182 (r_ld rfl (F182.e (.pointer (some ⟨gm, 5, none⟩))) (v := .slice (A2) (m.fKeywords.length) (c2)) ((S104.bk 1 rfl).cell 5) Try.underlying22 rfl) ?_; intro a183 F183
  refine op_q F183 (.int .i64 (↑m.fKeywords.length)) ?_; intro a184 F184
  refine op_q F184 (.int .i64 0) ?_; intro a185 F185
  refine wpList_nil ?_
  refine hK179 _ _ ?_; clear hK179 K179
  refine wp_block ?_
  have S186 : Sp R w104 (SA.own0 (.slice A2 m.fKeywords.length c2) 9 1 m.fKeywords.length (strs (setsF m.fKeywords 0)) :: SA.own0 (.slice A1 m.fSources.length c1) 9 1 m.fSources.length (strs (cleansF m.fSources)) :: SA.blk gm 237 #[.string (cleanF m.fName), .string (cleanF m.fHome), .slice (A1) (m.fSources.length) (c1), .string m.fVersion, .string (cleanF m.fDescription), .slice (A2) (m.fKeywords.length) (c2), .slice (A3) (qs.length) (c3), .string (cleanF m.fIcon), .string m.fAPIVersion, .string (cleanF m.fCondition), .string (cleanF m.fTags), .string (cleanF m.fAppVersion), .bool false, .map none, .string (cleanF m.fKubeVersion), .slice (A4) (us.length) (c4), .string m.fType] :: SA.own (.slice A3 qs.length c3) 238 1 qs.length (pps qs) :: SA.zips SA.per qs m.fMaintainers :: SA.own (.slice A4 us.length c4) 240 1 us.length (pps us) :: SA.zips SA.dep us m.fDependencies :: L) := by rw [setsF_zero]; exact S104.p2
  refine fw_loop (fun m' a' w' => ∃ i2 : Nat, m.fKeywords.length - i2 = m' ∧ Fr 234 [] a' [(0, .pointer (some ⟨gm, 0, none⟩)), (2, .nilIface), (107, .int .i64 (↑m.fKeywords.length)), (108, .int .i64 (↑i2))] ∧ Sp R w' (SA.own0 (.slice A2 m.fKeywords.length c2) 9 1 m.fKeywords.length (strs (setsF m.fKeywords i2)) :: SA.own0 (.slice A1 m.fSources.length c1) 9 1 m.fSources.length (strs (cleansF m.fSources)) :: SA.blk gm 237 #[.string (cleanF m.fName), .string (cleanF m.fHome), .slice (A1) (m.fSources.length) (c1), .string m.fVersion, .string (cleanF m.fDescription), .slice (A2) (m.fKeywords.length) (c2), .slice (A3) (qs.length) (c3), .string (cleanF m.fIcon), .string m.fAPIVersion, .string (cleanF m.fCondition), .string (cleanF m.fTags), .string (cleanF m.fAppVersion), .bool false, .map none, .string (cleanF m.fKubeVersion), .slice (A4) (us.length) (c4), .string m.fType] :: SA.own (.slice A3 qs.length c3) 238 1 qs.length (pps qs) :: SA.zips SA.per qs m.fMaintainers :: SA.own (.slice A4 us.length c4) 240 1 us.length (pps us) :: SA.zips SA.dep us m.fDependencies :: L) ∧ (i2 ≤ m.fKeywords.length)) _ ⟨0, rfl, (F185.kk 0 (F185.kk 2 (F185.kk 107 (F185.kk 108 F185.nil)))), S186.p6.p6.p6.p6.p6.p6.p6, (by first | omega | (with_reducible assumption) | (simp; done))⟩ ?_
  rintro m187 a187 w187 ⟨i2, hm187, F187, S187, hi2⟩ K187 hK187
  by_cases hlt_i2 : i2 < m.fKeywords.length
  ·have hc_i2 : decide ((↑i2 : Int) < ↑m.fKeywords.length) = true := by first | (simp; done) | (simp; omega)
   have hxi := hzK _ (List.getElem_mem hlt_i2)
   have hxai := haK _ (List.getElem_mem hlt_i2)
   obtain ⟨ad188, hA188⟩ := (own0_sl1 (S187.ow0 0 rfl) (by omega)).addr (by simp [strs, setsF_len]; omega)
   refine wp_seq_k fun K189 hK189 => ?_
   refine wp_region_lit ?_
   refine op_q F187 (.bool (decide ((↑i2 : Int) < ↑m.fKeywords.length))) ?_; intro a190 F190
   have F191 := F190.sb 109 (by kernel_rfl) hc_i2
   refine wpList_nil ?_
   refine hK189 _ _ ?_; clear hK189 K189
   refine wp_seq_k fun K192 hK192 => ?_
   refine wp_cond_true (F191.ev (by kernel_rfl)) ?_
   refine wp_skip ?_
   refine hK192 _ _ ?_; clear hK192 K192
   refine wp_seq_k fun K193 hK193 => ?_
   refine wp_block ?_
   refine wp_seq_k fun K194 hK194 => ?_
   refine wp_region_lit ?_
   refine op_q F191 (.int .i64 (↑i2)) ?_; intro a195 F195
   refine op_q F195 (.int .i64 (↑i2)) ?_; intro a196 F196
   refine wpList_nil ?_
   refine hK194 _ _ ?_; clear hK194 K194
   refine wp_region_sepF (L0 := SA.own0 (.slice A2 m.fKeywords.length c2) 9 1 m.fKeywords.length (strs (setsF m.fKeywords i2)) :: SA.own0 (.slice A1 m.fSources.length c1) 9 1 m.fSources.length (strs (cleansF m.fSources)) :: SA.blk gm 237 #[.string (cleanF m.fName), .string (cleanF m.fHome), .slice (A1) (m.fSources.length) (c1), .string m.fVersion, .string (cleanF m.fDescription), .slice (A2) (m.fKeywords.length) (c2), .slice (A3) (qs.length) (c3), .string (cleanF m.fIcon), .string m.fAPIVersion, .string (cleanF m.fCondition), .string (cleanF m.fTags), .string (cleanF m.fAppVersion), .bool false, .map none, .string (cleanF m.fKubeVersion), .slice (A4) (us.length) (c4), .string m.fType] :: SA.own (.slice A3 qs.length c3) 238 1 qs.length (pps qs) :: SA.zips SA.per qs m.fMaintainers :: SA.own (.slice A4 us.length c4) 240 1 us.length (pps us) :: SA.zips SA.dep us m.fDependencies :: L) [some [], some [(0, 111)], some [(1, 112)], some [(2, 113)], some [], some [], some [(5, 116)], some [(6, 117)], some [(7, 118)], some [], some [(8, 119), (9, 120)], some [(10, 121)], some [(11, 122)], some [(3, 114), (4, 115)], none] [.v 111 (.pointer (some ⟨gm, 0, none⟩)), .v 112 (.pointer (some ⟨gm, 0, none⟩)), .v 113 (.pointer (some ⟨gm, 5, none⟩)), .v 114 (.slice (A2) (m.fKeywords.length) (c2)), .v 115 (.int .i64 (↑i2)), .v 116 (.pointer (some ⟨gm, 0, none⟩)), .v 117 (.pointer (some ⟨gm, 0, none⟩)), .v 118 (.pointer (some ⟨gm, 5, none⟩)), .v 119 (.slice (A2) (m.fKeywords.length) (c2)), .v 120 (.int .i64 (↑i2)), .v 121 (.pointer (some (ad188.add i2))), .v 122 (.string m.fKeywords[i2]), .v 123 (.string (cleanF m.fKeywords[i2])), .v 124 (.pointer (some (ad188.add i2))), .n SA.emp (fun _ _ A => A = SA.emp)] [] F196 rfl (by kernel_rfl) S187 ?_ ?_
   ·refine ⟨?_, ?_, ?_, ?_, ?_, ?_, ?_, ?_, ?_, ?_, ?_, ?_, ?_, ?_, trivial⟩
    ·intro w224 M224
     intro a224 F224 S224
     refine obl_of (by rfl) ?_
     exact s_p F224 (v := .pointer (some ⟨gm, 0, none⟩)) (by kernel_rfl) (by kernel_rfl) (by kernel_rfl) S224
    ·intro w225 M225
     intro a225 F225 S225
     refine obl_of (by rfl) ?_
     exact s_p F225 (v := .pointer (some ⟨gm, 0, none⟩)) (by kernel_rfl) (by kernel_rfl) (by kernel_rfl) S225
    ·intro w227 M227
     intro a227 F227 S227
     refine obl_of (by rfl) ?_
     exact s_p F227 (v := .pointer (some ⟨gm, 5, none⟩)) (by kernel_rfl) (by kernel_rfl) (by kernel_rfl) S227
    ·intro w229 M229
     intro a229 F229 S229
     refine obl_of (by rfl) ?_
     exact s_r (v := .slice (A2) (m.fKeywords.length) (c2)) (r_ld rfl (F229.e (.pointer (some ⟨gm, 5, none⟩))) (v := .slice (A2) (m.fKeywords.length) (c2)) (((Sp.dropM S229.drop).bk 2 rfl).cell 5) Try.underlying22 rfl) S229
    ·intro w231 M231
     intro a231 F231 S231
     refine obl_of (by rfl) ?_
     exact s_p F231 (v := .int .i64 (↑i2)) (by kernel_rfl) (by kernel_rfl) (by kernel_rfl) S231
    ·intro w232 M232
     intro a232 F232 S232
     refine obl_of (by rfl) ?_
     exact s_p F232 (v := .pointer (some ⟨gm, 0, none⟩)) (by kernel_rfl) (by kernel_rfl) (by kernel_rfl) S232
    ·intro w233 M233
     intro a233 F233 S233
     refine obl_of (by rfl) ?_
     exact s_p F233 (v := .pointer (some ⟨gm, 0, none⟩)) (by kernel_rfl) (by kernel_rfl) (by kernel_rfl) S233
    ·intro w235 M235
     intro a235 F235 S235
     refine obl_of (by rfl) ?_
     exact s_p F235 (v := .pointer (some ⟨gm, 5, none⟩)) (by kernel_rfl) (by kernel_rfl) (by kernel_rfl) S235
    ·intro w237 M237
     intro a237 F237 S237
     refine obl_of (by rfl) ?_
     exact s_r (v := .slice (A2) (m.fKeywords.length) (c2)) (r_ld rfl (F237.e (.pointer (some ⟨gm, 5, none⟩))) (v := .slice (A2) (m.fKeywords.length) (c2)) (((Sp.dropM S237.drop).bk 2 rfl).cell 5) Try.underlying22 rfl) S237
    ·intro w239 M239
     intro a239 F239 S239
     refine obl_of (by rfl) ?_
     exact s_p F239 (v := .int .i64 (↑i2)) (by kernel_rfl) (by kernel_rfl) (by kernel_rfl) S239
    ·intro w240 M240
     intro a240 F240 S240
     refine obl_of (by rfl) ?_
     exact s_r (v := .pointer (some (ad188.add i2))) (r_ix rfl Try.underlying22 1 (by kernel_rfl) (F240.e (.slice (A2) (m.fKeywords.length) (c2))) hA188 (F240.e (.int .i64 (↑i2))) i2 (by first | rfl | omega | simp) (by first | omega | (simp; done) | (simp; omega)) (by simp only [Nat.mul_one])) S240
    ·intro w243 M243
     intro a243 F243 S243
     refine obl_of (by rfl) ?_
     exact s_r (v := .string m.fKeywords[i2]) (r_ld rfl (F243.e (.pointer (some (ad188.add i2)))) (v := .string m.fKeywords[i2]) ((own0_sl1 ((Sp.dropM S243.drop).ow0 0 rfl) (by omega)).elA hA188 (j := i2) (by rw [strs, List.getElem?_map, setsF_get hlt_i2]; rfl)) Try.underlying9 rfl) S243
    ·intro w245 M245
     intro a245 F245 S245
     refine obl_of (by rfl) ?_
     refine s_c F245 (f := 175) (args := #[.string m.fKeywords[i2]]) (by kernel_rfl) (by kernel_rfl) (by kernel_rfl) (sanStr_any m.fKeywords[i2] _ (by first | omega | (simp; done) | (simp; omega)) (by assumption)) ?_
     rintro _ _ ⟨rfl, hb_247⟩
     exact ⟨_, _, rfl, ⟨rfl, rfl⟩, S245.below hb_247⟩
    ·intro w248 M248
     intro a248 F248 S248
     refine obl_of (by rfl) ?_
     exact s_r (v := .pointer (some (ad188.add i2))) (r_ix rfl Try.underlying22 1 (by kernel_rfl) (F248.e (.slice (A2) (m.fKeywords.length) (c2))) hA188 (F248.e (.int .i64 (↑i2))) i2 (by first | rfl | omega | simp) (by first | omega | (simp; done) | (simp; omega)) (by simp only [Nat.mul_one])) S248
   ·intro a252 w251 F252 S251
    have S253 : Sp R w251 (SA.own0 (.slice A2 m.fKeywords.length c2) 9 1 m.fKeywords.length (strs (setsF m.fKeywords i2)) :: SA.own0 (.slice A1 m.fSources.length c1) 9 1 m.fSources.length (strs (cleansF m.fSources)) :: SA.blk gm 237 #[.string (cleanF m.fName), .string (cleanF m.fHome), .slice (A1) (m.fSources.length) (c1), .string m.fVersion, .string (cleanF m.fDescription), .slice (A2) (m.fKeywords.length) (c2), .slice (A3) (qs.length) (c3), .string (cleanF m.fIcon), .string m.fAPIVersion, .string (cleanF m.fCondition), .string (cleanF m.fTags), .string (cleanF m.fAppVersion), .bool false, .map none, .string (cleanF m.fKubeVersion), .slice (A4) (us.length) (c4), .string m.fType] :: SA.own (.slice A3 qs.length c3) 238 1 qs.length (pps qs) :: SA.zips SA.per qs m.fMaintainers :: SA.own (.slice A4 us.length c4) 240 1 us.length (pps us) :: SA.zips SA.dep us m.fDependencies :: L) := S251
    refine op_sq0 F252 (s_sts0 rfl (F252.e (.pointer (some (ad188.add i2)))) (F252.e (.string (cleanF m.fKeywords[i2]))) hA188 rfl S253 (setsF_len _ _) hlt_i2 (by kernel_rfl) (setsF_set hlt_i2)) ?_
    rintro _ _ w254 rfl S254 F254
    refine wpList_nil ?_
    refine hK193 _ _ ?_; clear hK193 K193
    refine wp_region_lit ?_
    refine op_rq (v := .int .i64 (↑(i2 + 1))) F254 (r_add (z := ↑(i2 + 1)) rfl (F254.e (.int .i64 (↑i2))) (F254.e (.int .i64 1)) (wr64 (by omega) (by omega) (by omega))) ?_; intro a255 F255
    refine op_q F255 (.int .i64 (↑(i2 + 1))) ?_; intro a256 F256
    refine wpList_nil ?_
    exact hK187 _ _ _ (by first | omega | (simp; omega)) ⟨i2 + 1, rfl, (F256.kk 0 (F256.kk 2 (F256.kk 107 (F256.kk 108 F256.nil)))), S254.p6.p6.p6.p6.p6.p6.p6, (by first | omega | (with_reducible assumption) | (simp; done))⟩
  ·have hc_i2 : decide ((↑i2 : Int) < ↑m.fKeywords.length) = false := by first | (simp; done) | (simp; omega)
   obtain rfl : i2 = m.fKeywords.length := by omega
   rw [setsF_all] at S187
   refine wp_seq_k fun K257 hK257 => ?_
   refine wp_region_lit ?_
   refine op_q F187 (.bool (decide ((↑m.fKeywords.length : Int) < ↑m.fKeywords.length))) ?_; intro a258 F258
   have F259 := F258.sb 109 (by kernel_rfl) hc_i2
   refine wpList_nil ?_
   refine hK257 _ _ ?_; clear hK257 K257
   refine wp_seq_k fun K260 hK260 => ?_
   refine wp_cond_false (F259.ev (by kernel_rfl)) ?_
   refine wp_exit ?_
   refine ex_then ?_; clear hK260 K260
   refine ex_then ?_
   refine ex_in ?_
   refine hK178 _ _ ?_; clear hK178 K178
   refine wp_seq_k fun K261 hK261 => ?_
   refine wp_seq_k fun K262 hK262 => ?_
   refine wp_region_lit ?_
   refine op_q F259 (.pointer (some ⟨gm, 0, none⟩)) ?_; intro a263 F263
   refine op_q F263 (.pointer (some ⟨gm, 0, none⟩)) ?_; intro a264 F264
   refine op_q F264 (.pointer (some ⟨gm, 8, none⟩)) ?_; intro a265 F265
   refine op_rq (v := .string m.fAPIVersion) F265 (r_ld rfl (F265.e (.pointer (some ⟨gm, 8, none⟩))) (v := .string m.fAPIVersion) ((S187.bk 2 rfl).cell 8) Try.underlying9 rfl) ?_; intro a266 F266
   refine op_q F266 (.bool (m.fAPIVersion.toList == (⟨#[]⟩ : ByteArray).toList)) ?_; intro a267 F267
   refine wpList_nil ?_
   refine hK262 _ _ ?_; clear hK262 K262
   rcases btf (m.fAPIVersion.toList == (⟨#[]⟩ : ByteArray).toList) with hc268 | hc268
   ·have F269 := F267.sb 130 (by kernel_rfl) hc268
    refine wp_cond_true (F269.ev (by kernel_rfl)) ?_
    refine wp_seq_k fun K270 hK270 => ?_
    refine wp_region_lit ?_
    refine op_q F269 (.iface 258 (.string ⟨zq32⟩)) ?_; intro a271 F271
    refine op_q F271 (.iface 258 (.string ⟨zq32⟩)) ?_; intro a272 F272
    refine wpList_nil ?_
    refine hK270 _ _ ?_; clear hK270 K270
    refine wp_ret ?_
    refine ret_then ?_
    have hw1 : what1 m = 1 := by unfold what1; rw [hc268]; rfl
    have hwf : whatF m = 1 := what_1 hw1 (by omega)
    have S273 : Sp R w187 (SA.own0 (.slice A2 m.fKeywords.length c2) 9 1 m.fKeywords.length (strs (cleansF m.fKeywords)) :: SA.own0 (.slice A1 m.fSources.length c1) 9 1 m.fSources.length (strs (cleansF m.fSources)) :: SA.blk gm 237 #[.string (cleanF m.fName), .string (cleanF m.fHome), .slice (A1) (m.fSources.length) (c1), .string m.fVersion, .string (cleanF m.fDescription), .slice (A2) (m.fKeywords.length) (c2), .slice (A3) (qs.length) (c3), .string (cleanF m.fIcon), .string m.fAPIVersion, .string (cleanF m.fCondition), .string (cleanF m.fTags), .string (cleanF m.fAppVersion), .bool false, .map none, .string (cleanF m.fKubeVersion), .slice (A4) (us.length) (c4), .string m.fType] :: SA.own (.slice A3 qs.length c3) 238 1 qs.length (pps qs) :: SA.zips SA.per qs m.fMaintainers :: SA.own (.slice A4 us.length c4) 240 1 us.length (pps us) :: SA.zips SA.dep us m.fDependencies :: L) := S187
    have S274 : Sp R w187 (SA.met gm (cln8 m) :: L) := met_of (m2 := (cln8 m)) S273.p6.p6.p6.p6.p4.p5.p6 (cleansF_len m.fSources) (cleansF_len m.fKeywords)
    refine (F272.res1 rfl (v := .iface 258 (.string ⟨zq32⟩)) (by kernel_rfl) ?_).1
    exact ⟨(cln8 m), true, (⟨zq32⟩ : ByteArray), rfl, S274, ⟨by rw [hwf]; first | done | exact rfl, fun h => by rw [hwf] at h ⊢; first | done | rfl | exact absurd rfl h, fun h => by first | (exfalso; omega) | rfl, fun h1 h2 => by first | (exfalso; omega) | rfl, (by decide), (lens_of (m := m) (m2 := (cln8 m)) hm1 hm2 hm3 hm4 hm5 rfl rfl rfl rfl (fun d hd => ⟨d, hd, rfl⟩))⟩⟩
   ·have F275 := F267.sb 130 (by kernel_rfl) hc268
    refine wp_cond_false (F275.ev (by kernel_rfl)) ?_
    refine wp_skip ?_
    refine hK261 _ _ ?_; clear hK261 K261
    refine wp_seq_k fun K276 hK276 => ?_
    refine wp_seq_k fun K277 hK277 => ?_
    refine wp_region_lit ?_
    refine op_q F275 (.pointer (some ⟨gm, 0, none⟩)) ?_; intro a278 F278
    refine op_q F278 (.pointer (some ⟨gm, 0, none⟩)) ?_; intro a279 F279
    refine op_q F279 (.pointer (some ⟨gm, 0, none⟩)) ?_; intro a280 F280
    refine op_rq (v := .string (cleanF m.fName)) F280 (r_ld rfl (F280.e (.pointer (some ⟨gm, 0, none⟩))) (v := .string (cleanF m.fName)) ((S187.bk 2 rfl).cell 0) Try.underlying9 rfl) ?_; intro a281 F281
    refine op_q F281 (.bool ((cleanF m.fName).toList == (⟨#[]⟩ : ByteArray).toList)) ?_; intro a282 F282
    refine wpList_nil ?_
    refine hK277 _ _ ?_; clear hK277 K277
    rcases btf ((cleanF m.fName).toList == (⟨#[]⟩ : ByteArray).toList) with hc283 | hc283
    ·have F284 := F282.sb 136 (by kernel_rfl) hc283
     refine wp_cond_true (F284.ev (by kernel_rfl)) ?_
     refine wp_seq_k fun K285 hK285 => ?_
     refine wp_region_lit ?_
     refine op_q F284 (.iface 258 (.string ⟨zq33⟩)) ?_; intro a286 F286
     refine op_q F286 (.iface 258 (.string ⟨zq33⟩)) ?_; intro a287 F287
     refine wpList_nil ?_
     refine hK285 _ _ ?_; clear hK285 K285
     refine wp_ret ?_
     refine ret_then ?_
     have hw1 : what1 m = 2 := by unfold what1; rw [hc268, hc283]; rfl
     have hwf : whatF m = 2 := what_1 hw1 (by omega)
     have S288 : Sp R w187 (SA.own0 (.slice A2 m.fKeywords.length c2) 9 1 m.fKeywords.length (strs (cleansF m.fKeywords)) :: SA.own0 (.slice A1 m.fSources.length c1) 9 1 m.fSources.length (strs (cleansF m.fSources)) :: SA.blk gm 237 #[.string (cleanF m.fName), .string (cleanF m.fHome), .slice (A1) (m.fSources.length) (c1), .string m.fVersion, .string (cleanF m.fDescription), .slice (A2) (m.fKeywords.length) (c2), .slice (A3) (qs.length) (c3), .string (cleanF m.fIcon), .string m.fAPIVersion, .string (cleanF m.fCondition), .string (cleanF m.fTags), .string (cleanF m.fAppVersion), .bool false, .map none, .string (cleanF m.fKubeVersion), .slice (A4) (us.length) (c4), .string m.fType] :: SA.own (.slice A3 qs.length c3) 238 1 qs.length (pps qs) :: SA.zips SA.per qs m.fMaintainers :: SA.own (.slice A4 us.length c4) 240 1 us.length (pps us) :: SA.zips SA.dep us m.fDependencies :: L) := S187
     have S289 : Sp R w187 (SA.met gm (cln8 m) :: L) := met_of (m2 := (cln8 m)) S288.p6.p6.p6.p6.p4.p5.p6 (cleansF_len m.fSources) (cleansF_len m.fKeywords)
     refine (F287.res1 rfl (v := .iface 258 (.string ⟨zq33⟩)) (by kernel_rfl) ?_).1
     exact ⟨(cln8 m), true, (⟨zq33⟩ : ByteArray), rfl, S289, ⟨by rw [hwf]; first | done | exact rfl, fun h => by rw [hwf] at h ⊢; first | done | rfl | exact absurd rfl h, fun h => by first | (exfalso; omega) | rfl, fun h1 h2 => by first | (exfalso; omega) | rfl, (by decide), (lens_of (m := m) (m2 := (cln8 m)) hm1 hm2 hm3 hm4 hm5 rfl rfl rfl rfl (fun d hd => ⟨d, hd, rfl⟩))⟩⟩
    ·have F290 := F282.sb 136 (by kernel_rfl) hc283
     refine wp_cond_false (F290.ev (by kernel_rfl)) ?_
     refine wp_skip ?_
     refine hK276 _ _ ?_; clear hK276 K276
     refine wp_seq_k fun K291 hK291 => ?_
     refine wp_seq_k fun K292 hK292 => ?_
     refine wp_region_lit ?_
     refine op_q F290 (.pointer (some ⟨gm, 0, none⟩)) ?_; intro a293 F293
     refine op_q F293 (.pointer (some ⟨gm, 0, none⟩)) ?_; intro a294 F294
     refine op_q F294 (.pointer (some ⟨gm, 0, none⟩)) ?_; intro a295 F295
     refine op_rq (v := .string (cleanF m.fName)) F295 (r_ld rfl (F295.e (.pointer (some ⟨gm, 0, none⟩))) (v := .string (cleanF m.fName)) ((S187.bk 2 rfl).cell 0) Try.underlying9 rfl) ?_; intro a296 F296
     refine op_q F296 (.bool ((cleanF m.fName).toList == (⟨#[46]⟩ : ByteArray).toList)) ?_; intro a297 F297
     refine op_q F297 (.bool ((cleanF m.fName).toList == (⟨#[46]⟩ : ByteArray).toList)) ?_; intro a298 F298
     rcases btf ((cleanF m.fName).toList == (⟨#[46]⟩ : ByteArray).toList) with hc299 | hc299
     ·have F300 := F298.sb 142 (by kernel_rfl) hc299
      have F301 := F300.sb 143 (by kernel_rfl) hc299
      refine op_kq F301 ?_; intro a302 F302
      refine op_kq F302 ?_; intro a303 F303
      refine op_kq F303 ?_; intro a304 F304
      refine op_kq F304 ?_; intro a305 F305
      refine op_kq F305 ?_; intro a306 F306
      refine op_q F306 (.bool true) ?_; intro a307 F307
      refine wpList_nil ?_
      refine hK292 _ _ ?_; clear hK292 K292
      refine wp_cond_true (F307.ev (by kernel_rfl)) ?_
      refine wp_seq_k fun K308 hK308 => ?_
      refine wp_region_lit ?_
      refine op_q F307 (.iface 258 (.string ⟨zq34⟩)) ?_; intro a309 F309
      refine op_q F309 (.iface 258 (.string ⟨zq34⟩)) ?_; intro a310 F310
      refine wpList_nil ?_
      refine hK308 _ _ ?_; clear hK308 K308
      refine wp_ret ?_
      refine ret_then ?_
      have hbn : badName (cleanF m.fName) = true := by unfold badName; rw [hc299]; rfl
      have hw1 : what1 m = 3 := by unfold what1; rw [hc268, hc283, hbn]; rfl
      have hwf : whatF m = 3 := what_1 hw1 (by omega)
      have S311 : Sp R w187 (SA.own0 (.slice A2 m.fKeywords.length c2) 9 1 m.fKeywords.length (strs (cleansF m.fKeywords)) :: SA.own0 (.slice A1 m.fSources.length c1) 9 1 m.fSources.length (strs (cleansF m.fSources)) :: SA.blk gm 237 #[.string (cleanF m.fName), .string (cleanF m.fHome), .slice (A1) (m.fSources.length) (c1), .string m.fVersion, .string (cleanF m.fDescription), .slice (A2) (m.fKeywords.length) (c2), .slice (A3) (qs.length) (c3), .string (cleanF m.fIcon), .string m.fAPIVersion, .string (cleanF m.fCondition), .string (cleanF m.fTags), .string (cleanF m.fAppVersion), .bool false, .map none, .string (cleanF m.fKubeVersion), .slice (A4) (us.length) (c4), .string m.fType] :: SA.own (.slice A3 qs.length c3) 238 1 qs.length (pps qs) :: SA.zips SA.per qs m.fMaintainers :: SA.own (.slice A4 us.length c4) 240 1 us.length (pps us) :: SA.zips SA.dep us m.fDependencies :: L) := S187
      have S312 : Sp R w187 (SA.met gm (cln8 m) :: L) := met_of (m2 := (cln8 m)) S311.p6.p6.p6.p6.p4.p5.p6 (cleansF_len m.fSources) (cleansF_len m.fKeywords)
      refine (F310.res1 rfl (v := .iface 258 (.string ⟨zq34⟩)) (by kernel_rfl) ?_).1
      exact ⟨(cln8 m), true, (⟨zq34⟩ : ByteArray), rfl, S312, ⟨by rw [hwf]; first | done | exact rfl, fun h => by rw [hwf] at h ⊢; first | done | rfl | exact absurd rfl h, fun h => by first | (exfalso; omega) | rfl, fun h1 h2 => by first | (exfalso; omega) | rfl, (by decide), (lens_of (m := m) (m2 := (cln8 m)) hm1 hm2 hm3 hm4 hm5 rfl rfl rfl rfl (fun d hd => ⟨d, hd, rfl⟩))⟩⟩
     ·have F313 := F298.sb 142 (by kernel_rfl) hc299
      have F314 := F313.sb 143 (by kernel_rfl) hc299
      refine op_wq F314 ?_
      refine op_q F314 (.pointer (some ⟨gm, 0, none⟩)) ?_; intro a315 F315
      refine op_wq F315 ?_
      refine op_q F315 (.pointer (some ⟨gm, 0, none⟩)) ?_; intro a316 F316
      refine op_wq F316 ?_
      refine op_q F316 (.pointer (some ⟨gm, 0, none⟩)) ?_; intro a317 F317
      refine op_wq F317 ?_
      refine op_rq (v := .string (cleanF m.fName)) F317 (r_ld rfl (F317.e (.pointer (some ⟨gm, 0, none⟩))) (v := .string (cleanF m.fName)) ((S187.bk 2 rfl).cell 0) Try.underlying9 rfl) ?_; intro a318 F318
      refine op_wq F318 ?_
      refine op_q F318 (.bool ((cleanF m.fName).toList == (⟨#[46, 46]⟩ : ByteArray).toList)) ?_; intro a319 F319
      refine op_q F319 (.bool ((cleanF m.fName).toList == (⟨#[46, 46]⟩ : ByteArray).toList)) ?_; intro a320 F320
      refine wpList_nil ?_
      refine hK292 _ _ ?_; clear hK292 K292
      rcases btf ((cleanF m.fName).toList == (⟨#[46, 46]⟩ : ByteArray).toList) with hc321 | hc321
      ·have F322 := F320.sb 148 (by kernel_rfl) hc321
       have F323 := F322.sb 149 (by kernel_rfl) hc321
       refine wp_cond_true (F323.ev (by kernel_rfl)) ?_
       refine wp_seq_k fun K324 hK324 => ?_
       refine wp_region_lit ?_
       refine op_q F323 (.iface 258 (.string ⟨zq34⟩)) ?_; intro a325 F325
       refine op_q F325 (.iface 258 (.string ⟨zq34⟩)) ?_; intro a326 F326
       refine wpList_nil ?_
       refine hK324 _ _ ?_; clear hK324 K324
       refine wp_ret ?_
       refine ret_then ?_
       have hbn : badName (cleanF m.fName) = true := by unfold badName; rw [hc299, hc321]; rfl
       have hw1 : what1 m = 3 := by unfold what1; rw [hc268, hc283, hbn]; rfl
       have hwf : whatF m = 3 := what_1 hw1 (by omega)
       have S327 : Sp R w187 (SA.own0 (.slice A2 m.fKeywords.length c2) 9 1 m.fKeywords.length (strs (cleansF m.fKeywords)) :: SA.own0 (.slice A1 m.fSources.length c1) 9 1 m.fSources.length (strs (cleansF m.fSources)) :: SA.blk gm 237 #[.string (cleanF m.fName), .string (cleanF m.fHome), .slice (A1) (m.fSources.length) (c1), .string m.fVersion, .string (cleanF m.fDescription), .slice (A2) (m.fKeywords.length) (c2), .slice (A3) (qs.length) (c3), .string (cleanF m.fIcon), .string m.fAPIVersion, .string (cleanF m.fCondition), .string (cleanF m.fTags), .string (cleanF m.fAppVersion), .bool false, .map none, .string (cleanF m.fKubeVersion), .slice (A4) (us.length) (c4), .string m.fType] :: SA.own (.slice A3 qs.length c3) 238 1 qs.length (pps qs) :: SA.zips SA.per qs m.fMaintainers :: SA.own (.slice A4 us.length c4) 240 1 us.length (pps us) :: SA.zips SA.dep us m.fDependencies :: L) := S187
       have S328 : Sp R w187 (SA.met gm (cln8 m) :: L) := met_of (m2 := (cln8 m)) S327.p6.p6.p6.p6.p4.p5.p6 (cleansF_len m.fSources) (cleansF_len m.fKeywords)
       refine (F326.res1 rfl (v := .iface 258 (.string ⟨zq34⟩)) (by kernel_rfl) ?_).1
       exact ⟨(cln8 m), true, (⟨zq34⟩ : ByteArray), rfl, S328, ⟨by rw [hwf]; first | done | exact rfl, fun h => by rw [hwf] at h ⊢; first | done | rfl | exact absurd rfl h, fun h => by first | (exfalso; omega) | rfl, fun h1 h2 => by first | (exfalso; omega) | rfl, (by decide), (lens_of (m := m) (m2 := (cln8 m)) hm1 hm2 hm3 hm4 hm5 rfl rfl rfl rfl (fun d hd => ⟨d, hd, rfl⟩))⟩⟩
      ·have F329 := F320.sb 148 (by kernel_rfl) hc321
       have F330 := F329.sb 149 (by kernel_rfl) hc321
       refine wp_cond_false (F330.ev (by kernel_rfl)) ?_
       refine wp_skip ?_
       refine hK291 _ _ ?_; clear hK291 K291
       refine wp_seq_k fun K331 hK331 => ?_
       refine wp_seq_k fun K332 hK332 => ?_
       refine wp_region_sepF (L0 := SA.own0 (.slice A2 m.fKeywords.length c2) 9 1 m.fKeywords.length (strs (cleansF m.fKeywords)) :: SA.own0 (.slice A1 m.fSources.length c1) 9 1 m.fSources.length (strs (cleansF m.fSources)) :: SA.blk gm 237 #[.string (cleanF m.fName), .string (cleanF m.fHome), .slice (A1) (m.fSources.length) (c1), .string m.fVersion, .string (cleanF m.fDescription), .slice (A2) (m.fKeywords.length) (c2), .slice (A3) (qs.length) (c3), .string (cleanF m.fIcon), .string m.fAPIVersion, .string (cleanF m.fCondition), .string (cleanF m.fTags), .string (cleanF m.fAppVersion), .bool false, .map none, .string (cleanF m.fKubeVersion), .slice (A4) (us.length) (c4), .string m.fType] :: SA.own (.slice A3 qs.length c3) 238 1 qs.length (pps qs) :: SA.zips SA.per qs m.fMaintainers :: SA.own (.slice A4 us.length c4) 240 1 us.length (pps us) :: SA.zips SA.dep us m.fDependencies :: L) [some [], some [(0, 151)], some [(1, 152)], some [(2, 153)], some [], some [(4, 155)], some [(5, 156)], some [(6, 157)], some [(7, 158)], some [(3, 154), (7, 158), (8, 159)]] [.v 151 (.pointer (some ⟨gm, 0, none⟩)), .v 152 (.pointer (some ⟨gm, 0, none⟩)), .v 153 (.pointer (some ⟨gm, 0, none⟩)), .v 154 (.string (cleanF m.fName)), .v 155 (.pointer (some ⟨gm, 0, none⟩)), .v 156 (.pointer (some ⟨gm, 0, none⟩)), .v 157 (.pointer (some ⟨gm, 0, none⟩)), .v 158 (.string (cleanF m.fName)), .p 159 (SA.emp) (fun _ vv AA => ∃ o370 : ByteArray, vv = .string o370 ∧ AA = SA.emp ∧ ((o370.toList == (cleanF m.fName).toList) = (!slB (cleanF m.fName) || ((cleanF m.fName).toList == (⟨#[47]⟩ : ByteArray).toList)))), .p 160 (SA.emp) (fun env vv AA => ∃ o370x : ByteArray, (env.getD 2 undef) = .string o370x ∧ vv = .bool (!((cleanF m.fName).toList == o370x.toList)) ∧ AA = SA.emp)] [] F330 rfl (by kernel_rfl) S187.emp.emp ?_ ?_
       ·refine ⟨?_, ?_, ?_, ?_, ?_, ?_, ?_, ?_, ?_, ?_, trivial⟩
        ·intro w354 M354
         intro a354 F354 S354
         refine obl_of (by rfl) ?_
         exact s_p F354 (v := .pointer (some ⟨gm, 0, none⟩)) (by kernel_rfl) (by kernel_rfl) (by kernel_rfl) S354
        ·intro w355 M355
         intro a355 F355 S355
         refine obl_of (by rfl) ?_
         exact s_p F355 (v := .pointer (some ⟨gm, 0, none⟩)) (by kernel_rfl) (by kernel_rfl) (by kernel_rfl) S355
        ·intro w357 M357
         intro a357 F357 S357
         refine obl_of (by rfl) ?_
         exact s_p F357 (v := .pointer (some ⟨gm, 0, none⟩)) (by kernel_rfl) (by kernel_rfl) (by kernel_rfl) S357
        ·intro w359 M359
         intro a359 F359 S359
         refine obl_of (by rfl) ?_
         exact s_r (v := .string (cleanF m.fName)) (r_ld rfl (F359.e (.pointer (some ⟨gm, 0, none⟩))) (v := .string (cleanF m.fName)) (((Sp.dropM S359.drop).bk 2 rfl).cell 0) Try.underlying9 rfl) S359
        ·intro w361 M361
         intro a361 F361 S361
         refine obl_of (by rfl) ?_
         exact s_p F361 (v := .pointer (some ⟨gm, 0, none⟩)) (by kernel_rfl) (by kernel_rfl) (by kernel_rfl) S361
        ·intro w362 M362
         intro a362 F362 S362
         refine obl_of (by rfl) ?_
         exact s_p F362 (v := .pointer (some ⟨gm, 0, none⟩)) (by kernel_rfl) (by kernel_rfl) (by kernel_rfl) S362
        ·intro w364 M364
         intro a364 F364 S364
         refine obl_of (by rfl) ?_
         exact s_p F364 (v := .pointer (some ⟨gm, 0, none⟩)) (by kernel_rfl) (by kernel_rfl) (by kernel_rfl) S364
        ·intro w366 M366
         intro a366 F366 S366
         refine obl_of (by rfl) ?_
         exact s_r (v := .string (cleanF m.fName)) (r_ld rfl (F366.e (.pointer (some ⟨gm, 0, none⟩))) (v := .string (cleanF m.fName)) (((Sp.dropM S366.drop).bk 2 rfl).cell 0) Try.underlying9 rfl) S366
        ·intro w368 M368
         intro a368 F368 S368
         refine obl_of (by rfl) ?_
         refine s_c F368 (f := 176) (args := #[.string (cleanF m.fName)]) (by kernel_rfl) (by kernel_rfl) (by kernel_rfl) (base_any (cleanF m.fName) _ _ _ S368.drop (emp_pos hc283) (by have := cleanF_le m.fName; omega)) ?_
         rintro _ _ ⟨o370, rfl, S370, hp0_370⟩
         exact ⟨_, _, rfl, ⟨o370, rfl, rfl, hp0_370⟩, S370.emp⟩
        ·intro w371 M371
         rintro _ _ ⟨o370, rfl, rfl, hp0_370⟩ hA374
         intro a371 F371 S371
         refine obl_of (by rfl) ?_
         exact sAt_mono (s_p F371 (v := .bool (!((cleanF m.fName).toList == o370.toList))) (by kernel_rfl) (by kernel_rfl) (by kernel_rfl) S371) fun _ _ ⟨e1, e2⟩ => ⟨o370, (by kernel_rfl), e1, e2⟩
       ·rintro _ _ ⟨o370, rfl, rfl, hp0_370⟩
        rintro _ _ ⟨o370x, e9_2, rfl, rfl⟩
        have e9_2 := envE_at (v := .string o370) e9_2 (by kernel_rfl)
        obtain rfl : o370 = o370x := by cases e9_2; rfl
        clear e9_2
        intro a376 w375 F376 S375
        have S377 : Sp R w375 (SA.own0 (.slice A2 m.fKeywords.length c2) 9 1 m.fKeywords.length (strs (cleansF m.fKeywords)) :: SA.own0 (.slice A1 m.fSources.length c1) 9 1 m.fSources.length (strs (cleansF m.fSources)) :: SA.blk gm 237 #[.string (cleanF m.fName), .string (cleanF m.fHome), .slice (A1) (m.fSources.length) (c1), .string m.fVersion, .string (cleanF m.fDescription), .slice (A2) (m.fKeywords.length) (c2), .slice (A3) (qs.length) (c3), .string (cleanF m.fIcon), .string m.fAPIVersion, .string (cleanF m.fCondition), .string (cleanF m.fTags), .string (cleanF m.fAppVersion), .bool false, .map none, .string (cleanF m.fKubeVersion), .slice (A4) (us.length) (c4), .string m.fType] :: SA.own (.slice A3 qs.length c3) 238 1 qs.length (pps qs) :: SA.zips SA.per qs m.fMaintainers :: SA.own (.slice A4 us.length c4) 240 1 us.length (pps us) :: SA.zips SA.dep us m.fDependencies :: L) := S375.drop.drop
        refine wpList_nil ?_
        refine hK332 _ _ ?_; clear hK332 K332
        rcases btf ((cleanF m.fName).toList == o370.toList) with hc378 | hc378
        ·have F379 := F376.sb 160 (by kernel_rfl) (show (!((cleanF m.fName).toList == o370.toList)) = false by rw [hc378]; rfl)
         refine wp_cond_false (F379.ev (by kernel_rfl)) ?_
         refine wp_skip ?_
         refine hK331 _ _ ?_; clear hK331 K331
         refine wp_seq_k fun K380 hK380 => ?_
         refine wp_seq_k fun K381 hK381 => ?_
         refine wp_region_lit ?_
         refine op_q F379 (.pointer (some ⟨gm, 0, none⟩)) ?_; intro a382 F382
         refine op_q F382 (.pointer (some ⟨gm, 0, none⟩)) ?_; intro a383 F383
         refine op_q F383 (.pointer (some ⟨gm, 3, none⟩)) ?_; intro a384 F384
         refine op_rq (v := .string m.fVersion) F384 (r_ld rfl (F384.e (.pointer (some ⟨gm, 3, none⟩))) (v := .string m.fVersion) ((S377.bk 2 rfl).cell 3) Try.underlying9 rfl) ?_; intro a385 F385
         refine op_q F385 (.bool (m.fVersion.toList == (⟨#[]⟩ : ByteArray).toList)) ?_; intro a386 F386
         refine wpList_nil ?_
         refine hK381 _ _ ?_; clear hK381 K381
         rcases btf (m.fVersion.toList == (⟨#[]⟩ : ByteArray).toList) with hc387 | hc387
         ·have F388 := F386.sb 166 (by kernel_rfl) hc387
          refine wp_cond_true (F388.ev (by kernel_rfl)) ?_
          refine wp_seq_k fun K389 hK389 => ?_
          refine wp_region_lit ?_
          refine op_q F388 (.iface 258 (.string ⟨zq35⟩)) ?_; intro a390 F390
          refine op_q F390 (.iface 258 (.string ⟨zq35⟩)) ?_; intro a391 F391
          refine wpList_nil ?_
          refine hK389 _ _ ?_; clear hK389 K389
          refine wp_ret ?_
          refine ret_then ?_
          have hbn : badName (cleanF m.fName) = false := by unfold badName; rw [hc299, hc321, ← hp0_370, beq_sw3, hc378]; rfl
          have hw1 : what1 m = 4 := by unfold what1; rw [hc268, hc283, hbn, hc387]; rfl
          have hwf : whatF m = 4 := what_1 hw1 (by omega)
          have S392 : Sp R w375 (SA.own0 (.slice A2 m.fKeywords.length c2) 9 1 m.fKeywords.length (strs (cleansF m.fKeywords)) :: SA.own0 (.slice A1 m.fSources.length c1) 9 1 m.fSources.length (strs (cleansF m.fSources)) :: SA.blk gm 237 #[.string (cleanF m.fName), .string (cleanF m.fHome), .slice (A1) (m.fSources.length) (c1), .string m.fVersion, .string (cleanF m.fDescription), .slice (A2) (m.fKeywords.length) (c2), .slice (A3) (qs.length) (c3), .string (cleanF m.fIcon), .string m.fAPIVersion, .string (cleanF m.fCondition), .string (cleanF m.fTags), .string (cleanF m.fAppVersion), .bool false, .map none, .string (cleanF m.fKubeVersion), .slice (A4) (us.length) (c4), .string m.fType] :: SA.own (.slice A3 qs.length c3) 238 1 qs.length (pps qs) :: SA.zips SA.per qs m.fMaintainers :: SA.own (.slice A4 us.length c4) 240 1 us.length (pps us) :: SA.zips SA.dep us m.fDependencies :: L) := S377
          have S393 : Sp R w375 (SA.met gm (cln8 m) :: L) := met_of (m2 := (cln8 m)) S392.p6.p6.p6.p6.p4.p5.p6 (cleansF_len m.fSources) (cleansF_len m.fKeywords)
          refine (F391.res1 rfl (v := .iface 258 (.string ⟨zq35⟩)) (by kernel_rfl) ?_).1
          exact ⟨(cln8 m), true, (⟨zq35⟩ : ByteArray), rfl, S393, ⟨by rw [hwf]; first | done | exact rfl, fun h => by rw [hwf] at h ⊢; first | done | rfl | exact absurd rfl h, fun h => by first | (exfalso; omega) | rfl, fun h1 h2 => by first | (exfalso; omega) | rfl, (by decide), (lens_of (m := m) (m2 := (cln8 m)) hm1 hm2 hm3 hm4 hm5 rfl rfl rfl rfl (fun d hd => ⟨d, hd, rfl⟩))⟩⟩
         ·have F394 := F386.sb 166 (by kernel_rfl) hc387
          refine wp_cond_false (F394.ev (by kernel_rfl)) ?_
          refine wp_skip ?_
          refine hK380 _ _ ?_; clear hK380 K380
          refine wp_seq_k fun K395 hK395 => ?_
          refine wp_seq_k fun K396 hK396 => ?_
          refine wp_region_lit ?_
          refine op_q F394 (.pointer (some ⟨gm, 0, none⟩)) ?_; intro a397 F397
          refine op_q F397 (.pointer (some ⟨gm, 0, none⟩)) ?_; intro a398 F398
          refine op_q F398 (.pointer (some ⟨gm, 3, none⟩)) ?_; intro a399 F399
          refine op_rq (v := .string m.fVersion) F399 (r_ld rfl (F399.e (.pointer (some ⟨gm, 3, none⟩))) (v := .string m.fVersion) ((S377.bk 2 rfl).cell 3) Try.underlying9 rfl) ?_; intro a400 F400
          refine op_cq F400 (f := 177) (args := #[.string m.fVersion]) (semverOk_sp m.fVersion _ _ _ S377 (by first | omega | (simp; done) | (simp; omega)) hv) ?_
          rintro _ w401 ⟨rfl, S401⟩
          refine ⟨_, rfl, ?_⟩
          intro a402 F402
          refine op_q F402 (.bool (!(plainB m.fVersion))) ?_; intro a403 F403
          refine wpList_nil ?_
          refine hK396 _ _ ?_; clear hK396 K396
          rcases btf (plainB m.fVersion) with hc404 | hc404
          ·have F405 := F403.sb 172 (by kernel_rfl) hc404
           have F406 := F405.sb 173 (by kernel_rfl) (show (!(plainB m.fVersion)) = false by rw [hc404]; rfl)
           refine wp_cond_false (F406.ev (by kernel_rfl)) ?_
           refine wp_skip ?_
           refine hK395 _ _ ?_; clear hK395 K395
           refine fw_cut (fun a' w' => Fr 234 [] a' [(0, .pointer (some ⟨gm, 0, none⟩))] ∧ Sp R w' (SA.own0 (.slice A2 m.fKeywords.length c2) 9 1 m.fKeywords.length (strs (cleansF m.fKeywords)) :: SA.own0 (.slice A1 m.fSources.length c1) 9 1 m.fSources.length (strs (cleansF m.fSources)) :: SA.blk gm 237 #[.string (cleanF m.fName), .string (cleanF m.fHome), .slice (A1) (m.fSources.length) (c1), .string m.fVersion, .string (cleanF m.fDescription), .slice (A2) (m.fKeywords.length) (c2), .slice (A3) (qs.length) (c3), .string (cleanF m.fIcon), .string m.fAPIVersion, .string (cleanF m.fCondition), .string (cleanF m.fTags), .string (cleanF m.fAppVersion), .bool false, .map none, .string (cleanF m.fKubeVersion), .slice (A4) (us.length) (c4), .string m.fType] :: SA.own (.slice A3 qs.length c3) 238 1 qs.length (pps qs) :: SA.zips SA.per qs m.fMaintainers :: SA.own (.slice A4 us.length c4) 240 1 us.length (pps us) :: SA.zips SA.dep us m.fDependencies :: L) ∧ (what1 m = 0)) ?_ ?_
           ·intro K407 hK407
            refine wp_seq_k fun K408 hK408 => ?_
            refine wp_region_lit ?_
            refine op_q F406 (.pointer (some ⟨gm, 0, none⟩)) ?_; intro a409 F409
            refine op_q F409 (.pointer (some ⟨gm, 0, none⟩)) ?_; intro a410 F410
            refine op_q F410 (.pointer (some ⟨gm, 16, none⟩)) ?_; intro a411 F411
            refine op_rq (v := .string m.fType) F411 (r_ld rfl (F411.e (.pointer (some ⟨gm, 16, none⟩))) (v := .string m.fType) ((S401.bk 2 rfl).cell 16) Try.underlying9 rfl) ?_; intro a412 F412
            refine op_cq F412 (f := 178) (args := #[.string m.fType]) (chType_sp m.fType _ _ _ S401 ) ?_
            rintro _ w413 ⟨rfl, S413⟩
            refine ⟨_, rfl, ?_⟩
            intro a414 F414
            refine op_q F414 (.bool (!(!(badType m.fType)))) ?_; intro a415 F415
            refine wpList_nil ?_
            refine hK408 _ _ ?_; clear hK408 K408
            rcases btf (!(badType m.fType)) with hc416 | hc416
            ·have F417 := F415.sb 179 (by kernel_rfl) hc416
             have F418 := F417.sb 180 (by kernel_rfl) (show (!(!(badType m.fType))) = false by rw [hc416]; rfl)
             refine wp_cond_false (F418.ev (by kernel_rfl)) ?_
             refine wp_skip ?_
             have hbn : badName (cleanF m.fName) = false := by unfold badName; rw [hc299, hc321, ← hp0_370, beq_sw3, hc378]; rfl
             have hw1 : what1 m = 0 := by unfold what1; rw [hc268, hc283, hbn, hc387, hc404, (show badType m.fType = false by simpa using hc416)]; rfl
             exact hK407 _ _ ⟨(F418.kk 0 F418.nil), S413.p6.p6.p6.p6.p6.p6.p6, hw1⟩
            ·have F419 := F415.sb 179 (by kernel_rfl) hc416
             have F420 := F419.sb 180 (by kernel_rfl) (show (!(!(badType m.fType))) = true by rw [hc416]; rfl)
             refine wp_cond_true (F420.ev (by kernel_rfl)) ?_
             refine wp_seq_k fun K421 hK421 => ?_
             refine wp_region_lit ?_
             refine op_q F420 (.iface 258 (.string ⟨zq36⟩)) ?_; intro a422 F422
             refine op_q F422 (.iface 258 (.string ⟨zq36⟩)) ?_; intro a423 F423
             refine wpList_nil ?_
             refine hK421 _ _ ?_; clear hK421 K421
             refine wp_ret ?_
             refine ret_then ?_
             have hbn : badName (cleanF m.fName) = false := by unfold badName; rw [hc299, hc321, ← hp0_370, beq_sw3, hc378]; rfl
             have hw1 : what1 m = 6 := by unfold what1; rw [hc268, hc283, hbn, hc387, hc404, (show badType m.fType = true by simpa using hc416)]; rfl
             have hwf : whatF m = 6 := what_1 hw1 (by omega)
             have S424 : Sp R w413 (SA.own0 (.slice A2 m.fKeywords.length c2) 9 1 m.fKeywords.length (strs (cleansF m.fKeywords)) :: SA.own0 (.slice A1 m.fSources.length c1) 9 1 m.fSources.length (strs (cleansF m.fSources)) :: SA.blk gm 237 #[.string (cleanF m.fName), .string (cleanF m.fHome), .slice (A1) (m.fSources.length) (c1), .string m.fVersion, .string (cleanF m.fDescription), .slice (A2) (m.fKeywords.length) (c2), .slice (A3) (qs.length) (c3), .string (cleanF m.fIcon), .string m.fAPIVersion, .string (cleanF m.fCondition), .string (cleanF m.fTags), .string (cleanF m.fAppVersion), .bool false, .map none, .string (cleanF m.fKubeVersion), .slice (A4) (us.length) (c4), .string m.fType] :: SA.own (.slice A3 qs.length c3) 238 1 qs.length (pps qs) :: SA.zips SA.per qs m.fMaintainers :: SA.own (.slice A4 us.length c4) 240 1 us.length (pps us) :: SA.zips SA.dep us m.fDependencies :: L) := S413
             have S425 : Sp R w413 (SA.met gm (cln8 m) :: L) := met_of (m2 := (cln8 m)) S424.p6.p6.p6.p6.p4.p5.p6 (cleansF_len m.fSources) (cleansF_len m.fKeywords)
             refine (F423.res1 rfl (v := .iface 258 (.string ⟨zq36⟩)) (by kernel_rfl) ?_).1
             exact ⟨(cln8 m), true, (⟨zq36⟩ : ByteArray), rfl, S425, ⟨by rw [hwf]; first | done | exact rfl, fun h => by rw [hwf] at h ⊢; first | done | rfl | exact absurd rfl h, fun h => by first | (exfalso; omega) | rfl, fun h1 h2 => by first | (exfalso; omega) | rfl, (by decide), (lens_of (m := m) (m2 := (cln8 m)) hm1 hm2 hm3 hm4 hm5 rfl rfl rfl rfl (fun d hd => ⟨d, hd, rfl⟩))⟩⟩
           ·rintro a426 w426 ⟨F426, S426, hw1⟩
            refine wp_seq_k fun K427 hK427 => ?_
            refine wp_seq_k fun K428 hK428 => ?_
            refine wp_region_lit ?_
            refine op_q F426 (.pointer (some ⟨gm, 0, none⟩)) ?_; intro a429 F429
            refine op_q F429 (.pointer (some ⟨gm, 0, none⟩)) ?_; intro a430 F430
            refine op_q F430 (.pointer (some ⟨gm, 6, none⟩)) ?_; intro a431 F431
            refine op_rq (v := .slice (A3) (qs.length) (c3)) F431 (r_ld rfl (F431.e (.pointer (some ⟨gm, 6, none⟩))) (v := .slice (A3) (qs.length) (c3)) ((S426.bk 2 rfl).cell 6) Try.underlying233 rfl) ?_; intro a432 F432
            refine op_q F432 (.int .i64 (↑qs.length)) ?_; intro a433 F433
            refine op_q F433 (.int .i64 0) ?_; intro a434 F434
            refine wpList_nil ?_
            refine hK428 _ _ ?_; clear hK428 K428
            refine wp_block ?_
            have S435 : Sp R w426 (SA.zips SA.per qs (pcs m.fMaintainers 0) :: SA.own0 (.slice A2 m.fKeywords.length c2) 9 1 m.fKeywords.length (strs (cleansF m.fKeywords)) :: SA.own0 (.slice A1 m.fSources.length c1) 9 1 m.fSources.length (strs (cleansF m.fSources)) :: SA.blk gm 237 #[.string (cleanF m.fName), .string (cleanF m.fHome), .slice (A1) (m.fSources.length) (c1), .string m.fVersion, .string (cleanF m.fDescription), .slice (A2) (m.fKeywords.length) (c2), .slice (A3) (qs.length) (c3), .string (cleanF m.fIcon), .string m.fAPIVersion, .string (cleanF m.fCondition), .string (cleanF m.fTags), .string (cleanF m.fAppVersion), .bool false, .map none, .string (cleanF m.fKubeVersion), .slice (A4) (us.length) (c4), .string m.fType] :: SA.own (.slice A3 qs.length c3) 238 1 qs.length (pps qs) :: SA.own (.slice A4 us.length c4) 240 1 us.length (pps us) :: SA.zips SA.dep us m.fDependencies :: L) := S426.p4
            refine fw_loop (fun m' a' w' => ∃ k : Nat, qs.length - k = m' ∧ Fr 234 [] a' [(0, .pointer (some ⟨gm, 0, none⟩)), (185, .slice (A3) (qs.length) (c3)), (186, .int .i64 (↑qs.length)), (187, .int .i64 (↑k))] ∧ Sp R w' (SA.zips SA.per qs (pcs m.fMaintainers k) :: SA.own0 (.slice A2 m.fKeywords.length c2) 9 1 m.fKeywords.length (strs (cleansF m.fKeywords)) :: SA.own0 (.slice A1 m.fSources.length c1) 9 1 m.fSources.length (strs (cleansF m.fSources)) :: SA.blk gm 237 #[.string (cleanF m.fName), .string (cleanF m.fHome), .slice (A1) (m.fSources.length) (c1), .string m.fVersion, .string (cleanF m.fDescription), .slice (A2) (m.fKeywords.length) (c2), .slice (A3) (qs.length) (c3), .string (cleanF m.fIcon), .string m.fAPIVersion, .string (cleanF m.fCondition), .string (cleanF m.fTags), .string (cleanF m.fAppVersion), .bool false, .map none, .string (cleanF m.fKubeVersion), .slice (A4) (us.length) (c4), .string m.fType] :: SA.own (.slice A3 qs.length c3) 238 1 qs.length (pps qs) :: SA.own (.slice A4 us.length c4) 240 1 us.length (pps us) :: SA.zips SA.dep us m.fDependencies :: L) ∧ (k ≤ qs.length) ∧ (∀ i, ∀ h : i < m.fMaintainers.length, i < k → m.fMaintainers[i].fNil = false)) _ ⟨0, rfl, (F434.kk 0 (F434.kk 185 (F434.kk 186 (F434.kk 187 F434.nil)))), S435.p6.p6.p6.p6.p6.p6.p6, (by first | omega | (with_reducible assumption) | (simp; done)), (fun i _ h => absurd h (Nat.not_lt_zero _))⟩ ?_
            rintro m436 a436 w436 ⟨k, hm436, F436, S436, hk, hpn⟩ K436 hK436
            by_cases hlt_k : k < qs.length
            ·have hc_k : decide ((↑k : Int) < ↑qs.length) = true := by first | (simp; done) | (simp; omega)
             have hlt_k2 : k < m.fMaintainers.length := by omega
             obtain ⟨hp1, hp2, hp3⟩ := hzM _ (List.getElem_mem hlt_k2)
             obtain ⟨hpa1, hpa2, hpa3⟩ := haM _ (List.getElem_mem hlt_k2)
             obtain ⟨hv_k, Sz437⟩ := Sp.zat2 (k := k) (pcs_get hlt_k2) S436
             obtain ⟨qk, hqk⟩ : ∃ q, q = qs[k] := ⟨_, rfl⟩
             have S438 : Sp R w436 (SA.per qk m.fMaintainers[k] :: SA.zips SA.per (qs.take k) ((pcs m.fMaintainers k).take k) :: SA.zips SA.per (qs.drop (k + 1)) ((pcs m.fMaintainers k).drop (k + 1)) :: SA.own0 (.slice A2 m.fKeywords.length c2) 9 1 m.fKeywords.length (strs (cleansF m.fKeywords)) :: SA.own0 (.slice A1 m.fSources.length c1) 9 1 m.fSources.length (strs (cleansF m.fSources)) :: SA.blk gm 237 #[.string (cleanF m.fName), .string (cleanF m.fHome), .slice (A1) (m.fSources.length) (c1), .string m.fVersion, .string (cleanF m.fDescription), .slice (A2) (m.fKeywords.length) (c2), .slice (A3) (qs.length) (c3), .string (cleanF m.fIcon), .string m.fAPIVersion, .string (cleanF m.fCondition), .string (cleanF m.fTags), .string (cleanF m.fAppVersion), .bool false, .map none, .string (cleanF m.fKubeVersion), .slice (A4) (us.length) (c4), .string m.fType] :: SA.own (.slice A3 qs.length c3) 238 1 qs.length (pps qs) :: SA.own (.slice A4 us.length c4) 240 1 us.length (pps us) :: SA.zips SA.dep us m.fDependencies :: L) := by rw [hqk]; exact Sz437
             obtain ⟨ad439, hA439⟩ := (own_sl1 (S438.ow 6 rfl) (by omega)).addr (by simp [pps]; omega)
             refine wp_seq_k fun K440 hK440 => ?_
             refine wp_region_lit ?_
             refine op_q F436 (.bool (decide ((↑k : Int) < ↑qs.length))) ?_; intro a441 F441
             have F442 := F441.sb 188 (by kernel_rfl) hc_k
             refine wpList_nil ?_
             refine hK440 _ _ ?_; clear hK440 K440
             refine wp_seq_k fun K443 hK443 => ?_
             refine wp_cond_true (F442.ev (by kernel_rfl)) ?_
             refine wp_skip ?_
             refine hK443 _ _ ?_; clear hK443 K443
             refine wp_seq_k fun K444 hK444 => ?_
             refine wp_block ?_
             refine wp_seq_k fun K445 hK445 => ?_
             refine wp_region_lit ?_
             refine op_rq (v := .pointer (some (ad439.add k))) F442 (r_ix rfl Try.underlying233 1 (by kernel_rfl) (F442.e (.slice (A3) (qs.length) (c3))) hA439 (F442.e (.int .i64 (↑k))) k (by first | rfl | omega | simp) (by first | omega | (simp; done) | (simp; omega)) (by simp only [Nat.mul_one])) ?_; intro a446 F446
             refine op_rq (v := .pointer qk) F446 (r_ld rfl (F446.e (.pointer (some (ad439.add k)))) (v := .pointer qk) ((own_sl1 (S438.ow 6 rfl) (by omega)).elA hA439 (j := k) (by rw [hqk]; simp [pps, List.getElem?_eq_getElem hlt_k])) Try.underlying238 rfl) ?_; intro a447 F447
             refine op_q F447 (.pointer qk) ?_; intro a448 F448
             refine wpList_nil ?_
             refine hK445 _ _ ?_; clear hK445 K445
             refine wp_seq_k fun K449 hK449 => ?_
             rcases Sp.per_open S438 with ⟨hdn, hun, Sd450⟩ | ⟨hdn, gp, hun, Sd450⟩
             ·subst hun
              have S451 : Sp R w436 (SA.zips SA.per (qs.take k) ((pcs m.fMaintainers k).take k) :: SA.zips SA.per (qs.drop (k + 1)) ((pcs m.fMaintainers k).drop (k + 1)) :: SA.own0 (.slice A2 m.fKeywords.length c2) 9 1 m.fKeywords.length (strs (cleansF m.fKeywords)) :: SA.own0 (.slice A1 m.fSources.length c1) 9 1 m.fSources.length (strs (cleansF m.fSources)) :: SA.blk gm 237 #[.string (cleanF m.fName), .string (cleanF m.fHome), .slice (A1) (m.fSources.length) (c1), .string m.fVersion, .string (cleanF m.fDescription), .slice (A2) (m.fKeywords.length) (c2), .slice (A3) (qs.length) (c3), .string (cleanF m.fIcon), .string m.fAPIVersion, .string (cleanF m.fCondition), .string (cleanF m.fTags), .string (cleanF m.fAppVersion), .bool false, .map none, .string (cleanF m.fKubeVersion), .slice (A4) (us.length) (c4), .string m.fType] :: SA.own (.slice A3 qs.length c3) 238 1 qs.length (pps qs) :: SA.own (.slice A4 us.length c4) 240 1 us.length (pps us) :: SA.zips SA.dep us m.fDependencies :: L) := Sd450
              refine wp_region_lit ?_
              refine op_q F448 (.pointer none) ?_; intro a452 F452
              refine op_cq F452 (f := 179) (args := #[.pointer none]) (persVal_nil2  _ _ _ S451 ) ?_
              rintro _ w453 ⟨s453, rfl, S453, hp0_453⟩
              refine ⟨_, rfl, ?_⟩
              intro a454 F454
              refine op_q F454 (verV true s453) ?_; intro a455 F455
              refine wpList_nil ?_
              refine hK449 _ _ ?_; clear hK449 K449
              refine wp_seq_k fun K456 hK456 => ?_
              refine wp_region_lit ?_
              refine op_q F455 (verV true s453) ?_; intro a457 F457
              refine op_rq (v := .bool true) F457 (r_verne rfl (F457.e (verV true s453))) ?_; intro a458 F458
              refine wpList_nil ?_
              refine hK456 _ _ ?_; clear hK456 K456
              refine wp_cond_true (F458.ev (by kernel_rfl)) ?_
              refine wp_seq_k fun K459 hK459 => ?_
              refine wp_region_lit ?_
              refine op_q F458 (verV true s453) ?_; intro a460 F460
              refine op_q F460 (verV true s453) ?_; intro a461 F461
              refine wpList_nil ?_
              refine hK459 _ _ ?_; clear hK459 K459
              refine wp_ret ?_
              refine ret_in ?_
              refine ret_then ?_
              refine ret_then ?_
              refine ret_in ?_
              refine ret_then ?_
              have S462 : Sp R w453 (SA.per none m.fMaintainers[k] :: SA.zips SA.per (qs.take k) ((pcs m.fMaintainers k).take k) :: SA.zips SA.per (qs.drop (k + 1)) ((pcs m.fMaintainers k).drop (k + 1)) :: SA.own0 (.slice A2 m.fKeywords.length c2) 9 1 m.fKeywords.length (strs (cleansF m.fKeywords)) :: SA.own0 (.slice A1 m.fSources.length c1) 9 1 m.fSources.length (strs (cleansF m.fSources)) :: SA.blk gm 237 #[.string (cleanF m.fName), .string (cleanF m.fHome), .slice (A1) (m.fSources.length) (c1), .string m.fVersion, .string (cleanF m.fDescription), .slice (A2) (m.fKeywords.length) (c2), .slice (A3) (qs.length) (c3), .string (cleanF m.fIcon), .string m.fAPIVersion, .string (cleanF m.fCondition), .string (cleanF m.fTags), .string (cleanF m.fAppVersion), .bool false, .map none, .string (cleanF m.fKubeVersion), .slice (A4) (us.length) (c4), .string m.fType] :: SA.own (.slice A3 qs.length c3) 238 1 qs.length (pps qs) :: SA.own (.slice A4 us.length c4) 240 1 us.length (pps us) :: SA.zips SA.dep us m.fDependencies :: L) := Sp.per_nil hdn S453
              have S463 : Sp R w453 (SA.zips SA.per qs ((pcs m.fMaintainers k).set k m.fMaintainers[k]) :: SA.own0 (.slice A2 m.fKeywords.length c2) 9 1 m.fKeywords.length (strs (cleansF m.fKeywords)) :: SA.own0 (.slice A1 m.fSources.length c1) 9 1 m.fSources.length (strs (cleansF m.fSources)) :: SA.blk gm 237 #[.string (cleanF m.fName), .string (cleanF m.fHome), .slice (A1) (m.fSources.length) (c1), .string m.fVersion, .string (cleanF m.fDescription), .slice (A2) (m.fKeywords.length) (c2), .slice (A3) (qs.length) (c3), .string (cleanF m.fIcon), .string m.fAPIVersion, .string (cleanF m.fCondition), .string (cleanF m.fTags), .string (cleanF m.fAppVersion), .bool false, .map none, .string (cleanF m.fKubeVersion), .slice (A4) (us.length) (c4), .string m.fType] :: SA.own (.slice A3 qs.length c3) 238 1 qs.length (pps qs) :: SA.own (.slice A4 us.length c4) 240 1 us.length (pps us) :: SA.zips SA.dep us m.fDependencies :: L) := Sp.zset2 (f := SA.per) (vs := qs) (xs := pcs m.fMaintainers k) (x := m.fMaintainers[k]) (k := k) (by rw [pcs_len]; omega) hv_k (by rw [← hqk]; exact S462.p2.p2.p2)
              have hwf : whatF m = 7 := what_7 hw1 hlt_k2 hdn
              have S464 : Sp R w453 (SA.zips SA.per qs ((pcs m.fMaintainers k).set k m.fMaintainers[k]) :: SA.own0 (.slice A2 m.fKeywords.length c2) 9 1 m.fKeywords.length (strs (cleansF m.fKeywords)) :: SA.own0 (.slice A1 m.fSources.length c1) 9 1 m.fSources.length (strs (cleansF m.fSources)) :: SA.blk gm 237 #[.string (cleanF m.fName), .string (cleanF m.fHome), .slice (A1) (m.fSources.length) (c1), .string m.fVersion, .string (cleanF m.fDescription), .slice (A2) (m.fKeywords.length) (c2), .slice (A3) (qs.length) (c3), .string (cleanF m.fIcon), .string m.fAPIVersion, .string (cleanF m.fCondition), .string (cleanF m.fTags), .string (cleanF m.fAppVersion), .bool false, .map none, .string (cleanF m.fKubeVersion), .slice (A4) (us.length) (c4), .string m.fType] :: SA.own (.slice A3 qs.length c3) 238 1 qs.length (pps qs) :: SA.own (.slice A4 us.length c4) 240 1 us.length (pps us) :: SA.zips SA.dep us m.fDependencies :: L) := S463
              have S465 : Sp R w453 (SA.met gm { cln8 m with fMaintainers := (pcs m.fMaintainers k).set k m.fMaintainers[k] } :: L) := met_of (m2 := { cln8 m with fMaintainers := (pcs m.fMaintainers k).set k m.fMaintainers[k] }) S464.p6.p6.p2.p6.p4.p5.p6 (cleansF_len m.fSources) (cleansF_len m.fKeywords)
              refine (F461.res1 rfl (v := verV true s453) (by kernel_rfl) ?_).1
              exact ⟨{ cln8 m with fMaintainers := (pcs m.fMaintainers k).set k m.fMaintainers[k] }, true, s453, rfl, S465, ⟨by rw [hwf]; first | done | exact rfl, fun h => by rw [hwf] at h ⊢; first | done | rfl | exact absurd rfl h, fun h => by first | (exfalso; omega) | rfl, fun h1 h2 => by first | (exfalso; omega) | rfl, hp0_453, (lens_of (m := m) (m2 := { cln8 m with fMaintainers := (pcs m.fMaintainers k).set k m.fMaintainers[k] }) hm1 hm2 hm3 hm4 hm5 rfl rfl (by show ((pcs m.fMaintainers k).set k m.fMaintainers[k]).length = _; rw [List.length_set, pcs_len]) rfl (fun d hd => ⟨d, hd, rfl⟩))⟩⟩
             ·subst hun
              have S466 : Sp R w436 (SA.blk gp 270 #[.string m.fMaintainers[k].fName, .string m.fMaintainers[k].fEmail, .string m.fMaintainers[k].fURL] :: SA.zips SA.per (qs.take k) ((pcs m.fMaintainers k).take k) :: SA.zips SA.per (qs.drop (k + 1)) ((pcs m.fMaintainers k).drop (k + 1)) :: SA.own0 (.slice A2 m.fKeywords.length c2) 9 1 m.fKeywords.length (strs (cleansF m.fKeywords)) :: SA.own0 (.slice A1 m.fSources.length c1) 9 1 m.fSources.length (strs (cleansF m.fSources)) :: SA.blk gm 237 #[.string (cleanF m.fName), .string (cleanF m.fHome), .slice (A1) (m.fSources.length) (c1), .string m.fVersion, .string (cleanF m.fDescription), .slice (A2) (m.fKeywords.length) (c2), .slice (A3) (qs.length) (c3), .string (cleanF m.fIcon), .string m.fAPIVersion, .string (cleanF m.fCondition), .string (cleanF m.fTags), .string (cleanF m.fAppVersion), .bool false, .map none, .string (cleanF m.fKubeVersion), .slice (A4) (us.length) (c4), .string m.fType] :: SA.own (.slice A3 qs.length c3) 238 1 qs.length (pps qs) :: SA.own (.slice A4 us.length c4) 240 1 us.length (pps us) :: SA.zips SA.dep us m.fDependencies :: L) := Sd450
              refine wp_region_lit ?_
              refine op_q F448 (.pointer (some ⟨gp, 0, none⟩)) ?_; intro a467 F467
              refine op_cq F467 (f := 179) (args := #[.pointer (some ⟨gp, 0, none⟩)]) (persVal_some2 m.fMaintainers[k] gp _ _ _ S466 (by first | omega | (simp; done) | (simp; omega)) (by first | omega | (simp; done) | (simp; omega)) (by first | omega | (simp; done) | (simp; omega)) (by assumption) (by assumption) (by assumption)) ?_
              rintro _ w468 ⟨rfl, S468⟩
              refine ⟨_, rfl, ?_⟩
              intro a469 F469
              refine op_q F469 (.nilIface) ?_; intro a470 F470
              refine wpList_nil ?_
              refine hK449 _ _ ?_; clear hK449 K449
              refine wp_seq_k fun K471 hK471 => ?_
              refine wp_region_lit ?_
              refine op_q F470 (.nilIface) ?_; intro a472 F472
              refine op_q F472 (.bool false) ?_; intro a473 F473
              refine wpList_nil ?_
              refine hK471 _ _ ?_; clear hK471 K471
              refine wp_cond_false (F473.ev (by kernel_rfl)) ?_
              refine wp_skip ?_
              refine hK444 _ _ ?_; clear hK444 K444
              refine wp_region_lit ?_
              refine op_rq (v := .int .i64 (↑(k + 1))) F473 (r_add (z := ↑(k + 1)) rfl (F473.e (.int .i64 (↑k))) (F473.e (.int .i64 1)) (wr64 (by omega) (by omega) (by omega))) ?_; intro a474 F474
              refine op_q F474 (.int .i64 (↑(k + 1))) ?_; intro a475 F475
              refine wpList_nil ?_
              have S476 : Sp R w468 (SA.per (some ⟨gp, 0, none⟩) (perC m.fMaintainers[k]) :: SA.zips SA.per (qs.take k) ((pcs m.fMaintainers k).take k) :: SA.zips SA.per (qs.drop (k + 1)) ((pcs m.fMaintainers k).drop (k + 1)) :: SA.own0 (.slice A2 m.fKeywords.length c2) 9 1 m.fKeywords.length (strs (cleansF m.fKeywords)) :: SA.own0 (.slice A1 m.fSources.length c1) 9 1 m.fSources.length (strs (cleansF m.fSources)) :: SA.blk gm 237 #[.string (cleanF m.fName), .string (cleanF m.fHome), .slice (A1) (m.fSources.length) (c1), .string m.fVersion, .string (cleanF m.fDescription), .slice (A2) (m.fKeywords.length) (c2), .slice (A3) (qs.length) (c3), .string (cleanF m.fIcon), .string m.fAPIVersion, .string (cleanF m.fCondition), .string (cleanF m.fTags), .string (cleanF m.fAppVersion), .bool false, .map none, .string (cleanF m.fKubeVersion), .slice (A4) (us.length) (c4), .string m.fType] :: SA.own (.slice A3 qs.length c3) 238 1 qs.length (pps qs) :: SA.own (.slice A4 us.length c4) 240 1 us.length (pps us) :: SA.zips SA.dep us m.fDependencies :: L) := Sp.per_some (p := perC m.fMaintainers[k]) hdn S468
              have S477 : Sp R w468 (SA.zips SA.per qs (pcs m.fMaintainers (k + 1)) :: SA.own0 (.slice A2 m.fKeywords.length c2) 9 1 m.fKeywords.length (strs (cleansF m.fKeywords)) :: SA.own0 (.slice A1 m.fSources.length c1) 9 1 m.fSources.length (strs (cleansF m.fSources)) :: SA.blk gm 237 #[.string (cleanF m.fName), .string (cleanF m.fHome), .slice (A1) (m.fSources.length) (c1), .string m.fVersion, .string (cleanF m.fDescription), .slice (A2) (m.fKeywords.length) (c2), .slice (A3) (qs.length) (c3), .string (cleanF m.fIcon), .string m.fAPIVersion, .string (cleanF m.fCondition), .string (cleanF m.fTags), .string (cleanF m.fAppVersion), .bool false, .map none, .string (cleanF m.fKubeVersion), .slice (A4) (us.length) (c4), .string m.fType] :: SA.own (.slice A3 qs.length c3) 238 1 qs.length (pps qs) :: SA.own (.slice A4 us.length c4) 240 1 us.length (pps us) :: SA.zips SA.dep us m.fDependencies :: L) := by have := Sp.zset2 (f := SA.per) (vs := qs) (xs := pcs m.fMaintainers k) (x := (perC m.fMaintainers[k])) (k := k) (by rw [pcs_len]; omega) hv_k (by rw [← hqk]; exact S476.p2.p2.p2); rw [pcs_set hlt_k2] at this; exact this
              exact hK436 _ _ _ (by first | omega | (simp; omega)) ⟨k + 1, rfl, (F475.kk 0 (F475.kk 185 (F475.kk 186 (F475.kk 187 F475.nil)))), S477.p6.p6.p6.p6.p6.p6.p6, (by first | omega | (with_reducible assumption) | (simp; done)), (fun i hi h => (Nat.lt_succ_iff_lt_or_eq.1 h).elim (hpn i hi) (fun e => by subst e; exact hdn))⟩
            ·have hc_k : decide ((↑k : Int) < ↑qs.length) = false := by first | (simp; done) | (simp; omega)
             obtain rfl : k = qs.length := by omega
             have hpa : ∀ p ∈ m.fMaintainers, p.fNil = false := fun p hp => by obtain ⟨i, hi, rfl⟩ := List.mem_iff_getElem.1 hp; exact hpn i hi (by omega)
             have S478 : Sp R w436 (SA.zips SA.per qs (m.fMaintainers.map perC) :: SA.own0 (.slice A2 m.fKeywords.length c2) 9 1 m.fKeywords.length (strs (cleansF m.fKeywords)) :: SA.own0 (.slice A1 m.fSources.length c1) 9 1 m.fSources.length (strs (cleansF m.fSources)) :: SA.blk gm 237 #[.string (cleanF m.fName), .string (cleanF m.fHome), .slice (A1) (m.fSources.length) (c1), .string m.fVersion, .string (cleanF m.fDescription), .slice (A2) (m.fKeywords.length) (c2), .slice (A3) (qs.length) (c3), .string (cleanF m.fIcon), .string m.fAPIVersion, .string (cleanF m.fCondition), .string (cleanF m.fTags), .string (cleanF m.fAppVersion), .bool false, .map none, .string (cleanF m.fKubeVersion), .slice (A4) (us.length) (c4), .string m.fType] :: SA.own (.slice A3 qs.length c3) 238 1 qs.length (pps qs) :: SA.own (.slice A4 us.length c4) 240 1 us.length (pps us) :: SA.zips SA.dep us m.fDependencies :: L) := by have := S436; rw [show pcs m.fMaintainers qs.length = m.fMaintainers.map perC by rw [hql]; exact pcs_all] at this; exact this
             refine wp_seq_k fun K479 hK479 => ?_
             refine wp_region_lit ?_
             refine op_q F436 (.bool (decide ((↑qs.length : Int) < ↑qs.length))) ?_; intro a480 F480
             have F481 := F480.sb 188 (by kernel_rfl) hc_k
             refine wpList_nil ?_
             refine hK479 _ _ ?_; clear hK479 K479
             refine wp_seq_k fun K482 hK482 => ?_
             refine wp_cond_false (F481.ev (by kernel_rfl)) ?_
             refine wp_exit ?_
             refine ex_then ?_; clear hK482 K482
             refine ex_then ?_
             refine ex_in ?_
             refine hK427 _ _ ?_; clear hK427 K427
             refine wp_seq_k fun K483 hK483 => ?_
             refine wp_region_lit ?_
             refine op_sq F481 (s_mkmap rfl 9 S478) ?_
             rintro _ _ w485 ⟨g483, rfl, rfl⟩ S485 a485 F485
             refine op_q F485 (.map (some g483)) ?_; intro a486 F486
             refine wpList_nil ?_
             refine hK483 _ _ ?_; clear hK483 K483
             refine wp_seq_k fun K487 hK487 => ?_
             refine wp_seq_k fun K488 hK488 => ?_
             refine wp_region_lit ?_
             refine op_q F486 (.pointer (some ⟨gm, 0, none⟩)) ?_; intro a489 F489
             refine op_q F489 (.pointer (some ⟨gm, 0, none⟩)) ?_; intro a490 F490
             refine op_q F490 (.pointer (some ⟨gm, 15, none⟩)) ?_; intro a491 F491
             refine op_rq (v := .slice (A4) (us.length) (c4)) F491 (r_ld rfl (F491.e (.pointer (some ⟨gm, 15, none⟩))) (v := .slice (A4) (us.length) (c4)) ((S485.bk 4 rfl).cell 15) Try.underlying235 rfl) ?_; intro a492 F492
             refine op_q F492 (.int .i64 (↑us.length)) ?_; intro a493 F493
             refine op_q F493 (.int .i64 0) ?_; intro a494 F494
             refine wpList_nil ?_
             refine hK488 _ _ ?_; clear hK488 K488
             refine wp_block ?_
             have S495 : Sp R w485 (SA.zips SA.dep us (dvs m.fDependencies 0) :: SA.mpo Try.prog 9 g483 0 (fun _ => none) :: SA.zips SA.per qs (m.fMaintainers.map perC) :: SA.own0 (.slice A2 m.fKeywords.length c2) 9 1 m.fKeywords.length (strs (cleansF m.fKeywords)) :: SA.own0 (.slice A1 m.fSources.length c1) 9 1 m.fSources.length (strs (cleansF m.fSources)) :: SA.blk gm 237 #[.string (cleanF m.fName), .string (cleanF m.fHome), .slice (A1) (m.fSources.length) (c1), .string m.fVersion, .string (cleanF m.fDescription), .slice (A2) (m.fKeywords.length) (c2), .slice (A3) (qs.length) (c3), .string (cleanF m.fIcon), .string m.fAPIVersion, .string (cleanF m.fCondition), .string (cleanF m.fTags), .string (cleanF m.fAppVersion), .bool false, .map none, .string (cleanF m.fKubeVersion), .slice (A4) (us.length) (c4), .string m.fType] :: SA.own (.slice A3 qs.length c3) 238 1 qs.length (pps qs) :: SA.own (.slice A4 us.length c4) 240 1 us.length (pps us) :: L) := S485.p7
             refine fw_loop (fun m' a' w' => ∃ f : ByteArray → Option Value, ∃ nn : Nat, ∃ met : List ByteArray, ∃ j : Nat, us.length - j = m' ∧ Fr 234 [] a' [(8, .map (some g483)), (201, .slice (A4) (us.length) (c4)), (202, .int .i64 (↑us.length)), (203, .int .i64 (↑j))] ∧ Sp R w' (SA.mpo Try.prog 9 g483 nn f :: SA.zips SA.dep us (dvs m.fDependencies j) :: SA.zips SA.per qs (m.fMaintainers.map perC) :: SA.own0 (.slice A2 m.fKeywords.length c2) 9 1 m.fKeywords.length (strs (cleansF m.fKeywords)) :: SA.own0 (.slice A1 m.fSources.length c1) 9 1 m.fSources.length (strs (cleansF m.fSources)) :: SA.blk gm 237 #[.string (cleanF m.fName), .string (cleanF m.fHome), .slice (A1) (m.fSources.length) (c1), .string m.fVersion, .string (cleanF m.fDescription), .slice (A2) (m.fKeywords.length) (c2), .slice (A3) (qs.length) (c3), .string (cleanF m.fIcon), .string m.fAPIVersion, .string (cleanF m.fCondition), .string (cleanF m.fTags), .string (cleanF m.fAppVersion), .bool false, .map none, .string (cleanF m.fKubeVersion), .slice (A4) (us.length) (c4), .string m.fType] :: SA.own (.slice A3 qs.length c3) 238 1 qs.length (pps qs) :: SA.own (.slice A4 us.length c4) 240 1 us.length (pps us) :: L) ∧ (j ≤ us.length) ∧ (nn ≤ j) ∧ (MapR f met) ∧ (whatD m.fDependencies [] = whatD (m.fDependencies.drop j) met)) _ ⟨(fun _ => none), 0, [], 0, rfl, (F494.kk 8 (F494.kk 201 (F494.kk 202 (F494.kk 203 F494.nil)))), S495.p7.p7.p7.p7.p7.p7.p6.p7, (by first | omega | (with_reducible assumption) | (simp; done)), (by first | omega | (with_reducible assumption) | (simp; done)), mapR_0, rfl⟩ ?_
             rintro m496 a496 w496 ⟨f, nn, met, j, hm496, F496, S496, hj, hnn, hf, hwh⟩ K496 hK496
             by_cases hlt_j : j < us.length
             ·have hc_j : decide ((↑j : Int) < ↑us.length) = true := by first | (simp; done) | (simp; omega)
              have hlt_j2 : j < m.fDependencies.length := by omega
              obtain ⟨⟨hq1, hq2, hq3, hq4, hq5⟩, hx, hxn⟩ := hzD _ (List.getElem_mem hlt_j2)
              obtain ⟨⟨hqa1, hqa2, hqa3, hqa4⟩, hxa⟩ := haD _ (List.getElem_mem hlt_j2)
              obtain ⟨hv_j, Sz497⟩ := Sp.zat2 (k := j) (dvs_get hlt_j2) S496.p1
              obtain ⟨uj, huj⟩ : ∃ q, q = us[j] := ⟨_, rfl⟩
              have S498 : Sp R w496 (SA.dep uj m.fDependencies[j] :: SA.zips SA.dep (us.take j) ((dvs m.fDependencies j).take j) :: SA.zips SA.dep (us.drop (j + 1)) ((dvs m.fDependencies j).drop (j + 1)) :: SA.mpo Try.prog 9 g483 nn f :: SA.zips SA.per qs (m.fMaintainers.map perC) :: SA.own0 (.slice A2 m.fKeywords.length c2) 9 1 m.fKeywords.length (strs (cleansF m.fKeywords)) :: SA.own0 (.slice A1 m.fSources.length c1) 9 1 m.fSources.length (strs (cleansF m.fSources)) :: SA.blk gm 237 #[.string (cleanF m.fName), .string (cleanF m.fHome), .slice (A1) (m.fSources.length) (c1), .string m.fVersion, .string (cleanF m.fDescription), .slice (A2) (m.fKeywords.length) (c2), .slice (A3) (qs.length) (c3), .string (cleanF m.fIcon), .string m.fAPIVersion, .string (cleanF m.fCondition), .string (cleanF m.fTags), .string (cleanF m.fAppVersion), .bool false, .map none, .string (cleanF m.fKubeVersion), .slice (A4) (us.length) (c4), .string m.fType] :: SA.own (.slice A3 qs.length c3) 238 1 qs.length (pps qs) :: SA.own (.slice A4 us.length c4) 240 1 us.length (pps us) :: L) := by rw [huj]; exact Sz497
              obtain ⟨ad499, hA499⟩ := (own_sl1 (S498.ow 9 rfl) (by omega)).addr (by simp [pps]; omega)
              refine wp_seq_k fun K500 hK500 => ?_
              refine wp_region_lit ?_
              refine op_q F496 (.bool (decide ((↑j : Int) < ↑us.length))) ?_; intro a501 F501
              have F502 := F501.sb 204 (by kernel_rfl) hc_j
              refine wpList_nil ?_
              refine hK500 _ _ ?_; clear hK500 K500
              refine wp_seq_k fun K503 hK503 => ?_
              refine wp_cond_true (F502.ev (by kernel_rfl)) ?_
              refine wp_skip ?_
              refine hK503 _ _ ?_; clear hK503 K503
              refine wp_seq_k fun K504 hK504 => ?_
              refine wp_block ?_
              refine wp_seq_k fun K505 hK505 => ?_
              refine wp_region_lit ?_
              refine op_rq (v := .pointer (some (ad499.add j))) F502 (r_ix rfl Try.underlying235 1 (by kernel_rfl) (F502.e (.slice (A4) (us.length) (c4))) hA499 (F502.e (.int .i64 (↑j))) j (by first | rfl | omega | simp) (by first | omega | (simp; done) | (simp; omega)) (by simp only [Nat.mul_one])) ?_; intro a506 F506
              refine op_rq (v := .pointer uj) F506 (r_ld rfl (F506.e (.pointer (some (ad499.add j)))) (v := .pointer uj) ((own_sl1 (S498.ow 9 rfl) (by omega)).elA hA499 (j := j) (by rw [huj]; simp [pps, List.getElem?_eq_getElem hlt_j])) Try.underlying240 rfl) ?_; intro a507 F507
              refine op_q F507 (.pointer uj) ?_; intro a508 F508
              refine wpList_nil ?_
              refine hK505 _ _ ?_; clear hK505 K505
              refine wp_seq_k fun K509 hK509 => ?_
              refine wp_seq_k fun K510 hK510 => ?_
              rcases Sp.dep_open S498 with ⟨hdn, hun, Sd511⟩ | ⟨hdn, gd, Ad, cd, hun, Sd511⟩
              ·subst hun
               have S512 : Sp R w496 (SA.zips SA.dep (us.take j) ((dvs m.fDependencies j).take j) :: SA.zips SA.dep (us.drop (j + 1)) ((dvs m.fDependencies j).drop (j + 1)) :: SA.mpo Try.prog 9 g483 nn f :: SA.zips SA.per qs (m.fMaintainers.map perC) :: SA.own0 (.slice A2 m.fKeywords.length c2) 9 1 m.fKeywords.length (strs (cleansF m.fKeywords)) :: SA.own0 (.slice A1 m.fSources.length c1) 9 1 m.fSources.length (strs (cleansF m.fSources)) :: SA.blk gm 237 #[.string (cleanF m.fName), .string (cleanF m.fHome), .slice (A1) (m.fSources.length) (c1), .string m.fVersion, .string (cleanF m.fDescription), .slice (A2) (m.fKeywords.length) (c2), .slice (A3) (qs.length) (c3), .string (cleanF m.fIcon), .string m.fAPIVersion, .string (cleanF m.fCondition), .string (cleanF m.fTags), .string (cleanF m.fAppVersion), .bool false, .map none, .string (cleanF m.fKubeVersion), .slice (A4) (us.length) (c4), .string m.fType] :: SA.own (.slice A3 qs.length c3) 238 1 qs.length (pps qs) :: SA.own (.slice A4 us.length c4) 240 1 us.length (pps us) :: L) := Sd511
               refine wp_region_lit ?_
               refine op_q F508 (.pointer none) ?_; intro a513 F513
               refine op_cq F513 (f := 180) (args := #[.pointer none]) (depVal_nil2  _ _ _ S512 ) ?_
               rintro _ w514 ⟨s514, rfl, S514, hp0_514⟩
               refine ⟨_, rfl, ?_⟩
               intro a515 F515
               refine op_q F515 (verV true s514) ?_; intro a516 F516
               refine wpList_nil ?_
               refine hK510 _ _ ?_; clear hK510 K510
               refine wp_seq_k fun K517 hK517 => ?_
               refine wp_region_lit ?_
               refine op_q F516 (verV true s514) ?_; intro a518 F518
               refine op_rq (v := .bool true) F518 (r_verne rfl (F518.e (verV true s514))) ?_; intro a519 F519
               refine wpList_nil ?_
               refine hK517 _ _ ?_; clear hK517 K517
               refine wp_cond_true (F519.ev (by kernel_rfl)) ?_
               refine wp_seq_k fun K520 hK520 => ?_
               refine wp_region_lit ?_
               refine op_q F519 (verV true s514) ?_; intro a521 F521
               refine op_q F521 (verV true s514) ?_; intro a522 F522
               refine wpList_nil ?_
               refine hK520 _ _ ?_; clear hK520 K520
               refine wp_ret ?_
               refine ret_then ?_
               refine ret_in ?_
               refine ret_then ?_
               refine ret_then ?_
               refine ret_in ?_
               refine ret_then ?_
               have S523 : Sp R w514 (SA.dep none m.fDependencies[j] :: SA.zips SA.dep (us.take j) ((dvs m.fDependencies j).take j) :: SA.zips SA.dep (us.drop (j + 1)) ((dvs m.fDependencies j).drop (j + 1)) :: SA.mpo Try.prog 9 g483 nn f :: SA.zips SA.per qs (m.fMaintainers.map perC) :: SA.own0 (.slice A2 m.fKeywords.length c2) 9 1 m.fKeywords.length (strs (cleansF m.fKeywords)) :: SA.own0 (.slice A1 m.fSources.length c1) 9 1 m.fSources.length (strs (cleansF m.fSources)) :: SA.blk gm 237 #[.string (cleanF m.fName), .string (cleanF m.fHome), .slice (A1) (m.fSources.length) (c1), .string m.fVersion, .string (cleanF m.fDescription), .slice (A2) (m.fKeywords.length) (c2), .slice (A3) (qs.length) (c3), .string (cleanF m.fIcon), .string m.fAPIVersion, .string (cleanF m.fCondition), .string (cleanF m.fTags), .string (cleanF m.fAppVersion), .bool false, .map none, .string (cleanF m.fKubeVersion), .slice (A4) (us.length) (c4), .string m.fType] :: SA.own (.slice A3 qs.length c3) 238 1 qs.length (pps qs) :: SA.own (.slice A4 us.length c4) 240 1 us.length (pps us) :: L) := Sp.dep_nil hdn S514
               have S524 : Sp R w514 (SA.zips SA.dep us ((dvs m.fDependencies j).set j m.fDependencies[j]) :: SA.mpo Try.prog 9 g483 nn f :: SA.zips SA.per qs (m.fMaintainers.map perC) :: SA.own0 (.slice A2 m.fKeywords.length c2) 9 1 m.fKeywords.length (strs (cleansF m.fKeywords)) :: SA.own0 (.slice A1 m.fSources.length c1) 9 1 m.fSources.length (strs (cleansF m.fSources)) :: SA.blk gm 237 #[.string (cleanF m.fName), .string (cleanF m.fHome), .slice (A1) (m.fSources.length) (c1), .string m.fVersion, .string (cleanF m.fDescription), .slice (A2) (m.fKeywords.length) (c2), .slice (A3) (qs.length) (c3), .string (cleanF m.fIcon), .string m.fAPIVersion, .string (cleanF m.fCondition), .string (cleanF m.fTags), .string (cleanF m.fAppVersion), .bool false, .map none, .string (cleanF m.fKubeVersion), .slice (A4) (us.length) (c4), .string m.fType] :: SA.own (.slice A3 qs.length c3) 238 1 qs.length (pps qs) :: SA.own (.slice A4 us.length c4) 240 1 us.length (pps us) :: L) := Sp.zset2 (f := SA.dep) (vs := us) (xs := dvs m.fDependencies j) (x := m.fDependencies[j]) (k := j) (by rw [dvs_len]; omega) hv_j (by rw [← huj]; exact S523.p2.p2.p2)
               have hwf : whatF m = 8 := (what_D hw1 hpa).trans (hwh.trans (whatD_8 hlt_j2 (by rw [hdn]; rfl)))
               have S525 : Sp R w514 (SA.zips SA.dep us ((dvs m.fDependencies j).set j m.fDependencies[j]) :: SA.mpo Try.prog 9 g483 nn f :: SA.zips SA.per qs (m.fMaintainers.map perC) :: SA.own0 (.slice A2 m.fKeywords.length c2) 9 1 m.fKeywords.length (strs (cleansF m.fKeywords)) :: SA.own0 (.slice A1 m.fSources.length c1) 9 1 m.fSources.length (strs (cleansF m.fSources)) :: SA.blk gm 237 #[.string (cleanF m.fName), .string (cleanF m.fHome), .slice (A1) (m.fSources.length) (c1), .string m.fVersion, .string (cleanF m.fDescription), .slice (A2) (m.fKeywords.length) (c2), .slice (A3) (qs.length) (c3), .string (cleanF m.fIcon), .string m.fAPIVersion, .string (cleanF m.fCondition), .string (cleanF m.fTags), .string (cleanF m.fAppVersion), .bool false, .map none, .string (cleanF m.fKubeVersion), .slice (A4) (us.length) (c4), .string m.fType] :: SA.own (.slice A3 qs.length c3) 238 1 qs.length (pps qs) :: SA.own (.slice A4 us.length c4) 240 1 us.length (pps us) :: L) := S524
               have S526 : Sp R w514 (SA.met gm { cln8 m with fMaintainers := m.fMaintainers.map perC, fDependencies := (dvs m.fDependencies j).set j m.fDependencies[j] } :: SA.mpo Try.prog 9 g483 nn f :: L) := met_of (m2 := { cln8 m with fMaintainers := m.fMaintainers.map perC, fDependencies := (dvs m.fDependencies j).set j m.fDependencies[j] }) S525.p7.p3.p7.p5.p6.p7 (cleansF_len m.fSources) (cleansF_len m.fKeywords)
               refine (F522.res1 rfl (v := verV true s514) (by kernel_rfl) ?_).1
               exact ⟨{ cln8 m with fMaintainers := m.fMaintainers.map perC, fDependencies := (dvs m.fDependencies j).set j m.fDependencies[j] }, true, s514, rfl, S526.p1.drop, ⟨by rw [hwf]; first | done | exact rfl, fun h => by rw [hwf] at h ⊢; first | done | rfl | exact absurd rfl h, fun h => by first | (exfalso; omega) | rfl, fun h1 h2 => by first | (exfalso; omega) | rfl, hp0_514, (lens_of (m := m) (m2 := { cln8 m with fMaintainers := m.fMaintainers.map perC, fDependencies := (dvs m.fDependencies j).set j m.fDependencies[j] }) hm1 hm2 hm3 hm4 hm5 rfl rfl (List.length_map _) (by show ((dvs m.fDependencies j).set j m.fDependencies[j]).length = _; rw [List.length_set, dvs_len]) (dvs_tags2 hlt_j2))⟩⟩
              ·subst hun
               have S527 : Sp R w496 (SA.blk gd 262 #[.string m.fDependencies[j].fName, .string m.fDependencies[j].fVersion, .string m.fDependencies[j].fRepository, .string m.fDependencies[j].fCondition, .slice Ad m.fDependencies[j].fTags.length cd, .bool false, .slice none 0 0, .string m.fDependencies[j].fAlias] :: SA.own0 (.slice Ad m.fDependencies[j].fTags.length cd) 9 1 m.fDependencies[j].fTags.length (strs m.fDependencies[j].fTags) :: SA.zips SA.dep (us.take j) ((dvs m.fDependencies j).take j) :: SA.zips SA.dep (us.drop (j + 1)) ((dvs m.fDependencies j).drop (j + 1)) :: SA.mpo Try.prog 9 g483 nn f :: SA.zips SA.per qs (m.fMaintainers.map perC) :: SA.own0 (.slice A2 m.fKeywords.length c2) 9 1 m.fKeywords.length (strs (cleansF m.fKeywords)) :: SA.own0 (.slice A1 m.fSources.length c1) 9 1 m.fSources.length (strs (cleansF m.fSources)) :: SA.blk gm 237 #[.string (cleanF m.fName), .string (cleanF m.fHome), .slice (A1) (m.fSources.length) (c1), .string m.fVersion, .string (cleanF m.fDescription), .slice (A2) (m.fKeywords.length) (c2), .slice (A3) (qs.length) (c3), .string (cleanF m.fIcon), .string m.fAPIVersion, .string (cleanF m.fCondition), .string (cleanF m.fTags), .string (cleanF m.fAppVersion), .bool false, .map none, .string (cleanF m.fKubeVersion), .slice (A4) (us.length) (c4), .string m.fType] :: SA.own (.slice A3 qs.length c3) 238 1 qs.length (pps qs) :: SA.own (.slice A4 us.length c4) 240 1 us.length (pps us) :: L) := Sd511
               refine wp_region_lit ?_
               refine op_q F508 (.pointer (some ⟨gd, 0, none⟩)) ?_; intro a528 F528
               refine op_cq F528 (f := 180) (args := #[.pointer (some ⟨gd, 0, none⟩)]) (depVal_some2 m.fDependencies[j] gd Ad cd _ _ _ ((S527.p1).p1) (by first | omega | (simp; done) | (simp; omega)) (by first | omega | (simp; done) | (simp; omega)) (by first | omega | (simp; done) | (simp; omega)) (by first | omega | (simp; done) | (simp; omega)) (by first | omega | (simp; done) | (simp; omega)) (by assumption) (by assumption) (by assumption) (by assumption) hx hxa (by first | omega | (simp; done) | (simp; omega))) ?_
               rintro _ w529 ⟨b529, s529, rfl, S529, hp0_529, hp1_529⟩
               refine ⟨_, rfl, ?_⟩
               intro a530 F530
               refine op_q F530 (verV b529 s529) ?_; intro a531 F531
               refine wpList_nil ?_
               refine hK510 _ _ ?_; clear hK510 K510
               refine wp_seq_k fun K532 hK532 => ?_
               refine wp_region_lit ?_
               refine op_q F531 (verV b529 s529) ?_; intro a533 F533
               refine op_rq (v := .bool b529) F533 (r_verne rfl (F533.e (verV b529 s529))) ?_; intro a534 F534
               refine wpList_nil ?_
               refine hK532 _ _ ?_; clear hK532 K532
               rcases btf (b529) with hc535 | hc535
               ·have hno8 : (m.fDependencies[j].fNil || !aliasF m.fDependencies[j].fAlias) = true := by rw [← hp0_529, hc535]; simp
                have F536 := F534.sb 210 (by kernel_rfl) hc535
                refine wp_cond_true (F536.ev (by kernel_rfl)) ?_
                refine wp_seq_k fun K537 hK537 => ?_
                refine wp_region_lit ?_
                refine op_q F536 (verV b529 s529) ?_; intro a538 F538
                refine op_q F538 (verV b529 s529) ?_; intro a539 F539
                refine wpList_nil ?_
                refine hK537 _ _ ?_; clear hK537 K537
                refine wp_ret ?_
                refine ret_then ?_
                refine ret_in ?_
                refine ret_then ?_
                refine ret_then ?_
                refine ret_in ?_
                refine ret_then ?_
                have S540 : Sp R w529 (SA.dep (some ⟨gd, 0, none⟩) (depC m.fDependencies[j] none 0) :: SA.zips SA.dep (us.take j) ((dvs m.fDependencies j).take j) :: SA.zips SA.dep (us.drop (j + 1)) ((dvs m.fDependencies j).drop (j + 1)) :: SA.mpo Try.prog 9 g483 nn f :: SA.zips SA.per qs (m.fMaintainers.map perC) :: SA.own0 (.slice A2 m.fKeywords.length c2) 9 1 m.fKeywords.length (strs (cleansF m.fKeywords)) :: SA.own0 (.slice A1 m.fSources.length c1) 9 1 m.fSources.length (strs (cleansF m.fSources)) :: SA.blk gm 237 #[.string (cleanF m.fName), .string (cleanF m.fHome), .slice (A1) (m.fSources.length) (c1), .string m.fVersion, .string (cleanF m.fDescription), .slice (A2) (m.fKeywords.length) (c2), .slice (A3) (qs.length) (c3), .string (cleanF m.fIcon), .string m.fAPIVersion, .string (cleanF m.fCondition), .string (cleanF m.fTags), .string (cleanF m.fAppVersion), .bool false, .map none, .string (cleanF m.fKubeVersion), .slice (A4) (us.length) (c4), .string m.fType] :: SA.own (.slice A3 qs.length c3) 238 1 qs.length (pps qs) :: SA.own (.slice A4 us.length c4) 240 1 us.length (pps us) :: L) := Sp.dep_clean hdn S529.p1.p1
                have S541 : Sp R w529 (SA.zips SA.dep us (dvs m.fDependencies (j + 1)) :: SA.mpo Try.prog 9 g483 nn f :: SA.zips SA.per qs (m.fMaintainers.map perC) :: SA.own0 (.slice A2 m.fKeywords.length c2) 9 1 m.fKeywords.length (strs (cleansF m.fKeywords)) :: SA.own0 (.slice A1 m.fSources.length c1) 9 1 m.fSources.length (strs (cleansF m.fSources)) :: SA.blk gm 237 #[.string (cleanF m.fName), .string (cleanF m.fHome), .slice (A1) (m.fSources.length) (c1), .string m.fVersion, .string (cleanF m.fDescription), .slice (A2) (m.fKeywords.length) (c2), .slice (A3) (qs.length) (c3), .string (cleanF m.fIcon), .string m.fAPIVersion, .string (cleanF m.fCondition), .string (cleanF m.fTags), .string (cleanF m.fAppVersion), .bool false, .map none, .string (cleanF m.fKubeVersion), .slice (A4) (us.length) (c4), .string m.fType] :: SA.own (.slice A3 qs.length c3) 238 1 qs.length (pps qs) :: SA.own (.slice A4 us.length c4) 240 1 us.length (pps us) :: L) := by have := Sp.zset2 (f := SA.dep) (vs := us) (xs := dvs m.fDependencies j) (x := (depC m.fDependencies[j] none 0)) (k := j) (by rw [dvs_len]; omega) hv_j (by rw [← huj]; exact S540.p2.p2.p2); rw [dvs_set hlt_j2] at this; exact this
                have hwf : whatF m = 8 := (what_D hw1 hpa).trans (hwh.trans (whatD_8 hlt_j2 hno8))
                have S542 : Sp R w529 (SA.zips SA.dep us (dvs m.fDependencies (j + 1)) :: SA.mpo Try.prog 9 g483 nn f :: SA.zips SA.per qs (m.fMaintainers.map perC) :: SA.own0 (.slice A2 m.fKeywords.length c2) 9 1 m.fKeywords.length (strs (cleansF m.fKeywords)) :: SA.own0 (.slice A1 m.fSources.length c1) 9 1 m.fSources.length (strs (cleansF m.fSources)) :: SA.blk gm 237 #[.string (cleanF m.fName), .string (cleanF m.fHome), .slice (A1) (m.fSources.length) (c1), .string m.fVersion, .string (cleanF m.fDescription), .slice (A2) (m.fKeywords.length) (c2), .slice (A3) (qs.length) (c3), .string (cleanF m.fIcon), .string m.fAPIVersion, .string (cleanF m.fCondition), .string (cleanF m.fTags), .string (cleanF m.fAppVersion), .bool false, .map none, .string (cleanF m.fKubeVersion), .slice (A4) (us.length) (c4), .string m.fType] :: SA.own (.slice A3 qs.length c3) 238 1 qs.length (pps qs) :: SA.own (.slice A4 us.length c4) 240 1 us.length (pps us) :: L) := S541
                have S543 : Sp R w529 (SA.met gm { cln8 m with fMaintainers := m.fMaintainers.map perC, fDependencies := dvs m.fDependencies (j + 1) } :: SA.mpo Try.prog 9 g483 nn f :: L) := met_of (m2 := { cln8 m with fMaintainers := m.fMaintainers.map perC, fDependencies := dvs m.fDependencies (j + 1) }) S542.p7.p3.p7.p5.p6.p7 (cleansF_len m.fSources) (cleansF_len m.fKeywords)
                refine (F539.res1 rfl (v := verV b529 s529) (by kernel_rfl) ?_).1
                exact ⟨{ cln8 m with fMaintainers := m.fMaintainers.map perC, fDependencies := dvs m.fDependencies (j + 1) }, b529, s529, rfl, S543.p1.drop, ⟨by rw [hwf]; first | done | exact hc535, fun h => by rw [hwf] at h ⊢; first | done | rfl | exact absurd rfl h, fun h => by first | (exfalso; omega) | rfl, fun h1 h2 => by first | (exfalso; omega) | rfl, hp1_529, (lens_of (m := m) (m2 := { cln8 m with fMaintainers := m.fMaintainers.map perC, fDependencies := dvs m.fDependencies (j + 1) }) hm1 hm2 hm3 hm4 hm5 rfl rfl (List.length_map _) dvs_len dvs_tags)⟩⟩
               ·have hok : (m.fDependencies[j].fNil || !aliasF m.fDependencies[j].fAlias) = false := by rw [← hp0_529, hc535, hdn]; rfl
                have F544 := F534.sb 210 (by kernel_rfl) hc535
                refine wp_cond_false (F544.ev (by kernel_rfl)) ?_
                refine wp_skip ?_
                refine hK509 _ _ ?_; clear hK509 K509
                refine wp_seq_k fun K545 hK545 => ?_
                refine wp_region_lit ?_
                refine op_q F544 (.pointer (some ⟨gd, 0, none⟩)) ?_; intro a546 F546
                refine op_q F546 (.pointer (some ⟨gd, 0, none⟩)) ?_; intro a547 F547
                refine op_q F547 (.pointer (some ⟨gd, 0, none⟩)) ?_; intro a548 F548
                refine op_rq (v := .string (cleanF m.fDependencies[j].fName)) F548 (r_ld rfl (F548.e (.pointer (some ⟨gd, 0, none⟩))) (v := .string (cleanF m.fDependencies[j].fName)) ((S529.bk 0 rfl).cell 0) Try.underlying9 rfl) ?_; intro a549 F549
                refine op_q F549 (.string (cleanF m.fDependencies[j].fName)) ?_; intro a550 F550
                refine wpList_nil ?_
                refine hK545 _ _ ?_; clear hK545 K545
                refine wp_seq_k fun K551 hK551 => ?_
                refine wp_seq_k fun K552 hK552 => ?_
                refine wp_region_lit ?_
                refine op_q F550 (.pointer (some ⟨gd, 0, none⟩)) ?_; intro a553 F553
                refine op_q F553 (.pointer (some ⟨gd, 0, none⟩)) ?_; intro a554 F554
                refine op_q F554 (.pointer (some ⟨gd, 7, none⟩)) ?_; intro a555 F555
                refine op_rq (v := .string m.fDependencies[j].fAlias) F555 (r_ld rfl (F555.e (.pointer (some ⟨gd, 7, none⟩))) (v := .string m.fDependencies[j].fAlias) ((S529.bk 0 rfl).cell 7) Try.underlying9 rfl) ?_; intro a556 F556
                refine op_q F556 (.bool (!(m.fDependencies[j].fAlias.toList == (⟨#[]⟩ : ByteArray).toList))) ?_; intro a557 F557
                refine wpList_nil ?_
                refine hK552 _ _ ?_; clear hK552 K552
                rcases btf (m.fDependencies[j].fAlias.toList == (⟨#[]⟩ : ByteArray).toList) with hc558 | hc558
                ·have hkey : keyF m.fDependencies[j] = cleanF m.fDependencies[j].fName := by unfold keyF; rw [hc558]; rfl
                 have F559 := F557.sb 220 (by kernel_rfl) (show (!(m.fDependencies[j].fAlias.toList == (⟨#[]⟩ : ByteArray).toList)) = false by rw [hc558]; rfl)
                 refine wp_cond_false (F559.ev (by kernel_rfl)) ?_
                 refine wp_skip ?_
                 refine hK551 _ _ ?_; clear hK551 K551
                 refine wp_seq_k fun K560 hK560 => ?_
                 refine wp_seq_k fun K561 hK561 => ?_
                 rcases btf (met.any fun s => s.toList == (keyF m.fDependencies[j]).toList) with hc562 | hc562
                 ·skip
                  have hany := hc562
                  rw [hkey] at hany
                  obtain ⟨gx, hgx⟩ := (hf _).2 hany
                  refine wp_region_lit ?_
                  refine op_q F559 (.map (some g483)) ?_; intro a563 F563
                  refine op_q F563 (.string (cleanF m.fDependencies[j].fName)) ?_; intro a564 F564
                  refine op_rq (v := .pointer (some ⟨gx, 0, none⟩)) F564 (r_mlook (z := .pointer none) rfl Try.underlying9 Try.underlying259 (by kernel_rfl) (F564.e (.map (some g483))) (F564.e (.string (cleanF m.fDependencies[j].fName))) (S529.mpa 4 rfl) (by simp only [maxLen]; have := cleanF_le m.fDependencies[j].fName; omega) (by rw [hgx]; rfl)) ?_; intro a565 F565
                  refine op_q F565 (.bool true) ?_; intro a566 F566
                  refine wpList_nil ?_
                  refine hK561 _ _ ?_; clear hK561 K561
                  refine wp_cond_true (F566.ev (by kernel_rfl)) ?_
                  refine wp_seq_k fun K567 hK567 => ?_
                  refine wp_region_lit ?_
                  refine op_q F566 (.iface 258 (.string ⟨zq37⟩)) ?_; intro a568 F568
                  refine op_q F568 (.iface 258 (.string ⟨zq37⟩)) ?_; intro a569 F569
                  refine wpList_nil ?_
                  refine hK567 _ _ ?_; clear hK567 K567
                  refine wp_ret ?_
                  refine ret_then ?_
                  refine ret_in ?_
                  refine ret_then ?_
                  refine ret_then ?_
                  refine ret_in ?_
                  refine ret_then ?_
                  have S570 : Sp R w529 (SA.dep (some ⟨gd, 0, none⟩) (depC m.fDependencies[j] none 0) :: SA.zips SA.dep (us.take j) ((dvs m.fDependencies j).take j) :: SA.zips SA.dep (us.drop (j + 1)) ((dvs m.fDependencies j).drop (j + 1)) :: SA.mpo Try.prog 9 g483 nn f :: SA.zips SA.per qs (m.fMaintainers.map perC) :: SA.own0 (.slice A2 m.fKeywords.length c2) 9 1 m.fKeywords.length (strs (cleansF m.fKeywords)) :: SA.own0 (.slice A1 m.fSources.length c1) 9 1 m.fSources.length (strs (cleansF m.fSources)) :: SA.blk gm 237 #[.string (cleanF m.fName), .string (cleanF m.fHome), .slice (A1) (m.fSources.length) (c1), .string m.fVersion, .string (cleanF m.fDescription), .slice (A2) (m.fKeywords.length) (c2), .slice (A3) (qs.length) (c3), .string (cleanF m.fIcon), .string m.fAPIVersion, .string (cleanF m.fCondition), .string (cleanF m.fTags), .string (cleanF m.fAppVersion), .bool false, .map none, .string (cleanF m.fKubeVersion), .slice (A4) (us.length) (c4), .string m.fType] :: SA.own (.slice A3 qs.length c3) 238 1 qs.length (pps qs) :: SA.own (.slice A4 us.length c4) 240 1 us.length (pps us) :: L) := Sp.dep_clean hdn S529.p1.p1
                  have S571 : Sp R w529 (SA.zips SA.dep us (dvs m.fDependencies (j + 1)) :: SA.mpo Try.prog 9 g483 nn f :: SA.zips SA.per qs (m.fMaintainers.map perC) :: SA.own0 (.slice A2 m.fKeywords.length c2) 9 1 m.fKeywords.length (strs (cleansF m.fKeywords)) :: SA.own0 (.slice A1 m.fSources.length c1) 9 1 m.fSources.length (strs (cleansF m.fSources)) :: SA.blk gm 237 #[.string (cleanF m.fName), .string (cleanF m.fHome), .slice (A1) (m.fSources.length) (c1), .string m.fVersion, .string (cleanF m.fDescription), .slice (A2) (m.fKeywords.length) (c2), .slice (A3) (qs.length) (c3), .string (cleanF m.fIcon), .string m.fAPIVersion, .string (cleanF m.fCondition), .string (cleanF m.fTags), .string (cleanF m.fAppVersion), .bool false, .map none, .string (cleanF m.fKubeVersion), .slice (A4) (us.length) (c4), .string m.fType] :: SA.own (.slice A3 qs.length c3) 238 1 qs.length (pps qs) :: SA.own (.slice A4 us.length c4) 240 1 us.length (pps us) :: L) := by have := Sp.zset2 (f := SA.dep) (vs := us) (xs := dvs m.fDependencies j) (x := (depC m.fDependencies[j] none 0)) (k := j) (by rw [dvs_len]; omega) hv_j (by rw [← huj]; exact S570.p2.p2.p2); rw [dvs_set hlt_j2] at this; exact this
                  have hwf : whatF m = 9 := (what_D hw1 hpa).trans (hwh.trans (whatD_9b hlt_j2 hok hc562))
                  have S572 : Sp R w529 (SA.zips SA.dep us (dvs m.fDependencies (j + 1)) :: SA.mpo Try.prog 9 g483 nn f :: SA.zips SA.per qs (m.fMaintainers.map perC) :: SA.own0 (.slice A2 m.fKeywords.length c2) 9 1 m.fKeywords.length (strs (cleansF m.fKeywords)) :: SA.own0 (.slice A1 m.fSources.length c1) 9 1 m.fSources.length (strs (cleansF m.fSources)) :: SA.blk gm 237 #[.string (cleanF m.fName), .string (cleanF m.fHome), .slice (A1) (m.fSources.length) (c1), .string m.fVersion, .string (cleanF m.fDescription), .slice (A2) (m.fKeywords.length) (c2), .slice (A3) (qs.length) (c3), .string (cleanF m.fIcon), .string m.fAPIVersion, .string (cleanF m.fCondition), .string (cleanF m.fTags), .string (cleanF m.fAppVersion), .bool false, .map none, .string (cleanF m.fKubeVersion), .slice (A4) (us.length) (c4), .string m.fType] :: SA.own (.slice A3 qs.length c3) 238 1 qs.length (pps qs) :: SA.own (.slice A4 us.length c4) 240 1 us.length (pps us) :: L) := S571
                  have S573 : Sp R w529 (SA.met gm { cln8 m with fMaintainers := m.fMaintainers.map perC, fDependencies := dvs m.fDependencies (j + 1) } :: SA.mpo Try.prog 9 g483 nn f :: L) := met_of (m2 := { cln8 m with fMaintainers := m.fMaintainers.map perC, fDependencies := dvs m.fDependencies (j + 1) }) S572.p7.p3.p7.p5.p6.p7 (cleansF_len m.fSources) (cleansF_len m.fKeywords)
                  refine (F569.res1 rfl (v := .iface 258 (.string ⟨zq37⟩)) (by kernel_rfl) ?_).1
                  exact ⟨{ cln8 m with fMaintainers := m.fMaintainers.map perC, fDependencies := dvs m.fDependencies (j + 1) }, true, (⟨zq37⟩ : ByteArray), rfl, S573.p1.drop, ⟨by rw [hwf]; first | done | exact rfl, fun h => by rw [hwf] at h ⊢; first | done | rfl | exact absurd rfl h, fun h => by first | (exfalso; omega) | rfl, fun h1 h2 => by first | (exfalso; omega) | rfl, (by decide), (lens_of (m := m) (m2 := { cln8 m with fMaintainers := m.fMaintainers.map perC, fDependencies := dvs m.fDependencies (j + 1) }) hm1 hm2 hm3 hm4 hm5 rfl rfl (List.length_map _) dvs_len dvs_tags)⟩⟩
                 ·skip
                  have hany := hc562
                  rw [hkey] at hany
                  have hfx := (hf _).1 hany
                  refine wp_region_lit ?_
                  refine op_q F559 (.map (some g483)) ?_; intro a574 F574
                  refine op_q F574 (.string (cleanF m.fDependencies[j].fName)) ?_; intro a575 F575
                  refine op_rq (v := .pointer none) F575 (r_mlook (z := .pointer none) rfl Try.underlying9 Try.underlying259 (by kernel_rfl) (F575.e (.map (some g483))) (F575.e (.string (cleanF m.fDependencies[j].fName))) (S529.mpa 4 rfl) (by simp only [maxLen]; have := cleanF_le m.fDependencies[j].fName; omega) (by rw [hfx]; rfl)) ?_; intro a576 F576
                  refine op_q F576 (.bool false) ?_; intro a577 F577
                  refine wpList_nil ?_
                  refine hK561 _ _ ?_; clear hK561 K561
                  refine wp_cond_false (F577.ev (by kernel_rfl)) ?_
                  refine wp_skip ?_
                  refine hK560 _ _ ?_; clear hK560 K560
                  refine wp_region_lit ?_
                  refine op_q F577 (.map (some g483)) ?_; intro a578 F578
                  refine op_q F578 (.string (cleanF m.fDependencies[j].fName)) ?_; intro a579 F579
                  refine op_q F579 (.pointer (some ⟨gd, 0, none⟩)) ?_; intro a580 F580
                  refine op_sq0 F580 (s_mput rfl Try.underlying9 Try.underlying259 (F580.e (.map (some g483))) (F580.e (.string (cleanF m.fDependencies[j].fName))) (F580.e (.pointer (some ⟨gd, 0, none⟩))) S529.p4 (by simp only [maxLen]; omega) (by simp only [maxLen]; have := cleanF_le m.fDependencies[j].fName; omega)) ?_
                  rintro _ _ w581 rfl S581 F581
                  refine wpList_nil ?_
                  refine hK504 _ _ ?_; clear hK504 K504
                  refine wp_region_lit ?_
                  refine op_rq (v := .int .i64 (↑(j + 1))) F581 (r_add (z := ↑(j + 1)) rfl (F581.e (.int .i64 (↑j))) (F581.e (.int .i64 1)) (wr64 (by omega) (by omega) (by omega))) ?_; intro a582 F582
                  refine op_q F582 (.int .i64 (↑(j + 1))) ?_; intro a583 F583
                  refine wpList_nil ?_
                  have S584 : Sp R w581 (SA.dep (some ⟨gd, 0, none⟩) (depC m.fDependencies[j] none 0) :: SA.mpo Try.prog 9 g483 (nn + 1) (fput f (cleanF m.fDependencies[j].fName) (Value.pointer (some ⟨gd, 0, none⟩))) :: SA.zips SA.dep (us.take j) ((dvs m.fDependencies j).take j) :: SA.zips SA.dep (us.drop (j + 1)) ((dvs m.fDependencies j).drop (j + 1)) :: SA.zips SA.per qs (m.fMaintainers.map perC) :: SA.own0 (.slice A2 m.fKeywords.length c2) 9 1 m.fKeywords.length (strs (cleansF m.fKeywords)) :: SA.own0 (.slice A1 m.fSources.length c1) 9 1 m.fSources.length (strs (cleansF m.fSources)) :: SA.blk gm 237 #[.string (cleanF m.fName), .string (cleanF m.fHome), .slice (A1) (m.fSources.length) (c1), .string m.fVersion, .string (cleanF m.fDescription), .slice (A2) (m.fKeywords.length) (c2), .slice (A3) (qs.length) (c3), .string (cleanF m.fIcon), .string m.fAPIVersion, .string (cleanF m.fCondition), .string (cleanF m.fTags), .string (cleanF m.fAppVersion), .bool false, .map none, .string (cleanF m.fKubeVersion), .slice (A4) (us.length) (c4), .string m.fType] :: SA.own (.slice A3 qs.length c3) 238 1 qs.length (pps qs) :: SA.own (.slice A4 us.length c4) 240 1 us.length (pps us) :: L) := Sp.dep_clean hdn S581.p2.p2
                  have S585 : Sp R w581 (SA.zips SA.dep us (dvs m.fDependencies (j + 1)) :: SA.mpo Try.prog 9 g483 (nn + 1) (fput f (cleanF m.fDependencies[j].fName) (Value.pointer (some ⟨gd, 0, none⟩))) :: SA.zips SA.per qs (m.fMaintainers.map perC) :: SA.own0 (.slice A2 m.fKeywords.length c2) 9 1 m.fKeywords.length (strs (cleansF m.fKeywords)) :: SA.own0 (.slice A1 m.fSources.length c1) 9 1 m.fSources.length (strs (cleansF m.fSources)) :: SA.blk gm 237 #[.string (cleanF m.fName), .string (cleanF m.fHome), .slice (A1) (m.fSources.length) (c1), .string m.fVersion, .string (cleanF m.fDescription), .slice (A2) (m.fKeywords.length) (c2), .slice (A3) (qs.length) (c3), .string (cleanF m.fIcon), .string m.fAPIVersion, .string (cleanF m.fCondition), .string (cleanF m.fTags), .string (cleanF m.fAppVersion), .bool false, .map none, .string (cleanF m.fKubeVersion), .slice (A4) (us.length) (c4), .string m.fType] :: SA.own (.slice A3 qs.length c3) 238 1 qs.length (pps qs) :: SA.own (.slice A4 us.length c4) 240 1 us.length (pps us) :: L) := by have := Sp.zset2 (f := SA.dep) (vs := us) (xs := dvs m.fDependencies j) (x := (depC m.fDependencies[j] none 0)) (k := j) (by rw [dvs_len]; omega) hv_j (by rw [← huj]; exact S584.p3.p3.p2); rw [dvs_set hlt_j2] at this; exact this
                  exact hK496 _ _ _ (by first | omega | (simp; omega)) ⟨(fput f (cleanF m.fDependencies[j].fName) (Value.pointer (some ⟨gd, 0, none⟩))), nn + 1, met ++ [cleanF m.fDependencies[j].fName], j + 1, rfl, (F583.kk 8 (F583.kk 201 (F583.kk 202 (F583.kk 203 F583.nil)))), S585.p7.p7.p7.p7.p7.p7.p6.p7, (by first | omega | (with_reducible assumption) | (simp; done)), (by first | omega | (with_reducible assumption) | (simp; done)), (mapR_put hf), (by rw [hwh, whatD_nb hlt_j2 hok hc562, hkey])⟩
                ·have hkey : keyF m.fDependencies[j] = m.fDependencies[j].fAlias := by unfold keyF; rw [hc558]; rfl
                 have F586 := F557.sb 220 (by kernel_rfl) (show (!(m.fDependencies[j].fAlias.toList == (⟨#[]⟩ : ByteArray).toList)) = true by rw [hc558]; rfl)
                 refine wp_cond_true (F586.ev (by kernel_rfl)) ?_
                 refine wp_region_lit ?_
                 refine op_q F586 (.pointer (some ⟨gd, 0, none⟩)) ?_; intro a587 F587
                 refine op_q F587 (.pointer (some ⟨gd, 0, none⟩)) ?_; intro a588 F588
                 refine op_q F588 (.pointer (some ⟨gd, 7, none⟩)) ?_; intro a589 F589
                 refine op_rq (v := .string m.fDependencies[j].fAlias) F589 (r_ld rfl (F589.e (.pointer (some ⟨gd, 7, none⟩))) (v := .string m.fDependencies[j].fAlias) ((S529.bk 0 rfl).cell 7) Try.underlying9 rfl) ?_; intro a590 F590
                 refine op_q F590 (.string m.fDependencies[j].fAlias) ?_; intro a591 F591
                 refine wpList_nil ?_
                 refine hK551 _ _ ?_; clear hK551 K551
                 refine wp_seq_k fun K592 hK592 => ?_
                 refine wp_seq_k fun K593 hK593 => ?_
                 rcases btf (met.any fun s => s.toList == (keyF m.fDependencies[j]).toList) with hc594 | hc594
                 ·skip
                  have hany := hc594
                  rw [hkey] at hany
                  obtain ⟨gx, hgx⟩ := (hf _).2 hany
                  refine wp_region_lit ?_
                  refine op_q F591 (.map (some g483)) ?_; intro a595 F595
                  refine op_q F595 (.string m.fDependencies[j].fAlias) ?_; intro a596 F596
                  refine op_rq (v := .pointer (some ⟨gx, 0, none⟩)) F596 (r_mlook (z := .pointer none) rfl Try.underlying9 Try.underlying259 (by kernel_rfl) (F596.e (.map (some g483))) (F596.e (.string m.fDependencies[j].fAlias)) (S529.mpa 4 rfl) (by simp only [maxLen]; have := cleanF_le m.fDependencies[j].fName; omega) (by rw [hgx]; rfl)) ?_; intro a597 F597
                  refine op_q F597 (.bool true) ?_; intro a598 F598
                  refine wpList_nil ?_
                  refine hK593 _ _ ?_; clear hK593 K593
                  refine wp_cond_true (F598.ev (by kernel_rfl)) ?_
                  refine wp_seq_k fun K599 hK599 => ?_
                  refine wp_region_lit ?_
                  refine op_q F598 (.iface 258 (.string ⟨zq37⟩)) ?_; intro a600 F600
                  refine op_q F600 (.iface 258 (.string ⟨zq37⟩)) ?_; intro a601 F601
                  refine wpList_nil ?_
                  refine hK599 _ _ ?_; clear hK599 K599
                  refine wp_ret ?_
                  refine ret_then ?_
                  refine ret_in ?_
                  refine ret_then ?_
                  refine ret_then ?_
                  refine ret_in ?_
                  refine ret_then ?_
                  have S602 : Sp R w529 (SA.dep (some ⟨gd, 0, none⟩) (depC m.fDependencies[j] none 0) :: SA.zips SA.dep (us.take j) ((dvs m.fDependencies j).take j) :: SA.zips SA.dep (us.drop (j + 1)) ((dvs m.fDependencies j).drop (j + 1)) :: SA.mpo Try.prog 9 g483 nn f :: SA.zips SA.per qs (m.fMaintainers.map perC) :: SA.own0 (.slice A2 m.fKeywords.length c2) 9 1 m.fKeywords.length (strs (cleansF m.fKeywords)) :: SA.own0 (.slice A1 m.fSources.length c1) 9 1 m.fSources.length (strs (cleansF m.fSources)) :: SA.blk gm 237 #[.string (cleanF m.fName), .string (cleanF m.fHome), .slice (A1) (m.fSources.length) (c1), .string m.fVersion, .string (cleanF m.fDescription), .slice (A2) (m.fKeywords.length) (c2), .slice (A3) (qs.length) (c3), .string (cleanF m.fIcon), .string m.fAPIVersion, .string (cleanF m.fCondition), .string (cleanF m.fTags), .string (cleanF m.fAppVersion), .bool false, .map none, .string (cleanF m.fKubeVersion), .slice (A4) (us.length) (c4), .string m.fType] :: SA.own (.slice A3 qs.length c3) 238 1 qs.length (pps qs) :: SA.own (.slice A4 us.length c4) 240 1 us.length (pps us) :: L) := Sp.dep_clean hdn S529.p1.p1
                  have S603 : Sp R w529 (SA.zips SA.dep us (dvs m.fDependencies (j + 1)) :: SA.mpo Try.prog 9 g483 nn f :: SA.zips SA.per qs (m.fMaintainers.map perC) :: SA.own0 (.slice A2 m.fKeywords.length c2) 9 1 m.fKeywords.length (strs (cleansF m.fKeywords)) :: SA.own0 (.slice A1 m.fSources.length c1) 9 1 m.fSources.length (strs (cleansF m.fSources)) :: SA.blk gm 237 #[.string (cleanF m.fName), .string (cleanF m.fHome), .slice (A1) (m.fSources.length) (c1), .string m.fVersion, .string (cleanF m.fDescription), .slice (A2) (m.fKeywords.length) (c2), .slice (A3) (qs.length) (c3), .string (cleanF m.fIcon), .string m.fAPIVersion, .string (cleanF m.fCondition), .string (cleanF m.fTags), .string (cleanF m.fAppVersion), .bool false, .map none, .string (cleanF m.fKubeVersion), .slice (A4) (us.length) (c4), .string m.fType] :: SA.own (.slice A3 qs.length c3) 238 1 qs.length (pps qs) :: SA.own (.slice A4 us.length c4) 240 1 us.length (pps us) :: L) := by have := Sp.zset2 (f := SA.dep) (vs := us) (xs := dvs m.fDependencies j) (x := (depC m.fDependencies[j] none 0)) (k := j) (by rw [dvs_len]; omega) hv_j (by rw [← huj]; exact S602.p2.p2.p2); rw [dvs_set hlt_j2] at this; exact this
                  have hwf : whatF m = 9 := (what_D hw1 hpa).trans (hwh.trans (whatD_9b hlt_j2 hok hc594))
                  have S604 : Sp R w529 (SA.zips SA.dep us (dvs m.fDependencies (j + 1)) :: SA.mpo Try.prog 9 g483 nn f :: SA.zips SA.per qs (m.fMaintainers.map perC) :: SA.own0 (.slice A2 m.fKeywords.length c2) 9 1 m.fKeywords.length (strs (cleansF m.fKeywords)) :: SA.own0 (.slice A1 m.fSources.length c1) 9 1 m.fSources.length (strs (cleansF m.fSources)) :: SA.blk gm 237 #[.string (cleanF m.fName), .string (cleanF m.fHome), .slice (A1) (m.fSources.length) (c1), .string m.fVersion, .string (cleanF m.fDescription), .slice (A2) (m.fKeywords.length) (c2), .slice (A3) (qs.length) (c3), .string (cleanF m.fIcon), .string m.fAPIVersion, .string (cleanF m.fCondition), .string (cleanF m.fTags), .string (cleanF m.fAppVersion), .bool false, .map none, .string (cleanF m.fKubeVersion), .slice (A4) (us.length) (c4), .string m.fType] :: SA.own (.slice A3 qs.length c3) 238 1 qs.length (pps qs) :: SA.own (.slice A4 us.length c4) 240 1 us.length (pps us) :: L) := S603
                  have S605 : Sp R w529 (SA.met gm { cln8 m with fMaintainers := m.fMaintainers.map perC, fDependencies := dvs m.fDependencies (j + 1) } :: SA.mpo Try.prog 9 g483 nn f :: L) := met_of (m2 := { cln8 m with fMaintainers := m.fMaintainers.map perC, fDependencies := dvs m.fDependencies (j + 1) }) S604.p7.p3.p7.p5.p6.p7 (cleansF_len m.fSources) (cleansF_len m.fKeywords)
                  refine (F601.res1 rfl (v := .iface 258 (.string ⟨zq37⟩)) (by kernel_rfl) ?_).1
                  exact ⟨{ cln8 m with fMaintainers := m.fMaintainers.map perC, fDependencies := dvs m.fDependencies (j + 1) }, true, (⟨zq37⟩ : ByteArray), rfl, S605.p1.drop, ⟨by rw [hwf]; first | done | exact rfl, fun h => by rw [hwf] at h ⊢; first | done | rfl | exact absurd rfl h, fun h => by first | (exfalso; omega) | rfl, fun h1 h2 => by first | (exfalso; omega) | rfl, (by decide), (lens_of (m := m) (m2 := { cln8 m with fMaintainers := m.fMaintainers.map perC, fDependencies := dvs m.fDependencies (j + 1) }) hm1 hm2 hm3 hm4 hm5 rfl rfl (List.length_map _) dvs_len dvs_tags)⟩⟩
                 ·skip
                  have hany := hc594
                  rw [hkey] at hany
                  have hfx := (hf _).1 hany
                  refine wp_region_lit ?_
                  refine op_q F591 (.map (some g483)) ?_; intro a606 F606
                  refine op_q F606 (.string m.fDependencies[j].fAlias) ?_; intro a607 F607
                  refine op_rq (v := .pointer none) F607 (r_mlook (z := .pointer none) rfl Try.underlying9 Try.underlying259 (by kernel_rfl) (F607.e (.map (some g483))) (F607.e (.string m.fDependencies[j].fAlias)) (S529.mpa 4 rfl) (by simp only [maxLen]; have := cleanF_le m.fDependencies[j].fName; omega) (by rw [hfx]; rfl)) ?_; intro a608 F608
                  refine op_q F608 (.bool false) ?_; intro a609 F609
                  refine wpList_nil ?_
                  refine hK593 _ _ ?_; clear hK593 K593
                  refine wp_cond_false (F609.ev (by kernel_rfl)) ?_
                  refine wp_skip ?_
                  refine hK592 _ _ ?_; clear hK592 K592
                  refine wp_region_lit ?_
                  refine op_q F609 (.map (some g483)) ?_; intro a610 F610
                  refine op_q F610 (.string m.fDependencies[j].fAlias) ?_; intro a611 F611
                  refine op_q F611 (.pointer (some ⟨gd, 0, none⟩)) ?_; intro a612 F612
                  refine op_sq0 F612 (s_mput rfl Try.underlying9 Try.underlying259 (F612.e (.map (some g483))) (F612.e (.string m.fDependencies[j].fAlias)) (F612.e (.pointer (some ⟨gd, 0, none⟩))) S529.p4 (by simp only [maxLen]; omega) (by simp only [maxLen]; have := cleanF_le m.fDependencies[j].fName; omega)) ?_
                  rintro _ _ w613 rfl S613 F613
                  refine wpList_nil ?_
                  refine hK504 _ _ ?_; clear hK504 K504
                  refine wp_region_lit ?_
                  refine op_rq (v := .int .i64 (↑(j + 1))) F613 (r_add (z := ↑(j + 1)) rfl (F613.e (.int .i64 (↑j))) (F613.e (.int .i64 1)) (wr64 (by omega) (by omega) (by omega))) ?_; intro a614 F614
                  refine op_q F614 (.int .i64 (↑(j + 1))) ?_; intro a615 F615
                  refine wpList_nil ?_
                  have S616 : Sp R w613 (SA.dep (some ⟨gd, 0, none⟩) (depC m.fDependencies[j] none 0) :: SA.mpo Try.prog 9 g483 (nn + 1) (fput f m.fDependencies[j].fAlias (Value.pointer (some ⟨gd, 0, none⟩))) :: SA.zips SA.dep (us.take j) ((dvs m.fDependencies j).take j) :: SA.zips SA.dep (us.drop (j + 1)) ((dvs m.fDependencies j).drop (j + 1)) :: SA.zips SA.per qs (m.fMaintainers.map perC) :: SA.own0 (.slice A2 m.fKeywords.length c2) 9 1 m.fKeywords.length (strs (cleansF m.fKeywords)) :: SA.own0 (.slice A1 m.fSources.length c1) 9 1 m.fSources.length (strs (cleansF m.fSources)) :: SA.blk gm 237 #[.string (cleanF m.fName), .string (cleanF m.fHome), .slice (A1) (m.fSources.length) (c1), .string m.fVersion, .string (cleanF m.fDescription), .slice (A2) (m.fKeywords.length) (c2), .slice (A3) (qs.length) (c3), .string (cleanF m.fIcon), .string m.fAPIVersion, .string (cleanF m.fCondition), .string (cleanF m.fTags), .string (cleanF m.fAppVersion), .bool false, .map none, .string (cleanF m.fKubeVersion), .slice (A4) (us.length) (c4), .string m.fType] :: SA.own (.slice A3 qs.length c3) 238 1 qs.length (pps qs) :: SA.own (.slice A4 us.length c4) 240 1 us.length (pps us) :: L) := Sp.dep_clean hdn S613.p2.p2
                  have S617 : Sp R w613 (SA.zips SA.dep us (dvs m.fDependencies (j + 1)) :: SA.mpo Try.prog 9 g483 (nn + 1) (fput f m.fDependencies[j].fAlias (Value.pointer (some ⟨gd, 0, none⟩))) :: SA.zips SA.per qs (m.fMaintainers.map perC) :: SA.own0 (.slice A2 m.fKeywords.length c2) 9 1 m.fKeywords.length (strs (cleansF m.fKeywords)) :: SA.own0 (.slice A1 m.fSources.length c1) 9 1 m.fSources.length (strs (cleansF m.fSources)) :: SA.blk gm 237 #[.string (cleanF m.fName), .string (cleanF m.fHome), .slice (A1) (m.fSources.length) (c1), .string m.fVersion, .string (cleanF m.fDescription), .slice (A2) (m.fKeywords.length) (c2), .slice (A3) (qs.length) (c3), .string (cleanF m.fIcon), .string m.fAPIVersion, .string (cleanF m.fCondition), .string (cleanF m.fTags), .string (cleanF m.fAppVersion), .bool false, .map none, .string (cleanF m.fKubeVersion), .slice (A4) (us.length) (c4), .string m.fType] :: SA.own (.slice A3 qs.length c3) 238 1 qs.length (pps qs) :: SA.own (.slice A4 us.length c4) 240 1 us.length (pps us) :: L) := by have := Sp.zset2 (f := SA.dep) (vs := us) (xs := dvs m.fDependencies j) (x := (depC m.fDependencies[j] none 0)) (k := j) (by rw [dvs_len]; omega) hv_j (by rw [← huj]; exact S616.p3.p3.p2); rw [dvs_set hlt_j2] at this; exact this
                  exact hK496 _ _ _ (by first | omega | (simp; omega)) ⟨(fput f m.fDependencies[j].fAlias (Value.pointer (some ⟨gd, 0, none⟩))), nn + 1, met ++ [m.fDependencies[j].fAlias], j + 1, rfl, (F615.kk 8 (F615.kk 201 (F615.kk 202 (F615.kk 203 F615.nil)))), S617.p7.p7.p7.p7.p7.p7.p6.p7, (by first | omega | (with_reducible assumption) | (simp; done)), (by first | omega | (with_reducible assumption) | (simp; done)), (mapR_put hf), (by rw [hwh, whatD_nb hlt_j2 hok hc594, hkey])⟩
             ·have hc_j : decide ((↑j : Int) < ↑us.length) = false := by first | (simp; done) | (simp; omega)
              obtain rfl : j = us.length := by omega
              have hw0 : whatD m.fDependencies [] = 0 := by rw [hwh, hul, List.drop_length]; rfl
              refine wp_seq_k fun K618 hK618 => ?_
              refine wp_region_lit ?_
              refine op_q F496 (.bool (decide ((↑us.length : Int) < ↑us.length))) ?_; intro a619 F619
              have F620 := F619.sb 204 (by kernel_rfl) hc_j
              refine wpList_nil ?_
              refine hK618 _ _ ?_; clear hK618 K618
              refine wp_seq_k fun K621 hK621 => ?_
              refine wp_cond_false (F620.ev (by kernel_rfl)) ?_
              refine wp_exit ?_
              refine ex_then ?_; clear hK621 K621
              refine ex_then ?_
              refine ex_in ?_
              refine hK487 _ _ ?_; clear hK487 K487
              refine wp_seq_k fun K622 hK622 => ?_
              refine wp_region_lit ?_
              refine op_q F620 (.nilIface) ?_; intro a623 F623
              refine wpList_nil ?_
              refine hK622 _ _ ?_; clear hK622 K622
              refine wp_ret ?_
              have hwf : whatF m = 0 := (what_D hw1 hpa).trans hw0
              have S624 : Sp R w496 (SA.mpo Try.prog 9 g483 nn f :: SA.zips SA.dep us (dvs m.fDependencies us.length) :: SA.zips SA.per qs (m.fMaintainers.map perC) :: SA.own0 (.slice A2 m.fKeywords.length c2) 9 1 m.fKeywords.length (strs (cleansF m.fKeywords)) :: SA.own0 (.slice A1 m.fSources.length c1) 9 1 m.fSources.length (strs (cleansF m.fSources)) :: SA.blk gm 237 #[.string (cleanF m.fName), .string (cleanF m.fHome), .slice (A1) (m.fSources.length) (c1), .string m.fVersion, .string (cleanF m.fDescription), .slice (A2) (m.fKeywords.length) (c2), .slice (A3) (qs.length) (c3), .string (cleanF m.fIcon), .string m.fAPIVersion, .string (cleanF m.fCondition), .string (cleanF m.fTags), .string (cleanF m.fAppVersion), .bool false, .map none, .string (cleanF m.fKubeVersion), .slice (A4) (us.length) (c4), .string m.fType] :: SA.own (.slice A3 qs.length c3) 238 1 qs.length (pps qs) :: SA.own (.slice A4 us.length c4) 240 1 us.length (pps us) :: L) := S496
              have S625 : Sp R w496 (SA.mpo Try.prog 9 g483 nn f :: SA.zips SA.dep us (m.fDependencies.map (fun d => depC d none 0)) :: SA.zips SA.per qs (m.fMaintainers.map perC) :: SA.own0 (.slice A2 m.fKeywords.length c2) 9 1 m.fKeywords.length (strs (cleansF m.fKeywords)) :: SA.own0 (.slice A1 m.fSources.length c1) 9 1 m.fSources.length (strs (cleansF m.fSources)) :: SA.blk gm 237 #[.string (cleanF m.fName), .string (cleanF m.fHome), .slice (A1) (m.fSources.length) (c1), .string m.fVersion, .string (cleanF m.fDescription), .slice (A2) (m.fKeywords.length) (c2), .slice (A3) (qs.length) (c3), .string (cleanF m.fIcon), .string m.fAPIVersion, .string (cleanF m.fCondition), .string (cleanF m.fTags), .string (cleanF m.fAppVersion), .bool false, .map none, .string (cleanF m.fKubeVersion), .slice (A4) (us.length) (c4), .string m.fType] :: SA.own (.slice A3 qs.length c3) 238 1 qs.length (pps qs) :: SA.own (.slice A4 us.length c4) 240 1 us.length (pps us) :: L) := by have := S624; rw [show dvs m.fDependencies us.length = m.fDependencies.map (fun d => depC d none 0) by rw [hul]; exact dvs_all] at this; exact this
              have S626 : Sp R w496 (SA.met gm (clnA m) :: SA.mpo Try.prog 9 g483 nn f :: L) := met_of (m2 := (clnA m)) S625.p1.p7.p3.p7.p5.p6.p7 (cleansF_len m.fSources) (cleansF_len m.fKeywords)
              refine (F623.res1 rfl (v := .nilIface) (by kernel_rfl) ?_).1
              exact ⟨(clnA m), false, (⟨#[]⟩ : ByteArray), rfl, S626.p1.drop, ⟨by rw [hwf]; first | done | exact rfl, fun h => by rw [hwf] at h ⊢; first | done | rfl | exact absurd rfl h, fun h => by first | (exfalso; omega) | rfl, fun h1 h2 => by first | (exfalso; omega) | rfl, (by decide), (lens_of (m := m) (m2 := (clnA m)) hm1 hm2 hm3 hm4 hm5 rfl rfl (List.length_map _) (List.length_map _) (by show ∀ d ∈ m.fDependencies.map (fun d => depC d none 0), _; rw [← dvs_all]; exact dvs_tags))⟩⟩
          ·have F627 := F403.sb 172 (by kernel_rfl) hc404
           have F628 := F627.sb 173 (by kernel_rfl) (show (!(plainB m.fVersion)) = true by rw [hc404]; rfl)
           refine wp_cond_true (F628.ev (by kernel_rfl)) ?_
           refine wp_seq_k fun K629 hK629 => ?_
           refine wp_region_lit ?_
           refine op_q F628 (.iface 258 (.string ⟨zq38⟩)) ?_; intro a630 F630
           refine op_q F630 (.iface 258 (.string ⟨zq38⟩)) ?_; intro a631 F631
           refine wpList_nil ?_
           refine hK629 _ _ ?_; clear hK629 K629
           refine wp_ret ?_
           refine ret_then ?_
           have hbn : badName (cleanF m.fName) = false := by unfold badName; rw [hc299, hc321, ← hp0_370, beq_sw3, hc378]; rfl
           have hw1 : what1 m = 5 := by unfold what1; rw [hc268, hc283, hbn, hc387, hc404]; rfl
           have hwf : whatF m = 5 := what_1 hw1 (by omega)
           have S632 : Sp R w401 (SA.own0 (.slice A2 m.fKeywords.length c2) 9 1 m.fKeywords.length (strs (cleansF m.fKeywords)) :: SA.own0 (.slice A1 m.fSources.length c1) 9 1 m.fSources.length (strs (cleansF m.fSources)) :: SA.blk gm 237 #[.string (cleanF m.fName), .string (cleanF m.fHome), .slice (A1) (m.fSources.length) (c1), .string m.fVersion, .string (cleanF m.fDescription), .slice (A2) (m.fKeywords.length) (c2), .slice (A3) (qs.length) (c3), .string (cleanF m.fIcon), .string m.fAPIVersion, .string (cleanF m.fCondition), .string (cleanF m.fTags), .string (cleanF m.fAppVersion), .bool false, .map none, .string (cleanF m.fKubeVersion), .slice (A4) (us.length) (c4), .string m.fType] :: SA.own (.slice A3 qs.length c3) 238 1 qs.length (pps qs) :: SA.zips SA.per qs m.fMaintainers :: SA.own (.slice A4 us.length c4) 240 1 us.length (pps us) :: SA.zips SA.dep us m.fDependencies :: L) := S401
           have S633 : Sp R w401 (SA.met gm (cln8 m) :: L) := met_of (m2 := (cln8 m)) S632.p6.p6.p6.p6.p4.p5.p6 (cleansF_len m.fSources) (cleansF_len m.fKeywords)
           refine (F631.res1 rfl (v := .iface 258 (.string ⟨zq38⟩)) (by kernel_rfl) ?_).1
           exact ⟨(cln8 m), true, (⟨zq38⟩ : ByteArray), rfl, S633, ⟨by rw [hwf]; first | done | exact rfl, fun h => by rw [hwf] at h ⊢; first | done | rfl | exact absurd rfl h, fun h => by first | (exfalso; omega) | rfl, fun h1 h2 => by first | (exfalso; omega) | rfl, (by decide), (lens_of (m := m) (m2 := (cln8 m)) hm1 hm2 hm3 hm4 hm5 rfl rfl rfl rfl (fun d hd => ⟨d, hd, rfl⟩))⟩⟩
        ·have F634 := F376.sb 160 (by kernel_rfl) (show (!((cleanF m.fName).toList == o370.toList)) = true by rw [hc378]; rfl)
         refine wp_cond_true (F634.ev (by kernel_rfl)) ?_
         refine wp_seq_k fun K635 hK635 => ?_
         refine wp_region_lit ?_
         refine op_q F634 (.iface 258 (.string ⟨zq39⟩)) ?_; intro a636 F636
         refine op_q F636 (.iface 258 (.string ⟨zq39⟩)) ?_; intro a637 F637
         refine wpList_nil ?_
         refine hK635 _ _ ?_; clear hK635 K635
         refine wp_ret ?_
         refine ret_then ?_
         have hbn : badName (cleanF m.fName) = true := by unfold badName; rw [hc299, hc321, ← hp0_370, beq_sw3, hc378]; rfl
         have hw1 : what1 m = 3 := by unfold what1; rw [hc268, hc283, hbn]; rfl
         have hwf : whatF m = 3 := what_1 hw1 (by omega)
         have S638 : Sp R w375 (SA.own0 (.slice A2 m.fKeywords.length c2) 9 1 m.fKeywords.length (strs (cleansF m.fKeywords)) :: SA.own0 (.slice A1 m.fSources.length c1) 9 1 m.fSources.length (strs (cleansF m.fSources)) :: SA.blk gm 237 #[.string (cleanF m.fName), .string (cleanF m.fHome), .slice (A1) (m.fSources.length) (c1), .string m.fVersion, .string (cleanF m.fDescription), .slice (A2) (m.fKeywords.length) (c2), .slice (A3) (qs.length) (c3), .string (cleanF m.fIcon), .string m.fAPIVersion, .string (cleanF m.fCondition), .string (cleanF m.fTags), .string (cleanF m.fAppVersion), .bool false, .map none, .string (cleanF m.fKubeVersion), .slice (A4) (us.length) (c4), .string m.fType] :: SA.own (.slice A3 qs.length c3) 238 1 qs.length (pps qs) :: SA.zips SA.per qs m.fMaintainers :: SA.own (.slice A4 us.length c4) 240 1 us.length (pps us) :: SA.zips SA.dep us m.fDependencies :: L) := S377
         have S639 : Sp R w375 (SA.met gm (cln8 m) :: L) := met_of (m2 := (cln8 m)) S638.p6.p6.p6.p6.p4.p5.p6 (cleansF_len m.fSources) (cleansF_len m.fKeywords)
         refine (F637.res1 rfl (v := .iface 258 (.string ⟨zq39⟩)) (by kernel_rfl) ?_).1
         exact ⟨(cln8 m), true, (⟨zq39⟩ : ByteArray), rfl, S639, ⟨by rw [hwf]; first | done | exact rfl, fun h => by rw [hwf] at h ⊢; first | done | rfl | exact absurd rfl h, fun h => by first | (exfalso; omega) | rfl, fun h1 h2 => by first | (exfalso; omega) | rfl, (by decide), (lens_of (m := m) (m2 := (cln8 m)) hm1 hm2 hm3 hm4 hm5 rfl rfl rfl rfl (fun d hd => ⟨d, hd, rfl⟩))⟩⟩
end Go.Proofs.Ytkjcedlgljeoiaa

/- Entries of an index in memory: impl.entriesOf, entryTold. -/
namespace Go.Proofs.Ytkjcedlgljeoiaa
open Go.RowKit Go.Lib
set_option linter.unusedVariables false
set_option linter.unusedSimpArgs false
def metV (m : Ty26) (B1 : Option Addr) (b1 : Nat) (B2 : Option Addr) (b2 : Nat) (B3 : Option Addr) (b3 : Nat) (B4 : Option Addr) (b4 : Nat) (ds : List Ty80) : Ty26 := { m with fSources_a := B1, fSources_c := b1, fKeywords_a := B2, fKeywords_c := b2, fMaintainers_a := B3, fMaintainers_c := b3, fMaintainers := m.fMaintainers.map perT, fDependencies_a := B4, fDependencies_c := b4, fDependencies := ds }
/-- Metadata that are told, by where their rows lie. -/
def SA.mvx (m : Ty26) (B1 : Option Addr) (b1 : Nat) (B2 : Option Addr) (b2 : Nat) (B3 : Option Addr) (b3 : Nat) (B4 : Option Addr) (b4 : Nat) : SA := SA.ex fun ds : List Ty80 => SA.star (SA.pure (ds.map depS = m.fDependencies.map fun d => depT d none 0)) (SA.mv (metV m B1 b1 B2 b2 B3 b3 B4 b4 ds))
theorem metV_S {m : Ty26} {B1 : Option Addr} {b1 : Nat} {B2 : Option Addr} {b2 : Nat} {B3 : Option Addr} {b3 : Nat} {B4 : Option Addr} {b4 : Nat} {ds : List Ty80} (hds : ds.map depS = m.fDependencies.map fun d => depT d none 0) : metS (metV m B1 b1 B2 b2 B3 b3 B4 b4 ds) = metT m := by
  unfold metT metS metV
  simp only [hds, List.map_map]
  congr 1
  exact List.map_congr_left fun d _ => (depS_told).symm
theorem Sp.mvx_open {R : Ctx} {w : World} {L : List SA} {m : Ty26} {B1 : Option Addr} {b1 : Nat} {B2 : Option Addr} {b2 : Nat} {B3 : Option Addr} {b3 : Nat} {B4 : Option Addr} {b4 : Nat} (S : Sp R w (SA.mvx m B1 b1 B2 b2 B3 b3 B4 b4 :: L)) : ∃ y : Ty26, y.cells = [.string m.fName, .string m.fHome, .string m.fVersion, .string m.fDescription, .string m.fIcon, .string m.fAPIVersion, .string m.fCondition, .string m.fTags, .string m.fAppVersion, .string m.fKubeVersion, .string m.fType, .slice B1 m.fSources.length b1, .slice B2 m.fKeywords.length b2, .slice B3 m.fMaintainers.length b3, .slice B4 m.fDependencies.length b4] ∧ Sp R w (SA.mv y :: L) ∧ metS y = metT m := by
  obtain ⟨ds, S⟩ := Sp.ex.1 S
  obtain ⟨hds, S⟩ := Sp.pure.1 (Sp.star.1 S)
  have hdl : ds.length = m.fDependencies.length := by have := congrArg List.length hds; simpa using this
  have hpl : (m.fMaintainers.map perT).length = m.fMaintainers.length := List.length_map _
  refine ⟨_, ?_, S, metV_S hds⟩
  simp only [Ty26.cells, metV, hdl, hpl]
theorem metaTold_f (m : Ty26) (g : Nat) (R : Ctx) (L : List SA) (w : World) (S : Sp R w (SA.met g m :: L)) (hm1 : m.fSources.length ≤ 1000000) (hm2 : m.fKeywords.length ≤ 1000000) (hm3 : m.fMaintainers.length ≤ 1000000) (hm4 : m.fDependencies.length ≤ 1000000) (hm5 : ∀ d ∈ m.fDependencies, d.fTags.length ≤ 1000000) : Calls Try.prog 117 #[.pointer (some ⟨g, 0, none⟩)] w fun e w' => ∃ (B1 : Option Addr) (b1 : Nat) (B2 : Option Addr) (b2 : Nat) (B3 : Option Addr) (b3 : Nat) (B4 : Option Addr) (b4 : Nat), e = .returned (.agg #[.string m.fName, .string m.fHome, .string m.fVersion, .string m.fDescription, .string m.fIcon, .string m.fAPIVersion, .string m.fCondition, .string m.fTags, .string m.fAppVersion, .string m.fKubeVersion, .string m.fType, .slice B1 m.fSources.length b1, .slice B2 m.fKeywords.length b2, .slice B3 m.fMaintainers.length b3, .slice B4 m.fDependencies.length b4]) ∧ Sp R w' (SA.mvx m B1 b1 B2 b2 B3 b3 B4 b4 :: SA.met g m :: L) := by
  obtain ⟨A1, c1, A2, c2, A3, c3, qs, A4, c4, us, S1⟩ := S.met_open
  refine (metaTold_sp m g A1 c1 A2 c2 A3 c3 A4 c4 qs us R (SA.blk g 237 #[.string m.fName, .string m.fHome, .slice A1 m.fSources.length c1, .string m.fVersion, .string m.fDescription, .slice A2 m.fKeywords.length c2, .slice A3 qs.length c3, .string m.fIcon, .string m.fAPIVersion, .string m.fCondition, .string m.fTags, .string m.fAppVersion, .bool false, .map none, .string m.fKubeVersion, .slice A4 us.length c4, .string m.fType] :: SA.own0 (.slice A1 m.fSources.length c1) 9 1 m.fSources.length (strs m.fSources) :: SA.own0 (.slice A2 m.fKeywords.length c2) 9 1 m.fKeywords.length (strs m.fKeywords) :: SA.own (.slice A3 qs.length c3) 238 1 qs.length (pps qs) :: SA.own (.slice A4 us.length c4) 240 1 us.length (pps us) :: L) w S1.p6.p5 (fun w S => S.bk 0 rfl) (fun w S => own0_sl1 (S.ow0 1 rfl) (by omega)) (fun w S => own0_sl1 (S.ow0 2 rfl) (by omega)) (fun w S => own_sl1 (S.ow 3 rfl) (by have := Sp.zlen S1.p4; omega)) (fun w S => own_sl1 (S.ow 4 rfl) (by have := Sp.zlen S1.p6; omega)) hm1 hm2 hm3 hm4 hm5).mono ?_
  rintro e w' ⟨B1, b1, B2, b2, B3, b3, B4, b4, ds, rfl, S2, hds⟩
  have hdl : ds.length = m.fDependencies.length := by have := congrArg List.length hds; simpa using this
  have hpl : (m.fMaintainers.map perT).length = m.fMaintainers.length := List.length_map _
  refine ⟨B1, b1, B2, b2, B3, b3, B4, b4, rfl, ?_⟩
  rw [← hpl, ← hdl] at S2
  have S3 := Sp.met_mk S2.p6.p11.p7.p11.p11.p11.p11
  exact Sp.ex.2 ⟨ds, Sp.star.2 (Sp.pure.2 ⟨hds, Sp.mv_mk (y := metV m B1 b1 B2 b2 B3 b3 B4 b4 ds) (Sp.own0_of (Sp.own0_of S3.p5.p5).p5).p5.p5⟩)⟩
/-- The metadata of an entry, or none. -/
def SA.mtp (q : Option Addr) (e : Ty69) : SA := cond e.fBare (SA.pure (q = none)) (SA.ex fun gm : Nat => SA.star (SA.pure (q = some ⟨gm, 0, none⟩)) (SA.met gm e.fMeta))
/-- An entry as an object, or none. -/
def SA.ent (q : Option Addr) (e : Ty69) : SA := cond e.fNil (SA.pure (q = none)) (SA.ex fun g : Nat => SA.ex fun q2 : Option Addr => SA.ex fun A : Option Addr => SA.ex fun c : Nat => SA.star (SA.pure (q = some ⟨g, 0, none⟩)) (SA.stars [SA.blk g 229 #[.pointer q2, .slice A e.fURLs.length c, .bool false, .string e.fDigest, .string ⟨#[]⟩, .string ⟨#[]⟩, .string ⟨#[]⟩, .string ⟨#[]⟩], SA.own0 (.slice A e.fURLs.length c) 9 1 e.fURLs.length (strs e.fURLs), SA.mtp q2 e]))
section
variable {R : Ctx} {w : World} {L : List SA} {q : Option Addr} {e : Ty69} {g gm c : Nat} {A : Option Addr}
end
def EntOk (e : Ty69) : Prop := e.fNil = false ∧ e.fBare = false ∧ e.fURLs.length ≤ 200 ∧ mfitsB e.fMeta = true ∧ ∀ d ∈ e.fMeta.fDependencies, d.fTags.length ≤ 1000000

end Go.Proofs.Ytkjcedlgljeoiaa

/- spec.chTexts, ChSameDependency, ChSameMeta: of the same metadata. -/
namespace Go.Proofs.Ytkjcedlgljeoiaa
open Go.RowKit Go.Lib
set_option linter.unusedVariables false
set_option linter.unusedSimpArgs false
theorem neqT78 (x0 y0 : Bool) (x1 y1 : ByteArray) (x2 y2 : ByteArray) (x3 y3 : ByteArray) (w : World) : (binOp .neq 78 (.agg #[.bool x0, .string x1, .string x2, .string x3]) (.agg #[.bool y0, .string y1, .string y2, .string y3])).run Try.prog w = .ok (.bool (!((x0 == y0) && (x1.toList == y1.toList) && (x2.toList == y2.toList) && (x3.toList == y3.toList)))) w := by
  have u4 := Try.underlying4
  have u9 := Try.underlying9
  have a4 : (isAgg 4).run Try.prog w = .ok false w := by unfold isAgg; rw [Sem.run_bind, run_underlying u4 w]; rfl
  have z4 : (sizeOf 4).run Try.prog w = .ok 1 w := by kernel_rfl
  have a9 : (isAgg 9).run Try.prog w = .ok false w := by unfold isAgg; rw [Sem.run_bind, run_underlying u9 w]; rfl
  have z9 : (sizeOf 9).run Try.prog w = .ok 1 w := by kernel_rfl
  have hS : Try.prog.underlying 78 = some (.struct (Try.prog.fieldsOf 78)) := by kernel_rfl
  have hp : Try.prog.stoodInHeld 78 = false := by kernel_rfl
  rw [run_neq_struct, show (10000 : Nat) = 9999 + 1 from rfl, run_equalIn_agg w 9999 78 _ _ hS hp]
  simp only [Program.fieldsOf, Try.underlying78]
  go_simp
  cases h0 : (x0 == y0) <;> cases h1 : (x1.toList == y1.toList) <;> cases h2 : (x2.toList == y2.toList) <;> cases h3 : (x3.toList == y3.toList) <;> simp_all
set_option maxRecDepth 100000 in
set_option maxHeartbeats 20000000 in
theorem chTexts_yes (A : Option Addr) (c : Nat) (xs : List ByteArray) (B : Option Addr) (d : Nat) (R : Ctx) (L : List SA) (w : World) (S : Sp R w (L)) (h0 : Rf R L fun w => Sl w (A) (strs xs)) (h1 : Rf R L fun w => Sl w (B) (strs xs))  :
  Calls Try.prog 123 #[.slice (A) (xs.length) (c), .slice (B) (xs.length) (d)] w fun e w' => e = .returned (.bool true) ∧ Sp R w' (L) := by
 have hl_xs : xs.length ≤ 9223372036854775807 := by have := (h0 _ S).1; simpa [strs, ptrs, pps] using this
 have hl_xs : xs.length ≤ 9223372036854775807 := by have := (h1 _ S).1; simpa [strs, ptrs, pps] using this
 refine fw_enter (fn := Try.f123) rfl rfl 26 rfl (Nat.le_of_ble_eq_true rfl) ?_
 intro a0 F0
 refine wp_seq_k fun K1 hK1 => ?_
 refine wp_region_lit ?_
 refine op_q F0 (.bool false) ?_; intro a2 F2
 refine wpList_nil ?_
 refine hK1 _ _ ?_; clear hK1 K1
 refine wp_seq_k fun K3 hK3 => ?_
 refine wp_seq_k fun K4 hK4 => ?_
 refine wp_region_lit ?_
 refine op_q F2 (.slice (A) (xs.length) (c)) ?_; intro a5 F5
 refine op_q F5 (.int .i64 (↑xs.length)) ?_; intro a6 F6
 refine op_q F6 (.slice (B) (xs.length) (d)) ?_; intro a7 F7
 refine op_q F7 (.int .i64 (↑xs.length)) ?_; intro a8 F8
 refine op_q F8 (.bool (!((↑xs.length : Int) == ↑xs.length))) ?_; intro a9 F9
 refine wpList_nil ?_
 refine hK4 _ _ ?_; clear hK4 K4
 have hc10 : ((↑xs.length : Int) == ↑xs.length) = true := (beq_self_eq_true _)
 have F11 := F9.sb 10 (by kernel_rfl) (show (!((↑xs.length : Int) == ↑xs.length)) = false by rw [hc10]; rfl)
 refine wp_cond_false (F11.ev (by kernel_rfl)) ?_
 refine wp_skip ?_
 refine hK3 _ _ ?_; clear hK3 K3
 refine wp_seq_k fun K12 hK12 => ?_
 refine wp_seq_k fun K13 hK13 => ?_
 refine wp_region_lit ?_
 refine op_q F11 (.slice (A) (xs.length) (c)) ?_; intro a14 F14
 refine op_q F14 (.int .i64 (↑xs.length)) ?_; intro a15 F15
 refine op_q F15 (.int .i64 0) ?_; intro a16 F16
 refine wpList_nil ?_
 refine hK13 _ _ ?_; clear hK13 K13
 refine wp_block ?_
 refine fw_loop (fun m' a' w' => ∃ i : Nat, xs.length - i = m' ∧ Fr 26 [] a' [(0, .slice (A) (xs.length) (c)), (1, .slice (B) (xs.length) (d)), (12, .int .i64 (↑xs.length)), (13, .int .i64 (↑i))] ∧ Sp R w' (L) ∧ (i ≤ xs.length)) _ ⟨0, rfl, (F16.kk 0 (F16.kk 1 (F16.kk 12 (F16.kk 13 F16.nil)))), S, (by first | omega | (with_reducible assumption) | (simp; done))⟩ ?_
 rintro m17 a17 w17 ⟨i, hm17, F17, S17, hi⟩ K17 hK17
 by_cases hlt_i : i < xs.length
 ·have hc_i : decide ((↑i : Int) < ↑xs.length) = true := by first | (simp; done) | (simp; omega)
  obtain ⟨ad18, hA18⟩ := (h0 _ S17).addr (by simp [strs]; omega)
  obtain ⟨ad19, hA19⟩ := (h1 _ S17).addr (by simp [strs]; omega)
  refine wp_seq_k fun K20 hK20 => ?_
  refine wp_region_lit ?_
  refine op_q F17 (.bool (decide ((↑i : Int) < ↑xs.length))) ?_; intro a21 F21
  have F22 := F21.sb 14 (by kernel_rfl) hc_i
  refine wpList_nil ?_
  refine hK20 _ _ ?_; clear hK20 K20
  refine wp_seq_k fun K23 hK23 => ?_
  refine wp_cond_true (F22.ev (by kernel_rfl)) ?_
  refine wp_skip ?_
  refine hK23 _ _ ?_; clear hK23 K23
  refine wp_seq_k fun K24 hK24 => ?_
  refine wp_block ?_
  refine wp_seq_k fun K25 hK25 => ?_
  refine wp_region_lit ?_
  refine op_q F22 (.int .i64 (↑i)) ?_; intro a26 F26
  refine op_q F26 (.int .i64 (↑i)) ?_; intro a27 F27
  refine wpList_nil ?_
  refine hK25 _ _ ?_; clear hK25 K25
  refine wp_seq_k fun K28 hK28 => ?_
  refine wp_region_sepF (L0 := L) [some [], some [], some [(0, 16), (1, 17)], some [(2, 18)], some [], some [], some [(4, 20), (5, 21)], some [(6, 22)], some [(3, 19), (7, 23)]] [.v 16 (.slice (A) (xs.length) (c)), .v 17 (.int .i64 (↑i)), .v 18 (.pointer (some (ad18.add i))), .v 19 (.string xs[i]), .v 20 (.slice (B) (xs.length) (d)), .v 21 (.int .i64 (↑i)), .v 22 (.pointer (some (ad19.add i))), .v 23 (.string xs[i]), .v 24 (.bool false)] [] F27 rfl (by kernel_rfl) S17 ?_ ?_
  ·refine ⟨?_, ?_, ?_, ?_, ?_, ?_, ?_, ?_, ?_, trivial⟩
   ·intro w47 M47
    intro a47 F47 S47
    refine obl_of (by rfl) ?_
    exact s_p F47 (v := .slice (A) (xs.length) (c)) (by kernel_rfl) (by kernel_rfl) (by kernel_rfl) S47
   ·intro w48 M48
    intro a48 F48 S48
    refine obl_of (by rfl) ?_
    exact s_p F48 (v := .int .i64 (↑i)) (by kernel_rfl) (by kernel_rfl) (by kernel_rfl) S48
   ·intro w49 M49
    intro a49 F49 S49
    refine obl_of (by rfl) ?_
    exact s_r (v := .pointer (some (ad18.add i))) (r_ix rfl Try.underlying22 1 (by kernel_rfl) (F49.e (.slice (A) (xs.length) (c))) hA18 (F49.e (.int .i64 (↑i))) i (by first | rfl | omega | simp) (by first | omega | (simp; done) | (simp; omega)) (by simp only [Nat.mul_one])) S49
   ·intro w52 M52
    intro a52 F52 S52
    refine obl_of (by rfl) ?_
    exact s_r (v := .string xs[i]) (r_ld rfl (F52.e (.pointer (some (ad18.add i)))) (v := .string xs[i]) ((h0 _ (Sp.dropM S52.drop)).elA hA18 (j := i) (by simp only [strs, List.getElem?_map, List.getElem?_eq_getElem hlt_i]; rfl)) Try.underlying9 rfl) S52
   ·intro w54 M54
    intro a54 F54 S54
    refine obl_of (by rfl) ?_
    exact s_p F54 (v := .slice (B) (xs.length) (d)) (by kernel_rfl) (by kernel_rfl) (by kernel_rfl) S54
   ·intro w55 M55
    intro a55 F55 S55
    refine obl_of (by rfl) ?_
    exact s_p F55 (v := .int .i64 (↑i)) (by kernel_rfl) (by kernel_rfl) (by kernel_rfl) S55
   ·intro w56 M56
    intro a56 F56 S56
    refine obl_of (by rfl) ?_
    exact s_r (v := .pointer (some (ad19.add i))) (r_ix rfl Try.underlying22 1 (by kernel_rfl) (F56.e (.slice (B) (xs.length) (d))) hA19 (F56.e (.int .i64 (↑i))) i (by first | rfl | omega | simp) (by first | omega | (simp; done) | (simp; omega)) (by simp only [Nat.mul_one])) S56
   ·intro w59 M59
    intro a59 F59 S59
    refine obl_of (by rfl) ?_
    exact s_r (v := .string xs[i]) (r_ld rfl (F59.e (.pointer (some (ad19.add i)))) (v := .string xs[i]) ((h1 _ (Sp.dropM S59.drop)).elA hA19 (j := i) (by simp only [strs, List.getElem?_map, List.getElem?_eq_getElem hlt_i]; rfl)) Try.underlying9 rfl) S59
   ·intro w61 M61
    intro a61 F61 S61
    refine obl_of (by rfl) ?_
    have hs64 : (xs[i].toList == xs[i].toList) = true := beq_self_eq_true _
    exact s_pb F61 (b := !(xs[i].toList == xs[i].toList)) (show (!(xs[i].toList == xs[i].toList)) = false by rw [hs64]; rfl) (by kernel_rfl) (by kernel_rfl) (by kernel_rfl) S61
  ·intro a66 w65 F66 S65
   have S67 : Sp R w65 (L) := S65
   refine wpList_nil ?_
   refine hK28 _ _ ?_; clear hK28 K28
   refine wp_cond_false (F66.ev (by kernel_rfl)) ?_
   refine wp_skip ?_
   refine hK24 _ _ ?_; clear hK24 K24
   refine wp_region_lit ?_
   refine op_rq (v := .int .i64 (↑(i + 1))) F66 (r_add (z := ↑(i + 1)) rfl (F66.e (.int .i64 (↑i))) (F66.e (.int .i64 1)) (wr64 (by omega) (by omega) (by omega))) ?_; intro a68 F68
   refine op_q F68 (.int .i64 (↑(i + 1))) ?_; intro a69 F69
   refine wpList_nil ?_
   exact hK17 _ _ _ (by first | omega | (simp; omega)) ⟨i + 1, rfl, (F69.kk 0 (F69.kk 1 (F69.kk 12 (F69.kk 13 F69.nil)))), S67, (by first | omega | (with_reducible assumption) | (simp; done))⟩
 ·have hc_i : decide ((↑i : Int) < ↑xs.length) = false := by first | (simp; done) | (simp; omega)
  refine wp_seq_k fun K70 hK70 => ?_
  refine wp_region_lit ?_
  refine op_q F17 (.bool (decide ((↑i : Int) < ↑xs.length))) ?_; intro a71 F71
  have F72 := F71.sb 14 (by kernel_rfl) hc_i
  refine wpList_nil ?_
  refine hK70 _ _ ?_; clear hK70 K70
  refine wp_seq_k fun K73 hK73 => ?_
  refine wp_cond_false (F72.ev (by kernel_rfl)) ?_
  refine wp_exit ?_
  refine ex_then ?_; clear hK73 K73
  refine ex_then ?_
  refine ex_in ?_
  refine hK12 _ _ ?_; clear hK12 K12
  refine wp_seq_k fun K74 hK74 => ?_
  refine wp_region_lit ?_
  refine op_q F72 (.bool true) ?_; intro a75 F75
  refine wpList_nil ?_
  refine hK74 _ _ ?_; clear hK74 K74
  refine wp_ret ?_
  refine (F75.res1 rfl (v := .bool true) (by kernel_rfl) ?_).1
  exact ⟨rfl, S17⟩
theorem chTexts_eq (A : Option Addr) (c : Nat) (xs : List ByteArray) (B : Option Addr) (d : Nat) (ys : List ByteArray) (R : Ctx) (L : List SA) (w : World) (S : Sp R w L) (h0 : Rf R L fun w => Sl w A (strs xs)) (h1 : Rf R L fun w => Sl w B (strs ys)) (he : ys = xs) :
    Calls Try.prog 123 #[.slice A xs.length c, .slice B ys.length d] w fun e w' => e = .returned (.bool true) ∧ Sp R w' L := by
  subst he; exact chTexts_yes A c ys B d R L w S h0 h1
set_option maxRecDepth 100000 in
set_option maxHeartbeats 20000000 in
theorem sameDep_yes (x : Ty80) (y : Ty80) (R : Ctx) (L : List SA) (w : World) (S : Sp R w (L)) (h0 : Rf R L fun w => Sl w (x.fTags_a) (strs x.fTags)) (h1 : Rf R L fun w => Sl w (y.fTags_a) (strs y.fTags)) (he : depS x = depS y) :
  Calls Try.prog 124 #[.agg #[.bool x.fNil, .string x.fName, .string x.fVersion, .string x.fRepository, .string x.fCondition, .slice (x.fTags_a) (x.fTags.length) (x.fTags_c), .string x.fAlias], .agg #[.bool y.fNil, .string y.fName, .string y.fVersion, .string y.fRepository, .string y.fCondition, .slice (y.fTags_a) (y.fTags.length) (y.fTags_c), .string y.fAlias]] w fun e w' => e = .returned (.bool true) ∧ Sp R w' (L) := by
 have hl_x_fTags : x.fTags.length ≤ 9223372036854775807 := by have := (h0 _ S).1; simpa [strs, ptrs, pps] using this
 have hl_y_fTags : y.fTags.length ≤ 9223372036854775807 := by have := (h1 _ S).1; simpa [strs, ptrs, pps] using this
 have hn_Nil : x.fNil = y.fNil := show (depS x).fNil = (depS y).fNil by rw [he]
 have hT : y.fTags = x.fTags := show (depS y).fTags = (depS x).fTags by rw [he]
 have hn_Name : x.fName = y.fName := show (depS x).fName = (depS y).fName by rw [he]
 have hn_Version : x.fVersion = y.fVersion := show (depS x).fVersion = (depS y).fVersion by rw [he]
 have hn_Repository : x.fRepository = y.fRepository := show (depS x).fRepository = (depS y).fRepository by rw [he]
 have hn_Condition : x.fCondition = y.fCondition := show (depS x).fCondition = (depS y).fCondition by rw [he]
 have hn_Alias : x.fAlias = y.fAlias := show (depS x).fAlias = (depS y).fAlias by rw [he]
 have h1' : Rf R L fun w => Sl w y.fTags_a (strs x.fTags) := fun w S => by rw [← hT]; exact h1 w S
 have hTl : y.fTags.length = x.fTags.length := by rw [hT]
 refine fw_enter (fn := Try.f124) rfl rfl 52 rfl (Nat.le_of_ble_eq_true rfl) ?_
 intro a0 F0
 refine wp_seq_k fun K1 hK1 => ?_
 refine wp_region_lit ?_
 refine op_sq F0 (s_newp F0 80 (zq0 x) (by kernel_rfl) (by kernel_rfl) (by kernel_rfl) S) ?_
 rintro _ _ w3 ⟨g1, rfl, rfl⟩ S3 a3 F3
 refine op_sq F3 (s_newp F3 80 (zq0 y) (by kernel_rfl) (by kernel_rfl) (by kernel_rfl) S3) ?_
 rintro _ _ w5 ⟨g3, rfl, rfl⟩ S5 a5 F5
 refine op_q F5 (.bool false) ?_; intro a6 F6
 refine wpList_nil ?_
 refine hK1 _ _ ?_; clear hK1 K1
 refine wp_seq_k fun K7 hK7 => ?_
 refine wp_region_lit ?_
 refine op_q F6 (.pointer (some ⟨g1, 0, none⟩)) ?_; intro a8 F8
 refine op_rq (v := .bool x.fNil) F8 (r_ld rfl (F8.e (.pointer (some ⟨g1, 0, none⟩))) (v := .bool x.fNil) ((S5.bk 1 rfl).cell 0) Try.underlying4 rfl) ?_; intro a9 F9
 refine op_q F9 (.pointer (some ⟨g3, 0, none⟩)) ?_; intro a10 F10
 refine op_rq (v := .bool y.fNil) F10 (r_ld rfl (F10.e (.pointer (some ⟨g3, 0, none⟩))) (v := .bool y.fNil) ((S5.bk 0 rfl).cell 0) Try.underlying4 rfl) ?_; intro a11 F11
 refine op_q F11 (.bool (x.fNil == y.fNil)) ?_; intro a12 F12
 refine op_q F12 (.bool (x.fNil == y.fNil)) ?_; intro a13 F13
 have hc14 : (x.fNil == y.fNil) = true := (by rw [hn_Nil]; exact beq_self_eq_true _)
 have F15 := F13.sb 9 (by kernel_rfl) hc14
 have F16 := F15.sb 10 (by kernel_rfl) hc14
 refine op_wq F16 ?_
 refine op_q F16 (.pointer (some ⟨g1, 1, none⟩)) ?_; intro a17 F17
 refine op_wq F17 ?_
 refine op_rq (v := .string x.fName) F17 (r_ld rfl (F17.e (.pointer (some ⟨g1, 1, none⟩))) (v := .string x.fName) ((S5.bk 1 rfl).cell 1) Try.underlying9 rfl) ?_; intro a18 F18
 refine op_wq F18 ?_
 refine op_q F18 (.pointer (some ⟨g3, 1, none⟩)) ?_; intro a19 F19
 refine op_wq F19 ?_
 refine op_rq (v := .string y.fName) F19 (r_ld rfl (F19.e (.pointer (some ⟨g3, 1, none⟩))) (v := .string y.fName) ((S5.bk 0 rfl).cell 1) Try.underlying9 rfl) ?_; intro a20 F20
 refine op_wq F20 ?_
 refine op_q F20 (.bool (x.fName.toList == y.fName.toList)) ?_; intro a21 F21
 refine op_q F21 (.bool (x.fName.toList == y.fName.toList)) ?_; intro a22 F22
 refine op_q F22 (.bool (x.fName.toList == y.fName.toList)) ?_; intro a23 F23
 have hc24 : (x.fName.toList == y.fName.toList) = true := (by rw [hn_Name]; exact beq_self_eq_true _)
 have F25 := F23.sb 15 (by kernel_rfl) hc24
 have F26 := F25.sb 16 (by kernel_rfl) hc24
 have F27 := F26.sb 17 (by kernel_rfl) hc24
 refine op_wq F27 ?_
 refine op_q F27 (.pointer (some ⟨g1, 2, none⟩)) ?_; intro a28 F28
 refine op_wq F28 ?_
 refine op_rq (v := .string x.fVersion) F28 (r_ld rfl (F28.e (.pointer (some ⟨g1, 2, none⟩))) (v := .string x.fVersion) ((S5.bk 1 rfl).cell 2) Try.underlying9 rfl) ?_; intro a29 F29
 refine op_wq F29 ?_
 refine op_q F29 (.pointer (some ⟨g3, 2, none⟩)) ?_; intro a30 F30
 refine op_wq F30 ?_
 refine op_rq (v := .string y.fVersion) F30 (r_ld rfl (F30.e (.pointer (some ⟨g3, 2, none⟩))) (v := .string y.fVersion) ((S5.bk 0 rfl).cell 2) Try.underlying9 rfl) ?_; intro a31 F31
 refine op_wq F31 ?_
 refine op_q F31 (.bool (x.fVersion.toList == y.fVersion.toList)) ?_; intro a32 F32
 refine op_q F32 (.bool (x.fVersion.toList == y.fVersion.toList)) ?_; intro a33 F33
 refine op_q F33 (.bool (x.fVersion.toList == y.fVersion.toList)) ?_; intro a34 F34
 have hc35 : (x.fVersion.toList == y.fVersion.toList) = true := (by rw [hn_Version]; exact beq_self_eq_true _)
 have F36 := F34.sb 22 (by kernel_rfl) hc35
 have F37 := F36.sb 23 (by kernel_rfl) hc35
 have F38 := F37.sb 24 (by kernel_rfl) hc35
 refine op_wq F38 ?_
 refine op_q F38 (.pointer (some ⟨g1, 3, none⟩)) ?_; intro a39 F39
 refine op_wq F39 ?_
 refine op_rq (v := .string x.fRepository) F39 (r_ld rfl (F39.e (.pointer (some ⟨g1, 3, none⟩))) (v := .string x.fRepository) ((S5.bk 1 rfl).cell 3) Try.underlying9 rfl) ?_; intro a40 F40
 refine op_wq F40 ?_
 refine op_q F40 (.pointer (some ⟨g3, 3, none⟩)) ?_; intro a41 F41
 refine op_wq F41 ?_
 refine op_rq (v := .string y.fRepository) F41 (r_ld rfl (F41.e (.pointer (some ⟨g3, 3, none⟩))) (v := .string y.fRepository) ((S5.bk 0 rfl).cell 3) Try.underlying9 rfl) ?_; intro a42 F42
 refine op_wq F42 ?_
 refine op_q F42 (.bool (x.fRepository.toList == y.fRepository.toList)) ?_; intro a43 F43
 refine op_q F43 (.bool (x.fRepository.toList == y.fRepository.toList)) ?_; intro a44 F44
 refine op_q F44 (.bool (x.fRepository.toList == y.fRepository.toList)) ?_; intro a45 F45
 have hc46 : (x.fRepository.toList == y.fRepository.toList) = true := (by rw [hn_Repository]; exact beq_self_eq_true _)
 have F47 := F45.sb 29 (by kernel_rfl) hc46
 have F48 := F47.sb 30 (by kernel_rfl) hc46
 have F49 := F48.sb 31 (by kernel_rfl) hc46
 refine op_wq F49 ?_
 refine op_q F49 (.pointer (some ⟨g1, 4, none⟩)) ?_; intro a50 F50
 refine op_wq F50 ?_
 refine op_rq (v := .string x.fCondition) F50 (r_ld rfl (F50.e (.pointer (some ⟨g1, 4, none⟩))) (v := .string x.fCondition) ((S5.bk 1 rfl).cell 4) Try.underlying9 rfl) ?_; intro a51 F51
 refine op_wq F51 ?_
 refine op_q F51 (.pointer (some ⟨g3, 4, none⟩)) ?_; intro a52 F52
 refine op_wq F52 ?_
 refine op_rq (v := .string y.fCondition) F52 (r_ld rfl (F52.e (.pointer (some ⟨g3, 4, none⟩))) (v := .string y.fCondition) ((S5.bk 0 rfl).cell 4) Try.underlying9 rfl) ?_; intro a53 F53
 refine op_wq F53 ?_
 refine op_q F53 (.bool (x.fCondition.toList == y.fCondition.toList)) ?_; intro a54 F54
 refine op_q F54 (.bool (x.fCondition.toList == y.fCondition.toList)) ?_; intro a55 F55
 refine op_q F55 (.bool (x.fCondition.toList == y.fCondition.toList)) ?_; intro a56 F56
 have hc57 : (x.fCondition.toList == y.fCondition.toList) = true := (by rw [hn_Condition]; exact beq_self_eq_true _)
 have F58 := F56.sb 36 (by kernel_rfl) hc57
 have F59 := F58.sb 37 (by kernel_rfl) hc57
 have F60 := F59.sb 38 (by kernel_rfl) hc57
 refine op_wq F60 ?_
 refine op_q F60 (.pointer (some ⟨g1, 6, none⟩)) ?_; intro a61 F61
 refine op_wq F61 ?_
 refine op_rq (v := .string x.fAlias) F61 (r_ld rfl (F61.e (.pointer (some ⟨g1, 6, none⟩))) (v := .string x.fAlias) ((S5.bk 1 rfl).cell 6) Try.underlying9 rfl) ?_; intro a62 F62
 refine op_wq F62 ?_
 refine op_q F62 (.pointer (some ⟨g3, 6, none⟩)) ?_; intro a63 F63
 refine op_wq F63 ?_
 refine op_rq (v := .string y.fAlias) F63 (r_ld rfl (F63.e (.pointer (some ⟨g3, 6, none⟩))) (v := .string y.fAlias) ((S5.bk 0 rfl).cell 6) Try.underlying9 rfl) ?_; intro a64 F64
 refine op_wq F64 ?_
 refine op_q F64 (.bool (x.fAlias.toList == y.fAlias.toList)) ?_; intro a65 F65
 refine op_q F65 (.bool (x.fAlias.toList == y.fAlias.toList)) ?_; intro a66 F66
 refine op_q F66 (.bool (x.fAlias.toList == y.fAlias.toList)) ?_; intro a67 F67
 have hc68 : (x.fAlias.toList == y.fAlias.toList) = true := (by rw [hn_Alias]; exact beq_self_eq_true _)
 have F69 := F67.sb 43 (by kernel_rfl) hc68
 have F70 := F69.sb 44 (by kernel_rfl) hc68
 have F71 := F70.sb 45 (by kernel_rfl) hc68
 refine op_wq F71 ?_
 refine op_q F71 (.pointer (some ⟨g1, 5, none⟩)) ?_; intro a72 F72
 refine op_wq F72 ?_
 refine op_rq (v := .slice (x.fTags_a) (x.fTags.length) (x.fTags_c)) F72 (r_ld rfl (F72.e (.pointer (some ⟨g1, 5, none⟩))) (v := .slice (x.fTags_a) (x.fTags.length) (x.fTags_c)) ((S5.bk 1 rfl).cell 5) Try.underlying22 rfl) ?_; intro a73 F73
 refine op_wq F73 ?_
 refine op_q F73 (.pointer (some ⟨g3, 5, none⟩)) ?_; intro a74 F74
 refine op_wq F74 ?_
 refine op_rq (v := .slice (y.fTags_a) (y.fTags.length) (y.fTags_c)) F74 (r_ld rfl (F74.e (.pointer (some ⟨g3, 5, none⟩))) (v := .slice (y.fTags_a) (y.fTags.length) (y.fTags_c)) ((S5.bk 0 rfl).cell 5) Try.underlying22 rfl) ?_; intro a75 F75
 refine op_wq F75 ?_
 refine op_cq F75 (f := 123) (args := #[.slice (x.fTags_a) (x.fTags.length) (x.fTags_c), .slice (y.fTags_a) (y.fTags.length) (y.fTags_c)]) (chTexts_eq x.fTags_a x.fTags_c x.fTags y.fTags_a y.fTags_c y.fTags _ _ _ S5 (fun w S => h0 w S.drop.drop) (fun w S => h1 w S.drop.drop) (by with_reducible assumption)) ?_
 rintro _ w76 ⟨rfl, S76⟩
 refine ⟨_, rfl, ?_⟩
 intro a77 F77
 refine op_q F77 (.bool true) ?_; intro a78 F78
 refine op_q F78 (.bool true) ?_; intro a79 F79
 refine wpList_nil ?_
 refine hK7 _ _ ?_; clear hK7 K7
 refine wp_ret ?_
 refine (F79.res1 rfl (v := .bool true) (by kernel_rfl) ?_).1
 exact ⟨rfl, S76.drop.drop⟩
set_option maxRecDepth 100000 in
set_option maxHeartbeats 20000000 in
theorem sameMeta_yes (x : Ty26) (y : Ty26) (R : Ctx) (L : List SA) (w : World) (S : Sp R w (L)) (h0 : Rf R L fun w => MetaAt w x) (h1 : Rf R L fun w => MetaAt w y) (he : metS x = metS y) :
  Calls Try.prog 62 #[.agg #[.string x.fName, .string x.fHome, .string x.fVersion, .string x.fDescription, .string x.fIcon, .string x.fAPIVersion, .string x.fCondition, .string x.fTags, .string x.fAppVersion, .string x.fKubeVersion, .string x.fType, .slice (x.fSources_a) (x.fSources.length) (x.fSources_c), .slice (x.fKeywords_a) (x.fKeywords.length) (x.fKeywords_c), .slice (x.fMaintainers_a) (x.fMaintainers.length) (x.fMaintainers_c), .slice (x.fDependencies_a) (x.fDependencies.length) (x.fDependencies_c)], .agg #[.string y.fName, .string y.fHome, .string y.fVersion, .string y.fDescription, .string y.fIcon, .string y.fAPIVersion, .string y.fCondition, .string y.fTags, .string y.fAppVersion, .string y.fKubeVersion, .string y.fType, .slice (y.fSources_a) (y.fSources.length) (y.fSources_c), .slice (y.fKeywords_a) (y.fKeywords.length) (y.fKeywords_c), .slice (y.fMaintainers_a) (y.fMaintainers.length) (y.fMaintainers_c), .slice (y.fDependencies_a) (y.fDependencies.length) (y.fDependencies_c)]] w fun e w' => e = .returned (.bool true) ∧ Sp R w' (L) := by
 have hn_Name : x.fName = y.fName := show (metS x).fName = (metS y).fName by rw [he]
 have hn_Home : x.fHome = y.fHome := show (metS x).fHome = (metS y).fHome by rw [he]
 have hn_Version : x.fVersion = y.fVersion := show (metS x).fVersion = (metS y).fVersion by rw [he]
 have hn_Description : x.fDescription = y.fDescription := show (metS x).fDescription = (metS y).fDescription by rw [he]
 have hn_Icon : x.fIcon = y.fIcon := show (metS x).fIcon = (metS y).fIcon by rw [he]
 have hn_APIVersion : x.fAPIVersion = y.fAPIVersion := show (metS x).fAPIVersion = (metS y).fAPIVersion by rw [he]
 have hn_Condition : x.fCondition = y.fCondition := show (metS x).fCondition = (metS y).fCondition by rw [he]
 have hn_Tags : x.fTags = y.fTags := show (metS x).fTags = (metS y).fTags by rw [he]
 have hn_AppVersion : x.fAppVersion = y.fAppVersion := show (metS x).fAppVersion = (metS y).fAppVersion by rw [he]
 have hn_KubeVersion : x.fKubeVersion = y.fKubeVersion := show (metS x).fKubeVersion = (metS y).fKubeVersion by rw [he]
 have hn_Type : x.fType = y.fType := show (metS x).fType = (metS y).fType by rw [he]
 have eSources : y.fSources = x.fSources := show (metS y).fSources = (metS x).fSources by rw [he]
 have eKeywords : y.fKeywords = x.fKeywords := show (metS y).fKeywords = (metS x).fKeywords by rw [he]
 have eMaintainers : y.fMaintainers = x.fMaintainers := show (metS y).fMaintainers = (metS x).fMaintainers by rw [he]
 have eD : x.fDependencies.map depS = y.fDependencies.map depS := show (metS x).fDependencies = (metS y).fDependencies by rw [he]
 have eSl : y.fSources.length = x.fSources.length := by rw [eSources]
 have eKl : y.fKeywords.length = x.fKeywords.length := by rw [eKeywords]
 have eMl : y.fMaintainers.length = x.fMaintainers.length := by rw [eMaintainers]
 have eDl : y.fDependencies.length = x.fDependencies.length := by have := congrArg List.length eD; simp at this; exact this.symm
 have k0 : Rf R L fun w => Sl w x.fSources_a (strs x.fSources) := fun w S => (h0 w S).1
 have k1 : Rf R L fun w => Sl w y.fSources_a (strs y.fSources) := fun w S => (h1 w S).1
 have k2 : Rf R L fun w => Sl w x.fKeywords_a (strs x.fKeywords) := fun w S => (h0 w S).2.1
 have k3 : Rf R L fun w => Sl w y.fKeywords_a (strs y.fKeywords) := fun w S => (h1 w S).2.1
 have k4 : Rf R L fun w => Rows w x.fMaintainers_a 4 (x.fMaintainers.map Ty78.cells) := fun w S => (h0 w S).2.2.1
 have k5 : Rf R L fun w => Rows w y.fMaintainers_a 4 (x.fMaintainers.map Ty78.cells) := fun w S => by rw [← eMaintainers]; exact (h1 w S).2.2.1
 have k6 : Rf R L fun w => Rows w x.fDependencies_a 7 (x.fDependencies.map Ty80.cells) := fun w S => (h0 w S).2.2.2.1
 have k7 : Rf R L fun w => Rows w y.fDependencies_a 7 (y.fDependencies.map Ty80.cells) := fun w S => (h1 w S).2.2.2.1
 have hlM : x.fMaintainers.length ≤ 9223372036854775807 := by have := (k4 w S).1; simpa using this
 have hlD : x.fDependencies.length ≤ 9223372036854775807 := by have := (k6 w S).1; simpa using this
 refine fw_enter (fn := Try.f62) rfl rfl 149 rfl (Nat.le_of_ble_eq_true rfl) ?_
 intro a0 F0
 refine wp_seq_k fun K1 hK1 => ?_
 refine wp_region_lit ?_
 refine op_sq F0 (s_newp F0 26 (zq2 x) (by kernel_rfl) (by kernel_rfl) (by kernel_rfl) S) ?_
 rintro _ _ w3 ⟨g1, rfl, rfl⟩ S3 a3 F3
 refine op_sq F3 (s_newp F3 26 (zq2 y) (by kernel_rfl) (by kernel_rfl) (by kernel_rfl) S3) ?_
 rintro _ _ w5 ⟨g3, rfl, rfl⟩ S5 a5 F5
 refine op_q F5 (.bool false) ?_; intro a6 F6
 refine wpList_nil ?_
 refine hK1 _ _ ?_; clear hK1 K1
 refine wp_seq_k fun K7 hK7 => ?_
 refine wp_seq_k fun K8 hK8 => ?_
 refine wp_region_lit ?_
 refine op_q F6 (.pointer (some ⟨g1, 0, none⟩)) ?_; intro a9 F9
 refine op_rq (v := .string x.fName) F9 (r_ld rfl (F9.e (.pointer (some ⟨g1, 0, none⟩))) (v := .string x.fName) ((S5.bk 1 rfl).cell 0) Try.underlying9 rfl) ?_; intro a10 F10
 refine op_q F10 (.pointer (some ⟨g3, 0, none⟩)) ?_; intro a11 F11
 refine op_rq (v := .string y.fName) F11 (r_ld rfl (F11.e (.pointer (some ⟨g3, 0, none⟩))) (v := .string y.fName) ((S5.bk 0 rfl).cell 0) Try.underlying9 rfl) ?_; intro a12 F12
 refine op_q F12 (.bool (!(x.fName.toList == y.fName.toList))) ?_; intro a13 F13
 refine op_q F13 (.bool (!(x.fName.toList == y.fName.toList))) ?_; intro a14 F14
 have hc15 : (x.fName.toList == y.fName.toList) = true := (by rw [hn_Name]; exact beq_self_eq_true _)
 have F16 := F14.sb 13 (by kernel_rfl) (show (!(x.fName.toList == y.fName.toList)) = false by rw [hc15]; rfl)
 have F17 := F16.sb 14 (by kernel_rfl) (show (!(x.fName.toList == y.fName.toList)) = false by rw [hc15]; rfl)
 refine op_wq F17 ?_
 refine op_q F17 (.pointer (some ⟨g1, 1, none⟩)) ?_; intro a18 F18
 refine op_wq F18 ?_
 refine op_rq (v := .string x.fHome) F18 (r_ld rfl (F18.e (.pointer (some ⟨g1, 1, none⟩))) (v := .string x.fHome) ((S5.bk 1 rfl).cell 1) Try.underlying9 rfl) ?_; intro a19 F19
 refine op_wq F19 ?_
 refine op_q F19 (.pointer (some ⟨g3, 1, none⟩)) ?_; intro a20 F20
 refine op_wq F20 ?_
 refine op_rq (v := .string y.fHome) F20 (r_ld rfl (F20.e (.pointer (some ⟨g3, 1, none⟩))) (v := .string y.fHome) ((S5.bk 0 rfl).cell 1) Try.underlying9 rfl) ?_; intro a21 F21
 refine op_wq F21 ?_
 refine op_q F21 (.bool (!(x.fHome.toList == y.fHome.toList))) ?_; intro a22 F22
 refine op_q F22 (.bool (!(x.fHome.toList == y.fHome.toList))) ?_; intro a23 F23
 refine op_q F23 (.bool (!(x.fHome.toList == y.fHome.toList))) ?_; intro a24 F24
 have hc25 : (x.fHome.toList == y.fHome.toList) = true := (by rw [hn_Home]; exact beq_self_eq_true _)
 have F26 := F24.sb 19 (by kernel_rfl) (show (!(x.fHome.toList == y.fHome.toList)) = false by rw [hc25]; rfl)
 have F27 := F26.sb 20 (by kernel_rfl) (show (!(x.fHome.toList == y.fHome.toList)) = false by rw [hc25]; rfl)
 have F28 := F27.sb 21 (by kernel_rfl) (show (!(x.fHome.toList == y.fHome.toList)) = false by rw [hc25]; rfl)
 refine op_wq F28 ?_
 refine op_q F28 (.pointer (some ⟨g1, 2, none⟩)) ?_; intro a29 F29
 refine op_wq F29 ?_
 refine op_rq (v := .string x.fVersion) F29 (r_ld rfl (F29.e (.pointer (some ⟨g1, 2, none⟩))) (v := .string x.fVersion) ((S5.bk 1 rfl).cell 2) Try.underlying9 rfl) ?_; intro a30 F30
 refine op_wq F30 ?_
 refine op_q F30 (.pointer (some ⟨g3, 2, none⟩)) ?_; intro a31 F31
 refine op_wq F31 ?_
 refine op_rq (v := .string y.fVersion) F31 (r_ld rfl (F31.e (.pointer (some ⟨g3, 2, none⟩))) (v := .string y.fVersion) ((S5.bk 0 rfl).cell 2) Try.underlying9 rfl) ?_; intro a32 F32
 refine op_wq F32 ?_
 refine op_q F32 (.bool (!(x.fVersion.toList == y.fVersion.toList))) ?_; intro a33 F33
 refine op_q F33 (.bool (!(x.fVersion.toList == y.fVersion.toList))) ?_; intro a34 F34
 refine op_q F34 (.bool (!(x.fVersion.toList == y.fVersion.toList))) ?_; intro a35 F35
 have hc36 : (x.fVersion.toList == y.fVersion.toList) = true := (by rw [hn_Version]; exact beq_self_eq_true _)
 have F37 := F35.sb 26 (by kernel_rfl) (show (!(x.fVersion.toList == y.fVersion.toList)) = false by rw [hc36]; rfl)
 have F38 := F37.sb 27 (by kernel_rfl) (show (!(x.fVersion.toList == y.fVersion.toList)) = false by rw [hc36]; rfl)
 have F39 := F38.sb 28 (by kernel_rfl) (show (!(x.fVersion.toList == y.fVersion.toList)) = false by rw [hc36]; rfl)
 refine op_wq F39 ?_
 refine op_q F39 (.pointer (some ⟨g1, 3, none⟩)) ?_; intro a40 F40
 refine op_wq F40 ?_
 refine op_rq (v := .string x.fDescription) F40 (r_ld rfl (F40.e (.pointer (some ⟨g1, 3, none⟩))) (v := .string x.fDescription) ((S5.bk 1 rfl).cell 3) Try.underlying9 rfl) ?_; intro a41 F41
 refine op_wq F41 ?_
 refine op_q F41 (.pointer (some ⟨g3, 3, none⟩)) ?_; intro a42 F42
 refine op_wq F42 ?_
 refine op_rq (v := .string y.fDescription) F42 (r_ld rfl (F42.e (.pointer (some ⟨g3, 3, none⟩))) (v := .string y.fDescription) ((S5.bk 0 rfl).cell 3) Try.underlying9 rfl) ?_; intro a43 F43
 refine op_wq F43 ?_
 refine op_q F43 (.bool (!(x.fDescription.toList == y.fDescription.toList))) ?_; intro a44 F44
 refine op_q F44 (.bool (!(x.fDescription.toList == y.fDescription.toList))) ?_; intro a45 F45
 refine op_q F45 (.bool (!(x.fDescription.toList == y.fDescription.toList))) ?_; intro a46 F46
 have hc47 : (x.fDescription.toList == y.fDescription.toList) = true := (by rw [hn_Description]; exact beq_self_eq_true _)
 have F48 := F46.sb 33 (by kernel_rfl) (show (!(x.fDescription.toList == y.fDescription.toList)) = false by rw [hc47]; rfl)
 have F49 := F48.sb 34 (by kernel_rfl) (show (!(x.fDescription.toList == y.fDescription.toList)) = false by rw [hc47]; rfl)
 have F50 := F49.sb 35 (by kernel_rfl) (show (!(x.fDescription.toList == y.fDescription.toList)) = false by rw [hc47]; rfl)
 refine op_wq F50 ?_
 refine op_q F50 (.pointer (some ⟨g1, 4, none⟩)) ?_; intro a51 F51
 refine op_wq F51 ?_
 refine op_rq (v := .string x.fIcon) F51 (r_ld rfl (F51.e (.pointer (some ⟨g1, 4, none⟩))) (v := .string x.fIcon) ((S5.bk 1 rfl).cell 4) Try.underlying9 rfl) ?_; intro a52 F52
 refine op_wq F52 ?_
 refine op_q F52 (.pointer (some ⟨g3, 4, none⟩)) ?_; intro a53 F53
 refine op_wq F53 ?_
 refine op_rq (v := .string y.fIcon) F53 (r_ld rfl (F53.e (.pointer (some ⟨g3, 4, none⟩))) (v := .string y.fIcon) ((S5.bk 0 rfl).cell 4) Try.underlying9 rfl) ?_; intro a54 F54
 refine op_wq F54 ?_
 refine op_q F54 (.bool (!(x.fIcon.toList == y.fIcon.toList))) ?_; intro a55 F55
 refine op_q F55 (.bool (!(x.fIcon.toList == y.fIcon.toList))) ?_; intro a56 F56
 refine op_q F56 (.bool (!(x.fIcon.toList == y.fIcon.toList))) ?_; intro a57 F57
 have hc58 : (x.fIcon.toList == y.fIcon.toList) = true := (by rw [hn_Icon]; exact beq_self_eq_true _)
 have F59 := F57.sb 40 (by kernel_rfl) (show (!(x.fIcon.toList == y.fIcon.toList)) = false by rw [hc58]; rfl)
 have F60 := F59.sb 41 (by kernel_rfl) (show (!(x.fIcon.toList == y.fIcon.toList)) = false by rw [hc58]; rfl)
 have F61 := F60.sb 42 (by kernel_rfl) (show (!(x.fIcon.toList == y.fIcon.toList)) = false by rw [hc58]; rfl)
 refine op_wq F61 ?_
 refine op_q F61 (.pointer (some ⟨g1, 5, none⟩)) ?_; intro a62 F62
 refine op_wq F62 ?_
 refine op_rq (v := .string x.fAPIVersion) F62 (r_ld rfl (F62.e (.pointer (some ⟨g1, 5, none⟩))) (v := .string x.fAPIVersion) ((S5.bk 1 rfl).cell 5) Try.underlying9 rfl) ?_; intro a63 F63
 refine op_wq F63 ?_
 refine op_q F63 (.pointer (some ⟨g3, 5, none⟩)) ?_; intro a64 F64
 refine op_wq F64 ?_
 refine op_rq (v := .string y.fAPIVersion) F64 (r_ld rfl (F64.e (.pointer (some ⟨g3, 5, none⟩))) (v := .string y.fAPIVersion) ((S5.bk 0 rfl).cell 5) Try.underlying9 rfl) ?_; intro a65 F65
 refine op_wq F65 ?_
 refine op_q F65 (.bool (!(x.fAPIVersion.toList == y.fAPIVersion.toList))) ?_; intro a66 F66
 refine op_q F66 (.bool (!(x.fAPIVersion.toList == y.fAPIVersion.toList))) ?_; intro a67 F67
 refine op_q F67 (.bool (!(x.fAPIVersion.toList == y.fAPIVersion.toList))) ?_; intro a68 F68
 have hc69 : (x.fAPIVersion.toList == y.fAPIVersion.toList) = true := (by rw [hn_APIVersion]; exact beq_self_eq_true _)
 have F70 := F68.sb 47 (by kernel_rfl) (show (!(x.fAPIVersion.toList == y.fAPIVersion.toList)) = false by rw [hc69]; rfl)
 have F71 := F70.sb 48 (by kernel_rfl) (show (!(x.fAPIVersion.toList == y.fAPIVersion.toList)) = false by rw [hc69]; rfl)
 have F72 := F71.sb 49 (by kernel_rfl) (show (!(x.fAPIVersion.toList == y.fAPIVersion.toList)) = false by rw [hc69]; rfl)
 refine op_wq F72 ?_
 refine op_q F72 (.pointer (some ⟨g1, 6, none⟩)) ?_; intro a73 F73
 refine op_wq F73 ?_
 refine op_rq (v := .string x.fCondition) F73 (r_ld rfl (F73.e (.pointer (some ⟨g1, 6, none⟩))) (v := .string x.fCondition) ((S5.bk 1 rfl).cell 6) Try.underlying9 rfl) ?_; intro a74 F74
 refine op_wq F74 ?_
 refine op_q F74 (.pointer (some ⟨g3, 6, none⟩)) ?_; intro a75 F75
 refine op_wq F75 ?_
 refine op_rq (v := .string y.fCondition) F75 (r_ld rfl (F75.e (.pointer (some ⟨g3, 6, none⟩))) (v := .string y.fCondition) ((S5.bk 0 rfl).cell 6) Try.underlying9 rfl) ?_; intro a76 F76
 refine op_wq F76 ?_
 refine op_q F76 (.bool (!(x.fCondition.toList == y.fCondition.toList))) ?_; intro a77 F77
 refine op_q F77 (.bool (!(x.fCondition.toList == y.fCondition.toList))) ?_; intro a78 F78
 refine op_q F78 (.bool (!(x.fCondition.toList == y.fCondition.toList))) ?_; intro a79 F79
 have hc80 : (x.fCondition.toList == y.fCondition.toList) = true := (by rw [hn_Condition]; exact beq_self_eq_true _)
 have F81 := F79.sb 54 (by kernel_rfl) (show (!(x.fCondition.toList == y.fCondition.toList)) = false by rw [hc80]; rfl)
 have F82 := F81.sb 55 (by kernel_rfl) (show (!(x.fCondition.toList == y.fCondition.toList)) = false by rw [hc80]; rfl)
 have F83 := F82.sb 56 (by kernel_rfl) (show (!(x.fCondition.toList == y.fCondition.toList)) = false by rw [hc80]; rfl)
 refine op_wq F83 ?_
 refine op_q F83 (.pointer (some ⟨g1, 7, none⟩)) ?_; intro a84 F84
 refine op_wq F84 ?_
 refine op_rq (v := .string x.fTags) F84 (r_ld rfl (F84.e (.pointer (some ⟨g1, 7, none⟩))) (v := .string x.fTags) ((S5.bk 1 rfl).cell 7) Try.underlying9 rfl) ?_; intro a85 F85
 refine op_wq F85 ?_
 refine op_q F85 (.pointer (some ⟨g3, 7, none⟩)) ?_; intro a86 F86
 refine op_wq F86 ?_
 refine op_rq (v := .string y.fTags) F86 (r_ld rfl (F86.e (.pointer (some ⟨g3, 7, none⟩))) (v := .string y.fTags) ((S5.bk 0 rfl).cell 7) Try.underlying9 rfl) ?_; intro a87 F87
 refine op_wq F87 ?_
 refine op_q F87 (.bool (!(x.fTags.toList == y.fTags.toList))) ?_; intro a88 F88
 refine op_q F88 (.bool (!(x.fTags.toList == y.fTags.toList))) ?_; intro a89 F89
 refine op_q F89 (.bool (!(x.fTags.toList == y.fTags.toList))) ?_; intro a90 F90
 have hc91 : (x.fTags.toList == y.fTags.toList) = true := (by rw [hn_Tags]; exact beq_self_eq_true _)
 have F92 := F90.sb 61 (by kernel_rfl) (show (!(x.fTags.toList == y.fTags.toList)) = false by rw [hc91]; rfl)
 have F93 := F92.sb 62 (by kernel_rfl) (show (!(x.fTags.toList == y.fTags.toList)) = false by rw [hc91]; rfl)
 have F94 := F93.sb 63 (by kernel_rfl) (show (!(x.fTags.toList == y.fTags.toList)) = false by rw [hc91]; rfl)
 refine op_wq F94 ?_
 refine op_q F94 (.pointer (some ⟨g1, 8, none⟩)) ?_; intro a95 F95
 refine op_wq F95 ?_
 refine op_rq (v := .string x.fAppVersion) F95 (r_ld rfl (F95.e (.pointer (some ⟨g1, 8, none⟩))) (v := .string x.fAppVersion) ((S5.bk 1 rfl).cell 8) Try.underlying9 rfl) ?_; intro a96 F96
 refine op_wq F96 ?_
 refine op_q F96 (.pointer (some ⟨g3, 8, none⟩)) ?_; intro a97 F97
 refine op_wq F97 ?_
 refine op_rq (v := .string y.fAppVersion) F97 (r_ld rfl (F97.e (.pointer (some ⟨g3, 8, none⟩))) (v := .string y.fAppVersion) ((S5.bk 0 rfl).cell 8) Try.underlying9 rfl) ?_; intro a98 F98
 refine op_wq F98 ?_
 refine op_q F98 (.bool (!(x.fAppVersion.toList == y.fAppVersion.toList))) ?_; intro a99 F99
 refine op_q F99 (.bool (!(x.fAppVersion.toList == y.fAppVersion.toList))) ?_; intro a100 F100
 refine op_q F100 (.bool (!(x.fAppVersion.toList == y.fAppVersion.toList))) ?_; intro a101 F101
 have hc102 : (x.fAppVersion.toList == y.fAppVersion.toList) = true := (by rw [hn_AppVersion]; exact beq_self_eq_true _)
 have F103 := F101.sb 68 (by kernel_rfl) (show (!(x.fAppVersion.toList == y.fAppVersion.toList)) = false by rw [hc102]; rfl)
 have F104 := F103.sb 69 (by kernel_rfl) (show (!(x.fAppVersion.toList == y.fAppVersion.toList)) = false by rw [hc102]; rfl)
 have F105 := F104.sb 70 (by kernel_rfl) (show (!(x.fAppVersion.toList == y.fAppVersion.toList)) = false by rw [hc102]; rfl)
 refine op_wq F105 ?_
 refine op_q F105 (.pointer (some ⟨g1, 9, none⟩)) ?_; intro a106 F106
 refine op_wq F106 ?_
 refine op_rq (v := .string x.fKubeVersion) F106 (r_ld rfl (F106.e (.pointer (some ⟨g1, 9, none⟩))) (v := .string x.fKubeVersion) ((S5.bk 1 rfl).cell 9) Try.underlying9 rfl) ?_; intro a107 F107
 refine op_wq F107 ?_
 refine op_q F107 (.pointer (some ⟨g3, 9, none⟩)) ?_; intro a108 F108
 refine op_wq F108 ?_
 refine op_rq (v := .string y.fKubeVersion) F108 (r_ld rfl (F108.e (.pointer (some ⟨g3, 9, none⟩))) (v := .string y.fKubeVersion) ((S5.bk 0 rfl).cell 9) Try.underlying9 rfl) ?_; intro a109 F109
 refine op_wq F109 ?_
 refine op_q F109 (.bool (!(x.fKubeVersion.toList == y.fKubeVersion.toList))) ?_; intro a110 F110
 refine op_q F110 (.bool (!(x.fKubeVersion.toList == y.fKubeVersion.toList))) ?_; intro a111 F111
 refine op_q F111 (.bool (!(x.fKubeVersion.toList == y.fKubeVersion.toList))) ?_; intro a112 F112
 have hc113 : (x.fKubeVersion.toList == y.fKubeVersion.toList) = true := (by rw [hn_KubeVersion]; exact beq_self_eq_true _)
 have F114 := F112.sb 75 (by kernel_rfl) (show (!(x.fKubeVersion.toList == y.fKubeVersion.toList)) = false by rw [hc113]; rfl)
 have F115 := F114.sb 76 (by kernel_rfl) (show (!(x.fKubeVersion.toList == y.fKubeVersion.toList)) = false by rw [hc113]; rfl)
 have F116 := F115.sb 77 (by kernel_rfl) (show (!(x.fKubeVersion.toList == y.fKubeVersion.toList)) = false by rw [hc113]; rfl)
 refine op_wq F116 ?_
 refine op_q F116 (.pointer (some ⟨g1, 10, none⟩)) ?_; intro a117 F117
 refine op_wq F117 ?_
 refine op_rq (v := .string x.fType) F117 (r_ld rfl (F117.e (.pointer (some ⟨g1, 10, none⟩))) (v := .string x.fType) ((S5.bk 1 rfl).cell 10) Try.underlying9 rfl) ?_; intro a118 F118
 refine op_wq F118 ?_
 refine op_q F118 (.pointer (some ⟨g3, 10, none⟩)) ?_; intro a119 F119
 refine op_wq F119 ?_
 refine op_rq (v := .string y.fType) F119 (r_ld rfl (F119.e (.pointer (some ⟨g3, 10, none⟩))) (v := .string y.fType) ((S5.bk 0 rfl).cell 10) Try.underlying9 rfl) ?_; intro a120 F120
 refine op_wq F120 ?_
 refine op_q F120 (.bool (!(x.fType.toList == y.fType.toList))) ?_; intro a121 F121
 refine op_q F121 (.bool (!(x.fType.toList == y.fType.toList))) ?_; intro a122 F122
 refine wpList_nil ?_
 refine hK8 _ _ ?_; clear hK8 K8
 have hc123 : (x.fType.toList == y.fType.toList) = true := (by rw [hn_Type]; exact beq_self_eq_true _)
 have F124 := F122.sb 82 (by kernel_rfl) (show (!(x.fType.toList == y.fType.toList)) = false by rw [hc123]; rfl)
 have F125 := F124.sb 83 (by kernel_rfl) (show (!(x.fType.toList == y.fType.toList)) = false by rw [hc123]; rfl)
 refine wp_cond_false (F125.ev (by kernel_rfl)) ?_
 refine wp_skip ?_
 refine hK7 _ _ ?_; clear hK7 K7
 refine wp_seq_k fun K126 hK126 => ?_
 refine wp_seq_k fun K127 hK127 => ?_
 refine wp_region_lit ?_
 refine op_q F125 (.pointer (some ⟨g1, 11, none⟩)) ?_; intro a128 F128
 refine op_rq (v := .slice (x.fSources_a) (x.fSources.length) (x.fSources_c)) F128 (r_ld rfl (F128.e (.pointer (some ⟨g1, 11, none⟩))) (v := .slice (x.fSources_a) (x.fSources.length) (x.fSources_c)) ((S5.bk 1 rfl).cell 11) Try.underlying22 rfl) ?_; intro a129 F129
 refine op_q F129 (.pointer (some ⟨g3, 11, none⟩)) ?_; intro a130 F130
 refine op_rq (v := .slice (y.fSources_a) (y.fSources.length) (y.fSources_c)) F130 (r_ld rfl (F130.e (.pointer (some ⟨g3, 11, none⟩))) (v := .slice (y.fSources_a) (y.fSources.length) (y.fSources_c)) ((S5.bk 0 rfl).cell 11) Try.underlying22 rfl) ?_; intro a131 F131
 refine op_cq F131 (f := 123) (args := #[.slice (x.fSources_a) (x.fSources.length) (x.fSources_c), .slice (y.fSources_a) (y.fSources.length) (y.fSources_c)]) (chTexts_eq x.fSources_a x.fSources_c x.fSources y.fSources_a y.fSources_c y.fSources _ _ _ S5 (fun w S => k0 w S.drop.drop) (fun w S => k1 w S.drop.drop) (by with_reducible assumption)) ?_
 rintro _ w132 ⟨rfl, S132⟩
 refine ⟨_, rfl, ?_⟩
 intro a133 F133
 refine op_q F133 (.bool false) ?_; intro a134 F134
 refine op_q F134 (.bool false) ?_; intro a135 F135
 refine op_wq F135 ?_
 refine op_q F135 (.pointer (some ⟨g1, 12, none⟩)) ?_; intro a136 F136
 refine op_wq F136 ?_
 refine op_rq (v := .slice (x.fKeywords_a) (x.fKeywords.length) (x.fKeywords_c)) F136 (r_ld rfl (F136.e (.pointer (some ⟨g1, 12, none⟩))) (v := .slice (x.fKeywords_a) (x.fKeywords.length) (x.fKeywords_c)) ((S132.bk 1 rfl).cell 12) Try.underlying22 rfl) ?_; intro a137 F137
 refine op_wq F137 ?_
 refine op_q F137 (.pointer (some ⟨g3, 12, none⟩)) ?_; intro a138 F138
 refine op_wq F138 ?_
 refine op_rq (v := .slice (y.fKeywords_a) (y.fKeywords.length) (y.fKeywords_c)) F138 (r_ld rfl (F138.e (.pointer (some ⟨g3, 12, none⟩))) (v := .slice (y.fKeywords_a) (y.fKeywords.length) (y.fKeywords_c)) ((S132.bk 0 rfl).cell 12) Try.underlying22 rfl) ?_; intro a139 F139
 refine op_wq F139 ?_
 refine op_cq F139 (f := 123) (args := #[.slice (x.fKeywords_a) (x.fKeywords.length) (x.fKeywords_c), .slice (y.fKeywords_a) (y.fKeywords.length) (y.fKeywords_c)]) (chTexts_eq x.fKeywords_a x.fKeywords_c x.fKeywords y.fKeywords_a y.fKeywords_c y.fKeywords _ _ _ S132 (fun w S => k2 w S.drop.drop) (fun w S => k3 w S.drop.drop) (by with_reducible assumption)) ?_
 rintro _ w140 ⟨rfl, S140⟩
 refine ⟨_, rfl, ?_⟩
 intro a141 F141
 refine op_wq F141 ?_
 refine op_q F141 (.bool false) ?_; intro a142 F142
 refine op_q F142 (.bool false) ?_; intro a143 F143
 refine op_q F143 (.bool false) ?_; intro a144 F144
 refine op_wq F144 ?_
 refine op_q F144 (.pointer (some ⟨g1, 13, none⟩)) ?_; intro a145 F145
 refine op_wq F145 ?_
 refine op_rq (v := .slice (x.fMaintainers_a) (x.fMaintainers.length) (x.fMaintainers_c)) F145 (r_ld rfl (F145.e (.pointer (some ⟨g1, 13, none⟩))) (v := .slice (x.fMaintainers_a) (x.fMaintainers.length) (x.fMaintainers_c)) ((S140.bk 1 rfl).cell 13) Try.underlying23 rfl) ?_; intro a146 F146
 refine op_wq F146 ?_
 refine op_q F146 (.int .i64 (↑x.fMaintainers.length)) ?_; intro a147 F147
 refine op_wq F147 ?_
 refine op_q F147 (.pointer (some ⟨g3, 13, none⟩)) ?_; intro a148 F148
 refine op_wq F148 ?_
 refine op_rq (v := .slice (y.fMaintainers_a) (y.fMaintainers.length) (y.fMaintainers_c)) F148 (r_ld rfl (F148.e (.pointer (some ⟨g3, 13, none⟩))) (v := .slice (y.fMaintainers_a) (y.fMaintainers.length) (y.fMaintainers_c)) ((S140.bk 0 rfl).cell 13) Try.underlying23 rfl) ?_; intro a149 F149
 refine op_wq F149 ?_
 refine op_q F149 (.int .i64 (↑y.fMaintainers.length)) ?_; intro a150 F150
 refine op_wq F150 ?_
 refine op_q F150 (.bool (!((↑x.fMaintainers.length : Int) == ↑y.fMaintainers.length))) ?_; intro a151 F151
 refine op_q F151 (.bool (!((↑x.fMaintainers.length : Int) == ↑y.fMaintainers.length))) ?_; intro a152 F152
 refine op_q F152 (.bool (!((↑x.fMaintainers.length : Int) == ↑y.fMaintainers.length))) ?_; intro a153 F153
 have hc154 : ((↑x.fMaintainers.length : Int) == ↑y.fMaintainers.length) = true := (by rw [eMl]; exact beq_self_eq_true _)
 have F155 := F153.sb 105 (by kernel_rfl) (show (!((↑x.fMaintainers.length : Int) == ↑y.fMaintainers.length)) = false by rw [hc154]; rfl)
 have F156 := F155.sb 106 (by kernel_rfl) (show (!((↑x.fMaintainers.length : Int) == ↑y.fMaintainers.length)) = false by rw [hc154]; rfl)
 have F157 := F156.sb 107 (by kernel_rfl) (show (!((↑x.fMaintainers.length : Int) == ↑y.fMaintainers.length)) = false by rw [hc154]; rfl)
 refine op_wq F157 ?_
 refine op_q F157 (.pointer (some ⟨g1, 14, none⟩)) ?_; intro a158 F158
 refine op_wq F158 ?_
 refine op_rq (v := .slice (x.fDependencies_a) (x.fDependencies.length) (x.fDependencies_c)) F158 (r_ld rfl (F158.e (.pointer (some ⟨g1, 14, none⟩))) (v := .slice (x.fDependencies_a) (x.fDependencies.length) (x.fDependencies_c)) ((S140.bk 1 rfl).cell 14) Try.underlying24 rfl) ?_; intro a159 F159
 refine op_wq F159 ?_
 refine op_q F159 (.int .i64 (↑x.fDependencies.length)) ?_; intro a160 F160
 refine op_wq F160 ?_
 refine op_q F160 (.pointer (some ⟨g3, 14, none⟩)) ?_; intro a161 F161
 refine op_wq F161 ?_
 refine op_rq (v := .slice (y.fDependencies_a) (y.fDependencies.length) (y.fDependencies_c)) F161 (r_ld rfl (F161.e (.pointer (some ⟨g3, 14, none⟩))) (v := .slice (y.fDependencies_a) (y.fDependencies.length) (y.fDependencies_c)) ((S140.bk 0 rfl).cell 14) Try.underlying24 rfl) ?_; intro a162 F162
 refine op_wq F162 ?_
 refine op_q F162 (.int .i64 (↑y.fDependencies.length)) ?_; intro a163 F163
 refine op_wq F163 ?_
 refine op_q F163 (.bool (!((↑x.fDependencies.length : Int) == ↑y.fDependencies.length))) ?_; intro a164 F164
 refine op_q F164 (.bool (!((↑x.fDependencies.length : Int) == ↑y.fDependencies.length))) ?_; intro a165 F165
 refine wpList_nil ?_
 refine hK127 _ _ ?_; clear hK127 K127
 have hc166 : ((↑x.fDependencies.length : Int) == ↑y.fDependencies.length) = true := (by rw [eDl]; exact beq_self_eq_true _)
 have F167 := F165.sb 114 (by kernel_rfl) (show (!((↑x.fDependencies.length : Int) == ↑y.fDependencies.length)) = false by rw [hc166]; rfl)
 have F168 := F167.sb 115 (by kernel_rfl) (show (!((↑x.fDependencies.length : Int) == ↑y.fDependencies.length)) = false by rw [hc166]; rfl)
 refine wp_cond_false (F168.ev (by kernel_rfl)) ?_
 refine wp_skip ?_
 refine hK126 _ _ ?_; clear hK126 K126
 refine wp_seq_k fun K169 hK169 => ?_
 refine wp_seq_k fun K170 hK170 => ?_
 refine wp_region_lit ?_
 refine op_q F168 (.pointer (some ⟨g1, 13, none⟩)) ?_; intro a171 F171
 refine op_rq (v := .slice (x.fMaintainers_a) (x.fMaintainers.length) (x.fMaintainers_c)) F171 (r_ld rfl (F171.e (.pointer (some ⟨g1, 13, none⟩))) (v := .slice (x.fMaintainers_a) (x.fMaintainers.length) (x.fMaintainers_c)) ((S140.bk 1 rfl).cell 13) Try.underlying23 rfl) ?_; intro a172 F172
 refine op_q F172 (.int .i64 (↑x.fMaintainers.length)) ?_; intro a173 F173
 refine op_q F173 (.int .i64 0) ?_; intro a174 F174
 refine wpList_nil ?_
 refine hK170 _ _ ?_; clear hK170 K170
 refine wp_block ?_
 refine fw_loop (fun m' a' w' => ∃ k : Nat, x.fMaintainers.length - k = m' ∧ Fr 149 [] a' [(2, .pointer (some ⟨g1, 0, none⟩)), (3, .pointer (some ⟨g3, 0, none⟩)), (117, .slice (x.fMaintainers_a) (x.fMaintainers.length) (x.fMaintainers_c)), (118, .int .i64 (↑x.fMaintainers.length)), (119, .int .i64 (↑k))] ∧ Sp R w' (SA.blk g3 26 (zq2 y) :: SA.blk g1 26 (zq2 x) :: L) ∧ (k ≤ x.fMaintainers.length)) _ ⟨0, rfl, (F174.kk 2 (F174.kk 3 (F174.kk 117 (F174.kk 118 (F174.kk 119 F174.nil))))), S140.p1.p1, (by first | omega | (with_reducible assumption) | (simp; done))⟩ ?_
 rintro m175 a175 w175 ⟨k, hm175, F175, S175, hk⟩ K175 hK175
 by_cases hlt_k : k < x.fMaintainers.length
 ·have hc_k : decide ((↑k : Int) < ↑x.fMaintainers.length) = true := by first | (simp; done) | (simp; omega)
  obtain ⟨ad176, hA176⟩ := (k4 _ S175.drop.drop).addr (by simp; omega)
  obtain ⟨ad177, hA177⟩ := (k5 _ S175.drop.drop).addr (by simp; omega)
  refine wp_seq_k fun K178 hK178 => ?_
  refine wp_region_lit ?_
  refine op_q F175 (.bool (decide ((↑k : Int) < ↑x.fMaintainers.length))) ?_; intro a179 F179
  have F180 := F179.sb 120 (by kernel_rfl) hc_k
  refine wpList_nil ?_
  refine hK178 _ _ ?_; clear hK178 K178
  refine wp_seq_k fun K181 hK181 => ?_
  refine wp_cond_true (F180.ev (by kernel_rfl)) ?_
  refine wp_skip ?_
  refine hK181 _ _ ?_; clear hK181 K181
  refine wp_seq_k fun K182 hK182 => ?_
  refine wp_block ?_
  refine wp_seq_k fun K183 hK183 => ?_
  refine wp_region_lit ?_
  refine op_q F180 (.int .i64 (↑k)) ?_; intro a184 F184
  refine op_rq (v := .pointer (some (ad176.add (k * 4)))) F184 (r_ix rfl Try.underlying23 4 (by kernel_rfl) (F184.e (.slice (x.fMaintainers_a) (x.fMaintainers.length) (x.fMaintainers_c))) hA176 (F184.e (.int .i64 (↑k))) k (by first | rfl | omega | simp) (by first | omega | (simp; done) | (simp; omega)) (rfl)) ?_; intro a185 F185
  refine op_rq (v := .agg (zq4 x.fMaintainers[k])) F185 (r_ldR rfl (F185.e (.pointer (some (ad176.add (k * 4))))) (cs := [.bool x.fMaintainers[k].fNil, .string x.fMaintainers[k].fName, .string x.fMaintainers[k].fEmail, .string x.fMaintainers[k].fURL]) ((k4 _ S175.drop.drop).elA hA176 (j := k) (row := x.fMaintainers[k].cells) (by rw [List.getElem?_map, List.getElem?_eq_getElem hlt_k]; rfl)) Try.underlying78 rfl (by kernel_rfl) (v := (zq4 x.fMaintainers[k])) (by kernel_rfl)) ?_; intro a186 F186
  refine op_sq F186 (s_newp F186 78 #[.bool false, .string ⟨#[]⟩, .string ⟨#[]⟩, .string ⟨#[]⟩] (by kernel_rfl) (by kernel_rfl) (by kernel_rfl) S175) ?_
  rintro _ _ w188 ⟨g186, rfl, rfl⟩ S188 a188 F188
  refine op_q F188 (.int .i64 (↑k)) ?_; intro a189 F189
  refine op_sq0 F189 (s_stb rfl (F189.e (.pointer (some ⟨g186, 0, none⟩))) (F189.e (.agg (zq4 x.fMaintainers[k]))) S188 (by kernel_rfl) rfl (by kernel_rfl)) ?_
  rintro _ _ w190 rfl S190 F190
  refine wpList_nil ?_
  refine hK183 _ _ ?_; clear hK183 K183
  refine wp_seq_k fun K191 hK191 => ?_
  refine wp_region_sepF (L0 := SA.blk g186 78 (zq4 x.fMaintainers[k]) :: SA.blk g3 26 (zq2 y) :: SA.blk g1 26 (zq2 x) :: L) [some [], some [], some [(1, 125)], some [], some [(2, 126), (3, 127)], some [(4, 128)], some [(0, 124), (5, 129)]] [.v 124 (.agg (zq4 x.fMaintainers[k])), .v 125 (.pointer (some ⟨g3, 13, none⟩)), .v 126 (.slice (y.fMaintainers_a) (y.fMaintainers.length) (y.fMaintainers_c)), .v 127 (.int .i64 (↑k)), .v 128 (.pointer (some (ad177.add (k * 4)))), .v 129 (.agg (zq4 x.fMaintainers[k])), .v 130 (.bool (!((x.fMaintainers[k].fNil == x.fMaintainers[k].fNil) && (x.fMaintainers[k].fName.toList == x.fMaintainers[k].fName.toList) && (x.fMaintainers[k].fEmail.toList == x.fMaintainers[k].fEmail.toList) && (x.fMaintainers[k].fURL.toList == x.fMaintainers[k].fURL.toList))))] [] F190 rfl (by kernel_rfl) S190 ?_ ?_
  ·refine ⟨?_, ?_, ?_, ?_, ?_, ?_, ?_, trivial⟩
   ·intro w206 M206
    intro a206 F206 S206
    refine obl_of (by rfl) ?_
    exact s_r (v := .agg (zq4 x.fMaintainers[k])) (r_ldm rfl (F206.e (.pointer (some ⟨g186, 0, none⟩))) ((Sp.dropM S206.drop).bk 0 rfl) 4 (by kernel_rfl) Try.underlying78 rfl (by kernel_rfl) (v := (zq4 x.fMaintainers[k])) (by kernel_rfl)) S206
   ·intro w207 M207
    intro a207 F207 S207
    refine obl_of (by rfl) ?_
    exact s_p F207 (v := .pointer (some ⟨g3, 13, none⟩)) (by kernel_rfl) (by kernel_rfl) (by kernel_rfl) S207
   ·intro w208 M208
    intro a208 F208 S208
    refine obl_of (by rfl) ?_
    exact s_r (v := .slice (y.fMaintainers_a) (y.fMaintainers.length) (y.fMaintainers_c)) (r_ld rfl (F208.e (.pointer (some ⟨g3, 13, none⟩))) (v := .slice (y.fMaintainers_a) (y.fMaintainers.length) (y.fMaintainers_c)) (((Sp.dropM S208.drop).bk 1 rfl).cell 13) Try.underlying23 rfl) S208
   ·intro w210 M210
    intro a210 F210 S210
    refine obl_of (by rfl) ?_
    exact s_p F210 (v := .int .i64 (↑k)) (by kernel_rfl) (by kernel_rfl) (by kernel_rfl) S210
   ·intro w211 M211
    intro a211 F211 S211
    refine obl_of (by rfl) ?_
    exact s_r (v := .pointer (some (ad177.add (k * 4)))) (r_ix rfl Try.underlying23 4 (by kernel_rfl) (F211.e (.slice (y.fMaintainers_a) (y.fMaintainers.length) (y.fMaintainers_c))) hA177 (F211.e (.int .i64 (↑k))) k (by first | rfl | omega | simp) (by first | omega | (simp; done) | (simp; omega)) (rfl)) S211
   ·intro w214 M214
    intro a214 F214 S214
    refine obl_of (by rfl) ?_
    exact s_r (v := .agg (zq4 x.fMaintainers[k])) (r_ldR rfl (F214.e (.pointer (some (ad177.add (k * 4))))) (cs := [.bool x.fMaintainers[k].fNil, .string x.fMaintainers[k].fName, .string x.fMaintainers[k].fEmail, .string x.fMaintainers[k].fURL]) ((k5 _ (Sp.dropM S214.drop).drop.drop.drop).elA hA177 (j := k) (row := x.fMaintainers[k].cells) (by rw [List.getElem?_map, List.getElem?_eq_getElem hlt_k]; rfl)) Try.underlying78 rfl (by kernel_rfl) (v := (zq4 x.fMaintainers[k])) (by kernel_rfl)) S214
   ·intro w216 M216
    intro a216 F216 S216
    refine obl_of (by rfl) ?_
    exact s_r (v := .bool (!((x.fMaintainers[k].fNil == x.fMaintainers[k].fNil) && (x.fMaintainers[k].fName.toList == x.fMaintainers[k].fName.toList) && (x.fMaintainers[k].fEmail.toList == x.fMaintainers[k].fEmail.toList) && (x.fMaintainers[k].fURL.toList == x.fMaintainers[k].fURL.toList)))) (r_eq (neqT78 x.fMaintainers[k].fNil x.fMaintainers[k].fNil x.fMaintainers[k].fName x.fMaintainers[k].fName x.fMaintainers[k].fEmail x.fMaintainers[k].fEmail x.fMaintainers[k].fURL x.fMaintainers[k].fURL _) rfl (F216.e (.agg (zq4 x.fMaintainers[k]))) (F216.e (.agg (zq4 x.fMaintainers[k]))) (by kernel_rfl)) S216
  ·intro a221 w220 F221 S220
   have S222 : Sp R w220 (SA.blk g186 78 (zq4 x.fMaintainers[k]) :: SA.blk g3 26 (zq2 y) :: SA.blk g1 26 (zq2 x) :: L) := S220
   refine wpList_nil ?_
   refine hK191 _ _ ?_; clear hK191 K191
   have hc223 : ((x.fMaintainers[k].fNil == x.fMaintainers[k].fNil) && (x.fMaintainers[k].fName.toList == x.fMaintainers[k].fName.toList) && (x.fMaintainers[k].fEmail.toList == x.fMaintainers[k].fEmail.toList) && (x.fMaintainers[k].fURL.toList == x.fMaintainers[k].fURL.toList)) = true := (by simp)
   have F224 := F221.sb 130 (by kernel_rfl) (show (!((x.fMaintainers[k].fNil == x.fMaintainers[k].fNil) && (x.fMaintainers[k].fName.toList == x.fMaintainers[k].fName.toList) && (x.fMaintainers[k].fEmail.toList == x.fMaintainers[k].fEmail.toList) && (x.fMaintainers[k].fURL.toList == x.fMaintainers[k].fURL.toList))) = false by rw [hc223]; rfl)
   refine wp_cond_false (F224.ev (by kernel_rfl)) ?_
   refine wp_skip ?_
   refine hK182 _ _ ?_; clear hK182 K182
   refine wp_region_lit ?_
   refine op_rq (v := .int .i64 (↑(k + 1))) F224 (r_add (z := ↑(k + 1)) rfl (F224.e (.int .i64 (↑k))) (F224.e (.int .i64 1)) (wr64 (by omega) (by omega) (by omega))) ?_; intro a225 F225
   refine op_q F225 (.int .i64 (↑(k + 1))) ?_; intro a226 F226
   refine wpList_nil ?_
   exact hK175 _ _ _ (by first | omega | (simp; omega)) ⟨k + 1, rfl, (F226.kk 2 (F226.kk 3 (F226.kk 117 (F226.kk 118 (F226.kk 119 F226.nil))))), S222.drop.p1.p1, (by first | omega | (with_reducible assumption) | (simp; done))⟩
 ·have hc_k : decide ((↑k : Int) < ↑x.fMaintainers.length) = false := by first | (simp; done) | (simp; omega)
  refine wp_seq_k fun K227 hK227 => ?_
  refine wp_region_lit ?_
  refine op_q F175 (.bool (decide ((↑k : Int) < ↑x.fMaintainers.length))) ?_; intro a228 F228
  have F229 := F228.sb 120 (by kernel_rfl) hc_k
  refine wpList_nil ?_
  refine hK227 _ _ ?_; clear hK227 K227
  refine wp_seq_k fun K230 hK230 => ?_
  refine wp_cond_false (F229.ev (by kernel_rfl)) ?_
  refine wp_exit ?_
  refine ex_then ?_; clear hK230 K230
  refine ex_then ?_
  refine ex_in ?_
  refine hK169 _ _ ?_; clear hK169 K169
  refine wp_seq_k fun K231 hK231 => ?_
  refine wp_seq_k fun K232 hK232 => ?_
  refine wp_region_lit ?_
  refine op_q F229 (.pointer (some ⟨g1, 14, none⟩)) ?_; intro a233 F233
  refine op_rq (v := .slice (x.fDependencies_a) (x.fDependencies.length) (x.fDependencies_c)) F233 (r_ld rfl (F233.e (.pointer (some ⟨g1, 14, none⟩))) (v := .slice (x.fDependencies_a) (x.fDependencies.length) (x.fDependencies_c)) ((S175.bk 1 rfl).cell 14) Try.underlying24 rfl) ?_; intro a234 F234
  refine op_q F234 (.int .i64 (↑x.fDependencies.length)) ?_; intro a235 F235
  refine op_q F235 (.int .i64 0) ?_; intro a236 F236
  refine wpList_nil ?_
  refine hK232 _ _ ?_; clear hK232 K232
  refine wp_block ?_
  refine fw_loop (fun m' a' w' => ∃ j : Nat, x.fDependencies.length - j = m' ∧ Fr 149 [] a' [(3, .pointer (some ⟨g3, 0, none⟩)), (133, .slice (x.fDependencies_a) (x.fDependencies.length) (x.fDependencies_c)), (134, .int .i64 (↑x.fDependencies.length)), (135, .int .i64 (↑j))] ∧ Sp R w' (SA.blk g3 26 (zq2 y) :: SA.blk g1 26 (zq2 x) :: L) ∧ (j ≤ x.fDependencies.length)) _ ⟨0, rfl, (F236.kk 3 (F236.kk 133 (F236.kk 134 (F236.kk 135 F236.nil)))), S175.p1.p1, (by first | omega | (with_reducible assumption) | (simp; done))⟩ ?_
  rintro m237 a237 w237 ⟨j, hm237, F237, S237, hj⟩ K237 hK237
  by_cases hlt_j : j < x.fDependencies.length
  ·have hc_j : decide ((↑j : Int) < ↑x.fDependencies.length) = true := by first | (simp; done) | (simp; omega)
   have hlt_j2 : j < y.fDependencies.length := by omega
   have hdj : depS x.fDependencies[j] = depS y.fDependencies[j] := by have := congrArg (fun l => l[j]?) eD; simpa [List.getElem?_eq_getElem hlt_j, List.getElem?_eq_getElem hlt_j2] using this
   have t0 : Rf R L fun w => Sl w x.fDependencies[j].fTags_a (strs x.fDependencies[j].fTags) := fun w S => (h0 w S).2.2.2.2 _ (List.getElem_mem hlt_j)
   have t1 : Rf R L fun w => Sl w y.fDependencies[j].fTags_a (strs y.fDependencies[j].fTags) := fun w S => (h1 w S).2.2.2.2 _ (List.getElem_mem hlt_j2)
   obtain ⟨ad238, hA238⟩ := (k6 _ S237.drop.drop).addr (by simp; omega)
   obtain ⟨ad239, hA239⟩ := (k7 _ S237.drop.drop).addr (by simp; omega)
   refine wp_seq_k fun K240 hK240 => ?_
   refine wp_region_lit ?_
   refine op_q F237 (.bool (decide ((↑j : Int) < ↑x.fDependencies.length))) ?_; intro a241 F241
   have F242 := F241.sb 136 (by kernel_rfl) hc_j
   refine wpList_nil ?_
   refine hK240 _ _ ?_; clear hK240 K240
   refine wp_seq_k fun K243 hK243 => ?_
   refine wp_cond_true (F242.ev (by kernel_rfl)) ?_
   refine wp_skip ?_
   refine hK243 _ _ ?_; clear hK243 K243
   refine wp_seq_k fun K244 hK244 => ?_
   refine wp_block ?_
   refine wp_seq_k fun K245 hK245 => ?_
   refine wp_region_lit ?_
   refine op_q F242 (.int .i64 (↑j)) ?_; intro a246 F246
   refine op_rq (v := .pointer (some (ad238.add (j * 7)))) F246 (r_ix rfl Try.underlying24 7 (by kernel_rfl) (F246.e (.slice (x.fDependencies_a) (x.fDependencies.length) (x.fDependencies_c))) hA238 (F246.e (.int .i64 (↑j))) j (by first | rfl | omega | simp) (by first | omega | (simp; done) | (simp; omega)) (rfl)) ?_; intro a247 F247
   refine op_rq (v := .agg (zq5 x.fDependencies[j])) F247 (r_ldR rfl (F247.e (.pointer (some (ad238.add (j * 7))))) (cs := [.bool x.fDependencies[j].fNil, .string x.fDependencies[j].fName, .string x.fDependencies[j].fVersion, .string x.fDependencies[j].fRepository, .string x.fDependencies[j].fCondition, .slice x.fDependencies[j].fTags_a x.fDependencies[j].fTags.length x.fDependencies[j].fTags_c, .string x.fDependencies[j].fAlias]) ((k6 _ S237.drop.drop).elA hA238 (j := j) (row := x.fDependencies[j].cells) (by rw [List.getElem?_map, List.getElem?_eq_getElem hlt_j]; rfl)) Try.underlying80 rfl (by kernel_rfl) (v := (zq5 x.fDependencies[j])) (by kernel_rfl)) ?_; intro a248 F248
   refine op_sq F248 (s_newp F248 80 zq6 (by kernel_rfl) (by kernel_rfl) (by kernel_rfl) S237) ?_
   rintro _ _ w250 ⟨g248, rfl, rfl⟩ S250 a250 F250
   refine op_q F250 (.int .i64 (↑j)) ?_; intro a251 F251
   refine op_sq0 F251 (s_stb rfl (F251.e (.pointer (some ⟨g248, 0, none⟩))) (F251.e (.agg (zq5 x.fDependencies[j]))) S250 (by kernel_rfl) rfl (by kernel_rfl)) ?_
   rintro _ _ w252 rfl S252 F252
   refine wpList_nil ?_
   refine hK245 _ _ ?_; clear hK245 K245
   refine wp_seq_k fun K253 hK253 => ?_
   refine wp_region_sepF (L0 := SA.blk g248 80 (zq5 x.fDependencies[j]) :: SA.blk g3 26 (zq2 y) :: SA.blk g1 26 (zq2 x) :: L) [some [], some [], some [(1, 141)], some [], some [(2, 142), (3, 143)], some [(4, 144)], some [(0, 140), (5, 145)], some [(6, 146)]] [.v 140 (.agg (zq5 x.fDependencies[j])), .v 141 (.pointer (some ⟨g3, 14, none⟩)), .v 142 (.slice (y.fDependencies_a) (y.fDependencies.length) (y.fDependencies_c)), .v 143 (.int .i64 (↑j)), .v 144 (.pointer (some (ad239.add (j * 7)))), .v 145 (.agg (zq5 y.fDependencies[j])), .v 146 (.bool true), .v 147 (.bool false)] [] F252 rfl (by kernel_rfl) S252 ?_ ?_
   ·refine ⟨?_, ?_, ?_, ?_, ?_, ?_, ?_, ?_, trivial⟩
    ·intro w270 M270
     intro a270 F270 S270
     refine obl_of (by rfl) ?_
     exact s_r (v := .agg (zq5 x.fDependencies[j])) (r_ldm rfl (F270.e (.pointer (some ⟨g248, 0, none⟩))) ((Sp.dropM S270.drop).bk 0 rfl) 7 (by kernel_rfl) Try.underlying80 rfl (by kernel_rfl) (v := (zq5 x.fDependencies[j])) (by kernel_rfl)) S270
    ·intro w271 M271
     intro a271 F271 S271
     refine obl_of (by rfl) ?_
     exact s_p F271 (v := .pointer (some ⟨g3, 14, none⟩)) (by kernel_rfl) (by kernel_rfl) (by kernel_rfl) S271
    ·intro w272 M272
     intro a272 F272 S272
     refine obl_of (by rfl) ?_
     exact s_r (v := .slice (y.fDependencies_a) (y.fDependencies.length) (y.fDependencies_c)) (r_ld rfl (F272.e (.pointer (some ⟨g3, 14, none⟩))) (v := .slice (y.fDependencies_a) (y.fDependencies.length) (y.fDependencies_c)) (((Sp.dropM S272.drop).bk 1 rfl).cell 14) Try.underlying24 rfl) S272
    ·intro w274 M274
     intro a274 F274 S274
     refine obl_of (by rfl) ?_
     exact s_p F274 (v := .int .i64 (↑j)) (by kernel_rfl) (by kernel_rfl) (by kernel_rfl) S274
    ·intro w275 M275
     intro a275 F275 S275
     refine obl_of (by rfl) ?_
     exact s_r (v := .pointer (some (ad239.add (j * 7)))) (r_ix rfl Try.underlying24 7 (by kernel_rfl) (F275.e (.slice (y.fDependencies_a) (y.fDependencies.length) (y.fDependencies_c))) hA239 (F275.e (.int .i64 (↑j))) j (by first | rfl | omega | simp) (by first | omega | (simp; done) | (simp; omega)) (rfl)) S275
    ·intro w278 M278
     intro a278 F278 S278
     refine obl_of (by rfl) ?_
     exact s_r (v := .agg (zq5 y.fDependencies[j])) (r_ldR rfl (F278.e (.pointer (some (ad239.add (j * 7))))) (cs := [.bool y.fDependencies[j].fNil, .string y.fDependencies[j].fName, .string y.fDependencies[j].fVersion, .string y.fDependencies[j].fRepository, .string y.fDependencies[j].fCondition, .slice y.fDependencies[j].fTags_a y.fDependencies[j].fTags.length y.fDependencies[j].fTags_c, .string y.fDependencies[j].fAlias]) ((k7 _ (Sp.dropM S278.drop).drop.drop.drop).elA hA239 (j := j) (row := y.fDependencies[j].cells) (by rw [List.getElem?_map, List.getElem?_eq_getElem hlt_j2]; rfl)) Try.underlying80 rfl (by kernel_rfl) (v := (zq5 y.fDependencies[j])) (by kernel_rfl)) S278
    ·intro w280 M280
     intro a280 F280 S280
     refine obl_of (by rfl) ?_
     refine s_c F280 (f := 124) (args := #[.agg (zq5 x.fDependencies[j]), .agg (zq5 y.fDependencies[j])]) (by kernel_rfl) (by kernel_rfl) (by kernel_rfl) (sameDep_yes x.fDependencies[j] y.fDependencies[j] _ _ _ S280.drop (fun w S => t0 w (Sp.dropM S).drop.drop.drop) (fun w S => t1 w (Sp.dropM S).drop.drop.drop) (by with_reducible assumption)) ?_
     rintro _ _ ⟨rfl, S283⟩
     exact ⟨_, _, rfl, ⟨rfl, rfl⟩, S283.emp⟩
    ·intro w284 M284
     intro a284 F284 S284
     refine obl_of (by rfl) ?_
     exact s_p F284 (v := .bool false) (by kernel_rfl) (by kernel_rfl) (by kernel_rfl) S284
   ·intro a287 w286 F287 S286
    have S288 : Sp R w286 (SA.blk g248 80 (zq5 x.fDependencies[j]) :: SA.blk g3 26 (zq2 y) :: SA.blk g1 26 (zq2 x) :: L) := S286
    refine wpList_nil ?_
    refine hK253 _ _ ?_; clear hK253 K253
    refine wp_cond_false (F287.ev (by kernel_rfl)) ?_
    refine wp_skip ?_
    refine hK244 _ _ ?_; clear hK244 K244
    refine wp_region_lit ?_
    refine op_rq (v := .int .i64 (↑(j + 1))) F287 (r_add (z := ↑(j + 1)) rfl (F287.e (.int .i64 (↑j))) (F287.e (.int .i64 1)) (wr64 (by omega) (by omega) (by omega))) ?_; intro a289 F289
    refine op_q F289 (.int .i64 (↑(j + 1))) ?_; intro a290 F290
    refine wpList_nil ?_
    exact hK237 _ _ _ (by first | omega | (simp; omega)) ⟨j + 1, rfl, (F290.kk 3 (F290.kk 133 (F290.kk 134 (F290.kk 135 F290.nil)))), S288.drop.p1.p1, (by first | omega | (with_reducible assumption) | (simp; done))⟩
  ·have hc_j : decide ((↑j : Int) < ↑x.fDependencies.length) = false := by first | (simp; done) | (simp; omega)
   refine wp_seq_k fun K291 hK291 => ?_
   refine wp_region_lit ?_
   refine op_q F237 (.bool (decide ((↑j : Int) < ↑x.fDependencies.length))) ?_; intro a292 F292
   have F293 := F292.sb 136 (by kernel_rfl) hc_j
   refine wpList_nil ?_
   refine hK291 _ _ ?_; clear hK291 K291
   refine wp_seq_k fun K294 hK294 => ?_
   refine wp_cond_false (F293.ev (by kernel_rfl)) ?_
   refine wp_exit ?_
   refine ex_then ?_; clear hK294 K294
   refine ex_then ?_
   refine ex_in ?_
   refine hK231 _ _ ?_; clear hK231 K231
   refine wp_seq_k fun K295 hK295 => ?_
   refine wp_region_lit ?_
   refine op_q F293 (.bool true) ?_; intro a296 F296
   refine wpList_nil ?_
   refine hK295 _ _ ?_; clear hK295 K295
   refine wp_ret ?_
   refine (F296.res1 rfl (v := .bool true) (by kernel_rfl) ?_).1
   exact ⟨rfl, S237.drop.drop⟩
end Go.Proofs.Ytkjcedlgljeoiaa

/- impl.Validate, spec.ChSays; the walk of FnValidMeta. -/
namespace Go.Proofs.Ytkjcedlgljeoiaa
open Go.RowKit Go.Lib
set_option linter.unusedVariables false
set_option linter.unusedSimpArgs false
def valP : ByteArray := ⟨#[118, 97, 108, 105, 100, 97, 116, 105, 111, 110, 58, 32]⟩
/-- What the reference says. -/
def saysV (f : Nat) : ByteArray := cond ((f : Int) == 1) ⟨#[118, 97, 108, 105, 100, 97, 116, 105, 111, 110, 58, 32, 99, 104, 97, 114, 116, 46, 109, 101, 116, 97, 100, 97, 116, 97, 46, 97, 112, 105, 86, 101, 114, 115, 105, 111, 110, 32, 105, 115, 32, 114, 101, 113, 117, 105, 114, 101, 100]⟩ (cond ((f : Int) == 2) ⟨#[118, 97, 108, 105, 100, 97, 116, 105, 111, 110, 58, 32, 99, 104, 97, 114, 116, 46, 109, 101, 116, 97, 100, 97, 116, 97, 46, 110, 97, 109, 101, 32, 105, 115, 32, 114, 101, 113, 117, 105, 114, 101, 100]⟩ (cond ((f : Int) == 4) ⟨#[118, 97, 108, 105, 100, 97, 116, 105, 111, 110, 58, 32, 99, 104, 97, 114, 116, 46, 109, 101, 116, 97, 100, 97, 116, 97, 46, 118, 101, 114, 115, 105, 111, 110, 32, 105, 115, 32, 114, 101, 113, 117, 105, 114, 101, 100]⟩ (cond ((f : Int) == 6) ⟨#[118, 97, 108, 105, 100, 97, 116, 105, 111, 110, 58, 32, 99, 104, 97, 114, 116, 46, 109, 101, 116, 97, 100, 97, 116, 97, 46, 116, 121, 112, 101, 32, 109, 117, 115, 116, 32, 98, 101, 32, 97, 112, 112, 108, 105, 99, 97, 116, 105, 111, 110, 32, 111, 114, 32, 108, 105, 98, 114, 97, 114, 121]⟩ ⟨#[]⟩)))
theorem whatD_le : ∀ (ds : List Ty80) (met : List ByteArray), whatD ds met ≤ 9
  | [], _ => Nat.zero_le _
  | d :: ds, met => by
    unfold whatD
    cases (d.fNil || !aliasF d.fAlias) with
    | true => exact (by decide : 8 ≤ 9)
    | false => cases (met.any fun s => s.toList == (keyF d).toList) with
      | true => exact Nat.le_refl _
      | false => exact whatD_le ds _
theorem what1_le (m : Ty26) : what1 m ≤ 9 := by
  unfold what1
  cases m.fAPIVersion.toList == (⟨#[]⟩ : ByteArray).toList <;> cases (cleanF m.fName).toList == (⟨#[]⟩ : ByteArray).toList <;> cases badName (cleanF m.fName) <;> cases m.fVersion.toList == (⟨#[]⟩ : ByteArray).toList <;> cases plainB m.fVersion <;> cases badType m.fType <;> decide
theorem whatF_le (m : Ty26) : whatF m ≤ 9 := by
  unfold whatF
  cases Nat.beq (what1 m) 0 with
  | false => exact what1_le m
  | true => cases (m.fMaintainers.any fun p => p.fNil) with
    | true => exact (by decide : 7 ≤ 9)
    | false => exact whatD_le _ _
theorem says_all : ∀ f : Fin 10, (says f.val = ⟨#[]⟩ → saysV f.val = ⟨#[]⟩) ∧ (says f.val ≠ ⟨#[]⟩ → valP ++ says f.val = saysV f.val) := by decide +kernel
/-- What impl.Validate tells. -/
def ValR (m y : Ty26) (t : ByteArray) : Prop := ((t.toList == (⟨#[]⟩ : ByteArray).toList) = Nat.beq (whatF m) 0) ∧ (saysV (whatF m) ≠ ⟨#[]⟩ → t = saysV (whatF m)) ∧ (whatF m = 0 → metS y = metT (clnA m)) ∧ (1 ≤ whatF m → whatF m ≤ 6 → metS y = metT (cln8 m))
theorem val_none {m m2 y : Ty26} {s : ByteArray} (h : VRes m m2 false s) (hy : metS y = metT m2) : ValR m y ⟨#[]⟩ := by
  obtain ⟨h1, h2, h3, h4, _⟩ := h
  have h0 : Nat.beq (whatF m) 0 = true := by cases hb : Nat.beq (whatF m) 0 with | true => rfl | false => rw [hb] at h1; cases h1
  have hz : whatF m = 0 := Nat.eq_of_beq_eq_true h0
  exact ⟨by rw [h0]; exact beq_self_eq_true _, fun h => absurd (by rw [hz]; rfl) h, fun _ => by rw [hy, h3 hz], fun h _ => by omega⟩
theorem val_some {m m2 y : Ty26} {s : ByteArray} (h : VRes m m2 true s) (hy : metS y = metT m2) : ValR m y (valP ++ s) := by
  obtain ⟨h1, h2, h3, h4, _⟩ := h
  have h0 : Nat.beq (whatF m) 0 = false := by cases hb : Nat.beq (whatF m) 0 with | false => rfl | true => rw [hb] at h1; cases h1
  refine ⟨?_, fun h => ?_, fun h => (by rw [h] at h0; cases h0), fun a b => (by rw [hy, h4 a b])⟩
  · rw [h0]
    refine emp_no ?_
    rw [ByteArray.size_append]; show 0 < 12 + s.size; omega
  · have hs := says_all ⟨whatF m, by have := whatF_le m; omega⟩
    have hne : says (whatF m) ≠ ⟨#[]⟩ := fun e => h (hs.1 e)
    rw [h2 hne]; exact hs.2 hne
theorem metaVal_m (m : Ty26) (gm : Nat) (R : Ctx) (L : List SA) (w : World) (S : Sp R w (SA.met gm m :: L)) (hz : metMil m) (hza : metAsc m) (hv : plainB m.fVersion = true ∨ errB m.fVersion = true) (hm1 : m.fSources.length ≤ 1000000) (hm2 : m.fKeywords.length ≤ 1000000) (hm3 : m.fMaintainers.length ≤ 1000000) (hm4 : m.fDependencies.length ≤ 1000000) (hm5 : ∀ d ∈ m.fDependencies, d.fTags.length ≤ 1000000) :
    Calls Try.prog 116 #[.pointer (some ⟨gm, 0, none⟩)] w fun e w' => ∃ (m2 : Ty26) (b : Bool) (s : ByteArray), e = .returned (verV b s) ∧ Sp R w' (SA.met gm m2 :: L) ∧ VRes m m2 b s := by
  obtain ⟨A1, c1, A2, c2, A3, c3, qs, A4, c4, us, S1⟩ := S.met_open
  exact metaVal_sp m gm A1 c1 A2 c2 A3 c3 A4 c4 qs us R L w S1 hz hza hv hm1 hm2 hm3 hm4 hm5
theorem perT_A {p : Ty78} : perT (perA p) = perA p := by unfold perA; cases p.fNil <;> rfl
theorem perT_ok {p : Ty78} (h : p.fNil = false) : perT p = p := by rw [perT_some h]; cases p; simp at h; subst h; rfl
theorem depT_A {d : Ty80} : depT (depA d none 0) none 0 = depA d none 0 := by unfold depA; cases d.fNil <;> rfl
theorem depT_ok {d : Ty80} (h : d.fNil = false) : depT d none 0 = depS d := by rw [depT_some h]; cases d; simp at h; subst h; rfl
set_option maxRecDepth 100000 in
set_option maxHeartbeats 20000000 in
theorem chSays_sp (y : Ty26) (f : Nat) (R : Ctx) (L : List SA) (w : World) (S : Sp R w (L))   :
  Calls Try.prog 61 #[.agg #[.string y.fName, .string y.fHome, .string y.fVersion, .string y.fDescription, .string y.fIcon, .string y.fAPIVersion, .string y.fCondition, .string y.fTags, .string y.fAppVersion, .string y.fKubeVersion, .string y.fType, .slice (y.fSources_a) (y.fSources.length) (y.fSources_c), .slice (y.fKeywords_a) (y.fKeywords.length) (y.fKeywords_c), .slice (y.fMaintainers_a) (y.fMaintainers.length) (y.fMaintainers_c), .slice (y.fDependencies_a) (y.fDependencies.length) (y.fDependencies_c)], .int .i64 (↑f)] w fun e w' => e = .returned (.string (saysV f)) ∧ Sp R w' (L) := by
 refine fw_enter (fn := Try.f61) rfl rfl 14 rfl (Nat.le_of_ble_eq_true rfl) ?_
 intro a0 F0
 refine wp_seq_k fun K1 hK1 => ?_
 refine wp_region_lit ?_
 refine op_sq F0 (s_newp F0 26 (zq2 y) (by kernel_rfl) (by kernel_rfl) (by kernel_rfl) S) ?_
 rintro _ _ w3 ⟨g1, rfl, rfl⟩ S3 a3 F3
 refine op_q F3 (.string ⟨#[]⟩) ?_; intro a4 F4
 refine wpList_nil ?_
 refine hK1 _ _ ?_; clear hK1 K1
 refine wp_seq_k fun K5 hK5 => ?_
 refine wp_seq_k fun K6 hK6 => ?_
 refine wp_region_lit ?_
 refine op_q F4 (.int .i64 (↑f)) ?_; intro a7 F7
 refine wpList_nil ?_
 refine hK6 _ _ ?_; clear hK6 K6
 refine wp_block ?_
 refine wp_seq_k fun K8 hK8 => ?_
 refine wp_region_lit ?_
 refine op_q F7 (.bool ((↑f : Int) == 1)) ?_; intro a9 F9
 refine op_q F9 (.bool ((↑f : Int) == 1)) ?_; intro a10 F10
 refine wpList_nil ?_
 refine hK8 _ _ ?_; clear hK8 K8
 rcases btf ((↑f : Int) == 1) with hc11 | hc11
 ·have hc11p := eq_of_beq hc11
  have F12 := F10.sb 7 (by kernel_rfl) hc11
  have F13 := F12.sb 6 (by kernel_rfl) hc11
  refine wp_cond_true (F13.ev (by kernel_rfl)) ?_
  refine wp_seq_k fun K14 hK14 => ?_
  refine wp_region_lit ?_
  refine op_q F13 (.string ⟨#[118, 97, 108, 105, 100, 97, 116, 105, 111, 110, 58, 32, 99, 104, 97, 114, 116, 46, 109, 101, 116, 97, 100, 97, 116, 97, 46, 97, 112, 105, 86, 101, 114, 115, 105, 111, 110, 32, 105, 115, 32, 114, 101, 113, 117, 105, 114, 101, 100]⟩) ?_; intro a15 F15
  refine wpList_nil ?_
  refine hK14 _ _ ?_; clear hK14 K14
  refine wp_ret ?_
  refine ret_in ?_
  refine ret_then ?_
  refine (F15.res1 rfl (v := .string ⟨#[118, 97, 108, 105, 100, 97, 116, 105, 111, 110, 58, 32, 99, 104, 97, 114, 116, 46, 109, 101, 116, 97, 100, 97, 116, 97, 46, 97, 112, 105, 86, 101, 114, 115, 105, 111, 110, 32, 105, 115, 32, 114, 101, 113, 117, 105, 114, 101, 100]⟩) (by kernel_rfl) ?_).1
  exact ⟨(by unfold saysV; rw [hc11]; rfl), S3.drop⟩
 ·have hc11p := ne_of_beq_false hc11
  have F16 := F10.sb 7 (by kernel_rfl) hc11
  have F17 := F16.sb 6 (by kernel_rfl) hc11
  refine wp_cond_false (F17.ev (by kernel_rfl)) ?_
  refine wp_seq_k fun K18 hK18 => ?_
  refine wp_region_lit ?_
  refine op_q F17 (.bool ((↑f : Int) == 2)) ?_; intro a19 F19
  refine op_q F19 (.bool ((↑f : Int) == 2)) ?_; intro a20 F20
  refine wpList_nil ?_
  refine hK18 _ _ ?_; clear hK18 K18
  rcases btf ((↑f : Int) == 2) with hc21 | hc21
  ·have hc21p := eq_of_beq hc21
   have F22 := F20.sb 9 (by kernel_rfl) hc21
   have F23 := F22.sb 8 (by kernel_rfl) hc21
   refine wp_cond_true (F23.ev (by kernel_rfl)) ?_
   refine wp_seq_k fun K24 hK24 => ?_
   refine wp_region_lit ?_
   refine op_q F23 (.string ⟨#[118, 97, 108, 105, 100, 97, 116, 105, 111, 110, 58, 32, 99, 104, 97, 114, 116, 46, 109, 101, 116, 97, 100, 97, 116, 97, 46, 110, 97, 109, 101, 32, 105, 115, 32, 114, 101, 113, 117, 105, 114, 101, 100]⟩) ?_; intro a25 F25
   refine wpList_nil ?_
   refine hK24 _ _ ?_; clear hK24 K24
   refine wp_ret ?_
   refine ret_in ?_
   refine ret_then ?_
   refine (F25.res1 rfl (v := .string ⟨#[118, 97, 108, 105, 100, 97, 116, 105, 111, 110, 58, 32, 99, 104, 97, 114, 116, 46, 109, 101, 116, 97, 100, 97, 116, 97, 46, 110, 97, 109, 101, 32, 105, 115, 32, 114, 101, 113, 117, 105, 114, 101, 100]⟩) (by kernel_rfl) ?_).1
   exact ⟨(by unfold saysV; rw [hc11, hc21]; rfl), S3.drop⟩
  ·have hc21p := ne_of_beq_false hc21
   have F26 := F20.sb 9 (by kernel_rfl) hc21
   have F27 := F26.sb 8 (by kernel_rfl) hc21
   refine wp_cond_false (F27.ev (by kernel_rfl)) ?_
   refine wp_seq_k fun K28 hK28 => ?_
   refine wp_region_lit ?_
   refine op_q F27 (.bool ((↑f : Int) == 4)) ?_; intro a29 F29
   refine op_q F29 (.bool ((↑f : Int) == 4)) ?_; intro a30 F30
   refine wpList_nil ?_
   refine hK28 _ _ ?_; clear hK28 K28
   rcases btf ((↑f : Int) == 4) with hc31 | hc31
   ·have hc31p := eq_of_beq hc31
    have F32 := F30.sb 11 (by kernel_rfl) hc31
    have F33 := F32.sb 10 (by kernel_rfl) hc31
    refine wp_cond_true (F33.ev (by kernel_rfl)) ?_
    refine wp_seq_k fun K34 hK34 => ?_
    refine wp_region_lit ?_
    refine op_q F33 (.string ⟨#[118, 97, 108, 105, 100, 97, 116, 105, 111, 110, 58, 32, 99, 104, 97, 114, 116, 46, 109, 101, 116, 97, 100, 97, 116, 97, 46, 118, 101, 114, 115, 105, 111, 110, 32, 105, 115, 32, 114, 101, 113, 117, 105, 114, 101, 100]⟩) ?_; intro a35 F35
    refine wpList_nil ?_
    refine hK34 _ _ ?_; clear hK34 K34
    refine wp_ret ?_
    refine ret_in ?_
    refine ret_then ?_
    refine (F35.res1 rfl (v := .string ⟨#[118, 97, 108, 105, 100, 97, 116, 105, 111, 110, 58, 32, 99, 104, 97, 114, 116, 46, 109, 101, 116, 97, 100, 97, 116, 97, 46, 118, 101, 114, 115, 105, 111, 110, 32, 105, 115, 32, 114, 101, 113, 117, 105, 114, 101, 100]⟩) (by kernel_rfl) ?_).1
    exact ⟨(by unfold saysV; rw [hc11, hc21, hc31]; rfl), S3.drop⟩
   ·have hc31p := ne_of_beq_false hc31
    have F36 := F30.sb 11 (by kernel_rfl) hc31
    have F37 := F36.sb 10 (by kernel_rfl) hc31
    refine wp_cond_false (F37.ev (by kernel_rfl)) ?_
    refine wp_seq_k fun K38 hK38 => ?_
    refine wp_region_lit ?_
    refine op_q F37 (.bool ((↑f : Int) == 6)) ?_; intro a39 F39
    refine op_q F39 (.bool ((↑f : Int) == 6)) ?_; intro a40 F40
    refine wpList_nil ?_
    refine hK38 _ _ ?_; clear hK38 K38
    rcases btf ((↑f : Int) == 6) with hc41 | hc41
    ·have hc41p := eq_of_beq hc41
     have F42 := F40.sb 13 (by kernel_rfl) hc41
     have F43 := F42.sb 12 (by kernel_rfl) hc41
     refine wp_cond_true (F43.ev (by kernel_rfl)) ?_
     refine wp_seq_k fun K44 hK44 => ?_
     refine wp_region_lit ?_
     refine op_q F43 (.string ⟨#[118, 97, 108, 105, 100, 97, 116, 105, 111, 110, 58, 32, 99, 104, 97, 114, 116, 46, 109, 101, 116, 97, 100, 97, 116, 97, 46, 116, 121, 112, 101, 32, 109, 117, 115, 116, 32, 98, 101, 32, 97, 112, 112, 108, 105, 99, 97, 116, 105, 111, 110, 32, 111, 114, 32, 108, 105, 98, 114, 97, 114, 121]⟩) ?_; intro a45 F45
     refine wpList_nil ?_
     refine hK44 _ _ ?_; clear hK44 K44
     refine wp_ret ?_
     refine ret_in ?_
     refine ret_then ?_
     refine (F45.res1 rfl (v := .string ⟨#[118, 97, 108, 105, 100, 97, 116, 105, 111, 110, 58, 32, 99, 104, 97, 114, 116, 46, 109, 101, 116, 97, 100, 97, 116, 97, 46, 116, 121, 112, 101, 32, 109, 117, 115, 116, 32, 98, 101, 32, 97, 112, 112, 108, 105, 99, 97, 116, 105, 111, 110, 32, 111, 114, 32, 108, 105, 98, 114, 97, 114, 121]⟩) (by kernel_rfl) ?_).1
     exact ⟨(by unfold saysV; rw [hc11, hc21, hc31, hc41]; rfl), S3.drop⟩
    ·have hc41p := ne_of_beq_false hc41
     have F46 := F40.sb 13 (by kernel_rfl) hc41
     have F47 := F46.sb 12 (by kernel_rfl) hc41
     refine wp_cond_false (F47.ev (by kernel_rfl)) ?_
     refine wp_skip ?_
     refine hK5 _ _ ?_; clear hK5 K5
     refine wp_seq_k fun K48 hK48 => ?_
     refine wp_region_lit ?_
     refine op_q F47 (.string ⟨#[]⟩) ?_; intro a49 F49
     refine wpList_nil ?_
     refine hK48 _ _ ?_; clear hK48 K48
     refine wp_ret ?_
     refine (F49.res1 rfl (v := .string ⟨#[]⟩) (by kernel_rfl) ?_).1
     exact ⟨(by unfold saysV; rw [hc11, hc21, hc31, hc41]; rfl), S3.drop⟩
set_option maxRecDepth 100000 in
set_option maxHeartbeats 20000000 in
theorem valErr_sp (s : ByteArray) (R : Ctx) (L : List SA) (w : World) (S : Sp R w (L))  (hs : s.size ≤ 1000) :
    Calls Try.prog 223 #[.string s] w fun e w' => e = .returned (.string (valP ++ s)) ∧ Sp R w' (L) := by
  refine fw_enter (fn := Try.f223) rfl rfl 5 rfl (Nat.le_of_ble_eq_true rfl) ?_
  intro a0 F0
  refine wp_seq_k fun K1 hK1 => ?_
  refine wp_region_lit ?_
  refine op_q F0 (.string ⟨#[]⟩) ?_; intro a2 F2
  refine wpList_nil ?_
  refine hK1 _ _ ?_; clear hK1 K1
  refine wp_seq_k fun K3 hK3 => ?_
  refine wp_region_lit ?_
  refine op_q F2 (.string s) ?_; intro a4 F4
  refine op_rq (v := .string ((⟨#[118, 97, 108, 105, 100, 97, 116, 105, 111, 110, 58, 32]⟩ : ByteArray) ++ s)) F4 (r_sadd rfl (F4.e (.string ⟨#[118, 97, 108, 105, 100, 97, 116, 105, 111, 110, 58, 32]⟩)) (F4.e (.string s)) (by show 12 + s.size ≤ 9223372036854775807; first | omega | (simp only [ByteArray.size_append, ByteArray.size_extract]; omega) | (simp; omega))) ?_; intro a5 F5
  refine op_q F5 (.string ((⟨#[118, 97, 108, 105, 100, 97, 116, 105, 111, 110, 58, 32]⟩ : ByteArray) ++ s)) ?_; intro a6 F6
  refine wpList_nil ?_
  refine hK3 _ _ ?_; clear hK3 K3
  refine wp_ret ?_
  refine (F6.res1 rfl (v := .string ((⟨#[118, 97, 108, 105, 100, 97, 116, 105, 111, 110, 58, 32]⟩ : ByteArray) ++ s)) (by kernel_rfl) ?_).1
  exact ⟨rfl, S⟩
theorem catch115 (x0 x1 x2 : Nat) (w : World) :
    CallsD Try.prog 115 #[.pointer (some ⟨x0, 0, none⟩), .pointer (some ⟨x1, 0, none⟩), .pointer (some ⟨x2, 0, none⟩)] .returning w fun e u' w' => e = .returned (.tuple #[]) ∧ u' = .returning ∧ w' = w := by
  refine callsD_of_wpS Try.func115 rfl fun c₀ cs hu => ?_
  apply wpS_seq
  apply wpS_region
  simp [wpOpsS, go_sem, recoverD, hu, Try.ntmps115, Exit.thenS]
  refine wpS_cond (t := false) (by simp [Act.eval, Array.replicate]) ?_
  simp only [Bool.false_eq_true, if_false]
  refine wpS_of_wp (wp_skip ?_)
  cases c₀
  simp_all [bodyPostS, results, Try.results115]
abbrev zq40 (x0 : Nat) (x1 : Nat) (x2 : Nat) : Array Value := #[.pointer (some ⟨x0, 0, none⟩), .pointer (some ⟨x1, 0, none⟩), .pointer (some ⟨x2, 0, none⟩)]
abbrev zq41 (x0 : Ty26) (x1 : Option Addr) (x2 : Nat) (x3 : Option Addr) (x4 : Nat) (x5 : Option Addr) (x6 : Nat) (x7 : Option Addr) (x8 : Nat) : Array Value := #[.string x0.fName, .string x0.fHome, .string x0.fVersion, .string x0.fDescription, .string x0.fIcon, .string x0.fAPIVersion, .string x0.fCondition, .string x0.fTags, .string x0.fAppVersion, .string x0.fKubeVersion, .string x0.fType, .slice x1 (x0.fSources.length) x2, .slice x3 (x0.fKeywords.length) x4, .slice x5 (x0.fMaintainers.length) x6, .slice x7 (x0.fDependencies.length) x8]
set_option maxRecDepth 100000 in
set_option maxHeartbeats 20000000 in
theorem validate_sp (m : Ty26) (R : Ctx) (L : List SA) (w : World) (S : Sp R w (L)) (h0 : Rf R L fun w => MetaAt w m) (hf : mfitsB m = true) (hz : metMil m) (hza : metAsc m) (hv : plainB m.fVersion = true ∨ errB m.fVersion = true) (hm1 : m.fSources.length ≤ 1000000) (hm2 : m.fKeywords.length ≤ 1000000) (hm3 : m.fMaintainers.length ≤ 1000000) (hm4 : m.fDependencies.length ≤ 1000000) (hm5 : ∀ d ∈ m.fDependencies, d.fTags.length ≤ 1000000) :
  Calls Try.prog 59 #[.agg #[.string m.fName, .string m.fHome, .string m.fVersion, .string m.fDescription, .string m.fIcon, .string m.fAPIVersion, .string m.fCondition, .string m.fTags, .string m.fAppVersion, .string m.fKubeVersion, .string m.fType, .slice (m.fSources_a) (m.fSources.length) (m.fSources_c), .slice (m.fKeywords_a) (m.fKeywords.length) (m.fKeywords_c), .slice (m.fMaintainers_a) (m.fMaintainers.length) (m.fMaintainers_c), .slice (m.fDependencies_a) (m.fDependencies.length) (m.fDependencies_c)]] w fun e w' => ∃ y : Ty26, ∃ t : ByteArray, e = .returned (.tuple #[.agg #[.string y.fName, .string y.fHome, .string y.fVersion, .string y.fDescription, .string y.fIcon, .string y.fAPIVersion, .string y.fCondition, .string y.fTags, .string y.fAppVersion, .string y.fKubeVersion, .string y.fType, .slice y.fSources_a y.fSources.length y.fSources_c, .slice y.fKeywords_a y.fKeywords.length y.fKeywords_c, .slice y.fMaintainers_a y.fMaintainers.length y.fMaintainers_c, .slice y.fDependencies_a y.fDependencies.length y.fDependencies_c], .string t, .int .i64 0]) ∧ Sp R w' (SA.mv y :: L) ∧ (ValR m y t) := by
 refine fw_enterD (fn := Try.f59) rfl rfl 23 rfl (Nat.le_of_ble_eq_true rfl) ?_
 intro a0 F0
 refine wp_seq_k fun K1 hK1 => ?_
 refine wp_region_lit ?_
 refine op_sq F0 (s_newp F0 26 (zq2 m) (by kernel_rfl) (by kernel_rfl) (by kernel_rfl) S) ?_
 rintro _ _ w3 ⟨g1, rfl, rfl⟩ S3 a3 F3
 refine op_sq F3 (s_newp F3 26 zq8 (by kernel_rfl) (by kernel_rfl) (by kernel_rfl) S3) ?_
 rintro _ _ w5 ⟨g3, rfl, rfl⟩ S5 a5 F5
 refine op_sq F5 (s_newp F5 9 #[.string ⟨#[]⟩] (by kernel_rfl) (by kernel_rfl) (by kernel_rfl) S5) ?_
 rintro _ _ w7 ⟨g5, rfl, rfl⟩ S7 a7 F7
 refine op_sq F7 (s_newp F7 3 #[.int .i64 0] (by kernel_rfl) (by kernel_rfl) (by kernel_rfl) S7) ?_
 rintro _ _ w9 ⟨g7, rfl, rfl⟩ S9 a9 F9
 refine wpList_nil ?_
 refine hK1 _ _ ?_; clear hK1 K1
 refine wp_seq_k fun K10 hK10 => ?_
 refine wp_region_lit ?_
 refine op_q F9 (.func (.func 115) #[] (zq40 g3 g5 g7)) ?_; intro a11 F11
 refine op_defer F11 ({ target := .fn (.func 115) (zq40 g3 g5 g7), args := #[] }) (by kernel_rfl) (by kernel_rfl) rfl rfl rfl ?_; intro a12 F12
 refine wpList_nil ?_
 refine hK10 _ _ ?_; clear hK10 K10
 refine wp_seq_k fun K13 hK13 => ?_
 refine wp_seq_k fun K14 hK14 => ?_
 refine wp_region_lit ?_
 refine op_rq (v := .agg (zq2 m)) F12 (r_ldm rfl (F12.e (.pointer (some ⟨g1, 0, none⟩))) (S9.bk 3 rfl) 15 (by kernel_rfl) Try.underlying26 rfl (by kernel_rfl) (v := (zq2 m)) (by kernel_rfl)) ?_; intro a15 F15
 refine op_cq F15 (f := 93) (args := #[.agg (zq2 m)]) (metaFits_sp m _ _ _ S9 ) ?_
 rintro _ w16 ⟨rfl, S16⟩
 refine ⟨_, rfl, ?_⟩
 intro a17 F17
 refine op_q F17 (.bool (!(mfitsB m))) ?_; intro a18 F18
 refine wpList_nil ?_
 refine hK14 _ _ ?_; clear hK14 K14
 have hc19 : (mfitsB m) = true := hf
 have F20 := F18.sb 9 (by kernel_rfl) hc19
 have F21 := F20.sb 10 (by kernel_rfl) (show (!(mfitsB m)) = false by rw [hc19]; rfl)
 refine wp_cond_false (F21.ev (by kernel_rfl)) ?_
 refine wp_skip ?_
 refine hK13 _ _ ?_; clear hK13 K13
 refine wp_seq_k fun K22 hK22 => ?_
 refine wp_region_lit ?_
 refine op_rq (v := .agg (zq2 m)) F21 (r_ldm rfl (F21.e (.pointer (some ⟨g1, 0, none⟩))) (S16.bk 3 rfl) 15 (by kernel_rfl) Try.underlying26 rfl (by kernel_rfl) (v := (zq2 m)) (by kernel_rfl)) ?_; intro a23 F23
 refine op_cq F23 (f := 95) (args := #[.agg (zq2 m)]) (metaOf_m m _ _ _ S16 (fun w S => h0 w S.drop.drop.drop.drop) (by first | omega | (simp; done) | (simp; omega)) (by first | omega | (simp; done) | (simp; omega)) (by first | omega | (simp; done) | (simp; omega)) (by first | omega | (simp; done) | (simp; omega)) (by first | omega | (simp; done) | (simp; omega))) ?_
 rintro _ w24 ⟨g24, rfl, S24⟩
 refine ⟨_, rfl, ?_⟩
 intro a25 F25
 refine op_q F25 (.pointer (some ⟨g24, 0, none⟩)) ?_; intro a26 F26
 refine wpList_nil ?_
 refine hK22 _ _ ?_; clear hK22 K22
 refine wp_seq_k fun K27 hK27 => ?_
 refine wp_seq_k fun K28 hK28 => ?_
 refine wp_region_lit ?_
 refine op_q F26 (.pointer (some ⟨g24, 0, none⟩)) ?_; intro a29 F29
 refine op_cq F29 (f := 116) (args := #[.pointer (some ⟨g24, 0, none⟩)]) (metaVal_m m g24 _ _ _ S24 hz hza hv (by first | omega | (simp; done) | (simp; omega)) (by first | omega | (simp; done) | (simp; omega)) (by first | omega | (simp; done) | (simp; omega)) (by first | omega | (simp; done) | (simp; omega)) (by first | omega | (simp; done) | (simp; omega))) ?_
 rintro _ w30 ⟨m230, b30, s30, rfl, S30, hp0_30⟩
 refine ⟨_, rfl, ?_⟩
 intro a31 F31
 refine op_q F31 (verV b30 s30) ?_; intro a32 F32
 refine wpList_nil ?_
 refine hK28 _ _ ?_; clear hK28 K28
 refine wp_seq_k fun K33 hK33 => ?_
 refine wp_region_lit ?_
 refine op_q F32 (verV b30 s30) ?_; intro a34 F34
 refine op_rq (v := .bool b30) F34 (r_verne rfl (F34.e (verV b30 s30))) ?_; intro a35 F35
 refine wpList_nil ?_
 refine hK33 _ _ ?_; clear hK33 K33
 rcases btf (b30) with hc36 | hc36
 ·have F37 := F35.sb 17 (by kernel_rfl) hc36
  subst hc36
  obtain ⟨hl1, hl2, hl3, hl4, hl5⟩ := hp0_30.2.2.2.2.2
  have hsz := hp0_30.2.2.2.2.1
  refine wp_cond_true (F37.ev (by kernel_rfl)) ?_
  refine wp_region_lit ?_
  refine op_q F37 (.iface 258 (.string s30)) ?_; intro a38 F38
  refine op_cq F38 (f := 223) (args := #[.string s30]) (valErr_sp s30 _ _ _ S30 (by first | omega | (simp; done) | (simp; omega))) ?_
  rintro _ w39 ⟨rfl, S39⟩
  refine ⟨_, rfl, ?_⟩
  intro a40 F40
  refine op_sq0 F40 (s_st rfl (F40.e (.pointer (some ⟨g5, 0, none⟩))) (F40.e (.string (valP ++ s30))) S39.p2 (by kernel_rfl) rfl rfl rfl (cs := #[.string (valP ++ s30)]) (by kernel_rfl)) ?_
  rintro _ _ w41 rfl S41 F41
  refine wpList_nil ?_
  refine hK27 _ _ ?_; clear hK27 K27
  refine wp_seq_k fun K42 hK42 => ?_
  refine wp_region_sepF (L0 := SA.blk g5 9 #[.string (valP ++ s30)] :: SA.blk g7 3 #[.int .i64 0] :: SA.blk g1 26 (zq2 m) :: L) [some [], some [(0, 20)], some [], some [(0, 20), (1, 21)], some [(2, 22)], some []] [.v 20 (.pointer (some ⟨g24, 0, none⟩)), .p 21 (SA.met g24 m230) (fun _ vv AA => ∃ B157 : Option Addr, ∃ b157 : Nat, ∃ B257 : Option Addr, ∃ b257 : Nat, ∃ B357 : Option Addr, ∃ b357 : Nat, ∃ B457 : Option Addr, ∃ b457 : Nat, vv = .agg (zq41 m230 B157 b157 B257 b257 B357 b357 B457 b457) ∧ AA = SA.stars [SA.mvx m230 B157 b157 B257 b257 B357 b357 B457 b457, SA.met g24 m230]), .v 22 (.string (valP ++ s30)), .n (SA.blk g3 26 zq8) (fun env _ AA => ∃ B157x : Option Addr, ∃ b157x : Nat, ∃ B257x : Option Addr, ∃ b257x : Nat, ∃ B357x : Option Addr, ∃ b357x : Nat, ∃ B457x : Option Addr, ∃ b457x : Nat, (env.getD 1 undef) = .agg (zq41 m230 B157x b157x B257x b257x B357x b357x B457x b457x) ∧ AA = SA.blk g3 26 (zq41 m230 B157x b157x B257x b257x B357x b357x B457x b457x)), .n (SA.emp) (fun _ _ AA => AA = SA.emp), .n (SA.emp) (fun _ _ AA => AA = SA.emp)] [] F41 rfl (by kernel_rfl) ((((((S41.p3).p2).emp).emp).p3).p3) ?_ ?_
  ·refine ⟨?_, ?_, ?_, ?_, ?_, ?_, trivial⟩
   ·intro w54 M54
    intro a54 F54 S54
    refine obl_of (by rfl) ?_
    exact s_p F54 (v := .pointer (some ⟨g24, 0, none⟩)) (by kernel_rfl) (by kernel_rfl) (by kernel_rfl) S54
   ·intro w55 M55
    intro a55 F55 S55
    refine obl_of (by rfl) ?_
    refine s_c F55 (f := 117) (args := #[.pointer (some ⟨g24, 0, none⟩)]) (by kernel_rfl) (by kernel_rfl) (by kernel_rfl) (metaTold_f m230 g24 _ _ _ S55 hl1 hl2 hl3 hl4 hl5) ?_
    rintro _ _ ⟨B157, b157, B257, b257, B357, b357, B457, b457, rfl, S57⟩
    exact ⟨_, _, rfl, ⟨B157, b157, B257, b257, B357, b357, B457, b457, rfl, rfl⟩, Sp.stars.2 S57⟩
   ·intro w58 M58
    intro a58 F58 S58
    refine obl_of (by rfl) ?_
    exact s_r (v := .string (valP ++ s30)) (r_ld rfl (F58.e (.pointer (some ⟨g5, 0, none⟩))) (v := .string (valP ++ s30)) (((Sp.dropM S58.drop).bk 0 rfl).cell 0) Try.underlying9 rfl) S58
   ·intro w59 M59
    rintro _ _ ⟨B157, b157, B257, b257, B357, b357, B457, b457, rfl, rfl⟩ hA61
    intro a59 F59 S59
    refine obl_of (by rfl) ?_
    exact sAt_mono (s_stb rfl (F59.e (.pointer (some ⟨g3, 0, none⟩))) (F59.e (.agg (zq41 m230 B157 b157 B257 b257 B357 b357 B457 b457))) S59 (by kernel_rfl) rfl (by kernel_rfl)) fun _ _ e1 => ⟨B157, b157, B257, b257, B357, b357, B457, b457, (by kernel_rfl), e1⟩
   ·intro w62 M62
    intro a62 F62 S62
    refine obl_of (by rfl) ?_
    exact s_st_same rfl (F62.e (.pointer (some ⟨g5, 0, none⟩))) (F62.e (.string (valP ++ s30))) ((Sp.dropM S62.drop).bk 0 rfl) S62 (by kernel_rfl) rfl rfl rfl (by kernel_rfl)
   ·intro w64 M64
    intro a64 F64 S64
    refine obl_of (by rfl) ?_
    exact s_st_same rfl (F64.e (.pointer (some ⟨g7, 0, none⟩))) (F64.e (.int .i64 0)) ((Sp.dropM S64.drop).bk 1 rfl) S64 (by kernel_rfl) rfl rfl rfl (by kernel_rfl)
  ·rintro _ _ ⟨B157, b157, B257, b257, B357, b357, B457, b457, rfl, rfl⟩
   rintro _ _ ⟨B157x, b157x, B257x, b257x, B357x, b357x, B457x, b457x, e3_1, rfl⟩
   have e3_1 := envE_at (v := .agg (zq41 m230 B157 b157 B257 b257 B357 b357 B457 b457)) e3_1 (by kernel_rfl)
   obtain ⟨rfl, rfl, rfl, rfl, rfl, rfl, rfl, rfl⟩ : B157 = B157x ∧ b157 = b157x ∧ B257 = B257x ∧ b257 = b257x ∧ B357 = B357x ∧ b357 = b357x ∧ B457 = B457x ∧ b457 = b457x := by cases e3_1; exact ⟨rfl, rfl, rfl, rfl, rfl, rfl, rfl, rfl⟩
   clear e3_1
   rintro _ _ rfl
   rintro _ _ rfl
   intro a66 w65 F66 S65
   have S67 : Sp R w65 (SA.blk g3 26 (zq41 m230 B157 b157 B257 b257 B357 b357 B457 b457) :: SA.stars [SA.mvx m230 B157 b157 B257 b257 B357 b357 B457 b457, SA.met g24 m230] :: SA.blk g5 9 #[.string (valP ++ s30)] :: SA.blk g7 3 #[.int .i64 0] :: SA.blk g1 26 (zq2 m) :: L) := S65.drop.drop
   have S68 := Sp.stars.1 (S67.p1)
   refine wpList_nil ?_
   refine hK42 _ _ ?_; clear hK42 K42
   refine wp_ret ?_
   obtain ⟨y0, hy0, Sy69, hyS⟩ := Sp.mvx_open S68
   have S70 : Sp R w65 (SA.mv y0 :: SA.met g24 m230 :: SA.blk g3 26 (zq41 m230 B157 b157 B257 b257 B357 b357 B457 b457) :: SA.blk g5 9 #[.string (valP ++ s30)] :: SA.blk g7 3 #[.int .i64 0] :: SA.blk g1 26 (zq2 m) :: L) := Sy69
   refine (F66.leaveD (f := 115) (args := (zq40 g3 g5 g7)) (by simp [go_sem]) (catch115 g3 g5 g7 _) (results3 Try.results59 (F66.rvc (p := ⟨g3, 0, none⟩) (by kernel_rfl) (ld_mid (S68.bk 2 rfl) 15 (by kernel_rfl) Try.underlying26 rfl (by kernel_rfl) (v := (zq41 m230 B157 b157 B257 b257 B357 b357 B457 b457)) (by kernel_rfl))) (F66.rvc (p := ⟨g5, 0, none⟩) (by kernel_rfl) (load_one _ _ _ (.string (valP ++ s30)) ((S68.bk 3 rfl).cell 0) _ Try.underlying9 rfl)) (F66.rvc (p := ⟨g7, 0, none⟩) (by kernel_rfl) (load_one _ _ _ (.int .i64 0) ((S68.bk 4 rfl).cell 0) _ Try.underlying3 rfl))) ?_).1
   exact ⟨y0, (valP ++ s30), (by show _ = Ending.returned (.tuple #[.agg y0.cells.toArray, .string (valP ++ s30), .int .i64 0]); rw [hy0] <;> rfl), S70.p1.drop.p1.drop.p1.drop.p1.drop.p1.drop, (val_some hp0_30 hyS)⟩
 ·have F71 := F35.sb 17 (by kernel_rfl) hc36
  subst hc36
  obtain ⟨hl1, hl2, hl3, hl4, hl5⟩ := hp0_30.2.2.2.2.2
  have hsz := hp0_30.2.2.2.2.1
  refine wp_cond_false (F71.ev (by kernel_rfl)) ?_
  refine wp_skip ?_
  refine hK27 _ _ ?_; clear hK27 K27
  refine wp_seq_k fun K72 hK72 => ?_
  refine wp_region_sepF (L0 := SA.blk g7 3 #[.int .i64 0] :: SA.blk g5 9 #[.string ⟨#[]⟩] :: SA.blk g1 26 (zq2 m) :: L) [some [], some [(0, 20)], some [], some [(0, 20), (1, 21)], some [(2, 22)], some []] [.v 20 (.pointer (some ⟨g24, 0, none⟩)), .p 21 (SA.met g24 m230) (fun _ vv AA => ∃ B187 : Option Addr, ∃ b187 : Nat, ∃ B287 : Option Addr, ∃ b287 : Nat, ∃ B387 : Option Addr, ∃ b387 : Nat, ∃ B487 : Option Addr, ∃ b487 : Nat, vv = .agg (zq41 m230 B187 b187 B287 b287 B387 b387 B487 b487) ∧ AA = SA.stars [SA.mvx m230 B187 b187 B287 b287 B387 b387 B487 b487, SA.met g24 m230]), .v 22 (.string ⟨#[]⟩), .n (SA.blk g3 26 zq8) (fun env _ AA => ∃ B187x : Option Addr, ∃ b187x : Nat, ∃ B287x : Option Addr, ∃ b287x : Nat, ∃ B387x : Option Addr, ∃ b387x : Nat, ∃ B487x : Option Addr, ∃ b487x : Nat, (env.getD 1 undef) = .agg (zq41 m230 B187x b187x B287x b287x B387x b387x B487x b487x) ∧ AA = SA.blk g3 26 (zq41 m230 B187x b187x B287x b287x B387x b387x B487x b487x)), .n (SA.emp) (fun _ _ AA => AA = SA.emp), .n (SA.emp) (fun _ _ AA => AA = SA.emp)] [] F71 rfl (by kernel_rfl) ((((((S30.p3).p1).emp).emp).p3).p3) ?_ ?_
  ·refine ⟨?_, ?_, ?_, ?_, ?_, ?_, trivial⟩
   ·intro w84 M84
    intro a84 F84 S84
    refine obl_of (by rfl) ?_
    exact s_p F84 (v := .pointer (some ⟨g24, 0, none⟩)) (by kernel_rfl) (by kernel_rfl) (by kernel_rfl) S84
   ·intro w85 M85
    intro a85 F85 S85
    refine obl_of (by rfl) ?_
    refine s_c F85 (f := 117) (args := #[.pointer (some ⟨g24, 0, none⟩)]) (by kernel_rfl) (by kernel_rfl) (by kernel_rfl) (metaTold_f m230 g24 _ _ _ S85 hl1 hl2 hl3 hl4 hl5) ?_
    rintro _ _ ⟨B187, b187, B287, b287, B387, b387, B487, b487, rfl, S87⟩
    exact ⟨_, _, rfl, ⟨B187, b187, B287, b287, B387, b387, B487, b487, rfl, rfl⟩, Sp.stars.2 S87⟩
   ·intro w88 M88
    intro a88 F88 S88
    refine obl_of (by rfl) ?_
    exact s_r (v := .string ⟨#[]⟩) (r_ld rfl (F88.e (.pointer (some ⟨g5, 0, none⟩))) (v := .string ⟨#[]⟩) (((Sp.dropM S88.drop).bk 1 rfl).cell 0) Try.underlying9 rfl) S88
   ·intro w89 M89
    rintro _ _ ⟨B187, b187, B287, b287, B387, b387, B487, b487, rfl, rfl⟩ hA91
    intro a89 F89 S89
    refine obl_of (by rfl) ?_
    exact sAt_mono (s_stb rfl (F89.e (.pointer (some ⟨g3, 0, none⟩))) (F89.e (.agg (zq41 m230 B187 b187 B287 b287 B387 b387 B487 b487))) S89 (by kernel_rfl) rfl (by kernel_rfl)) fun _ _ e1 => ⟨B187, b187, B287, b287, B387, b387, B487, b487, (by kernel_rfl), e1⟩
   ·intro w92 M92
    intro a92 F92 S92
    refine obl_of (by rfl) ?_
    exact s_st_same rfl (F92.e (.pointer (some ⟨g5, 0, none⟩))) (F92.e (.string ⟨#[]⟩)) ((Sp.dropM S92.drop).bk 1 rfl) S92 (by kernel_rfl) rfl rfl rfl (by kernel_rfl)
   ·intro w94 M94
    intro a94 F94 S94
    refine obl_of (by rfl) ?_
    exact s_st_same rfl (F94.e (.pointer (some ⟨g7, 0, none⟩))) (F94.e (.int .i64 0)) ((Sp.dropM S94.drop).bk 0 rfl) S94 (by kernel_rfl) rfl rfl rfl (by kernel_rfl)
  ·rintro _ _ ⟨B187, b187, B287, b287, B387, b387, B487, b487, rfl, rfl⟩
   rintro _ _ ⟨B187x, b187x, B287x, b287x, B387x, b387x, B487x, b487x, e3_1, rfl⟩
   have e3_1 := envE_at (v := .agg (zq41 m230 B187 b187 B287 b287 B387 b387 B487 b487)) e3_1 (by kernel_rfl)
   obtain ⟨rfl, rfl, rfl, rfl, rfl, rfl, rfl, rfl⟩ : B187 = B187x ∧ b187 = b187x ∧ B287 = B287x ∧ b287 = b287x ∧ B387 = B387x ∧ b387 = b387x ∧ B487 = B487x ∧ b487 = b487x := by cases e3_1; exact ⟨rfl, rfl, rfl, rfl, rfl, rfl, rfl, rfl⟩
   clear e3_1
   rintro _ _ rfl
   rintro _ _ rfl
   intro a96 w95 F96 S95
   have S97 : Sp R w95 (SA.blk g3 26 (zq41 m230 B187 b187 B287 b287 B387 b387 B487 b487) :: SA.stars [SA.mvx m230 B187 b187 B287 b287 B387 b387 B487 b487, SA.met g24 m230] :: SA.blk g7 3 #[.int .i64 0] :: SA.blk g5 9 #[.string ⟨#[]⟩] :: SA.blk g1 26 (zq2 m) :: L) := S95.drop.drop
   have S98 := Sp.stars.1 (S97.p1)
   refine wpList_nil ?_
   refine hK72 _ _ ?_; clear hK72 K72
   refine wp_ret ?_
   obtain ⟨y0, hy0, Sy99, hyS⟩ := Sp.mvx_open S98
   have S100 : Sp R w95 (SA.mv y0 :: SA.met g24 m230 :: SA.blk g3 26 (zq41 m230 B187 b187 B287 b287 B387 b387 B487 b487) :: SA.blk g7 3 #[.int .i64 0] :: SA.blk g5 9 #[.string ⟨#[]⟩] :: SA.blk g1 26 (zq2 m) :: L) := Sy99
   refine (F96.leaveD (f := 115) (args := (zq40 g3 g5 g7)) (by simp [go_sem]) (catch115 g3 g5 g7 _) (results3 Try.results59 (F96.rvc (p := ⟨g3, 0, none⟩) (by kernel_rfl) (ld_mid (S98.bk 2 rfl) 15 (by kernel_rfl) Try.underlying26 rfl (by kernel_rfl) (v := (zq41 m230 B187 b187 B287 b287 B387 b387 B487 b487)) (by kernel_rfl))) (F96.rvc (p := ⟨g5, 0, none⟩) (by kernel_rfl) (load_one _ _ _ (.string ⟨#[]⟩) ((S98.bk 4 rfl).cell 0) _ Try.underlying9 rfl)) (F96.rvc (p := ⟨g7, 0, none⟩) (by kernel_rfl) (load_one _ _ _ (.int .i64 0) ((S98.bk 3 rfl).cell 0) _ Try.underlying3 rfl))) ?_).1
   exact ⟨y0, (⟨#[]⟩ : ByteArray), (by show _ = Ending.returned (.tuple #[.agg y0.cells.toArray, .string (⟨#[]⟩ : ByteArray), .int .i64 0]); rw [hy0] <;> rfl), S100.p1.drop.p1.drop.p1.drop.p1.drop.p1.drop, (val_none hp0_30 hyS)⟩
end Go.Proofs.Ytkjcedlgljeoiaa

