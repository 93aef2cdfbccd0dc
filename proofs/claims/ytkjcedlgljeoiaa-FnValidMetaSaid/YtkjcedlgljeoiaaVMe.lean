/- Texts Vm3, Vm4, laid together. -/
import Derived.WalkKit
import Derived.WalkLawsBesides
import Derived.WalkSpells
import Derived.Lib.Hide
import Derived.Deep.RegionWith
import Derived.Deep.DeepCutAuto
import Derived.Deep.QuietTactic
import Derived.BigQuiet
import Derived.Laws.OwnMore
import Derived.Deep.LoopGhost
import Derived.KernelRfl
import Derived.Deep.WholeRow
import Derived.StillTail
import Derived.SliceStrings
import Derived.Deep.Slices
import Derived.Deep.Fields
import Derived.ChangeSame
import Derived.Deep.MidRow
import Derived.Maps.AppendAt
import Derived.Lib.AppendStr
import Derived.Lib.ConvBytes
import Derived.Laws.BytesArg
import Derived.Deep.RegionLaw
import Derived.OwnWalk
import Derived.Maps.OwnSet
import Derived.Maps.OwnOps
import Derived.ArgAppend
import Derived.Defers
import Derived.Recover
import Derived.Laws.Pointers
import Derived.Laws.StructEq
import Derived.IntWalk
import Derived.Test.YtkjcedlgljeoiaaProg
import Derived.BigRegion
import Derived.Deep.CutBlock
import Derived.Carry
import Derived.Test.YtkjcedlgljeoiaaVMd
/- spec.ChMeta. -/
namespace Go.Proofs.Ytkjcedlgljeoiaa
open Go.RowKit Go.Lib
set_option linter.unusedVariables false
set_option linter.unusedSimpArgs false
/-- The texts and lists that come ahead of the tests, cleaned. -/
def cln8 (m : Ty26) : Ty26 := { m with fName := cleanF m.fName, fDescription := cleanF m.fDescription, fHome := cleanF m.fHome, fIcon := cleanF m.fIcon, fCondition := cleanF m.fCondition, fTags := cleanF m.fTags, fAppVersion := cleanF m.fAppVersion, fKubeVersion := cleanF m.fKubeVersion, fSources := cleansF m.fSources, fKeywords := cleansF m.fKeywords }
def mclC (m : Ty26) (k : Nat) : Array Value := #[.string (cond (Nat.blt 0 k) (cleanF m.fName) m.fName), .string (cond (Nat.blt 2 k) (cleanF m.fHome) m.fHome), .string m.fVersion, .string (cond (Nat.blt 1 k) (cleanF m.fDescription) m.fDescription), .string (cond (Nat.blt 3 k) (cleanF m.fIcon) m.fIcon), .string m.fAPIVersion, .string (cond (Nat.blt 4 k) (cleanF m.fCondition) m.fCondition), .string (cond (Nat.blt 5 k) (cleanF m.fTags) m.fTags), .string (cond (Nat.blt 6 k) (cleanF m.fAppVersion) m.fAppVersion), .string (cond (Nat.blt 7 k) (cleanF m.fKubeVersion) m.fKubeVersion), .string m.fType, .slice m.fSources_a m.fSources.length m.fSources_c, .slice m.fKeywords_a m.fKeywords.length m.fKeywords_c, .slice m.fMaintainers_a m.fMaintainers.length m.fMaintainers_c, .slice m.fDependencies_a m.fDependencies.length m.fDependencies_c]
/-- Metadata behind a validation that finds nothing. -/
def clnA (m : Ty26) : Ty26 := { cln8 m with fMaintainers := m.fMaintainers.map perC, fDependencies := m.fDependencies.map fun d => depC d none 0 }
def cmV (m : Ty26) (A1 : Option Addr) (c1 : Nat) (A2 : Option Addr) (c2 : Nat) (A3 : Option Addr) (c3 : Nat) (A4 : Option Addr) (c4 : Nat) (ds : List Ty80) : Ty26 := { clnA m with fSources_a := A1, fSources_c := c1, fKeywords_a := A2, fKeywords_c := c2, fMaintainers_a := A3, fMaintainers_c := c3, fDependencies_a := A4, fDependencies_c := c4, fDependencies := ds }
def badName (n : ByteArray) : Bool := (n.toList == (⟨#[46]⟩ : ByteArray).toList) || ((n.toList == (⟨#[46, 46]⟩ : ByteArray).toList) || !(!slB n || (n.toList == (⟨#[47]⟩ : ByteArray).toList)))
def badType (t : ByteArray) : Bool := !(t.toList == (⟨#[]⟩ : ByteArray).toList) && (!(t.toList == (⟨#[97, 112, 112, 108, 105, 99, 97, 116, 105, 111, 110]⟩ : ByteArray).toList) && !(t.toList == (⟨#[108, 105, 98, 114, 97, 114, 121]⟩ : ByteArray).toList))
/-- What is wrong ahead of maintainers and dependencies. -/
def what1 (m : Ty26) : Nat := cond (m.fAPIVersion.toList == (⟨#[]⟩ : ByteArray).toList) 1 (cond ((cleanF m.fName).toList == (⟨#[]⟩ : ByteArray).toList) 2 (cond (badName (cleanF m.fName)) 3 (cond (m.fVersion.toList == (⟨#[]⟩ : ByteArray).toList) 4 (cond (!plainB m.fVersion) 5 (cond (badType m.fType) 6 0)))))
def keyF (d : Ty80) : ByteArray := cond (d.fAlias.toList == (⟨#[]⟩ : ByteArray).toList) (cleanF d.fName) d.fAlias
def whatD : List Ty80 → List ByteArray → Nat
  | [], _ => 0
  | d :: ds, met => cond (d.fNil || !aliasF d.fAlias) 8 (cond (met.any fun s => s.toList == (keyF d).toList) 9 (whatD ds (met ++ [keyF d])))
def whatF (m : Ty26) : Nat := cond (Nat.beq (what1 m) 0) (cond (m.fMaintainers.any fun p => p.fNil) 7 (whatD m.fDependencies [])) (what1 m)
theorem what_1 {m : Ty26} {k : Nat} (h : what1 m = k) (hk : k ≠ 0) : whatF m = k := by
  unfold whatF; rw [h]; cases k with | zero => exact absurd rfl hk | succ k => rfl
theorem what_7 {m : Ty26} {j : Nat} (h : what1 m = 0) (hj : j < m.fMaintainers.length) (hn : m.fMaintainers[j].fNil = true) : whatF m = 7 := by
  have : (m.fMaintainers.any fun p => p.fNil) = true := List.any_eq_true.2 ⟨_, List.getElem_mem hj, hn⟩
  unfold whatF; rw [h, this]; rfl
theorem what_D {m : Ty26} (h : what1 m = 0) (hn : ∀ p ∈ m.fMaintainers, p.fNil = false) : whatF m = whatD m.fDependencies [] := by
  have : (m.fMaintainers.any fun p => p.fNil) = false := List.any_eq_false.2 fun p hp => by rw [hn p hp]; simp
  unfold whatF; rw [h, this]; rfl
theorem whatD_8 {ds : List Ty80} {met : List ByteArray} {j : Nat} (hj : j < ds.length) (h : (ds[j].fNil || !aliasF ds[j].fAlias) = true) : whatD (ds.drop j) met = 8 := by
  rw [List.drop_eq_getElem_cons hj]; unfold whatD; rw [h]; rfl
theorem whatD_9 {ds : List Ty80} {met : List ByteArray} {j k : Nat} (hj : j < ds.length) (h : (ds[j].fNil || !aliasF ds[j].fAlias) = false) (hk : k < met.length) (hm : (met[k].toList == (keyF ds[j]).toList) = true) : whatD (ds.drop j) met = 9 := by
  have : (met.any fun s => s.toList == (keyF ds[j]).toList) = true := List.any_eq_true.2 ⟨_, List.getElem_mem hk, hm⟩
  rw [List.drop_eq_getElem_cons hj]; unfold whatD; rw [h, this]; rfl
theorem whatD_n {ds : List Ty80} {met : List ByteArray} {j : Nat} (hj : j < ds.length) (h : (ds[j].fNil || !aliasF ds[j].fAlias) = false) (hm : ∀ k, ∀ hk : k < met.length, (met[k].toList == (keyF ds[j]).toList) = false) : whatD (ds.drop j) met = whatD (ds.drop (j + 1)) (met ++ [keyF ds[j]]) := by
  have : (met.any fun s => s.toList == (keyF ds[j]).toList) = false := List.any_eq_false.2 fun s hs => by
    obtain ⟨k, hk, rfl⟩ := List.mem_iff_getElem.1 hs
    rw [hm k hk]; simp
  rw [List.drop_eq_getElem_cons hj]
  conv => lhs; unfold whatD
  rw [h, this]; rfl
/-- Rows that are turned up to j. -/
def pcs (ps : List Ty78) (j : Nat) : List Ty78 := (ps.take j).map perC ++ ps.drop j
theorem pcs_len {ps : List Ty78} {j : Nat} : (pcs ps j).length = ps.length := by simp [pcs]; omega
theorem pcs_get {ps : List Ty78} {j : Nat} (h : j < ps.length) : (pcs ps j)[j]? = some ps[j] := by
  unfold pcs
  rw [List.getElem?_append_right (by simp; omega)]
  simp [Nat.min_eq_left (Nat.le_of_lt h), h]
theorem pcs_set {ps : List Ty78} {j : Nat} (h : j < ps.length) : (pcs ps j).set j (perC ps[j]) = pcs ps (j + 1) := by
  unfold pcs
  rw [List.take_succ_eq_append_getElem h, List.drop_eq_getElem_cons h, List.set_append_right _ _ (by simp; omega)]
  have e : j - ((ps.take j).map perC).length = 0 := by simp; omega
  rw [e, List.set_cons_zero, List.map_append, List.append_assoc]
  rfl
theorem pcs_all {ps : List Ty78} : pcs ps ps.length = ps.map perC := by simp [pcs]
theorem dcs_get {ds es : List Ty80} {j : Nat} (hl : ds.length = j) (h : j < es.length) : (ds ++ es.drop j)[j]? = some es[j] := by
  rw [List.getElem?_append_right (by omega), hl, Nat.sub_self, List.getElem?_drop]; simp [h]
theorem dcs_set {ds es : List Ty80} {j : Nat} {x : Ty80} (hl : ds.length = j) (h : j < es.length) : (ds ++ es.drop j).set j x = (ds ++ [x]) ++ es.drop (j + 1) := by
  rw [List.drop_eq_getElem_cons h, List.set_append_right _ _ (by omega), hl, Nat.sub_self, List.set_cons_zero, List.append_assoc]; rfl
theorem dcs_get2 {ds es : List Ty80} {j : Nat} {x : Ty80} (hl : ds.length = j) : ((ds ++ [x]) ++ es.drop (j + 1))[j]? = some x := by
  rw [List.append_assoc, List.getElem?_append_right (by omega), hl, Nat.sub_self]; rfl
theorem depC_S {d : Ty80} {B : Option Addr} {b : Nat} : depS (depC d B b) = depC d none 0 := rfl
def metMil (m : Ty26) : Prop := (m.fName.size ≤ 1000000 ∧ m.fHome.size ≤ 1000000 ∧ m.fVersion.size ≤ 1000000 ∧ m.fDescription.size ≤ 1000000 ∧ m.fIcon.size ≤ 1000000 ∧ m.fAPIVersion.size ≤ 1000000 ∧ m.fCondition.size ≤ 1000000 ∧ m.fTags.size ≤ 1000000 ∧ m.fAppVersion.size ≤ 1000000 ∧ m.fKubeVersion.size ≤ 1000000 ∧ m.fType.size ≤ 1000000) ∧ (∀ x ∈ m.fSources, x.size ≤ 1000000) ∧ (∀ x ∈ m.fKeywords, x.size ≤ 1000000) ∧ (∀ p ∈ m.fMaintainers, p.fName.size ≤ 1000000 ∧ p.fEmail.size ≤ 1000000 ∧ p.fURL.size ≤ 1000000) ∧
  ∀ d ∈ m.fDependencies, (d.fName.size ≤ 1000000 ∧ d.fVersion.size ≤ 1000000 ∧ d.fRepository.size ≤ 1000000 ∧ d.fCondition.size ≤ 1000000 ∧ d.fAlias.size ≤ 1000000) ∧ (∀ x ∈ d.fTags, x.size ≤ 1000000) ∧ d.fTags.length ≤ 1000000
/-- What is left of the rows, by what is wrong. -/
def SA.cmR (f : Nat) (y : Ty26) : SA := cond (Nat.beq f 0) (SA.mv y) (cond (Nat.ble f 6) (SA.stars [SA.own0 (.slice y.fSources_a y.fSources.length y.fSources_c) 9 1 y.fSources.length (strs y.fSources), SA.own0 (.slice y.fKeywords_a y.fKeywords.length y.fKeywords_c) 9 1 y.fKeywords.length (strs y.fKeywords)]) SA.emp)
def MRes (m y : Ty26) (f : Nat) : Prop := (1 ≤ f → f ≤ 6 → metS y = metS (cln8 m) ∧ y.fMaintainers_a = m.fMaintainers_a ∧ y.fDependencies_a = m.fDependencies_a ∧ y.fMaintainers = m.fMaintainers ∧ y.fDependencies = m.fDependencies) ∧ (f = 0 → metS y = metS (clnA m))
theorem numsF_len3 (s : ByteArray) : (numsF s).length = 3 := by
  unfold numsF
  cases h : pref s 3 with
  | none => rfl
  | some x => obtain ⟨l, p⟩ := x; exact pref_len h
theorem chNums3 (s : ByteArray) (R : Ctx) (L : List SA) (w : World) (S : Sp R w L) (hs : s.size ≤ 1000000) : Calls Try.prog 82 #[.string s] w fun e w' => ∃ (n0 n1 n2 : Int), e = .returned (.tuple #[.agg #[.int .i64 n0, .int .i64 n1, .int .i64 n2], .bool (plainB s)]) ∧ Sp R w' L := by
  obtain ⟨n0, n1, n2, hn⟩ : ∃ n0 n1 n2, numsF s = [n0, n1, n2] := by
    have hl := numsF_len3 s
    match h : numsF s, hl with
    | [a, b, c], _ => exact ⟨a, b, c, rfl⟩
  refine (chNums_any s w hs).mono fun e w' ⟨he, hb⟩ => ⟨n0, n1, n2, ?_, S.below hb⟩
  rw [he, hn]; rfl
theorem cleanF_le (s : ByteArray) : (cleanF s).size ≤ s.size := by
  have := List.length_filterMap_le cleanB s.data.toList
  show ((s.data.toList.filterMap cleanB).toArray).size ≤ s.data.size
  simpa using this
theorem beq_sw3 (a b : ByteArray) : (a.toList == b.toList) = (b.toList == a.toList) := Bool.eq_iff_iff.2 (by rw [beq_iff_eq, beq_iff_eq]; exact ⟨Eq.symm, Eq.symm⟩)
abbrev zq21 (x0 : Nat) : Array Value := #[.pointer (some ⟨x0, 0, none⟩), .pointer (some ⟨x0, 3, none⟩), .pointer (some ⟨x0, 1, none⟩), .pointer (some ⟨x0, 4, none⟩), .pointer (some ⟨x0, 6, none⟩), .pointer (some ⟨x0, 7, none⟩), .pointer (some ⟨x0, 8, none⟩), .pointer (some ⟨x0, 9, none⟩)]
abbrev zq22 (x0 : Ty26) : Array Value := #[.string (cleanF x0.fName), .string (cleanF x0.fHome), .string x0.fVersion, .string (cleanF x0.fDescription), .string (cleanF x0.fIcon), .string x0.fAPIVersion, .string (cleanF x0.fCondition), .string (cleanF x0.fTags), .string (cleanF x0.fAppVersion), .string (cleanF x0.fKubeVersion), .string x0.fType, .slice x0.fSources_a x0.fSources.length x0.fSources_c, .slice x0.fKeywords_a x0.fKeywords.length x0.fKeywords_c, .slice x0.fMaintainers_a x0.fMaintainers.length x0.fMaintainers_c, .slice x0.fDependencies_a x0.fDependencies.length x0.fDependencies_c]
abbrev zq23 (x0 : Ty26) (x1 : Option Addr) (x2 : Nat) (x3 : Option Addr) (x4 : Nat) : Array Value := #[.string (cleanF x0.fName), .string (cleanF x0.fHome), .string x0.fVersion, .string (cleanF x0.fDescription), .string (cleanF x0.fIcon), .string x0.fAPIVersion, .string (cleanF x0.fCondition), .string (cleanF x0.fTags), .string (cleanF x0.fAppVersion), .string (cleanF x0.fKubeVersion), .string x0.fType, .slice x1 ((cleansF x0.fSources).length) x2, .slice x3 ((cleansF x0.fKeywords).length) x4, .slice x0.fMaintainers_a x0.fMaintainers.length x0.fMaintainers_c, .slice x0.fDependencies_a x0.fDependencies.length x0.fDependencies_c]
abbrev zq24 (x0 : Ty26) (x1 : Option Addr) (x2 : Nat) (x3 : Option Addr) (x4 : Nat) (x5 : Option Addr) (x6 : Nat) : Array Value := #[.string (cleanF x0.fName), .string (cleanF x0.fHome), .string x0.fVersion, .string (cleanF x0.fDescription), .string (cleanF x0.fIcon), .string x0.fAPIVersion, .string (cleanF x0.fCondition), .string (cleanF x0.fTags), .string (cleanF x0.fAppVersion), .string (cleanF x0.fKubeVersion), .string x0.fType, .slice x1 ((cleansF x0.fSources).length) x2, .slice x3 ((cleansF x0.fKeywords).length) x4, .slice x5 x0.fMaintainers.length x6, .slice x0.fDependencies_a x0.fDependencies.length x0.fDependencies_c]
abbrev zq25 (x0 : Ty78) : Array Value := #[.agg #[.bool x0.fNil, .string x0.fName, .string x0.fEmail, .string x0.fURL], .bool false]
abbrev zq26 (x0 : Ty78) : Array Value := #[.agg #[.bool x0.fNil, .string (cleanF x0.fName), .string (cleanF x0.fEmail), .string (cleanF x0.fURL)], .bool true]
abbrev zq27 (x0 : Ty26) (x1 : Option Addr) (x2 : Nat) (x3 : Option Addr) (x4 : Nat) (x5 : Option Addr) (x6 : Nat) (x7 : Option Addr) (x8 : Nat) : Array Value := #[.string (cleanF x0.fName), .string (cleanF x0.fHome), .string x0.fVersion, .string (cleanF x0.fDescription), .string (cleanF x0.fIcon), .string x0.fAPIVersion, .string (cleanF x0.fCondition), .string (cleanF x0.fTags), .string (cleanF x0.fAppVersion), .string (cleanF x0.fKubeVersion), .string x0.fType, .slice x1 ((cleansF x0.fSources).length) x2, .slice x3 ((cleansF x0.fKeywords).length) x4, .slice x5 x0.fMaintainers.length x6, .slice x7 x0.fDependencies.length x8]
abbrev zq28 (x0 : Ty80) : Array Value := #[.agg #[.bool x0.fNil, .string x0.fName, .string x0.fVersion, .string x0.fRepository, .string x0.fCondition, .slice (x0.fTags_a) (x0.fTags.length) (x0.fTags_c), .string x0.fAlias], .bool false]
abbrev zq29 (x0 : Ty80) (x1 : Option Addr) (x2 : Nat) : Array Value := #[.agg #[.bool x0.fNil, .string (cleanF x0.fName), .string (cleanF x0.fVersion), .string (cleanF x0.fRepository), .string (cleanF x0.fCondition), .slice x1 ((cleansF x0.fTags).length) x2, .string x0.fAlias], .bool (aliasF x0.fAlias)]
set_option maxRecDepth 100000 in
set_option maxHeartbeats 20000000 in
theorem chMeta_sp (m : Ty26) (R : Ctx) (L : List SA) (w : World) (S : Sp R w (L)) (h0 : Rf R L fun w => MetaAt w m) (hz : metMil m) (hm1 : m.fSources.length ≤ 1000000) (hm2 : m.fKeywords.length ≤ 1000000) (hm3 : m.fMaintainers.length ≤ 1000000) (hm4 : m.fDependencies.length ≤ 1000000) (hm5 : ∀ d ∈ m.fDependencies, d.fTags.length ≤ 1000000) :
  Calls Try.prog 60 #[.agg #[.string m.fName, .string m.fHome, .string m.fVersion, .string m.fDescription, .string m.fIcon, .string m.fAPIVersion, .string m.fCondition, .string m.fTags, .string m.fAppVersion, .string m.fKubeVersion, .string m.fType, .slice (m.fSources_a) (m.fSources.length) (m.fSources_c), .slice (m.fKeywords_a) (m.fKeywords.length) (m.fKeywords_c), .slice (m.fMaintainers_a) (m.fMaintainers.length) (m.fMaintainers_c), .slice (m.fDependencies_a) (m.fDependencies.length) (m.fDependencies_c)]] w fun e w' => ∃ y : Ty26, ∃ f : Nat, e = .returned (.tuple #[.agg #[.string y.fName, .string y.fHome, .string y.fVersion, .string y.fDescription, .string y.fIcon, .string y.fAPIVersion, .string y.fCondition, .string y.fTags, .string y.fAppVersion, .string y.fKubeVersion, .string y.fType, .slice y.fSources_a y.fSources.length y.fSources_c, .slice y.fKeywords_a y.fKeywords.length y.fKeywords_c, .slice y.fMaintainers_a y.fMaintainers.length y.fMaintainers_c, .slice y.fDependencies_a y.fDependencies.length y.fDependencies_c], .int .i64 (↑f)]) ∧ Sp R w' (SA.cmR f y :: L) ∧ (f = whatF m) ∧ (MRes m y f) := by
 obtain ⟨hzs, hzS, hzK, hzM, hzD⟩ := hz
 obtain ⟨hz0, hz1, hz2, hz3, hz4, hz5, hz6, hz7, hz8, hz9, hz10⟩ := hzs
 have k0 : Rf R L fun w => Sl w m.fSources_a (strs m.fSources) := fun w S => (h0 w S).1
 have k1 : Rf R L fun w => Sl w m.fKeywords_a (strs m.fKeywords) := fun w S => (h0 w S).2.1
 have k2 : Rf R L fun w => Rows w m.fMaintainers_a 4 (m.fMaintainers.map Ty78.cells) := fun w S => (h0 w S).2.2.1
 have k3 : Rf R L fun w => Rows w m.fDependencies_a 7 (m.fDependencies.map Ty80.cells) := fun w S => (h0 w S).2.2.2.1
 refine fw_enter (fn := Try.f60) rfl rfl 184 rfl (Nat.le_of_ble_eq_true rfl) ?_
 intro a0 F0
 refine wp_seq_k fun K1 hK1 => ?_
 refine wp_region_lit ?_
 refine op_sq F0 (s_newp F0 26 (zq2 m) (by kernel_rfl) (by kernel_rfl) (by kernel_rfl) S) ?_
 rintro _ _ w3 ⟨g1, rfl, rfl⟩ S3 a3 F3
 refine op_sq F3 (s_newp F3 26 zq8 (by kernel_rfl) (by kernel_rfl) (by kernel_rfl) S3) ?_
 rintro _ _ w5 ⟨g3, rfl, rfl⟩ S5 a5 F5
 refine op_q F5 (.int .i64 0) ?_; intro a6 F6
 refine wpList_nil ?_
 refine hK1 _ _ ?_; clear hK1 K1
 refine wp_seq_k fun K7 hK7 => ?_
 refine wp_seq_k fun K8 hK8 => ?_
 refine wp_region_lit ?_
 refine op_q F6 (.pointer (some ⟨g1, 0, none⟩)) ?_; intro a9 F9
 refine op_q F9 (.pointer (some ⟨g1, 3, none⟩)) ?_; intro a10 F10
 refine op_q F10 (.pointer (some ⟨g1, 1, none⟩)) ?_; intro a11 F11
 refine op_q F11 (.pointer (some ⟨g1, 4, none⟩)) ?_; intro a12 F12
 refine op_q F12 (.pointer (some ⟨g1, 6, none⟩)) ?_; intro a13 F13
 refine op_q F13 (.pointer (some ⟨g1, 7, none⟩)) ?_; intro a14 F14
 refine op_q F14 (.pointer (some ⟨g1, 8, none⟩)) ?_; intro a15 F15
 refine op_q F15 (.pointer (some ⟨g1, 9, none⟩)) ?_; intro a16 F16
 refine op_sq F16 (s_news F16 197 (zq21 g1) 8 (by kernel_rfl) (by kernel_rfl) (by kernel_rfl) S5) ?_
 rintro _ _ w18 ⟨g16, rfl, rfl⟩ S18 a18 F18
 refine op_q F18 (.int .i64 8) ?_; intro a19 F19
 refine op_q F19 (.int .i64 0) ?_; intro a20 F20
 refine wpList_nil ?_
 refine hK8 _ _ ?_; clear hK8 K8
 refine wp_block ?_
 have S21 : Sp R w18 (SA.blk g1 26 (mclC m 0) :: SA.blk g16 197 (zq21 g1) :: SA.blk g3 26 zq8 :: L) := S18.p2
 refine fw_loop (fun m' a' w' => ∃ k : Nat, 8 - k = m' ∧ Fr 184 [] a' [(1, .pointer (some ⟨g1, 0, none⟩)), (2, .pointer (some ⟨g3, 0, none⟩)), (3, .int .i64 0), (26, .slice (some ⟨g16, 0, none⟩) 8 8), (27, .int .i64 8), (28, .int .i64 (↑k))] ∧ Sp R w' (SA.blk g1 26 (mclC m k) :: SA.blk g16 197 (zq21 g1) :: SA.blk g3 26 zq8 :: L) ∧ (k ≤ 8)) _ ⟨0, rfl, (F20.kk 1 (F20.kk 2 (F20.kk 3 (F20.kk 26 (F20.kk 27 (F20.kk 28 F20.nil)))))), S21.p2.p2.p2, (by first | omega | (with_reducible assumption) | (simp; done))⟩ ?_
 rintro m22 a22 w22 ⟨k, hm22, F22, S22, hk⟩ K22 hK22
 by_cases hlt_k : k < 8
 ·have hc_k : decide ((↑k : Int) < 8) = true := by first | (simp; done) | (simp; omega)
  refine wp_seq_k fun K23 hK23 => ?_
  refine wp_region_lit ?_
  refine op_q F22 (.bool (decide ((↑k : Int) < 8))) ?_; intro a24 F24
  have F25 := F24.sb 29 (by kernel_rfl) hc_k
  refine wpList_nil ?_
  refine hK23 _ _ ?_; clear hK23 K23
  refine wp_seq_k fun K26 hK26 => ?_
  refine wp_cond_true (F25.ev (by kernel_rfl)) ?_
  refine wp_skip ?_
  refine hK26 _ _ ?_; clear hK26 K26
  refine wp_seq_k fun K27 hK27 => ?_
  refine wp_block ?_
  refine wp_seq_k fun K28 hK28 => ?_
  have hk8 : k = 0 ∨ k = 1 ∨ k = 2 ∨ k = 3 ∨ k = 4 ∨ k = 5 ∨ k = 6 ∨ k = 7 := by omega
  rcases hk8 with rfl | rfl | rfl | rfl | rfl | rfl | rfl | rfl
  ·have S29 : Sp R w22 (SA.blk g1 26 (zq13 m) :: SA.blk g16 197 (zq21 g1) :: SA.blk g3 26 zq8 :: L) := S22
   refine wp_region_lit ?_
   refine op_rq (v := .pointer (some ⟨g16, 0, none⟩)) F25 (r_ix rfl Try.underlying198 1 (by kernel_rfl) (F25.e (.slice (some ⟨g16, 0, none⟩) 8 8)) rfl (F25.e (.int .i64 0)) 0 (by first | rfl | omega | simp) (by first | omega | (simp; done) | (simp; omega)) (by kernel_rfl)) ?_; intro a30 F30
   refine op_rq (v := .pointer (some ⟨g1, 0, none⟩)) F30 (r_ld rfl (F30.e (.pointer (some ⟨g16, 0, none⟩))) (v := .pointer (some ⟨g1, 0, none⟩)) ((S29.bk 1 rfl).cell 0) Try.underlying197 rfl) ?_; intro a31 F31
   refine op_q F31 (.pointer (some ⟨g1, 0, none⟩)) ?_; intro a32 F32
   refine wpList_nil ?_
   refine hK28 _ _ ?_; clear hK28 K28
   refine wp_region_lit ?_
   refine op_q F32 (.pointer (some ⟨g1, 0, none⟩)) ?_; intro a33 F33
   refine op_q F33 (.pointer (some ⟨g1, 0, none⟩)) ?_; intro a34 F34
   refine op_q F34 (.pointer (some ⟨g1, 0, none⟩)) ?_; intro a35 F35
   refine op_rq (v := .string m.fName) F35 (r_ld rfl (F35.e (.pointer (some ⟨g1, 0, none⟩))) (v := .string m.fName) ((S29.bk 0 rfl).cell 0) Try.underlying9 rfl) ?_; intro a36 F36
   refine op_cq F36 (f := 118) (args := #[.string m.fName]) (chClean_any m.fName _ (by first | omega | (simp; done) | (simp; omega))) ?_
   rintro _ w37 ⟨rfl, hb_37⟩
   refine ⟨_, rfl, ?_⟩
   intro a38 F38
   have S37 := S29.below hb_37
   refine op_q F38 (.pointer (some ⟨g1, 0, none⟩)) ?_; intro a39 F39
   refine op_sq0 F39 (s_st rfl (F39.e (.pointer (some ⟨g1, 0, none⟩))) (F39.e (.string (cleanF m.fName))) S37 (by kernel_rfl) rfl rfl rfl (cs := #[.string (cleanF m.fName), .string m.fHome, .string m.fVersion, .string m.fDescription, .string m.fIcon, .string m.fAPIVersion, .string m.fCondition, .string m.fTags, .string m.fAppVersion, .string m.fKubeVersion, .string m.fType, .slice m.fSources_a m.fSources.length m.fSources_c, .slice m.fKeywords_a m.fKeywords.length m.fKeywords_c, .slice m.fMaintainers_a m.fMaintainers.length m.fMaintainers_c, .slice m.fDependencies_a m.fDependencies.length m.fDependencies_c]) (by kernel_rfl)) ?_
   rintro _ _ w40 rfl S40 F40
   refine wpList_nil ?_
   refine hK27 _ _ ?_; clear hK27 K27
   refine wp_region_lit ?_
   refine op_q F40 (.int .i64 1) ?_; intro a41 F41
   refine op_q F41 (.int .i64 1) ?_; intro a42 F42
   refine wpList_nil ?_
   have S43 : Sp R w40 (SA.blk g1 26 (mclC m 1) :: SA.blk g16 197 (zq21 g1) :: SA.blk g3 26 zq8 :: L) := S40
   exact hK22 _ _ _ (by first | omega | (simp; omega)) ⟨1, rfl, (F42.kk 1 (F42.kk 2 (F42.kk 3 (F42.kk 26 (F42.kk 27 (F42.kk 28 F42.nil)))))), S43.p2.p2.p2, (by first | omega | (with_reducible assumption) | (simp; done))⟩
  ·have S44 : Sp R w22 (SA.blk g1 26 #[.string (cleanF m.fName), .string m.fHome, .string m.fVersion, .string m.fDescription, .string m.fIcon, .string m.fAPIVersion, .string m.fCondition, .string m.fTags, .string m.fAppVersion, .string m.fKubeVersion, .string m.fType, .slice m.fSources_a m.fSources.length m.fSources_c, .slice m.fKeywords_a m.fKeywords.length m.fKeywords_c, .slice m.fMaintainers_a m.fMaintainers.length m.fMaintainers_c, .slice m.fDependencies_a m.fDependencies.length m.fDependencies_c] :: SA.blk g16 197 (zq21 g1) :: SA.blk g3 26 zq8 :: L) := S22
   refine wp_region_lit ?_
   refine op_rq (v := .pointer (some ⟨g16, 1, none⟩)) F25 (r_ix rfl Try.underlying198 1 (by kernel_rfl) (F25.e (.slice (some ⟨g16, 0, none⟩) 8 8)) rfl (F25.e (.int .i64 1)) 1 (by first | rfl | omega | simp) (by first | omega | (simp; done) | (simp; omega)) (by kernel_rfl)) ?_; intro a45 F45
   refine op_rq (v := .pointer (some ⟨g1, 3, none⟩)) F45 (r_ld rfl (F45.e (.pointer (some ⟨g16, 1, none⟩))) (v := .pointer (some ⟨g1, 3, none⟩)) ((S44.bk 1 rfl).cell 1) Try.underlying197 rfl) ?_; intro a46 F46
   refine op_q F46 (.pointer (some ⟨g1, 3, none⟩)) ?_; intro a47 F47
   refine wpList_nil ?_
   refine hK28 _ _ ?_; clear hK28 K28
   refine wp_region_lit ?_
   refine op_q F47 (.pointer (some ⟨g1, 3, none⟩)) ?_; intro a48 F48
   refine op_q F48 (.pointer (some ⟨g1, 3, none⟩)) ?_; intro a49 F49
   refine op_q F49 (.pointer (some ⟨g1, 3, none⟩)) ?_; intro a50 F50
   refine op_rq (v := .string m.fDescription) F50 (r_ld rfl (F50.e (.pointer (some ⟨g1, 3, none⟩))) (v := .string m.fDescription) ((S44.bk 0 rfl).cell 3) Try.underlying9 rfl) ?_; intro a51 F51
   refine op_cq F51 (f := 118) (args := #[.string m.fDescription]) (chClean_any m.fDescription _ (by first | omega | (simp; done) | (simp; omega))) ?_
   rintro _ w52 ⟨rfl, hb_52⟩
   refine ⟨_, rfl, ?_⟩
   intro a53 F53
   have S52 := S44.below hb_52
   refine op_q F53 (.pointer (some ⟨g1, 3, none⟩)) ?_; intro a54 F54
   refine op_sq0 F54 (s_st rfl (F54.e (.pointer (some ⟨g1, 3, none⟩))) (F54.e (.string (cleanF m.fDescription))) S52 (by kernel_rfl) rfl rfl rfl (cs := #[.string (cleanF m.fName), .string m.fHome, .string m.fVersion, .string (cleanF m.fDescription), .string m.fIcon, .string m.fAPIVersion, .string m.fCondition, .string m.fTags, .string m.fAppVersion, .string m.fKubeVersion, .string m.fType, .slice m.fSources_a m.fSources.length m.fSources_c, .slice m.fKeywords_a m.fKeywords.length m.fKeywords_c, .slice m.fMaintainers_a m.fMaintainers.length m.fMaintainers_c, .slice m.fDependencies_a m.fDependencies.length m.fDependencies_c]) (by kernel_rfl)) ?_
   rintro _ _ w55 rfl S55 F55
   refine wpList_nil ?_
   refine hK27 _ _ ?_; clear hK27 K27
   refine wp_region_lit ?_
   refine op_q F55 (.int .i64 2) ?_; intro a56 F56
   refine op_q F56 (.int .i64 2) ?_; intro a57 F57
   refine wpList_nil ?_
   have S58 : Sp R w55 (SA.blk g1 26 (mclC m 2) :: SA.blk g16 197 (zq21 g1) :: SA.blk g3 26 zq8 :: L) := S55
   exact hK22 _ _ _ (by first | omega | (simp; omega)) ⟨2, rfl, (F57.kk 1 (F57.kk 2 (F57.kk 3 (F57.kk 26 (F57.kk 27 (F57.kk 28 F57.nil)))))), S58.p2.p2.p2, (by first | omega | (with_reducible assumption) | (simp; done))⟩
  ·have S59 : Sp R w22 (SA.blk g1 26 #[.string (cleanF m.fName), .string m.fHome, .string m.fVersion, .string (cleanF m.fDescription), .string m.fIcon, .string m.fAPIVersion, .string m.fCondition, .string m.fTags, .string m.fAppVersion, .string m.fKubeVersion, .string m.fType, .slice m.fSources_a m.fSources.length m.fSources_c, .slice m.fKeywords_a m.fKeywords.length m.fKeywords_c, .slice m.fMaintainers_a m.fMaintainers.length m.fMaintainers_c, .slice m.fDependencies_a m.fDependencies.length m.fDependencies_c] :: SA.blk g16 197 (zq21 g1) :: SA.blk g3 26 zq8 :: L) := S22
   refine wp_region_lit ?_
   refine op_rq (v := .pointer (some ⟨g16, 2, none⟩)) F25 (r_ix rfl Try.underlying198 1 (by kernel_rfl) (F25.e (.slice (some ⟨g16, 0, none⟩) 8 8)) rfl (F25.e (.int .i64 2)) 2 (by first | rfl | omega | simp) (by first | omega | (simp; done) | (simp; omega)) (by kernel_rfl)) ?_; intro a60 F60
   refine op_rq (v := .pointer (some ⟨g1, 1, none⟩)) F60 (r_ld rfl (F60.e (.pointer (some ⟨g16, 2, none⟩))) (v := .pointer (some ⟨g1, 1, none⟩)) ((S59.bk 1 rfl).cell 2) Try.underlying197 rfl) ?_; intro a61 F61
   refine op_q F61 (.pointer (some ⟨g1, 1, none⟩)) ?_; intro a62 F62
   refine wpList_nil ?_
   refine hK28 _ _ ?_; clear hK28 K28
   refine wp_region_lit ?_
   refine op_q F62 (.pointer (some ⟨g1, 1, none⟩)) ?_; intro a63 F63
   refine op_q F63 (.pointer (some ⟨g1, 1, none⟩)) ?_; intro a64 F64
   refine op_q F64 (.pointer (some ⟨g1, 1, none⟩)) ?_; intro a65 F65
   refine op_rq (v := .string m.fHome) F65 (r_ld rfl (F65.e (.pointer (some ⟨g1, 1, none⟩))) (v := .string m.fHome) ((S59.bk 0 rfl).cell 1) Try.underlying9 rfl) ?_; intro a66 F66
   refine op_cq F66 (f := 118) (args := #[.string m.fHome]) (chClean_any m.fHome _ (by first | omega | (simp; done) | (simp; omega))) ?_
   rintro _ w67 ⟨rfl, hb_67⟩
   refine ⟨_, rfl, ?_⟩
   intro a68 F68
   have S67 := S59.below hb_67
   refine op_q F68 (.pointer (some ⟨g1, 1, none⟩)) ?_; intro a69 F69
   refine op_sq0 F69 (s_st rfl (F69.e (.pointer (some ⟨g1, 1, none⟩))) (F69.e (.string (cleanF m.fHome))) S67 (by kernel_rfl) rfl rfl rfl (cs := #[.string (cleanF m.fName), .string (cleanF m.fHome), .string m.fVersion, .string (cleanF m.fDescription), .string m.fIcon, .string m.fAPIVersion, .string m.fCondition, .string m.fTags, .string m.fAppVersion, .string m.fKubeVersion, .string m.fType, .slice m.fSources_a m.fSources.length m.fSources_c, .slice m.fKeywords_a m.fKeywords.length m.fKeywords_c, .slice m.fMaintainers_a m.fMaintainers.length m.fMaintainers_c, .slice m.fDependencies_a m.fDependencies.length m.fDependencies_c]) (by kernel_rfl)) ?_
   rintro _ _ w70 rfl S70 F70
   refine wpList_nil ?_
   refine hK27 _ _ ?_; clear hK27 K27
   refine wp_region_lit ?_
   refine op_q F70 (.int .i64 3) ?_; intro a71 F71
   refine op_q F71 (.int .i64 3) ?_; intro a72 F72
   refine wpList_nil ?_
   have S73 : Sp R w70 (SA.blk g1 26 (mclC m 3) :: SA.blk g16 197 (zq21 g1) :: SA.blk g3 26 zq8 :: L) := S70
   exact hK22 _ _ _ (by first | omega | (simp; omega)) ⟨3, rfl, (F72.kk 1 (F72.kk 2 (F72.kk 3 (F72.kk 26 (F72.kk 27 (F72.kk 28 F72.nil)))))), S73.p2.p2.p2, (by first | omega | (with_reducible assumption) | (simp; done))⟩
  ·have S74 : Sp R w22 (SA.blk g1 26 #[.string (cleanF m.fName), .string (cleanF m.fHome), .string m.fVersion, .string (cleanF m.fDescription), .string m.fIcon, .string m.fAPIVersion, .string m.fCondition, .string m.fTags, .string m.fAppVersion, .string m.fKubeVersion, .string m.fType, .slice m.fSources_a m.fSources.length m.fSources_c, .slice m.fKeywords_a m.fKeywords.length m.fKeywords_c, .slice m.fMaintainers_a m.fMaintainers.length m.fMaintainers_c, .slice m.fDependencies_a m.fDependencies.length m.fDependencies_c] :: SA.blk g16 197 (zq21 g1) :: SA.blk g3 26 zq8 :: L) := S22
   refine wp_region_lit ?_
   refine op_rq (v := .pointer (some ⟨g16, 3, none⟩)) F25 (r_ix rfl Try.underlying198 1 (by kernel_rfl) (F25.e (.slice (some ⟨g16, 0, none⟩) 8 8)) rfl (F25.e (.int .i64 3)) 3 (by first | rfl | omega | simp) (by first | omega | (simp; done) | (simp; omega)) (by kernel_rfl)) ?_; intro a75 F75
   refine op_rq (v := .pointer (some ⟨g1, 4, none⟩)) F75 (r_ld rfl (F75.e (.pointer (some ⟨g16, 3, none⟩))) (v := .pointer (some ⟨g1, 4, none⟩)) ((S74.bk 1 rfl).cell 3) Try.underlying197 rfl) ?_; intro a76 F76
   refine op_q F76 (.pointer (some ⟨g1, 4, none⟩)) ?_; intro a77 F77
   refine wpList_nil ?_
   refine hK28 _ _ ?_; clear hK28 K28
   refine wp_region_lit ?_
   refine op_q F77 (.pointer (some ⟨g1, 4, none⟩)) ?_; intro a78 F78
   refine op_q F78 (.pointer (some ⟨g1, 4, none⟩)) ?_; intro a79 F79
   refine op_q F79 (.pointer (some ⟨g1, 4, none⟩)) ?_; intro a80 F80
   refine op_rq (v := .string m.fIcon) F80 (r_ld rfl (F80.e (.pointer (some ⟨g1, 4, none⟩))) (v := .string m.fIcon) ((S74.bk 0 rfl).cell 4) Try.underlying9 rfl) ?_; intro a81 F81
   refine op_cq F81 (f := 118) (args := #[.string m.fIcon]) (chClean_any m.fIcon _ (by first | omega | (simp; done) | (simp; omega))) ?_
   rintro _ w82 ⟨rfl, hb_82⟩
   refine ⟨_, rfl, ?_⟩
   intro a83 F83
   have S82 := S74.below hb_82
   refine op_q F83 (.pointer (some ⟨g1, 4, none⟩)) ?_; intro a84 F84
   refine op_sq0 F84 (s_st rfl (F84.e (.pointer (some ⟨g1, 4, none⟩))) (F84.e (.string (cleanF m.fIcon))) S82 (by kernel_rfl) rfl rfl rfl (cs := #[.string (cleanF m.fName), .string (cleanF m.fHome), .string m.fVersion, .string (cleanF m.fDescription), .string (cleanF m.fIcon), .string m.fAPIVersion, .string m.fCondition, .string m.fTags, .string m.fAppVersion, .string m.fKubeVersion, .string m.fType, .slice m.fSources_a m.fSources.length m.fSources_c, .slice m.fKeywords_a m.fKeywords.length m.fKeywords_c, .slice m.fMaintainers_a m.fMaintainers.length m.fMaintainers_c, .slice m.fDependencies_a m.fDependencies.length m.fDependencies_c]) (by kernel_rfl)) ?_
   rintro _ _ w85 rfl S85 F85
   refine wpList_nil ?_
   refine hK27 _ _ ?_; clear hK27 K27
   refine wp_region_lit ?_
   refine op_q F85 (.int .i64 4) ?_; intro a86 F86
   refine op_q F86 (.int .i64 4) ?_; intro a87 F87
   refine wpList_nil ?_
   have S88 : Sp R w85 (SA.blk g1 26 (mclC m 4) :: SA.blk g16 197 (zq21 g1) :: SA.blk g3 26 zq8 :: L) := S85
   exact hK22 _ _ _ (by first | omega | (simp; omega)) ⟨4, rfl, (F87.kk 1 (F87.kk 2 (F87.kk 3 (F87.kk 26 (F87.kk 27 (F87.kk 28 F87.nil)))))), S88.p2.p2.p2, (by first | omega | (with_reducible assumption) | (simp; done))⟩
  ·have S89 : Sp R w22 (SA.blk g1 26 #[.string (cleanF m.fName), .string (cleanF m.fHome), .string m.fVersion, .string (cleanF m.fDescription), .string (cleanF m.fIcon), .string m.fAPIVersion, .string m.fCondition, .string m.fTags, .string m.fAppVersion, .string m.fKubeVersion, .string m.fType, .slice m.fSources_a m.fSources.length m.fSources_c, .slice m.fKeywords_a m.fKeywords.length m.fKeywords_c, .slice m.fMaintainers_a m.fMaintainers.length m.fMaintainers_c, .slice m.fDependencies_a m.fDependencies.length m.fDependencies_c] :: SA.blk g16 197 (zq21 g1) :: SA.blk g3 26 zq8 :: L) := S22
   refine wp_region_lit ?_
   refine op_rq (v := .pointer (some ⟨g16, 4, none⟩)) F25 (r_ix rfl Try.underlying198 1 (by kernel_rfl) (F25.e (.slice (some ⟨g16, 0, none⟩) 8 8)) rfl (F25.e (.int .i64 4)) 4 (by first | rfl | omega | simp) (by first | omega | (simp; done) | (simp; omega)) (by kernel_rfl)) ?_; intro a90 F90
   refine op_rq (v := .pointer (some ⟨g1, 6, none⟩)) F90 (r_ld rfl (F90.e (.pointer (some ⟨g16, 4, none⟩))) (v := .pointer (some ⟨g1, 6, none⟩)) ((S89.bk 1 rfl).cell 4) Try.underlying197 rfl) ?_; intro a91 F91
   refine op_q F91 (.pointer (some ⟨g1, 6, none⟩)) ?_; intro a92 F92
   refine wpList_nil ?_
   refine hK28 _ _ ?_; clear hK28 K28
   refine wp_region_lit ?_
   refine op_q F92 (.pointer (some ⟨g1, 6, none⟩)) ?_; intro a93 F93
   refine op_q F93 (.pointer (some ⟨g1, 6, none⟩)) ?_; intro a94 F94
   refine op_q F94 (.pointer (some ⟨g1, 6, none⟩)) ?_; intro a95 F95
   refine op_rq (v := .string m.fCondition) F95 (r_ld rfl (F95.e (.pointer (some ⟨g1, 6, none⟩))) (v := .string m.fCondition) ((S89.bk 0 rfl).cell 6) Try.underlying9 rfl) ?_; intro a96 F96
   refine op_cq F96 (f := 118) (args := #[.string m.fCondition]) (chClean_any m.fCondition _ (by first | omega | (simp; done) | (simp; omega))) ?_
   rintro _ w97 ⟨rfl, hb_97⟩
   refine ⟨_, rfl, ?_⟩
   intro a98 F98
   have S97 := S89.below hb_97
   refine op_q F98 (.pointer (some ⟨g1, 6, none⟩)) ?_; intro a99 F99
   refine op_sq0 F99 (s_st rfl (F99.e (.pointer (some ⟨g1, 6, none⟩))) (F99.e (.string (cleanF m.fCondition))) S97 (by kernel_rfl) rfl rfl rfl (cs := #[.string (cleanF m.fName), .string (cleanF m.fHome), .string m.fVersion, .string (cleanF m.fDescription), .string (cleanF m.fIcon), .string m.fAPIVersion, .string (cleanF m.fCondition), .string m.fTags, .string m.fAppVersion, .string m.fKubeVersion, .string m.fType, .slice m.fSources_a m.fSources.length m.fSources_c, .slice m.fKeywords_a m.fKeywords.length m.fKeywords_c, .slice m.fMaintainers_a m.fMaintainers.length m.fMaintainers_c, .slice m.fDependencies_a m.fDependencies.length m.fDependencies_c]) (by kernel_rfl)) ?_
   rintro _ _ w100 rfl S100 F100
   refine wpList_nil ?_
   refine hK27 _ _ ?_; clear hK27 K27
   refine wp_region_lit ?_
   refine op_q F100 (.int .i64 5) ?_; intro a101 F101
   refine op_q F101 (.int .i64 5) ?_; intro a102 F102
   refine wpList_nil ?_
   have S103 : Sp R w100 (SA.blk g1 26 (mclC m 5) :: SA.blk g16 197 (zq21 g1) :: SA.blk g3 26 zq8 :: L) := S100
   exact hK22 _ _ _ (by first | omega | (simp; omega)) ⟨5, rfl, (F102.kk 1 (F102.kk 2 (F102.kk 3 (F102.kk 26 (F102.kk 27 (F102.kk 28 F102.nil)))))), S103.p2.p2.p2, (by first | omega | (with_reducible assumption) | (simp; done))⟩
  ·have S104 : Sp R w22 (SA.blk g1 26 #[.string (cleanF m.fName), .string (cleanF m.fHome), .string m.fVersion, .string (cleanF m.fDescription), .string (cleanF m.fIcon), .string m.fAPIVersion, .string (cleanF m.fCondition), .string m.fTags, .string m.fAppVersion, .string m.fKubeVersion, .string m.fType, .slice m.fSources_a m.fSources.length m.fSources_c, .slice m.fKeywords_a m.fKeywords.length m.fKeywords_c, .slice m.fMaintainers_a m.fMaintainers.length m.fMaintainers_c, .slice m.fDependencies_a m.fDependencies.length m.fDependencies_c] :: SA.blk g16 197 (zq21 g1) :: SA.blk g3 26 zq8 :: L) := S22
   refine wp_region_lit ?_
   refine op_rq (v := .pointer (some ⟨g16, 5, none⟩)) F25 (r_ix rfl Try.underlying198 1 (by kernel_rfl) (F25.e (.slice (some ⟨g16, 0, none⟩) 8 8)) rfl (F25.e (.int .i64 5)) 5 (by first | rfl | omega | simp) (by first | omega | (simp; done) | (simp; omega)) (by kernel_rfl)) ?_; intro a105 F105
   refine op_rq (v := .pointer (some ⟨g1, 7, none⟩)) F105 (r_ld rfl (F105.e (.pointer (some ⟨g16, 5, none⟩))) (v := .pointer (some ⟨g1, 7, none⟩)) ((S104.bk 1 rfl).cell 5) Try.underlying197 rfl) ?_; intro a106 F106
   refine op_q F106 (.pointer (some ⟨g1, 7, none⟩)) ?_; intro a107 F107
   refine wpList_nil ?_
   refine hK28 _ _ ?_; clear hK28 K28
   refine wp_region_lit ?_
   refine op_q F107 (.pointer (some ⟨g1, 7, none⟩)) ?_; intro a108 F108
   refine op_q F108 (.pointer (some ⟨g1, 7, none⟩)) ?_; intro a109 F109
   refine op_q F109 (.pointer (some ⟨g1, 7, none⟩)) ?_; intro a110 F110
   refine op_rq (v := .string m.fTags) F110 (r_ld rfl (F110.e (.pointer (some ⟨g1, 7, none⟩))) (v := .string m.fTags) ((S104.bk 0 rfl).cell 7) Try.underlying9 rfl) ?_; intro a111 F111
   refine op_cq F111 (f := 118) (args := #[.string m.fTags]) (chClean_any m.fTags _ (by first | omega | (simp; done) | (simp; omega))) ?_
   rintro _ w112 ⟨rfl, hb_112⟩
   refine ⟨_, rfl, ?_⟩
   intro a113 F113
   have S112 := S104.below hb_112
   refine op_q F113 (.pointer (some ⟨g1, 7, none⟩)) ?_; intro a114 F114
   refine op_sq0 F114 (s_st rfl (F114.e (.pointer (some ⟨g1, 7, none⟩))) (F114.e (.string (cleanF m.fTags))) S112 (by kernel_rfl) rfl rfl rfl (cs := #[.string (cleanF m.fName), .string (cleanF m.fHome), .string m.fVersion, .string (cleanF m.fDescription), .string (cleanF m.fIcon), .string m.fAPIVersion, .string (cleanF m.fCondition), .string (cleanF m.fTags), .string m.fAppVersion, .string m.fKubeVersion, .string m.fType, .slice m.fSources_a m.fSources.length m.fSources_c, .slice m.fKeywords_a m.fKeywords.length m.fKeywords_c, .slice m.fMaintainers_a m.fMaintainers.length m.fMaintainers_c, .slice m.fDependencies_a m.fDependencies.length m.fDependencies_c]) (by kernel_rfl)) ?_
   rintro _ _ w115 rfl S115 F115
   refine wpList_nil ?_
   refine hK27 _ _ ?_; clear hK27 K27
   refine wp_region_lit ?_
   refine op_q F115 (.int .i64 6) ?_; intro a116 F116
   refine op_q F116 (.int .i64 6) ?_; intro a117 F117
   refine wpList_nil ?_
   have S118 : Sp R w115 (SA.blk g1 26 (mclC m 6) :: SA.blk g16 197 (zq21 g1) :: SA.blk g3 26 zq8 :: L) := S115
   exact hK22 _ _ _ (by first | omega | (simp; omega)) ⟨6, rfl, (F117.kk 1 (F117.kk 2 (F117.kk 3 (F117.kk 26 (F117.kk 27 (F117.kk 28 F117.nil)))))), S118.p2.p2.p2, (by first | omega | (with_reducible assumption) | (simp; done))⟩
  ·have S119 : Sp R w22 (SA.blk g1 26 #[.string (cleanF m.fName), .string (cleanF m.fHome), .string m.fVersion, .string (cleanF m.fDescription), .string (cleanF m.fIcon), .string m.fAPIVersion, .string (cleanF m.fCondition), .string (cleanF m.fTags), .string m.fAppVersion, .string m.fKubeVersion, .string m.fType, .slice m.fSources_a m.fSources.length m.fSources_c, .slice m.fKeywords_a m.fKeywords.length m.fKeywords_c, .slice m.fMaintainers_a m.fMaintainers.length m.fMaintainers_c, .slice m.fDependencies_a m.fDependencies.length m.fDependencies_c] :: SA.blk g16 197 (zq21 g1) :: SA.blk g3 26 zq8 :: L) := S22
   refine wp_region_lit ?_
   refine op_rq (v := .pointer (some ⟨g16, 6, none⟩)) F25 (r_ix rfl Try.underlying198 1 (by kernel_rfl) (F25.e (.slice (some ⟨g16, 0, none⟩) 8 8)) rfl (F25.e (.int .i64 6)) 6 (by first | rfl | omega | simp) (by first | omega | (simp; done) | (simp; omega)) (by kernel_rfl)) ?_; intro a120 F120
   refine op_rq (v := .pointer (some ⟨g1, 8, none⟩)) F120 (r_ld rfl (F120.e (.pointer (some ⟨g16, 6, none⟩))) (v := .pointer (some ⟨g1, 8, none⟩)) ((S119.bk 1 rfl).cell 6) Try.underlying197 rfl) ?_; intro a121 F121
   refine op_q F121 (.pointer (some ⟨g1, 8, none⟩)) ?_; intro a122 F122
   refine wpList_nil ?_
   refine hK28 _ _ ?_; clear hK28 K28
   refine wp_region_lit ?_
   refine op_q F122 (.pointer (some ⟨g1, 8, none⟩)) ?_; intro a123 F123
   refine op_q F123 (.pointer (some ⟨g1, 8, none⟩)) ?_; intro a124 F124
   refine op_q F124 (.pointer (some ⟨g1, 8, none⟩)) ?_; intro a125 F125
   refine op_rq (v := .string m.fAppVersion) F125 (r_ld rfl (F125.e (.pointer (some ⟨g1, 8, none⟩))) (v := .string m.fAppVersion) ((S119.bk 0 rfl).cell 8) Try.underlying9 rfl) ?_; intro a126 F126
   refine op_cq F126 (f := 118) (args := #[.string m.fAppVersion]) (chClean_any m.fAppVersion _ (by first | omega | (simp; done) | (simp; omega))) ?_
   rintro _ w127 ⟨rfl, hb_127⟩
   refine ⟨_, rfl, ?_⟩
   intro a128 F128
   have S127 := S119.below hb_127
   refine op_q F128 (.pointer (some ⟨g1, 8, none⟩)) ?_; intro a129 F129
   refine op_sq0 F129 (s_st rfl (F129.e (.pointer (some ⟨g1, 8, none⟩))) (F129.e (.string (cleanF m.fAppVersion))) S127 (by kernel_rfl) rfl rfl rfl (cs := #[.string (cleanF m.fName), .string (cleanF m.fHome), .string m.fVersion, .string (cleanF m.fDescription), .string (cleanF m.fIcon), .string m.fAPIVersion, .string (cleanF m.fCondition), .string (cleanF m.fTags), .string (cleanF m.fAppVersion), .string m.fKubeVersion, .string m.fType, .slice m.fSources_a m.fSources.length m.fSources_c, .slice m.fKeywords_a m.fKeywords.length m.fKeywords_c, .slice m.fMaintainers_a m.fMaintainers.length m.fMaintainers_c, .slice m.fDependencies_a m.fDependencies.length m.fDependencies_c]) (by kernel_rfl)) ?_
   rintro _ _ w130 rfl S130 F130
   refine wpList_nil ?_
   refine hK27 _ _ ?_; clear hK27 K27
   refine wp_region_lit ?_
   refine op_q F130 (.int .i64 7) ?_; intro a131 F131
   refine op_q F131 (.int .i64 7) ?_; intro a132 F132
   refine wpList_nil ?_
   have S133 : Sp R w130 (SA.blk g1 26 (mclC m 7) :: SA.blk g16 197 (zq21 g1) :: SA.blk g3 26 zq8 :: L) := S130
   exact hK22 _ _ _ (by first | omega | (simp; omega)) ⟨7, rfl, (F132.kk 1 (F132.kk 2 (F132.kk 3 (F132.kk 26 (F132.kk 27 (F132.kk 28 F132.nil)))))), S133.p2.p2.p2, (by first | omega | (with_reducible assumption) | (simp; done))⟩
  ·have S134 : Sp R w22 (SA.blk g1 26 #[.string (cleanF m.fName), .string (cleanF m.fHome), .string m.fVersion, .string (cleanF m.fDescription), .string (cleanF m.fIcon), .string m.fAPIVersion, .string (cleanF m.fCondition), .string (cleanF m.fTags), .string (cleanF m.fAppVersion), .string m.fKubeVersion, .string m.fType, .slice m.fSources_a m.fSources.length m.fSources_c, .slice m.fKeywords_a m.fKeywords.length m.fKeywords_c, .slice m.fMaintainers_a m.fMaintainers.length m.fMaintainers_c, .slice m.fDependencies_a m.fDependencies.length m.fDependencies_c] :: SA.blk g16 197 (zq21 g1) :: SA.blk g3 26 zq8 :: L) := S22
   refine wp_region_lit ?_
   refine op_rq (v := .pointer (some ⟨g16, 7, none⟩)) F25 (r_ix rfl Try.underlying198 1 (by kernel_rfl) (F25.e (.slice (some ⟨g16, 0, none⟩) 8 8)) rfl (F25.e (.int .i64 7)) 7 (by first | rfl | omega | simp) (by first | omega | (simp; done) | (simp; omega)) (by kernel_rfl)) ?_; intro a135 F135
   refine op_rq (v := .pointer (some ⟨g1, 9, none⟩)) F135 (r_ld rfl (F135.e (.pointer (some ⟨g16, 7, none⟩))) (v := .pointer (some ⟨g1, 9, none⟩)) ((S134.bk 1 rfl).cell 7) Try.underlying197 rfl) ?_; intro a136 F136
   refine op_q F136 (.pointer (some ⟨g1, 9, none⟩)) ?_; intro a137 F137
   refine wpList_nil ?_
   refine hK28 _ _ ?_; clear hK28 K28
   refine wp_region_lit ?_
   refine op_q F137 (.pointer (some ⟨g1, 9, none⟩)) ?_; intro a138 F138
   refine op_q F138 (.pointer (some ⟨g1, 9, none⟩)) ?_; intro a139 F139
   refine op_q F139 (.pointer (some ⟨g1, 9, none⟩)) ?_; intro a140 F140
   refine op_rq (v := .string m.fKubeVersion) F140 (r_ld rfl (F140.e (.pointer (some ⟨g1, 9, none⟩))) (v := .string m.fKubeVersion) ((S134.bk 0 rfl).cell 9) Try.underlying9 rfl) ?_; intro a141 F141
   refine op_cq F141 (f := 118) (args := #[.string m.fKubeVersion]) (chClean_any m.fKubeVersion _ (by first | omega | (simp; done) | (simp; omega))) ?_
   rintro _ w142 ⟨rfl, hb_142⟩
   refine ⟨_, rfl, ?_⟩
   intro a143 F143
   have S142 := S134.below hb_142
   refine op_q F143 (.pointer (some ⟨g1, 9, none⟩)) ?_; intro a144 F144
   refine op_sq0 F144 (s_st rfl (F144.e (.pointer (some ⟨g1, 9, none⟩))) (F144.e (.string (cleanF m.fKubeVersion))) S142 (by kernel_rfl) rfl rfl rfl (cs := (zq22 m)) (by kernel_rfl)) ?_
   rintro _ _ w145 rfl S145 F145
   refine wpList_nil ?_
   refine hK27 _ _ ?_; clear hK27 K27
   refine wp_region_lit ?_
   refine op_q F145 (.int .i64 8) ?_; intro a146 F146
   refine op_q F146 (.int .i64 8) ?_; intro a147 F147
   refine wpList_nil ?_
   have S148 : Sp R w145 (SA.blk g1 26 (mclC m 8) :: SA.blk g16 197 (zq21 g1) :: SA.blk g3 26 zq8 :: L) := S145
   exact hK22 _ _ _ (by first | omega | (simp; omega)) ⟨8, rfl, (F147.kk 1 (F147.kk 2 (F147.kk 3 (F147.kk 26 (F147.kk 27 (F147.kk 28 F147.nil)))))), S148.p2.p2.p2, (by first | omega | (with_reducible assumption) | (simp; done))⟩
 ·have hc_k : decide ((↑k : Int) < 8) = false := by first | (simp; done) | (simp; omega)
  obtain rfl : k = 8 := by omega
  have S149 : Sp R w22 (SA.blk g1 26 (zq22 m) :: SA.blk g16 197 (zq21 g1) :: SA.blk g3 26 zq8 :: L) := S22
  refine wp_seq_k fun K150 hK150 => ?_
  refine wp_region_lit ?_
  refine op_q F22 (.bool (decide ((↑8 : Int) < 8))) ?_; intro a151 F151
  have F152 := F151.sb 29 (by kernel_rfl) hc_k
  refine wpList_nil ?_
  refine hK150 _ _ ?_; clear hK150 K150
  refine wp_seq_k fun K153 hK153 => ?_
  refine wp_cond_false (F152.ev (by kernel_rfl)) ?_
  refine wp_exit ?_
  refine ex_then ?_; clear hK153 K153
  refine ex_then ?_
  refine ex_in ?_
  refine hK7 _ _ ?_; clear hK7 K7
  refine wp_seq_k fun K154 hK154 => ?_
  refine wp_region_sepF (L0 := SA.blk g1 26 (zq22 m) :: SA.blk g16 197 (zq21 g1) :: SA.blk g3 26 zq8 :: L) [some [], some [(0, 39)], some [(1, 40)], some [], some [(3, 42)], some [(4, 43)], some [], none, none, none] [.v 39 (.pointer (some ⟨g1, 11, none⟩)), .v 40 (.slice m.fSources_a m.fSources.length m.fSources_c), .p 41 (SA.emp) (fun _ vv AA => ∃ B173 : Option Addr, ∃ b173 : Nat, vv = .slice B173 ((cleansF m.fSources).length) b173 ∧ AA = SA.own (.slice B173 (cleansF m.fSources).length b173) 9 1 ((cleansF m.fSources).length) (strs (cleansF m.fSources))), .v 42 (.pointer (some ⟨g1, 12, none⟩)), .v 43 (.slice m.fKeywords_a m.fKeywords.length m.fKeywords_c), .p 44 (SA.emp) (fun _ vv AA => ∃ B179 : Option Addr, ∃ b179 : Nat, vv = .slice B179 ((cleansF m.fKeywords).length) b179 ∧ AA = SA.own (.slice B179 (cleansF m.fKeywords).length b179) 9 1 ((cleansF m.fKeywords).length) (strs (cleansF m.fKeywords))), .v 45 (.pointer (some ⟨g1, 11, none⟩)), .n SA.emp (fun _ _ A => A = SA.emp), .n SA.emp (fun _ _ A => A = SA.emp), .n SA.emp (fun _ _ A => A = SA.emp)] [] F152 rfl (by kernel_rfl) S149.emp.emp ?_ ?_
  ·refine ⟨?_, ?_, ?_, ?_, ?_, ?_, ?_, trivial⟩
   ·intro w168 M168
    intro a168 F168 S168
    refine obl_of (by rfl) ?_
    exact s_p F168 (v := .pointer (some ⟨g1, 11, none⟩)) (by kernel_rfl) (by kernel_rfl) (by kernel_rfl) S168
   ·intro w169 M169
    intro a169 F169 S169
    refine obl_of (by rfl) ?_
    exact s_r (v := .slice m.fSources_a m.fSources.length m.fSources_c) (r_ld rfl (F169.e (.pointer (some ⟨g1, 11, none⟩))) (v := .slice m.fSources_a m.fSources.length m.fSources_c) (((Sp.dropM S169.drop).bk 0 rfl).cell 11) Try.underlying22 rfl) S169
   ·intro w171 M171
    intro a171 F171 S171
    refine obl_of (by rfl) ?_
    refine s_c F171 (f := 119) (args := #[.slice m.fSources_a m.fSources.length m.fSources_c]) (by kernel_rfl) (by kernel_rfl) (by kernel_rfl) (chCleaned_sp m.fSources_a m.fSources_c m.fSources _ _ _ S171.drop (fun w S => k0 w (Sp.dropM S).drop.drop.drop) hzS (by first | omega | (simp; done) | (simp; omega))) ?_
    rintro _ _ ⟨B173, b173, rfl, S173⟩
    exact ⟨_, _, rfl, ⟨B173, b173, rfl, rfl⟩, S173⟩
   ·intro w174 M174
    intro a174 F174 S174
    refine obl_of (by rfl) ?_
    exact s_p F174 (v := .pointer (some ⟨g1, 12, none⟩)) (by kernel_rfl) (by kernel_rfl) (by kernel_rfl) S174
   ·intro w175 M175
    intro a175 F175 S175
    refine obl_of (by rfl) ?_
    exact s_r (v := .slice m.fKeywords_a m.fKeywords.length m.fKeywords_c) (r_ld rfl (F175.e (.pointer (some ⟨g1, 12, none⟩))) (v := .slice m.fKeywords_a m.fKeywords.length m.fKeywords_c) (((Sp.dropM S175.drop).bk 0 rfl).cell 12) Try.underlying22 rfl) S175
   ·intro w177 M177
    intro a177 F177 S177
    refine obl_of (by rfl) ?_
    refine s_c F177 (f := 119) (args := #[.slice m.fKeywords_a m.fKeywords.length m.fKeywords_c]) (by kernel_rfl) (by kernel_rfl) (by kernel_rfl) (chCleaned_sp m.fKeywords_a m.fKeywords_c m.fKeywords _ _ _ S177.drop (fun w S => k1 w (Sp.dropM S).drop.drop.drop) hzK (by first | omega | (simp; done) | (simp; omega))) ?_
    rintro _ _ ⟨B179, b179, rfl, S179⟩
    exact ⟨_, _, rfl, ⟨B179, b179, rfl, rfl⟩, S179⟩
   ·intro w180 M180
    intro a180 F180 S180
    refine obl_of (by rfl) ?_
    exact s_p F180 (v := .pointer (some ⟨g1, 11, none⟩)) (by kernel_rfl) (by kernel_rfl) (by kernel_rfl) S180
  ·rintro _ _ ⟨B173, b173, rfl, rfl⟩
   rintro _ _ ⟨B179, b179, rfl, rfl⟩
   intro a182 w181 F182 S181
   have S183 : Sp R w181 (SA.own (.slice B179 (cleansF m.fKeywords).length b179) 9 1 ((cleansF m.fKeywords).length) (strs (cleansF m.fKeywords)) :: SA.own (.slice B173 (cleansF m.fSources).length b173) 9 1 ((cleansF m.fSources).length) (strs (cleansF m.fSources)) :: SA.blk g1 26 (zq22 m) :: SA.blk g16 197 (zq21 g1) :: SA.blk g3 26 zq8 :: L) := S181
   refine op_sq0 F182 (s_st rfl (F182.e (.pointer (some ⟨g1, 11, none⟩))) (F182.e (.slice B173 ((cleansF m.fSources).length) b173)) S183.p2 (by kernel_rfl) rfl rfl rfl (cs := #[.string (cleanF m.fName), .string (cleanF m.fHome), .string m.fVersion, .string (cleanF m.fDescription), .string (cleanF m.fIcon), .string m.fAPIVersion, .string (cleanF m.fCondition), .string (cleanF m.fTags), .string (cleanF m.fAppVersion), .string (cleanF m.fKubeVersion), .string m.fType, .slice B173 ((cleansF m.fSources).length) b173, .slice m.fKeywords_a m.fKeywords.length m.fKeywords_c, .slice m.fMaintainers_a m.fMaintainers.length m.fMaintainers_c, .slice m.fDependencies_a m.fDependencies.length m.fDependencies_c]) (by kernel_rfl)) ?_
   rintro _ _ w184 rfl S184 F184
   refine op_q F184 (.pointer (some ⟨g1, 12, none⟩)) ?_; intro a185 F185
   refine op_sq0 F185 (s_st rfl (F185.e (.pointer (some ⟨g1, 12, none⟩))) (F185.e (.slice B179 ((cleansF m.fKeywords).length) b179)) S184 (by kernel_rfl) rfl rfl rfl (cs := (zq23 m B173 b173 B179 b179)) (by kernel_rfl)) ?_
   rintro _ _ w186 rfl S186 F186
   refine wpList_nil ?_
   refine hK154 _ _ ?_; clear hK154 K154
   refine wp_seq_k fun K187 hK187 => ?_
   refine wp_region_lit ?_
   refine op_q F186 (.pointer (some ⟨g1, 2, none⟩)) ?_; intro a188 F188
   refine op_rq (v := .string m.fVersion) F188 (r_ld rfl (F188.e (.pointer (some ⟨g1, 2, none⟩))) (v := .string m.fVersion) ((S186.bk 0 rfl).cell 2) Try.underlying9 rfl) ?_; intro a189 F189
   refine op_cq F189 (f := 82) (args := #[.string m.fVersion]) (chNums3 m.fVersion _ _ _ S186 (by first | omega | (simp; done) | (simp; omega))) ?_
   rintro _ w190 ⟨n0190, n1190, n2190, rfl, S190⟩
   refine ⟨_, rfl, ?_⟩
   intro a191 F191
   refine op_q F191 (.tuple #[.agg #[.int .i64 n0190, .int .i64 n1190, .int .i64 n2190], .bool (plainB m.fVersion)]) ?_; intro a192 F192
   refine op_q F192 (.agg #[.int .i64 n0190, .int .i64 n1190, .int .i64 n2190]) ?_; intro a193 F193
   refine op_q F193 (.bool (plainB m.fVersion)) ?_; intro a194 F194
   refine op_sq F194 (s_newp F194 145 #[.int .i64 0, .int .i64 0, .int .i64 0] (by kernel_rfl) (by kernel_rfl) (by kernel_rfl) S190) ?_
   rintro _ _ w196 ⟨g194, rfl, rfl⟩ S196 a196 F196
   refine op_sq0 F196 (s_stb rfl (F196.e (.pointer (some ⟨g194, 0, none⟩))) (F196.e (.agg #[.int .i64 n0190, .int .i64 n1190, .int .i64 n2190])) S196 (by kernel_rfl) rfl (by kernel_rfl)) ?_
   rintro _ _ w197 rfl S197 F197
   refine op_q F197 (.bool (plainB m.fVersion)) ?_; intro a198 F198
   refine wpList_nil ?_
   refine hK187 _ _ ?_; clear hK187 K187
   refine fw_cut (fun a' w' => Fr 184 [] a' [(1, .pointer (some ⟨g1, 0, none⟩)), (2, .pointer (some ⟨g3, 0, none⟩))] ∧ Sp R w' (SA.blk g194 145 #[.int .i64 n0190, .int .i64 n1190, .int .i64 n2190] :: SA.blk g1 26 (zq23 m B173 b173 B179 b179) :: SA.own (.slice B179 (cleansF m.fKeywords).length b179) 9 1 ((cleansF m.fKeywords).length) (strs (cleansF m.fKeywords)) :: SA.own (.slice B173 (cleansF m.fSources).length b173) 9 1 ((cleansF m.fSources).length) (strs (cleansF m.fSources)) :: SA.blk g16 197 (zq21 g1) :: SA.blk g3 26 zq8 :: L) ∧ (what1 m = 0)) ?_ ?_
   ·intro K199 hK199
    refine wp_block ?_
    refine wp_seq_k fun K200 hK200 => ?_
    refine wp_region_lit ?_
    refine op_q F198 (.pointer (some ⟨g1, 5, none⟩)) ?_; intro a201 F201
    refine op_rq (v := .string m.fAPIVersion) F201 (r_ld rfl (F201.e (.pointer (some ⟨g1, 5, none⟩))) (v := .string m.fAPIVersion) ((S197.bk 1 rfl).cell 5) Try.underlying9 rfl) ?_; intro a202 F202
    refine op_q F202 (.bool (m.fAPIVersion.toList == (⟨#[]⟩ : ByteArray).toList)) ?_; intro a203 F203
    refine op_q F203 (.bool (m.fAPIVersion.toList == (⟨#[]⟩ : ByteArray).toList)) ?_; intro a204 F204
    refine wpList_nil ?_
    refine hK200 _ _ ?_; clear hK200 K200
    rcases btf (m.fAPIVersion.toList == (⟨#[]⟩ : ByteArray).toList) with hc205 | hc205
    ·have F206 := F204.sb 56 (by kernel_rfl) hc205
     have F207 := F206.sb 53 (by kernel_rfl) hc205
     refine wp_cond_true (F207.ev (by kernel_rfl)) ?_
     refine wp_seq_k fun K208 hK208 => ?_
     refine wp_region_lit ?_
     refine op_rq (v := .agg (zq23 m B173 b173 B179 b179)) F207 (r_ldm rfl (F207.e (.pointer (some ⟨g1, 0, none⟩))) (S197.bk 1 rfl) 15 (by kernel_rfl) Try.underlying26 rfl (by kernel_rfl) (v := (zq23 m B173 b173 B179 b179)) (by kernel_rfl)) ?_; intro a209 F209
     refine op_sq0 F209 (s_stb rfl (F209.e (.pointer (some ⟨g3, 0, none⟩))) (F209.e (.agg (zq23 m B173 b173 B179 b179))) S197.p5 (by kernel_rfl) rfl (by kernel_rfl)) ?_
     rintro _ _ w210 rfl S210 F210
     refine op_q F210 (.int .i64 1) ?_; intro a211 F211
     refine wpList_nil ?_
     refine hK208 _ _ ?_; clear hK208 K208
     refine wp_ret ?_
     refine ret_in ?_
     refine ret_then ?_
     have hw1 : what1 m = 1 := by unfold what1; rw [hc205]; rfl
     have S212 : Sp R w210 (SA.cmR 1 { cln8 m with fSources_a := B173, fSources_c := b173, fKeywords_a := B179, fKeywords_c := b179 } :: SA.blk g3 26 (zq23 m B173 b173 B179 b179) :: SA.blk g194 145 #[.int .i64 n0190, .int .i64 n1190, .int .i64 n2190] :: SA.blk g1 26 (zq23 m B173 b173 B179 b179) :: SA.blk g16 197 (zq21 g1) :: L) := (Sp.stars (l := [_, _])).2 (Sp.own0_of (Sp.own0_of S210.p3.p4).p1).p1
     refine (F211.resC (results2 Try.results60 (F211.rvc (p := ⟨g3, 0, none⟩) (by kernel_rfl) (ld_mid (S210.bk 0 rfl) 15 (by kernel_rfl) Try.underlying26 rfl (by kernel_rfl) (v := (zq23 m B173 b173 B179 b179)) (by kernel_rfl))) (F211.rvt (v := .int .i64 1) (by kernel_rfl))) ?_).1
     exact ⟨{ cln8 m with fSources_a := B173, fSources_c := b173, fKeywords_a := B179, fKeywords_c := b179 }, 1, rfl, S212.p1.drop.p1.drop.p1.drop.p1.drop, (what_1 hw1 (by omega)).symm, ⟨fun _ _ => ⟨rfl, rfl, rfl, rfl, rfl⟩, fun h => by omega⟩⟩
    ·have F213 := F204.sb 56 (by kernel_rfl) hc205
     have F214 := F213.sb 53 (by kernel_rfl) hc205
     refine wp_cond_false (F214.ev (by kernel_rfl)) ?_
     refine wp_seq_k fun K215 hK215 => ?_
     refine wp_region_lit ?_
     refine op_q F214 (.pointer (some ⟨g1, 0, none⟩)) ?_; intro a216 F216
     refine op_rq (v := .string (cleanF m.fName)) F216 (r_ld rfl (F216.e (.pointer (some ⟨g1, 0, none⟩))) (v := .string (cleanF m.fName)) ((S197.bk 1 rfl).cell 0) Try.underlying9 rfl) ?_; intro a217 F217
     refine op_q F217 (.bool ((cleanF m.fName).toList == (⟨#[]⟩ : ByteArray).toList)) ?_; intro a218 F218
     refine op_q F218 (.bool ((cleanF m.fName).toList == (⟨#[]⟩ : ByteArray).toList)) ?_; intro a219 F219
     refine wpList_nil ?_
     refine hK215 _ _ ?_; clear hK215 K215
     rcases btf ((cleanF m.fName).toList == (⟨#[]⟩ : ByteArray).toList) with hc220 | hc220
     ·have F221 := F219.sb 61 (by kernel_rfl) hc220
      have F222 := F221.sb 58 (by kernel_rfl) hc220
      refine wp_cond_true (F222.ev (by kernel_rfl)) ?_
      refine wp_seq_k fun K223 hK223 => ?_
      refine wp_region_lit ?_
      refine op_rq (v := .agg (zq23 m B173 b173 B179 b179)) F222 (r_ldm rfl (F222.e (.pointer (some ⟨g1, 0, none⟩))) (S197.bk 1 rfl) 15 (by kernel_rfl) Try.underlying26 rfl (by kernel_rfl) (v := (zq23 m B173 b173 B179 b179)) (by kernel_rfl)) ?_; intro a224 F224
      refine op_sq0 F224 (s_stb rfl (F224.e (.pointer (some ⟨g3, 0, none⟩))) (F224.e (.agg (zq23 m B173 b173 B179 b179))) S197.p5 (by kernel_rfl) rfl (by kernel_rfl)) ?_
      rintro _ _ w225 rfl S225 F225
      refine op_q F225 (.int .i64 2) ?_; intro a226 F226
      refine wpList_nil ?_
      refine hK223 _ _ ?_; clear hK223 K223
      refine wp_ret ?_
      refine ret_in ?_
      refine ret_then ?_
      have hw1 : what1 m = 2 := by unfold what1; rw [hc205, hc220]; rfl
      have S227 : Sp R w225 (SA.cmR 2 { cln8 m with fSources_a := B173, fSources_c := b173, fKeywords_a := B179, fKeywords_c := b179 } :: SA.blk g3 26 (zq23 m B173 b173 B179 b179) :: SA.blk g194 145 #[.int .i64 n0190, .int .i64 n1190, .int .i64 n2190] :: SA.blk g1 26 (zq23 m B173 b173 B179 b179) :: SA.blk g16 197 (zq21 g1) :: L) := (Sp.stars (l := [_, _])).2 (Sp.own0_of (Sp.own0_of S225.p3.p4).p1).p1
      refine (F226.resC (results2 Try.results60 (F226.rvc (p := ⟨g3, 0, none⟩) (by kernel_rfl) (ld_mid (S225.bk 0 rfl) 15 (by kernel_rfl) Try.underlying26 rfl (by kernel_rfl) (v := (zq23 m B173 b173 B179 b179)) (by kernel_rfl))) (F226.rvt (v := .int .i64 2) (by kernel_rfl))) ?_).1
      exact ⟨{ cln8 m with fSources_a := B173, fSources_c := b173, fKeywords_a := B179, fKeywords_c := b179 }, 2, rfl, S227.p1.drop.p1.drop.p1.drop.p1.drop, (what_1 hw1 (by omega)).symm, ⟨fun _ _ => ⟨rfl, rfl, rfl, rfl, rfl⟩, fun h => by omega⟩⟩
     ·have F228 := F219.sb 61 (by kernel_rfl) hc220
      have F229 := F228.sb 58 (by kernel_rfl) hc220
      refine wp_cond_false (F229.ev (by kernel_rfl)) ?_
      refine wp_seq_k fun K230 hK230 => ?_
      rcases btf ((cleanF m.fName).toList == (⟨#[46]⟩ : ByteArray).toList) with hc231 | hc231
      ·skip
       refine wp_region_sepF (L0 := SA.blk g194 145 #[.int .i64 n0190, .int .i64 n1190, .int .i64 n2190] :: SA.blk g1 26 (zq23 m B173 b173 B179 b179) :: SA.own (.slice B179 (cleansF m.fKeywords).length b179) 9 1 ((cleansF m.fKeywords).length) (strs (cleansF m.fKeywords)) :: SA.own (.slice B173 (cleansF m.fSources).length b173) 9 1 ((cleansF m.fSources).length) (strs (cleansF m.fSources)) :: SA.blk g16 197 (zq21 g1) :: SA.blk g3 26 zq8 :: L) [some [], some [(0, 64)], some [(1, 65)], some [(2, 66)], some [(3, 67)], some [(3, 67), (4, 68)], some [(3, 67), (5, 69)], some [(3, 67), (6, 70)], some [(7, 71)], some [(8, 72)], some [(8, 72), (9, 73)], some [(8, 72)], some [(8, 72), (11, 75)], some [(8, 72), (12, 76)], some [(8, 72), (10, 74), (13, 77)], some [(8, 72), (14, 78)], some [(15, 79)]] [.v 64 (.pointer (some ⟨g1, 0, none⟩)), .v 65 (.string (cleanF m.fName)), .v 66 (.bool true), .v 67 (.bool true), .v 68 undef, .v 69 undef, .v 70 undef, .v 71 (.bool true), .v 72 (.bool true), .v 73 undef, .v 74 undef, .v 75 undef, .v 76 undef, .v 77 undef, .v 78 undef, .v 79 (.bool true), .v 63 (.bool true)] [] F229 rfl (by kernel_rfl) S197 ?_ ?_
       ·refine ⟨?_, ?_, ?_, ?_, ?_, ?_, ?_, ?_, ?_, ?_, ?_, ?_, ?_, ?_, ?_, ?_, ?_, trivial⟩
        ·intro w274 M274
         intro a274 F274 S274
         refine obl_of (by rfl) ?_
         exact s_p F274 (v := .pointer (some ⟨g1, 0, none⟩)) (by kernel_rfl) (by kernel_rfl) (by kernel_rfl) S274
        ·intro w275 M275
         intro a275 F275 S275
         refine obl_of (by rfl) ?_
         exact s_r (v := .string (cleanF m.fName)) (r_ld rfl (F275.e (.pointer (some ⟨g1, 0, none⟩))) (v := .string (cleanF m.fName)) (((Sp.dropM S275.drop).bk 1 rfl).cell 0) Try.underlying9 rfl) S275
        ·intro w277 M277
         intro a277 F277 S277
         refine obl_of (by rfl) ?_
         exact s_pb F277 (b := (cleanF m.fName).toList == (⟨#[46]⟩ : ByteArray).toList) hc231 (by kernel_rfl) (by kernel_rfl) (by kernel_rfl) S277
        ·intro w279 M279
         intro a279 F279 S279
         refine obl_of (by rfl) ?_
         exact s_p F279 (v := .bool true) (by kernel_rfl) (by kernel_rfl) (by kernel_rfl) S279
        ·intro w281 M281
         intro a281 F281 S281
         exact obl_no (by rfl) (F281.wanted (q := false) (by kernel_rfl) (by intro t ht; injection ht with ht; subst ht; exact nble rfl)) ⟨rfl, rfl⟩
        ·intro w283 M283
         intro a283 F283 S283
         exact obl_no (by rfl) (F283.wanted (q := false) (by kernel_rfl) (by intro t ht; injection ht with ht; subst ht; exact nble rfl)) ⟨rfl, rfl⟩
        ·intro w286 M286
         intro a286 F286 S286
         exact obl_no (by rfl) (F286.wanted (q := false) (by kernel_rfl) (by intro t ht; injection ht with ht; subst ht; exact nble rfl)) ⟨rfl, rfl⟩
        ·intro w289 M289
         intro a289 F289 S289
         refine obl_of (by rfl) ?_
         exact s_p F289 (v := .bool true) (by kernel_rfl) (by kernel_rfl) (by kernel_rfl) S289
        ·intro w292 M292
         intro a292 F292 S292
         refine obl_of (by rfl) ?_
         exact s_p F292 (v := .bool true) (by kernel_rfl) (by kernel_rfl) (by kernel_rfl) S292
        ·intro w294 M294
         intro a294 F294 S294
         exact obl_no (by rfl) (F294.wanted (q := false) (by kernel_rfl) (by intro t ht; injection ht with ht; subst ht; exact nble rfl)) ⟨rfl, rfl⟩
        ·intro w296 M296
         intro a296 F296 S296
         exact obl_no (by rfl) (F296.wanted (q := false) (by kernel_rfl) (by intro t ht; injection ht with ht; subst ht; exact nble rfl)) ⟨rfl, rfl⟩
        ·intro w299 M299
         intro a299 F299 S299
         exact obl_no (by rfl) (F299.wanted (q := false) (by kernel_rfl) (by intro t ht; injection ht with ht; subst ht; exact nble rfl)) ⟨rfl, rfl⟩
        ·intro w301 M301
         intro a301 F301 S301
         exact obl_no (by rfl) (F301.wanted (q := false) (by kernel_rfl) (by intro t ht; injection ht with ht; subst ht; exact nble rfl)) ⟨rfl, rfl⟩
        ·intro w304 M304
         intro a304 F304 S304
         exact obl_no (by rfl) (F304.wanted (q := false) (by kernel_rfl) (by intro t ht; injection ht with ht; subst ht; exact nble rfl)) ⟨rfl, rfl⟩
        ·intro w307 M307
         intro a307 F307 S307
         exact obl_no (by rfl) (F307.wanted (q := false) (by kernel_rfl) (by intro t ht; injection ht with ht; subst ht; exact nble rfl)) ⟨rfl, rfl⟩
        ·intro w311 M311
         intro a311 F311 S311
         refine obl_of (by rfl) ?_
         exact s_p F311 (v := .bool true) (by kernel_rfl) (by kernel_rfl) (by kernel_rfl) S311
        ·intro w314 M314
         intro a314 F314 S314
         refine obl_of (by rfl) ?_
         exact s_p F314 (v := .bool true) (by kernel_rfl) (by kernel_rfl) (by kernel_rfl) S314
       ·intro a317 w316 F317 S316
        have S318 : Sp R w316 (SA.blk g194 145 #[.int .i64 n0190, .int .i64 n1190, .int .i64 n2190] :: SA.blk g1 26 (zq23 m B173 b173 B179 b179) :: SA.own (.slice B179 (cleansF m.fKeywords).length b179) 9 1 ((cleansF m.fKeywords).length) (strs (cleansF m.fKeywords)) :: SA.own (.slice B173 (cleansF m.fSources).length b173) 9 1 ((cleansF m.fSources).length) (strs (cleansF m.fSources)) :: SA.blk g16 197 (zq21 g1) :: SA.blk g3 26 zq8 :: L) := S316
        refine wpList_nil ?_
        refine hK230 _ _ ?_; clear hK230 K230
        refine wp_cond_true (F317.ev (by kernel_rfl)) ?_
        refine wp_seq_k fun K319 hK319 => ?_
        refine wp_region_lit ?_
        refine op_rq (v := .agg (zq23 m B173 b173 B179 b179)) F317 (r_ldm rfl (F317.e (.pointer (some ⟨g1, 0, none⟩))) (S318.bk 1 rfl) 15 (by kernel_rfl) Try.underlying26 rfl (by kernel_rfl) (v := (zq23 m B173 b173 B179 b179)) (by kernel_rfl)) ?_; intro a320 F320
        refine op_sq0 F320 (s_stb rfl (F320.e (.pointer (some ⟨g3, 0, none⟩))) (F320.e (.agg (zq23 m B173 b173 B179 b179))) S318.p5 (by kernel_rfl) rfl (by kernel_rfl)) ?_
        rintro _ _ w321 rfl S321 F321
        refine op_q F321 (.int .i64 3) ?_; intro a322 F322
        refine wpList_nil ?_
        refine hK319 _ _ ?_; clear hK319 K319
        refine wp_ret ?_
        refine ret_in ?_
        refine ret_then ?_
        have hbn : badName (cleanF m.fName) = true := by unfold badName; rw [hc231]; rfl
        have hw1 : what1 m = 3 := by unfold what1; rw [hc205, hc220, hbn]; rfl
        have S323 : Sp R w321 (SA.cmR 3 { cln8 m with fSources_a := B173, fSources_c := b173, fKeywords_a := B179, fKeywords_c := b179 } :: SA.blk g3 26 (zq23 m B173 b173 B179 b179) :: SA.blk g194 145 #[.int .i64 n0190, .int .i64 n1190, .int .i64 n2190] :: SA.blk g1 26 (zq23 m B173 b173 B179 b179) :: SA.blk g16 197 (zq21 g1) :: L) := (Sp.stars (l := [_, _])).2 (Sp.own0_of (Sp.own0_of S321.p3.p4).p1).p1
        refine (F322.resC (results2 Try.results60 (F322.rvc (p := ⟨g3, 0, none⟩) (by kernel_rfl) (ld_mid (S321.bk 0 rfl) 15 (by kernel_rfl) Try.underlying26 rfl (by kernel_rfl) (v := (zq23 m B173 b173 B179 b179)) (by kernel_rfl))) (F322.rvt (v := .int .i64 3) (by kernel_rfl))) ?_).1
        exact ⟨{ cln8 m with fSources_a := B173, fSources_c := b173, fKeywords_a := B179, fKeywords_c := b179 }, 3, rfl, S323.p1.drop.p1.drop.p1.drop.p1.drop, (what_1 hw1 (by omega)).symm, ⟨fun _ _ => ⟨rfl, rfl, rfl, rfl, rfl⟩, fun h => by omega⟩⟩
      ·skip
       rcases btf ((cleanF m.fName).toList == (⟨#[46, 46]⟩ : ByteArray).toList) with hc324 | hc324
       ·skip
        refine wp_region_sepF (L0 := SA.blk g194 145 #[.int .i64 n0190, .int .i64 n1190, .int .i64 n2190] :: SA.blk g1 26 (zq23 m B173 b173 B179 b179) :: SA.own (.slice B179 (cleansF m.fKeywords).length b179) 9 1 ((cleansF m.fKeywords).length) (strs (cleansF m.fKeywords)) :: SA.own (.slice B173 (cleansF m.fSources).length b173) 9 1 ((cleansF m.fSources).length) (strs (cleansF m.fSources)) :: SA.blk g16 197 (zq21 g1) :: SA.blk g3 26 zq8 :: L) [some [], some [(0, 64)], some [(1, 65)], some [(2, 66)], some [(3, 67)], some [(3, 67), (4, 68)], some [(3, 67), (5, 69)], some [(3, 67), (6, 70)], some [(7, 71)], some [(8, 72)], some [(8, 72), (9, 73)], some [(8, 72)], some [(8, 72), (11, 75)], some [(8, 72), (12, 76)], some [(8, 72), (10, 74), (13, 77)], some [(8, 72), (14, 78)], some [(15, 79)]] [.v 64 (.pointer (some ⟨g1, 0, none⟩)), .v 65 (.string (cleanF m.fName)), .v 66 (.bool false), .v 67 (.bool false), .v 68 (.pointer (some ⟨g1, 0, none⟩)), .v 69 (.string (cleanF m.fName)), .v 70 (.bool true), .v 71 (.bool true), .v 72 (.bool true), .v 73 undef, .v 74 undef, .v 75 undef, .v 76 undef, .v 77 undef, .v 78 undef, .v 79 (.bool true), .v 63 (.bool true)] [] F229 rfl (by kernel_rfl) S197 ?_ ?_
        ·refine ⟨?_, ?_, ?_, ?_, ?_, ?_, ?_, ?_, ?_, ?_, ?_, ?_, ?_, ?_, ?_, ?_, ?_, trivial⟩
         ·intro w367 M367
          intro a367 F367 S367
          refine obl_of (by rfl) ?_
          exact s_p F367 (v := .pointer (some ⟨g1, 0, none⟩)) (by kernel_rfl) (by kernel_rfl) (by kernel_rfl) S367
         ·intro w368 M368
          intro a368 F368 S368
          refine obl_of (by rfl) ?_
          exact s_r (v := .string (cleanF m.fName)) (r_ld rfl (F368.e (.pointer (some ⟨g1, 0, none⟩))) (v := .string (cleanF m.fName)) (((Sp.dropM S368.drop).bk 1 rfl).cell 0) Try.underlying9 rfl) S368
         ·intro w370 M370
          intro a370 F370 S370
          refine obl_of (by rfl) ?_
          exact s_pb F370 (b := (cleanF m.fName).toList == (⟨#[46]⟩ : ByteArray).toList) hc231 (by kernel_rfl) (by kernel_rfl) (by kernel_rfl) S370
         ·intro w372 M372
          intro a372 F372 S372
          refine obl_of (by rfl) ?_
          exact s_p F372 (v := .bool false) (by kernel_rfl) (by kernel_rfl) (by kernel_rfl) S372
         ·intro w374 M374
          intro a374 F374 S374
          refine obl_yes (F374.wanted (q := true) (by kernel_rfl) (by intro t ht; injection ht with ht; subst ht; exact nble rfl)) ?_
          exact s_p F374 (v := .pointer (some ⟨g1, 0, none⟩)) (by kernel_rfl) (by kernel_rfl) (by kernel_rfl) S374
         ·intro w376 M376
          intro a376 F376 S376
          refine obl_yes (F376.wanted (q := true) (by kernel_rfl) (by intro t ht; injection ht with ht; subst ht; exact nble rfl)) ?_
          exact s_r (v := .string (cleanF m.fName)) (r_ld rfl (F376.e (.pointer (some ⟨g1, 0, none⟩))) (v := .string (cleanF m.fName)) (((Sp.dropM S376.drop).bk 1 rfl).cell 0) Try.underlying9 rfl) S376
         ·intro w379 M379
          intro a379 F379 S379
          refine obl_yes (F379.wanted (q := true) (by kernel_rfl) (by intro t ht; injection ht with ht; subst ht; exact nble rfl)) ?_
          exact s_pb F379 (b := (cleanF m.fName).toList == (⟨#[46, 46]⟩ : ByteArray).toList) hc324 (by kernel_rfl) (by kernel_rfl) (by kernel_rfl) S379
         ·intro w382 M382
          intro a382 F382 S382
          refine obl_of (by rfl) ?_
          exact s_p F382 (v := .bool true) (by kernel_rfl) (by kernel_rfl) (by kernel_rfl) S382
         ·intro w385 M385
          intro a385 F385 S385
          refine obl_of (by rfl) ?_
          exact s_p F385 (v := .bool true) (by kernel_rfl) (by kernel_rfl) (by kernel_rfl) S385
         ·intro w387 M387
          intro a387 F387 S387
          exact obl_no (by rfl) (F387.wanted (q := false) (by kernel_rfl) (by intro t ht; injection ht with ht; subst ht; exact nble rfl)) ⟨rfl, rfl⟩
         ·intro w389 M389
          intro a389 F389 S389
          exact obl_no (by rfl) (F389.wanted (q := false) (by kernel_rfl) (by intro t ht; injection ht with ht; subst ht; exact nble rfl)) ⟨rfl, rfl⟩
         ·intro w392 M392
          intro a392 F392 S392
          exact obl_no (by rfl) (F392.wanted (q := false) (by kernel_rfl) (by intro t ht; injection ht with ht; subst ht; exact nble rfl)) ⟨rfl, rfl⟩
         ·intro w394 M394
          intro a394 F394 S394
          exact obl_no (by rfl) (F394.wanted (q := false) (by kernel_rfl) (by intro t ht; injection ht with ht; subst ht; exact nble rfl)) ⟨rfl, rfl⟩
         ·intro w397 M397
          intro a397 F397 S397
          exact obl_no (by rfl) (F397.wanted (q := false) (by kernel_rfl) (by intro t ht; injection ht with ht; subst ht; exact nble rfl)) ⟨rfl, rfl⟩
         ·intro w400 M400
          intro a400 F400 S400
          exact obl_no (by rfl) (F400.wanted (q := false) (by kernel_rfl) (by intro t ht; injection ht with ht; subst ht; exact nble rfl)) ⟨rfl, rfl⟩
         ·intro w404 M404
          intro a404 F404 S404
          refine obl_of (by rfl) ?_
          exact s_p F404 (v := .bool true) (by kernel_rfl) (by kernel_rfl) (by kernel_rfl) S404
         ·intro w407 M407
          intro a407 F407 S407
          refine obl_of (by rfl) ?_
          exact s_p F407 (v := .bool true) (by kernel_rfl) (by kernel_rfl) (by kernel_rfl) S407
        ·intro a410 w409 F410 S409
         have S411 : Sp R w409 (SA.blk g194 145 #[.int .i64 n0190, .int .i64 n1190, .int .i64 n2190] :: SA.blk g1 26 (zq23 m B173 b173 B179 b179) :: SA.own (.slice B179 (cleansF m.fKeywords).length b179) 9 1 ((cleansF m.fKeywords).length) (strs (cleansF m.fKeywords)) :: SA.own (.slice B173 (cleansF m.fSources).length b173) 9 1 ((cleansF m.fSources).length) (strs (cleansF m.fSources)) :: SA.blk g16 197 (zq21 g1) :: SA.blk g3 26 zq8 :: L) := S409
         refine wpList_nil ?_
         refine hK230 _ _ ?_; clear hK230 K230
         refine wp_cond_true (F410.ev (by kernel_rfl)) ?_
         refine wp_seq_k fun K412 hK412 => ?_
         refine wp_region_lit ?_
         refine op_rq (v := .agg (zq23 m B173 b173 B179 b179)) F410 (r_ldm rfl (F410.e (.pointer (some ⟨g1, 0, none⟩))) (S411.bk 1 rfl) 15 (by kernel_rfl) Try.underlying26 rfl (by kernel_rfl) (v := (zq23 m B173 b173 B179 b179)) (by kernel_rfl)) ?_; intro a413 F413
         refine op_sq0 F413 (s_stb rfl (F413.e (.pointer (some ⟨g3, 0, none⟩))) (F413.e (.agg (zq23 m B173 b173 B179 b179))) S411.p5 (by kernel_rfl) rfl (by kernel_rfl)) ?_
         rintro _ _ w414 rfl S414 F414
         refine op_q F414 (.int .i64 3) ?_; intro a415 F415
         refine wpList_nil ?_
         refine hK412 _ _ ?_; clear hK412 K412
         refine wp_ret ?_
         refine ret_in ?_
         refine ret_then ?_
         have hbn : badName (cleanF m.fName) = true := by unfold badName; rw [hc231, hc324]; rfl
         have hw1 : what1 m = 3 := by unfold what1; rw [hc205, hc220, hbn]; rfl
         have S416 : Sp R w414 (SA.cmR 3 { cln8 m with fSources_a := B173, fSources_c := b173, fKeywords_a := B179, fKeywords_c := b179 } :: SA.blk g3 26 (zq23 m B173 b173 B179 b179) :: SA.blk g194 145 #[.int .i64 n0190, .int .i64 n1190, .int .i64 n2190] :: SA.blk g1 26 (zq23 m B173 b173 B179 b179) :: SA.blk g16 197 (zq21 g1) :: L) := (Sp.stars (l := [_, _])).2 (Sp.own0_of (Sp.own0_of S414.p3.p4).p1).p1
         refine (F415.resC (results2 Try.results60 (F415.rvc (p := ⟨g3, 0, none⟩) (by kernel_rfl) (ld_mid (S414.bk 0 rfl) 15 (by kernel_rfl) Try.underlying26 rfl (by kernel_rfl) (v := (zq23 m B173 b173 B179 b179)) (by kernel_rfl))) (F415.rvt (v := .int .i64 3) (by kernel_rfl))) ?_).1
         exact ⟨{ cln8 m with fSources_a := B173, fSources_c := b173, fKeywords_a := B179, fKeywords_c := b179 }, 3, rfl, S416.p1.drop.p1.drop.p1.drop.p1.drop, (what_1 hw1 (by omega)).symm, ⟨fun _ _ => ⟨rfl, rfl, rfl, rfl, rfl⟩, fun h => by omega⟩⟩
       ·skip
        refine wp_region_sepF (L0 := SA.blk g194 145 #[.int .i64 n0190, .int .i64 n1190, .int .i64 n2190] :: SA.blk g1 26 (zq23 m B173 b173 B179 b179) :: SA.own (.slice B179 (cleansF m.fKeywords).length b179) 9 1 ((cleansF m.fKeywords).length) (strs (cleansF m.fKeywords)) :: SA.own (.slice B173 (cleansF m.fSources).length b173) 9 1 ((cleansF m.fSources).length) (strs (cleansF m.fSources)) :: SA.blk g16 197 (zq21 g1) :: SA.blk g3 26 zq8 :: L) [some [], some [(0, 64)], some [(1, 65)], some [(2, 66)], some [(3, 67)], some [(3, 67), (4, 68)], some [(3, 67), (5, 69)], some [(3, 67), (6, 70)], some [(7, 71)], some [(8, 72)], some [(8, 72), (9, 73)], some [(8, 72)], some [(8, 72), (11, 75)], some [(8, 72), (12, 76)], some [(8, 72), (10, 74), (12, 76), (13, 77)], some [(8, 72), (10, 74), (12, 76), (13, 77), (14, 78)], some [(8, 72), (10, 74), (12, 76), (13, 77), (14, 78), (15, 79)]] [.v 64 (.pointer (some ⟨g1, 0, none⟩)), .v 65 (.string (cleanF m.fName)), .v 66 (.bool false), .v 67 (.bool false), .v 68 (.pointer (some ⟨g1, 0, none⟩)), .v 69 (.string (cleanF m.fName)), .v 70 (.bool false), .v 71 (.bool false), .v 72 (.bool false), .v 73 (.pointer (some ⟨g1, 0, none⟩)), .v 74 (.string (cleanF m.fName)), .v 75 (.pointer (some ⟨g1, 0, none⟩)), .v 76 (.string (cleanF m.fName)), .p 77 (SA.emp) (fun _ vv AA => ∃ o502 : ByteArray, vv = .string o502 ∧ AA = SA.emp ∧ ((o502.toList == (cleanF m.fName).toList) = (!slB (cleanF m.fName) || ((cleanF m.fName).toList == (⟨#[47]⟩ : ByteArray).toList)))), .p 78 (SA.emp) (fun env vv AA => ∃ o502x : ByteArray, (env.getD 3 undef) = .string o502x ∧ vv = .bool (!((cleanF m.fName).toList == o502x.toList)) ∧ AA = SA.emp), .p 79 (SA.emp) (fun env vv AA => ∃ o502x : ByteArray, (env.getD 3 undef) = .string o502x ∧ vv = .bool (!((cleanF m.fName).toList == o502x.toList)) ∧ AA = SA.emp), .p 63 (SA.emp) (fun env vv AA => ∃ o502x : ByteArray, (env.getD 3 undef) = .string o502x ∧ vv = .bool (!((cleanF m.fName).toList == o502x.toList)) ∧ AA = SA.emp)] [] F229 rfl (by kernel_rfl) S197.emp.emp.emp.emp ?_ ?_
        ·refine ⟨?_, ?_, ?_, ?_, ?_, ?_, ?_, ?_, ?_, ?_, ?_, ?_, ?_, ?_, ?_, ?_, ?_, trivial⟩
         ·intro w469 M469
          intro a469 F469 S469
          refine obl_of (by rfl) ?_
          exact s_p F469 (v := .pointer (some ⟨g1, 0, none⟩)) (by kernel_rfl) (by kernel_rfl) (by kernel_rfl) S469
         ·intro w470 M470
          intro a470 F470 S470
          refine obl_of (by rfl) ?_
          exact s_r (v := .string (cleanF m.fName)) (r_ld rfl (F470.e (.pointer (some ⟨g1, 0, none⟩))) (v := .string (cleanF m.fName)) (((Sp.dropM S470.drop).bk 1 rfl).cell 0) Try.underlying9 rfl) S470
         ·intro w472 M472
          intro a472 F472 S472
          refine obl_of (by rfl) ?_
          exact s_pb F472 (b := (cleanF m.fName).toList == (⟨#[46]⟩ : ByteArray).toList) hc231 (by kernel_rfl) (by kernel_rfl) (by kernel_rfl) S472
         ·intro w474 M474
          intro a474 F474 S474
          refine obl_of (by rfl) ?_
          exact s_p F474 (v := .bool false) (by kernel_rfl) (by kernel_rfl) (by kernel_rfl) S474
         ·intro w476 M476
          intro a476 F476 S476
          refine obl_yes (F476.wanted (q := true) (by kernel_rfl) (by intro t ht; injection ht with ht; subst ht; exact nble rfl)) ?_
          exact s_p F476 (v := .pointer (some ⟨g1, 0, none⟩)) (by kernel_rfl) (by kernel_rfl) (by kernel_rfl) S476
         ·intro w478 M478
          intro a478 F478 S478
          refine obl_yes (F478.wanted (q := true) (by kernel_rfl) (by intro t ht; injection ht with ht; subst ht; exact nble rfl)) ?_
          exact s_r (v := .string (cleanF m.fName)) (r_ld rfl (F478.e (.pointer (some ⟨g1, 0, none⟩))) (v := .string (cleanF m.fName)) (((Sp.dropM S478.drop).bk 1 rfl).cell 0) Try.underlying9 rfl) S478
         ·intro w481 M481
          intro a481 F481 S481
          refine obl_yes (F481.wanted (q := true) (by kernel_rfl) (by intro t ht; injection ht with ht; subst ht; exact nble rfl)) ?_
          exact s_pb F481 (b := (cleanF m.fName).toList == (⟨#[46, 46]⟩ : ByteArray).toList) hc324 (by kernel_rfl) (by kernel_rfl) (by kernel_rfl) S481
         ·intro w484 M484
          intro a484 F484 S484
          refine obl_of (by rfl) ?_
          exact s_p F484 (v := .bool false) (by kernel_rfl) (by kernel_rfl) (by kernel_rfl) S484
         ·intro w487 M487
          intro a487 F487 S487
          refine obl_of (by rfl) ?_
          exact s_p F487 (v := .bool false) (by kernel_rfl) (by kernel_rfl) (by kernel_rfl) S487
         ·intro w489 M489
          intro a489 F489 S489
          refine obl_yes (F489.wanted (q := true) (by kernel_rfl) (by intro t ht; injection ht with ht; subst ht; exact nble rfl)) ?_
          exact s_p F489 (v := .pointer (some ⟨g1, 0, none⟩)) (by kernel_rfl) (by kernel_rfl) (by kernel_rfl) S489
         ·intro w491 M491
          intro a491 F491 S491
          refine obl_yes (F491.wanted (q := true) (by kernel_rfl) (by intro t ht; injection ht with ht; subst ht; exact nble rfl)) ?_
          exact s_r (v := .string (cleanF m.fName)) (r_ld rfl (F491.e (.pointer (some ⟨g1, 0, none⟩))) (v := .string (cleanF m.fName)) (((Sp.dropM S491.drop).bk 1 rfl).cell 0) Try.underlying9 rfl) S491
         ·intro w494 M494
          intro a494 F494 S494
          refine obl_yes (F494.wanted (q := true) (by kernel_rfl) (by intro t ht; injection ht with ht; subst ht; exact nble rfl)) ?_
          exact s_p F494 (v := .pointer (some ⟨g1, 0, none⟩)) (by kernel_rfl) (by kernel_rfl) (by kernel_rfl) S494
         ·intro w496 M496
          intro a496 F496 S496
          refine obl_yes (F496.wanted (q := true) (by kernel_rfl) (by intro t ht; injection ht with ht; subst ht; exact nble rfl)) ?_
          exact s_r (v := .string (cleanF m.fName)) (r_ld rfl (F496.e (.pointer (some ⟨g1, 0, none⟩))) (v := .string (cleanF m.fName)) (((Sp.dropM S496.drop).bk 1 rfl).cell 0) Try.underlying9 rfl) S496
         ·intro w499 M499
          intro a499 F499 S499
          refine obl_yes (F499.wanted (q := true) (by kernel_rfl) (by intro t ht; injection ht with ht; subst ht; exact nble rfl)) ?_
          refine s_c F499 (f := 120) (args := #[.string (cleanF m.fName)]) (by kernel_rfl) (by kernel_rfl) (by kernel_rfl) (chBase_sp (cleanF m.fName) _ _ _ S499.drop (emp_pos hc220) (by have := cleanF_le m.fName; omega)) ?_
          rintro _ _ ⟨o502, rfl, S502, hp0_502⟩
          exact ⟨_, _, rfl, ⟨o502, rfl, rfl, hp0_502⟩, S502.emp⟩
         ·intro w503 M503
          rintro _ _ ⟨o502, rfl, rfl, hp0_502⟩ hA507
          intro a503 F503 S503
          refine obl_yes (F503.wanted (q := true) (by kernel_rfl) (by intro t ht; injection ht with ht; subst ht; exact nble rfl)) ?_
          exact sAt_mono (s_p F503 (v := .bool (!((cleanF m.fName).toList == o502.toList))) (by kernel_rfl) (by kernel_rfl) (by kernel_rfl) S503) fun _ _ ⟨e1, e2⟩ => ⟨o502, (by kernel_rfl), e1, e2⟩
         ·intro w508 M508
          rintro _ _ ⟨o502, rfl, rfl, hp0_502⟩ hA512
          rintro _ _ ⟨o502x, e14_3, rfl, rfl⟩ hA513
          have e14_3 := envE_at (v := .string o502) e14_3 (by kernel_rfl)
          obtain rfl : o502 = o502x := by cases e14_3; rfl
          clear e14_3
          intro a508 F508 S508
          refine obl_of (by rfl) ?_
          exact sAt_mono (s_p F508 (v := .bool (!((cleanF m.fName).toList == o502.toList))) (by kernel_rfl) (by kernel_rfl) (by kernel_rfl) S508) fun _ _ ⟨e1, e2⟩ => ⟨o502, (by kernel_rfl), e1, e2⟩
         ·intro w514 M514
          rintro _ _ ⟨o502, rfl, rfl, hp0_502⟩ hA518
          rintro _ _ ⟨o502x, e14_3, rfl, rfl⟩ hA519
          have e14_3 := envE_at (v := .string o502) e14_3 (by kernel_rfl)
          obtain rfl : o502 = o502x := by cases e14_3; rfl
          clear e14_3
          rintro _ _ ⟨o502x, e15_3, rfl, rfl⟩ hA520
          have e15_3 := envE_at (v := .string o502) e15_3 (by kernel_rfl)
          obtain rfl : o502 = o502x := by cases e15_3; rfl
          clear e15_3
          intro a514 F514 S514
          refine obl_of (by rfl) ?_
          exact sAt_mono (s_p F514 (v := .bool (!((cleanF m.fName).toList == o502.toList))) (by kernel_rfl) (by kernel_rfl) (by kernel_rfl) S514) fun _ _ ⟨e1, e2⟩ => ⟨o502, (by kernel_rfl), e1, e2⟩
        ·rintro _ _ ⟨o502, rfl, rfl, hp0_502⟩
         rintro _ _ ⟨o502x, e14_3, rfl, rfl⟩
         have e14_3 := envE_at (v := .string o502) e14_3 (by kernel_rfl)
         obtain rfl : o502 = o502x := by cases e14_3; rfl
         clear e14_3
         rintro _ _ ⟨o502x, e15_3, rfl, rfl⟩
         have e15_3 := envE_at (v := .string o502) e15_3 (by kernel_rfl)
         obtain rfl : o502 = o502x := by cases e15_3; rfl
         clear e15_3
         rintro _ _ ⟨o502x, e16_3, rfl, rfl⟩
         have e16_3 := envE_at (v := .string o502) e16_3 (by kernel_rfl)
         obtain rfl : o502 = o502x := by cases e16_3; rfl
         clear e16_3
         intro a522 w521 F522 S521
         have S523 : Sp R w521 (SA.blk g194 145 #[.int .i64 n0190, .int .i64 n1190, .int .i64 n2190] :: SA.blk g1 26 (zq23 m B173 b173 B179 b179) :: SA.own (.slice B179 (cleansF m.fKeywords).length b179) 9 1 ((cleansF m.fKeywords).length) (strs (cleansF m.fKeywords)) :: SA.own (.slice B173 (cleansF m.fSources).length b173) 9 1 ((cleansF m.fSources).length) (strs (cleansF m.fSources)) :: SA.blk g16 197 (zq21 g1) :: SA.blk g3 26 zq8 :: L) := S521.drop.drop.drop.drop
         refine wpList_nil ?_
         refine hK230 _ _ ?_; clear hK230 K230
         rcases btf ((cleanF m.fName).toList == o502.toList) with hc524 | hc524
         ·have F525 := F522.sb 78 (by kernel_rfl) (show (!((cleanF m.fName).toList == o502.toList)) = false by rw [hc524]; rfl)
          have F526 := F525.sb 79 (by kernel_rfl) (show (!((cleanF m.fName).toList == o502.toList)) = false by rw [hc524]; rfl)
          have F527 := F526.sb 63 (by kernel_rfl) (show (!((cleanF m.fName).toList == o502.toList)) = false by rw [hc524]; rfl)
          refine wp_cond_false (F527.ev (by kernel_rfl)) ?_
          refine wp_seq_k fun K528 hK528 => ?_
          refine wp_region_lit ?_
          refine op_q F527 (.pointer (some ⟨g1, 2, none⟩)) ?_; intro a529 F529
          refine op_rq (v := .string m.fVersion) F529 (r_ld rfl (F529.e (.pointer (some ⟨g1, 2, none⟩))) (v := .string m.fVersion) ((S523.bk 1 rfl).cell 2) Try.underlying9 rfl) ?_; intro a530 F530
          refine op_q F530 (.bool (m.fVersion.toList == (⟨#[]⟩ : ByteArray).toList)) ?_; intro a531 F531
          refine op_q F531 (.bool (m.fVersion.toList == (⟨#[]⟩ : ByteArray).toList)) ?_; intro a532 F532
          refine wpList_nil ?_
          refine hK528 _ _ ?_; clear hK528 K528
          rcases btf (m.fVersion.toList == (⟨#[]⟩ : ByteArray).toList) with hc533 | hc533
          ·have F534 := F532.sb 84 (by kernel_rfl) hc533
           have F535 := F534.sb 81 (by kernel_rfl) hc533
           refine wp_cond_true (F535.ev (by kernel_rfl)) ?_
           refine wp_seq_k fun K536 hK536 => ?_
           refine wp_region_lit ?_
           refine op_rq (v := .agg (zq23 m B173 b173 B179 b179)) F535 (r_ldm rfl (F535.e (.pointer (some ⟨g1, 0, none⟩))) (S523.bk 1 rfl) 15 (by kernel_rfl) Try.underlying26 rfl (by kernel_rfl) (v := (zq23 m B173 b173 B179 b179)) (by kernel_rfl)) ?_; intro a537 F537
           refine op_sq0 F537 (s_stb rfl (F537.e (.pointer (some ⟨g3, 0, none⟩))) (F537.e (.agg (zq23 m B173 b173 B179 b179))) S523.p5 (by kernel_rfl) rfl (by kernel_rfl)) ?_
           rintro _ _ w538 rfl S538 F538
           refine op_q F538 (.int .i64 4) ?_; intro a539 F539
           refine wpList_nil ?_
           refine hK536 _ _ ?_; clear hK536 K536
           refine wp_ret ?_
           refine ret_in ?_
           refine ret_then ?_
           have hbn : badName (cleanF m.fName) = false := by unfold badName; rw [hc231, hc324, ← hp0_502, beq_sw3, hc524]; rfl
           have hw1 : what1 m = 4 := by unfold what1; rw [hc205, hc220, hbn, hc533]; rfl
           have S540 : Sp R w538 (SA.cmR 4 { cln8 m with fSources_a := B173, fSources_c := b173, fKeywords_a := B179, fKeywords_c := b179 } :: SA.blk g3 26 (zq23 m B173 b173 B179 b179) :: SA.blk g194 145 #[.int .i64 n0190, .int .i64 n1190, .int .i64 n2190] :: SA.blk g1 26 (zq23 m B173 b173 B179 b179) :: SA.blk g16 197 (zq21 g1) :: L) := (Sp.stars (l := [_, _])).2 (Sp.own0_of (Sp.own0_of S538.p3.p4).p1).p1
           refine (F539.resC (results2 Try.results60 (F539.rvc (p := ⟨g3, 0, none⟩) (by kernel_rfl) (ld_mid (S538.bk 0 rfl) 15 (by kernel_rfl) Try.underlying26 rfl (by kernel_rfl) (v := (zq23 m B173 b173 B179 b179)) (by kernel_rfl))) (F539.rvt (v := .int .i64 4) (by kernel_rfl))) ?_).1
           exact ⟨{ cln8 m with fSources_a := B173, fSources_c := b173, fKeywords_a := B179, fKeywords_c := b179 }, 4, rfl, S540.p1.drop.p1.drop.p1.drop.p1.drop, (what_1 hw1 (by omega)).symm, ⟨fun _ _ => ⟨rfl, rfl, rfl, rfl, rfl⟩, fun h => by omega⟩⟩
          ·have F541 := F532.sb 84 (by kernel_rfl) hc533
           have F542 := F541.sb 81 (by kernel_rfl) hc533
           refine wp_cond_false (F542.ev (by kernel_rfl)) ?_
           refine wp_seq_k fun K543 hK543 => ?_
           refine wp_region_lit ?_
           refine op_q F542 (.bool (plainB m.fVersion)) ?_; intro a544 F544
           refine op_q F544 (.bool (!(plainB m.fVersion))) ?_; intro a545 F545
           refine op_q F545 (.bool (!(plainB m.fVersion))) ?_; intro a546 F546
           refine wpList_nil ?_
           refine hK543 _ _ ?_; clear hK543 K543
           rcases btf (plainB m.fVersion) with hc547 | hc547
           ·have F548 := F546.sb 52 (by kernel_rfl) hc547
            have F549 := F548.sb 7 (by kernel_rfl) hc547
            have F550 := F549.sb 87 (by kernel_rfl) hc547
            have F551 := F550.sb 88 (by kernel_rfl) (show (!(plainB m.fVersion)) = false by rw [hc547]; rfl)
            have F552 := F551.sb 86 (by kernel_rfl) (show (!(plainB m.fVersion)) = false by rw [hc547]; rfl)
            refine wp_cond_false (F552.ev (by kernel_rfl)) ?_
            refine wp_seq_k fun K553 hK553 => ?_
            refine wp_region_lit ?_
            refine op_q F552 (.pointer (some ⟨g1, 10, none⟩)) ?_; intro a554 F554
            refine op_rq (v := .string m.fType) F554 (r_ld rfl (F554.e (.pointer (some ⟨g1, 10, none⟩))) (v := .string m.fType) ((S523.bk 1 rfl).cell 10) Try.underlying9 rfl) ?_; intro a555 F555
            refine op_q F555 (.bool (!(m.fType.toList == (⟨#[]⟩ : ByteArray).toList))) ?_; intro a556 F556
            refine op_q F556 (.bool (!(m.fType.toList == (⟨#[]⟩ : ByteArray).toList))) ?_; intro a557 F557
            rcases btf (m.fType.toList == (⟨#[]⟩ : ByteArray).toList) with hc558 | hc558
            ·have F559 := F557.sb 93 (by kernel_rfl) (show (!(m.fType.toList == (⟨#[]⟩ : ByteArray).toList)) = false by rw [hc558]; rfl)
             have F560 := F559.sb 94 (by kernel_rfl) (show (!(m.fType.toList == (⟨#[]⟩ : ByteArray).toList)) = false by rw [hc558]; rfl)
             refine op_kq F560 ?_; intro a561 F561
             refine op_kq F561 ?_; intro a562 F562
             refine op_kq F562 ?_; intro a563 F563
             refine op_q F563 (.bool false) ?_; intro a564 F564
             refine op_q F564 (.bool false) ?_; intro a565 F565
             refine op_kq F565 ?_; intro a566 F566
             refine op_kq F566 ?_; intro a567 F567
             refine op_kq F567 ?_; intro a568 F568
             refine op_q F568 (.bool false) ?_; intro a569 F569
             refine op_q F569 (.bool false) ?_; intro a570 F570
             refine wpList_nil ?_
             refine hK553 _ _ ?_; clear hK553 K553
             refine wp_cond_false (F570.ev (by kernel_rfl)) ?_
             refine wp_skip ?_
             have hbn : badName (cleanF m.fName) = false := by unfold badName; rw [hc231, hc324, ← hp0_502, beq_sw3, hc524]; rfl
             have hty : badType m.fType = false := by unfold badType; rw [hc558]; rfl
             have hw1 : what1 m = 0 := by unfold what1; rw [hc205, hc220, hbn, hc533, hc547, hty]; rfl
             exact hK199 _ _ ⟨(F570.kk 1 (F570.kk 2 F570.nil)), S523.p5.p5.p5.p5.p5.p5, hw1⟩
            ·have F571 := F557.sb 93 (by kernel_rfl) (show (!(m.fType.toList == (⟨#[]⟩ : ByteArray).toList)) = true by rw [hc558]; rfl)
             have F572 := F571.sb 94 (by kernel_rfl) (show (!(m.fType.toList == (⟨#[]⟩ : ByteArray).toList)) = true by rw [hc558]; rfl)
             refine op_wq F572 ?_
             refine op_q F572 (.pointer (some ⟨g1, 10, none⟩)) ?_; intro a573 F573
             refine op_wq F573 ?_
             refine op_rq (v := .string m.fType) F573 (r_ld rfl (F573.e (.pointer (some ⟨g1, 10, none⟩))) (v := .string m.fType) ((S523.bk 1 rfl).cell 10) Try.underlying9 rfl) ?_; intro a574 F574
             refine op_wq F574 ?_
             refine op_q F574 (.bool (!(m.fType.toList == (⟨#[97, 112, 112, 108, 105, 99, 97, 116, 105, 111, 110]⟩ : ByteArray).toList))) ?_; intro a575 F575
             refine op_q F575 (.bool (!(m.fType.toList == (⟨#[97, 112, 112, 108, 105, 99, 97, 116, 105, 111, 110]⟩ : ByteArray).toList))) ?_; intro a576 F576
             refine op_q F576 (.bool (!(m.fType.toList == (⟨#[97, 112, 112, 108, 105, 99, 97, 116, 105, 111, 110]⟩ : ByteArray).toList))) ?_; intro a577 F577
             rcases btf (m.fType.toList == (⟨#[97, 112, 112, 108, 105, 99, 97, 116, 105, 111, 110]⟩ : ByteArray).toList) with hc578 | hc578
             ·have F579 := F577.sb 97 (by kernel_rfl) (show (!(m.fType.toList == (⟨#[97, 112, 112, 108, 105, 99, 97, 116, 105, 111, 110]⟩ : ByteArray).toList)) = false by rw [hc578]; rfl)
              have F580 := F579.sb 98 (by kernel_rfl) (show (!(m.fType.toList == (⟨#[97, 112, 112, 108, 105, 99, 97, 116, 105, 111, 110]⟩ : ByteArray).toList)) = false by rw [hc578]; rfl)
              have F581 := F580.sb 99 (by kernel_rfl) (show (!(m.fType.toList == (⟨#[97, 112, 112, 108, 105, 99, 97, 116, 105, 111, 110]⟩ : ByteArray).toList)) = false by rw [hc578]; rfl)
              refine op_kq F581 ?_; intro a582 F582
              refine op_kq F582 ?_; intro a583 F583
              refine op_kq F583 ?_; intro a584 F584
              refine op_q F584 (.bool false) ?_; intro a585 F585
              refine op_q F585 (.bool false) ?_; intro a586 F586
              refine wpList_nil ?_
              refine hK553 _ _ ?_; clear hK553 K553
              refine wp_cond_false (F586.ev (by kernel_rfl)) ?_
              refine wp_skip ?_
              have hbn : badName (cleanF m.fName) = false := by unfold badName; rw [hc231, hc324, ← hp0_502, beq_sw3, hc524]; rfl
              have hty : badType m.fType = false := by unfold badType; rw [hc558, hc578]; rfl
              have hw1 : what1 m = 0 := by unfold what1; rw [hc205, hc220, hbn, hc533, hc547, hty]; rfl
              exact hK199 _ _ ⟨(F586.kk 1 (F586.kk 2 F586.nil)), S523.p5.p5.p5.p5.p5.p5, hw1⟩
             ·have F587 := F577.sb 97 (by kernel_rfl) (show (!(m.fType.toList == (⟨#[97, 112, 112, 108, 105, 99, 97, 116, 105, 111, 110]⟩ : ByteArray).toList)) = true by rw [hc578]; rfl)
              have F588 := F587.sb 98 (by kernel_rfl) (show (!(m.fType.toList == (⟨#[97, 112, 112, 108, 105, 99, 97, 116, 105, 111, 110]⟩ : ByteArray).toList)) = true by rw [hc578]; rfl)
              have F589 := F588.sb 99 (by kernel_rfl) (show (!(m.fType.toList == (⟨#[97, 112, 112, 108, 105, 99, 97, 116, 105, 111, 110]⟩ : ByteArray).toList)) = true by rw [hc578]; rfl)
              refine op_wq F589 ?_
              refine op_q F589 (.pointer (some ⟨g1, 10, none⟩)) ?_; intro a590 F590
              refine op_wq F590 ?_
              refine op_rq (v := .string m.fType) F590 (r_ld rfl (F590.e (.pointer (some ⟨g1, 10, none⟩))) (v := .string m.fType) ((S523.bk 1 rfl).cell 10) Try.underlying9 rfl) ?_; intro a591 F591
              refine op_wq F591 ?_
              refine op_q F591 (.bool (!(m.fType.toList == (⟨#[108, 105, 98, 114, 97, 114, 121]⟩ : ByteArray).toList))) ?_; intro a592 F592
              refine op_q F592 (.bool (!(m.fType.toList == (⟨#[108, 105, 98, 114, 97, 114, 121]⟩ : ByteArray).toList))) ?_; intro a593 F593
              refine op_q F593 (.bool (!(m.fType.toList == (⟨#[108, 105, 98, 114, 97, 114, 121]⟩ : ByteArray).toList))) ?_; intro a594 F594
              refine wpList_nil ?_
              refine hK553 _ _ ?_; clear hK553 K553
              rcases btf (m.fType.toList == (⟨#[108, 105, 98, 114, 97, 114, 121]⟩ : ByteArray).toList) with hc595 | hc595
              ·have F596 := F594.sb 102 (by kernel_rfl) (show (!(m.fType.toList == (⟨#[108, 105, 98, 114, 97, 114, 121]⟩ : ByteArray).toList)) = false by rw [hc595]; rfl)
               have F597 := F596.sb 103 (by kernel_rfl) (show (!(m.fType.toList == (⟨#[108, 105, 98, 114, 97, 114, 121]⟩ : ByteArray).toList)) = false by rw [hc595]; rfl)
               have F598 := F597.sb 90 (by kernel_rfl) (show (!(m.fType.toList == (⟨#[108, 105, 98, 114, 97, 114, 121]⟩ : ByteArray).toList)) = false by rw [hc595]; rfl)
               refine wp_cond_false (F598.ev (by kernel_rfl)) ?_
               refine wp_skip ?_
               have hbn : badName (cleanF m.fName) = false := by unfold badName; rw [hc231, hc324, ← hp0_502, beq_sw3, hc524]; rfl
               have hty : badType m.fType = false := by unfold badType; rw [hc558, hc578, hc595]; rfl
               have hw1 : what1 m = 0 := by unfold what1; rw [hc205, hc220, hbn, hc533, hc547, hty]; rfl
               exact hK199 _ _ ⟨(F598.kk 1 (F598.kk 2 F598.nil)), S523.p5.p5.p5.p5.p5.p5, hw1⟩
              ·have F599 := F594.sb 102 (by kernel_rfl) (show (!(m.fType.toList == (⟨#[108, 105, 98, 114, 97, 114, 121]⟩ : ByteArray).toList)) = true by rw [hc595]; rfl)
               have F600 := F599.sb 103 (by kernel_rfl) (show (!(m.fType.toList == (⟨#[108, 105, 98, 114, 97, 114, 121]⟩ : ByteArray).toList)) = true by rw [hc595]; rfl)
               have F601 := F600.sb 90 (by kernel_rfl) (show (!(m.fType.toList == (⟨#[108, 105, 98, 114, 97, 114, 121]⟩ : ByteArray).toList)) = true by rw [hc595]; rfl)
               refine wp_cond_true (F601.ev (by kernel_rfl)) ?_
               refine wp_seq_k fun K602 hK602 => ?_
               refine wp_region_lit ?_
               refine op_rq (v := .agg (zq23 m B173 b173 B179 b179)) F601 (r_ldm rfl (F601.e (.pointer (some ⟨g1, 0, none⟩))) (S523.bk 1 rfl) 15 (by kernel_rfl) Try.underlying26 rfl (by kernel_rfl) (v := (zq23 m B173 b173 B179 b179)) (by kernel_rfl)) ?_; intro a603 F603
               refine op_sq0 F603 (s_stb rfl (F603.e (.pointer (some ⟨g3, 0, none⟩))) (F603.e (.agg (zq23 m B173 b173 B179 b179))) S523.p5 (by kernel_rfl) rfl (by kernel_rfl)) ?_
               rintro _ _ w604 rfl S604 F604
               refine op_q F604 (.int .i64 6) ?_; intro a605 F605
               refine wpList_nil ?_
               refine hK602 _ _ ?_; clear hK602 K602
               refine wp_ret ?_
               refine ret_in ?_
               refine ret_then ?_
               have hbn : badName (cleanF m.fName) = false := by unfold badName; rw [hc231, hc324, ← hp0_502, beq_sw3, hc524]; rfl
               have hty : badType m.fType = true := by unfold badType; rw [hc558, hc578, hc595]; rfl
               have hw1 : what1 m = 6 := by unfold what1; rw [hc205, hc220, hbn, hc533, hc547, hty]; rfl
               have S606 : Sp R w604 (SA.cmR 6 { cln8 m with fSources_a := B173, fSources_c := b173, fKeywords_a := B179, fKeywords_c := b179 } :: SA.blk g3 26 (zq23 m B173 b173 B179 b179) :: SA.blk g194 145 #[.int .i64 n0190, .int .i64 n1190, .int .i64 n2190] :: SA.blk g1 26 (zq23 m B173 b173 B179 b179) :: SA.blk g16 197 (zq21 g1) :: L) := (Sp.stars (l := [_, _])).2 (Sp.own0_of (Sp.own0_of S604.p3.p4).p1).p1
               refine (F605.resC (results2 Try.results60 (F605.rvc (p := ⟨g3, 0, none⟩) (by kernel_rfl) (ld_mid (S604.bk 0 rfl) 15 (by kernel_rfl) Try.underlying26 rfl (by kernel_rfl) (v := (zq23 m B173 b173 B179 b179)) (by kernel_rfl))) (F605.rvt (v := .int .i64 6) (by kernel_rfl))) ?_).1
               exact ⟨{ cln8 m with fSources_a := B173, fSources_c := b173, fKeywords_a := B179, fKeywords_c := b179 }, 6, rfl, S606.p1.drop.p1.drop.p1.drop.p1.drop, (what_1 hw1 (by omega)).symm, ⟨fun _ _ => ⟨rfl, rfl, rfl, rfl, rfl⟩, fun h => by omega⟩⟩
           ·have F607 := F546.sb 52 (by kernel_rfl) hc547
            have F608 := F607.sb 7 (by kernel_rfl) hc547
            have F609 := F608.sb 87 (by kernel_rfl) hc547
            have F610 := F609.sb 88 (by kernel_rfl) (show (!(plainB m.fVersion)) = true by rw [hc547]; rfl)
            have F611 := F610.sb 86 (by kernel_rfl) (show (!(plainB m.fVersion)) = true by rw [hc547]; rfl)
            refine wp_cond_true (F611.ev (by kernel_rfl)) ?_
            refine wp_seq_k fun K612 hK612 => ?_
            refine wp_region_lit ?_
            refine op_rq (v := .agg (zq23 m B173 b173 B179 b179)) F611 (r_ldm rfl (F611.e (.pointer (some ⟨g1, 0, none⟩))) (S523.bk 1 rfl) 15 (by kernel_rfl) Try.underlying26 rfl (by kernel_rfl) (v := (zq23 m B173 b173 B179 b179)) (by kernel_rfl)) ?_; intro a613 F613
            refine op_sq0 F613 (s_stb rfl (F613.e (.pointer (some ⟨g3, 0, none⟩))) (F613.e (.agg (zq23 m B173 b173 B179 b179))) S523.p5 (by kernel_rfl) rfl (by kernel_rfl)) ?_
            rintro _ _ w614 rfl S614 F614
            refine op_q F614 (.int .i64 5) ?_; intro a615 F615
            refine wpList_nil ?_
            refine hK612 _ _ ?_; clear hK612 K612
            refine wp_ret ?_
            refine ret_in ?_
            refine ret_then ?_
            have hbn : badName (cleanF m.fName) = false := by unfold badName; rw [hc231, hc324, ← hp0_502, beq_sw3, hc524]; rfl
            have hw1 : what1 m = 5 := by unfold what1; rw [hc205, hc220, hbn, hc533, hc547]; rfl
            have S616 : Sp R w614 (SA.cmR 5 { cln8 m with fSources_a := B173, fSources_c := b173, fKeywords_a := B179, fKeywords_c := b179 } :: SA.blk g3 26 (zq23 m B173 b173 B179 b179) :: SA.blk g194 145 #[.int .i64 n0190, .int .i64 n1190, .int .i64 n2190] :: SA.blk g1 26 (zq23 m B173 b173 B179 b179) :: SA.blk g16 197 (zq21 g1) :: L) := (Sp.stars (l := [_, _])).2 (Sp.own0_of (Sp.own0_of S614.p3.p4).p1).p1
            refine (F615.resC (results2 Try.results60 (F615.rvc (p := ⟨g3, 0, none⟩) (by kernel_rfl) (ld_mid (S614.bk 0 rfl) 15 (by kernel_rfl) Try.underlying26 rfl (by kernel_rfl) (v := (zq23 m B173 b173 B179 b179)) (by kernel_rfl))) (F615.rvt (v := .int .i64 5) (by kernel_rfl))) ?_).1
            exact ⟨{ cln8 m with fSources_a := B173, fSources_c := b173, fKeywords_a := B179, fKeywords_c := b179 }, 5, rfl, S616.p1.drop.p1.drop.p1.drop.p1.drop, (what_1 hw1 (by omega)).symm, ⟨fun _ _ => ⟨rfl, rfl, rfl, rfl, rfl⟩, fun h => by omega⟩⟩
         ·have F617 := F522.sb 78 (by kernel_rfl) (show (!((cleanF m.fName).toList == o502.toList)) = true by rw [hc524]; rfl)
          have F618 := F617.sb 79 (by kernel_rfl) (show (!((cleanF m.fName).toList == o502.toList)) = true by rw [hc524]; rfl)
          have F619 := F618.sb 63 (by kernel_rfl) (show (!((cleanF m.fName).toList == o502.toList)) = true by rw [hc524]; rfl)
          refine wp_cond_true (F619.ev (by kernel_rfl)) ?_
          refine wp_seq_k fun K620 hK620 => ?_
          refine wp_region_lit ?_
          refine op_rq (v := .agg (zq23 m B173 b173 B179 b179)) F619 (r_ldm rfl (F619.e (.pointer (some ⟨g1, 0, none⟩))) (S523.bk 1 rfl) 15 (by kernel_rfl) Try.underlying26 rfl (by kernel_rfl) (v := (zq23 m B173 b173 B179 b179)) (by kernel_rfl)) ?_; intro a621 F621
          refine op_sq0 F621 (s_stb rfl (F621.e (.pointer (some ⟨g3, 0, none⟩))) (F621.e (.agg (zq23 m B173 b173 B179 b179))) S523.p5 (by kernel_rfl) rfl (by kernel_rfl)) ?_
          rintro _ _ w622 rfl S622 F622
          refine op_q F622 (.int .i64 3) ?_; intro a623 F623
          refine wpList_nil ?_
          refine hK620 _ _ ?_; clear hK620 K620
          refine wp_ret ?_
          refine ret_in ?_
          refine ret_then ?_
          have hbn : badName (cleanF m.fName) = true := by unfold badName; rw [hc231, hc324, ← hp0_502, beq_sw3, hc524]; rfl
          have hw1 : what1 m = 3 := by unfold what1; rw [hc205, hc220, hbn]; rfl
          have S624 : Sp R w622 (SA.cmR 3 { cln8 m with fSources_a := B173, fSources_c := b173, fKeywords_a := B179, fKeywords_c := b179 } :: SA.blk g3 26 (zq23 m B173 b173 B179 b179) :: SA.blk g194 145 #[.int .i64 n0190, .int .i64 n1190, .int .i64 n2190] :: SA.blk g1 26 (zq23 m B173 b173 B179 b179) :: SA.blk g16 197 (zq21 g1) :: L) := (Sp.stars (l := [_, _])).2 (Sp.own0_of (Sp.own0_of S622.p3.p4).p1).p1
          refine (F623.resC (results2 Try.results60 (F623.rvc (p := ⟨g3, 0, none⟩) (by kernel_rfl) (ld_mid (S622.bk 0 rfl) 15 (by kernel_rfl) Try.underlying26 rfl (by kernel_rfl) (v := (zq23 m B173 b173 B179 b179)) (by kernel_rfl))) (F623.rvt (v := .int .i64 3) (by kernel_rfl))) ?_).1
          exact ⟨{ cln8 m with fSources_a := B173, fSources_c := b173, fKeywords_a := B179, fKeywords_c := b179 }, 3, rfl, S624.p1.drop.p1.drop.p1.drop.p1.drop, (what_1 hw1 (by omega)).symm, ⟨fun _ _ => ⟨rfl, rfl, rfl, rfl, rfl⟩, fun h => by omega⟩⟩
   ·rintro a625 w625 ⟨F625, S625, hw1⟩
    refine wp_seq_k fun K626 hK626 => ?_
    refine wp_region_lit ?_
    refine op_sq F625 (s_news F625 78 #[] 0 (by kernel_rfl) (by kernel_rfl) (by kernel_rfl) S625) ?_
    rintro _ _ w628 ⟨g626, rfl, rfl⟩ S628 a628 F628
    refine op_q F628 (.pointer (some ⟨g1, 13, none⟩)) ?_; intro a629 F629
    refine op_rq (v := .slice m.fMaintainers_a m.fMaintainers.length m.fMaintainers_c) F629 (r_ld rfl (F629.e (.pointer (some ⟨g1, 13, none⟩))) (v := .slice m.fMaintainers_a m.fMaintainers.length m.fMaintainers_c) ((S628.bk 2 rfl).cell 13) Try.underlying23 rfl) ?_; intro a630 F630
    refine op_sq F630 (s_app rfl Try.underlying23 4 _ tin78 rfl rfl (F630.e (.slice (some ⟨g626, 0, none⟩) 0 0)) (Sp.ofblk (sz := 4) (m := 0) (l := []) S628 rfl (by omega) rfl) (flatC Ty78.cells m.fMaintainers) (F630.e (.slice m.fMaintainers_a m.fMaintainers.length m.fMaintainers_c)) (Rows.flat (k2 _ S628.drop.drop.drop.drop.drop.drop.drop) (by decide) Ty78.len (by omega)) (flatC_len Ty78.len) (flatC_one Ty78.one) (by omega) (by omega) (n' := m.fMaintainers.length) (by omega) (cs' := flatC Ty78.cells m.fMaintainers) (by first | rfl | simp)) ?_
    rintro _ _ w632 ⟨A631, c631, rfl, rfl⟩ S632 a632 F632
    refine op_q F632 (.pointer (some ⟨g1, 13, none⟩)) ?_; intro a633 F633
    refine op_sq0 F633 (s_st rfl (F633.e (.pointer (some ⟨g1, 13, none⟩))) (F633.e (.slice A631 m.fMaintainers.length c631)) S632.p2 (by kernel_rfl) rfl rfl rfl (cs := (zq24 m B173 b173 B179 b179 A631 c631)) (by kernel_rfl)) ?_
    rintro _ _ w634 rfl S634 F634
    refine wpList_nil ?_
    refine hK626 _ _ ?_; clear hK626 K626
    refine wp_seq_k fun K635 hK635 => ?_
    refine wp_seq_k fun K636 hK636 => ?_
    refine wp_region_lit ?_
    refine op_q F634 (.pointer (some ⟨g1, 13, none⟩)) ?_; intro a637 F637
    refine op_rq (v := .slice A631 m.fMaintainers.length c631) F637 (r_ld rfl (F637.e (.pointer (some ⟨g1, 13, none⟩))) (v := .slice A631 m.fMaintainers.length c631) ((S634.bk 0 rfl).cell 13) Try.underlying23 rfl) ?_; intro a638 F638
    refine op_q F638 (.int .i64 (↑m.fMaintainers.length)) ?_; intro a639 F639
    refine op_q F639 (.int .i64 0) ?_; intro a640 F640
    refine wpList_nil ?_
    refine hK636 _ _ ?_; clear hK636 K636
    refine wp_block ?_
    have S641 : Sp R w634 (SA.own (.slice A631 m.fMaintainers.length c631) 78 4 m.fMaintainers.length (flatC Ty78.cells (pcs m.fMaintainers 0)) :: SA.blk g1 26 (zq24 m B173 b173 B179 b179 A631 c631) :: SA.blk g194 145 #[.int .i64 n0190, .int .i64 n1190, .int .i64 n2190] :: SA.own (.slice B179 (cleansF m.fKeywords).length b179) 9 1 ((cleansF m.fKeywords).length) (strs (cleansF m.fKeywords)) :: SA.own (.slice B173 (cleansF m.fSources).length b173) 9 1 ((cleansF m.fSources).length) (strs (cleansF m.fSources)) :: SA.blk g16 197 (zq21 g1) :: SA.blk g3 26 zq8 :: L) := S634.p1
    refine fw_loop (fun m' a' w' => ∃ j : Nat, m.fMaintainers.length - j = m' ∧ Fr 184 [] a' [(1, .pointer (some ⟨g1, 0, none⟩)), (2, .pointer (some ⟨g3, 0, none⟩)), (111, .slice A631 m.fMaintainers.length c631), (112, .int .i64 (↑m.fMaintainers.length)), (113, .int .i64 (↑j))] ∧ Sp R w' (SA.blk g1 26 (zq24 m B173 b173 B179 b179 A631 c631) :: SA.own (.slice A631 m.fMaintainers.length c631) 78 4 m.fMaintainers.length (flatC Ty78.cells (pcs m.fMaintainers j)) :: SA.own (.slice B179 (cleansF m.fKeywords).length b179) 9 1 ((cleansF m.fKeywords).length) (strs (cleansF m.fKeywords)) :: SA.own (.slice B173 (cleansF m.fSources).length b173) 9 1 ((cleansF m.fSources).length) (strs (cleansF m.fSources)) :: SA.blk g3 26 zq8 :: L) ∧ (j ≤ m.fMaintainers.length) ∧ (∀ i, ∀ h : i < m.fMaintainers.length, i < j → m.fMaintainers[i].fNil = false)) _ ⟨0, rfl, (F640.kk 1 (F640.kk 2 (F640.kk 111 (F640.kk 112 (F640.kk 113 F640.nil))))), S641.p2.drop.p4.drop.p4.p4.p4.p3.p4, (by first | omega | (with_reducible assumption) | (simp; done)), (fun i _ h => absurd h (Nat.not_lt_zero _))⟩ ?_
    rintro m642 a642 w642 ⟨j, hm642, F642, S642, hj, hpn⟩ K642 hK642
    by_cases hlt_j : j < m.fMaintainers.length
    ·have hc_j : decide ((↑j : Int) < ↑m.fMaintainers.length) = true := by first | (simp; done) | (simp; omega)
     obtain ⟨hp1, hp2, hp3⟩ := hzM _ (List.getElem_mem hlt_j)
     obtain ⟨ad643, hA643⟩ := (own_rowsT1 (S642.ow 1 rfl) pcs_len (by decide) (fun x => x.len) (by omega)).addr (by simp [pcs_len]; omega)
     refine wp_seq_k fun K644 hK644 => ?_
     refine wp_region_lit ?_
     refine op_q F642 (.bool (decide ((↑j : Int) < ↑m.fMaintainers.length))) ?_; intro a645 F645
     have F646 := F645.sb 114 (by kernel_rfl) hc_j
     refine wpList_nil ?_
     refine hK644 _ _ ?_; clear hK644 K644
     refine wp_seq_k fun K647 hK647 => ?_
     refine wp_cond_true (F646.ev (by kernel_rfl)) ?_
     refine wp_skip ?_
     refine hK647 _ _ ?_; clear hK647 K647
     refine wp_seq_k fun K648 hK648 => ?_
     refine wp_block ?_
     refine wp_seq_k fun K649 hK649 => ?_
     refine wp_region_lit ?_
     refine op_q F646 (.int .i64 (↑j)) ?_; intro a650 F650
     refine op_rq (v := .pointer (some (ad643.add (j * 4)))) F650 (r_ix rfl Try.underlying23 4 (by kernel_rfl) (F650.e (.slice A631 m.fMaintainers.length c631)) hA643 (F650.e (.int .i64 (↑j))) j (by first | rfl | omega | simp) (by first | omega | (simp; done) | (simp; omega)) (rfl)) ?_; intro a651 F651
     refine op_rq (v := .agg (zq4 m.fMaintainers[j])) F651 (r_ldR rfl (F651.e (.pointer (some (ad643.add (j * 4))))) (cs := [.bool m.fMaintainers[j].fNil, .string m.fMaintainers[j].fName, .string m.fMaintainers[j].fEmail, .string m.fMaintainers[j].fURL]) ((own_rowsT1 (S642.ow 1 rfl) pcs_len (by decide) (fun x => x.len) (by omega)).elA hA643 (j := j) (row := m.fMaintainers[j].cells) (by rw [List.getElem?_map, pcs_get hlt_j]; rfl)) Try.underlying78 rfl (by kernel_rfl) (v := (zq4 m.fMaintainers[j])) (by kernel_rfl)) ?_; intro a652 F652
     refine op_sq F652 (s_newp F652 78 #[.bool false, .string ⟨#[]⟩, .string ⟨#[]⟩, .string ⟨#[]⟩] (by kernel_rfl) (by kernel_rfl) (by kernel_rfl) S642) ?_
     rintro _ _ w654 ⟨g652, rfl, rfl⟩ S654 a654 F654
     refine op_q F654 (.int .i64 (↑j)) ?_; intro a655 F655
     refine op_sq0 F655 (s_stb rfl (F655.e (.pointer (some ⟨g652, 0, none⟩))) (F655.e (.agg (zq4 m.fMaintainers[j]))) S654 (by kernel_rfl) rfl (by kernel_rfl)) ?_
     rintro _ _ w656 rfl S656 F656
     refine wpList_nil ?_
     refine hK649 _ _ ?_; clear hK649 K649
     refine wp_seq_k fun K657 hK657 => ?_
     refine wp_region_lit ?_
     refine op_q F656 (.bool false) ?_; intro a658 F658
     refine wpList_nil ?_
     refine hK657 _ _ ?_; clear hK657 K657
     refine wp_seq_k fun K659 hK659 => ?_
     rcases btf (m.fMaintainers[j].fNil) with hdn | hdn
     ·skip
      refine wp_region_sepF (L0 := SA.blk g652 78 (zq4 m.fMaintainers[j]) :: SA.blk g1 26 (zq24 m B173 b173 B179 b179 A631 c631) :: SA.own (.slice B179 (cleansF m.fKeywords).length b179) 9 1 ((cleansF m.fKeywords).length) (strs (cleansF m.fKeywords)) :: SA.own (.slice B173 (cleansF m.fSources).length b173) 9 1 ((cleansF m.fSources).length) (strs (cleansF m.fSources)) :: SA.blk g3 26 zq8 :: L) [some [], some [(0, 119)], some [], some [], some [(3, 122)], some [(4, 123)], some [(5, 118)], some [(5, 118)], some [(1, 120), (2, 121)], some [(6, 124), (8, 126)], some [(7, 125)]] [.v 119 (.pointer (some ⟨g1, 13, none⟩)), .v 120 (.slice A631 m.fMaintainers.length c631), .v 121 (.int .i64 (↑j)), .v 122 (.agg (zq4 m.fMaintainers[j])), .v 123 (.tuple (zq25 m.fMaintainers[j])), .v 118 (.tuple (zq25 m.fMaintainers[j])), .v 124 (.agg (zq4 m.fMaintainers[j])), .v 125 (.bool false), .v 126 (.pointer (some (ad643.add (j * 4)))), .n (SA.own (.slice A631 m.fMaintainers.length c631) 78 4 m.fMaintainers.length (flatC Ty78.cells (pcs m.fMaintainers j))) (fun _ _ AA => AA = SA.own (.slice A631 m.fMaintainers.length c631) 78 4 m.fMaintainers.length (flatC Ty78.cells ((pcs m.fMaintainers j).set j m.fMaintainers[j]))), .v 10 (.bool false)] [] F658 rfl (by kernel_rfl) S656.p2 ?_ ?_
      ·refine ⟨?_, ?_, ?_, ?_, ?_, ?_, ?_, ?_, ?_, ?_, ?_, trivial⟩
       ·intro w682 M682
        intro a682 F682 S682
        refine obl_of (by rfl) ?_
        exact s_p F682 (v := .pointer (some ⟨g1, 13, none⟩)) (by kernel_rfl) (by kernel_rfl) (by kernel_rfl) S682
       ·intro w683 M683
        intro a683 F683 S683
        refine obl_of (by rfl) ?_
        exact s_r (v := .slice A631 m.fMaintainers.length c631) (r_ld rfl (F683.e (.pointer (some ⟨g1, 13, none⟩))) (v := .slice A631 m.fMaintainers.length c631) (((Sp.dropM S683.drop).bk 1 rfl).cell 13) Try.underlying23 rfl) S683
       ·intro w685 M685
        intro a685 F685 S685
        refine obl_of (by rfl) ?_
        exact s_p F685 (v := .int .i64 (↑j)) (by kernel_rfl) (by kernel_rfl) (by kernel_rfl) S685
       ·intro w686 M686
        intro a686 F686 S686
        refine obl_of (by rfl) ?_
        exact s_r (v := .agg (zq4 m.fMaintainers[j])) (r_ldm rfl (F686.e (.pointer (some ⟨g652, 0, none⟩))) ((Sp.dropM S686.drop).bk 0 rfl) 4 (by kernel_rfl) Try.underlying78 rfl (by kernel_rfl) (v := (zq4 m.fMaintainers[j])) (by kernel_rfl)) S686
       ·intro w687 M687
        intro a687 F687 S687
        refine obl_of (by rfl) ?_
        refine s_c F687 (f := 121) (args := #[.agg (zq4 m.fMaintainers[j])]) (by kernel_rfl) (by kernel_rfl) (by kernel_rfl) (chPersonS_nil m.fMaintainers[j] _ _ _ S687.drop (by with_reducible assumption)) ?_
        rintro _ _ ⟨rfl, S689⟩
        exact ⟨_, _, rfl, ⟨rfl, rfl⟩, S689.emp⟩
       ·intro w690 M690
        intro a690 F690 S690
        refine obl_of (by rfl) ?_
        exact s_p F690 (v := .tuple (zq25 m.fMaintainers[j])) (by kernel_rfl) (by kernel_rfl) (by kernel_rfl) S690
       ·intro w692 M692
        intro a692 F692 S692
        refine obl_of (by rfl) ?_
        exact s_p F692 (v := .agg (zq4 m.fMaintainers[j])) (by kernel_rfl) (by kernel_rfl) (by kernel_rfl) S692
       ·intro w694 M694
        intro a694 F694 S694
        refine obl_of (by rfl) ?_
        exact s_p F694 (v := .bool false) (by kernel_rfl) (by kernel_rfl) (by kernel_rfl) S694
       ·intro w696 M696
        intro a696 F696 S696
        refine obl_of (by rfl) ?_
        exact s_r (v := .pointer (some (ad643.add (j * 4)))) (r_ix rfl Try.underlying23 4 (by kernel_rfl) (F696.e (.slice A631 m.fMaintainers.length c631)) hA643 (F696.e (.int .i64 (↑j))) j (by first | rfl | omega | simp) (by first | omega | (simp; done) | (simp; omega)) (rfl)) S696
       ·intro w699 M699
        intro a699 F699 S699
        refine obl_of (by rfl) ?_
        exact s_sto (f := Ty78.cells) (z := m.fMaintainers[j]) rfl (F699.e (.pointer (some (ad643.add (j * 4))))) (F699.e (.agg (zq4 m.fMaintainers[j]))) hA643 rfl S699 pcs_len (fun x => x.len) hlt_j (by kernel_rfl) rfl (Ty78.one _) rfl
       ·intro w702 M702
        intro a702 F702 S702
        refine obl_of (by rfl) ?_
        exact s_p F702 (v := .bool false) (by kernel_rfl) (by kernel_rfl) (by kernel_rfl) S702
      ·rintro _ _ rfl
       intro a705 w704 F705 S704
       have S706 : Sp R w704 (SA.own (.slice A631 m.fMaintainers.length c631) 78 4 m.fMaintainers.length (flatC Ty78.cells ((pcs m.fMaintainers j).set j m.fMaintainers[j])) :: SA.blk g652 78 (zq4 m.fMaintainers[j]) :: SA.blk g1 26 (zq24 m B173 b173 B179 b179 A631 c631) :: SA.own (.slice B179 (cleansF m.fKeywords).length b179) 9 1 ((cleansF m.fKeywords).length) (strs (cleansF m.fKeywords)) :: SA.own (.slice B173 (cleansF m.fSources).length b173) 9 1 ((cleansF m.fSources).length) (strs (cleansF m.fSources)) :: SA.blk g3 26 zq8 :: L) := S704
       refine wpList_nil ?_
       refine hK659 _ _ ?_; clear hK659 K659
       refine wp_seq_k fun K707 hK707 => ?_
       refine wp_region_lit ?_
       refine op_q F705 (.bool false) ?_; intro a708 F708
       refine op_q F708 (.bool true) ?_; intro a709 F709
       refine wpList_nil ?_
       refine hK707 _ _ ?_; clear hK707 K707
       refine wp_cond_true (F709.ev (by kernel_rfl)) ?_
       refine wp_seq_k fun K710 hK710 => ?_
       refine wp_region_lit ?_
       refine op_rq (v := .agg (zq24 m B173 b173 B179 b179 A631 c631)) F709 (r_ldm rfl (F709.e (.pointer (some ⟨g1, 0, none⟩))) (S706.bk 2 rfl) 15 (by kernel_rfl) Try.underlying26 rfl (by kernel_rfl) (v := (zq24 m B173 b173 B179 b179 A631 c631)) (by kernel_rfl)) ?_; intro a711 F711
       refine op_sq0 F711 (s_stb rfl (F711.e (.pointer (some ⟨g3, 0, none⟩))) (F711.e (.agg (zq24 m B173 b173 B179 b179 A631 c631))) S706.p5 (by kernel_rfl) rfl (by kernel_rfl)) ?_
       rintro _ _ w712 rfl S712 F712
       refine op_q F712 (.int .i64 7) ?_; intro a713 F713
       refine wpList_nil ?_
       refine hK710 _ _ ?_; clear hK710 K710
       refine wp_ret ?_
       refine ret_in ?_
       refine ret_then ?_
       refine ret_then ?_
       refine ret_in ?_
       refine ret_then ?_
       have S714 : Sp R w712 (SA.cmR 7 { m with fName := cleanF m.fName, fHome := cleanF m.fHome, fVersion := m.fVersion, fDescription := cleanF m.fDescription, fIcon := cleanF m.fIcon, fAPIVersion := m.fAPIVersion, fCondition := cleanF m.fCondition, fTags := cleanF m.fTags, fAppVersion := cleanF m.fAppVersion, fKubeVersion := cleanF m.fKubeVersion, fType := m.fType, fSources_a := B173, fSources_c := b173, fSources := cleansF m.fSources, fKeywords_a := B179, fKeywords_c := b179, fKeywords := cleansF m.fKeywords, fMaintainers_a := A631, fMaintainers_c := c631, fDependencies_a := m.fDependencies_a, fDependencies_c := m.fDependencies_c } :: SA.blk g3 26 (zq24 m B173 b173 B179 b179 A631 c631) :: SA.own (.slice A631 m.fMaintainers.length c631) 78 4 m.fMaintainers.length (flatC Ty78.cells ((pcs m.fMaintainers j).set j m.fMaintainers[j])) :: SA.blk g652 78 (zq4 m.fMaintainers[j]) :: SA.blk g1 26 (zq24 m B173 b173 B179 b179 A631 c631) :: SA.own (.slice B179 (cleansF m.fKeywords).length b179) 9 1 ((cleansF m.fKeywords).length) (strs (cleansF m.fKeywords)) :: SA.own (.slice B173 (cleansF m.fSources).length b173) 9 1 ((cleansF m.fSources).length) (strs (cleansF m.fSources)) :: L) := Sp.emp S712
       refine (F713.resC (results2 Try.results60 (F713.rvc (p := ⟨g3, 0, none⟩) (by kernel_rfl) (ld_mid (S712.bk 0 rfl) 15 (by kernel_rfl) Try.underlying26 rfl (by kernel_rfl) (v := (zq24 m B173 b173 B179 b179 A631 c631)) (by kernel_rfl))) (F713.rvt (v := .int .i64 7) (by kernel_rfl))) ?_).1
       exact ⟨{ m with fName := cleanF m.fName, fHome := cleanF m.fHome, fVersion := m.fVersion, fDescription := cleanF m.fDescription, fIcon := cleanF m.fIcon, fAPIVersion := m.fAPIVersion, fCondition := cleanF m.fCondition, fTags := cleanF m.fTags, fAppVersion := cleanF m.fAppVersion, fKubeVersion := cleanF m.fKubeVersion, fType := m.fType, fSources_a := B173, fSources_c := b173, fSources := cleansF m.fSources, fKeywords_a := B179, fKeywords_c := b179, fKeywords := cleansF m.fKeywords, fMaintainers_a := A631, fMaintainers_c := c631, fDependencies_a := m.fDependencies_a, fDependencies_c := m.fDependencies_c }, 7, rfl, S714.p1.drop.p1.drop.p1.drop.p1.drop.p1.drop.p1.drop, (what_7 hw1 hlt_j hdn).symm, ⟨fun _ h => by omega, fun h => by omega⟩⟩
     ·skip
      refine wp_region_sepF (L0 := SA.blk g652 78 (zq4 m.fMaintainers[j]) :: SA.blk g1 26 (zq24 m B173 b173 B179 b179 A631 c631) :: SA.own (.slice B179 (cleansF m.fKeywords).length b179) 9 1 ((cleansF m.fKeywords).length) (strs (cleansF m.fKeywords)) :: SA.own (.slice B173 (cleansF m.fSources).length b173) 9 1 ((cleansF m.fSources).length) (strs (cleansF m.fSources)) :: SA.blk g3 26 zq8 :: L) [some [], some [(0, 119)], some [], some [], some [(3, 122)], some [(4, 123)], some [(5, 118)], some [(5, 118)], some [(1, 120), (2, 121)], some [(6, 124), (8, 126)], some [(7, 125)]] [.v 119 (.pointer (some ⟨g1, 13, none⟩)), .v 120 (.slice A631 m.fMaintainers.length c631), .v 121 (.int .i64 (↑j)), .v 122 (.agg (zq4 m.fMaintainers[j])), .v 123 (.tuple (zq26 m.fMaintainers[j])), .v 118 (.tuple (zq26 m.fMaintainers[j])), .v 124 (.agg (zq19 m.fMaintainers[j])), .v 125 (.bool true), .v 126 (.pointer (some (ad643.add (j * 4)))), .n (SA.own (.slice A631 m.fMaintainers.length c631) 78 4 m.fMaintainers.length (flatC Ty78.cells (pcs m.fMaintainers j))) (fun _ _ AA => AA = SA.own (.slice A631 m.fMaintainers.length c631) 78 4 m.fMaintainers.length (flatC Ty78.cells (pcs m.fMaintainers (j + 1)))), .v 10 (.bool true)] [] F658 rfl (by kernel_rfl) S656.p2 ?_ ?_
      ·refine ⟨?_, ?_, ?_, ?_, ?_, ?_, ?_, ?_, ?_, ?_, ?_, trivial⟩
       ·intro w737 M737
        intro a737 F737 S737
        refine obl_of (by rfl) ?_
        exact s_p F737 (v := .pointer (some ⟨g1, 13, none⟩)) (by kernel_rfl) (by kernel_rfl) (by kernel_rfl) S737
       ·intro w738 M738
        intro a738 F738 S738
        refine obl_of (by rfl) ?_
        exact s_r (v := .slice A631 m.fMaintainers.length c631) (r_ld rfl (F738.e (.pointer (some ⟨g1, 13, none⟩))) (v := .slice A631 m.fMaintainers.length c631) (((Sp.dropM S738.drop).bk 1 rfl).cell 13) Try.underlying23 rfl) S738
       ·intro w740 M740
        intro a740 F740 S740
        refine obl_of (by rfl) ?_
        exact s_p F740 (v := .int .i64 (↑j)) (by kernel_rfl) (by kernel_rfl) (by kernel_rfl) S740
       ·intro w741 M741
        intro a741 F741 S741
        refine obl_of (by rfl) ?_
        exact s_r (v := .agg (zq4 m.fMaintainers[j])) (r_ldm rfl (F741.e (.pointer (some ⟨g652, 0, none⟩))) ((Sp.dropM S741.drop).bk 0 rfl) 4 (by kernel_rfl) Try.underlying78 rfl (by kernel_rfl) (v := (zq4 m.fMaintainers[j])) (by kernel_rfl)) S741
       ·intro w742 M742
        intro a742 F742 S742
        refine obl_of (by rfl) ?_
        refine s_c F742 (f := 121) (args := #[.agg (zq4 m.fMaintainers[j])]) (by kernel_rfl) (by kernel_rfl) (by kernel_rfl) (chPersonS_sp m.fMaintainers[j] _ _ _ S742.drop (by first | omega | (simp; done) | (simp; omega)) (by first | omega | (simp; done) | (simp; omega)) (by first | omega | (simp; done) | (simp; omega)) (by with_reducible assumption)) ?_
        rintro _ _ ⟨rfl, S744⟩
        exact ⟨_, _, rfl, ⟨rfl, rfl⟩, S744.emp⟩
       ·intro w745 M745
        intro a745 F745 S745
        refine obl_of (by rfl) ?_
        exact s_p F745 (v := .tuple (zq26 m.fMaintainers[j])) (by kernel_rfl) (by kernel_rfl) (by kernel_rfl) S745
       ·intro w747 M747
        intro a747 F747 S747
        refine obl_of (by rfl) ?_
        exact s_p F747 (v := .agg (zq19 m.fMaintainers[j])) (by kernel_rfl) (by kernel_rfl) (by kernel_rfl) S747
       ·intro w749 M749
        intro a749 F749 S749
        refine obl_of (by rfl) ?_
        exact s_p F749 (v := .bool true) (by kernel_rfl) (by kernel_rfl) (by kernel_rfl) S749
       ·intro w751 M751
        intro a751 F751 S751
        refine obl_of (by rfl) ?_
        exact s_r (v := .pointer (some (ad643.add (j * 4)))) (r_ix rfl Try.underlying23 4 (by kernel_rfl) (F751.e (.slice A631 m.fMaintainers.length c631)) hA643 (F751.e (.int .i64 (↑j))) j (by first | rfl | omega | simp) (by first | omega | (simp; done) | (simp; omega)) (rfl)) S751
       ·intro w754 M754
        intro a754 F754 S754
        refine obl_of (by rfl) ?_
        exact s_sto (f := Ty78.cells) (z := (perC m.fMaintainers[j])) rfl (F754.e (.pointer (some (ad643.add (j * 4))))) (F754.e (.agg (zq19 m.fMaintainers[j]))) hA643 rfl S754 pcs_len (fun x => x.len) hlt_j (by kernel_rfl) rfl (Ty78.one _) (pcs_set hlt_j)
       ·intro w757 M757
        intro a757 F757 S757
        refine obl_of (by rfl) ?_
        exact s_p F757 (v := .bool true) (by kernel_rfl) (by kernel_rfl) (by kernel_rfl) S757
      ·rintro _ _ rfl
       intro a760 w759 F760 S759
       have S761 : Sp R w759 (SA.own (.slice A631 m.fMaintainers.length c631) 78 4 m.fMaintainers.length (flatC Ty78.cells (pcs m.fMaintainers (j + 1))) :: SA.blk g652 78 (zq4 m.fMaintainers[j]) :: SA.blk g1 26 (zq24 m B173 b173 B179 b179 A631 c631) :: SA.own (.slice B179 (cleansF m.fKeywords).length b179) 9 1 ((cleansF m.fKeywords).length) (strs (cleansF m.fKeywords)) :: SA.own (.slice B173 (cleansF m.fSources).length b173) 9 1 ((cleansF m.fSources).length) (strs (cleansF m.fSources)) :: SA.blk g3 26 zq8 :: L) := S759
       refine wpList_nil ?_
       refine hK659 _ _ ?_; clear hK659 K659
       refine wp_seq_k fun K762 hK762 => ?_
       refine wp_region_lit ?_
       refine op_q F760 (.bool true) ?_; intro a763 F763
       refine op_q F763 (.bool false) ?_; intro a764 F764
       refine wpList_nil ?_
       refine hK762 _ _ ?_; clear hK762 K762
       refine wp_cond_false (F764.ev (by kernel_rfl)) ?_
       refine wp_skip ?_
       refine hK648 _ _ ?_; clear hK648 K648
       refine wp_region_lit ?_
       refine op_rq (v := .int .i64 (↑(j + 1))) F764 (r_add (z := ↑(j + 1)) rfl (F764.e (.int .i64 (↑j))) (F764.e (.int .i64 1)) (wr64 (by omega) (by omega) (by omega))) ?_; intro a765 F765
       refine op_q F765 (.int .i64 (↑(j + 1))) ?_; intro a766 F766
       refine wpList_nil ?_
       exact hK642 _ _ _ (by first | omega | (simp; omega)) ⟨j + 1, rfl, (F766.kk 1 (F766.kk 2 (F766.kk 111 (F766.kk 112 (F766.kk 113 F766.nil))))), S761.p1.drop.p4.p4.p4.p3.p4, (by first | omega | (with_reducible assumption) | (simp; done)), (fun i hi h => (Nat.lt_succ_iff_lt_or_eq.1 h).elim (hpn i hi) (fun e => by subst e; exact hdn))⟩
    ·have hc_j : decide ((↑j : Int) < ↑m.fMaintainers.length) = false := by first | (simp; done) | (simp; omega)
     obtain rfl : j = m.fMaintainers.length := by omega
     rw [pcs_all] at S642
     have hpa : ∀ p ∈ m.fMaintainers, p.fNil = false := fun p hp => by obtain ⟨i, hi, rfl⟩ := List.mem_iff_getElem.1 hp; exact hpn i hi hi
     refine wp_seq_k fun K767 hK767 => ?_
     refine wp_region_lit ?_
     refine op_q F642 (.bool (decide ((↑m.fMaintainers.length : Int) < ↑m.fMaintainers.length))) ?_; intro a768 F768
     have F769 := F768.sb 114 (by kernel_rfl) hc_j
     refine wpList_nil ?_
     refine hK767 _ _ ?_; clear hK767 K767
     refine wp_seq_k fun K770 hK770 => ?_
     refine wp_cond_false (F769.ev (by kernel_rfl)) ?_
     refine wp_exit ?_
     refine ex_then ?_; clear hK770 K770
     refine ex_then ?_
     refine ex_in ?_
     refine hK635 _ _ ?_; clear hK635 K635
     refine wp_seq_k fun K771 hK771 => ?_
     refine wp_region_lit ?_
     refine op_sq F769 (s_news F769 80 #[] 0 (by kernel_rfl) (by kernel_rfl) (by kernel_rfl) S642) ?_
     rintro _ _ w773 ⟨g771, rfl, rfl⟩ S773 a773 F773
     refine op_q F773 (.pointer (some ⟨g1, 14, none⟩)) ?_; intro a774 F774
     refine op_rq (v := .slice m.fDependencies_a m.fDependencies.length m.fDependencies_c) F774 (r_ld rfl (F774.e (.pointer (some ⟨g1, 14, none⟩))) (v := .slice m.fDependencies_a m.fDependencies.length m.fDependencies_c) ((S773.bk 1 rfl).cell 14) Try.underlying24 rfl) ?_; intro a775 F775
     refine op_sq F775 (s_app rfl Try.underlying24 7 _ tin80 rfl rfl (F775.e (.slice (some ⟨g771, 0, none⟩) 0 0)) (Sp.ofblk (sz := 7) (m := 0) (l := []) S773 rfl (by omega) rfl) (flatC Ty80.cells m.fDependencies) (F775.e (.slice m.fDependencies_a m.fDependencies.length m.fDependencies_c)) (Rows.flat (k3 _ S773.drop.drop.drop.drop.drop.drop) (by decide) Ty80.len (by omega)) (flatC_len Ty80.len) (flatC_one Ty80.one) (by omega) (by omega) (n' := m.fDependencies.length) (by omega) (cs' := flatC Ty80.cells m.fDependencies) (by first | rfl | simp)) ?_
     rintro _ _ w777 ⟨A776, c776, rfl, rfl⟩ S777 a777 F777
     refine op_q F777 (.pointer (some ⟨g1, 14, none⟩)) ?_; intro a778 F778
     refine op_sq0 F778 (s_st rfl (F778.e (.pointer (some ⟨g1, 14, none⟩))) (F778.e (.slice A776 m.fDependencies.length c776)) S777.p1 (by kernel_rfl) rfl rfl rfl (cs := (zq27 m B173 b173 B179 b179 A631 c631 A776 c776)) (by kernel_rfl)) ?_
     rintro _ _ w779 rfl S779 F779
     refine wpList_nil ?_
     refine hK771 _ _ ?_; clear hK771 K771
     refine wp_seq_k fun K780 hK780 => ?_
     refine wp_region_lit ?_
     refine op_q F779 (.slice none 0 0) ?_; intro a781 F781
     refine wpList_nil ?_
     refine hK780 _ _ ?_; clear hK780 K780
     refine wp_seq_k fun K782 hK782 => ?_
     refine wp_seq_k fun K783 hK783 => ?_
     refine wp_region_lit ?_
     refine op_q F781 (.pointer (some ⟨g1, 14, none⟩)) ?_; intro a784 F784
     refine op_rq (v := .slice A776 m.fDependencies.length c776) F784 (r_ld rfl (F784.e (.pointer (some ⟨g1, 14, none⟩))) (v := .slice A776 m.fDependencies.length c776) ((S779.bk 0 rfl).cell 14) Try.underlying24 rfl) ?_; intro a785 F785
     refine op_q F785 (.int .i64 (↑m.fDependencies.length)) ?_; intro a786 F786
     refine op_q F786 (.int .i64 0) ?_; intro a787 F787
     refine wpList_nil ?_
     refine hK783 _ _ ?_; clear hK783 K783
     refine wp_block ?_
     have S788 : Sp R w779 (SA.own (.slice A776 m.fDependencies.length c776) 80 7 m.fDependencies.length (flatC Ty80.cells ([] ++ m.fDependencies.drop 0)) :: SA.blk g1 26 (zq27 m B173 b173 B179 b179 A631 c631 A776 c776) :: SA.own (.slice A631 m.fMaintainers.length c631) 78 4 m.fMaintainers.length (flatC Ty78.cells (m.fMaintainers.map perC)) :: SA.own (.slice B179 (cleansF m.fKeywords).length b179) 9 1 ((cleansF m.fKeywords).length) (strs (cleansF m.fKeywords)) :: SA.own (.slice B173 (cleansF m.fSources).length b173) 9 1 ((cleansF m.fSources).length) (strs (cleansF m.fSources)) :: SA.blk g3 26 zq8 :: L) := S779.p1
     have S789 : Sp R w779 (SA.stars ([].map SA.tg) :: SA.own (.slice none 0 0) 9 1 0 ([]) :: SA.own (.slice A776 m.fDependencies.length c776) 80 7 m.fDependencies.length (flatC Ty80.cells ([] ++ m.fDependencies.drop 0)) :: SA.blk g1 26 (zq27 m B173 b173 B179 b179 A631 c631 A776 c776) :: SA.own (.slice A631 m.fMaintainers.length c631) 78 4 m.fMaintainers.length (flatC Ty78.cells (m.fMaintainers.map perC)) :: SA.own (.slice B179 (cleansF m.fKeywords).length b179) 9 1 ((cleansF m.fKeywords).length) (strs (cleansF m.fKeywords)) :: SA.own (.slice B173 (cleansF m.fSources).length b173) 9 1 ((cleansF m.fSources).length) (strs (cleansF m.fSources)) :: SA.blk g3 26 zq8 :: L) := (Sp.stars (l := [])).2 (Sp.nilown (e := 9) (sz := 1) S788)
     refine fw_loop (fun m' a' w' => ∃ Bm : Option Addr, ∃ bm : Nat, ∃ met : List ByteArray, ∃ ds : List Ty80, ∃ j : Nat, m.fDependencies.length - j = m' ∧ Fr 184 [] a' [(1, .pointer (some ⟨g1, 0, none⟩)), (2, .pointer (some ⟨g3, 0, none⟩)), (11, .slice Bm met.length bm), (137, .slice A776 m.fDependencies.length c776), (138, .int .i64 (↑m.fDependencies.length)), (139, .int .i64 (↑j))] ∧ Sp R w' (SA.blk g1 26 (zq27 m B173 b173 B179 b179 A631 c631 A776 c776) :: SA.own (.slice A776 m.fDependencies.length c776) 80 7 m.fDependencies.length (flatC Ty80.cells (ds ++ m.fDependencies.drop j)) :: SA.stars (ds.map SA.tg) :: SA.own (.slice Bm met.length bm) 9 1 met.length (strs met) :: SA.own (.slice A631 m.fMaintainers.length c631) 78 4 m.fMaintainers.length (flatC Ty78.cells (m.fMaintainers.map perC)) :: SA.own (.slice B179 (cleansF m.fKeywords).length b179) 9 1 ((cleansF m.fKeywords).length) (strs (cleansF m.fKeywords)) :: SA.own (.slice B173 (cleansF m.fSources).length b173) 9 1 ((cleansF m.fSources).length) (strs (cleansF m.fSources)) :: SA.blk g3 26 zq8 :: L) ∧ (j ≤ m.fDependencies.length) ∧ (ds.length = j) ∧ (ds.map depS = (m.fDependencies.take j).map (fun d => depC d none 0)) ∧ (met.length = j) ∧ (whatD m.fDependencies [] = whatD (m.fDependencies.drop j) met)) _ ⟨none, 0, [], [], 0, rfl, (F787.kk 1 (F787.kk 2 (F787.kk 11 (F787.kk 137 (F787.kk 138 (F787.kk 139 F787.nil)))))), S789.p7.p7.p7.p7.p5.p5.p6.p7, (by first | omega | (with_reducible assumption) | (simp; done)), rfl, rfl, rfl, rfl⟩ ?_
     rintro m790 a790 w790 ⟨Bm, bm, met, ds, j, hm790, F790, S790, hj, hdl, hds, hml, hwh⟩ K790 hK790
     by_cases hlt_j : j < m.fDependencies.length
     ·have hc_j : decide ((↑j : Int) < ↑m.fDependencies.length) = true := by first | (simp; done) | (simp; omega)
      obtain ⟨⟨hq1, hq2, hq3, hq4, hq5⟩, hx, hxn⟩ := hzD _ (List.getElem_mem hlt_j)
      have htg : Rf R L fun w => Sl w m.fDependencies[j].fTags_a (strs m.fDependencies[j].fTags) := fun w S => (h0 w S).2.2.2.2 _ (List.getElem_mem hlt_j)
      obtain ⟨ad791, hA791⟩ := (own_rowsT1 (S790.ow 1 rfl) (by simp; omega) (by decide) (fun x => x.len) (by omega)).addr (by simp; omega)
      refine wp_seq_k fun K792 hK792 => ?_
      refine wp_region_lit ?_
      refine op_q F790 (.bool (decide ((↑j : Int) < ↑m.fDependencies.length))) ?_; intro a793 F793
      have F794 := F793.sb 140 (by kernel_rfl) hc_j
      refine wpList_nil ?_
      refine hK792 _ _ ?_; clear hK792 K792
      refine wp_seq_k fun K795 hK795 => ?_
      refine wp_cond_true (F794.ev (by kernel_rfl)) ?_
      refine wp_skip ?_
      refine hK795 _ _ ?_; clear hK795 K795
      refine wp_seq_k fun K796 hK796 => ?_
      refine wp_block ?_
      refine wp_seq_k fun K797 hK797 => ?_
      refine wp_region_lit ?_
      refine op_q F794 (.int .i64 (↑j)) ?_; intro a798 F798
      refine op_rq (v := .pointer (some (ad791.add (j * 7)))) F798 (r_ix rfl Try.underlying24 7 (by kernel_rfl) (F798.e (.slice A776 m.fDependencies.length c776)) hA791 (F798.e (.int .i64 (↑j))) j (by first | rfl | omega | simp) (by first | omega | (simp; done) | (simp; omega)) (rfl)) ?_; intro a799 F799
      refine op_rq (v := .agg (zq5 m.fDependencies[j])) F799 (r_ldR rfl (F799.e (.pointer (some (ad791.add (j * 7))))) (cs := [.bool m.fDependencies[j].fNil, .string m.fDependencies[j].fName, .string m.fDependencies[j].fVersion, .string m.fDependencies[j].fRepository, .string m.fDependencies[j].fCondition, .slice m.fDependencies[j].fTags_a m.fDependencies[j].fTags.length m.fDependencies[j].fTags_c, .string m.fDependencies[j].fAlias]) ((own_rowsT1 (S790.ow 1 rfl) (by simp; omega) (by decide) (fun x => x.len) (by omega)).elA hA791 (j := j) (row := m.fDependencies[j].cells) (by rw [List.getElem?_map, dcs_get hdl hlt_j]; rfl)) Try.underlying80 rfl (by kernel_rfl) (v := (zq5 m.fDependencies[j])) (by kernel_rfl)) ?_; intro a800 F800
      refine op_sq F800 (s_newp F800 80 zq6 (by kernel_rfl) (by kernel_rfl) (by kernel_rfl) S790) ?_
      rintro _ _ w802 ⟨g800, rfl, rfl⟩ S802 a802 F802
      refine op_q F802 (.int .i64 (↑j)) ?_; intro a803 F803
      refine op_sq0 F803 (s_stb rfl (F803.e (.pointer (some ⟨g800, 0, none⟩))) (F803.e (.agg (zq5 m.fDependencies[j]))) S802 (by kernel_rfl) rfl (by kernel_rfl)) ?_
      rintro _ _ w804 rfl S804 F804
      refine wpList_nil ?_
      refine hK797 _ _ ?_; clear hK797 K797
      refine wp_seq_k fun K805 hK805 => ?_
      refine wp_region_lit ?_
      refine op_q F804 (.bool false) ?_; intro a806 F806
      refine wpList_nil ?_
      refine hK805 _ _ ?_; clear hK805 K805
      refine wp_seq_k fun K807 hK807 => ?_
      refine wp_seq_k fun K808 hK808 => ?_
      rcases btf (m.fDependencies[j].fNil) with hdn | hdn
      ·skip
       refine wp_region_sepF (L0 := SA.blk g800 80 (zq5 m.fDependencies[j]) :: SA.blk g1 26 (zq27 m B173 b173 B179 b179 A631 c631 A776 c776) :: SA.stars (ds.map SA.tg) :: SA.own (.slice Bm met.length bm) 9 1 met.length (strs met) :: SA.own (.slice A631 m.fMaintainers.length c631) 78 4 m.fMaintainers.length (flatC Ty78.cells (m.fMaintainers.map perC)) :: SA.own (.slice B179 (cleansF m.fKeywords).length b179) 9 1 ((cleansF m.fKeywords).length) (strs (cleansF m.fKeywords)) :: SA.own (.slice B173 (cleansF m.fSources).length b173) 9 1 ((cleansF m.fSources).length) (strs (cleansF m.fSources)) :: SA.blk g3 26 zq8 :: L) [some [], some [(0, 145)], some [], some [], some [(3, 148)], some [(4, 149)], some [(5, 144)], some [(5, 144)], some [(1, 146), (2, 147)], some [(6, 150), (8, 152)], some [(7, 151)]] [.v 145 (.pointer (some ⟨g1, 14, none⟩)), .v 146 (.slice A776 m.fDependencies.length c776), .v 147 (.int .i64 (↑j)), .v 148 (.agg (zq5 m.fDependencies[j])), .v 149 (.tuple (zq28 m.fDependencies[j])), .v 144 (.tuple (zq28 m.fDependencies[j])), .v 150 (.agg (zq0 m.fDependencies[j])), .v 151 (.bool false), .v 152 (.pointer (some (ad791.add (j * 7)))), .n (SA.own (.slice A776 m.fDependencies.length c776) 80 7 m.fDependencies.length (flatC Ty80.cells (ds ++ m.fDependencies.drop j))) (fun _ _ AA => AA = SA.own (.slice A776 m.fDependencies.length c776) 80 7 m.fDependencies.length (flatC Ty80.cells ((ds ++ m.fDependencies.drop j).set j m.fDependencies[j]))), .v 14 (.bool false)] [] F806 rfl (by kernel_rfl) S804.p2 ?_ ?_
       ·refine ⟨?_, ?_, ?_, ?_, ?_, ?_, ?_, ?_, ?_, ?_, ?_, trivial⟩
        ·intro w831 M831
         intro a831 F831 S831
         refine obl_of (by rfl) ?_
         exact s_p F831 (v := .pointer (some ⟨g1, 14, none⟩)) (by kernel_rfl) (by kernel_rfl) (by kernel_rfl) S831
        ·intro w832 M832
         intro a832 F832 S832
         refine obl_of (by rfl) ?_
         exact s_r (v := .slice A776 m.fDependencies.length c776) (r_ld rfl (F832.e (.pointer (some ⟨g1, 14, none⟩))) (v := .slice A776 m.fDependencies.length c776) (((Sp.dropM S832.drop).bk 1 rfl).cell 14) Try.underlying24 rfl) S832
        ·intro w834 M834
         intro a834 F834 S834
         refine obl_of (by rfl) ?_
         exact s_p F834 (v := .int .i64 (↑j)) (by kernel_rfl) (by kernel_rfl) (by kernel_rfl) S834
        ·intro w835 M835
         intro a835 F835 S835
         refine obl_of (by rfl) ?_
         exact s_r (v := .agg (zq5 m.fDependencies[j])) (r_ldm rfl (F835.e (.pointer (some ⟨g800, 0, none⟩))) ((Sp.dropM S835.drop).bk 0 rfl) 7 (by kernel_rfl) Try.underlying80 rfl (by kernel_rfl) (v := (zq5 m.fDependencies[j])) (by kernel_rfl)) S835
        ·intro w836 M836
         intro a836 F836 S836
         refine obl_of (by rfl) ?_
         refine s_c F836 (f := 122) (args := #[.agg (zq5 m.fDependencies[j])]) (by kernel_rfl) (by kernel_rfl) (by kernel_rfl) (chDepS_nil m.fDependencies[j] _ _ _ S836.drop (by with_reducible assumption)) ?_
         rintro _ _ ⟨rfl, S838⟩
         exact ⟨_, _, rfl, ⟨rfl, rfl⟩, S838.emp⟩
        ·intro w839 M839
         intro a839 F839 S839
         refine obl_of (by rfl) ?_
         exact s_p F839 (v := .tuple (zq28 m.fDependencies[j])) (by kernel_rfl) (by kernel_rfl) (by kernel_rfl) S839
        ·intro w841 M841
         intro a841 F841 S841
         refine obl_of (by rfl) ?_
         exact s_p F841 (v := .agg (zq0 m.fDependencies[j])) (by kernel_rfl) (by kernel_rfl) (by kernel_rfl) S841
        ·intro w843 M843
         intro a843 F843 S843
         refine obl_of (by rfl) ?_
         exact s_p F843 (v := .bool false) (by kernel_rfl) (by kernel_rfl) (by kernel_rfl) S843
        ·intro w845 M845
         intro a845 F845 S845
         refine obl_of (by rfl) ?_
         exact s_r (v := .pointer (some (ad791.add (j * 7)))) (r_ix rfl Try.underlying24 7 (by kernel_rfl) (F845.e (.slice A776 m.fDependencies.length c776)) hA791 (F845.e (.int .i64 (↑j))) j (by first | rfl | omega | simp) (by first | omega | (simp; done) | (simp; omega)) (rfl)) S845
        ·intro w848 M848
         intro a848 F848 S848
         refine obl_of (by rfl) ?_
         exact s_sto (f := Ty80.cells) (z := m.fDependencies[j]) rfl (F848.e (.pointer (some (ad791.add (j * 7))))) (F848.e (.agg (zq0 m.fDependencies[j]))) hA791 rfl S848 (by simp; omega) (fun x => x.len) hlt_j (by kernel_rfl) rfl (Ty80.one _) rfl
        ·intro w851 M851
         intro a851 F851 S851
         refine obl_of (by rfl) ?_
         exact s_p F851 (v := .bool false) (by kernel_rfl) (by kernel_rfl) (by kernel_rfl) S851
       ·rintro _ _ rfl
        intro a854 w853 F854 S853
        have S855 : Sp R w853 (SA.own (.slice A776 m.fDependencies.length c776) 80 7 m.fDependencies.length (flatC Ty80.cells ((ds ++ m.fDependencies.drop j).set j m.fDependencies[j])) :: SA.blk g800 80 (zq5 m.fDependencies[j]) :: SA.blk g1 26 (zq27 m B173 b173 B179 b179 A631 c631 A776 c776) :: SA.stars (ds.map SA.tg) :: SA.own (.slice Bm met.length bm) 9 1 met.length (strs met) :: SA.own (.slice A631 m.fMaintainers.length c631) 78 4 m.fMaintainers.length (flatC Ty78.cells (m.fMaintainers.map perC)) :: SA.own (.slice B179 (cleansF m.fKeywords).length b179) 9 1 ((cleansF m.fKeywords).length) (strs (cleansF m.fKeywords)) :: SA.own (.slice B173 (cleansF m.fSources).length b173) 9 1 ((cleansF m.fSources).length) (strs (cleansF m.fSources)) :: SA.blk g3 26 zq8 :: L) := S853
        refine wpList_nil ?_
        refine hK808 _ _ ?_; clear hK808 K808
        refine wp_seq_k fun K856 hK856 => ?_
        refine wp_region_lit ?_
        refine op_q F854 (.bool false) ?_; intro a857 F857
        refine op_q F857 (.bool true) ?_; intro a858 F858
        refine wpList_nil ?_
        refine hK856 _ _ ?_; clear hK856 K856
        refine wp_cond_true (F858.ev (by kernel_rfl)) ?_
        refine wp_seq_k fun K859 hK859 => ?_
        refine wp_region_lit ?_
        refine op_rq (v := .agg (zq27 m B173 b173 B179 b179 A631 c631 A776 c776)) F858 (r_ldm rfl (F858.e (.pointer (some ⟨g1, 0, none⟩))) (S855.bk 2 rfl) 15 (by kernel_rfl) Try.underlying26 rfl (by kernel_rfl) (v := (zq27 m B173 b173 B179 b179 A631 c631 A776 c776)) (by kernel_rfl)) ?_; intro a860 F860
        refine op_sq0 F860 (s_stb rfl (F860.e (.pointer (some ⟨g3, 0, none⟩))) (F860.e (.agg (zq27 m B173 b173 B179 b179 A631 c631 A776 c776))) S855.p8 (by kernel_rfl) rfl (by kernel_rfl)) ?_
        rintro _ _ w861 rfl S861 F861
        refine op_q F861 (.int .i64 8) ?_; intro a862 F862
        refine wpList_nil ?_
        refine hK859 _ _ ?_; clear hK859 K859
        refine wp_ret ?_
        refine ret_then ?_
        refine ret_in ?_
        refine ret_then ?_
        refine ret_then ?_
        refine ret_in ?_
        refine ret_then ?_
        have S863 : Sp R w861 (SA.cmR 8 { m with fName := cleanF m.fName, fHome := cleanF m.fHome, fVersion := m.fVersion, fDescription := cleanF m.fDescription, fIcon := cleanF m.fIcon, fAPIVersion := m.fAPIVersion, fCondition := cleanF m.fCondition, fTags := cleanF m.fTags, fAppVersion := cleanF m.fAppVersion, fKubeVersion := cleanF m.fKubeVersion, fType := m.fType, fSources_a := B173, fSources_c := b173, fSources := cleansF m.fSources, fKeywords_a := B179, fKeywords_c := b179, fKeywords := cleansF m.fKeywords, fMaintainers_a := A631, fMaintainers_c := c631, fDependencies_a := A776, fDependencies_c := c776 } :: SA.blk g3 26 (zq27 m B173 b173 B179 b179 A631 c631 A776 c776) :: SA.own (.slice A776 m.fDependencies.length c776) 80 7 m.fDependencies.length (flatC Ty80.cells ((ds ++ m.fDependencies.drop j).set j m.fDependencies[j])) :: SA.blk g800 80 (zq5 m.fDependencies[j]) :: SA.blk g1 26 (zq27 m B173 b173 B179 b179 A631 c631 A776 c776) :: SA.stars (ds.map SA.tg) :: SA.own (.slice Bm met.length bm) 9 1 met.length (strs met) :: SA.own (.slice A631 m.fMaintainers.length c631) 78 4 m.fMaintainers.length (flatC Ty78.cells (m.fMaintainers.map perC)) :: SA.own (.slice B179 (cleansF m.fKeywords).length b179) 9 1 ((cleansF m.fKeywords).length) (strs (cleansF m.fKeywords)) :: SA.own (.slice B173 (cleansF m.fSources).length b173) 9 1 ((cleansF m.fSources).length) (strs (cleansF m.fSources)) :: L) := Sp.emp S861
        refine (F862.resC (results2 Try.results60 (F862.rvc (p := ⟨g3, 0, none⟩) (by kernel_rfl) (ld_mid (S861.bk 0 rfl) 15 (by kernel_rfl) Try.underlying26 rfl (by kernel_rfl) (v := (zq27 m B173 b173 B179 b179 A631 c631 A776 c776)) (by kernel_rfl))) (F862.rvt (v := .int .i64 8) (by kernel_rfl))) ?_).1
        exact ⟨{ m with fName := cleanF m.fName, fHome := cleanF m.fHome, fVersion := m.fVersion, fDescription := cleanF m.fDescription, fIcon := cleanF m.fIcon, fAPIVersion := m.fAPIVersion, fCondition := cleanF m.fCondition, fTags := cleanF m.fTags, fAppVersion := cleanF m.fAppVersion, fKubeVersion := cleanF m.fKubeVersion, fType := m.fType, fSources_a := B173, fSources_c := b173, fSources := cleansF m.fSources, fKeywords_a := B179, fKeywords_c := b179, fKeywords := cleansF m.fKeywords, fMaintainers_a := A631, fMaintainers_c := c631, fDependencies_a := A776, fDependencies_c := c776 }, 8, rfl, S863.p1.drop.p1.drop.p1.drop.p1.drop.p1.drop.p1.drop.p1.drop.p1.drop.p1.drop, ((what_D hw1 hpa).trans (hwh.trans (whatD_8 hlt_j (by rw [hdn]; rfl)))).symm, ⟨fun _ h => by omega, fun h => by omega⟩⟩
      ·skip
       refine wp_region_sepF (L0 := SA.blk g800 80 (zq5 m.fDependencies[j]) :: SA.blk g1 26 (zq27 m B173 b173 B179 b179 A631 c631 A776 c776) :: SA.stars (ds.map SA.tg) :: SA.own (.slice Bm met.length bm) 9 1 met.length (strs met) :: SA.own (.slice A631 m.fMaintainers.length c631) 78 4 m.fMaintainers.length (flatC Ty78.cells (m.fMaintainers.map perC)) :: SA.own (.slice B179 (cleansF m.fKeywords).length b179) 9 1 ((cleansF m.fKeywords).length) (strs (cleansF m.fKeywords)) :: SA.own (.slice B173 (cleansF m.fSources).length b173) 9 1 ((cleansF m.fSources).length) (strs (cleansF m.fSources)) :: SA.blk g3 26 zq8 :: L) [some [], some [(0, 145)], some [], some [], some [(3, 148)], some [(3, 148), (4, 149)], some [(3, 148), (4, 149), (5, 144)], some [(3, 148), (4, 149), (5, 144)], some [(1, 146), (2, 147)], some [(3, 148), (4, 149), (5, 144), (6, 150), (8, 152)], some [(7, 151)]] [.v 145 (.pointer (some ⟨g1, 14, none⟩)), .v 146 (.slice A776 m.fDependencies.length c776), .v 147 (.int .i64 (↑j)), .v 148 (.agg (zq5 m.fDependencies[j])), .p 149 (SA.emp) (fun _ vv AA => ∃ B901 : Option Addr, ∃ b901 : Nat, vv = .tuple (zq29 m.fDependencies[j] B901 b901) ∧ AA = SA.own (.slice B901 (cleansF m.fDependencies[j].fTags).length b901) 9 1 ((cleansF m.fDependencies[j].fTags).length) (strs (cleansF m.fDependencies[j].fTags))), .p 144 (SA.emp) (fun env vv AA => ∃ B901x : Option Addr, ∃ b901x : Nat, (env.getD 1 undef) = .tuple (zq29 m.fDependencies[j] B901x b901x) ∧ vv = .tuple (zq29 m.fDependencies[j] B901x b901x) ∧ AA = SA.emp), .p 150 (SA.emp) (fun env vv AA => ∃ B901x : Option Addr, ∃ b901x : Nat, (env.getD 1 undef) = .tuple (zq29 m.fDependencies[j] B901x b901x) ∧ vv = .agg (zq20 m.fDependencies[j] B901x b901x) ∧ AA = SA.emp), .v 151 (.bool (aliasF m.fDependencies[j].fAlias)), .v 152 (.pointer (some (ad791.add (j * 7)))), .n (SA.own (.slice A776 m.fDependencies.length c776) 80 7 m.fDependencies.length (flatC Ty80.cells (ds ++ m.fDependencies.drop j))) (fun env _ AA => ∃ B901x : Option Addr, ∃ b901x : Nat, (env.getD 1 undef) = .tuple (zq29 m.fDependencies[j] B901x b901x) ∧ AA = SA.own (.slice A776 m.fDependencies.length c776) 80 7 m.fDependencies.length (flatC Ty80.cells ((ds ++ [depC m.fDependencies[j] B901x b901x]) ++ m.fDependencies.drop (j + 1)))), .v 14 (.bool (aliasF m.fDependencies[j].fAlias))] [] F806 rfl (by kernel_rfl) S804.p2.emp.emp.emp ?_ ?_
       ·refine ⟨?_, ?_, ?_, ?_, ?_, ?_, ?_, ?_, ?_, ?_, ?_, trivial⟩
        ·intro w894 M894
         intro a894 F894 S894
         refine obl_of (by rfl) ?_
         exact s_p F894 (v := .pointer (some ⟨g1, 14, none⟩)) (by kernel_rfl) (by kernel_rfl) (by kernel_rfl) S894
        ·intro w895 M895
         intro a895 F895 S895
         refine obl_of (by rfl) ?_
         exact s_r (v := .slice A776 m.fDependencies.length c776) (r_ld rfl (F895.e (.pointer (some ⟨g1, 14, none⟩))) (v := .slice A776 m.fDependencies.length c776) (((Sp.dropM S895.drop).bk 1 rfl).cell 14) Try.underlying24 rfl) S895
        ·intro w897 M897
         intro a897 F897 S897
         refine obl_of (by rfl) ?_
         exact s_p F897 (v := .int .i64 (↑j)) (by kernel_rfl) (by kernel_rfl) (by kernel_rfl) S897
        ·intro w898 M898
         intro a898 F898 S898
         refine obl_of (by rfl) ?_
         exact s_r (v := .agg (zq5 m.fDependencies[j])) (r_ldm rfl (F898.e (.pointer (some ⟨g800, 0, none⟩))) ((Sp.dropM S898.drop).bk 0 rfl) 7 (by kernel_rfl) Try.underlying80 rfl (by kernel_rfl) (v := (zq5 m.fDependencies[j])) (by kernel_rfl)) S898
        ·intro w899 M899
         intro a899 F899 S899
         refine obl_of (by rfl) ?_
         refine s_c F899 (f := 122) (args := #[.agg (zq5 m.fDependencies[j])]) (by kernel_rfl) (by kernel_rfl) (by kernel_rfl) (chDepS_some m.fDependencies[j] _ _ _ S899.drop (fun w S => htg w (Sp.dropM S).drop.drop.drop.drop.drop.drop.drop.drop) (by first | omega | (simp; done) | (simp; omega)) (by first | omega | (simp; done) | (simp; omega)) (by first | omega | (simp; done) | (simp; omega)) (by first | omega | (simp; done) | (simp; omega)) (by first | omega | (simp; done) | (simp; omega)) hx (by first | omega | (simp; done) | (simp; omega)) (by with_reducible assumption)) ?_
         rintro _ _ ⟨B901, b901, rfl, S901⟩
         exact ⟨_, _, rfl, ⟨B901, b901, rfl, rfl⟩, S901⟩
        ·intro w902 M902
         rintro _ _ ⟨B901, b901, rfl, rfl⟩ hA904
         intro a902 F902 S902
         refine obl_of (by rfl) ?_
         exact sAt_mono (s_p F902 (v := .tuple (zq29 m.fDependencies[j] B901 b901)) (by kernel_rfl) (by kernel_rfl) (by kernel_rfl) S902) fun _ _ ⟨e1, e2⟩ => ⟨B901, b901, (by kernel_rfl), e1, e2⟩
        ·intro w905 M905
         rintro _ _ ⟨B901, b901, rfl, rfl⟩ hA907
         rintro _ _ ⟨B901x, b901x, e5_1, rfl, rfl⟩ hA908
         have e5_1 := envE_at (v := .tuple (zq29 m.fDependencies[j] B901 b901)) e5_1 (by kernel_rfl)
         obtain ⟨rfl, rfl⟩ : B901 = B901x ∧ b901 = b901x := by cases e5_1; exact ⟨rfl, rfl⟩
         clear e5_1
         intro a905 F905 S905
         refine obl_of (by rfl) ?_
         exact sAt_mono (s_p F905 (v := .agg (zq20 m.fDependencies[j] B901 b901)) (by kernel_rfl) (by kernel_rfl) (by kernel_rfl) S905) fun _ _ ⟨e1, e2⟩ => ⟨B901, b901, (by kernel_rfl), e1, e2⟩
        ·intro w909 M909
         rintro _ _ ⟨B901, b901, rfl, rfl⟩ hA911
         rintro _ _ ⟨B901x, b901x, e5_1, rfl, rfl⟩ hA912
         have e5_1 := envE_at (v := .tuple (zq29 m.fDependencies[j] B901 b901)) e5_1 (by kernel_rfl)
         obtain ⟨rfl, rfl⟩ : B901 = B901x ∧ b901 = b901x := by cases e5_1; exact ⟨rfl, rfl⟩
         clear e5_1
         intro a909 F909 S909
         refine obl_of (by rfl) ?_
         exact s_p F909 (v := .bool (aliasF m.fDependencies[j].fAlias)) (by kernel_rfl) (by kernel_rfl) (by kernel_rfl) S909
        ·intro w913 M913
         intro a913 F913 S913
         refine obl_of (by rfl) ?_
         exact s_r (v := .pointer (some (ad791.add (j * 7)))) (r_ix rfl Try.underlying24 7 (by kernel_rfl) (F913.e (.slice A776 m.fDependencies.length c776)) hA791 (F913.e (.int .i64 (↑j))) j (by first | rfl | omega | simp) (by first | omega | (simp; done) | (simp; omega)) (rfl)) S913
        ·intro w916 M916
         rintro _ _ ⟨B901, b901, rfl, rfl⟩ hA918
         rintro _ _ ⟨B901x, b901x, e5_1, rfl, rfl⟩ hA919
         have e5_1 := envE_at (v := .tuple (zq29 m.fDependencies[j] B901 b901)) e5_1 (by kernel_rfl)
         obtain ⟨rfl, rfl⟩ : B901 = B901x ∧ b901 = b901x := by cases e5_1; exact ⟨rfl, rfl⟩
         clear e5_1
         rintro _ _ ⟨B901x, b901x, e6_1, rfl, rfl⟩ hA920
         have e6_1 := envE_at (v := .tuple (zq29 m.fDependencies[j] B901 b901)) e6_1 (by kernel_rfl)
         obtain ⟨rfl, rfl⟩ : B901 = B901x ∧ b901 = b901x := by cases e6_1; exact ⟨rfl, rfl⟩
         clear e6_1
         intro a916 F916 S916
         refine obl_of (by rfl) ?_
         exact sAt_mono (s_sto (f := Ty80.cells) (z := (depC m.fDependencies[j] B901 b901)) rfl (F916.e (.pointer (some (ad791.add (j * 7))))) (F916.e (.agg (zq20 m.fDependencies[j] B901 b901))) hA791 rfl S916 (by simp; omega) (fun x => x.len) hlt_j (by kernel_rfl) rfl (Ty80.one _) (dcs_set hdl hlt_j)) fun _ _ e1 => ⟨B901, b901, (by kernel_rfl), e1⟩
        ·intro w922 M922
         intro a922 F922 S922
         refine obl_of (by rfl) ?_
         exact s_p F922 (v := .bool (aliasF m.fDependencies[j].fAlias)) (by kernel_rfl) (by kernel_rfl) (by kernel_rfl) S922
       ·rintro _ _ ⟨B901, b901, rfl, rfl⟩
        rintro _ _ ⟨B901x, b901x, e5_1, rfl, rfl⟩
        have e5_1 := envE_at (v := .tuple (zq29 m.fDependencies[j] B901 b901)) e5_1 (by kernel_rfl)
        obtain ⟨rfl, rfl⟩ : B901 = B901x ∧ b901 = b901x := by cases e5_1; exact ⟨rfl, rfl⟩
        clear e5_1
        rintro _ _ ⟨B901x, b901x, e6_1, rfl, rfl⟩
        have e6_1 := envE_at (v := .tuple (zq29 m.fDependencies[j] B901 b901)) e6_1 (by kernel_rfl)
        obtain ⟨rfl, rfl⟩ : B901 = B901x ∧ b901 = b901x := by cases e6_1; exact ⟨rfl, rfl⟩
        clear e6_1
        rintro _ _ ⟨B901x, b901x, e9_1, rfl⟩
        have e9_1 := envE_at (v := .tuple (zq29 m.fDependencies[j] B901 b901)) e9_1 (by kernel_rfl)
        obtain ⟨rfl, rfl⟩ : B901 = B901x ∧ b901 = b901x := by cases e9_1; exact ⟨rfl, rfl⟩
        clear e9_1
        intro a925 w924 F925 S924
        have S926 : Sp R w924 (SA.own (.slice A776 m.fDependencies.length c776) 80 7 m.fDependencies.length (flatC Ty80.cells ((ds ++ [depC m.fDependencies[j] B901 b901]) ++ m.fDependencies.drop (j + 1))) :: SA.own (.slice B901 (cleansF m.fDependencies[j].fTags).length b901) 9 1 ((cleansF m.fDependencies[j].fTags).length) (strs (cleansF m.fDependencies[j].fTags)) :: SA.blk g800 80 (zq5 m.fDependencies[j]) :: SA.blk g1 26 (zq27 m B173 b173 B179 b179 A631 c631 A776 c776) :: SA.stars (ds.map SA.tg) :: SA.own (.slice Bm met.length bm) 9 1 met.length (strs met) :: SA.own (.slice A631 m.fMaintainers.length c631) 78 4 m.fMaintainers.length (flatC Ty78.cells (m.fMaintainers.map perC)) :: SA.own (.slice B179 (cleansF m.fKeywords).length b179) 9 1 ((cleansF m.fKeywords).length) (strs (cleansF m.fKeywords)) :: SA.own (.slice B173 (cleansF m.fSources).length b173) 9 1 ((cleansF m.fSources).length) (strs (cleansF m.fSources)) :: SA.blk g3 26 zq8 :: L) := S924.p1.drop.p1.drop
        refine wpList_nil ?_
        refine hK808 _ _ ?_; clear hK808 K808
        refine wp_seq_k fun K927 hK927 => ?_
        refine wp_region_lit ?_
        refine op_q F925 (.bool (aliasF m.fDependencies[j].fAlias)) ?_; intro a928 F928
        refine op_q F928 (.bool (!(aliasF m.fDependencies[j].fAlias))) ?_; intro a929 F929
        refine wpList_nil ?_
        refine hK927 _ _ ?_; clear hK927 K927
        rcases btf (aliasF m.fDependencies[j].fAlias) with hc930 | hc930
        ·have hok : (m.fDependencies[j].fNil || !aliasF m.fDependencies[j].fAlias) = false := by rw [hdn, hc930]; rfl
         have F931 := F929.sb 14 (by kernel_rfl) hc930
         have F932 := F931.sb 151 (by kernel_rfl) hc930
         have F933 := F932.sb 153 (by kernel_rfl) hc930
         have F934 := F933.sb 154 (by kernel_rfl) (show (!(aliasF m.fDependencies[j].fAlias)) = false by rw [hc930]; rfl)
         refine wp_cond_false (F934.ev (by kernel_rfl)) ?_
         refine wp_skip ?_
         refine hK807 _ _ ?_; clear hK807 K807
         refine wp_seq_k fun K935 hK935 => ?_
         refine wp_region_lit ?_
         refine op_q F934 (.pointer (some ⟨g1, 14, none⟩)) ?_; intro a936 F936
         refine op_rq (v := .slice A776 m.fDependencies.length c776) F936 (r_ld rfl (F936.e (.pointer (some ⟨g1, 14, none⟩))) (v := .slice A776 m.fDependencies.length c776) ((S926.bk 3 rfl).cell 14) Try.underlying24 rfl) ?_; intro a937 F937
         refine op_q F937 (.int .i64 (↑j)) ?_; intro a938 F938
         refine op_rq (v := .pointer (some (ad791.add (j * 7)))) F938 (r_ix rfl Try.underlying24 7 (by kernel_rfl) (F938.e (.slice A776 m.fDependencies.length c776)) hA791 (F938.e (.int .i64 (↑j))) j (by first | rfl | omega | simp) (by first | omega | (simp; done) | (simp; omega)) (rfl)) ?_; intro a939 F939
         refine op_q F939 (.pointer (some ⟨(ad791.add (j * 7)).block, (ad791.add (j * 7)).off + 1, none⟩)) ?_; intro a940 F940
         refine op_rq (v := .string (cleanF m.fDependencies[j].fName)) F940 (r_ld rfl (F940.e (.pointer (some ⟨(ad791.add (j * 7)).block, (ad791.add (j * 7)).off + 1, none⟩))) (v := .string (cleanF m.fDependencies[j].fName)) (cellj ((own_rowsT1 (S926.ow 0 rfl) (by simp; omega) (by decide) (fun x => x.len) (by omega)).elA hA791 (j := j) (row := (depC m.fDependencies[j] B901 b901).cells) (by rw [List.getElem?_map, dcs_get2 hdl]; rfl)) 0 rfl) Try.underlying9 rfl) ?_; intro a941 F941
         refine op_q F941 (.string (cleanF m.fDependencies[j].fName)) ?_; intro a942 F942
         refine wpList_nil ?_
         refine hK935 _ _ ?_; clear hK935 K935
         refine wp_seq_k fun K943 hK943 => ?_
         refine wp_seq_k fun K944 hK944 => ?_
         refine wp_region_lit ?_
         refine op_q F942 (.pointer (some ⟨g800, 6, none⟩)) ?_; intro a945 F945
         refine op_rq (v := .string m.fDependencies[j].fAlias) F945 (r_ld rfl (F945.e (.pointer (some ⟨g800, 6, none⟩))) (v := .string m.fDependencies[j].fAlias) ((S926.bk 2 rfl).cell 6) Try.underlying9 rfl) ?_; intro a946 F946
         refine op_q F946 (.bool (!(m.fDependencies[j].fAlias.toList == (⟨#[]⟩ : ByteArray).toList))) ?_; intro a947 F947
         refine wpList_nil ?_
         refine hK944 _ _ ?_; clear hK944 K944
         rcases btf (m.fDependencies[j].fAlias.toList == (⟨#[]⟩ : ByteArray).toList) with hc948 | hc948
         ·have hkey : keyF m.fDependencies[j] = cleanF m.fDependencies[j].fName := by unfold keyF; rw [hc948]; rfl
          have F949 := F947.sb 164 (by kernel_rfl) (show (!(m.fDependencies[j].fAlias.toList == (⟨#[]⟩ : ByteArray).toList)) = false by rw [hc948]; rfl)
          refine wp_cond_false (F949.ev (by kernel_rfl)) ?_
          refine wp_skip ?_
          refine hK943 _ _ ?_; clear hK943 K943
          refine wp_seq_k fun K950 hK950 => ?_
          refine wp_seq_k fun K951 hK951 => ?_
          refine wp_region_lit ?_
          refine op_q F949 (.slice Bm met.length bm) ?_; intro a952 F952
          refine op_q F952 (.int .i64 (↑met.length)) ?_; intro a953 F953
          refine op_q F953 (.int .i64 0) ?_; intro a954 F954
          refine wpList_nil ?_
          refine hK951 _ _ ?_; clear hK951 K951
          refine wp_block ?_
          refine fw_loop (fun m' a' w' => ∃ i : Nat, met.length - i = m' ∧ Fr 184 [] a' [(1, .pointer (some ⟨g1, 0, none⟩)), (2, .pointer (some ⟨g3, 0, none⟩)), (11, .slice Bm met.length bm), (15, .string (cleanF m.fDependencies[j].fName)), (137, .slice A776 m.fDependencies.length c776), (138, .int .i64 (↑m.fDependencies.length)), (139, .int .i64 (↑j)), (167, .slice Bm met.length bm), (168, .int .i64 (↑met.length)), (169, .int .i64 (↑i))] ∧ Sp R w' (SA.own (.slice A776 m.fDependencies.length c776) 80 7 m.fDependencies.length (flatC Ty80.cells ((ds ++ [depC m.fDependencies[j] B901 b901]) ++ m.fDependencies.drop (j + 1))) :: SA.own (.slice B901 (cleansF m.fDependencies[j].fTags).length b901) 9 1 ((cleansF m.fDependencies[j].fTags).length) (strs (cleansF m.fDependencies[j].fTags)) :: SA.blk g800 80 (zq5 m.fDependencies[j]) :: SA.blk g1 26 (zq27 m B173 b173 B179 b179 A631 c631 A776 c776) :: SA.stars (ds.map SA.tg) :: SA.own (.slice Bm met.length bm) 9 1 met.length (strs met) :: SA.own (.slice A631 m.fMaintainers.length c631) 78 4 m.fMaintainers.length (flatC Ty78.cells (m.fMaintainers.map perC)) :: SA.own (.slice B179 (cleansF m.fKeywords).length b179) 9 1 ((cleansF m.fKeywords).length) (strs (cleansF m.fKeywords)) :: SA.own (.slice B173 (cleansF m.fSources).length b173) 9 1 ((cleansF m.fSources).length) (strs (cleansF m.fSources)) :: SA.blk g3 26 zq8 :: L) ∧ (i ≤ met.length) ∧ (∀ k, ∀ hk : k < met.length, k < i → (met[k].toList == (keyF m.fDependencies[j]).toList) = false)) _ ⟨0, rfl, (F954.kk 1 (F954.kk 2 (F954.kk 11 (F954.kk 15 (F954.kk 137 (F954.kk 138 (F954.kk 139 (F954.kk 167 (F954.kk 168 (F954.kk 169 F954.nil)))))))))), S926.p9.p9.p9.p9.p9.p9.p9.p9.p9.p9, (by first | omega | (with_reducible assumption) | (simp; done)), (fun k _ h => absurd h (Nat.not_lt_zero _))⟩ ?_
          rintro m955 a955 w955 ⟨i, hm955, F955, S955, hi, hnn⟩ K955 hK955
          by_cases hlt_i : i < met.length
          ·have hc_i : decide ((↑i : Int) < ↑met.length) = true := by first | (simp; done) | (simp; omega)
           obtain ⟨ad956, hA956⟩ := (own_sl1 (S955.ow 5 rfl) (by first | omega | (simp; omega))).addr (by simp [strs]; omega)
           refine wp_seq_k fun K957 hK957 => ?_
           refine wp_region_lit ?_
           refine op_q F955 (.bool (decide ((↑i : Int) < ↑met.length))) ?_; intro a958 F958
           have F959 := F958.sb 170 (by kernel_rfl) hc_i
           refine wpList_nil ?_
           refine hK957 _ _ ?_; clear hK957 K957
           refine wp_seq_k fun K960 hK960 => ?_
           refine wp_cond_true (F959.ev (by kernel_rfl)) ?_
           refine wp_skip ?_
           refine hK960 _ _ ?_; clear hK960 K960
           refine wp_seq_k fun K961 hK961 => ?_
           refine wp_block ?_
           refine wp_seq_k fun K962 hK962 => ?_
           refine wp_region_lit ?_
           refine op_rq (v := .pointer (some (ad956.add i))) F959 (r_ix rfl Try.underlying22 1 (by kernel_rfl) (F959.e (.slice Bm met.length bm)) hA956 (F959.e (.int .i64 (↑i))) i (by first | rfl | omega | simp) (by first | omega | (simp; done) | (simp; omega)) (by simp only [Nat.mul_one])) ?_; intro a963 F963
           refine op_rq (v := .string met[i]) F963 (r_ld rfl (F963.e (.pointer (some (ad956.add i)))) (v := .string met[i]) ((own_sl1 (S955.ow 5 rfl) (by first | omega | (simp; omega))).elA hA956 (j := i) (by simp [strs, List.getElem?_eq_getElem hlt_i])) Try.underlying9 rfl) ?_; intro a964 F964
           refine op_q F964 (.string met[i]) ?_; intro a965 F965
           refine wpList_nil ?_
           refine hK962 _ _ ?_; clear hK962 K962
           refine wp_seq_k fun K966 hK966 => ?_
           refine wp_region_lit ?_
           refine op_q F965 (.string met[i]) ?_; intro a967 F967
           refine op_q F967 (.string (cleanF m.fDependencies[j].fName)) ?_; intro a968 F968
           refine op_q F968 (.bool (met[i].toList == (cleanF m.fDependencies[j].fName).toList)) ?_; intro a969 F969
           refine wpList_nil ?_
           refine hK966 _ _ ?_; clear hK966 K966
           rcases btf (met[i].toList == (cleanF m.fDependencies[j].fName).toList) with hc970 | hc970
           ·have F971 := F969.sb 175 (by kernel_rfl) hc970
            refine wp_cond_true (F971.ev (by kernel_rfl)) ?_
            refine wp_seq_k fun K972 hK972 => ?_
            refine wp_region_lit ?_
            refine op_rq (v := .agg (zq27 m B173 b173 B179 b179 A631 c631 A776 c776)) F971 (r_ldm rfl (F971.e (.pointer (some ⟨g1, 0, none⟩))) (S955.bk 3 rfl) 15 (by kernel_rfl) Try.underlying26 rfl (by kernel_rfl) (v := (zq27 m B173 b173 B179 b179 A631 c631 A776 c776)) (by kernel_rfl)) ?_; intro a973 F973
            refine op_sq0 F973 (s_stb rfl (F973.e (.pointer (some ⟨g3, 0, none⟩))) (F973.e (.agg (zq27 m B173 b173 B179 b179 A631 c631 A776 c776))) S955.p9 (by kernel_rfl) rfl (by kernel_rfl)) ?_
            rintro _ _ w974 rfl S974 F974
            refine op_q F974 (.int .i64 9) ?_; intro a975 F975
            refine wpList_nil ?_
            refine hK972 _ _ ?_; clear hK972 K972
            refine wp_ret ?_
            refine ret_in ?_
            refine ret_then ?_
            refine ret_then ?_
            refine ret_in ?_
            refine ret_then ?_
            refine ret_in ?_
            refine ret_then ?_
            refine ret_then ?_
            refine ret_in ?_
            refine ret_then ?_
            have S976 : Sp R w974 (SA.cmR 9 { m with fName := cleanF m.fName, fHome := cleanF m.fHome, fVersion := m.fVersion, fDescription := cleanF m.fDescription, fIcon := cleanF m.fIcon, fAPIVersion := m.fAPIVersion, fCondition := cleanF m.fCondition, fTags := cleanF m.fTags, fAppVersion := cleanF m.fAppVersion, fKubeVersion := cleanF m.fKubeVersion, fType := m.fType, fSources_a := B173, fSources_c := b173, fSources := cleansF m.fSources, fKeywords_a := B179, fKeywords_c := b179, fKeywords := cleansF m.fKeywords, fMaintainers_a := A631, fMaintainers_c := c631, fDependencies_a := A776, fDependencies_c := c776 } :: SA.blk g3 26 (zq27 m B173 b173 B179 b179 A631 c631 A776 c776) :: SA.own (.slice A776 m.fDependencies.length c776) 80 7 m.fDependencies.length (flatC Ty80.cells ((ds ++ [depC m.fDependencies[j] B901 b901]) ++ m.fDependencies.drop (j + 1))) :: SA.own (.slice B901 (cleansF m.fDependencies[j].fTags).length b901) 9 1 ((cleansF m.fDependencies[j].fTags).length) (strs (cleansF m.fDependencies[j].fTags)) :: SA.blk g800 80 (zq5 m.fDependencies[j]) :: SA.blk g1 26 (zq27 m B173 b173 B179 b179 A631 c631 A776 c776) :: SA.stars (ds.map SA.tg) :: SA.own (.slice Bm met.length bm) 9 1 met.length (strs met) :: SA.own (.slice A631 m.fMaintainers.length c631) 78 4 m.fMaintainers.length (flatC Ty78.cells (m.fMaintainers.map perC)) :: SA.own (.slice B179 (cleansF m.fKeywords).length b179) 9 1 ((cleansF m.fKeywords).length) (strs (cleansF m.fKeywords)) :: SA.own (.slice B173 (cleansF m.fSources).length b173) 9 1 ((cleansF m.fSources).length) (strs (cleansF m.fSources)) :: L) := Sp.emp S974
            refine (F975.resC (results2 Try.results60 (F975.rvc (p := ⟨g3, 0, none⟩) (by kernel_rfl) (ld_mid (S974.bk 0 rfl) 15 (by kernel_rfl) Try.underlying26 rfl (by kernel_rfl) (v := (zq27 m B173 b173 B179 b179 A631 c631 A776 c776)) (by kernel_rfl))) (F975.rvt (v := .int .i64 9) (by kernel_rfl))) ?_).1
            exact ⟨{ m with fName := cleanF m.fName, fHome := cleanF m.fHome, fVersion := m.fVersion, fDescription := cleanF m.fDescription, fIcon := cleanF m.fIcon, fAPIVersion := m.fAPIVersion, fCondition := cleanF m.fCondition, fTags := cleanF m.fTags, fAppVersion := cleanF m.fAppVersion, fKubeVersion := cleanF m.fKubeVersion, fType := m.fType, fSources_a := B173, fSources_c := b173, fSources := cleansF m.fSources, fKeywords_a := B179, fKeywords_c := b179, fKeywords := cleansF m.fKeywords, fMaintainers_a := A631, fMaintainers_c := c631, fDependencies_a := A776, fDependencies_c := c776 }, 9, rfl, S976.p1.drop.p1.drop.p1.drop.p1.drop.p1.drop.p1.drop.p1.drop.p1.drop.p1.drop.p1.drop, ((what_D hw1 hpa).trans (hwh.trans (whatD_9 hlt_j hok hlt_i (by rw [hkey]; exact hc970)))).symm, ⟨fun _ h => by omega, fun h => by omega⟩⟩
           ·have F977 := F969.sb 175 (by kernel_rfl) hc970
            refine wp_cond_false (F977.ev (by kernel_rfl)) ?_
            refine wp_skip ?_
            refine hK961 _ _ ?_; clear hK961 K961
            refine wp_region_lit ?_
            refine op_rq (v := .int .i64 (↑(i + 1))) F977 (r_add (z := ↑(i + 1)) rfl (F977.e (.int .i64 (↑i))) (F977.e (.int .i64 1)) (wr64 (by omega) (by omega) (by omega))) ?_; intro a978 F978
            refine op_q F978 (.int .i64 (↑(i + 1))) ?_; intro a979 F979
            refine wpList_nil ?_
            exact hK955 _ _ _ (by first | omega | (simp; omega)) ⟨i + 1, rfl, (F979.kk 1 (F979.kk 2 (F979.kk 11 (F979.kk 15 (F979.kk 137 (F979.kk 138 (F979.kk 139 (F979.kk 167 (F979.kk 168 (F979.kk 169 F979.nil)))))))))), S955.p9.p9.p9.p9.p9.p9.p9.p9.p9.p9, (by first | omega | (with_reducible assumption) | (simp; done)), (fun k hk h => (Nat.lt_succ_iff_lt_or_eq.1 h).elim (hnn k hk) (fun e => by subst e; rw [hkey]; exact hc970))⟩
          ·have hc_i : decide ((↑i : Int) < ↑met.length) = false := by first | (simp; done) | (simp; omega)
           have hnm : ∀ k, ∀ hk : k < met.length, (met[k].toList == (keyF m.fDependencies[j]).toList) = false := fun k hk => hnn k hk (by omega)
           refine wp_seq_k fun K980 hK980 => ?_
           refine wp_region_lit ?_
           refine op_q F955 (.bool (decide ((↑i : Int) < ↑met.length))) ?_; intro a981 F981
           have F982 := F981.sb 170 (by kernel_rfl) hc_i
           refine wpList_nil ?_
           refine hK980 _ _ ?_; clear hK980 K980
           refine wp_seq_k fun K983 hK983 => ?_
           refine wp_cond_false (F982.ev (by kernel_rfl)) ?_
           refine wp_exit ?_
           refine ex_then ?_; clear hK983 K983
           refine ex_then ?_
           refine ex_in ?_
           refine hK950 _ _ ?_; clear hK950 K950
           refine wp_region_lit ?_
           refine op_q F982 (.slice Bm met.length bm) ?_; intro a984 F984
           refine op_q F984 (.string (cleanF m.fDependencies[j].fName)) ?_; intro a985 F985
           refine op_sq F985 (s_news F985 9 #[.string (cleanF m.fDependencies[j].fName)] 1 (by kernel_rfl) (by kernel_rfl) (by kernel_rfl) S955) ?_
           rintro _ _ w987 ⟨g985, rfl, rfl⟩ S987 a987 F987
           refine op_sq F987 (s_app rfl Try.underlying22 1 _ tin9 rfl rfl (F987.e (.slice Bm met.length bm)) S987.p6 ([Value.string (cleanF m.fDependencies[j].fName)]) (F987.e (.slice (some ⟨g985, 0, none⟩) 1 1)) ((S987.bk 0 rfl).sl (by simp)) rfl (by simp [Value.oneCell']) (by omega) (by omega) (n' := (met ++ [cleanF m.fDependencies[j].fName]).length) (by first | (simp; done) | (simp; omega)) (cs' := strs (met ++ [cleanF m.fDependencies[j].fName])) (by simp [strs])) ?_
           rintro _ _ w989 ⟨A988, c988, rfl, rfl⟩ S989 a989 F989
           refine op_q F989 (.slice A988 ((met ++ [cleanF m.fDependencies[j].fName]).length) c988) ?_; intro a990 F990
           refine wpList_nil ?_
           refine hK796 _ _ ?_; clear hK796 K796
           refine wp_region_lit ?_
           refine op_rq (v := .int .i64 (↑(j + 1))) F990 (r_add (z := ↑(j + 1)) rfl (F990.e (.int .i64 (↑j))) (F990.e (.int .i64 1)) (wr64 (by omega) (by omega) (by omega))) ?_; intro a991 F991
           refine op_q F991 (.int .i64 (↑(j + 1))) ?_; intro a992 F992
           refine wpList_nil ?_
           have S993 : Sp R w989 (SA.tg (depC m.fDependencies[j] B901 b901) :: SA.own (.slice A988 ((met ++ [cleanF m.fDependencies[j].fName]).length) c988) 9 1 ((met ++ [cleanF m.fDependencies[j].fName]).length) (strs (met ++ [cleanF m.fDependencies[j].fName])) :: SA.blk g985 9 #[.string (cleanF m.fDependencies[j].fName)] :: SA.own (.slice A776 m.fDependencies.length c776) 80 7 m.fDependencies.length (flatC Ty80.cells ((ds ++ [depC m.fDependencies[j] B901 b901]) ++ m.fDependencies.drop (j + 1))) :: SA.blk g800 80 (zq5 m.fDependencies[j]) :: SA.blk g1 26 (zq27 m B173 b173 B179 b179 A631 c631 A776 c776) :: SA.stars (ds.map SA.tg) :: SA.own (.slice A631 m.fMaintainers.length c631) 78 4 m.fMaintainers.length (flatC Ty78.cells (m.fMaintainers.map perC)) :: SA.own (.slice B179 (cleansF m.fKeywords).length b179) 9 1 ((cleansF m.fKeywords).length) (strs (cleansF m.fKeywords)) :: SA.own (.slice B173 (cleansF m.fSources).length b173) 9 1 ((cleansF m.fSources).length) (strs (cleansF m.fSources)) :: SA.blk g3 26 zq8 :: L) := (Sp.own0_of S989.p3 : Sp R w989 (SA.tg (depC m.fDependencies[j] B901 b901) :: _))
           have S994 : Sp R w989 (SA.stars ((ds ++ [depC m.fDependencies[j] B901 b901]).map SA.tg) :: SA.own (.slice A988 ((met ++ [cleanF m.fDependencies[j].fName]).length) c988) 9 1 ((met ++ [cleanF m.fDependencies[j].fName]).length) (strs (met ++ [cleanF m.fDependencies[j].fName])) :: SA.blk g985 9 #[.string (cleanF m.fDependencies[j].fName)] :: SA.own (.slice A776 m.fDependencies.length c776) 80 7 m.fDependencies.length (flatC Ty80.cells ((ds ++ [depC m.fDependencies[j] B901 b901]) ++ m.fDependencies.drop (j + 1))) :: SA.blk g800 80 (zq5 m.fDependencies[j]) :: SA.blk g1 26 (zq27 m B173 b173 B179 b179 A631 c631 A776 c776) :: SA.own (.slice A631 m.fMaintainers.length c631) 78 4 m.fMaintainers.length (flatC Ty78.cells (m.fMaintainers.map perC)) :: SA.own (.slice B179 (cleansF m.fKeywords).length b179) 9 1 ((cleansF m.fKeywords).length) (strs (cleansF m.fKeywords)) :: SA.own (.slice B173 (cleansF m.fSources).length b173) 9 1 ((cleansF m.fSources).length) (strs (cleansF m.fSources)) :: SA.blk g3 26 zq8 :: L) := by rw [List.map_append, List.map_cons, List.map_nil]; exact stars_snoc S993.p6.p1
           exact hK790 _ _ _ (by first | omega | (simp; omega)) ⟨A988, c988, met ++ [cleanF m.fDependencies[j].fName], ds ++ [depC m.fDependencies[j] B901 b901], j + 1, rfl, (F992.kk 1 (F992.kk 2 (F992.kk 11 (F992.kk 137 (F992.kk 138 (F992.kk 139 F992.nil)))))), S994.p2.drop.p3.drop.p7.p7.p7.p7.p5.p5.p6.p7, (by first | omega | (with_reducible assumption) | (simp; done)), (by simp [hdl]), (by rw [List.map_append, hds, List.take_succ_eq_append_getElem hlt_j, List.map_append, List.map_cons, List.map_cons, List.map_nil, List.map_nil, depC_S]), (by simp [hml]), (by rw [hwh, whatD_n hlt_j hok hnm, hkey])⟩
         ·have hkey : keyF m.fDependencies[j] = m.fDependencies[j].fAlias := by unfold keyF; rw [hc948]; rfl
          have F995 := F947.sb 164 (by kernel_rfl) (show (!(m.fDependencies[j].fAlias.toList == (⟨#[]⟩ : ByteArray).toList)) = true by rw [hc948]; rfl)
          refine wp_cond_true (F995.ev (by kernel_rfl)) ?_
          refine wp_region_lit ?_
          refine op_q F995 (.pointer (some ⟨g800, 6, none⟩)) ?_; intro a996 F996
          refine op_rq (v := .string m.fDependencies[j].fAlias) F996 (r_ld rfl (F996.e (.pointer (some ⟨g800, 6, none⟩))) (v := .string m.fDependencies[j].fAlias) ((S926.bk 2 rfl).cell 6) Try.underlying9 rfl) ?_; intro a997 F997
          refine op_q F997 (.string m.fDependencies[j].fAlias) ?_; intro a998 F998
          refine wpList_nil ?_
          refine hK943 _ _ ?_; clear hK943 K943
          refine wp_seq_k fun K999 hK999 => ?_
          refine wp_seq_k fun K1000 hK1000 => ?_
          refine wp_region_lit ?_
          refine op_q F998 (.slice Bm met.length bm) ?_; intro a1001 F1001
          refine op_q F1001 (.int .i64 (↑met.length)) ?_; intro a1002 F1002
          refine op_q F1002 (.int .i64 0) ?_; intro a1003 F1003
          refine wpList_nil ?_
          refine hK1000 _ _ ?_; clear hK1000 K1000
          refine wp_block ?_
          refine fw_loop (fun m' a' w' => ∃ i : Nat, met.length - i = m' ∧ Fr 184 [] a' [(1, .pointer (some ⟨g1, 0, none⟩)), (2, .pointer (some ⟨g3, 0, none⟩)), (11, .slice Bm met.length bm), (15, .string m.fDependencies[j].fAlias), (137, .slice A776 m.fDependencies.length c776), (138, .int .i64 (↑m.fDependencies.length)), (139, .int .i64 (↑j)), (167, .slice Bm met.length bm), (168, .int .i64 (↑met.length)), (169, .int .i64 (↑i))] ∧ Sp R w' (SA.own (.slice A776 m.fDependencies.length c776) 80 7 m.fDependencies.length (flatC Ty80.cells ((ds ++ [depC m.fDependencies[j] B901 b901]) ++ m.fDependencies.drop (j + 1))) :: SA.own (.slice B901 (cleansF m.fDependencies[j].fTags).length b901) 9 1 ((cleansF m.fDependencies[j].fTags).length) (strs (cleansF m.fDependencies[j].fTags)) :: SA.blk g800 80 (zq5 m.fDependencies[j]) :: SA.blk g1 26 (zq27 m B173 b173 B179 b179 A631 c631 A776 c776) :: SA.stars (ds.map SA.tg) :: SA.own (.slice Bm met.length bm) 9 1 met.length (strs met) :: SA.own (.slice A631 m.fMaintainers.length c631) 78 4 m.fMaintainers.length (flatC Ty78.cells (m.fMaintainers.map perC)) :: SA.own (.slice B179 (cleansF m.fKeywords).length b179) 9 1 ((cleansF m.fKeywords).length) (strs (cleansF m.fKeywords)) :: SA.own (.slice B173 (cleansF m.fSources).length b173) 9 1 ((cleansF m.fSources).length) (strs (cleansF m.fSources)) :: SA.blk g3 26 zq8 :: L) ∧ (i ≤ met.length) ∧ (∀ k, ∀ hk : k < met.length, k < i → (met[k].toList == (keyF m.fDependencies[j]).toList) = false)) _ ⟨0, rfl, (F1003.kk 1 (F1003.kk 2 (F1003.kk 11 (F1003.kk 15 (F1003.kk 137 (F1003.kk 138 (F1003.kk 139 (F1003.kk 167 (F1003.kk 168 (F1003.kk 169 F1003.nil)))))))))), S926.p9.p9.p9.p9.p9.p9.p9.p9.p9.p9, (by first | omega | (with_reducible assumption) | (simp; done)), (fun k _ h => absurd h (Nat.not_lt_zero _))⟩ ?_
          rintro m1004 a1004 w1004 ⟨i, hm1004, F1004, S1004, hi, hnn⟩ K1004 hK1004
          by_cases hlt_i : i < met.length
          ·have hc_i : decide ((↑i : Int) < ↑met.length) = true := by first | (simp; done) | (simp; omega)
           obtain ⟨ad1005, hA1005⟩ := (own_sl1 (S1004.ow 5 rfl) (by first | omega | (simp; omega))).addr (by simp [strs]; omega)
           refine wp_seq_k fun K1006 hK1006 => ?_
           refine wp_region_lit ?_
           refine op_q F1004 (.bool (decide ((↑i : Int) < ↑met.length))) ?_; intro a1007 F1007
           have F1008 := F1007.sb 170 (by kernel_rfl) hc_i
           refine wpList_nil ?_
           refine hK1006 _ _ ?_; clear hK1006 K1006
           refine wp_seq_k fun K1009 hK1009 => ?_
           refine wp_cond_true (F1008.ev (by kernel_rfl)) ?_
           refine wp_skip ?_
           refine hK1009 _ _ ?_; clear hK1009 K1009
           refine wp_seq_k fun K1010 hK1010 => ?_
           refine wp_block ?_
           refine wp_seq_k fun K1011 hK1011 => ?_
           refine wp_region_lit ?_
           refine op_rq (v := .pointer (some (ad1005.add i))) F1008 (r_ix rfl Try.underlying22 1 (by kernel_rfl) (F1008.e (.slice Bm met.length bm)) hA1005 (F1008.e (.int .i64 (↑i))) i (by first | rfl | omega | simp) (by first | omega | (simp; done) | (simp; omega)) (by simp only [Nat.mul_one])) ?_; intro a1012 F1012
           refine op_rq (v := .string met[i]) F1012 (r_ld rfl (F1012.e (.pointer (some (ad1005.add i)))) (v := .string met[i]) ((own_sl1 (S1004.ow 5 rfl) (by first | omega | (simp; omega))).elA hA1005 (j := i) (by simp [strs, List.getElem?_eq_getElem hlt_i])) Try.underlying9 rfl) ?_; intro a1013 F1013
           refine op_q F1013 (.string met[i]) ?_; intro a1014 F1014
           refine wpList_nil ?_
           refine hK1011 _ _ ?_; clear hK1011 K1011
           refine wp_seq_k fun K1015 hK1015 => ?_
           refine wp_region_lit ?_
           refine op_q F1014 (.string met[i]) ?_; intro a1016 F1016
           refine op_q F1016 (.string m.fDependencies[j].fAlias) ?_; intro a1017 F1017
           refine op_q F1017 (.bool (met[i].toList == m.fDependencies[j].fAlias.toList)) ?_; intro a1018 F1018
           refine wpList_nil ?_
           refine hK1015 _ _ ?_; clear hK1015 K1015
           rcases btf (met[i].toList == m.fDependencies[j].fAlias.toList) with hc1019 | hc1019
           ·have F1020 := F1018.sb 175 (by kernel_rfl) hc1019
            refine wp_cond_true (F1020.ev (by kernel_rfl)) ?_
            refine wp_seq_k fun K1021 hK1021 => ?_
            refine wp_region_lit ?_
            refine op_rq (v := .agg (zq27 m B173 b173 B179 b179 A631 c631 A776 c776)) F1020 (r_ldm rfl (F1020.e (.pointer (some ⟨g1, 0, none⟩))) (S1004.bk 3 rfl) 15 (by kernel_rfl) Try.underlying26 rfl (by kernel_rfl) (v := (zq27 m B173 b173 B179 b179 A631 c631 A776 c776)) (by kernel_rfl)) ?_; intro a1022 F1022
            refine op_sq0 F1022 (s_stb rfl (F1022.e (.pointer (some ⟨g3, 0, none⟩))) (F1022.e (.agg (zq27 m B173 b173 B179 b179 A631 c631 A776 c776))) S1004.p9 (by kernel_rfl) rfl (by kernel_rfl)) ?_
            rintro _ _ w1023 rfl S1023 F1023
            refine op_q F1023 (.int .i64 9) ?_; intro a1024 F1024
            refine wpList_nil ?_
            refine hK1021 _ _ ?_; clear hK1021 K1021
            refine wp_ret ?_
            refine ret_in ?_
            refine ret_then ?_
            refine ret_then ?_
            refine ret_in ?_
            refine ret_then ?_
            refine ret_in ?_
            refine ret_then ?_
            refine ret_then ?_
            refine ret_in ?_
            refine ret_then ?_
            have S1025 : Sp R w1023 (SA.cmR 9 { m with fName := cleanF m.fName, fHome := cleanF m.fHome, fVersion := m.fVersion, fDescription := cleanF m.fDescription, fIcon := cleanF m.fIcon, fAPIVersion := m.fAPIVersion, fCondition := cleanF m.fCondition, fTags := cleanF m.fTags, fAppVersion := cleanF m.fAppVersion, fKubeVersion := cleanF m.fKubeVersion, fType := m.fType, fSources_a := B173, fSources_c := b173, fSources := cleansF m.fSources, fKeywords_a := B179, fKeywords_c := b179, fKeywords := cleansF m.fKeywords, fMaintainers_a := A631, fMaintainers_c := c631, fDependencies_a := A776, fDependencies_c := c776 } :: SA.blk g3 26 (zq27 m B173 b173 B179 b179 A631 c631 A776 c776) :: SA.own (.slice A776 m.fDependencies.length c776) 80 7 m.fDependencies.length (flatC Ty80.cells ((ds ++ [depC m.fDependencies[j] B901 b901]) ++ m.fDependencies.drop (j + 1))) :: SA.own (.slice B901 (cleansF m.fDependencies[j].fTags).length b901) 9 1 ((cleansF m.fDependencies[j].fTags).length) (strs (cleansF m.fDependencies[j].fTags)) :: SA.blk g800 80 (zq5 m.fDependencies[j]) :: SA.blk g1 26 (zq27 m B173 b173 B179 b179 A631 c631 A776 c776) :: SA.stars (ds.map SA.tg) :: SA.own (.slice Bm met.length bm) 9 1 met.length (strs met) :: SA.own (.slice A631 m.fMaintainers.length c631) 78 4 m.fMaintainers.length (flatC Ty78.cells (m.fMaintainers.map perC)) :: SA.own (.slice B179 (cleansF m.fKeywords).length b179) 9 1 ((cleansF m.fKeywords).length) (strs (cleansF m.fKeywords)) :: SA.own (.slice B173 (cleansF m.fSources).length b173) 9 1 ((cleansF m.fSources).length) (strs (cleansF m.fSources)) :: L) := Sp.emp S1023
            refine (F1024.resC (results2 Try.results60 (F1024.rvc (p := ⟨g3, 0, none⟩) (by kernel_rfl) (ld_mid (S1023.bk 0 rfl) 15 (by kernel_rfl) Try.underlying26 rfl (by kernel_rfl) (v := (zq27 m B173 b173 B179 b179 A631 c631 A776 c776)) (by kernel_rfl))) (F1024.rvt (v := .int .i64 9) (by kernel_rfl))) ?_).1
            exact ⟨{ m with fName := cleanF m.fName, fHome := cleanF m.fHome, fVersion := m.fVersion, fDescription := cleanF m.fDescription, fIcon := cleanF m.fIcon, fAPIVersion := m.fAPIVersion, fCondition := cleanF m.fCondition, fTags := cleanF m.fTags, fAppVersion := cleanF m.fAppVersion, fKubeVersion := cleanF m.fKubeVersion, fType := m.fType, fSources_a := B173, fSources_c := b173, fSources := cleansF m.fSources, fKeywords_a := B179, fKeywords_c := b179, fKeywords := cleansF m.fKeywords, fMaintainers_a := A631, fMaintainers_c := c631, fDependencies_a := A776, fDependencies_c := c776 }, 9, rfl, S1025.p1.drop.p1.drop.p1.drop.p1.drop.p1.drop.p1.drop.p1.drop.p1.drop.p1.drop.p1.drop, ((what_D hw1 hpa).trans (hwh.trans (whatD_9 hlt_j hok hlt_i (by rw [hkey]; exact hc1019)))).symm, ⟨fun _ h => by omega, fun h => by omega⟩⟩
           ·have F1026 := F1018.sb 175 (by kernel_rfl) hc1019
            refine wp_cond_false (F1026.ev (by kernel_rfl)) ?_
            refine wp_skip ?_
            refine hK1010 _ _ ?_; clear hK1010 K1010
            refine wp_region_lit ?_
            refine op_rq (v := .int .i64 (↑(i + 1))) F1026 (r_add (z := ↑(i + 1)) rfl (F1026.e (.int .i64 (↑i))) (F1026.e (.int .i64 1)) (wr64 (by omega) (by omega) (by omega))) ?_; intro a1027 F1027
            refine op_q F1027 (.int .i64 (↑(i + 1))) ?_; intro a1028 F1028
            refine wpList_nil ?_
            exact hK1004 _ _ _ (by first | omega | (simp; omega)) ⟨i + 1, rfl, (F1028.kk 1 (F1028.kk 2 (F1028.kk 11 (F1028.kk 15 (F1028.kk 137 (F1028.kk 138 (F1028.kk 139 (F1028.kk 167 (F1028.kk 168 (F1028.kk 169 F1028.nil)))))))))), S1004.p9.p9.p9.p9.p9.p9.p9.p9.p9.p9, (by first | omega | (with_reducible assumption) | (simp; done)), (fun k hk h => (Nat.lt_succ_iff_lt_or_eq.1 h).elim (hnn k hk) (fun e => by subst e; rw [hkey]; exact hc1019))⟩
          ·have hc_i : decide ((↑i : Int) < ↑met.length) = false := by first | (simp; done) | (simp; omega)
           have hnm : ∀ k, ∀ hk : k < met.length, (met[k].toList == (keyF m.fDependencies[j]).toList) = false := fun k hk => hnn k hk (by omega)
           refine wp_seq_k fun K1029 hK1029 => ?_
           refine wp_region_lit ?_
           refine op_q F1004 (.bool (decide ((↑i : Int) < ↑met.length))) ?_; intro a1030 F1030
           have F1031 := F1030.sb 170 (by kernel_rfl) hc_i
           refine wpList_nil ?_
           refine hK1029 _ _ ?_; clear hK1029 K1029
           refine wp_seq_k fun K1032 hK1032 => ?_
           refine wp_cond_false (F1031.ev (by kernel_rfl)) ?_
           refine wp_exit ?_
           refine ex_then ?_; clear hK1032 K1032
           refine ex_then ?_
           refine ex_in ?_
           refine hK999 _ _ ?_; clear hK999 K999
           refine wp_region_lit ?_
           refine op_q F1031 (.slice Bm met.length bm) ?_; intro a1033 F1033
           refine op_q F1033 (.string m.fDependencies[j].fAlias) ?_; intro a1034 F1034
           refine op_sq F1034 (s_news F1034 9 #[.string m.fDependencies[j].fAlias] 1 (by kernel_rfl) (by kernel_rfl) (by kernel_rfl) S1004) ?_
           rintro _ _ w1036 ⟨g1034, rfl, rfl⟩ S1036 a1036 F1036
           refine op_sq F1036 (s_app rfl Try.underlying22 1 _ tin9 rfl rfl (F1036.e (.slice Bm met.length bm)) S1036.p6 ([Value.string m.fDependencies[j].fAlias]) (F1036.e (.slice (some ⟨g1034, 0, none⟩) 1 1)) ((S1036.bk 0 rfl).sl (by simp)) rfl (by simp [Value.oneCell']) (by omega) (by omega) (n' := (met ++ [m.fDependencies[j].fAlias]).length) (by first | (simp; done) | (simp; omega)) (cs' := strs (met ++ [m.fDependencies[j].fAlias])) (by simp [strs])) ?_
           rintro _ _ w1038 ⟨A1037, c1037, rfl, rfl⟩ S1038 a1038 F1038
           refine op_q F1038 (.slice A1037 ((met ++ [m.fDependencies[j].fAlias]).length) c1037) ?_; intro a1039 F1039
           refine wpList_nil ?_
           refine hK796 _ _ ?_; clear hK796 K796
           refine wp_region_lit ?_
           refine op_rq (v := .int .i64 (↑(j + 1))) F1039 (r_add (z := ↑(j + 1)) rfl (F1039.e (.int .i64 (↑j))) (F1039.e (.int .i64 1)) (wr64 (by omega) (by omega) (by omega))) ?_; intro a1040 F1040
           refine op_q F1040 (.int .i64 (↑(j + 1))) ?_; intro a1041 F1041
           refine wpList_nil ?_
           have S1042 : Sp R w1038 (SA.tg (depC m.fDependencies[j] B901 b901) :: SA.own (.slice A1037 ((met ++ [m.fDependencies[j].fAlias]).length) c1037) 9 1 ((met ++ [m.fDependencies[j].fAlias]).length) (strs (met ++ [m.fDependencies[j].fAlias])) :: SA.blk g1034 9 #[.string m.fDependencies[j].fAlias] :: SA.own (.slice A776 m.fDependencies.length c776) 80 7 m.fDependencies.length (flatC Ty80.cells ((ds ++ [depC m.fDependencies[j] B901 b901]) ++ m.fDependencies.drop (j + 1))) :: SA.blk g800 80 (zq5 m.fDependencies[j]) :: SA.blk g1 26 (zq27 m B173 b173 B179 b179 A631 c631 A776 c776) :: SA.stars (ds.map SA.tg) :: SA.own (.slice A631 m.fMaintainers.length c631) 78 4 m.fMaintainers.length (flatC Ty78.cells (m.fMaintainers.map perC)) :: SA.own (.slice B179 (cleansF m.fKeywords).length b179) 9 1 ((cleansF m.fKeywords).length) (strs (cleansF m.fKeywords)) :: SA.own (.slice B173 (cleansF m.fSources).length b173) 9 1 ((cleansF m.fSources).length) (strs (cleansF m.fSources)) :: SA.blk g3 26 zq8 :: L) := (Sp.own0_of S1038.p3 : Sp R w1038 (SA.tg (depC m.fDependencies[j] B901 b901) :: _))
           have S1043 : Sp R w1038 (SA.stars ((ds ++ [depC m.fDependencies[j] B901 b901]).map SA.tg) :: SA.own (.slice A1037 ((met ++ [m.fDependencies[j].fAlias]).length) c1037) 9 1 ((met ++ [m.fDependencies[j].fAlias]).length) (strs (met ++ [m.fDependencies[j].fAlias])) :: SA.blk g1034 9 #[.string m.fDependencies[j].fAlias] :: SA.own (.slice A776 m.fDependencies.length c776) 80 7 m.fDependencies.length (flatC Ty80.cells ((ds ++ [depC m.fDependencies[j] B901 b901]) ++ m.fDependencies.drop (j + 1))) :: SA.blk g800 80 (zq5 m.fDependencies[j]) :: SA.blk g1 26 (zq27 m B173 b173 B179 b179 A631 c631 A776 c776) :: SA.own (.slice A631 m.fMaintainers.length c631) 78 4 m.fMaintainers.length (flatC Ty78.cells (m.fMaintainers.map perC)) :: SA.own (.slice B179 (cleansF m.fKeywords).length b179) 9 1 ((cleansF m.fKeywords).length) (strs (cleansF m.fKeywords)) :: SA.own (.slice B173 (cleansF m.fSources).length b173) 9 1 ((cleansF m.fSources).length) (strs (cleansF m.fSources)) :: SA.blk g3 26 zq8 :: L) := by rw [List.map_append, List.map_cons, List.map_nil]; exact stars_snoc S1042.p6.p1
           exact hK790 _ _ _ (by first | omega | (simp; omega)) ⟨A1037, c1037, met ++ [m.fDependencies[j].fAlias], ds ++ [depC m.fDependencies[j] B901 b901], j + 1, rfl, (F1041.kk 1 (F1041.kk 2 (F1041.kk 11 (F1041.kk 137 (F1041.kk 138 (F1041.kk 139 F1041.nil)))))), S1043.p2.drop.p3.drop.p7.p7.p7.p7.p5.p5.p6.p7, (by first | omega | (with_reducible assumption) | (simp; done)), (by simp [hdl]), (by rw [List.map_append, hds, List.take_succ_eq_append_getElem hlt_j, List.map_append, List.map_cons, List.map_cons, List.map_nil, List.map_nil, depC_S]), (by simp [hml]), (by rw [hwh, whatD_n hlt_j hok hnm, hkey])⟩
        ·have hno8 : (m.fDependencies[j].fNil || !aliasF m.fDependencies[j].fAlias) = true := by rw [hc930]; simp
         have F1044 := F929.sb 14 (by kernel_rfl) hc930
         have F1045 := F1044.sb 151 (by kernel_rfl) hc930
         have F1046 := F1045.sb 153 (by kernel_rfl) hc930
         have F1047 := F1046.sb 154 (by kernel_rfl) (show (!(aliasF m.fDependencies[j].fAlias)) = true by rw [hc930]; rfl)
         refine wp_cond_true (F1047.ev (by kernel_rfl)) ?_
         refine wp_seq_k fun K1048 hK1048 => ?_
         refine wp_region_lit ?_
         refine op_rq (v := .agg (zq27 m B173 b173 B179 b179 A631 c631 A776 c776)) F1047 (r_ldm rfl (F1047.e (.pointer (some ⟨g1, 0, none⟩))) (S926.bk 3 rfl) 15 (by kernel_rfl) Try.underlying26 rfl (by kernel_rfl) (v := (zq27 m B173 b173 B179 b179 A631 c631 A776 c776)) (by kernel_rfl)) ?_; intro a1049 F1049
         refine op_sq0 F1049 (s_stb rfl (F1049.e (.pointer (some ⟨g3, 0, none⟩))) (F1049.e (.agg (zq27 m B173 b173 B179 b179 A631 c631 A776 c776))) S926.p9 (by kernel_rfl) rfl (by kernel_rfl)) ?_
         rintro _ _ w1050 rfl S1050 F1050
         refine op_q F1050 (.int .i64 8) ?_; intro a1051 F1051
         refine wpList_nil ?_
         refine hK1048 _ _ ?_; clear hK1048 K1048
         refine wp_ret ?_
         refine ret_then ?_
         refine ret_in ?_
         refine ret_then ?_
         refine ret_then ?_
         refine ret_in ?_
         refine ret_then ?_
         have S1052 : Sp R w1050 (SA.cmR 8 { m with fName := cleanF m.fName, fHome := cleanF m.fHome, fVersion := m.fVersion, fDescription := cleanF m.fDescription, fIcon := cleanF m.fIcon, fAPIVersion := m.fAPIVersion, fCondition := cleanF m.fCondition, fTags := cleanF m.fTags, fAppVersion := cleanF m.fAppVersion, fKubeVersion := cleanF m.fKubeVersion, fType := m.fType, fSources_a := B173, fSources_c := b173, fSources := cleansF m.fSources, fKeywords_a := B179, fKeywords_c := b179, fKeywords := cleansF m.fKeywords, fMaintainers_a := A631, fMaintainers_c := c631, fDependencies_a := A776, fDependencies_c := c776 } :: SA.blk g3 26 (zq27 m B173 b173 B179 b179 A631 c631 A776 c776) :: SA.own (.slice A776 m.fDependencies.length c776) 80 7 m.fDependencies.length (flatC Ty80.cells ((ds ++ [depC m.fDependencies[j] B901 b901]) ++ m.fDependencies.drop (j + 1))) :: SA.own (.slice B901 (cleansF m.fDependencies[j].fTags).length b901) 9 1 ((cleansF m.fDependencies[j].fTags).length) (strs (cleansF m.fDependencies[j].fTags)) :: SA.blk g800 80 (zq5 m.fDependencies[j]) :: SA.blk g1 26 (zq27 m B173 b173 B179 b179 A631 c631 A776 c776) :: SA.stars (ds.map SA.tg) :: SA.own (.slice Bm met.length bm) 9 1 met.length (strs met) :: SA.own (.slice A631 m.fMaintainers.length c631) 78 4 m.fMaintainers.length (flatC Ty78.cells (m.fMaintainers.map perC)) :: SA.own (.slice B179 (cleansF m.fKeywords).length b179) 9 1 ((cleansF m.fKeywords).length) (strs (cleansF m.fKeywords)) :: SA.own (.slice B173 (cleansF m.fSources).length b173) 9 1 ((cleansF m.fSources).length) (strs (cleansF m.fSources)) :: L) := Sp.emp S1050
         refine (F1051.resC (results2 Try.results60 (F1051.rvc (p := ⟨g3, 0, none⟩) (by kernel_rfl) (ld_mid (S1050.bk 0 rfl) 15 (by kernel_rfl) Try.underlying26 rfl (by kernel_rfl) (v := (zq27 m B173 b173 B179 b179 A631 c631 A776 c776)) (by kernel_rfl))) (F1051.rvt (v := .int .i64 8) (by kernel_rfl))) ?_).1
         exact ⟨{ m with fName := cleanF m.fName, fHome := cleanF m.fHome, fVersion := m.fVersion, fDescription := cleanF m.fDescription, fIcon := cleanF m.fIcon, fAPIVersion := m.fAPIVersion, fCondition := cleanF m.fCondition, fTags := cleanF m.fTags, fAppVersion := cleanF m.fAppVersion, fKubeVersion := cleanF m.fKubeVersion, fType := m.fType, fSources_a := B173, fSources_c := b173, fSources := cleansF m.fSources, fKeywords_a := B179, fKeywords_c := b179, fKeywords := cleansF m.fKeywords, fMaintainers_a := A631, fMaintainers_c := c631, fDependencies_a := A776, fDependencies_c := c776 }, 8, rfl, S1052.p1.drop.p1.drop.p1.drop.p1.drop.p1.drop.p1.drop.p1.drop.p1.drop.p1.drop.p1.drop, ((what_D hw1 hpa).trans (hwh.trans (whatD_8 hlt_j hno8))).symm, ⟨fun _ h => by omega, fun h => by omega⟩⟩
     ·have hc_j : decide ((↑j : Int) < ↑m.fDependencies.length) = false := by first | (simp; done) | (simp; omega)
      obtain rfl : j = m.fDependencies.length := by omega
      rw [List.drop_length, List.append_nil] at S790
      rw [List.take_length] at hds
      have hw0 : whatD m.fDependencies [] = 0 := by rw [hwh, List.drop_length]; rfl
      refine wp_seq_k fun K1053 hK1053 => ?_
      refine wp_region_lit ?_
      refine op_q F790 (.bool (decide ((↑m.fDependencies.length : Int) < ↑m.fDependencies.length))) ?_; intro a1054 F1054
      have F1055 := F1054.sb 140 (by kernel_rfl) hc_j
      refine wpList_nil ?_
      refine hK1053 _ _ ?_; clear hK1053 K1053
      refine wp_seq_k fun K1056 hK1056 => ?_
      refine wp_cond_false (F1055.ev (by kernel_rfl)) ?_
      refine wp_exit ?_
      refine ex_then ?_; clear hK1056 K1056
      refine ex_then ?_
      refine ex_in ?_
      refine hK782 _ _ ?_; clear hK782 K782
      refine wp_seq_k fun K1057 hK1057 => ?_
      refine wp_region_lit ?_
      refine op_rq (v := .agg (zq27 m B173 b173 B179 b179 A631 c631 A776 c776)) F1055 (r_ldm rfl (F1055.e (.pointer (some ⟨g1, 0, none⟩))) (S790.bk 0 rfl) 15 (by kernel_rfl) Try.underlying26 rfl (by kernel_rfl) (v := (zq27 m B173 b173 B179 b179 A631 c631 A776 c776)) (by kernel_rfl)) ?_; intro a1058 F1058
      refine op_sq0 F1058 (s_stb rfl (F1058.e (.pointer (some ⟨g3, 0, none⟩))) (F1058.e (.agg (zq27 m B173 b173 B179 b179 A631 c631 A776 c776))) S790.p7 (by kernel_rfl) rfl (by kernel_rfl)) ?_
      rintro _ _ w1059 rfl S1059 F1059
      refine op_q F1059 (.int .i64 0) ?_; intro a1060 F1060
      refine wpList_nil ?_
      refine hK1057 _ _ ?_; clear hK1057 K1057
      refine wp_ret ?_
      have hpl : (m.fMaintainers.map perC).length = m.fMaintainers.length := List.length_map _
      have hdl2 : ds.length = m.fDependencies.length := hdl
      have S1061 : Sp R w1059 (SA.blk g3 26 #[.string (cleanF m.fName), .string (cleanF m.fHome), .string m.fVersion, .string (cleanF m.fDescription), .string (cleanF m.fIcon), .string m.fAPIVersion, .string (cleanF m.fCondition), .string (cleanF m.fTags), .string (cleanF m.fAppVersion), .string (cleanF m.fKubeVersion), .string m.fType, .slice B173 ((cleansF m.fSources).length) b173, .slice B179 ((cleansF m.fKeywords).length) b179, .slice A631 m.fMaintainers.length c631, .slice A776 m.fDependencies.length c776] :: SA.blk g1 26 #[.string (cleanF m.fName), .string (cleanF m.fHome), .string m.fVersion, .string (cleanF m.fDescription), .string (cleanF m.fIcon), .string m.fAPIVersion, .string (cleanF m.fCondition), .string (cleanF m.fTags), .string (cleanF m.fAppVersion), .string (cleanF m.fKubeVersion), .string m.fType, .slice B173 ((cleansF m.fSources).length) b173, .slice B179 ((cleansF m.fKeywords).length) b179, .slice A631 m.fMaintainers.length c631, .slice A776 m.fDependencies.length c776] :: SA.own (.slice A776 m.fDependencies.length c776) 80 7 m.fDependencies.length (flatC Ty80.cells ds) :: SA.stars (ds.map SA.tg) :: SA.own (.slice Bm met.length bm) 9 1 met.length (strs met) :: SA.own (.slice A631 m.fMaintainers.length c631) 78 4 m.fMaintainers.length (flatC Ty78.cells (m.fMaintainers.map perC)) :: SA.own (.slice B179 (cleansF m.fKeywords).length b179) 9 1 ((cleansF m.fKeywords).length) (strs (cleansF m.fKeywords)) :: SA.own (.slice B173 (cleansF m.fSources).length b173) 9 1 ((cleansF m.fSources).length) (strs (cleansF m.fSources)) :: L) := S1059
      rw [← hpl, ← hdl2] at S1061
      have S1062 : Sp R w1059 (SA.cmR 0 (cmV m B173 b173 B179 b179 A631 c631 A776 c776 ds) :: SA.blk g3 26 #[.string (cleanF m.fName), .string (cleanF m.fHome), .string m.fVersion, .string (cleanF m.fDescription), .string (cleanF m.fIcon), .string m.fAPIVersion, .string (cleanF m.fCondition), .string (cleanF m.fTags), .string (cleanF m.fAppVersion), .string (cleanF m.fKubeVersion), .string m.fType, .slice B173 ((cleansF m.fSources).length) b173, .slice B179 ((cleansF m.fKeywords).length) b179, .slice A631 (m.fMaintainers.map perC).length c631, .slice A776 ds.length c776] :: SA.blk g1 26 #[.string (cleanF m.fName), .string (cleanF m.fHome), .string m.fVersion, .string (cleanF m.fDescription), .string (cleanF m.fIcon), .string m.fAPIVersion, .string (cleanF m.fCondition), .string (cleanF m.fTags), .string (cleanF m.fAppVersion), .string (cleanF m.fKubeVersion), .string m.fType, .slice B173 ((cleansF m.fSources).length) b173, .slice B179 ((cleansF m.fKeywords).length) b179, .slice A631 (m.fMaintainers.map perC).length c631, .slice A776 ds.length c776] :: SA.own (.slice Bm met.length bm) 9 1 met.length (strs met) :: L) := Sp.mv_own (y := (cmV m B173 b173 B179 b179 A631 c631 A776 c776 ds)) S1061.p3.p3.p5.p6.p7
      refine (F1060.resC (results2 Try.results60 (F1060.rvc (p := ⟨g3, 0, none⟩) (by kernel_rfl) (ld_mid (S1059.bk 0 rfl) 15 (by kernel_rfl) Try.underlying26 rfl (by kernel_rfl) (v := (zq27 m B173 b173 B179 b179 A631 c631 A776 c776)) (by kernel_rfl))) (F1060.rvt (v := .int .i64 0) (by kernel_rfl))) ?_).1
      exact ⟨(cmV m B173 b173 B179 b179 A631 c631 A776 c776 ds), 0, (by dsimp only [zq0, zq13, zq19, zq2, zq20, zq21, zq22, zq23, zq24, zq25, zq26, zq27, zq28, zq29, zq4, zq5, zq6, zq8]; rw [← hpl, ← hdl2]; rfl), S1062.p1.drop.p1.drop.p1.drop, ((what_D hw1 hpa).trans hw0).symm, ⟨fun h _ => by omega, fun _ => by unfold metS cmV clnA; simp only [hds, List.map_map]; rfl⟩⟩
end Go.Proofs.Ytkjcedlgljeoiaa

/- chart.Maintainer.Validate, Dependency.Validate, isValidSemver, isValidChartType. -/
namespace Go.Proofs.Ytkjcedlgljeoiaa
open Go.RowKit Go.Lib
set_option linter.unusedVariables false
set_option linter.unusedSimpArgs false
/-- An error of validation, or none. -/
def verV (b : Bool) (s : ByteArray) : Value := cond b (.iface 258 (.string s)) .nilIface
set_option maxRecDepth 100000 in
theorem r_verne {a : Act} {o : Oper} {w : World} {x : Operand} {b : Bool} {s : ByteArray} (ho : o.op = .binOp .neq 140 x (.const .nilIface) 140) (hx : a.eval x = verV b s) : (execOp a.eval o).run Try.prog w = .ok (.value (.bool b)) w := by
  unfold execOp
  have hn : a.eval (.const .nilIface) = .nilIface := rfl
  simp only [ho, hx, hn]
  clear ho hx; cases b <;> cases x <;> (first | rfl | (show _ = _; kernel_rfl) | (simp [verV, eqGuard, binOp]; rfl))
def setsF (xs : List ByteArray) (k : Nat) : List ByteArray := (xs.take k).map cleanF ++ xs.drop k
theorem setsF_zero (xs : List ByteArray) : setsF xs 0 = xs := by simp [setsF]
theorem setsF_len (xs : List ByteArray) (k : Nat) : (setsF xs k).length = xs.length := by simp [setsF]; omega
theorem setsF_get {xs : List ByteArray} {k : Nat} (h : k < xs.length) : (setsF xs k)[k]? = some xs[k] := by
  unfold setsF
  rw [List.getElem?_append_right (by simp; omega)]
  simp [Nat.min_eq_left (Nat.le_of_lt h), h]
theorem setsF_set {xs : List ByteArray} {k : Nat} (h : k < xs.length) : (setsF xs k).set k (cleanF xs[k]) = setsF xs (k + 1) := by
  unfold setsF
  rw [List.take_succ_eq_append_getElem h, List.drop_eq_getElem_cons h, List.set_append_right _ _ (by simp; omega)]
  have e : k - ((xs.take k).map cleanF).length = 0 := by simp; omega
  rw [e, List.set_cons_zero, List.map_append, List.append_assoc]
  rfl
theorem setsF_all (xs : List ByteArray) : setsF xs xs.length = cleansF xs := by simp [setsF, cleansF]
theorem cleansF_len (xs : List ByteArray) : (cleansF xs).length = xs.length := by simp [cleansF]
theorem word_alias {s : ByteArray} (h : (s.toList == (⟨#[]⟩ : ByteArray).toList) = false) : wordB s lowDash = aliasF s := wordB_alias s fun e => by
  have : s.size = 0 := by rw [← ByteArray.size_data]; rw [← Array.length_toList, e]; rfl
  have := emp_pos h
  omega
theorem alias_emp {s : ByteArray} (h : (s.toList == (⟨#[]⟩ : ByteArray).toList) = true) : aliasF s = true := by
  have : s = ⟨#[]⟩ := bytes_eqL h
  subst this; rfl
theorem newVer_p3 (s : ByteArray) (R : Ctx) (L : List SA) (w : World) (S : Sp R w L) (hs : s.size ≤ 1000000) (hp : plainB s = true) : Calls Try.prog 171 #[.string s] w fun e w' => ∃ g : Nat, e = .returned (.tuple #[.pointer (some ⟨g, 0, none⟩), .nilIface]) ∧ Sp R w' L :=
  (newVer_plain s w hs hp).mono fun e w' ⟨g, he, _, _, hb⟩ => ⟨g, he, S.below hb⟩
theorem errB_plainV {s : ByteArray} (h : errB s = true) : plainB s = false := by
  cases hp : plainB s with
  | false => rfl
  | true => rw [plain_ok hp] at h; cases h
set_option maxRecDepth 100000 in
set_option maxHeartbeats 20000000 in
theorem persVal_nil2  (R : Ctx) (L : List SA) (w : World) (S : Sp R w (L))   :
    Calls Try.prog 179 #[.pointer none] w fun e w' => ∃ s : ByteArray, e = .returned (verV true s) ∧ Sp R w' (L) ∧ (s.size ≤ 1000) := by
  refine fw_enter (fn := Try.f179) rfl rfl 30 rfl (Nat.le_of_ble_eq_true rfl) ?_
  intro a0 F0
  refine wp_seq_k fun K1 hK1 => ?_
  refine wp_region_lit ?_
  refine op_q F0 (.nilIface) ?_; intro a2 F2
  refine wpList_nil ?_
  refine hK1 _ _ ?_; clear hK1 K1
  refine wp_seq_k fun K3 hK3 => ?_
  refine wp_seq_k fun K4 hK4 => ?_
  refine wp_region_lit ?_
  refine op_q F2 (.pointer none) ?_; intro a5 F5
  refine op_q F5 (.bool true) ?_; intro a6 F6
  refine wpList_nil ?_
  refine hK4 _ _ ?_; clear hK4 K4
  refine wp_cond_true (F6.ev (by kernel_rfl)) ?_
  refine wp_seq_k fun K7 hK7 => ?_
  refine wp_region_lit ?_
  refine op_q F6 (.iface 258 (.string ⟨#[109, 97, 105, 110, 116, 97, 105, 110, 101, 114, 115, 32, 109, 117, 115, 116, 32, 110, 111, 116, 32, 99, 111, 110, 116, 97, 105, 110, 32, 101, 109, 112, 116, 121, 32, 111, 114, 32, 110, 117, 108, 108, 32, 110, 111, 100, 101, 115]⟩)) ?_; intro a8 F8
  refine op_q F8 (.iface 258 (.string ⟨#[109, 97, 105, 110, 116, 97, 105, 110, 101, 114, 115, 32, 109, 117, 115, 116, 32, 110, 111, 116, 32, 99, 111, 110, 116, 97, 105, 110, 32, 101, 109, 112, 116, 121, 32, 111, 114, 32, 110, 117, 108, 108, 32, 110, 111, 100, 101, 115]⟩)) ?_; intro a9 F9
  refine wpList_nil ?_
  refine hK7 _ _ ?_; clear hK7 K7
  refine wp_ret ?_
  refine ret_then ?_
  refine (F9.res1 rfl (v := .iface 258 (.string ⟨#[109, 97, 105, 110, 116, 97, 105, 110, 101, 114, 115, 32, 109, 117, 115, 116, 32, 110, 111, 116, 32, 99, 111, 110, 116, 97, 105, 110, 32, 101, 109, 112, 116, 121, 32, 111, 114, 32, 110, 117, 108, 108, 32, 110, 111, 100, 101, 115]⟩)) (by kernel_rfl) ?_).1
  exact ⟨(⟨#[109, 97, 105, 110, 116, 97, 105, 110, 101, 114, 115, 32, 109, 117, 115, 116, 32, 110, 111, 116, 32, 99, 111, 110, 116, 97, 105, 110, 32, 101, 109, 112, 116, 121, 32, 111, 114, 32, 110, 117, 108, 108, 32, 110, 111, 100, 101, 115]⟩ : ByteArray), rfl, S, (by decide)⟩
set_option maxRecDepth 100000 in
set_option maxHeartbeats 20000000 in
theorem depVal_nil2  (R : Ctx) (L : List SA) (w : World) (S : Sp R w (L))   :
    Calls Try.prog 180 #[.pointer none] w fun e w' => ∃ s : ByteArray, e = .returned (verV true s) ∧ Sp R w' (L) ∧ (s.size ≤ 1000) := by
  refine fw_enter (fn := Try.f180) rfl rfl 76 rfl (Nat.le_of_ble_eq_true rfl) ?_
  intro a0 F0
  refine wp_seq_k fun K1 hK1 => ?_
  refine wp_region_lit ?_
  refine op_q F0 (.nilIface) ?_; intro a2 F2
  refine wpList_nil ?_
  refine hK1 _ _ ?_; clear hK1 K1
  refine wp_seq_k fun K3 hK3 => ?_
  refine wp_seq_k fun K4 hK4 => ?_
  refine wp_region_lit ?_
  refine op_q F2 (.pointer none) ?_; intro a5 F5
  refine op_q F5 (.bool true) ?_; intro a6 F6
  refine wpList_nil ?_
  refine hK4 _ _ ?_; clear hK4 K4
  refine wp_cond_true (F6.ev (by kernel_rfl)) ?_
  refine wp_seq_k fun K7 hK7 => ?_
  refine wp_region_lit ?_
  refine op_q F6 (.iface 258 (.string ⟨#[100, 101, 112, 101, 110, 100, 101, 110, 99, 105, 101, 115, 32, 109, 117, 115, 116, 32, 110, 111, 116, 32, 99, 111, 110, 116, 97, 105, 110, 32, 101, 109, 112, 116, 121, 32, 111, 114, 32, 110, 117, 108, 108, 32, 110, 111, 100, 101, 115]⟩)) ?_; intro a8 F8
  refine op_q F8 (.iface 258 (.string ⟨#[100, 101, 112, 101, 110, 100, 101, 110, 99, 105, 101, 115, 32, 109, 117, 115, 116, 32, 110, 111, 116, 32, 99, 111, 110, 116, 97, 105, 110, 32, 101, 109, 112, 116, 121, 32, 111, 114, 32, 110, 117, 108, 108, 32, 110, 111, 100, 101, 115]⟩)) ?_; intro a9 F9
  refine wpList_nil ?_
  refine hK7 _ _ ?_; clear hK7 K7
  refine wp_ret ?_
  refine ret_then ?_
  refine (F9.res1 rfl (v := .iface 258 (.string ⟨#[100, 101, 112, 101, 110, 100, 101, 110, 99, 105, 101, 115, 32, 109, 117, 115, 116, 32, 110, 111, 116, 32, 99, 111, 110, 116, 97, 105, 110, 32, 101, 109, 112, 116, 121, 32, 111, 114, 32, 110, 117, 108, 108, 32, 110, 111, 100, 101, 115]⟩)) (by kernel_rfl) ?_).1
  exact ⟨(⟨#[100, 101, 112, 101, 110, 100, 101, 110, 99, 105, 101, 115, 32, 109, 117, 115, 116, 32, 110, 111, 116, 32, 99, 111, 110, 116, 97, 105, 110, 32, 101, 109, 112, 116, 121, 32, 111, 114, 32, 110, 117, 108, 108, 32, 110, 111, 100, 101, 115]⟩ : ByteArray), rfl, S, (by decide)⟩
set_option maxRecDepth 100000 in
set_option maxHeartbeats 20000000 in
theorem persVal_some2 (p : Ty78) (g : Nat) (R : Ctx) (L : List SA) (w : World) (S : Sp R w (SA.blk (g) 270 #[.string (p.fName), .string (p.fEmail), .string (p.fURL)] :: L))  (hs0 : p.fName.size ≤ 1000000) (hs1 : p.fEmail.size ≤ 1000000) (hs2 : p.fURL.size ≤ 1000000) (ha0 : asciiB p.fName) (ha1 : asciiB p.fEmail) (ha2 : asciiB p.fURL) :
  Calls Try.prog 179 #[.pointer (some ⟨g, 0, none⟩)] w fun e w' => e = .returned (.nilIface) ∧ Sp R w' (SA.blk (g) 270 #[.string (cleanF p.fName), .string (cleanF p.fEmail), .string (cleanF p.fURL)] :: L) := by
 refine fw_enter (fn := Try.f179) rfl rfl 30 rfl (Nat.le_of_ble_eq_true rfl) ?_
 intro a0 F0
 refine wp_seq_k fun K1 hK1 => ?_
 refine wp_region_lit ?_
 refine op_q F0 (.nilIface) ?_; intro a2 F2
 refine wpList_nil ?_
 refine hK1 _ _ ?_; clear hK1 K1
 refine wp_seq_k fun K3 hK3 => ?_
 refine wp_seq_k fun K4 hK4 => ?_
 refine wp_region_lit ?_
 refine op_q F2 (.pointer (some ⟨g, 0, none⟩)) ?_; intro a5 F5
 refine op_q F5 (.bool false) ?_; intro a6 F6
 refine wpList_nil ?_
 refine hK4 _ _ ?_; clear hK4 K4
 refine wp_cond_false (F6.ev (by kernel_rfl)) ?_
 refine wp_skip ?_
 refine hK3 _ _ ?_; clear hK3 K3
 refine wp_seq_k fun K7 hK7 => ?_
 refine wp_region_lit ?_
 refine op_q F6 (.pointer (some ⟨g, 0, none⟩)) ?_; intro a8 F8
 refine op_q F8 (.pointer (some ⟨g, 0, none⟩)) ?_; intro a9 F9
 refine op_q F9 (.pointer (some ⟨g, 0, none⟩)) ?_; intro a10 F10
 refine op_q F10 (.pointer (some ⟨g, 0, none⟩)) ?_; intro a11 F11
 refine op_rq (v := .string p.fName) F11 (r_ld rfl (F11.e (.pointer (some ⟨g, 0, none⟩))) (v := .string p.fName) ((S.bk 0 rfl).cell 0) Try.underlying9 rfl) ?_; intro a12 F12
 refine op_cq F12 (f := 175) (args := #[.string p.fName]) (sanStr_any p.fName _ (by first | omega | (simp; done) | (simp; omega)) (by assumption)) ?_
 rintro _ w13 ⟨rfl, hb_13⟩
 refine ⟨_, rfl, ?_⟩
 intro a14 F14
 have S13 := S.below hb_13
 refine op_q F14 (.pointer (some ⟨g, 0, none⟩)) ?_; intro a15 F15
 refine op_q F15 (.pointer (some ⟨g, 0, none⟩)) ?_; intro a16 F16
 refine op_sq0 F16 (s_st rfl (F16.e (.pointer (some ⟨g, 0, none⟩))) (F16.e (.string (cleanF p.fName))) S13 (by kernel_rfl) rfl rfl rfl (cs := #[.string (cleanF p.fName), .string p.fEmail, .string p.fURL]) (by kernel_rfl)) ?_
 rintro _ _ w17 rfl S17 F17
 refine wpList_nil ?_
 refine hK7 _ _ ?_; clear hK7 K7
 refine wp_seq_k fun K18 hK18 => ?_
 refine wp_region_lit ?_
 refine op_q F17 (.pointer (some ⟨g, 0, none⟩)) ?_; intro a19 F19
 refine op_q F19 (.pointer (some ⟨g, 0, none⟩)) ?_; intro a20 F20
 refine op_q F20 (.pointer (some ⟨g, 0, none⟩)) ?_; intro a21 F21
 refine op_q F21 (.pointer (some ⟨g, 1, none⟩)) ?_; intro a22 F22
 refine op_rq (v := .string p.fEmail) F22 (r_ld rfl (F22.e (.pointer (some ⟨g, 1, none⟩))) (v := .string p.fEmail) ((S17.bk 0 rfl).cell 1) Try.underlying9 rfl) ?_; intro a23 F23
 refine op_cq F23 (f := 175) (args := #[.string p.fEmail]) (sanStr_any p.fEmail _ (by first | omega | (simp; done) | (simp; omega)) (by assumption)) ?_
 rintro _ w24 ⟨rfl, hb_24⟩
 refine ⟨_, rfl, ?_⟩
 intro a25 F25
 have S24 := S17.below hb_24
 refine op_q F25 (.pointer (some ⟨g, 0, none⟩)) ?_; intro a26 F26
 refine op_q F26 (.pointer (some ⟨g, 1, none⟩)) ?_; intro a27 F27
 refine op_sq0 F27 (s_st rfl (F27.e (.pointer (some ⟨g, 1, none⟩))) (F27.e (.string (cleanF p.fEmail))) S24 (by kernel_rfl) rfl rfl rfl (cs := #[.string (cleanF p.fName), .string (cleanF p.fEmail), .string p.fURL]) (by kernel_rfl)) ?_
 rintro _ _ w28 rfl S28 F28
 refine wpList_nil ?_
 refine hK18 _ _ ?_; clear hK18 K18
 refine wp_seq_k fun K29 hK29 => ?_
 refine wp_region_lit ?_
 refine op_q F28 (.pointer (some ⟨g, 0, none⟩)) ?_; intro a30 F30
 refine op_q F30 (.pointer (some ⟨g, 0, none⟩)) ?_; intro a31 F31
 refine op_q F31 (.pointer (some ⟨g, 0, none⟩)) ?_; intro a32 F32
 refine op_q F32 (.pointer (some ⟨g, 2, none⟩)) ?_; intro a33 F33
 refine op_rq (v := .string p.fURL) F33 (r_ld rfl (F33.e (.pointer (some ⟨g, 2, none⟩))) (v := .string p.fURL) ((S28.bk 0 rfl).cell 2) Try.underlying9 rfl) ?_; intro a34 F34
 refine op_cq F34 (f := 175) (args := #[.string p.fURL]) (sanStr_any p.fURL _ (by first | omega | (simp; done) | (simp; omega)) (by assumption)) ?_
 rintro _ w35 ⟨rfl, hb_35⟩
 refine ⟨_, rfl, ?_⟩
 intro a36 F36
 have S35 := S28.below hb_35
 refine op_q F36 (.pointer (some ⟨g, 0, none⟩)) ?_; intro a37 F37
 refine op_q F37 (.pointer (some ⟨g, 2, none⟩)) ?_; intro a38 F38
 refine op_sq0 F38 (s_st rfl (F38.e (.pointer (some ⟨g, 2, none⟩))) (F38.e (.string (cleanF p.fURL))) S35 (by kernel_rfl) rfl rfl rfl (cs := #[.string (cleanF p.fName), .string (cleanF p.fEmail), .string (cleanF p.fURL)]) (by kernel_rfl)) ?_
 rintro _ _ w39 rfl S39 F39
 refine wpList_nil ?_
 refine hK29 _ _ ?_; clear hK29 K29
 refine wp_seq_k fun K40 hK40 => ?_
 refine wp_region_lit ?_
 refine op_q F39 (.nilIface) ?_; intro a41 F41
 refine wpList_nil ?_
 refine hK40 _ _ ?_; clear hK40 K40
 refine wp_ret ?_
 refine (F41.res1 rfl (v := .nilIface) (by kernel_rfl) ?_).1
 exact ⟨rfl, S39⟩
set_option maxRecDepth 100000 in
set_option maxHeartbeats 20000000 in
theorem chType_sp (t : ByteArray) (R : Ctx) (L : List SA) (w : World) (S : Sp R w (L))   :
  Calls Try.prog 178 #[.string t] w fun e w' => e = .returned (.bool (!(badType t))) ∧ Sp R w' (L) := by
 refine fw_enter (fn := Try.f178) rfl rfl 8 rfl (Nat.le_of_ble_eq_true rfl) ?_
 intro a0 F0
 refine wp_seq_k fun K1 hK1 => ?_
 refine wp_region_lit ?_
 refine op_q F0 (.bool false) ?_; intro a2 F2
 refine wpList_nil ?_
 refine hK1 _ _ ?_; clear hK1 K1
 refine wp_seq_k fun K3 hK3 => ?_
 refine wp_seq_k fun K4 hK4 => ?_
 refine wp_region_lit ?_
 refine op_q F2 (.string t) ?_; intro a5 F5
 refine wpList_nil ?_
 refine hK4 _ _ ?_; clear hK4 K4
 refine wp_block ?_
 refine wp_seq_k fun K6 hK6 => ?_
 refine wp_seq_k fun K7 hK7 => ?_
 refine wp_region_lit ?_
 refine op_q F5 (.bool (t.toList == (⟨#[]⟩ : ByteArray).toList)) ?_; intro a8 F8
 refine op_q F8 (.bool (t.toList == (⟨#[]⟩ : ByteArray).toList)) ?_; intro a9 F9
 refine wpList_nil ?_
 refine hK7 _ _ ?_; clear hK7 K7
 rcases btf (t.toList == (⟨#[]⟩ : ByteArray).toList) with hc10 | hc10
 ·have F11 := F9.sb 5 (by kernel_rfl) hc10
  have F12 := F11.sb 4 (by kernel_rfl) hc10
  refine wp_cond_true (F12.ev (by kernel_rfl)) ?_
  refine wp_skip ?_
  refine hK6 _ _ ?_; clear hK6 K6
  refine wp_cond_true (F12.ev (by kernel_rfl)) ?_
  refine wp_seq_k fun K13 hK13 => ?_
  refine wp_region_lit ?_
  refine op_q F12 (.bool true) ?_; intro a14 F14
  refine wpList_nil ?_
  refine hK13 _ _ ?_; clear hK13 K13
  refine wp_ret ?_
  refine ret_in ?_
  refine ret_then ?_
  refine (F14.res1 rfl (v := .bool true) (by kernel_rfl) ?_).1
  exact ⟨(by unfold badType; rw [hc10]; rfl), S⟩
 ·have F15 := F9.sb 5 (by kernel_rfl) hc10
  have F16 := F15.sb 4 (by kernel_rfl) hc10
  refine wp_cond_false (F16.ev (by kernel_rfl)) ?_
  refine wp_seq_k fun K17 hK17 => ?_
  refine wp_region_lit ?_
  refine op_q F16 (.bool (t.toList == (⟨#[97, 112, 112, 108, 105, 99, 97, 116, 105, 111, 110]⟩ : ByteArray).toList)) ?_; intro a18 F18
  refine op_q F18 (.bool (t.toList == (⟨#[97, 112, 112, 108, 105, 99, 97, 116, 105, 111, 110]⟩ : ByteArray).toList)) ?_; intro a19 F19
  refine wpList_nil ?_
  refine hK17 _ _ ?_; clear hK17 K17
  rcases btf (t.toList == (⟨#[97, 112, 112, 108, 105, 99, 97, 116, 105, 111, 110]⟩ : ByteArray).toList) with hc20 | hc20
  ·have F21 := F19.sb 4 (by kernel_rfl) hc20
   have F22 := F21.sb 6 (by kernel_rfl) hc20
   refine wp_cond_true (F22.ev (by kernel_rfl)) ?_
   refine wp_skip ?_
   refine hK6 _ _ ?_; clear hK6 K6
   refine wp_cond_true (F22.ev (by kernel_rfl)) ?_
   refine wp_seq_k fun K23 hK23 => ?_
   refine wp_region_lit ?_
   refine op_q F22 (.bool true) ?_; intro a24 F24
   refine wpList_nil ?_
   refine hK23 _ _ ?_; clear hK23 K23
   refine wp_ret ?_
   refine ret_in ?_
   refine ret_then ?_
   refine (F24.res1 rfl (v := .bool true) (by kernel_rfl) ?_).1
   exact ⟨(by unfold badType; rw [hc10, hc20]; rfl), S⟩
  ·have F25 := F19.sb 4 (by kernel_rfl) hc20
   have F26 := F25.sb 6 (by kernel_rfl) hc20
   refine wp_cond_false (F26.ev (by kernel_rfl)) ?_
   refine wp_region_lit ?_
   refine op_q F26 (.bool (t.toList == (⟨#[108, 105, 98, 114, 97, 114, 121]⟩ : ByteArray).toList)) ?_; intro a27 F27
   refine op_q F27 (.bool (t.toList == (⟨#[108, 105, 98, 114, 97, 114, 121]⟩ : ByteArray).toList)) ?_; intro a28 F28
   refine wpList_nil ?_
   refine hK6 _ _ ?_; clear hK6 K6
   rcases btf (t.toList == (⟨#[108, 105, 98, 114, 97, 114, 121]⟩ : ByteArray).toList) with hc29 | hc29
   ·have F30 := F28.sb 4 (by kernel_rfl) hc29
    have F31 := F30.sb 7 (by kernel_rfl) hc29
    refine wp_cond_true (F31.ev (by kernel_rfl)) ?_
    refine wp_seq_k fun K32 hK32 => ?_
    refine wp_region_lit ?_
    refine op_q F31 (.bool true) ?_; intro a33 F33
    refine wpList_nil ?_
    refine hK32 _ _ ?_; clear hK32 K32
    refine wp_ret ?_
    refine ret_in ?_
    refine ret_then ?_
    refine (F33.res1 rfl (v := .bool true) (by kernel_rfl) ?_).1
    exact ⟨(by unfold badType; rw [hc10, hc20, hc29]; rfl), S⟩
   ·have F34 := F28.sb 4 (by kernel_rfl) hc29
    have F35 := F34.sb 7 (by kernel_rfl) hc29
    refine wp_cond_false (F35.ev (by kernel_rfl)) ?_
    refine wp_skip ?_
    refine hK3 _ _ ?_; clear hK3 K3
    refine wp_seq_k fun K36 hK36 => ?_
    refine wp_region_lit ?_
    refine op_q F35 (.bool false) ?_; intro a37 F37
    refine wpList_nil ?_
    refine hK36 _ _ ?_; clear hK36 K36
    refine wp_ret ?_
    refine (F37.res1 rfl (v := .bool false) (by kernel_rfl) ?_).1
    exact ⟨(by unfold badType; rw [hc10, hc20, hc29]; rfl), S⟩
set_option maxRecDepth 100000 in
set_option maxHeartbeats 20000000 in
theorem semverOk_sp (s : ByteArray) (R : Ctx) (L : List SA) (w : World) (S : Sp R w (L))  (hs : s.size ≤ 1000000) (hv : plainB s = true ∨ errB s = true) :
    Calls Try.prog 177 #[.string s] w fun e w' => e = .returned (.bool (plainB s)) ∧ Sp R w' (L) := by
  refine fw_enter (fn := Try.f177) rfl rfl 12 rfl (Nat.le_of_ble_eq_true rfl) ?_
  intro a0 F0
  refine wp_seq_k fun K1 hK1 => ?_
  refine wp_region_lit ?_
  refine op_q F0 (.bool false) ?_; intro a2 F2
  refine wpList_nil ?_
  refine hK1 _ _ ?_; clear hK1 K1
  refine wp_seq_k fun K3 hK3 => ?_
  rcases hv with hv | hv
  · skip
    refine wp_region_lit ?_
    refine op_q F2 (.string s) ?_; intro a4 F4
    refine op_cq F4 (f := 171) (args := #[.string s]) (newVer_p3 s _ _ _ S (by first | omega | (simp; done) | (simp; omega)) hv) ?_
    rintro _ w5 ⟨g5, rfl, S5⟩
    refine ⟨_, rfl, ?_⟩
    intro a6 F6
    refine op_q F6 (.tuple #[.pointer (some ⟨g5, 0, none⟩), .nilIface]) ?_; intro a7 F7
    refine op_q F7 (.pointer (some ⟨g5, 0, none⟩)) ?_; intro a8 F8
    refine op_q F8 (.nilIface) ?_; intro a9 F9
    refine op_q F9 (.pointer (some ⟨g5, 0, none⟩)) ?_; intro a10 F10
    refine op_q F10 (.nilIface) ?_; intro a11 F11
    refine wpList_nil ?_
    refine hK3 _ _ ?_; clear hK3 K3
    refine wp_seq_k fun K12 hK12 => ?_
    refine wp_region_lit ?_
    refine op_q F11 (.nilIface) ?_; intro a13 F13
    refine op_q F13 (.bool true) ?_; intro a14 F14
    refine op_q F14 (.bool true) ?_; intro a15 F15
    refine wpList_nil ?_
    refine hK12 _ _ ?_; clear hK12 K12
    refine wp_ret ?_
    refine (F15.res1 rfl (v := .bool true) (by kernel_rfl) ?_).1
    exact ⟨(ret_bool hv.symm), S5⟩
  · skip
    refine wp_region_lit ?_
    refine op_q F2 (.string s) ?_; intro a16 F16
    refine op_cq F16 (f := 171) (args := #[.string s]) (newVer_err s _ (by first | omega | (simp; done) | (simp; omega)) hv) ?_
    rintro _ w17 ⟨g17, rfl, hb_17⟩
    refine ⟨_, rfl, ?_⟩
    intro a18 F18
    have S17 := S.below hb_17
    refine op_q F18 (.tuple #[.pointer none, .iface 279 (.pointer (some ⟨g17, 0, none⟩))]) ?_; intro a19 F19
    refine op_q F19 (.pointer none) ?_; intro a20 F20
    refine op_q F20 (.iface 279 (.pointer (some ⟨g17, 0, none⟩))) ?_; intro a21 F21
    refine op_q F21 (.pointer none) ?_; intro a22 F22
    refine op_q F22 (.iface 279 (.pointer (some ⟨g17, 0, none⟩))) ?_; intro a23 F23
    refine wpList_nil ?_
    refine hK3 _ _ ?_; clear hK3 K3
    refine wp_seq_k fun K24 hK24 => ?_
    refine wp_region_lit ?_
    refine op_q F23 (.iface 279 (.pointer (some ⟨g17, 0, none⟩))) ?_; intro a25 F25
    refine op_q F25 (.bool false) ?_; intro a26 F26
    refine op_q F26 (.bool false) ?_; intro a27 F27
    refine wpList_nil ?_
    refine hK24 _ _ ?_; clear hK24 K24
    refine wp_ret ?_
    refine (F27.res1 rfl (v := .bool false) (by kernel_rfl) ?_).1
    exact ⟨(ret_bool (errB_plainV hv).symm), S17⟩
abbrev zq30 (x0 : Ty80) (x1 : Option Addr) (x2 : Nat) : Array Value := #[.string (cleanF x0.fName), .string (cleanF x0.fVersion), .string (cleanF x0.fRepository), .string (cleanF x0.fCondition), .slice (x1) (x0.fTags.length) (x2), .bool false, .slice none 0 0, .string x0.fAlias]
abbrev zq31 : Array UInt8 := #[100, 101, 112, 101, 110, 100, 101, 110, 99, 121, 32, 104, 97, 115, 32, 100, 105, 115, 97, 108, 108, 111, 119, 101, 100, 32, 99, 104, 97, 114, 97, 99, 116, 101, 114, 115, 32, 105, 110, 32, 116, 104, 101, 32, 97, 108, 105, 97, 115]
set_option maxRecDepth 100000 in
set_option maxHeartbeats 20000000 in
theorem depVal_some2 (d : Ty80) (g : Nat) (A : Option Addr) (c : Nat) (R : Ctx) (L : List SA) (w : World) (S : Sp R w (SA.blk (g) 262 #[.string (d.fName), .string (d.fVersion), .string (d.fRepository), .string (d.fCondition), .slice (A) (d.fTags.length) (c), .bool false, .slice none 0 0, .string (d.fAlias)] :: SA.own0 (.slice A d.fTags.length c) 9 1 (d.fTags.length) (strs d.fTags) :: L))  (hs0 : d.fName.size ≤ 1000000) (hs1 : d.fVersion.size ≤ 1000000) (hs2 : d.fRepository.size ≤ 1000000) (hs3 : d.fCondition.size ≤ 1000000) (hs4 : d.fAlias.size ≤ 1000000) (ha0 : asciiB d.fName) (ha1 : asciiB d.fVersion) (ha2 : asciiB d.fRepository) (ha3 : asciiB d.fCondition) (hx : ∀ x ∈ d.fTags, x.size ≤ 1000000) (hxa : ∀ x ∈ d.fTags, asciiB x) (hxn : d.fTags.length ≤ 1000000) :
  Calls Try.prog 180 #[.pointer (some ⟨g, 0, none⟩)] w fun e w' => ∃ b : Bool, ∃ s : ByteArray, e = .returned (verV b s) ∧ Sp R w' (SA.blk (g) 262 #[.string (cleanF d.fName), .string (cleanF d.fVersion), .string (cleanF d.fRepository), .string (cleanF d.fCondition), .slice (A) (d.fTags.length) (c), .bool false, .slice none 0 0, .string (d.fAlias)] :: SA.own0 (.slice A d.fTags.length c) 9 1 (d.fTags.length) (strs (cleansF d.fTags)) :: L) ∧ (b = !aliasF d.fAlias) ∧ (s.size ≤ 1000) := by
 refine fw_enter (fn := Try.f180) rfl rfl 76 rfl (Nat.le_of_ble_eq_true rfl) ?_
 intro a0 F0
 refine wp_seq_k fun K1 hK1 => ?_
 refine wp_region_lit ?_
 refine op_q F0 (.nilIface) ?_; intro a2 F2
 refine wpList_nil ?_
 refine hK1 _ _ ?_; clear hK1 K1
 refine wp_seq_k fun K3 hK3 => ?_
 refine wp_seq_k fun K4 hK4 => ?_
 refine wp_region_lit ?_
 refine op_q F2 (.pointer (some ⟨g, 0, none⟩)) ?_; intro a5 F5
 refine op_q F5 (.bool false) ?_; intro a6 F6
 refine wpList_nil ?_
 refine hK4 _ _ ?_; clear hK4 K4
 refine wp_cond_false (F6.ev (by kernel_rfl)) ?_
 refine wp_skip ?_
 refine hK3 _ _ ?_; clear hK3 K3
 refine wp_seq_k fun K7 hK7 => ?_
 refine wp_region_lit ?_
 refine op_q F6 (.pointer (some ⟨g, 0, none⟩)) ?_; intro a8 F8
 refine op_q F8 (.pointer (some ⟨g, 0, none⟩)) ?_; intro a9 F9
 refine op_q F9 (.pointer (some ⟨g, 0, none⟩)) ?_; intro a10 F10
 refine op_q F10 (.pointer (some ⟨g, 0, none⟩)) ?_; intro a11 F11
 refine op_rq (v := .string d.fName) F11 (r_ld rfl (F11.e (.pointer (some ⟨g, 0, none⟩))) (v := .string d.fName) ((S.bk 0 rfl).cell 0) Try.underlying9 rfl) ?_; intro a12 F12
 refine op_cq F12 (f := 175) (args := #[.string d.fName]) (sanStr_any d.fName _ (by first | omega | (simp; done) | (simp; omega)) (by assumption)) ?_
 rintro _ w13 ⟨rfl, hb_13⟩
 refine ⟨_, rfl, ?_⟩
 intro a14 F14
 have S13 := S.below hb_13
 refine op_q F14 (.pointer (some ⟨g, 0, none⟩)) ?_; intro a15 F15
 refine op_q F15 (.pointer (some ⟨g, 0, none⟩)) ?_; intro a16 F16
 refine op_sq0 F16 (s_st rfl (F16.e (.pointer (some ⟨g, 0, none⟩))) (F16.e (.string (cleanF d.fName))) S13 (by kernel_rfl) rfl rfl rfl (cs := #[.string (cleanF d.fName), .string d.fVersion, .string d.fRepository, .string d.fCondition, .slice (A) (d.fTags.length) (c), .bool false, .slice none 0 0, .string d.fAlias]) (by kernel_rfl)) ?_
 rintro _ _ w17 rfl S17 F17
 refine wpList_nil ?_
 refine hK7 _ _ ?_; clear hK7 K7
 refine wp_seq_k fun K18 hK18 => ?_
 refine wp_region_lit ?_
 refine op_q F17 (.pointer (some ⟨g, 0, none⟩)) ?_; intro a19 F19
 refine op_q F19 (.pointer (some ⟨g, 0, none⟩)) ?_; intro a20 F20
 refine op_q F20 (.pointer (some ⟨g, 0, none⟩)) ?_; intro a21 F21
 refine op_q F21 (.pointer (some ⟨g, 1, none⟩)) ?_; intro a22 F22
 refine op_rq (v := .string d.fVersion) F22 (r_ld rfl (F22.e (.pointer (some ⟨g, 1, none⟩))) (v := .string d.fVersion) ((S17.bk 0 rfl).cell 1) Try.underlying9 rfl) ?_; intro a23 F23
 refine op_cq F23 (f := 175) (args := #[.string d.fVersion]) (sanStr_any d.fVersion _ (by first | omega | (simp; done) | (simp; omega)) (by assumption)) ?_
 rintro _ w24 ⟨rfl, hb_24⟩
 refine ⟨_, rfl, ?_⟩
 intro a25 F25
 have S24 := S17.below hb_24
 refine op_q F25 (.pointer (some ⟨g, 0, none⟩)) ?_; intro a26 F26
 refine op_q F26 (.pointer (some ⟨g, 1, none⟩)) ?_; intro a27 F27
 refine op_sq0 F27 (s_st rfl (F27.e (.pointer (some ⟨g, 1, none⟩))) (F27.e (.string (cleanF d.fVersion))) S24 (by kernel_rfl) rfl rfl rfl (cs := #[.string (cleanF d.fName), .string (cleanF d.fVersion), .string d.fRepository, .string d.fCondition, .slice (A) (d.fTags.length) (c), .bool false, .slice none 0 0, .string d.fAlias]) (by kernel_rfl)) ?_
 rintro _ _ w28 rfl S28 F28
 refine wpList_nil ?_
 refine hK18 _ _ ?_; clear hK18 K18
 refine wp_seq_k fun K29 hK29 => ?_
 refine wp_region_lit ?_
 refine op_q F28 (.pointer (some ⟨g, 0, none⟩)) ?_; intro a30 F30
 refine op_q F30 (.pointer (some ⟨g, 0, none⟩)) ?_; intro a31 F31
 refine op_q F31 (.pointer (some ⟨g, 0, none⟩)) ?_; intro a32 F32
 refine op_q F32 (.pointer (some ⟨g, 2, none⟩)) ?_; intro a33 F33
 refine op_rq (v := .string d.fRepository) F33 (r_ld rfl (F33.e (.pointer (some ⟨g, 2, none⟩))) (v := .string d.fRepository) ((S28.bk 0 rfl).cell 2) Try.underlying9 rfl) ?_; intro a34 F34
 refine op_cq F34 (f := 175) (args := #[.string d.fRepository]) (sanStr_any d.fRepository _ (by first | omega | (simp; done) | (simp; omega)) (by assumption)) ?_
 rintro _ w35 ⟨rfl, hb_35⟩
 refine ⟨_, rfl, ?_⟩
 intro a36 F36
 have S35 := S28.below hb_35
 refine op_q F36 (.pointer (some ⟨g, 0, none⟩)) ?_; intro a37 F37
 refine op_q F37 (.pointer (some ⟨g, 2, none⟩)) ?_; intro a38 F38
 refine op_sq0 F38 (s_st rfl (F38.e (.pointer (some ⟨g, 2, none⟩))) (F38.e (.string (cleanF d.fRepository))) S35 (by kernel_rfl) rfl rfl rfl (cs := #[.string (cleanF d.fName), .string (cleanF d.fVersion), .string (cleanF d.fRepository), .string d.fCondition, .slice (A) (d.fTags.length) (c), .bool false, .slice none 0 0, .string d.fAlias]) (by kernel_rfl)) ?_
 rintro _ _ w39 rfl S39 F39
 refine wpList_nil ?_
 refine hK29 _ _ ?_; clear hK29 K29
 refine wp_seq_k fun K40 hK40 => ?_
 refine wp_region_lit ?_
 refine op_q F39 (.pointer (some ⟨g, 0, none⟩)) ?_; intro a41 F41
 refine op_q F41 (.pointer (some ⟨g, 0, none⟩)) ?_; intro a42 F42
 refine op_q F42 (.pointer (some ⟨g, 0, none⟩)) ?_; intro a43 F43
 refine op_q F43 (.pointer (some ⟨g, 3, none⟩)) ?_; intro a44 F44
 refine op_rq (v := .string d.fCondition) F44 (r_ld rfl (F44.e (.pointer (some ⟨g, 3, none⟩))) (v := .string d.fCondition) ((S39.bk 0 rfl).cell 3) Try.underlying9 rfl) ?_; intro a45 F45
 refine op_cq F45 (f := 175) (args := #[.string d.fCondition]) (sanStr_any d.fCondition _ (by first | omega | (simp; done) | (simp; omega)) (by assumption)) ?_
 rintro _ w46 ⟨rfl, hb_46⟩
 refine ⟨_, rfl, ?_⟩
 intro a47 F47
 have S46 := S39.below hb_46
 refine op_q F47 (.pointer (some ⟨g, 0, none⟩)) ?_; intro a48 F48
 refine op_q F48 (.pointer (some ⟨g, 3, none⟩)) ?_; intro a49 F49
 refine op_sq0 F49 (s_st rfl (F49.e (.pointer (some ⟨g, 3, none⟩))) (F49.e (.string (cleanF d.fCondition))) S46 (by kernel_rfl) rfl rfl rfl (cs := (zq30 d A c)) (by kernel_rfl)) ?_
 rintro _ _ w50 rfl S50 F50
 refine wpList_nil ?_
 refine hK40 _ _ ?_; clear hK40 K40
 refine wp_seq_k fun K51 hK51 => ?_
 refine wp_seq_k fun K52 hK52 => ?_
 refine wp_region_lit ?_
 refine op_q F50 (.pointer (some ⟨g, 0, none⟩)) ?_; intro a53 F53
 refine op_q F53 (.pointer (some ⟨g, 0, none⟩)) ?_; intro a54 F54
 refine op_q F54 (.pointer (some ⟨g, 4, none⟩)) ?_; intro a55 F55
 refine op_rq (v := .slice (A) (d.fTags.length) (c)) F55 (r_ld rfl (F55.e (.pointer (some ⟨g, 4, none⟩))) (v := .slice (A) (d.fTags.length) (c)) ((S50.bk 0 rfl).cell 4) Try.underlying22 rfl) ?_; intro a56 F56
 refine op_q F56 (.int .i64 (↑d.fTags.length)) ?_; intro a57 F57
 refine op_q F57 (.int .i64 0) ?_; intro a58 F58
 refine wpList_nil ?_
 refine hK52 _ _ ?_; clear hK52 K52
 refine wp_block ?_
 have S59 : Sp R w50 (SA.own0 (.slice A d.fTags.length c) 9 1 d.fTags.length (strs (setsF d.fTags 0)) :: SA.blk g 262 (zq30 d A c) :: L) := by rw [setsF_zero]; exact S50.p1
 refine fw_loop (fun m' a' w' => ∃ i : Nat, d.fTags.length - i = m' ∧ Fr 76 [] a' [(0, .pointer (some ⟨g, 0, none⟩)), (2, .nilIface), (43, .int .i64 (↑d.fTags.length)), (44, .int .i64 (↑i))] ∧ Sp R w' (SA.own0 (.slice A d.fTags.length c) 9 1 d.fTags.length (strs (setsF d.fTags i)) :: SA.blk g 262 (zq30 d A c) :: L) ∧ (i ≤ d.fTags.length)) _ ⟨0, rfl, (F58.kk 0 (F58.kk 2 (F58.kk 43 (F58.kk 44 F58.nil)))), S59.p1.p1, (by first | omega | (with_reducible assumption) | (simp; done))⟩ ?_
 rintro m60 a60 w60 ⟨i, hm60, F60, S60, hi⟩ K60 hK60
 by_cases hlt_i : i < d.fTags.length
 ·have hc_i : decide ((↑i : Int) < ↑d.fTags.length) = true := by first | (simp; done) | (simp; omega)
  have hxi := hx _ (List.getElem_mem hlt_i)
  have hxai := hxa _ (List.getElem_mem hlt_i)
  obtain ⟨ad61, hA61⟩ := (own0_sl1 (S60.ow0 0 rfl) (by omega)).addr (by simp [strs, setsF_len]; omega)
  refine wp_seq_k fun K62 hK62 => ?_
  refine wp_region_lit ?_
  refine op_q F60 (.bool (decide ((↑i : Int) < ↑d.fTags.length))) ?_; intro a63 F63
  have F64 := F63.sb 45 (by kernel_rfl) hc_i
  refine wpList_nil ?_
  refine hK62 _ _ ?_; clear hK62 K62
  refine wp_seq_k fun K65 hK65 => ?_
  refine wp_cond_true (F64.ev (by kernel_rfl)) ?_
  refine wp_skip ?_
  refine hK65 _ _ ?_; clear hK65 K65
  refine wp_seq_k fun K66 hK66 => ?_
  refine wp_block ?_
  refine wp_seq_k fun K67 hK67 => ?_
  refine wp_region_lit ?_
  refine op_q F64 (.int .i64 (↑i)) ?_; intro a68 F68
  refine op_q F68 (.int .i64 (↑i)) ?_; intro a69 F69
  refine wpList_nil ?_
  refine hK67 _ _ ?_; clear hK67 K67
  refine wp_region_sepF (L0 := SA.own0 (.slice A d.fTags.length c) 9 1 d.fTags.length (strs (setsF d.fTags i)) :: SA.blk g 262 (zq30 d A c) :: L) [some [], some [(0, 47)], some [(1, 48)], some [(2, 49)], some [], some [], some [(5, 52)], some [(6, 53)], some [(7, 54)], some [], some [(8, 55), (9, 56)], some [(10, 57)], some [(11, 58)], some [(3, 50), (4, 51)], none] [.v 47 (.pointer (some ⟨g, 0, none⟩)), .v 48 (.pointer (some ⟨g, 0, none⟩)), .v 49 (.pointer (some ⟨g, 4, none⟩)), .v 50 (.slice (A) (d.fTags.length) (c)), .v 51 (.int .i64 (↑i)), .v 52 (.pointer (some ⟨g, 0, none⟩)), .v 53 (.pointer (some ⟨g, 0, none⟩)), .v 54 (.pointer (some ⟨g, 4, none⟩)), .v 55 (.slice (A) (d.fTags.length) (c)), .v 56 (.int .i64 (↑i)), .v 57 (.pointer (some (ad61.add i))), .v 58 (.string d.fTags[i]), .v 59 (.string (cleanF d.fTags[i])), .v 60 (.pointer (some (ad61.add i))), .n SA.emp (fun _ _ A => A = SA.emp)] [] F69 rfl (by kernel_rfl) S60 ?_ ?_
  ·refine ⟨?_, ?_, ?_, ?_, ?_, ?_, ?_, ?_, ?_, ?_, ?_, ?_, ?_, ?_, trivial⟩
   ·intro w97 M97
    intro a97 F97 S97
    refine obl_of (by rfl) ?_
    exact s_p F97 (v := .pointer (some ⟨g, 0, none⟩)) (by kernel_rfl) (by kernel_rfl) (by kernel_rfl) S97
   ·intro w98 M98
    intro a98 F98 S98
    refine obl_of (by rfl) ?_
    exact s_p F98 (v := .pointer (some ⟨g, 0, none⟩)) (by kernel_rfl) (by kernel_rfl) (by kernel_rfl) S98
   ·intro w100 M100
    intro a100 F100 S100
    refine obl_of (by rfl) ?_
    exact s_p F100 (v := .pointer (some ⟨g, 4, none⟩)) (by kernel_rfl) (by kernel_rfl) (by kernel_rfl) S100
   ·intro w102 M102
    intro a102 F102 S102
    refine obl_of (by rfl) ?_
    exact s_r (v := .slice (A) (d.fTags.length) (c)) (r_ld rfl (F102.e (.pointer (some ⟨g, 4, none⟩))) (v := .slice (A) (d.fTags.length) (c)) (((Sp.dropM S102.drop).bk 1 rfl).cell 4) Try.underlying22 rfl) S102
   ·intro w104 M104
    intro a104 F104 S104
    refine obl_of (by rfl) ?_
    exact s_p F104 (v := .int .i64 (↑i)) (by kernel_rfl) (by kernel_rfl) (by kernel_rfl) S104
   ·intro w105 M105
    intro a105 F105 S105
    refine obl_of (by rfl) ?_
    exact s_p F105 (v := .pointer (some ⟨g, 0, none⟩)) (by kernel_rfl) (by kernel_rfl) (by kernel_rfl) S105
   ·intro w106 M106
    intro a106 F106 S106
    refine obl_of (by rfl) ?_
    exact s_p F106 (v := .pointer (some ⟨g, 0, none⟩)) (by kernel_rfl) (by kernel_rfl) (by kernel_rfl) S106
   ·intro w108 M108
    intro a108 F108 S108
    refine obl_of (by rfl) ?_
    exact s_p F108 (v := .pointer (some ⟨g, 4, none⟩)) (by kernel_rfl) (by kernel_rfl) (by kernel_rfl) S108
   ·intro w110 M110
    intro a110 F110 S110
    refine obl_of (by rfl) ?_
    exact s_r (v := .slice (A) (d.fTags.length) (c)) (r_ld rfl (F110.e (.pointer (some ⟨g, 4, none⟩))) (v := .slice (A) (d.fTags.length) (c)) (((Sp.dropM S110.drop).bk 1 rfl).cell 4) Try.underlying22 rfl) S110
   ·intro w112 M112
    intro a112 F112 S112
    refine obl_of (by rfl) ?_
    exact s_p F112 (v := .int .i64 (↑i)) (by kernel_rfl) (by kernel_rfl) (by kernel_rfl) S112
   ·intro w113 M113
    intro a113 F113 S113
    refine obl_of (by rfl) ?_
    exact s_r (v := .pointer (some (ad61.add i))) (r_ix rfl Try.underlying22 1 (by kernel_rfl) (F113.e (.slice (A) (d.fTags.length) (c))) hA61 (F113.e (.int .i64 (↑i))) i (by first | rfl | omega | simp) (by first | omega | (simp; done) | (simp; omega)) (by simp only [Nat.mul_one])) S113
   ·intro w116 M116
    intro a116 F116 S116
    refine obl_of (by rfl) ?_
    exact s_r (v := .string d.fTags[i]) (r_ld rfl (F116.e (.pointer (some (ad61.add i)))) (v := .string d.fTags[i]) ((own0_sl1 ((Sp.dropM S116.drop).ow0 0 rfl) (by omega)).elA hA61 (j := i) (by rw [strs, List.getElem?_map, setsF_get hlt_i]; rfl)) Try.underlying9 rfl) S116
   ·intro w118 M118
    intro a118 F118 S118
    refine obl_of (by rfl) ?_
    refine s_c F118 (f := 175) (args := #[.string d.fTags[i]]) (by kernel_rfl) (by kernel_rfl) (by kernel_rfl) (sanStr_any d.fTags[i] _ (by first | omega | (simp; done) | (simp; omega)) (by assumption)) ?_
    rintro _ _ ⟨rfl, hb_120⟩
    exact ⟨_, _, rfl, ⟨rfl, rfl⟩, S118.below hb_120⟩
   ·intro w121 M121
    intro a121 F121 S121
    refine obl_of (by rfl) ?_
    exact s_r (v := .pointer (some (ad61.add i))) (r_ix rfl Try.underlying22 1 (by kernel_rfl) (F121.e (.slice (A) (d.fTags.length) (c))) hA61 (F121.e (.int .i64 (↑i))) i (by first | rfl | omega | simp) (by first | omega | (simp; done) | (simp; omega)) (by simp only [Nat.mul_one])) S121
  ·intro a125 w124 F125 S124
   have S126 : Sp R w124 (SA.own0 (.slice A d.fTags.length c) 9 1 d.fTags.length (strs (setsF d.fTags i)) :: SA.blk g 262 (zq30 d A c) :: L) := S124
   refine op_sq0 F125 (s_sts0 rfl (F125.e (.pointer (some (ad61.add i)))) (F125.e (.string (cleanF d.fTags[i]))) hA61 rfl S126 (setsF_len _ _) hlt_i (by kernel_rfl) (setsF_set hlt_i)) ?_
   rintro _ _ w127 rfl S127 F127
   refine wpList_nil ?_
   refine hK66 _ _ ?_; clear hK66 K66
   refine wp_region_lit ?_
   refine op_rq (v := .int .i64 (↑(i + 1))) F127 (r_add (z := ↑(i + 1)) rfl (F127.e (.int .i64 (↑i))) (F127.e (.int .i64 1)) (wr64 (by omega) (by omega) (by omega))) ?_; intro a128 F128
   refine op_q F128 (.int .i64 (↑(i + 1))) ?_; intro a129 F129
   refine wpList_nil ?_
   exact hK60 _ _ _ (by first | omega | (simp; omega)) ⟨i + 1, rfl, (F129.kk 0 (F129.kk 2 (F129.kk 43 (F129.kk 44 F129.nil)))), S127.p1.p1, (by first | omega | (with_reducible assumption) | (simp; done))⟩
 ·have hc_i : decide ((↑i : Int) < ↑d.fTags.length) = false := by first | (simp; done) | (simp; omega)
  obtain rfl : i = d.fTags.length := by omega
  rw [setsF_all] at S60
  refine wp_seq_k fun K130 hK130 => ?_
  refine wp_region_lit ?_
  refine op_q F60 (.bool (decide ((↑d.fTags.length : Int) < ↑d.fTags.length))) ?_; intro a131 F131
  have F132 := F131.sb 45 (by kernel_rfl) hc_i
  refine wpList_nil ?_
  refine hK130 _ _ ?_; clear hK130 K130
  refine wp_seq_k fun K133 hK133 => ?_
  refine wp_cond_false (F132.ev (by kernel_rfl)) ?_
  refine wp_exit ?_
  refine ex_then ?_; clear hK133 K133
  refine ex_then ?_
  refine ex_in ?_
  refine hK51 _ _ ?_; clear hK51 K51
  refine wp_seq_k fun K134 hK134 => ?_
  refine wp_seq_k fun K135 hK135 => ?_
  refine wp_region_lit ?_
  refine op_q F132 (.pointer (some ⟨g, 0, none⟩)) ?_; intro a136 F136
  refine op_q F136 (.pointer (some ⟨g, 0, none⟩)) ?_; intro a137 F137
  refine op_q F137 (.pointer (some ⟨g, 7, none⟩)) ?_; intro a138 F138
  refine op_rq (v := .string d.fAlias) F138 (r_ld rfl (F138.e (.pointer (some ⟨g, 7, none⟩))) (v := .string d.fAlias) ((S60.bk 1 rfl).cell 7) Try.underlying9 rfl) ?_; intro a139 F139
  refine op_q F139 (.bool (!(d.fAlias.toList == (⟨#[]⟩ : ByteArray).toList))) ?_; intro a140 F140
  refine op_q F140 (.bool (!(d.fAlias.toList == (⟨#[]⟩ : ByteArray).toList))) ?_; intro a141 F141
  rcases btf (d.fAlias.toList == (⟨#[]⟩ : ByteArray).toList) with hc142 | hc142
  ·have F143 := F141.sb 66 (by kernel_rfl) (show (!(d.fAlias.toList == (⟨#[]⟩ : ByteArray).toList)) = false by rw [hc142]; rfl)
   have F144 := F143.sb 67 (by kernel_rfl) (show (!(d.fAlias.toList == (⟨#[]⟩ : ByteArray).toList)) = false by rw [hc142]; rfl)
   refine op_kq F144 ?_; intro a145 F145
   refine op_kq F145 ?_; intro a146 F146
   refine op_kq F146 ?_; intro a147 F147
   refine op_kq F147 ?_; intro a148 F148
   refine op_kq F148 ?_; intro a149 F149
   refine op_kq F149 ?_; intro a150 F150
   refine op_q F150 (.bool false) ?_; intro a151 F151
   refine wpList_nil ?_
   refine hK135 _ _ ?_; clear hK135 K135
   refine wp_cond_false (F151.ev (by kernel_rfl)) ?_
   refine wp_skip ?_
   refine hK134 _ _ ?_; clear hK134 K134
   refine wp_seq_k fun K152 hK152 => ?_
   refine wp_region_lit ?_
   refine op_q F151 (.nilIface) ?_; intro a153 F153
   refine wpList_nil ?_
   refine hK152 _ _ ?_; clear hK152 K152
   refine wp_ret ?_
   refine (F153.res1 rfl (v := .nilIface) (by kernel_rfl) ?_).1
   exact ⟨false, (⟨#[]⟩ : ByteArray), rfl, S60.p1, (by rw [alias_emp hc142]; rfl), (by decide)⟩
  ·have F154 := F141.sb 66 (by kernel_rfl) (show (!(d.fAlias.toList == (⟨#[]⟩ : ByteArray).toList)) = true by rw [hc142]; rfl)
   have F155 := F154.sb 67 (by kernel_rfl) (show (!(d.fAlias.toList == (⟨#[]⟩ : ByteArray).toList)) = true by rw [hc142]; rfl)
   refine op_wq F155 ?_
   refine op_q F155 (.pointer (some ⟨g, 0, none⟩)) ?_; intro a156 F156
   refine op_wq F156 ?_
   refine op_q F156 (.pointer (some ⟨g, 0, none⟩)) ?_; intro a157 F157
   refine op_wq F157 ?_
   refine op_q F157 (.pointer (some ⟨g, 7, none⟩)) ?_; intro a158 F158
   refine op_wq F158 ?_
   refine op_rq (v := .string d.fAlias) F158 (r_ld rfl (F158.e (.pointer (some ⟨g, 7, none⟩))) (v := .string d.fAlias) ((S60.bk 1 rfl).cell 7) Try.underlying9 rfl) ?_; intro a159 F159
   refine op_wq F159 ?_
   refine op_cq F159 (f := 146) (args := #[.string d.fAlias, .string ⟨#[95, 45]⟩]) (word_any d.fAlias ⟨#[95, 45]⟩ _ (by show d.fAlias.size + 2 ≤ _; omega)) ?_
   rintro _ _ ⟨rfl, rfl⟩
   refine ⟨_, rfl, ?_⟩
   intro a161 F161
   refine op_wq F161 ?_
   refine op_q F161 (.bool (!(wordB d.fAlias ⟨#[95, 45]⟩))) ?_; intro a162 F162
   refine op_q F162 (.bool (!(wordB d.fAlias ⟨#[95, 45]⟩))) ?_; intro a163 F163
   refine wpList_nil ?_
   refine hK135 _ _ ?_; clear hK135 K135
   rcases btf (wordB d.fAlias ⟨#[95, 45]⟩) with hc164 | hc164
   ·have F165 := F163.sb 72 (by kernel_rfl) hc164
    have F166 := F165.sb 73 (by kernel_rfl) (show (!(wordB d.fAlias ⟨#[95, 45]⟩)) = false by rw [hc164]; rfl)
    have F167 := F166.sb 74 (by kernel_rfl) (show (!(wordB d.fAlias ⟨#[95, 45]⟩)) = false by rw [hc164]; rfl)
    refine wp_cond_false (F167.ev (by kernel_rfl)) ?_
    refine wp_skip ?_
    refine hK134 _ _ ?_; clear hK134 K134
    refine wp_seq_k fun K168 hK168 => ?_
    refine wp_region_lit ?_
    refine op_q F167 (.nilIface) ?_; intro a169 F169
    refine wpList_nil ?_
    refine hK168 _ _ ?_; clear hK168 K168
    refine wp_ret ?_
    refine (F169.res1 rfl (v := .nilIface) (by kernel_rfl) ?_).1
    exact ⟨false, (⟨#[]⟩ : ByteArray), rfl, S60.p1, (by rw [← word_alias hc142, show wordB d.fAlias lowDash = true from hc164]; rfl), (by decide)⟩
   ·have F170 := F163.sb 72 (by kernel_rfl) hc164
    have F171 := F170.sb 73 (by kernel_rfl) (show (!(wordB d.fAlias ⟨#[95, 45]⟩)) = true by rw [hc164]; rfl)
    have F172 := F171.sb 74 (by kernel_rfl) (show (!(wordB d.fAlias ⟨#[95, 45]⟩)) = true by rw [hc164]; rfl)
    refine wp_cond_true (F172.ev (by kernel_rfl)) ?_
    refine wp_seq_k fun K173 hK173 => ?_
    refine wp_region_lit ?_
    refine op_q F172 (.iface 258 (.string ⟨zq31⟩)) ?_; intro a174 F174
    refine op_q F174 (.iface 258 (.string ⟨zq31⟩)) ?_; intro a175 F175
    refine wpList_nil ?_
    refine hK173 _ _ ?_; clear hK173 K173
    refine wp_ret ?_
    refine ret_then ?_
    refine (F175.res1 rfl (v := .iface 258 (.string ⟨zq31⟩)) (by kernel_rfl) ?_).1
    exact ⟨true, (⟨zq31⟩ : ByteArray), rfl, S60.p1, (by rw [← word_alias hc142, show wordB d.fAlias lowDash = false from hc164]; rfl), (by decide)⟩
end Go.Proofs.Ytkjcedlgljeoiaa

