/- Texts Vm7, laid together. -/
import Derived.WalkKit
import Derived.WalkLawsBesides
import Derived.WalkSpells
import Derived.Lib.Hide
import Derived.Deep.RegionWith
import Derived.Deep.DeepCutAuto
import Derived.Deep.QuietTactic
import Derived.BigQuiet
import Derived.Laws.OwnMore
import Derived.Deep.LoopGhost
import Derived.KernelRfl
import Derived.Deep.WholeRow
import Derived.StillTail
import Derived.SliceStrings
import Derived.Deep.Slices
import Derived.Deep.Fields
import Derived.ChangeSame
import Derived.Deep.MidRow
import Derived.Maps.AppendAt
import Derived.Lib.AppendStr
import Derived.Lib.ConvBytes
import Derived.Laws.BytesArg
import Derived.Deep.RegionLaw
import Derived.OwnWalk
import Derived.Maps.OwnSet
import Derived.Maps.OwnOps
import Derived.ArgAppend
import Derived.Defers
import Derived.Recover
import Derived.Laws.Pointers
import Derived.Laws.StructEq
import Derived.IntWalk
import Derived.Test.YtkjcedlgljeoiaaProg
import Derived.BigRegion
import Derived.Deep.CutBlock
import Derived.Carry
import Derived.Test.YtkjcedlgljeoiaaVMf
/- Plain law of FnValidMeta, and its walk. -/
namespace Go.Proofs.Ytkjcedlgljeoiaa
open Go.RowKit Go.Lib
set_option linter.unusedVariables false
set_option linter.unusedSimpArgs false
theorem fits_Z {m : Ty26} (h : fits37 m = true) : fitsZ m := by
  simp only [fits37, fits3, fits89, fits90, Bool.and_eq_true, decide_eq_true_eq, List.all_eq_true] at h
  refine ⟨by omega, fun x hx => ?_, fun x hx => ?_, fun p hp => ?_, fun d hd => ?_⟩
  · have := h.1.1.1.2.2 x hx; omega
  · have := h.1.1.2.2 x hx; omega
  · have := h.1.2.2 p hp
    simp only [fits151, Bool.and_eq_true, decide_eq_true_eq] at this
    omega
  · have := h.2.2 d hd
    simp only [fits152, fits3, Bool.and_eq_true, decide_eq_true_eq, List.all_eq_true] at this
    exact ⟨by omega, fun x hx => by have := this.1.2.2 x hx; omega⟩
theorem asc_ok (s : ByteArray) : (ascF s).size ≤ 1000000 ∧ asciiB (ascF s) := ⟨by have := asc_size s; omega, asc_ascii s⟩
theorem emp_ok : ((⟨#[]⟩ : ByteArray).size ≤ 1000000) ∧ asciiB (⟨#[]⟩ : ByteArray) := ⟨by decide, fun j h => absurd h (Nat.not_lt_zero _)⟩
theorem some_ok {xs : List ByteArray} : ∀ x ∈ someF xs, x.size ≤ 1000000 ∧ asciiB x := fun x hx => by
  obtain ⟨y, _, rfl⟩ := List.mem_map.1 hx; exact asc_ok y
/-- What holds of metadata that fit. -/
structure FitOk (y : Ty26) : Prop where
  mil : metMil y
  asc : metAsc y
  lens : y.fSources.length ≤ 1000000 ∧ y.fKeywords.length ≤ 1000000 ∧ y.fMaintainers.length ≤ 1000000 ∧ y.fDependencies.length ≤ 1000000 ∧ ∀ d ∈ y.fDependencies, d.fTags.length ≤ 1000000
  fits : mfitsB y = true
  ver : plainB y.fVersion = true ∨ errB y.fVersion = true
  per : ∀ p ∈ y.fMaintainers, perT p = p
  dep : ∀ d ∈ y.fDependencies, depT d none 0 = depS d
theorem fit_ok {m y : Ty26} (h : metS y = fitT m) : FitOk y := by
 have hE : ∀ {α : Type} (f : Ty26 → α), f (metS y) = f (fitT m) := fun f => by rw [h]
 have eS : y.fSources = someF m.fSources := hE (·.fSources)
 have eK : y.fKeywords = someF m.fKeywords := hE (·.fKeywords)
 have eM : y.fMaintainers = (m.fMaintainers.take 6).map perA := hE (·.fMaintainers)
 have eD : y.fDependencies.map depS = (m.fDependencies.take 6).map fun d => depA d none 0 := hE (·.fDependencies)
 have eName : y.fName = ascF m.fName := hE (·.fName)
 have eHome : y.fHome = ascF m.fHome := hE (·.fHome)
 have eDescription : y.fDescription = ascF m.fDescription := hE (·.fDescription)
 have eIcon : y.fIcon = ascF m.fIcon := hE (·.fIcon)
 have eAPIVersion : y.fAPIVersion = ascF m.fAPIVersion := hE (·.fAPIVersion)
 have eCondition : y.fCondition = ascF m.fCondition := hE (·.fCondition)
 have eTags : y.fTags = ascF m.fTags := hE (·.fTags)
 have eAppVersion : y.fAppVersion = ascF m.fAppVersion := hE (·.fAppVersion)
 have eKubeVersion : y.fKubeVersion = ascF m.fKubeVersion := hE (·.fKubeVersion)
 have eType : y.fType = ascF m.fType := hE (·.fType)
 have eV : y.fVersion = verF (ascF m.fVersion) := hE (·.fVersion)
 have hM : ∀ p ∈ y.fMaintainers, ∃ q, p = perA q := fun p hp => by rw [eM] at hp; obtain ⟨q, _, rfl⟩ := List.mem_map.1 hp; exact ⟨q, rfl⟩
 have hD : ∀ d ∈ y.fDependencies, ∃ e, depS d = depA e none 0 := fun d hd => by
  have : depS d ∈ y.fDependencies.map depS := List.mem_map.2 ⟨d, hd, rfl⟩
  rw [eD] at this; obtain ⟨e, _, he⟩ := List.mem_map.1 this; exact ⟨e, he.symm⟩
 have lM : y.fMaintainers.length ≤ 6 := by rw [eM]; simp; omega
 have lD : y.fDependencies.length ≤ 6 := by have := congrArg List.length eD; simp at this; omega
 have hper : ∀ q : Ty78, ((perA q).fName.size ≤ 1000000 ∧ (perA q).fEmail.size ≤ 1000000 ∧ (perA q).fURL.size ≤ 1000000) ∧ asciiB (perA q).fName ∧ asciiB (perA q).fEmail ∧ asciiB (perA q).fURL := fun q => by
  unfold perA
  cases q.fNil with
  | true => exact ⟨⟨emp_ok.1, emp_ok.1, emp_ok.1⟩, emp_ok.2, emp_ok.2, emp_ok.2⟩
  | false => exact ⟨⟨(asc_ok _).1, (asc_ok _).1, (asc_ok _).1⟩, (asc_ok _).2, (asc_ok _).2, (asc_ok _).2⟩
 have hdep : ∀ d ∈ y.fDependencies, ((d.fName.size ≤ 1000000 ∧ d.fVersion.size ≤ 1000000 ∧ d.fRepository.size ≤ 1000000 ∧ d.fCondition.size ≤ 1000000 ∧ d.fAlias.size ≤ 1000000) ∧ (∀ x ∈ d.fTags, x.size ≤ 1000000) ∧ d.fTags.length ≤ 6) ∧ (asciiB d.fName ∧ asciiB d.fVersion ∧ asciiB d.fRepository ∧ asciiB d.fCondition) ∧ ∀ x ∈ d.fTags, asciiB x := fun d hd => by
  obtain ⟨e, he⟩ := hD d hd
  have hF : ∀ {α : Type} (f : Ty80 → α), f (depS d) = f (depA e none 0) := fun f => by rw [he]
  have e1 : d.fName = (depA e none 0).fName := hF (·.fName)
  have e2 : d.fVersion = (depA e none 0).fVersion := hF (·.fVersion)
  have e3 : d.fRepository = (depA e none 0).fRepository := hF (·.fRepository)
  have e4 : d.fCondition = (depA e none 0).fCondition := hF (·.fCondition)
  have e5 : d.fTags = (depA e none 0).fTags := hF (·.fTags)
  have e6 : d.fAlias = (depA e none 0).fAlias := hF (·.fAlias)
  rw [e1, e2, e3, e4, e5, e6]
  unfold depA
  cases e.fNil with
  | true => exact ⟨⟨⟨emp_ok.1, emp_ok.1, emp_ok.1, emp_ok.1, emp_ok.1⟩, (fun x hx => by cases hx), Nat.zero_le _⟩, ⟨emp_ok.2, emp_ok.2, emp_ok.2, emp_ok.2⟩, fun x hx => by cases hx⟩
  | false => exact ⟨⟨⟨(asc_ok _).1, (asc_ok _).1, (asc_ok _).1, (asc_ok _).1, (asc_ok _).1⟩, fun x hx => (some_ok x hx).1, someF_len _⟩, ⟨(asc_ok _).2, (asc_ok _).2, (asc_ok _).2, (asc_ok _).2⟩, fun x hx => (some_ok x hx).2⟩
 have lS := someF_len m.fSources
 have lK := someF_len m.fKeywords
 refine ⟨⟨?_, fun x hx => ?_, fun x hx => ?_, fun p hp => ?_, fun d hd => ?_⟩, ⟨?_, fun x hx => ?_, fun x hx => ?_, fun p hp => ?_, fun d hd => ?_⟩, ⟨by rw [eS]; omega, by rw [eK]; omega, by omega, by omega, fun d hd => by have := (hdep d hd).1.2.2; omega⟩, ?_, by rw [eV]; exact verF_cases _, fun p hp => ?_, fun d hd => ?_⟩
 ·rw [eName, eHome, eDescription, eIcon, eAPIVersion, eCondition, eTags, eAppVersion, eKubeVersion, eType, eV]
  exact ⟨(asc_ok _).1, (asc_ok _).1, by have := verF_size (ascF m.fVersion); have := asc_size m.fVersion; omega, (asc_ok _).1, (asc_ok _).1, (asc_ok _).1, (asc_ok _).1, (asc_ok _).1, (asc_ok _).1, (asc_ok _).1, (asc_ok _).1⟩
 ·rw [eS] at hx; exact (some_ok x hx).1
 ·rw [eK] at hx; exact (some_ok x hx).1
 ·obtain ⟨q, rfl⟩ := hM p hp; exact (hper q).1
 ·obtain ⟨⟨a, b, c⟩, _⟩ := hdep d hd; exact ⟨a, b, by omega⟩
 ·rw [eName, eDescription, eHome, eIcon, eCondition, eTags, eAppVersion, eKubeVersion]
  exact ⟨(asc_ok _).2, (asc_ok _).2, (asc_ok _).2, (asc_ok _).2, (asc_ok _).2, (asc_ok _).2, (asc_ok _).2, (asc_ok _).2⟩
 ·rw [eS] at hx; exact (some_ok x hx).2
 ·rw [eK] at hx; exact (some_ok x hx).2
 ·obtain ⟨q, rfl⟩ := hM p hp; exact (hper q).2
 ·exact (hdep d hd).2
 ·simp only [mfitsB, Bool.and_eq_true, decide_eq_true_eq]; rw [eS, eK]; omega
 ·obtain ⟨q, rfl⟩ := hM p hp; exact perT_A
 ·obtain ⟨e, he⟩ := hD d hd
  have h1 : depT (depS d) none 0 = depT d none 0 := rfl
  rw [← h1, he]; exact depT_A
theorem map_id2 {α : Type} {f : α → α} {xs : List α} (h : ∀ x ∈ xs, f x = x) : xs.map f = xs := by
  conv => rhs; rw [← List.map_id xs]
  exact List.map_congr_left h
/-- What is told of metadata whose texts alone are turned. -/
theorem told_6 {y : Ty26} (h : FitOk y) : metT (cln8 y) = metS (cln8 y) := by
  unfold metT
  have e1 : (cln8 y).fMaintainers.map perT = (cln8 y).fMaintainers := map_id2 h.per
  have e2 : ((cln8 y).fDependencies.map fun d => depT d none 0).map depS = (cln8 y).fDependencies.map depS := by
    rw [List.map_map]; exact List.map_congr_left fun d hd => by show depS (depT d none 0) = depS d; rw [h.dep d hd]; rfl
  unfold metS
  simp only [e1, e2]
theorem told_0 {y : Ty26} (hw : whatF y = 0) : metT (clnA y) = metS (clnA y) := by
  have h1 : what1 y = 0 := by
    unfold whatF at hw
    cases hb : Nat.beq (what1 y) 0 with
    | true => exact Nat.eq_of_beq_eq_true hb
    | false => rw [hb] at hw; exact hw
  have hp : (y.fMaintainers.any fun p => p.fNil) = false := by
    unfold whatF at hw
    rw [h1] at hw
    cases hb : y.fMaintainers.any fun p => p.fNil with
    | false => rfl
    | true => rw [hb] at hw; cases hw
  have hd : whatD y.fDependencies [] = 0 := by
    unfold whatF at hw
    rw [h1, hp] at hw; exact hw
  have hdn : ∀ (ds : List Ty80) (met : List ByteArray), whatD ds met = 0 → ∀ d ∈ ds, d.fNil = false := by
    intro ds
    induction ds with
    | nil => intro _ _ d hd; cases hd
    | cons e es ih =>
      intro met hw d hd
      unfold whatD at hw
      cases hc : (e.fNil || !aliasF e.fAlias) with
      | true => rw [hc] at hw; cases hw
      | false =>
        rw [hc] at hw
        cases hm : (met.any fun s => s.toList == (keyF e).toList) with
        | true => rw [hm] at hw; cases hw
        | false =>
          rw [hm] at hw
          rcases List.mem_cons.1 hd with rfl | hd
          · cases hn : d.fNil with
            | false => rfl
            | true => rw [hn] at hc; cases hc
          · exact ih _ hw d hd
  have hpn : ∀ p ∈ y.fMaintainers, p.fNil = false := fun p hm => by
    have := List.any_eq_false.1 hp p hm
    simpa using this
  have e1 : (clnA y).fMaintainers.map perT = (clnA y).fMaintainers := map_id2 fun p hm => by
    obtain ⟨q, hq, rfl⟩ := List.mem_map.1 hm
    exact perT_ok (p := perC q) (hpn q hq)
  have e2 : ((clnA y).fDependencies.map fun d => depT d none 0).map depS = (clnA y).fDependencies.map depS := by
    rw [List.map_map]; exact List.map_congr_left fun d hm => by
      obtain ⟨q, hq, rfl⟩ := List.mem_map.1 hm
      show depS (depT (depC q none 0) none 0) = depS (depC q none 0)
      rw [depT_ok (d := depC q none 0) (hdn _ _ hd q hq)]; rfl
  unfold metT metS
  simp only [e1, e2]
theorem same_val {y y2 y3 : Ty26} {t : ByteArray} (h : FitOk y) (hv : ValR y y2 t) (hm : MRes y y3 (whatF y)) (h7 : whatF y < 7) : metS y2 = metS y3 := by
  by_cases h0 : whatF y = 0
  · rw [hv.2.2.1 h0, hm.2 h0, told_0 h0]
  · have h1 : 1 ≤ whatF y := by omega
    rw [hv.2.2.2 h1 (by omega), (hm.1 h1 (by omega)).1, told_6 h]
theorem lens_S {y z : Ty26} (h : metS y = metS z) (hz : z.fSources.length ≤ 1000000 ∧ z.fKeywords.length ≤ 1000000 ∧ z.fMaintainers.length ≤ 1000000 ∧ z.fDependencies.length ≤ 1000000 ∧ ∀ d ∈ z.fDependencies, d.fTags.length ≤ 1000000) : y.fSources.length ≤ 1000000 ∧ y.fKeywords.length ≤ 1000000 ∧ y.fMaintainers.length ≤ 1000000 ∧ y.fDependencies.length ≤ 1000000 ∧ ∀ d ∈ y.fDependencies, d.fTags.length ≤ 1000000 := by
  have hE : ∀ {α : Type} (f : Ty26 → α), f (metS y) = f (metS z) := fun f => by rw [h]
  have e1 : y.fSources = z.fSources := hE (·.fSources)
  have e2 : y.fKeywords = z.fKeywords := hE (·.fKeywords)
  have e3 : y.fMaintainers = z.fMaintainers := hE (·.fMaintainers)
  have e4 : y.fDependencies.map depS = z.fDependencies.map depS := hE (·.fDependencies)
  refine ⟨by rw [e1]; exact hz.1, by rw [e2]; exact hz.2.1, by rw [e3]; exact hz.2.2.1, by have := congrArg List.length e4; simp at this; omega, fun d hd => ?_⟩
  have : depS d ∈ y.fDependencies.map depS := List.mem_map.2 ⟨d, hd, rfl⟩
  rw [e4] at this
  obtain ⟨e, he, hes⟩ := List.mem_map.1 this
  have h5 : e.fTags = d.fTags := show (depS e).fTags = (depS d).fTags by rw [hes]
  rw [← h5]; exact hz.2.2.2.2 e he
theorem lens_A {y : Ty26} (h : y.fSources.length ≤ 1000000 ∧ y.fKeywords.length ≤ 1000000 ∧ y.fMaintainers.length ≤ 1000000 ∧ y.fDependencies.length ≤ 1000000 ∧ ∀ d ∈ y.fDependencies, d.fTags.length ≤ 1000000) : (clnA y).fSources.length ≤ 1000000 ∧ (clnA y).fKeywords.length ≤ 1000000 ∧ (clnA y).fMaintainers.length ≤ 1000000 ∧ (clnA y).fDependencies.length ≤ 1000000 ∧ ∀ d ∈ (clnA y).fDependencies, d.fTags.length ≤ 1000000 := by
  refine ⟨?_, ?_, ?_, ?_, fun d hd => ?_⟩
  · show (cleansF y.fSources).length ≤ _; rw [cleansF_len]; exact h.1
  · show (cleansF y.fKeywords).length ≤ _; rw [cleansF_len]; exact h.2.1
  · show (y.fMaintainers.map perC).length ≤ _; rw [List.length_map]; exact h.2.2.1
  · show (y.fDependencies.map _).length ≤ _; rw [List.length_map]; exact h.2.2.2.1
  · obtain ⟨e, he, rfl⟩ := List.mem_map.1 hd
    show (cleansF e.fTags).length ≤ _; rw [cleansF_len]; exact h.2.2.2.2 e he
theorem lens_6 {y : Ty26} (h : y.fSources.length ≤ 1000000 ∧ y.fKeywords.length ≤ 1000000 ∧ y.fMaintainers.length ≤ 1000000 ∧ y.fDependencies.length ≤ 1000000 ∧ ∀ d ∈ y.fDependencies, d.fTags.length ≤ 1000000) : (cln8 y).fSources.length ≤ 1000000 ∧ (cln8 y).fKeywords.length ≤ 1000000 ∧ (cln8 y).fMaintainers.length ≤ 1000000 ∧ (cln8 y).fDependencies.length ≤ 1000000 ∧ ∀ d ∈ (cln8 y).fDependencies, d.fTags.length ≤ 1000000 := by
  refine ⟨?_, ?_, h.2.2.1, h.2.2.2.1, h.2.2.2.2⟩
  · show (cleansF y.fSources).length ≤ _; rw [cleansF_len]; exact h.1
  · show (cleansF y.fKeywords).length ≤ _; rw [cleansF_len]; exact h.2.1
theorem lens_3 {y y3 : Ty26} (h : FitOk y) (hm : MRes y y3 (whatF y)) (h7 : whatF y < 7) : y3.fSources.length ≤ 1000000 ∧ y3.fKeywords.length ≤ 1000000 ∧ y3.fMaintainers.length ≤ 1000000 ∧ y3.fDependencies.length ≤ 1000000 ∧ ∀ d ∈ y3.fDependencies, d.fTags.length ≤ 1000000 := by
  by_cases h0 : whatF y = 0
  · exact lens_S (hm.2 h0) (lens_A h.lens)
  · exact lens_S (hm.1 (by omega) (by omega)).1 (lens_6 h.lens)
/-- What the reference leaves may be read. -/
theorem cmR_meta {R : Ctx} {w : World} {L : List SA} {y y3 : Ty26} (i : Nat) (S : Sp R w L) (hc : L[i]? = some (SA.cmR (whatF y) y3)) (ha : MetaAt w y) (h : FitOk y) (hm : MRes y y3 (whatF y)) (h7 : whatF y < 7) : MetaAt w y3 := by
  obtain ⟨L', S'⟩ := S.at i hc
  have hl := lens_3 h hm h7
  by_cases h0 : whatF y = 0
  · rw [h0] at S'
    exact (show Sp R w (SA.mv y3 :: L') from S').mvF hl.1 hl.2.1 hl.2.2.1 hl.2.2.2.1 hl.2.2.2.2
  · have hb : Nat.beq (whatF y) 0 = false := by cases hb : Nat.beq (whatF y) 0 with | false => rfl | true => exact absurd (Nat.eq_of_beq_eq_true hb) h0
    have hb6 : Nat.ble (whatF y) 6 = true := Nat.ble_eq_true_of_le (by omega)
    unfold SA.cmR at S'
    rw [hb, hb6] at S'
    have S2 := Sp.stars.1 S'
    obtain ⟨_, e1, e2, e3, e4⟩ := hm.1 (by omega) (by omega)
    refine ⟨own0_sl1 (S2.ow0 0 rfl) (by omega), own0_sl1 (S2.ow0 1 rfl) (by omega), ?_, ?_, ?_⟩
    · rw [e1, e3]; exact ha.2.2.1
    · rw [e2, e4]; exact ha.2.2.2.1
    · rw [e4]; exact ha.2.2.2.2
theorem ne_emp {s : ByteArray} (h : (s.toList == (⟨#[]⟩ : ByteArray).toList) = false) : s ≠ ⟨#[]⟩ := fun e => by rw [e, beq_self_eq_true] at h; cases h
theorem ib0 (f : Nat) : ((f : Int) == 0) = Nat.beq f 0 := by
  cases f with
  | zero => rfl
  | succ n => have : ((n.succ : Nat) : Int) ≠ 0 := by omega
              rw [beq_eq_false_iff_ne.2 this]; rfl
def metZ : Ty26 := ({ fName := ⟨#[]⟩, fHome := ⟨#[]⟩, fVersion := ⟨#[]⟩, fDescription := ⟨#[]⟩, fIcon := ⟨#[]⟩, fAPIVersion := ⟨#[]⟩, fCondition := ⟨#[]⟩, fTags := ⟨#[]⟩, fAppVersion := ⟨#[]⟩, fKubeVersion := ⟨#[]⟩, fType := ⟨#[]⟩, fSources_a := none, fSources_c := 0, fSources := [], fKeywords_a := none, fKeywords_c := 0, fKeywords := [], fMaintainers_a := none, fMaintainers_c := 0, fMaintainers := [], fDependencies_a := none, fDependencies_c := 0, fDependencies := [] } : Ty26)
theorem zero_w : whatF metZ = 1 := by
  have h : (metZ.fAPIVersion.toList == (⟨#[]⟩ : ByteArray).toList) = true := beq_self_eq_true _
  exact what_1 (by unfold what1; rw [h]; rfl) (by omega)
theorem validate_zero (R : Ctx) (L : List SA) (w : World) (S : Sp R w L) : Calls Try.prog 59 #[.agg #[.string ⟨#[]⟩, .string ⟨#[]⟩, .string ⟨#[]⟩, .string ⟨#[]⟩, .string ⟨#[]⟩, .string ⟨#[]⟩, .string ⟨#[]⟩, .string ⟨#[]⟩, .string ⟨#[]⟩, .string ⟨#[]⟩, .string ⟨#[]⟩, .slice none 0 0, .slice none 0 0, .slice none 0 0, .slice none 0 0]] w fun e w' => ∃ (y : Ty26) (t : ByteArray), e = .returned (.tuple #[.agg #[.string y.fName, .string y.fHome, .string y.fVersion, .string y.fDescription, .string y.fIcon, .string y.fAPIVersion, .string y.fCondition, .string y.fTags, .string y.fAppVersion, .string y.fKubeVersion, .string y.fType, .slice y.fSources_a y.fSources.length y.fSources_c, .slice y.fKeywords_a y.fKeywords.length y.fKeywords_c, .slice y.fMaintainers_a y.fMaintainers.length y.fMaintainers_c, .slice y.fDependencies_a y.fDependencies.length y.fDependencies_c], .string t, .int .i64 0]) ∧ Sp R w' (SA.mv y :: L) ∧ (t.toList == (⟨#[]⟩ : ByteArray).toList) = false := by
  refine (validate_sp metZ R L w S (fun w S => ⟨Sl.nil, Sl.nil, Rows.nil, Rows.nil, fun d hd => by cases hd⟩) rfl ⟨⟨emp_ok.1, emp_ok.1, emp_ok.1, emp_ok.1, emp_ok.1, emp_ok.1, emp_ok.1, emp_ok.1, emp_ok.1, emp_ok.1, emp_ok.1⟩, (fun x hx => by cases hx), (fun x hx => by cases hx), (fun x hx => by cases hx), (fun x hx => by cases hx)⟩ ⟨⟨emp_ok.2, emp_ok.2, emp_ok.2, emp_ok.2, emp_ok.2, emp_ok.2, emp_ok.2, emp_ok.2⟩, (fun x hx => by cases hx), (fun x hx => by cases hx), (fun x hx => by cases hx), (fun x hx => by cases hx)⟩ (.inr (by decide)) (by decide) (by decide) (by decide) (by decide) (fun x hx => by cases hx)).mono ?_
  rintro e w' ⟨y, t, he, hS, hv⟩
  exact ⟨y, t, he, hS, by rw [hv.1, zero_w]; rfl⟩
abbrev zq42 (x0 : Ty26) (x1 : Ty26) : Array Value := #[.agg #[.string x0.fName, .string x0.fHome, .string x0.fVersion, .string x0.fDescription, .string x0.fIcon, .string x0.fAPIVersion, .string x0.fCondition, .string x0.fTags, .string x0.fAppVersion, .string x0.fKubeVersion, .string x0.fType, .slice x0.fSources_a x0.fSources.length x0.fSources_c, .slice x0.fKeywords_a x0.fKeywords.length x0.fKeywords_c, .slice x0.fMaintainers_a x0.fMaintainers.length x0.fMaintainers_c, .slice x0.fDependencies_a x0.fDependencies.length x0.fDependencies_c], .agg #[.string x1.fName, .string x1.fHome, .string x1.fVersion, .string x1.fDescription, .string x1.fIcon, .string x1.fAPIVersion, .string x1.fCondition, .string x1.fTags, .string x1.fAppVersion, .string x1.fKubeVersion, .string x1.fType, .slice x1.fSources_a x1.fSources.length x1.fSources_c, .slice x1.fKeywords_a x1.fKeywords.length x1.fKeywords_c, .slice x1.fMaintainers_a x1.fMaintainers.length x1.fMaintainers_c, .slice x1.fDependencies_a x1.fDependencies.length x1.fDependencies_c]]
abbrev zq43 : Array Value := #[.agg #[.string ⟨#[]⟩, .string ⟨#[]⟩, .string ⟨#[]⟩, .string ⟨#[]⟩, .string ⟨#[]⟩, .string ⟨#[]⟩, .string ⟨#[]⟩, .string ⟨#[]⟩, .string ⟨#[]⟩, .string ⟨#[]⟩, .string ⟨#[]⟩, .slice none 0 0, .slice none 0 0, .slice none 0 0, .slice none 0 0]]
set_option maxRecDepth 100000 in
set_option maxHeartbeats 20000000 in
theorem validLaw_sp (m : Ty26) (R : Ctx) (L : List SA) (w : World) (S : Sp R w (L)) (h0 : Rf R L fun w => Ty26.ok m w) (h1 : Rf R L fun w => MetaAt w m)  :
  Calls Try.prog 13 #[.agg #[.string m.fName, .string m.fHome, .string m.fVersion, .string m.fDescription, .string m.fIcon, .string m.fAPIVersion, .string m.fCondition, .string m.fTags, .string m.fAppVersion, .string m.fKubeVersion, .string m.fType, .slice (m.fSources_a) (m.fSources.length) (m.fSources_c), .slice (m.fKeywords_a) (m.fKeywords.length) (m.fKeywords_c), .slice (m.fMaintainers_a) (m.fMaintainers.length) (m.fMaintainers_c), .slice (m.fDependencies_a) (m.fDependencies.length) (m.fDependencies_c)]] w fun e w' => e = .returned (.bool true) ∧ Sp R w' (L) := by
 refine fw_enter (fn := Try.f13) rfl rfl 69 rfl (Nat.le_of_ble_eq_true rfl) ?_
 intro a0 F0
 refine wp_seq_k fun K1 hK1 => ?_
 refine wp_region_lit ?_
 refine op_sq F0 (s_newp F0 26 (zq2 m) (by kernel_rfl) (by kernel_rfl) (by kernel_rfl) S) ?_
 rintro _ _ w3 ⟨g1, rfl, rfl⟩ S3 a3 F3
 refine op_q F3 (.bool false) ?_; intro a4 F4
 refine wpList_nil ?_
 refine hK1 _ _ ?_; clear hK1 K1
 refine wp_seq_k fun K5 hK5 => ?_
 refine wp_seq_k fun K6 hK6 => ?_
 refine wp_region_lit ?_
 refine op_rq (v := .agg (zq2 m)) F4 (r_ldm rfl (F4.e (.pointer (some ⟨g1, 0, none⟩))) (S3.bk 0 rfl) 15 (by kernel_rfl) Try.underlying26 rfl (by kernel_rfl) (v := (zq2 m)) (by kernel_rfl)) ?_; intro a7 F7
 refine op_cq F7 (f := 37) (args := #[.agg (zq2 m)]) (fits37_any m _ (h0 _ S3.drop)) ?_
 rintro _ w8 ⟨rfl, hb_8⟩
 refine ⟨_, rfl, ?_⟩
 intro a9 F9
 have S8 := S3.below hb_8
 refine op_q F9 (.bool (!(fits37 m))) ?_; intro a10 F10
 refine wpList_nil ?_
 refine hK6 _ _ ?_; clear hK6 K6
 rcases btf (fits37 m) with hc11 | hc11
 ·have hfz := fits_Z hc11
  have F12 := F10.sb 12 (by kernel_rfl) hc11
  have F13 := F12.sb 13 (by kernel_rfl) (show (!(fits37 m)) = false by rw [hc11]; rfl)
  refine wp_cond_false (F13.ev (by kernel_rfl)) ?_
  refine wp_skip ?_
  refine hK5 _ _ ?_; clear hK5 K5
  refine wp_seq_k fun K14 hK14 => ?_
  refine wp_region_lit ?_
  refine op_rq (v := .agg (zq2 m)) F13 (r_ldm rfl (F13.e (.pointer (some ⟨g1, 0, none⟩))) (S8.bk 0 rfl) 15 (by kernel_rfl) Try.underlying26 rfl (by kernel_rfl) (v := (zq2 m)) (by kernel_rfl)) ?_; intro a15 F15
  refine op_cq F15 (f := 58) (args := #[.agg (zq2 m)]) (chFit_sp m _ _ _ S8 (fun w S => h1 w S.drop) hfz) ?_
  rintro _ w16 ⟨y16, rfl, S16, hp0_16⟩
  refine ⟨_, rfl, ?_⟩
  intro a17 F17
  refine op_sq0 F17 (s_stb rfl (F17.e (.pointer (some ⟨g1, 0, none⟩))) (F17.e (.agg (zq13 y16))) S16.p1 (by kernel_rfl) rfl (by kernel_rfl)) ?_
  rintro _ _ w18 rfl S18 F18
  refine wpList_nil ?_
  refine hK14 _ _ ?_; clear hK14 K14
  refine wp_seq_k fun K19 hK19 => ?_
  have hfo := fit_ok hp0_16
  obtain ⟨hl1, hl2, hl3, hl4, hl5⟩ := hfo.lens
  have hza := hfo.asc
  have hz := hfo.mil
  have hv := hfo.ver
  have hf := hfo.fits
  refine wp_region_lit ?_
  refine op_rq (v := .agg (zq13 y16)) F18 (r_ldm rfl (F18.e (.pointer (some ⟨g1, 0, none⟩))) (S18.bk 0 rfl) 15 (by kernel_rfl) Try.underlying26 rfl (by kernel_rfl) (v := (zq13 y16)) (by kernel_rfl)) ?_; intro a20 F20
  refine op_cq F20 (f := 59) (args := #[.agg (zq13 y16)]) (validate_sp y16 _ _ _ S18 (fun w S => S.mvAt 1 rfl hl1 hl2 hl3 hl4 hl5) hf hz hza hv (by first | omega | (simp; done) | (simp; omega)) (by first | omega | (simp; done) | (simp; omega)) (by first | omega | (simp; done) | (simp; omega)) (by first | omega | (simp; done) | (simp; omega)) (by first | omega | (simp; done) | (simp; omega))) ?_
  rintro _ w21 ⟨y21, t21, rfl, S21, hp0_21⟩
  refine ⟨_, rfl, ?_⟩
  intro a22 F22
  refine op_q F22 (.tuple #[.agg (zq13 y21), .string t21, .int .i64 0]) ?_; intro a23 F23
  refine op_q F23 (.agg (zq13 y21)) ?_; intro a24 F24
  refine op_q F24 (.string t21) ?_; intro a25 F25
  refine op_q F25 (.int .i64 0) ?_; intro a26 F26
  refine op_sq F26 (s_newp F26 26 zq8 (by kernel_rfl) (by kernel_rfl) (by kernel_rfl) S21) ?_
  rintro _ _ w28 ⟨g26, rfl, rfl⟩ S28 a28 F28
  refine op_sq0 F28 (s_stb rfl (F28.e (.pointer (some ⟨g26, 0, none⟩))) (F28.e (.agg (zq13 y21))) S28 (by kernel_rfl) rfl (by kernel_rfl)) ?_
  rintro _ _ w29 rfl S29 F29
  refine op_q F29 (.string t21) ?_; intro a30 F30
  refine op_q F30 (.int .i64 0) ?_; intro a31 F31
  refine wpList_nil ?_
  refine hK19 _ _ ?_; clear hK19 K19
  refine wp_seq_k fun K32 hK32 => ?_
  refine wp_region_lit ?_
  refine op_rq (v := .agg (zq13 y16)) F31 (r_ldm rfl (F31.e (.pointer (some ⟨g1, 0, none⟩))) (S29.bk 2 rfl) 15 (by kernel_rfl) Try.underlying26 rfl (by kernel_rfl) (v := (zq13 y16)) (by kernel_rfl)) ?_; intro a33 F33
  refine op_cq F33 (f := 60) (args := #[.agg (zq13 y16)]) (chMeta_sp y16 _ _ _ S29 (fun w S => S.mvAt 3 rfl hl1 hl2 hl3 hl4 hl5) hz (by first | omega | (simp; done) | (simp; omega)) (by first | omega | (simp; done) | (simp; omega)) (by first | omega | (simp; done) | (simp; omega)) (by first | omega | (simp; done) | (simp; omega)) (by first | omega | (simp; done) | (simp; omega))) ?_
  rintro _ w34 ⟨y34, f34, rfl, S34, hp0_34, hp1_34⟩
  refine ⟨_, rfl, ?_⟩
  intro a35 F35
  refine op_q F35 (.tuple #[.agg (zq13 y34), .int .i64 (↑f34)]) ?_; intro a36 F36
  refine op_q F36 (.agg (zq13 y34)) ?_; intro a37 F37
  refine op_q F37 (.int .i64 (↑f34)) ?_; intro a38 F38
  refine op_sq F38 (s_newp F38 26 zq8 (by kernel_rfl) (by kernel_rfl) (by kernel_rfl) S34) ?_
  rintro _ _ w40 ⟨g38, rfl, rfl⟩ S40 a40 F40
  refine op_sq0 F40 (s_stb rfl (F40.e (.pointer (some ⟨g38, 0, none⟩))) (F40.e (.agg (zq13 y34))) S40 (by kernel_rfl) rfl (by kernel_rfl)) ?_
  rintro _ _ w41 rfl S41 F41
  refine op_q F41 (.int .i64 (↑f34)) ?_; intro a42 F42
  refine wpList_nil ?_
  refine hK32 _ _ ?_; clear hK32 K32
  refine wp_seq_k fun K43 hK43 => ?_
  refine wp_seq_k fun K44 hK44 => ?_
  have hff := hp0_34
  have hmr := hp1_34
  subst hff
  have hvr := hp0_21
  refine wp_region_lit ?_
  refine op_q F42 (.int .i64 0) ?_; intro a45 F45
  refine op_q F45 (.bool false) ?_; intro a46 F46
  refine op_q F46 (.bool false) ?_; intro a47 F47
  refine op_wq F47 ?_
  refine op_q F47 (.string t21) ?_; intro a48 F48
  refine op_wq F48 ?_
  refine op_q F48 (.bool (t21.toList == (⟨#[]⟩ : ByteArray).toList)) ?_; intro a49 F49
  refine op_wq F49 ?_
  refine op_q F49 (.int .i64 (↑(whatF y16))) ?_; intro a50 F50
  refine op_wq F50 ?_
  refine op_q F50 (.bool ((↑(whatF y16) : Int) == 0)) ?_; intro a51 F51
  refine op_wq F51 ?_
  refine op_q F51 (.bool (!((t21.toList == (⟨#[]⟩ : ByteArray).toList) == ((↑(whatF y16) : Int) == 0)))) ?_; intro a52 F52
  refine op_q F52 (.bool (!((t21.toList == (⟨#[]⟩ : ByteArray).toList) == ((↑(whatF y16) : Int) == 0)))) ?_; intro a53 F53
  refine op_q F53 (.bool (!((t21.toList == (⟨#[]⟩ : ByteArray).toList) == ((↑(whatF y16) : Int) == 0)))) ?_; intro a54 F54
  have hc55 : ((t21.toList == (⟨#[]⟩ : ByteArray).toList) == ((↑(whatF y16) : Int) == 0)) = true := (by rw [hvr.1, ib0]; exact beq_self_eq_true _)
  have F56 := F54.sb 34 (by kernel_rfl) (show (!((t21.toList == (⟨#[]⟩ : ByteArray).toList) == ((↑(whatF y16) : Int) == 0))) = false by rw [hc55]; rfl)
  have F57 := F56.sb 35 (by kernel_rfl) (show (!((t21.toList == (⟨#[]⟩ : ByteArray).toList) == ((↑(whatF y16) : Int) == 0))) = false by rw [hc55]; rfl)
  have F58 := F57.sb 36 (by kernel_rfl) (show (!((t21.toList == (⟨#[]⟩ : ByteArray).toList) == ((↑(whatF y16) : Int) == 0))) = false by rw [hc55]; rfl)
  refine op_wq F58 ?_
  refine op_rq (v := .agg (zq13 y34)) F58 (r_ldm rfl (F58.e (.pointer (some ⟨g38, 0, none⟩))) (S41.bk 0 rfl) 15 (by kernel_rfl) Try.underlying26 rfl (by kernel_rfl) (v := (zq13 y34)) (by kernel_rfl)) ?_; intro a59 F59
  refine op_wq F59 ?_
  refine op_q F59 (.int .i64 (↑(whatF y16))) ?_; intro a60 F60
  refine op_wq F60 ?_
  refine op_cq F60 (f := 61) (args := #[.agg (zq13 y34), .int .i64 (↑(whatF y16))]) (chSays_sp y34 (whatF y16) _ _ _ S41 ) ?_
  rintro _ w61 ⟨rfl, S61⟩
  refine ⟨_, rfl, ?_⟩
  intro a62 F62
  refine op_wq F62 ?_
  refine op_q F62 (.bool (!((saysV (whatF y16)).toList == (⟨#[]⟩ : ByteArray).toList))) ?_; intro a63 F63
  refine op_wq F63 ?_
  refine op_q F63 (.bool (!((saysV (whatF y16)).toList == (⟨#[]⟩ : ByteArray).toList))) ?_; intro a64 F64
  rcases btf ((saysV (whatF y16)).toList == (⟨#[]⟩ : ByteArray).toList) with hc65 | hc65
  ·skip
   have F66 := F64.sb 40 (by kernel_rfl) (show (!((saysV (whatF y16)).toList == (⟨#[]⟩ : ByteArray).toList)) = false by rw [hc65]; rfl)
   have F67 := F66.sb 41 (by kernel_rfl) (show (!((saysV (whatF y16)).toList == (⟨#[]⟩ : ByteArray).toList)) = false by rw [hc65]; rfl)
   refine op_kq F67 ?_; intro a68 F68
   refine op_kq F68 ?_; intro a69 F69
   refine op_kq F69 ?_; intro a70 F70
   refine op_kq F70 ?_; intro a71 F71
   refine op_kq F71 ?_; intro a72 F72
   refine op_wq F72 ?_
   refine op_q F72 (.bool false) ?_; intro a73 F73
   refine op_q F73 (.bool false) ?_; intro a74 F74
   refine wpList_nil ?_
   refine hK44 _ _ ?_; clear hK44 K44
   refine wp_cond_false (F74.ev (by kernel_rfl)) ?_
   refine wp_skip ?_
   refine hK43 _ _ ?_; clear hK43 K43
   refine wp_seq_k fun K75 hK75 => ?_
   refine wp_seq_k fun K76 hK76 => ?_
   refine wp_region_lit ?_
   refine op_q F74 (.int .i64 (↑(whatF y16))) ?_; intro a77 F77
   refine op_q F77 (.bool ((↑(whatF y16) : Int) == 0)) ?_; intro a78 F78
   refine op_q F78 (.bool ((↑(whatF y16) : Int) == 0)) ?_; intro a79 F79
   rcases btf ((↑(whatF y16) : Int) == 0) with hc80 | hc80
   ·have h7w : whatF y16 < 7 := by have := eq_of_beq hc80; omega
    have F81 := F79.sb 33 (by kernel_rfl) hc80
    have F82 := F81.sb 50 (by kernel_rfl) hc80
    have F83 := F82.sb 51 (by kernel_rfl) hc80
    refine op_kq F83 ?_; intro a84 F84
    refine op_kq F84 ?_; intro a85 F85
    refine op_q F85 (.bool true) ?_; intro a86 F86
    refine op_q F86 (.bool true) ?_; intro a87 F87
    refine op_wq F87 ?_
    refine op_rq (v := .agg (zq13 y21)) F87 (r_ldm rfl (F87.e (.pointer (some ⟨g26, 0, none⟩))) (S61.bk 2 rfl) 15 (by kernel_rfl) Try.underlying26 rfl (by kernel_rfl) (v := (zq13 y21)) (by kernel_rfl)) ?_; intro a88 F88
    refine op_wq F88 ?_
    refine op_rq (v := .agg (zq13 y34)) F88 (r_ldm rfl (F88.e (.pointer (some ⟨g38, 0, none⟩))) (S61.bk 0 rfl) 15 (by kernel_rfl) Try.underlying26 rfl (by kernel_rfl) (v := (zq13 y34)) (by kernel_rfl)) ?_; intro a89 F89
    refine op_wq F89 ?_
    have hs3 := lens_3 hfo hmr h7w
    obtain ⟨hk1, hk2, hk3, hk4, hk5⟩ := lens_S (same_val hfo hvr hmr h7w) hs3
    refine op_cq F89 (f := 62) (args := (zq42 y21 y34)) (sameMeta_yes y21 y34 _ _ _ S61 (fun w S => S.mvAt 3 rfl hk1 hk2 hk3 hk4 hk5) (fun w S => cmR_meta 1 S rfl (S.mvAt 5 rfl hl1 hl2 hl3 hl4 hl5) hfo hmr h7w) (same_val hfo hvr hmr h7w)) ?_
    rintro _ w90 ⟨rfl, S90⟩
    refine ⟨_, rfl, ?_⟩
    intro a91 F91
    refine op_wq F91 ?_
    refine op_q F91 (.bool false) ?_; intro a92 F92
    refine op_q F92 (.bool false) ?_; intro a93 F93
    refine wpList_nil ?_
    refine hK76 _ _ ?_; clear hK76 K76
    refine wp_cond_false (F93.ev (by kernel_rfl)) ?_
    refine wp_skip ?_
    refine hK75 _ _ ?_; clear hK75 K75
    refine wp_seq_k fun K94 hK94 => ?_
    refine wp_region_lit ?_
    refine op_q F93 (.agg zq8) ?_; intro a95 F95
    refine op_cq F95 (f := 59) (args := zq43) (validate_zero  _ _ _ S90 ) ?_
    rintro _ w96 ⟨y96, t96, rfl, S96, hp0_96⟩
    refine ⟨_, rfl, ?_⟩
    intro a97 F97
    refine op_q F97 (.tuple #[.agg (zq13 y96), .string t96, .int .i64 0]) ?_; intro a98 F98
    refine op_q F98 (.agg (zq13 y96)) ?_; intro a99 F99
    refine op_q F99 (.string t96) ?_; intro a100 F100
    refine op_q F100 (.int .i64 0) ?_; intro a101 F101
    refine op_sq F101 (s_newp F101 26 zq8 (by kernel_rfl) (by kernel_rfl) (by kernel_rfl) S96) ?_
    rintro _ _ w103 ⟨g101, rfl, rfl⟩ S103 a103 F103
    refine op_sq0 F103 (s_stb rfl (F103.e (.pointer (some ⟨g101, 0, none⟩))) (F103.e (.agg (zq13 y96))) S103 (by kernel_rfl) rfl (by kernel_rfl)) ?_
    rintro _ _ w104 rfl S104 F104
    refine op_q F104 (.string t96) ?_; intro a105 F105
    refine op_q F105 (.int .i64 0) ?_; intro a106 F106
    refine wpList_nil ?_
    refine hK94 _ _ ?_; clear hK94 K94
    refine wp_seq_k fun K107 hK107 => ?_
    refine wp_region_lit ?_
    refine op_q F106 (.string t96) ?_; intro a108 F108
    refine op_q F108 (.bool (!(t96.toList == (⟨#[]⟩ : ByteArray).toList))) ?_; intro a109 F109
    refine op_q F109 (.bool (!(t96.toList == (⟨#[]⟩ : ByteArray).toList))) ?_; intro a110 F110
    refine wpList_nil ?_
    refine hK107 _ _ ?_; clear hK107 K107
    refine wp_ret ?_
    refine (F110.res1 rfl (v := .bool (!(t96.toList == (⟨#[]⟩ : ByteArray).toList))) (by kernel_rfl) ?_).1
    exact ⟨(ret_bool (by rw [hp0_96]; rfl)), S104.drop.drop.drop.drop.drop.drop.drop.drop⟩
   ·skip
    have F111 := F79.sb 33 (by kernel_rfl) hc80
    have F112 := F111.sb 50 (by kernel_rfl) hc80
    have F113 := F112.sb 51 (by kernel_rfl) hc80
    refine op_wq F113 ?_
    refine op_q F113 (.int .i64 (↑(whatF y16))) ?_; intro a114 F114
    refine op_wq F114 ?_
    refine op_q F114 (.bool (decide ((↑(whatF y16) : Int) < 7))) ?_; intro a115 F115
    refine op_q F115 (.bool (decide ((↑(whatF y16) : Int) < 7))) ?_; intro a116 F116
    refine op_q F116 (.bool (decide ((↑(whatF y16) : Int) < 7))) ?_; intro a117 F117
    rcases btf (decide ((↑(whatF y16) : Int) < 7)) with hc118 | hc118
    ·have h7w : whatF y16 < 7 := by have := of_decide_eq_true hc118; omega
     have F119 := F117.sb 53 (by kernel_rfl) hc118
     have F120 := F119.sb 54 (by kernel_rfl) hc118
     have F121 := F120.sb 55 (by kernel_rfl) hc118
     refine op_wq F121 ?_
     refine op_rq (v := .agg (zq13 y21)) F121 (r_ldm rfl (F121.e (.pointer (some ⟨g26, 0, none⟩))) (S61.bk 2 rfl) 15 (by kernel_rfl) Try.underlying26 rfl (by kernel_rfl) (v := (zq13 y21)) (by kernel_rfl)) ?_; intro a122 F122
     refine op_wq F122 ?_
     refine op_rq (v := .agg (zq13 y34)) F122 (r_ldm rfl (F122.e (.pointer (some ⟨g38, 0, none⟩))) (S61.bk 0 rfl) 15 (by kernel_rfl) Try.underlying26 rfl (by kernel_rfl) (v := (zq13 y34)) (by kernel_rfl)) ?_; intro a123 F123
     refine op_wq F123 ?_
     have hs3 := lens_3 hfo hmr h7w
     obtain ⟨hk1, hk2, hk3, hk4, hk5⟩ := lens_S (same_val hfo hvr hmr h7w) hs3
     refine op_cq F123 (f := 62) (args := (zq42 y21 y34)) (sameMeta_yes y21 y34 _ _ _ S61 (fun w S => S.mvAt 3 rfl hk1 hk2 hk3 hk4 hk5) (fun w S => cmR_meta 1 S rfl (S.mvAt 5 rfl hl1 hl2 hl3 hl4 hl5) hfo hmr h7w) (same_val hfo hvr hmr h7w)) ?_
     rintro _ w124 ⟨rfl, S124⟩
     refine ⟨_, rfl, ?_⟩
     intro a125 F125
     refine op_wq F125 ?_
     refine op_q F125 (.bool false) ?_; intro a126 F126
     refine op_q F126 (.bool false) ?_; intro a127 F127
     refine wpList_nil ?_
     refine hK76 _ _ ?_; clear hK76 K76
     refine wp_cond_false (F127.ev (by kernel_rfl)) ?_
     refine wp_skip ?_
     refine hK75 _ _ ?_; clear hK75 K75
     refine wp_seq_k fun K128 hK128 => ?_
     refine wp_region_lit ?_
     refine op_q F127 (.agg zq8) ?_; intro a129 F129
     refine op_cq F129 (f := 59) (args := zq43) (validate_zero  _ _ _ S124 ) ?_
     rintro _ w130 ⟨y130, t130, rfl, S130, hp0_130⟩
     refine ⟨_, rfl, ?_⟩
     intro a131 F131
     refine op_q F131 (.tuple #[.agg (zq13 y130), .string t130, .int .i64 0]) ?_; intro a132 F132
     refine op_q F132 (.agg (zq13 y130)) ?_; intro a133 F133
     refine op_q F133 (.string t130) ?_; intro a134 F134
     refine op_q F134 (.int .i64 0) ?_; intro a135 F135
     refine op_sq F135 (s_newp F135 26 zq8 (by kernel_rfl) (by kernel_rfl) (by kernel_rfl) S130) ?_
     rintro _ _ w137 ⟨g135, rfl, rfl⟩ S137 a137 F137
     refine op_sq0 F137 (s_stb rfl (F137.e (.pointer (some ⟨g135, 0, none⟩))) (F137.e (.agg (zq13 y130))) S137 (by kernel_rfl) rfl (by kernel_rfl)) ?_
     rintro _ _ w138 rfl S138 F138
     refine op_q F138 (.string t130) ?_; intro a139 F139
     refine op_q F139 (.int .i64 0) ?_; intro a140 F140
     refine wpList_nil ?_
     refine hK128 _ _ ?_; clear hK128 K128
     refine wp_seq_k fun K141 hK141 => ?_
     refine wp_region_lit ?_
     refine op_q F140 (.string t130) ?_; intro a142 F142
     refine op_q F142 (.bool (!(t130.toList == (⟨#[]⟩ : ByteArray).toList))) ?_; intro a143 F143
     refine op_q F143 (.bool (!(t130.toList == (⟨#[]⟩ : ByteArray).toList))) ?_; intro a144 F144
     refine wpList_nil ?_
     refine hK141 _ _ ?_; clear hK141 K141
     refine wp_ret ?_
     refine (F144.res1 rfl (v := .bool (!(t130.toList == (⟨#[]⟩ : ByteArray).toList))) (by kernel_rfl) ?_).1
     exact ⟨(ret_bool (by rw [hp0_130]; rfl)), S138.drop.drop.drop.drop.drop.drop.drop.drop⟩
    ·skip
     have F145 := F117.sb 53 (by kernel_rfl) hc118
     have F146 := F145.sb 54 (by kernel_rfl) hc118
     have F147 := F146.sb 55 (by kernel_rfl) hc118
     refine op_kq F147 ?_; intro a148 F148
     refine op_kq F148 ?_; intro a149 F149
     refine op_kq F149 ?_; intro a150 F150
     refine op_kq F150 ?_; intro a151 F151
     refine op_q F151 (.bool false) ?_; intro a152 F152
     refine wpList_nil ?_
     refine hK76 _ _ ?_; clear hK76 K76
     refine wp_cond_false (F152.ev (by kernel_rfl)) ?_
     refine wp_skip ?_
     refine hK75 _ _ ?_; clear hK75 K75
     refine wp_seq_k fun K153 hK153 => ?_
     refine wp_region_lit ?_
     refine op_q F152 (.agg zq8) ?_; intro a154 F154
     refine op_cq F154 (f := 59) (args := zq43) (validate_zero  _ _ _ S61 ) ?_
     rintro _ w155 ⟨y155, t155, rfl, S155, hp0_155⟩
     refine ⟨_, rfl, ?_⟩
     intro a156 F156
     refine op_q F156 (.tuple #[.agg (zq13 y155), .string t155, .int .i64 0]) ?_; intro a157 F157
     refine op_q F157 (.agg (zq13 y155)) ?_; intro a158 F158
     refine op_q F158 (.string t155) ?_; intro a159 F159
     refine op_q F159 (.int .i64 0) ?_; intro a160 F160
     refine op_sq F160 (s_newp F160 26 zq8 (by kernel_rfl) (by kernel_rfl) (by kernel_rfl) S155) ?_
     rintro _ _ w162 ⟨g160, rfl, rfl⟩ S162 a162 F162
     refine op_sq0 F162 (s_stb rfl (F162.e (.pointer (some ⟨g160, 0, none⟩))) (F162.e (.agg (zq13 y155))) S162 (by kernel_rfl) rfl (by kernel_rfl)) ?_
     rintro _ _ w163 rfl S163 F163
     refine op_q F163 (.string t155) ?_; intro a164 F164
     refine op_q F164 (.int .i64 0) ?_; intro a165 F165
     refine wpList_nil ?_
     refine hK153 _ _ ?_; clear hK153 K153
     refine wp_seq_k fun K166 hK166 => ?_
     refine wp_region_lit ?_
     refine op_q F165 (.string t155) ?_; intro a167 F167
     refine op_q F167 (.bool (!(t155.toList == (⟨#[]⟩ : ByteArray).toList))) ?_; intro a168 F168
     refine op_q F168 (.bool (!(t155.toList == (⟨#[]⟩ : ByteArray).toList))) ?_; intro a169 F169
     refine wpList_nil ?_
     refine hK166 _ _ ?_; clear hK166 K166
     refine wp_ret ?_
     refine (F169.res1 rfl (v := .bool (!(t155.toList == (⟨#[]⟩ : ByteArray).toList))) (by kernel_rfl) ?_).1
     exact ⟨(ret_bool (by rw [hp0_155]; rfl)), S163.drop.drop.drop.drop.drop.drop.drop.drop⟩
  ·have hsn := ne_emp hc65
   have F170 := F64.sb 40 (by kernel_rfl) (show (!((saysV (whatF y16)).toList == (⟨#[]⟩ : ByteArray).toList)) = true by rw [hc65]; rfl)
   have F171 := F170.sb 41 (by kernel_rfl) (show (!((saysV (whatF y16)).toList == (⟨#[]⟩ : ByteArray).toList)) = true by rw [hc65]; rfl)
   refine op_wq F171 ?_
   refine op_q F171 (.string t21) ?_; intro a172 F172
   refine op_wq F172 ?_
   refine op_rq (v := .agg (zq13 y34)) F172 (r_ldm rfl (F172.e (.pointer (some ⟨g38, 0, none⟩))) (S61.bk 0 rfl) 15 (by kernel_rfl) Try.underlying26 rfl (by kernel_rfl) (v := (zq13 y34)) (by kernel_rfl)) ?_; intro a173 F173
   refine op_wq F173 ?_
   refine op_q F173 (.int .i64 (↑(whatF y16))) ?_; intro a174 F174
   refine op_wq F174 ?_
   refine op_cq F174 (f := 61) (args := #[.agg (zq13 y34), .int .i64 (↑(whatF y16))]) (chSays_sp y34 (whatF y16) _ _ _ S61 ) ?_
   rintro _ w175 ⟨rfl, S175⟩
   refine ⟨_, rfl, ?_⟩
   intro a176 F176
   refine op_wq F176 ?_
   refine op_q F176 (.bool (!(t21.toList == (saysV (whatF y16)).toList))) ?_; intro a177 F177
   refine op_wq F177 ?_
   refine op_q F177 (.bool (!(t21.toList == (saysV (whatF y16)).toList))) ?_; intro a178 F178
   refine op_q F178 (.bool (!(t21.toList == (saysV (whatF y16)).toList))) ?_; intro a179 F179
   refine wpList_nil ?_
   refine hK44 _ _ ?_; clear hK44 K44
   have hc180 : (t21.toList == (saysV (whatF y16)).toList) = true := (by rw [hvr.2.1 hsn]; exact beq_self_eq_true _)
   have F181 := F179.sb 46 (by kernel_rfl) (show (!(t21.toList == (saysV (whatF y16)).toList)) = false by rw [hc180]; rfl)
   have F182 := F181.sb 47 (by kernel_rfl) (show (!(t21.toList == (saysV (whatF y16)).toList)) = false by rw [hc180]; rfl)
   have F183 := F182.sb 48 (by kernel_rfl) (show (!(t21.toList == (saysV (whatF y16)).toList)) = false by rw [hc180]; rfl)
   refine wp_cond_false (F183.ev (by kernel_rfl)) ?_
   refine wp_skip ?_
   refine hK43 _ _ ?_; clear hK43 K43
   refine wp_seq_k fun K184 hK184 => ?_
   refine wp_seq_k fun K185 hK185 => ?_
   refine wp_region_lit ?_
   refine op_q F183 (.int .i64 (↑(whatF y16))) ?_; intro a186 F186
   refine op_q F186 (.bool ((↑(whatF y16) : Int) == 0)) ?_; intro a187 F187
   refine op_q F187 (.bool ((↑(whatF y16) : Int) == 0)) ?_; intro a188 F188
   rcases btf ((↑(whatF y16) : Int) == 0) with hc189 | hc189
   ·have h7w : whatF y16 < 7 := by have := eq_of_beq hc189; omega
    have F190 := F188.sb 33 (by kernel_rfl) hc189
    have F191 := F190.sb 50 (by kernel_rfl) hc189
    have F192 := F191.sb 51 (by kernel_rfl) hc189
    refine op_kq F192 ?_; intro a193 F193
    refine op_kq F193 ?_; intro a194 F194
    refine op_q F194 (.bool true) ?_; intro a195 F195
    refine op_q F195 (.bool true) ?_; intro a196 F196
    refine op_wq F196 ?_
    refine op_rq (v := .agg (zq13 y21)) F196 (r_ldm rfl (F196.e (.pointer (some ⟨g26, 0, none⟩))) (S175.bk 2 rfl) 15 (by kernel_rfl) Try.underlying26 rfl (by kernel_rfl) (v := (zq13 y21)) (by kernel_rfl)) ?_; intro a197 F197
    refine op_wq F197 ?_
    refine op_rq (v := .agg (zq13 y34)) F197 (r_ldm rfl (F197.e (.pointer (some ⟨g38, 0, none⟩))) (S175.bk 0 rfl) 15 (by kernel_rfl) Try.underlying26 rfl (by kernel_rfl) (v := (zq13 y34)) (by kernel_rfl)) ?_; intro a198 F198
    refine op_wq F198 ?_
    have hs3 := lens_3 hfo hmr h7w
    obtain ⟨hk1, hk2, hk3, hk4, hk5⟩ := lens_S (same_val hfo hvr hmr h7w) hs3
    refine op_cq F198 (f := 62) (args := (zq42 y21 y34)) (sameMeta_yes y21 y34 _ _ _ S175 (fun w S => S.mvAt 3 rfl hk1 hk2 hk3 hk4 hk5) (fun w S => cmR_meta 1 S rfl (S.mvAt 5 rfl hl1 hl2 hl3 hl4 hl5) hfo hmr h7w) (same_val hfo hvr hmr h7w)) ?_
    rintro _ w199 ⟨rfl, S199⟩
    refine ⟨_, rfl, ?_⟩
    intro a200 F200
    refine op_wq F200 ?_
    refine op_q F200 (.bool false) ?_; intro a201 F201
    refine op_q F201 (.bool false) ?_; intro a202 F202
    refine wpList_nil ?_
    refine hK185 _ _ ?_; clear hK185 K185
    refine wp_cond_false (F202.ev (by kernel_rfl)) ?_
    refine wp_skip ?_
    refine hK184 _ _ ?_; clear hK184 K184
    refine wp_seq_k fun K203 hK203 => ?_
    refine wp_region_lit ?_
    refine op_q F202 (.agg zq8) ?_; intro a204 F204
    refine op_cq F204 (f := 59) (args := zq43) (validate_zero  _ _ _ S199 ) ?_
    rintro _ w205 ⟨y205, t205, rfl, S205, hp0_205⟩
    refine ⟨_, rfl, ?_⟩
    intro a206 F206
    refine op_q F206 (.tuple #[.agg (zq13 y205), .string t205, .int .i64 0]) ?_; intro a207 F207
    refine op_q F207 (.agg (zq13 y205)) ?_; intro a208 F208
    refine op_q F208 (.string t205) ?_; intro a209 F209
    refine op_q F209 (.int .i64 0) ?_; intro a210 F210
    refine op_sq F210 (s_newp F210 26 zq8 (by kernel_rfl) (by kernel_rfl) (by kernel_rfl) S205) ?_
    rintro _ _ w212 ⟨g210, rfl, rfl⟩ S212 a212 F212
    refine op_sq0 F212 (s_stb rfl (F212.e (.pointer (some ⟨g210, 0, none⟩))) (F212.e (.agg (zq13 y205))) S212 (by kernel_rfl) rfl (by kernel_rfl)) ?_
    rintro _ _ w213 rfl S213 F213
    refine op_q F213 (.string t205) ?_; intro a214 F214
    refine op_q F214 (.int .i64 0) ?_; intro a215 F215
    refine wpList_nil ?_
    refine hK203 _ _ ?_; clear hK203 K203
    refine wp_seq_k fun K216 hK216 => ?_
    refine wp_region_lit ?_
    refine op_q F215 (.string t205) ?_; intro a217 F217
    refine op_q F217 (.bool (!(t205.toList == (⟨#[]⟩ : ByteArray).toList))) ?_; intro a218 F218
    refine op_q F218 (.bool (!(t205.toList == (⟨#[]⟩ : ByteArray).toList))) ?_; intro a219 F219
    refine wpList_nil ?_
    refine hK216 _ _ ?_; clear hK216 K216
    refine wp_ret ?_
    refine (F219.res1 rfl (v := .bool (!(t205.toList == (⟨#[]⟩ : ByteArray).toList))) (by kernel_rfl) ?_).1
    exact ⟨(ret_bool (by rw [hp0_205]; rfl)), S213.drop.drop.drop.drop.drop.drop.drop.drop⟩
   ·skip
    have F220 := F188.sb 33 (by kernel_rfl) hc189
    have F221 := F220.sb 50 (by kernel_rfl) hc189
    have F222 := F221.sb 51 (by kernel_rfl) hc189
    refine op_wq F222 ?_
    refine op_q F222 (.int .i64 (↑(whatF y16))) ?_; intro a223 F223
    refine op_wq F223 ?_
    refine op_q F223 (.bool (decide ((↑(whatF y16) : Int) < 7))) ?_; intro a224 F224
    refine op_q F224 (.bool (decide ((↑(whatF y16) : Int) < 7))) ?_; intro a225 F225
    refine op_q F225 (.bool (decide ((↑(whatF y16) : Int) < 7))) ?_; intro a226 F226
    rcases btf (decide ((↑(whatF y16) : Int) < 7)) with hc227 | hc227
    ·have h7w : whatF y16 < 7 := by have := of_decide_eq_true hc227; omega
     have F228 := F226.sb 53 (by kernel_rfl) hc227
     have F229 := F228.sb 54 (by kernel_rfl) hc227
     have F230 := F229.sb 55 (by kernel_rfl) hc227
     refine op_wq F230 ?_
     refine op_rq (v := .agg (zq13 y21)) F230 (r_ldm rfl (F230.e (.pointer (some ⟨g26, 0, none⟩))) (S175.bk 2 rfl) 15 (by kernel_rfl) Try.underlying26 rfl (by kernel_rfl) (v := (zq13 y21)) (by kernel_rfl)) ?_; intro a231 F231
     refine op_wq F231 ?_
     refine op_rq (v := .agg (zq13 y34)) F231 (r_ldm rfl (F231.e (.pointer (some ⟨g38, 0, none⟩))) (S175.bk 0 rfl) 15 (by kernel_rfl) Try.underlying26 rfl (by kernel_rfl) (v := (zq13 y34)) (by kernel_rfl)) ?_; intro a232 F232
     refine op_wq F232 ?_
     have hs3 := lens_3 hfo hmr h7w
     obtain ⟨hk1, hk2, hk3, hk4, hk5⟩ := lens_S (same_val hfo hvr hmr h7w) hs3
     refine op_cq F232 (f := 62) (args := (zq42 y21 y34)) (sameMeta_yes y21 y34 _ _ _ S175 (fun w S => S.mvAt 3 rfl hk1 hk2 hk3 hk4 hk5) (fun w S => cmR_meta 1 S rfl (S.mvAt 5 rfl hl1 hl2 hl3 hl4 hl5) hfo hmr h7w) (same_val hfo hvr hmr h7w)) ?_
     rintro _ w233 ⟨rfl, S233⟩
     refine ⟨_, rfl, ?_⟩
     intro a234 F234
     refine op_wq F234 ?_
     refine op_q F234 (.bool false) ?_; intro a235 F235
     refine op_q F235 (.bool false) ?_; intro a236 F236
     refine wpList_nil ?_
     refine hK185 _ _ ?_; clear hK185 K185
     refine wp_cond_false (F236.ev (by kernel_rfl)) ?_
     refine wp_skip ?_
     refine hK184 _ _ ?_; clear hK184 K184
     refine wp_seq_k fun K237 hK237 => ?_
     refine wp_region_lit ?_
     refine op_q F236 (.agg zq8) ?_; intro a238 F238
     refine op_cq F238 (f := 59) (args := zq43) (validate_zero  _ _ _ S233 ) ?_
     rintro _ w239 ⟨y239, t239, rfl, S239, hp0_239⟩
     refine ⟨_, rfl, ?_⟩
     intro a240 F240
     refine op_q F240 (.tuple #[.agg (zq13 y239), .string t239, .int .i64 0]) ?_; intro a241 F241
     refine op_q F241 (.agg (zq13 y239)) ?_; intro a242 F242
     refine op_q F242 (.string t239) ?_; intro a243 F243
     refine op_q F243 (.int .i64 0) ?_; intro a244 F244
     refine op_sq F244 (s_newp F244 26 zq8 (by kernel_rfl) (by kernel_rfl) (by kernel_rfl) S239) ?_
     rintro _ _ w246 ⟨g244, rfl, rfl⟩ S246 a246 F246
     refine op_sq0 F246 (s_stb rfl (F246.e (.pointer (some ⟨g244, 0, none⟩))) (F246.e (.agg (zq13 y239))) S246 (by kernel_rfl) rfl (by kernel_rfl)) ?_
     rintro _ _ w247 rfl S247 F247
     refine op_q F247 (.string t239) ?_; intro a248 F248
     refine op_q F248 (.int .i64 0) ?_; intro a249 F249
     refine wpList_nil ?_
     refine hK237 _ _ ?_; clear hK237 K237
     refine wp_seq_k fun K250 hK250 => ?_
     refine wp_region_lit ?_
     refine op_q F249 (.string t239) ?_; intro a251 F251
     refine op_q F251 (.bool (!(t239.toList == (⟨#[]⟩ : ByteArray).toList))) ?_; intro a252 F252
     refine op_q F252 (.bool (!(t239.toList == (⟨#[]⟩ : ByteArray).toList))) ?_; intro a253 F253
     refine wpList_nil ?_
     refine hK250 _ _ ?_; clear hK250 K250
     refine wp_ret ?_
     refine (F253.res1 rfl (v := .bool (!(t239.toList == (⟨#[]⟩ : ByteArray).toList))) (by kernel_rfl) ?_).1
     exact ⟨(ret_bool (by rw [hp0_239]; rfl)), S247.drop.drop.drop.drop.drop.drop.drop.drop⟩
    ·skip
     have F254 := F226.sb 53 (by kernel_rfl) hc227
     have F255 := F254.sb 54 (by kernel_rfl) hc227
     have F256 := F255.sb 55 (by kernel_rfl) hc227
     refine op_kq F256 ?_; intro a257 F257
     refine op_kq F257 ?_; intro a258 F258
     refine op_kq F258 ?_; intro a259 F259
     refine op_kq F259 ?_; intro a260 F260
     refine op_q F260 (.bool false) ?_; intro a261 F261
     refine wpList_nil ?_
     refine hK185 _ _ ?_; clear hK185 K185
     refine wp_cond_false (F261.ev (by kernel_rfl)) ?_
     refine wp_skip ?_
     refine hK184 _ _ ?_; clear hK184 K184
     refine wp_seq_k fun K262 hK262 => ?_
     refine wp_region_lit ?_
     refine op_q F261 (.agg zq8) ?_; intro a263 F263
     refine op_cq F263 (f := 59) (args := zq43) (validate_zero  _ _ _ S175 ) ?_
     rintro _ w264 ⟨y264, t264, rfl, S264, hp0_264⟩
     refine ⟨_, rfl, ?_⟩
     intro a265 F265
     refine op_q F265 (.tuple #[.agg (zq13 y264), .string t264, .int .i64 0]) ?_; intro a266 F266
     refine op_q F266 (.agg (zq13 y264)) ?_; intro a267 F267
     refine op_q F267 (.string t264) ?_; intro a268 F268
     refine op_q F268 (.int .i64 0) ?_; intro a269 F269
     refine op_sq F269 (s_newp F269 26 zq8 (by kernel_rfl) (by kernel_rfl) (by kernel_rfl) S264) ?_
     rintro _ _ w271 ⟨g269, rfl, rfl⟩ S271 a271 F271
     refine op_sq0 F271 (s_stb rfl (F271.e (.pointer (some ⟨g269, 0, none⟩))) (F271.e (.agg (zq13 y264))) S271 (by kernel_rfl) rfl (by kernel_rfl)) ?_
     rintro _ _ w272 rfl S272 F272
     refine op_q F272 (.string t264) ?_; intro a273 F273
     refine op_q F273 (.int .i64 0) ?_; intro a274 F274
     refine wpList_nil ?_
     refine hK262 _ _ ?_; clear hK262 K262
     refine wp_seq_k fun K275 hK275 => ?_
     refine wp_region_lit ?_
     refine op_q F274 (.string t264) ?_; intro a276 F276
     refine op_q F276 (.bool (!(t264.toList == (⟨#[]⟩ : ByteArray).toList))) ?_; intro a277 F277
     refine op_q F277 (.bool (!(t264.toList == (⟨#[]⟩ : ByteArray).toList))) ?_; intro a278 F278
     refine wpList_nil ?_
     refine hK275 _ _ ?_; clear hK275 K275
     refine wp_ret ?_
     refine (F278.res1 rfl (v := .bool (!(t264.toList == (⟨#[]⟩ : ByteArray).toList))) (by kernel_rfl) ?_).1
     exact ⟨(ret_bool (by rw [hp0_264]; rfl)), S272.drop.drop.drop.drop.drop.drop.drop.drop⟩
 ·have F279 := F10.sb 12 (by kernel_rfl) hc11
  have F280 := F279.sb 13 (by kernel_rfl) (show (!(fits37 m)) = true by rw [hc11]; rfl)
  refine wp_cond_true (F280.ev (by kernel_rfl)) ?_
  refine wp_seq_k fun K281 hK281 => ?_
  refine wp_region_lit ?_
  refine op_q F280 (.bool true) ?_; intro a282 F282
  refine wpList_nil ?_
  refine hK281 _ _ ?_; clear hK281 K281
  refine wp_ret ?_
  refine ret_then ?_
  refine (F282.res1 rfl (v := .bool true) (by kernel_rfl) ?_).1
  exact ⟨rfl, S8.drop⟩
theorem fnValidMeta_walk (m : Ty26) (w : World) (u : m.ok w) : Calls Try.prog 13 #[.agg m.cells.toArray] w fun e w' => e = .returned (.bool true) ∧ Below w.heap.size w w' := by
  exact (validLaw_sp m _ [] w (Sp.start w) (Rf.of fun _ hb => Ty26.ok.below u hb) (Rf.of fun _ hb => ⟨(Ty26.ok_sSources u).below hb, (Ty26.ok_sKeywords u).below hb, (Ty26.ok_rMaintainers u).below hb, (Ty26.ok_rDependencies u).below hb, fun d hd => (Ty80.ok_sTags (Ty26.ok_oDependencies u d hd)).below hb⟩)).mono fun _ _ ⟨he, hS⟩ => ⟨he, Sp.below_of hS⟩
end Go.Proofs.Ytkjcedlgljeoiaa

