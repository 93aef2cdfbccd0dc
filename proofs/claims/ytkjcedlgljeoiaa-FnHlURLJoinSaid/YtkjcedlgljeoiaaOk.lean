/- Arguments' structures: lengths, cells, what stays. Printed. -/
import Derived.Test.YtkjcedlgljeoiaaTy
import Derived.Test.YtkjcedlgljeoiaaWq
import Derived.Test.YtkjcedlgljeoiaaP2
namespace Go.Proofs.Ytkjcedlgljeoiaa
open Go.RowKit Go.Lib
set_option linter.unusedVariables false
set_option linter.unusedSimpArgs false
theorem Ty108.len (x : Ty108) : x.cells.length = 2 := rfl
theorem Ty108.one (x : Ty108) : ∀ u ∈ x.cells, u.oneCell' = true := fun u hu => by
  simp only [Ty108.cells, List.mem_cons, List.not_mem_nil, or_false] at hu
  rcases hu with rfl | rfl <;> rfl
theorem Ty108.ok.below {x : Ty108} {w w' : World} (h : x.ok w) (hb : Below w.heap.size w w') : x.ok w' := by
  obtain ⟨h0, h1⟩ := h
  exact ⟨h0, h1⟩
def Ty108.oks (xs : List Ty108) (w : World) : Prop := ∀ x ∈ xs, x.ok w
theorem Ty108.oks.below {xs : List Ty108} {w w' : World} (h : Ty108.oks xs w) (hb : Below w.heap.size w w') : Ty108.oks xs w' := fun x hx => Ty108.ok.below (h x hx) hb
theorem Ty108.oks.at {xs : List Ty108} {w : World} (h : Ty108.oks xs w) {k : Nat} (hk : k < xs.length) : Ty108.ok xs[k] w := h _ (List.getElem_mem hk)
theorem Ty108.ok_zKey {x : Ty108} {w : World} (h : x.ok w) : x.fKey.size ≤ maxLen := h.1
theorem Ty108.ok_zText {x : Ty108} {w : World} (h : x.ok w) : x.fText.size ≤ maxLen := h.2
theorem Ty52.len (x : Ty52) : x.cells.length = 2 := rfl
theorem Ty52.one (x : Ty52) : ∀ u ∈ x.cells, u.oneCell' = true := fun u hu => by
  simp only [Ty52.cells, List.mem_cons, List.not_mem_nil, or_false] at hu
  rcases hu with rfl | rfl <;> rfl
theorem Ty52.ok.below {x : Ty52} {w w' : World} (h : x.ok w) (hb : Below w.heap.size w w') : x.ok w' := by
  obtain ⟨h0, h1⟩ := h
  exact ⟨h0, h1⟩
def Ty52.oks (xs : List Ty52) (w : World) : Prop := ∀ x ∈ xs, x.ok w
theorem Ty52.oks.below {xs : List Ty52} {w w' : World} (h : Ty52.oks xs w) (hb : Below w.heap.size w w') : Ty52.oks xs w' := fun x hx => Ty52.ok.below (h x hx) hb
theorem Ty52.oks.at {xs : List Ty52} {w : World} (h : Ty52.oks xs w) {k : Nat} (hk : k < xs.length) : Ty52.ok xs[k] w := h _ (List.getElem_mem hk)
theorem Ty52.ok_zName {x : Ty52} {w : World} (h : x.ok w) : x.fName.size ≤ maxLen := h.1
theorem Ty52.ok_zURL {x : Ty52} {w : World} (h : x.ok w) : x.fURL.size ≤ maxLen := h.2
theorem Ty50.len (x : Ty50) : x.cells.length = 3 := rfl
theorem Ty50.one (x : Ty50) : ∀ u ∈ x.cells, u.oneCell' = true := fun u hu => by
  simp only [Ty50.cells, List.mem_cons, List.not_mem_nil, or_false] at hu
  rcases hu with rfl | rfl | rfl <;> rfl
theorem Ty50.ok.below {x : Ty50} {w w' : World} (h : x.ok w) (hb : Below w.heap.size w w') : x.ok w' := by
  obtain ⟨h0, h1, h2⟩ := h
  exact ⟨h0, ⟨h1.1.below hb, h1.2.1, fun y hy => Ty52.ok.below (h1.2.2 y hy) hb⟩, h2⟩
def Ty50.oks (xs : List Ty50) (w : World) : Prop := ∀ x ∈ xs, x.ok w
theorem Ty50.oks.below {xs : List Ty50} {w w' : World} (h : Ty50.oks xs w) (hb : Below w.heap.size w w') : Ty50.oks xs w' := fun x hx => Ty50.ok.below (h x hx) hb
theorem Ty50.oks.at {xs : List Ty50} {w : World} (h : Ty50.oks xs w) {k : Nat} (hk : k < xs.length) : Ty50.ok xs[k] w := h _ (List.getElem_mem hk)
theorem Ty50.ok_rRepos {x : Ty50} {w : World} (h : x.ok w) : Rows w x.fRepos_a 2 (x.fRepos.map Ty52.cells) := (h.2.1).1
theorem Ty50.ok_oRepos {x : Ty50} {w : World} (h : x.ok w) : Ty52.oks x.fRepos w := (h.2.1).2.2
theorem Ty50.ok_zName {x : Ty50} {w : World} (h : x.ok w) : x.fName.size ≤ maxLen := h.2.2
theorem Ty110.len (x : Ty110) : x.cells.length = 4 := rfl
theorem Ty110.one (x : Ty110) : ∀ u ∈ x.cells, u.oneCell' = true := fun u hu => by
  simp only [Ty110.cells, List.mem_cons, List.not_mem_nil, or_false] at hu
  rcases hu with rfl | rfl | rfl | rfl <;> rfl
theorem Ty110.ok.below {x : Ty110} {w w' : World} (h : x.ok w) (hb : Below w.heap.size w w') : x.ok w' := by
  obtain ⟨h0, h1, h2, h3⟩ := h
  exact ⟨h0, h1, h2, ⟨h3.1.below hb, h3.2⟩⟩
def Ty110.oks (xs : List Ty110) (w : World) : Prop := ∀ x ∈ xs, x.ok w
theorem Ty110.oks.below {xs : List Ty110} {w w' : World} (h : Ty110.oks xs w) (hb : Below w.heap.size w w') : Ty110.oks xs w' := fun x hx => Ty110.ok.below (h x hx) hb
theorem Ty110.oks.at {xs : List Ty110} {w : World} (h : Ty110.oks xs w) {k : Nat} (hk : k < xs.length) : Ty110.ok xs[k] w := h _ (List.getElem_mem hk)
theorem Ty110.ok_zOS {x : Ty110} {w : World} (h : x.ok w) : x.fOS.size ≤ maxLen := h.1
theorem Ty110.ok_zArch {x : Ty110} {w : World} (h : x.ok w) : x.fArch.size ≤ maxLen := h.2.1
theorem Ty110.ok_zCommand {x : Ty110} {w : World} (h : x.ok w) : x.fCommand.size ≤ maxLen := h.2.2.1
theorem Ty110.ok_sArgs {x : Ty110} {w : World} (h : x.ok w) : Sl w x.fArgs_a (strs x.fArgs) := (h.2.2.2).1
theorem Ty78.len (x : Ty78) : x.cells.length = 4 := rfl
theorem Ty78.one (x : Ty78) : ∀ u ∈ x.cells, u.oneCell' = true := fun u hu => by
  simp only [Ty78.cells, List.mem_cons, List.not_mem_nil, or_false] at hu
  rcases hu with rfl | rfl | rfl | rfl <;> rfl
theorem Ty78.ok.below {x : Ty78} {w w' : World} (h : x.ok w) (hb : Below w.heap.size w w') : x.ok w' := by
  obtain ⟨h0, h1, h2⟩ := h
  exact ⟨h0, h1, h2⟩
def Ty78.oks (xs : List Ty78) (w : World) : Prop := ∀ x ∈ xs, x.ok w
theorem Ty78.oks.below {xs : List Ty78} {w w' : World} (h : Ty78.oks xs w) (hb : Below w.heap.size w w') : Ty78.oks xs w' := fun x hx => Ty78.ok.below (h x hx) hb
theorem Ty78.oks.at {xs : List Ty78} {w : World} (h : Ty78.oks xs w) {k : Nat} (hk : k < xs.length) : Ty78.ok xs[k] w := h _ (List.getElem_mem hk)
theorem Ty78.ok_zName {x : Ty78} {w : World} (h : x.ok w) : x.fName.size ≤ maxLen := h.1
theorem Ty78.ok_zEmail {x : Ty78} {w : World} (h : x.ok w) : x.fEmail.size ≤ maxLen := h.2.1
theorem Ty78.ok_zURL {x : Ty78} {w : World} (h : x.ok w) : x.fURL.size ≤ maxLen := h.2.2
theorem Ty80.len (x : Ty80) : x.cells.length = 7 := rfl
theorem Ty80.one (x : Ty80) : ∀ u ∈ x.cells, u.oneCell' = true := fun u hu => by
  simp only [Ty80.cells, List.mem_cons, List.not_mem_nil, or_false] at hu
  rcases hu with rfl | rfl | rfl | rfl | rfl | rfl | rfl <;> rfl
theorem Ty80.ok.below {x : Ty80} {w w' : World} (h : x.ok w) (hb : Below w.heap.size w w') : x.ok w' := by
  obtain ⟨h0, h1, h2, h3, h4, h5⟩ := h
  exact ⟨h0, h1, h2, h3, ⟨h4.1.below hb, h4.2⟩, h5⟩
def Ty80.oks (xs : List Ty80) (w : World) : Prop := ∀ x ∈ xs, x.ok w
theorem Ty80.oks.below {xs : List Ty80} {w w' : World} (h : Ty80.oks xs w) (hb : Below w.heap.size w w') : Ty80.oks xs w' := fun x hx => Ty80.ok.below (h x hx) hb
theorem Ty80.oks.at {xs : List Ty80} {w : World} (h : Ty80.oks xs w) {k : Nat} (hk : k < xs.length) : Ty80.ok xs[k] w := h _ (List.getElem_mem hk)
theorem Ty80.ok_zName {x : Ty80} {w : World} (h : x.ok w) : x.fName.size ≤ maxLen := h.1
theorem Ty80.ok_zVersion {x : Ty80} {w : World} (h : x.ok w) : x.fVersion.size ≤ maxLen := h.2.1
theorem Ty80.ok_zRepository {x : Ty80} {w : World} (h : x.ok w) : x.fRepository.size ≤ maxLen := h.2.2.1
theorem Ty80.ok_zCondition {x : Ty80} {w : World} (h : x.ok w) : x.fCondition.size ≤ maxLen := h.2.2.2.1
theorem Ty80.ok_sTags {x : Ty80} {w : World} (h : x.ok w) : Sl w x.fTags_a (strs x.fTags) := (h.2.2.2.2.1).1
theorem Ty80.ok_zAlias {x : Ty80} {w : World} (h : x.ok w) : x.fAlias.size ≤ maxLen := h.2.2.2.2.2
theorem Ty26.len (x : Ty26) : x.cells.length = 15 := rfl
theorem Ty26.one (x : Ty26) : ∀ u ∈ x.cells, u.oneCell' = true := fun u hu => by
  simp only [Ty26.cells, List.mem_cons, List.not_mem_nil, or_false] at hu
  rcases hu with rfl | rfl | rfl | rfl | rfl | rfl | rfl | rfl | rfl | rfl | rfl | rfl | rfl | rfl | rfl <;> rfl
theorem Ty26.ok.below {x : Ty26} {w w' : World} (h : x.ok w) (hb : Below w.heap.size w w') : x.ok w' := by
  obtain ⟨h0, h1, h2, h3, h4, h5, h6, h7, h8, h9, h10, h11, h12, h13, h14⟩ := h
  exact ⟨h0, h1, h2, h3, h4, h5, h6, h7, h8, h9, h10, ⟨h11.1.below hb, h11.2⟩, ⟨h12.1.below hb, h12.2⟩, ⟨h13.1.below hb, h13.2.1, fun y hy => Ty78.ok.below (h13.2.2 y hy) hb⟩, ⟨h14.1.below hb, h14.2.1, fun y hy => Ty80.ok.below (h14.2.2 y hy) hb⟩⟩
def Ty26.oks (xs : List Ty26) (w : World) : Prop := ∀ x ∈ xs, x.ok w
theorem Ty26.oks.below {xs : List Ty26} {w w' : World} (h : Ty26.oks xs w) (hb : Below w.heap.size w w') : Ty26.oks xs w' := fun x hx => Ty26.ok.below (h x hx) hb
theorem Ty26.oks.at {xs : List Ty26} {w : World} (h : Ty26.oks xs w) {k : Nat} (hk : k < xs.length) : Ty26.ok xs[k] w := h _ (List.getElem_mem hk)
theorem Ty26.ok_zName {x : Ty26} {w : World} (h : x.ok w) : x.fName.size ≤ maxLen := h.1
theorem Ty26.ok_zHome {x : Ty26} {w : World} (h : x.ok w) : x.fHome.size ≤ maxLen := h.2.1
theorem Ty26.ok_zVersion {x : Ty26} {w : World} (h : x.ok w) : x.fVersion.size ≤ maxLen := h.2.2.1
theorem Ty26.ok_zDescription {x : Ty26} {w : World} (h : x.ok w) : x.fDescription.size ≤ maxLen := h.2.2.2.1
theorem Ty26.ok_zIcon {x : Ty26} {w : World} (h : x.ok w) : x.fIcon.size ≤ maxLen := h.2.2.2.2.1
theorem Ty26.ok_zAPIVersion {x : Ty26} {w : World} (h : x.ok w) : x.fAPIVersion.size ≤ maxLen := h.2.2.2.2.2.1
theorem Ty26.ok_zCondition {x : Ty26} {w : World} (h : x.ok w) : x.fCondition.size ≤ maxLen := h.2.2.2.2.2.2.1
theorem Ty26.ok_zTags {x : Ty26} {w : World} (h : x.ok w) : x.fTags.size ≤ maxLen := h.2.2.2.2.2.2.2.1
theorem Ty26.ok_zAppVersion {x : Ty26} {w : World} (h : x.ok w) : x.fAppVersion.size ≤ maxLen := h.2.2.2.2.2.2.2.2.1
theorem Ty26.ok_zKubeVersion {x : Ty26} {w : World} (h : x.ok w) : x.fKubeVersion.size ≤ maxLen := h.2.2.2.2.2.2.2.2.2.1
theorem Ty26.ok_zType {x : Ty26} {w : World} (h : x.ok w) : x.fType.size ≤ maxLen := h.2.2.2.2.2.2.2.2.2.2.1
theorem Ty26.ok_sSources {x : Ty26} {w : World} (h : x.ok w) : Sl w x.fSources_a (strs x.fSources) := (h.2.2.2.2.2.2.2.2.2.2.2.1).1
theorem Ty26.ok_sKeywords {x : Ty26} {w : World} (h : x.ok w) : Sl w x.fKeywords_a (strs x.fKeywords) := (h.2.2.2.2.2.2.2.2.2.2.2.2.1).1
theorem Ty26.ok_rMaintainers {x : Ty26} {w : World} (h : x.ok w) : Rows w x.fMaintainers_a 4 (x.fMaintainers.map Ty78.cells) := (h.2.2.2.2.2.2.2.2.2.2.2.2.2.1).1
theorem Ty26.ok_oMaintainers {x : Ty26} {w : World} (h : x.ok w) : Ty78.oks x.fMaintainers w := (h.2.2.2.2.2.2.2.2.2.2.2.2.2.1).2.2
theorem Ty26.ok_rDependencies {x : Ty26} {w : World} (h : x.ok w) : Rows w x.fDependencies_a 7 (x.fDependencies.map Ty80.cells) := (h.2.2.2.2.2.2.2.2.2.2.2.2.2.2).1
theorem Ty26.ok_oDependencies {x : Ty26} {w : World} (h : x.ok w) : Ty80.oks x.fDependencies w := (h.2.2.2.2.2.2.2.2.2.2.2.2.2.2).2.2
theorem Ty69.len (x : Ty69) : x.cells.length = 19 := by simp [Ty69.cells, Ty26.cells]
theorem Ty69.ok.below {x : Ty69} {w w' : World} (h : x.ok w) (hb : Below w.heap.size w w') : x.ok w' := by
  obtain ⟨h0, h1, h2⟩ := h
  exact ⟨Ty26.ok.below h0 hb, ⟨h1.1.below hb, h1.2⟩, h2⟩
def Ty69.oks (xs : List Ty69) (w : World) : Prop := ∀ x ∈ xs, x.ok w
theorem Ty69.oks.below {xs : List Ty69} {w w' : World} (h : Ty69.oks xs w) (hb : Below w.heap.size w w') : Ty69.oks xs w' := fun x hx => Ty69.ok.below (h x hx) hb
theorem Ty69.oks.at {xs : List Ty69} {w : World} (h : Ty69.oks xs w) {k : Nat} (hk : k < xs.length) : Ty69.ok xs[k] w := h _ (List.getElem_mem hk)
theorem Ty69.ok_Meta {x : Ty69} {w : World} (h : x.ok w) : Ty26.ok x.fMeta w := h.1
theorem Ty69.ok_sURLs {x : Ty69} {w : World} (h : x.ok w) : Sl w x.fURLs_a (strs x.fURLs) := (h.2.1).1
theorem Ty69.ok_zDigest {x : Ty69} {w : World} (h : x.ok w) : x.fDigest.size ≤ maxLen := h.2.2
theorem Ty103.len (x : Ty103) : x.cells.length = 2 := rfl
theorem Ty103.one (x : Ty103) : ∀ u ∈ x.cells, u.oneCell' = true := fun u hu => by
  simp only [Ty103.cells, List.mem_cons, List.not_mem_nil, or_false] at hu
  rcases hu with rfl | rfl <;> rfl
theorem Ty103.ok.below {x : Ty103} {w w' : World} (h : x.ok w) (hb : Below w.heap.size w w') : x.ok w' := by
  obtain ⟨h0, h1⟩ := h
  exact ⟨h0, ⟨h1.1.below hb, h1.2.1, fun y hy => Ty69.ok.below (h1.2.2 y hy) hb⟩⟩
def Ty103.oks (xs : List Ty103) (w : World) : Prop := ∀ x ∈ xs, x.ok w
theorem Ty103.oks.below {xs : List Ty103} {w w' : World} (h : Ty103.oks xs w) (hb : Below w.heap.size w w') : Ty103.oks xs w' := fun x hx => Ty103.ok.below (h x hx) hb
theorem Ty103.oks.at {xs : List Ty103} {w : World} (h : Ty103.oks xs w) {k : Nat} (hk : k < xs.length) : Ty103.ok xs[k] w := h _ (List.getElem_mem hk)
theorem Ty103.ok_zName {x : Ty103} {w : World} (h : x.ok w) : x.fName.size ≤ maxLen := h.1
theorem Ty103.ok_rVersions {x : Ty103} {w : World} (h : x.ok w) : Rows w x.fVersions_a 19 (x.fVersions.map Ty69.cells) := (h.2).1
theorem Ty103.ok_oVersions {x : Ty103} {w : World} (h : x.ok w) : Ty69.oks x.fVersions w := (h.2).2.2
theorem Ty94.len (x : Ty94) : x.cells.length = 2 := rfl
theorem Ty94.one (x : Ty94) : ∀ u ∈ x.cells, u.oneCell' = true := fun u hu => by
  simp only [Ty94.cells, List.mem_cons, List.not_mem_nil, or_false] at hu
  rcases hu with rfl | rfl <;> rfl
theorem Ty94.ok.below {x : Ty94} {w w' : World} (h : x.ok w) (hb : Below w.heap.size w w') : x.ok w' := by
  obtain ⟨h0, h1⟩ := h
  exact ⟨h0, h1⟩
def Ty94.oks (xs : List Ty94) (w : World) : Prop := ∀ x ∈ xs, x.ok w
theorem Ty94.oks.below {xs : List Ty94} {w w' : World} (h : Ty94.oks xs w) (hb : Below w.heap.size w w') : Ty94.oks xs w' := fun x hx => Ty94.ok.below (h x hx) hb
theorem Ty94.oks.at {xs : List Ty94} {w : World} (h : Ty94.oks xs w) {k : Nat} (hk : k < xs.length) : Ty94.ok xs[k] w := h _ (List.getElem_mem hk)
theorem Ty94.ok_zName {x : Ty94} {w : World} (h : x.ok w) : x.fName.size ≤ maxLen := h.1
theorem Ty94.ok_zData {x : Ty94} {w : World} (h : x.ok w) : x.fData.size ≤ maxLen := h.2
theorem Ty39.len (x : Ty39) : x.cells.length = 5 := rfl
theorem Ty39.one (x : Ty39) : ∀ u ∈ x.cells, u.oneCell' = true := fun u hu => by
  simp only [Ty39.cells, List.mem_cons, List.not_mem_nil, or_false] at hu
  rcases hu with rfl | rfl | rfl | rfl | rfl <;> rfl
theorem Ty39.ok.below {x : Ty39} {w w' : World} (h : x.ok w) (hb : Below w.heap.size w w') : x.ok w' := by
  obtain ⟨h0, h1, h2, h3⟩ := h
  exact ⟨h0, h1, h2, h3⟩
def Ty39.oks (xs : List Ty39) (w : World) : Prop := ∀ x ∈ xs, x.ok w
theorem Ty39.oks.below {xs : List Ty39} {w w' : World} (h : Ty39.oks xs w) (hb : Below w.heap.size w w') : Ty39.oks xs w' := fun x hx => Ty39.ok.below (h x hx) hb
theorem Ty39.oks.at {xs : List Ty39} {w : World} (h : Ty39.oks xs w) {k : Nat} (hk : k < xs.length) : Ty39.ok xs[k] w := h _ (List.getElem_mem hk)
theorem Ty39.ok_zName {x : Ty39} {w : World} (h : x.ok w) : x.fName.size ≤ maxLen := h.1
theorem Ty39.ok_zPath {x : Ty39} {w : World} (h : x.ok w) : x.fPath.size ≤ maxLen := h.2.1
theorem Ty39.ok_zFull {x : Ty39} {w : World} (h : x.ok w) : x.fFull.size ≤ maxLen := h.2.2.1
theorem Ty39.ok_zRoot {x : Ty39} {w : World} (h : x.ok w) : x.fRoot.size ≤ maxLen := h.2.2.2
end Go.Proofs.Ytkjcedlgljeoiaa
