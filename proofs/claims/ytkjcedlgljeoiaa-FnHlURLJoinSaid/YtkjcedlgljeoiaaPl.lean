/- Lists of pointers to objects; own rows of structs; a word for a slice that is read. -/
import Derived.Test.YtkjcedlgljeoiaaGx
namespace Go.Proofs.Ytkjcedlgljeoiaa
open Go.RowKit Go.Lib

theorem Blk.apart {w : World} {g g' : Nat} {t t' : TypeId} {c c' : Array Value} (h : Blk w g t c) (h' : Blk w g' t' c') (ht : t ≠ t') : g ≠ g' := by
  rintro rfl
  unfold Blk at h h'
  rw [h] at h'
  injection h' with h'
  injection h' with _ h'
  exact ht h'
def ptr (g : Nat) : Value := .pointer (some ⟨g, 0, none⟩)
def ptrs (ps : List Nat) : List Value := ps.map ptr
/-- Objects of a list, each as it is told: At x g w. -/
def Pl {α : Type} (At : α → Nat → World → Prop) (w : World) (ps : List Nat) (xs : List α) : Prop := ps.length = xs.length ∧ ∀ k, ∀ h1 : k < ps.length, ∀ h2 : k < xs.length, At xs[k] ps[k] w
section
variable {α : Type} {At : α → Nat → World → Prop} {w w' : World} {ps : List Nat} {xs : List α}
theorem Pl.nil : Pl At w [] ([] : List α) := ⟨rfl, fun k h => by simp at h⟩
theorem Pl.map (h : Pl At w ps xs) (f : ∀ x g, At x g w → At x g w') : Pl At w' ps xs := ⟨h.1, fun k h1 h2 => f _ _ (h.2 k h1 h2)⟩
theorem Pl.snoc {x : α} {g : Nat} (h : Pl At w ps xs) (hx : At x g w) : Pl At w (ps ++ [g]) (xs ++ [x]) := by
  refine ⟨by simp [h.1], fun k h1 h2 => ?_⟩
  by_cases e : k < ps.length
  · have e2 : k < xs.length := by rw [← h.1]; exact e
    rw [List.getElem_append_left e, List.getElem_append_left e2]
    exact h.2 k e e2
  · have e3 : k = ps.length := by simp at h1; omega
    subst e3
    rw [List.getElem_append_right (Nat.le_refl _), List.getElem_append_right (by rw [h.1]; exact Nat.le_refl _)]
    simpa using hx
theorem Pl.get (h : Pl At w ps xs) {k : Nat} (hk : k < xs.length) : ∃ h1 : k < ps.length, At xs[k] ps[k] w := ⟨by rw [h.1]; exact hk, h.2 k _ hk⟩
end
theorem ptrs_snoc (ps : List Nat) (g : Nat) : ptrs (ps ++ [g]) = ptrs ps ++ [.pointer (some ⟨g, 0, none⟩)] := by simp [ptrs, ptr]
theorem ptrs_len (ps : List Nat) : (ptrs ps).length = ps.length := by simp [ptrs]
theorem ptrs_get {ps : List Nat} {k : Nat} (h : k < ps.length) : (ptrs ps)[k]? = some (.pointer (some ⟨ps[k], 0, none⟩)) := by simp [ptrs, ptr, h]
/-- Own rows of structs: cells one behind the other. -/
def flatC {α : Type} (f : α → List Value) (xs : List α) : List Value := (xs.map f).flatten
theorem flatC_snoc {α : Type} (f : α → List Value) (xs : List α) (x : α) : flatC f (xs ++ [x]) = flatC f xs ++ f x := by simp [flatC]
theorem flatC_nil {α : Type} (f : α → List Value) : flatC f [] = [] := rfl
/-- A row of structs that the call made, as rows. -/
theorem own_rowsT {α : Type} {f : α → List Value} {w : World} {B : Nat} {e : TypeId} {sz : Nat} {v : Value} {xs : List α} (h : w.ownsRow B e sz v xs.length (flatC f xs)) (hz : 0 < sz) (hf : ∀ x, (f x).length = sz) (hn : xs.length * sz ≤ 9223372036854775807) :
    ∃ A c, v = .slice A xs.length c ∧ xs.length ≤ c ∧ Rows w A sz (xs.map f) := by
  obtain ⟨A, c, e1, h1, h2⟩ := own_slice h hn
  exact ⟨A, c, e1, h1, h2.toRows hz (fun row hr => by obtain ⟨x, _, rfl⟩ := List.mem_map.1 hr; exact hf x) rfl⟩
theorem own_rowsT1 {α : Type} {f : α → List Value} {w : World} {B : Nat} {e : TypeId} {sz : Nat} {A : Option Addr} {n c : Nat} {xs : List α} (h : w.ownsRow B e sz (.slice A n c) n (flatC f xs)) (hl : xs.length = n) (hz : 0 < sz) (hf : ∀ x, (f x).length = sz) (hn : n * sz ≤ 9223372036854775807) :
    Rows w A sz (xs.map f) := by
  subst hl
  obtain ⟨A', c', e1, _, h2⟩ := own_rowsT h hz hf hn
  injection e1 with e1 _ _
  rw [e1]; exact h2
end Go.Proofs.Ytkjcedlgljeoiaa
