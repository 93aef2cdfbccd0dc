/- Arguments opened: what a reading of cells at a type says about them. -/
import Derived.Test.YtkjcedlgljeoiaaCore
import Derived.SliceStrings
import Derived.Deep.Slices
import Derived.Deep.Fields
import Derived.ChangeSame
namespace Go.Proofs.Ytkjcedlgljeoiaa
open Go.RowKit Go.ChangeShapes Go.WideShapes Go.Deep

section
variable {H : Type} {enc : TypeId × Value → H} {P : Program} {w : World} {base : Nat} {spare : Nat → Bool} {held : Bool}
theorem sl_of_strings2 {a0 : Option Addr} {n0 c0 : Nat} {x : DataW H × List MemPlace}
    (h : ([Value.slice a0 n0 c0] = [.slice none 0 0] ∧ x = (.nil, [])) ∨
      ∃ (a : Addr) (len cap : Nat) (ss : List ByteArray), [Value.slice a0 n0 c0] = [.slice (some a) len cap] ∧ base ≤ a.block ∧ len ≤ cap ∧ cap ≤ maxLen ∧ ss.length = (if spare a.block then cap else len) ∧
        x = (.slice (strs (ss.take len)) (strs (ss.drop len)), MemPlace.row a ss.length) ∧
        (∀ i, i < ss.length → w.cell? (a.add i) = some (.string (ss.getD i ByteArray.empty))) ∧ (∀ s ∈ ss, s.size ≤ maxLen)) :
    ∃ a c, ∃ xs : List ByteArray, Value.slice a0 n0 c0 = .slice a xs.length c ∧ Sl w a (xs.map Value.string) ∧ xs.length ≤ c := by
  rcases h with ⟨h, _⟩ | ⟨a, len, cap, ss, h, _, hl, hm, hz, _, hc, _⟩
  · injection h with h
    exact ⟨none, 0, [], by simpa using h, Sl.nil, Nat.le_refl _⟩
  · injection h with h
    have hle : len ≤ ss.length := by rw [hz]; split <;> omega
    refine ⟨some a, cap, ss.take len, by rw [h, List.length_take, Nat.min_eq_left hle], ⟨by simp only [List.length_map, List.length_take, maxLen] at *; omega, fun _ => ⟨a, rfl, fun j u hu => ?_⟩⟩, by simp only [List.length_take]; omega⟩
    rw [List.getElem?_map, List.getElem?_take] at hu
    split at hu
    · rename_i hj
      rw [hc j (by omega)]
      rw [← hu, List.getD_eq_getElem?_getD, List.getElem?_eq_getElem (by omega)]
      rfl
    · cases hu
end
end Go.Proofs.Ytkjcedlgljeoiaa
