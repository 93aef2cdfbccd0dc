/- FnHlTransform: the plain law and the walk. -/
import Derived.Test.YtkjcedlgljeoiaaP6
namespace Go.Proofs.Ytkjcedlgljeoiaa
open Go.RowKit Go.Lib

/-- No byte of s is '<'. -/
def noLt (s : ByteArray) : Prop := ∀ j, ∀ h : j < s.size, s[j].toNat ≠ 60
theorem hereB_eq (s sub : ByteArray) (j : Nat) : hereB s sub j = ((s.data.toList.drop j).take sub.size == sub.data.toList) := by
  unfold hereB
  rw [ByteArray.toList_eq, ByteArray.toList_eq, ByteArray.data_extract, Array.toList_extract, List.extract_eq_take_drop]
  simp
theorem hereB_mark_no {s : ByteArray} {j : Nat} (hj : j < s.size) (h : s[j].toNat ≠ 60) : hereB s markS j = false := by
  rw [hereB_eq]
  have hl : j < s.data.toList.length := by simpa using hj
  rw [List.drop_eq_getElem_cons hl]
  have : s.data.toList[j] ≠ 60 := fun e => h (by
    have e2 : s[j] = s.data.toList[j] := by simp; rfl
    rw [e2, e]; rfl)
  simp [ByteArray.size]
  intro e
  exact absurd (by simpa using e) this
theorem mark_size : markS.size = 11 := rfl
theorem idx_mark {x : ByteArray} (r : ByteArray) (hx : noLt x) : idxO (x ++ (markS ++ r)) markS = some x.size := by
  have hs : (x ++ (markS ++ r)).size = x.size + (11 + r.size) := by simp only [ByteArray.size_append, mark_size]
  refine firstN_some (by rw [hs, mark_size]; omega) (fun j hj => ?_) ?_
  · refine hereB_mark_no (by rw [hs]; omega) ?_
    have := hx j hj
    rwa [ByteArray.getElem_append_left hj]
  · rw [hereB_eq]
    have : x.size = x.data.toList.length := by simp
    rw [ByteArray.data_append, ByteArray.data_append, Array.toList_append, Array.toList_append, this, List.drop_left]
    simp [ByteArray.size]
theorem idx_none {x : ByteArray} (hx : noLt x) : idxO x markS = none := by
  refine firstN_none fun j hj => ?_
  have h2 : j < x.size := by
    rw [mark_size] at hj
    omega
  exact hereB_mark_no h2 (hx j h2)
theorem ext_left (x r : ByteArray) : (x ++ r).extract 0 x.size = x := by
  apply ByteArray.ext
  apply Array.ext'
  rw [ByteArray.data_extract, ByteArray.data_append, Array.toList_extract]
  simp
theorem ext_right (x m r : ByteArray) : (x ++ (m ++ r)).extract (x.size + m.size) (x ++ (m ++ r)).size = r := by
  apply ByteArray.ext
  apply Array.ext'
  rw [ByteArray.data_extract, ByteArray.data_append, ByteArray.data_append, Array.toList_extract, List.extract_eq_take_drop]
  have h1 : x.size = x.data.toList.length := by simp
  have h2 : m.size = m.data.toList.length := by simp
  rw [Array.toList_append, Array.toList_append, ← List.append_assoc, h1, h2, ← List.length_append, List.drop_left]
  apply List.take_of_length_le
  simp [ByteArray.size_append]
  omega
theorem split_join : ∀ (xs : List ByteArray) (k : Nat), xs ≠ [] → (∀ x ∈ xs, noLt x) → xs.length ≤ k + 1 → splitF markS k (joinF markS xs) = xs
  | [], _, h, _, _ => absurd rfl h
  | [x], 0, _, _, _ => rfl
  | [x], k + 1, _, h, _ => by simp only [joinF]; unfold splitF; rw [idx_none (h x (by simp))]
  | x :: y :: r, 0, _, _, hk => by simp at hk
  | x :: y :: r, k + 1, _, h, hk => by
    have ih := split_join (y :: r) k (by simp) (fun z hz => h z (List.mem_cons_of_mem _ hz)) (by simp at hk ⊢; omega)
    simp only [joinF]
    unfold splitF
    rw [idx_mark _ (h x (by simp))]
    simp only [ext_left, ext_right, ih]
theorem join_len (sep : ByteArray) (hs : 1 ≤ sep.size) : ∀ xs : List ByteArray, xs.length ≤ (joinF sep xs).size + 1
  | [] => by simp
  | [x] => by simp
  | x :: y :: r => by
    have ih := join_len sep hs (y :: r)
    simp only [joinF, ByteArray.size_append, List.length_cons] at ih ⊢
    omega
theorem repl_join (xs : List ByteArray) (name : ByteArray) (h : ∀ x ∈ xs, noLt x) : replF (joinF markS xs) markS name = joinF name xs := by
  by_cases h0 : xs = []
  · subst h0
    simp [replF, joinF, splitF, idxO, firstN, mark_size, List.range]
    rfl
  · unfold replF
    rw [split_join xs _ h0 h (by have := join_len markS (Nat.le_of_ble_eq_true rfl) xs; omega)]
end Go.Proofs.Ytkjcedlgljeoiaa
