/- FnHlNames: plain laws. -/
import Derived.Test.YtdgblfldbikneaaN5
namespace Go.Proofs.Ytdgblfldbikneaa
open Go.RowKit Go.Lib

theorem ok_dash : ∀ n : Fin 256, okU ⟨#[95, 45]⟩ n.val = okB ⟨#[95, 45]⟩ (UInt8.ofNat n.val) := by decide +kernel
theorem ok_dot : ∀ n : Fin 256, okU ⟨#[46, 95, 45]⟩ n.val = okB ⟨#[95, 46, 45]⟩ (UInt8.ofNat n.val) := by decide +kernel
theorem u8_of (c : UInt8) : UInt8.ofNat c.toNat = c := UInt8.ofNat_toNat
theorem allB_dash (s : ByteArray) : allB s ⟨#[95, 45]⟩ = wordB s ⟨#[95, 45]⟩ := by
  have h : (fun c : UInt8 => okB ⟨#[95, 45]⟩ c) = fun c : UInt8 => okU ⟨#[95, 45]⟩ c.toNat := by
    funext c
    have := ok_dash ⟨c.toNat, c.toNat_lt⟩
    rw [u8_of] at this
    exact this.symm
  unfold allB wordB
  rw [h]
theorem allB_dot (s : ByteArray) : allB s ⟨#[95, 46, 45]⟩ = wordB s ⟨#[46, 95, 45]⟩ := by
  have h : (fun c : UInt8 => okB ⟨#[95, 46, 45]⟩ c) = fun c : UInt8 => okU ⟨#[46, 95, 45]⟩ c.toNat := by
    funext c
    have := ok_dot ⟨c.toNat, c.toNat_lt⟩
    rw [u8_of] at this
    exact this.symm
  unfold allB wordB
  rw [h]
theorem chartName_eq (s : ByteArray) : chartNameB s = (allB s ⟨#[95, 46, 45]⟩ && decide (s.size ≤ 250)) := by
  rw [allB_dot]
  unfold chartNameB
  have h : wordB s ⟨#[46, 95, 45]⟩ = (wordB s ⟨#[46, 95, 45]⟩ && !s.toList.isEmpty) := by
    unfold wordB
    rw [ByteArray.toList_eq]
    cases (s.data.toList.isEmpty) <;> simp
  rw [Bool.eq_iff_iff]
  simp only [Bool.and_eq_true]
  constructor
  · rintro ⟨⟨_, h2⟩, h3⟩; exact ⟨h3, h2⟩
  · rintro ⟨h3, h2⟩
    rw [h, Bool.and_eq_true] at h3
    exact ⟨⟨h3.2, h2⟩, h3.1⟩

def wB (c : UInt8) : UInt8 := if c = 9 ∨ c = 10 then 32 else c
def wantF (u : ByteArray) (k : Nat) : ByteArray := ⟨((u.data.toList.take k).map wB).toArray⟩
theorem wantF_succ {u : ByteArray} {k : Nat} (h : k < u.size) : wantF u (k + 1) = wantF u k ++ ⟨#[wB u[k]]⟩ := by
  have hl : k < u.data.toList.length := by simpa using h
  apply ByteArray.ext
  apply Array.ext'
  unfold wantF
  rw [List.take_succ_eq_append_getElem hl]
  simp only [ByteArray.data_append, Array.toList_append, List.map_append, List.map_cons, List.map_nil]
  rfl
theorem wantF_size (u : ByteArray) (k : Nat) : (wantF u k).size ≤ u.size := by
  have : (wantF u k).size = ((u.data.toList.take k).map wB).length := by show (List.toArray _).size = _; rw [List.size_toArray]
  rw [this]
  simp
  omega
theorem ext_one {u : ByteArray} {k : Nat} (h : k < u.size) : u.extract k (k + 1) = ⟨#[u[k]]⟩ := by
  have hl : k < u.data.toList.length := by simpa using h
  apply ByteArray.ext
  apply Array.ext'
  rw [ByteArray.data_extract, Array.toList_extract, List.extract_eq_take_drop, List.drop_eq_getElem_cons hl]
  simp
  rfl
abbrev whiteS : ByteArray := ⟨#[32, 9, 10]⟩
theorem allB_one (c : UInt8) : allB ⟨#[c]⟩ whiteS = okB whiteS c := by
  simp [allB]
theorem okB_clean : ∀ n : Fin 256, okB whiteS (UInt8.ofNat n.val) = true → cleanB (UInt8.ofNat n.val) = some (wB (UInt8.ofNat n.val)) ∧ (UInt8.ofNat n.val).toNat ≤ 127 := by decide +kernel
theorem okB_clean' {c : UInt8} (h : okB whiteS c = true) : cleanB c = some (wB c) ∧ c.toNat ≤ 127 := by
  have := okB_clean ⟨c.toNat, c.toNat_lt⟩
  rw [u8_of] at this
  exact this h
theorem filterMap_all {α β : Type} {f : α → Option β} {g : α → β} : ∀ l : List α, (∀ x ∈ l, f x = some (g x)) → l.filterMap f = l.map g
  | [], _ => rfl
  | x :: r, h => by
    rw [List.filterMap_cons, h x (by simp), List.map_cons, filterMap_all r (fun y hy => h y (by simp [hy]))]
theorem clean_want {u : ByteArray} (h : ∀ j, ∀ hj : j < u.size, okB whiteS u[j] = true) : cleanF u = wantF u u.size := by
  have hall : ∀ c ∈ u.data.toList, okB whiteS c = true := fun c hc => by
    obtain ⟨j, hj, rfl⟩ := List.mem_iff_getElem.1 hc
    exact h j (by simpa using hj)
  unfold cleanF wantF
  rw [filterMap_all (g := wB) _ (fun c hc => (okB_clean' (hall c hc)).1), List.take_of_length_le (by simp)]
theorem ascii_of_ok {u : ByteArray} (h : ∀ j, ∀ hj : j < u.size, okB whiteS u[j] = true) : asciiB u := fun j hj => (okB_clean' (h j hj)).2
theorem Sl.take {w : World} {A : Option Addr} {cs : List Value} (h : Sl w A cs) (k : Nat) : Sl w A (cs.take k) :=
  ⟨by have := h.1; simp; omega, fun hn => by
    obtain ⟨ad, e, hc⟩ := h.2 (by simp at hn; omega)
    exact ⟨ad, e, fun j u hu => hc j u (by
      rw [List.getElem?_take] at hu
      split at hu
      · exact hu
      · cases hu)⟩⟩
theorem oneOf_take (s : ByteArray) (A : Option Addr) (c : Nat) (xs : List ByteArray) (k : Nat) (hk : k ≤ xs.length) (w : World) (h : Sl w A (strs xs)) :
    Calls Try.prog 35 #[.string s, .slice A k c] w fun e w' => e = .returned (.bool (oneOf s (xs.take k))) ∧ w = w' := by
  have h2 := oneOf_any s A c (xs.take k) w (by have := h.take k; rwa [strs, ← List.map_take] at this)
  rw [List.length_take, Nat.min_eq_left hk] at h2
  exact h2
theorem dup_succ (xs : List ByteArray) (k : Nat) (hk : k < xs.length) : ((List.range (k + 1)).any fun j => oneOf (xs.getD j ByteArray.empty) (xs.take j)) = (((List.range k).any fun j => oneOf (xs.getD j ByteArray.empty) (xs.take j)) || oneOf xs[k] (xs.take k)) := by
  rw [List.range_succ, List.any_append]
  simp [List.getD_eq_getElem?_getD, List.getElem?_eq_getElem hk]
end Go.Proofs.Ytdgblfldbikneaa
