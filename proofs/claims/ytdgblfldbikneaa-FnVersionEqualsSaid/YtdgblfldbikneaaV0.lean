/- Plain law: versions as texts; the numbers of a plain one; one text for three numbers. -/
import Derived.Test.YtdgblfldbikneaaA8
namespace Go.Proofs.Ytdgblfldbikneaa
open Go.RowKit Go.Lib

def digB (c : UInt8) : Bool := decide (48 ≤ c.toNat ∧ c.toNat ≤ 57)
def valL (l : List UInt8) : Nat := l.foldl (fun n c => 10 * n + (c.toNat - 48)) 0
def tw (s : ByteArray) (k : Nat) : List UInt8 := (s.data.toList.drop k).takeWhile digB
/-- The number i of a plain version that begins at 'from': its value, and what stands behind the point. -/
def stepF (s : ByteArray) (i from_ : Nat) : Option (Nat × Nat) :=
  if tw s from_ = [] ∨ 9 < (tw s from_).length ∨ (1 < (tw s from_).length ∧ (tw s from_).head? = some 48) ∨ (i < 2 ∧ s.data.toList[from_ + (tw s from_).length]? ≠ some 46) then none
  else some (valL (tw s from_), from_ + (tw s from_).length + 1)
def pref (s : ByteArray) : Nat → Option (List Nat × Nat)
  | 0 => some ([], 0)
  | i + 1 => match pref s i with
    | none => none
    | some (l, p) => match stepF s i p with
      | none => none
      | some (v, e) => some (l ++ [v], e)
def numsF (s : ByteArray) : List Nat := match pref s 3 with | none => [0, 0, 0] | some (l, _) => l
def plainB (s : ByteArray) : Bool := match pref s 3 with | none => false | some (_, e) => decide (e = s.size + 1)

theorem valL_snoc (l : List UInt8) (c : UInt8) : valL (l ++ [c]) = 10 * valL l + (c.toNat - 48) := by simp [valL]
theorem pref_len {s : ByteArray} : ∀ {i l p}, pref s i = some (l, p) → l.length = i
  | 0, l, p, h => by simp [pref] at h; rw [h.1]; rfl
  | i + 1, l, p, h => by
    simp only [pref] at h
    cases h1 : pref s i with
    | none => rw [h1] at h; cases h
    | some x =>
      obtain ⟨l1, p1⟩ := x
      rw [h1] at h
      simp only at h
      cases h2 : stepF s i p1 with
      | none => rw [h2] at h; cases h
      | some y =>
        obtain ⟨v, e⟩ := y
        rw [h2] at h
        simp only [Option.some.injEq, Prod.mk.injEq] at h
        rw [← h.1, List.length_append, pref_len h1]
        rfl
theorem tw_digit {s : ByteArray} {k : Nat} (h : k < s.size) (hd : digB s[k] = true) : tw s k = s[k] :: tw s (k + 1) := by
  have hl : k < s.data.toList.length := by simpa using h
  unfold tw
  rw [List.drop_eq_getElem_cons hl, List.takeWhile_cons]
  have e : s.data.toList[k] = s[k] := rfl
  rw [e, hd]
  rfl
theorem tw_stop {s : ByteArray} {k : Nat} (h : k < s.size) (hd : digB s[k] = false) : tw s k = [] := by
  have hl : k < s.data.toList.length := by simpa using h
  unfold tw
  rw [List.drop_eq_getElem_cons hl, List.takeWhile_cons]
  have e : s.data.toList[k] = s[k] := rfl
  rw [e, hd]
  rfl
theorem tw_end {s : ByteArray} {k : Nat} (h : s.size ≤ k) : tw s k = [] := by
  unfold tw
  rw [List.drop_of_length_le (by simpa using h)]
  rfl
theorem tw_all {s : ByteArray} {k : Nat} : ∀ c ∈ tw s k, digB c = true := fun c hc => by
  unfold tw at hc
  exact List.all_eq_true.1 (List.all_takeWhile (p := digB)) c hc
theorem tw_le (s : ByteArray) (k : Nat) (hk : k ≤ s.size) : k + (tw s k).length ≤ s.size := by
  have h1 : (tw s k).length ≤ (s.data.toList.drop k).length := (List.takeWhile_sublist _).length_le
  simp at h1
  omega
theorem tw_drop (s : ByteArray) (k : Nat) : s.data.toList.drop k = tw s k ++ s.data.toList.drop (k + (tw s k).length) := by
  have h := List.takeWhile_append_dropWhile (p := digB) (l := s.data.toList.drop k)
  have h2 : (s.data.toList.drop k).dropWhile digB = s.data.toList.drop (k + (tw s k).length) := by
    have h3 : (tw s k ++ (s.data.toList.drop k).dropWhile digB).drop (tw s k).length = (s.data.toList.drop k).dropWhile digB := List.drop_left
    have h4 : tw s k ++ (s.data.toList.drop k).dropWhile digB = s.data.toList.drop k := h
    rw [h4, List.drop_drop] at h3
    exact h3.symm
  rw [← h2]
  exact h.symm
theorem stepF_some {s : ByteArray} {i f v e : Nat} (h : stepF s i f = some (v, e)) :
    v = valL (tw s f) ∧ e = f + (tw s f).length + 1 ∧ tw s f ≠ [] ∧ (tw s f).length ≤ 9 ∧ (1 < (tw s f).length → (tw s f).head? ≠ some 48) ∧ (i < 2 → s.data.toList[f + (tw s f).length]? = some 46) := by
  unfold stepF at h
  split at h
  · cases h
  · rename_i hn
    simp only [Option.some.injEq, Prod.mk.injEq] at h
    refine ⟨h.1.symm, h.2.symm, fun hh => hn (.inl hh), ?_, fun h1 h2 => hn (.inr (.inr (.inl ⟨h1, h2⟩))), fun h1 => ?_⟩
    · rcases Nat.lt_or_ge 9 (tw s f).length with h3 | h3
      · exact absurd (.inr (.inl h3)) hn
      · exact h3
    · by_cases h3 : s.data.toList[f + (tw s f).length]? = some 46
      · exact h3
      · exact absurd (.inr (.inr (.inr ⟨h1, h3⟩))) hn
theorem snoc_ind {α : Type} {M : List α → Prop} (h0 : M []) (hs : ∀ l c, M l → M (l ++ [c])) (l : List α) : M l := by
  have : ∀ m : List α, M m.reverse := fun m => by
    induction m with
    | nil => exact h0
    | cons c m ih => rw [List.reverse_cons]; exact hs _ _ ih
  have h := this l.reverse
  rwa [List.reverse_reverse] at h
/-- Digits without a needless zero are one text for one number. -/
theorem val_pos : ∀ (l : List UInt8), l ≠ [] → (∀ c ∈ l, digB c = true) → l.head? ≠ some 48 → 1 ≤ valL l := by
  refine snoc_ind (fun h => absurd rfl h) (fun l c ih => ?_)
  · intro _ hd hh
    rw [valL_snoc]
    cases l with
    | nil =>
      have h1 := hd c (by simp)
      simp only [digB, decide_eq_true_eq] at h1
      have : c ≠ 48 := fun e => hh (by rw [e]; rfl)
      have : c.toNat ≠ 48 := fun e => this (UInt8.toNat_inj.1 e)
      omega
    | cons x xs =>
      have := ih (by simp) (fun y hy => hd y (List.mem_append_left _ hy)) (by simpa using hh)
      omega
theorem val_inj : ∀ (l m : List UInt8), l ≠ [] → m ≠ [] → (∀ c ∈ l, digB c = true) → (∀ c ∈ m, digB c = true) → (1 < l.length → l.head? ≠ some 48) → (1 < m.length → m.head? ≠ some 48) → valL l = valL m → l = m := by
  refine snoc_ind (fun m h => absurd rfl h) (fun l c ih => ?_)
  · intro m _ hm hd hdm hh hhm he
    obtain ⟨m, d, rfl⟩ : ∃ m' d, m = m' ++ [d] := ⟨m.dropLast, m.getLast hm, (List.dropLast_concat_getLast hm).symm⟩
    rw [valL_snoc, valL_snoc] at he
    have hc := hd c (by simp)
    have hd2 := hdm d (by simp)
    simp only [digB, decide_eq_true_eq] at hc hd2
    have e1 : c.toNat = d.toNat := by omega
    have e2 : valL l = valL m := by omega
    have e3 : c = d := UInt8.toNat_inj.1 e1
    subst e3
    congr 1
    by_cases hl : l = []
    · subst hl
      by_cases hm0 : m = []
      · exact hm0.symm
      · have hlen : 1 < (m ++ [c]).length := by
          have := List.length_pos_iff.2 hm0
          simp; omega
        have h1 := val_pos m hm0 (fun x hx => hdm x (by simp [hx])) (by
          have := hhm hlen
          cases m with
          | nil => exact absurd rfl hm0
          | cons x xs => simpa using this)
        simp [valL] at e2
        have : valL m = 0 := by rw [valL]; exact e2.symm
        omega
    · by_cases hm0 : m = []
      · subst hm0
        have hlen : 1 < (l ++ [c]).length := by
          have := List.length_pos_iff.2 hl
          simp; omega
        have h1 := val_pos l hl (fun x hx => hd x (by simp [hx])) (by
          have := hh hlen
          cases l with
          | nil => exact absurd rfl hl
          | cons x xs => simpa using this)
        simp [valL] at e2
        have : valL l = 0 := by rw [valL]; exact e2
        omega
      · refine ih m hl hm0 (fun x hx => hd x (by simp [hx])) (fun x hx => hdm x (by simp [hx])) (fun h => ?_) (fun h => ?_) e2
        · have := hh (by simp; omega)
          cases l with
          | nil => exact absurd rfl hl
          | cons x xs => simpa using this
        · have := hhm (by simp; omega)
          cases m with
          | nil => exact absurd rfl hm0
          | cons x xs => simpa using this
/-- What a plain version is. -/
theorem pref_text {s : ByteArray} (h : plainB s = true) : ∃ p q r : List UInt8, s.data.toList = p ++ 46 :: (q ++ 46 :: r) ∧ numsF s = [valL p, valL q, valL r] ∧
    (∀ t ∈ [p, q, r], t ≠ [] ∧ t.length ≤ 9 ∧ (∀ c ∈ t, digB c = true) ∧ (1 < t.length → t.head? ≠ some 48)) := by
  unfold plainB at h
  cases h3 : pref s 3 with
  | none => rw [h3] at h; cases h
  | some x =>
    obtain ⟨l3, e3⟩ := x
    rw [h3] at h
    simp only [decide_eq_true_eq] at h
    have hn : numsF s = l3 := by unfold numsF; rw [h3]
    simp only [pref] at h3
    cases h0 : stepF s 0 0 with
    | none => rw [h0] at h3; simp at h3
    | some y0 =>
      obtain ⟨v0, e0⟩ := y0
      rw [h0] at h3
      simp only [List.nil_append] at h3
      cases h1 : stepF s 1 e0 with
      | none => rw [h1] at h3; simp at h3
      | some y1 =>
        obtain ⟨v1, e1⟩ := y1
        rw [h1] at h3
        simp only at h3
        cases h2 : stepF s 2 e1 with
        | none => rw [h2] at h3; simp at h3
        | some y2 =>
          obtain ⟨v2, e2⟩ := y2
          rw [h2] at h3
          simp only [Option.some.injEq, Prod.mk.injEq] at h3
          obtain ⟨a1, a2, a3, a4, a5, a6⟩ := stepF_some h0
          obtain ⟨b1, b2, b3, b4, b5, b6⟩ := stepF_some h1
          obtain ⟨c1, c2, c3, c4, c5, _⟩ := stepF_some h2
          have cut : ∀ {k : Nat}, s.data.toList[k]? = some 46 → s.data.toList.drop k = 46 :: s.data.toList.drop (k + 1) := fun {k} hk => by
            obtain ⟨hk1, hk2⟩ := List.getElem?_eq_some_iff.1 hk
            rw [List.drop_eq_getElem_cons hk1, hk2]
          refine ⟨tw s 0, tw s e0, tw s e1, ?_, ?_, ?_⟩
          · have d0 := tw_drop s 0
            rw [cut (a6 (by omega)), ← a2] at d0
            rw [tw_drop s e0, cut (b6 (by omega)), ← b2, tw_drop s e1] at d0
            have : s.data.toList.drop (e1 + (tw s e1).length) = [] := List.drop_of_length_le (by simp; omega)
            rw [this, List.append_nil] at d0
            simpa using d0
          · rw [hn, ← h3.1, a1, b1, c1]; rfl
          · intro t ht
            simp only [List.mem_cons, List.not_mem_nil, or_false] at ht
            rcases ht with rfl | rfl | rfl
            · exact ⟨a3, a4, tw_all, a5⟩
            · exact ⟨b3, b4, tw_all, b5⟩
            · exact ⟨c3, c4, tw_all, c5⟩
theorem nums_inj {s t : ByteArray} (hs : plainB s = true) (ht : plainB t = true) (h : numsF s = numsF t) : s = t := by
  obtain ⟨p, q, r, e, n, a⟩ := pref_text hs
  obtain ⟨p', q', r', e', n', a'⟩ := pref_text ht
  rw [n, n'] at h
  simp only [List.cons.injEq, and_true] at h
  have k1 := val_inj p p' (a p (by simp)).1 (a' p' (by simp)).1 (a p (by simp)).2.2.1 (a' p' (by simp)).2.2.1 (a p (by simp)).2.2.2 (a' p' (by simp)).2.2.2 h.1
  have k2 := val_inj q q' (a q (by simp)).1 (a' q' (by simp)).1 (a q (by simp)).2.2.1 (a' q' (by simp)).2.2.1 (a q (by simp)).2.2.2 (a' q' (by simp)).2.2.2 h.2.1
  have k3 := val_inj r r' (a r (by simp)).1 (a' r' (by simp)).1 (a r (by simp)).2.2.1 (a' r' (by simp)).2.2.1 (a r (by simp)).2.2.2 (a' r' (by simp)).2.2.2 h.2.2
  apply ByteArray.ext
  apply Array.ext'
  rw [e, e', k1, k2, k3]
/-- A text that is no version, in any form. -/
def verC (c : UInt8) : Bool := decide ((48 ≤ c.toNat ∧ c.toNat ≤ 57) ∨ (97 ≤ c.toNat ∧ c.toNat ≤ 122) ∨ (65 ≤ c.toNat ∧ c.toNat ≤ 90) ∨ c.toNat = 46 ∨ c.toNat = 43 ∨ c.toNat = 45)
def leadB (c : UInt8) : Bool := decide (c.toNat = 118 ∨ (48 ≤ c.toNat ∧ c.toNat ≤ 57))
def errB (s : ByteArray) : Bool := !s.data.toList.all verC || (match s.data.toList with | [] => true | c :: _ => !leadB c)
theorem plain_ok {s : ByteArray} (h : plainB s = true) : errB s = false := by
  obtain ⟨p, q, r, e, _, a⟩ := pref_text h
  have dv : ∀ t ∈ [p, q, r], ∀ c ∈ t, verC c = true := fun t ht c hc => by
    have := (a t ht).2.2.1 c hc
    simp only [digB, verC, decide_eq_true_eq] at this ⊢
    omega
  unfold errB
  rw [e]
  have h1 : (p ++ 46 :: (q ++ 46 :: r)).all verC = true := by
    rw [List.all_eq_true]
    intro c hc
    simp only [List.mem_append, List.mem_cons] at hc
    rcases hc with hc | rfl | hc | rfl | hc
    · exact dv p (by simp) c hc
    · decide
    · exact dv q (by simp) c hc
    · decide
    · exact dv r (by simp) c hc
  rw [h1]
  cases p with
  | nil => exact absurd rfl (a [] (by simp)).1
  | cons c p =>
    have := (a (c :: p) (by simp)).2.2.1 c (by simp)
    simp only [digB, decide_eq_true_eq] at this
    simp [leadB]
    omega
/-- ChVersion. -/
def noF : ByteArray := ⟨#[110, 111, 32]⟩
def verF (s : ByteArray) : ByteArray := if plainB s = true ∨ s.data.toList = [] then s else match s.data.toList with | [] => s | c :: _ => if leadB c then noF ++ s else s
theorem verF_cases (s : ByteArray) : plainB (verF s) = true ∨ errB (verF s) = true := by
  unfold verF
  split
  · rename_i h
    rcases h with h | h
    · exact .inl h
    · right; unfold errB; rw [h]; rfl
  · rename_i h
    split
    · rename_i h2; exact absurd (.inr h2) h
    · rename_i c l h2
      right
      by_cases hl : leadB c = true
      · rw [if_pos hl]
        have e : (noF ++ s).data.toList = [110, 111, 32] ++ s.data.toList := by simp [noF, ByteArray.data_append]
        unfold errB
        rw [e]
        simp [verC]
      · rw [if_neg hl]
        unfold errB
        rw [h2]
        simp [hl]
theorem plain_of_ok {s : ByteArray} (h : errB (verF s) = false) : plainB (verF s) = true := (verF_cases s).resolve_right (by rw [h]; decide)
end Go.Proofs.Ytdgblfldbikneaa
