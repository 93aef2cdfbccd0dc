/- Contracts: semver.NewVersion of what is none, Compare, Equal. -/
import Derived.Test.YtdgblfldbikneaaV2
namespace Go.Proofs.Ytdgblfldbikneaa
open Go.RowKit Go.Lib
set_option linter.unusedVariables false
set_option linter.unusedSimpArgs false

theorem err_bad {s : ByteArray} {j : Nat} (h : j < s.size) (hc : verC s[j] = false) : errB s = true := by
  have : s.data.toList.all verC = false := by
    rw [List.all_eq_false]
    exact ⟨s[j], Array.getElem_mem_toList (by simpa using h), by simp [hc]⟩
  unfold errB
  rw [this]
  rfl
theorem err_lead {s : ByteArray} (he : errB s = true) (ha : ∀ j, ∀ h : j < s.size, verC s[j] = true) : ∀ h : 0 < s.size, leadB s[0] = false := by
  intro h
  have h1 : s.data.toList.all verC = true := by
    rw [List.all_eq_true]
    intro x hx
    obtain ⟨j, hj, rfl⟩ := List.getElem_of_mem hx
    exact ha j (by simpa using hj)
  unfold errB at he
  rw [h1] at he
  cases hl : s.data.toList with
  | nil =>
    have : s.data.toList.length = 0 := by rw [hl]; rfl
    rw [Array.length_toList] at this
    have h4 : s.size = 0 := this
    omega
  | cons c l =>
    rw [hl] at he
    have e : s[0] = c := by
      have h5 : s.data.toList[0]? = some c := by rw [hl]; rfl
      obtain ⟨h6, h7⟩ := List.getElem?_eq_some_iff.1 h5
      exact h7
    rw [e]
    simpa using he

set_option maxRecDepth 100000 in
set_option maxHeartbeats 8000000 in
theorem newVer_err (s : ByteArray) (w : World) (hs : s.size ≤ 1000000) (he : errB s = true) :
    Calls Try.prog 139 #[.string s] w fun e w' => ∃ g, e = .returned (.tuple #[.pointer none, .iface 199 (.pointer (some ⟨g, 0, none⟩))]) ∧ Below w.heap.size w w' := by
  have HE := Lib.hid he
  clear he
  go_enter Try.func139, Try.ntmps139
  go_upto_block 0 with fail
  go_cut [4] (fun _ wx => wx = w ∧ Hid (∀ j, ∀ h : j < s.size, verC s[j] = true))
  case first =>
    go_wp2_with fail
    go_loop [4] (fun i => ∃ k : Nat, k ≤ s.size ∧ i = .int .i64 k ∧ Hid (∀ j, ∀ h : j < s.size, j < k → verC s[j] = true)) (fun i => s.size - (intOf i).toNat)
    case atStart => exact ⟨0, Nat.zero_le _, rfl, fun j _ h0 => by omega⟩
    case round =>
      obtain ⟨k, hk, rfl, HA⟩ := hrel
      by_cases hlt : k < s.size
      · have h255 : (s[k].toNat : Int) ≤ 255 := by have := s[k].toNat_lt; omega
        go_wp2_with (go_at_call 84; (with_reducible refine (errNew_any _ _).mono ?_); rintro e w1 ⟨v, rfl, ⟨g, rfl, hg⟩, hb⟩)
        all_goals (try simp only [Bool.not_eq_eq_eq_not, Bool.not_true, Bool.not_false, decide_eq_true_eq, decide_eq_false_iff_not, beq_iff_eq, beq_eq_false_iff_ne, ne_eq] at *)
        all_goals first
          | (refine ⟨⟨k + 1, by omega, by go_num, fun j hj hjk => ?_⟩, ?_⟩
             · by_cases e : j = k
               · subst e; unfold verC; rw [decide_eq_true_eq]; omega
               · exact HA.out j hj (by omega)
             · simp [intOf]; omega)
          | (go_ret2
             exact ⟨g, rfl, hb⟩)
      · obtain rfl : k = s.size := by omega
        have HA2 : Hid (∀ j, ∀ h : j < s.size, verC s[j] = true) := fun j h => HA.out j h h
        clear HA
        go_wp2_with fail
        go_meet
        exact ⟨rfl, HA2⟩
  case rest =>
    obtain ⟨hw, HA⟩ := hcut
    obtain rfl : w = wc := hw.symm
    have hl := err_lead HE.out HA.out
    by_cases h0 : 0 < s.size
    · have hl := hl h0
      have e0 : ¬ s.toList = [] := by
        rw [ByteArray.toList_eq]
        intro e
        have h3 : s.data.toList.length = 0 := by rw [e]; rfl
        rw [Array.length_toList] at h3
        have h4 : s.size = 0 := h3
        omega
      have e1 : s.toList.isEmpty = false := by simp [e0]
      have f3 : ((s[0].toNat : Int) != 118) = true := by simp only [leadB, decide_eq_false_iff_not] at hl; simp; omega
      have hr : (s[0].toNat : Int) < 48 ∨ (48 ≤ (s[0].toNat : Int) ∧ 57 < (s[0].toNat : Int)) := by simp only [leadB, decide_eq_false_iff_not] at hl; omega
      clear hl HA HE
      rcases hr with hr | ⟨hr1, hr2⟩
      all_goals
        go_wp2_with (go_at_call 84; (with_reducible refine (errNew_any _ _).mono ?_); rintro e w1 ⟨v, rfl, ⟨g, rfl, hg⟩, hb⟩)
        go_ret2
        exact ⟨g, rfl, hb⟩
    · obtain rfl : s = ⟨#[]⟩ := ByteArray.ext (Array.eq_empty_of_size_eq_zero (by show s.size = 0; omega))
      clear hl HA HE h0
      go_wp2_with (go_at_call 84; (with_reducible refine (errNew_any _ _).mono ?_); rintro e w1 ⟨v, rfl, ⟨g, rfl, hg⟩, hb⟩)
      go_ret2
      exact ⟨g, rfl, hb⟩

/-- One list of numbers against another one. -/
def cmpL : List Int → List Int → Int
  | x :: xs, y :: ys => if x = y then cmpL xs ys else x - y
  | _, _ => 0
theorem cmpL_at : ∀ {l m : List Int} {k : Nat} (hl : k < l.length) (hm : k < m.length), (∀ j, ∀ h1 : j < l.length, ∀ h2 : j < m.length, j < k → l[j] = m[j]) → l[k] ≠ m[k] → cmpL l m = l[k] - m[k]
  | x :: xs, y :: ys, 0, _, _, _, hn => by
    simp only [List.getElem_cons_zero, ne_eq] at hn
    simp [cmpL, hn]
  | x :: xs, y :: ys, k + 1, hl, hm, he, hn => by
    have h0 := he 0 (by simp) (by simp) (by omega)
    simp only [List.getElem_cons_zero] at h0
    simp only [cmpL, h0, if_true, List.getElem_cons_succ]
    exact cmpL_at (by simpa using hl) (by simpa using hm) (fun j h1 h2 h3 => by have := he (j + 1) (by simp; omega) (by simp; omega) (by omega); exact this) (by simpa using hn)
  | [], _, k, hl, _, _, _ => by simp at hl
  | _ :: _, [], k, _, hm, _, _ => by simp at hm
theorem cmpL_eq : ∀ {l : List Int}, cmpL l l = 0
  | [] => rfl
  | x :: xs => by simp [cmpL]; exact cmpL_eq
theorem cmpL_zero : ∀ {l m : List Int}, l.length = m.length → cmpL l m = 0 → l = m
  | [], [], _, _ => rfl
  | x :: xs, y :: ys, hl, h => by
    by_cases e : x = y
    · subst e
      simp only [cmpL, if_true] at h
      rw [cmpL_zero (by simpa using hl) h]
    · simp only [cmpL, if_neg e] at h
      omega
  | [], _ :: _, hl, _ => by simp at hl
  | _ :: _, [], hl, _ => by simp at hl
set_option maxRecDepth 100000 in
set_option maxHeartbeats 4000000 in
theorem compare_any (g g2 : Nat) (l m : List Int) (s t : ByteArray) (w : World) (h : Blk w g 228 (vC l s)) (h2 : Blk w g2 228 (vC m t)) (hl : l.length = 3) (hm : m.length = 3) (bl : ∀ x ∈ l, 0 ≤ x ∧ x < 1000000000) (bm : ∀ x ∈ m, 0 ≤ x ∧ x < 1000000000) :
    Calls Try.prog 146 #[.pointer (some ⟨g, 0, none⟩), .pointer (some ⟨g2, 0, none⟩)] w fun e w' => e = .returned (.int .i64 (cmpL l m)) ∧ Below w.heap.size w w' := by
  have H := Lib.hid h
  have H2 := Lib.hid h2
  have BL := Lib.hid bl
  have BM := Lib.hid bm
  have HL := Lib.hid hl
  have HM := Lib.hid hm
  clear h h2 bl bm hl hm
  go_enter Try.func146, Try.ntmps146
  go_wp2_with fail
  go_loopw [5, 6] (fun _ i wr => ∃ k : Nat, k ≤ 3 ∧ i = .int .i64 k ∧ Hid (∀ j, ∀ h1 : j < l.length, ∀ h2 : j < m.length, j < k → l[j] = m[j]) ∧ Hid (Below w.heap.size w wr)) (fun _ i _ => 3 - (intOf i).toNat)
  case atStart => exact ⟨0, by omega, rfl, fun j _ _ h0 => by omega, Below.refl _ _⟩
  case round =>
    obtain ⟨k, hk, rfl, HA, HB⟩ := hrel
    by_cases hlt : k < 3
    · have k1 : k < l.length := by have := HL.out; omega
      have k2 : k < m.length := by have := HM.out; omega
      obtain ⟨x, hx⟩ : ∃ x, x = l[k] := ⟨_, rfl⟩
      obtain ⟨y, hy⟩ : ∃ y, y = m[k] := ⟨_, rfl⟩
      have c1 : wr.cell? ⟨g, k, none⟩ = some (.int .i64 x) := by rw [(H.out.below HB.out).cell, vC_get k1, hx]
      have c2 : wr.cell? ⟨g2, k, none⟩ = some (.int .i64 y) := by rw [(H2.out.below HB.out).cell, vC_get k2, hy]
      have bx := BL.out x (by rw [hx]; exact List.getElem_mem _)
      have by_ := BM.out y (by rw [hy]; exact List.getElem_mem _)
      obtain ⟨x0, x1⟩ := bx
      obtain ⟨y0, y1⟩ := by_
      have b0 : (0 : Int) ≤ (k : Int) := by omega
      have b1 : (k : Int) < 3 := by omega
      have b3 : ((k : Int)).toNat = k := by omega
      have HXX := Lib.hid hx
      have HYY := Lib.hid hy
      clear hx hy
      by_cases hxy : x = y
      · have d1 : (x != y) = false := by simp [hxy]
        have HE := Lib.hid hxy
        clear hxy
        go_wp2_with fail
        go_quiet (fail)
        go_wp2_with fail
        have HA2 : Hid (∀ j, ∀ h1 : j < l.length, ∀ h2 : j < m.length, j < k + 1 → l[j] = m[j]) := fun j h1 h2 h3 => by
          by_cases e : j = k
          · subst e; rw [← HXX.out, ← HYY.out]; exact HE.out
          · exact HA.out j h1 h2 (by omega)
        refine ⟨⟨k + 1, by omega, by go_num, HA2, below_drewN1 HB.out _⟩, by simp [intOf]; omega⟩
      · have d1 : (x != y) = true := by simp [hxy]
        have HE := Lib.hid hxy
        clear hxy
        go_wp2_with fail
        go_quiet (fail)
        go_wp2_with fail
        go_quiet (fail)
        go_wp2_with fail
        go_ret
        exact ⟨ret_int (by rw [cmpL_at k1 k2 HA.out (by rw [← HXX.out, ← HYY.out]; exact HE.out), ← HXX.out, ← HYY.out]), below_drewN1 (below_drewN1 HB.out _) _⟩
    · obtain rfl : k = 3 := by omega
      go_wp2_with fail
      go_ret
      have e : l = m := List.ext_getElem (by rw [HL.out, HM.out]) fun j h1 h2 => HA.out j h1 h2 (by have := HL.out; omega)
      exact ⟨ret_int (by rw [e]; exact cmpL_eq.symm), HB.out⟩
set_option maxRecDepth 100000 in
theorem equal_any (g g2 : Nat) (l m : List Int) (s t : ByteArray) (w : World) (h : Blk w g 228 (vC l s)) (h2 : Blk w g2 228 (vC m t)) (hl : l.length = 3) (hm : m.length = 3) (bl : ∀ x ∈ l, 0 ≤ x ∧ x < 1000000000) (bm : ∀ x ∈ m, 0 ≤ x ∧ x < 1000000000) :
    Calls Try.prog 140 #[.pointer (some ⟨g, 0, none⟩), .pointer (some ⟨g2, 0, none⟩)] w fun e w' => e = .returned (.bool (decide (l = m))) ∧ Below w.heap.size w w' := by
  have hc := fun W (a : Blk W g 228 (vC l s)) (b : Blk W g2 228 (vC m t)) => compare_any g g2 l m s t W a b hl hm bl bm
  have hz : (cmpL l m == 0) = decide (l = m) := by
    rw [Bool.eq_iff_iff]
    simp only [beq_iff_eq, decide_eq_true_eq]
    exact ⟨fun e => cmpL_zero (by rw [hl, hm]) e, fun e => by rw [e]; exact cmpL_eq⟩
  have H := Lib.hid h
  have H2 := Lib.hid h2
  have HC := Lib.hid hc
  have HZ := Lib.hid hz
  clear h h2 hc hz bl bm
  go_enter Try.func140, Try.ntmps140
  go_wp2_with (go_at_call 146; (with_reducible refine (HC.out _ H.out H2.out).mono ?_); rintro e w1 ⟨rfl, hb⟩)
  go_ret
  exact ⟨ret_bool (by first | exact HZ.out | simpa using HZ.out), hb⟩
end Go.Proofs.Ytdgblfldbikneaa
