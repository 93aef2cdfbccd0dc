/- Contracts: hlShort, hlSame, hlPieces, HlLines. -/
import Derived.Test.YtkjcedlgljeoiaaFz
import Derived.Test.YtkjcedlgljeoiaaT0
namespace Go.Proofs.Ytkjcedlgljeoiaa
open Go.RowKit Go.Lib

def shortS (s : ByteArray) : Bool := decide (s.size ≤ 100) && s.data.toList.all fun c => decide (c.toNat ≤ 127)
def shortB (xs : List ByteArray) : Bool := decide (xs.length ≤ 30) && xs.all shortS
theorem shortS_big {s : ByteArray} (h : 100 < s.size) : shortS s = false := by simp [shortS]; omega
theorem shortS_no {s : ByteArray} {k : Nat} (hk : k < s.size) (h : 127 < s[k].toNat) : shortS s = false := by
  unfold shortS
  rw [Bool.and_eq_false_iff]
  right
  rw [List.all_eq_false]
  exact ⟨s[k], Array.mem_toList_iff.2 (Array.getElem_mem _), by simpa using h⟩
theorem shortS_yes {s : ByteArray} (h : s.size ≤ 100) (hb : ∀ k, ∀ hk : k < s.size, s[k].toNat ≤ 127) : shortS s = true := by
  unfold shortS
  have : (s.data.toList.all fun c => decide (c.toNat ≤ 127)) = true := by
    rw [List.all_eq_true]
    intro c hc
    obtain ⟨k, hk, rfl⟩ := List.mem_iff_getElem.1 hc
    exact decide_eq_true (hb k (by simpa using hk))
  rw [this, Bool.and_true]
  simpa using h
set_option maxRecDepth 100000 in
theorem hlShort_any (A : Option Addr) (c : Nat) (xs : List ByteArray) (w : World) (h : Sl w A (strs xs)) :
    Calls Try.prog 19 #[.slice A xs.length c] w fun e w' => e = .returned (.bool (shortB xs)) ∧ w = w' := by
  have hl : xs.length ≤ 9223372036854775807 := by simpa [strs_len] using h.1
  have H := Lib.hid h
  clear h
  by_cases hbig : 30 < xs.length
  · have HF := Lib.hid (show shortB xs = false by simp [shortB]; omega)
    clear H
    go_enter Try.func19, Try.ntmps19
    go_wp2
    go_ret
    exact ⟨ret_bool HF.out.symm, rfl⟩
  · have hle : xs.length ≤ 30 := by omega
    clear hbig
    go_enter Try.func19, Try.ntmps19
    go_wp2
    go_loop [11] (fun i => ∃ k : Nat, k ≤ xs.length ∧ i = .int .i64 k ∧ Hid (∀ j, ∀ hj : j < xs.length, j < k → shortS xs[j] = true)) (fun i => xs.length - (intOf i).toNat)
    case atStart => exact ⟨0, Nat.zero_le _, rfl, fun j _ h0 => by omega⟩
    case round =>
      obtain ⟨k, hk, rfl, HA⟩ := hrel
      by_cases hlt : k < xs.length
      · obtain ⟨ad, rfl, hx⟩ := strs_at H.out hlt
        by_cases hs : 100 < xs[k].size
        · have HF := Lib.hid (show shortB xs = false by unfold shortB; rw [all_no hlt (shortS_big hs), Bool.and_false])
          clear H HA
          go_wp2
          go_ret
          exact ⟨ret_bool HF.out.symm, rfl⟩
        · have hs' : xs[k].size ≤ 100 := by omega
          clear hs
          go_wp2
          go_loop [20] (fun i => ∃ j : Nat, j ≤ xs[k].size ∧ i = .int .i64 j ∧ Hid (∀ q, ∀ h : q < xs[k].size, q < j → xs[k][q].toNat ≤ 127)) (fun i => xs[k].size - (intOf i).toNat)
          case atStart => exact ⟨0, Nat.zero_le _, rfl, fun q h hq => by omega⟩
          case round =>
            obtain ⟨j, hj, rfl, HQ⟩ := hrel
            by_cases hjl : j < xs[k].size
            · by_cases h127 : 127 < xs[k][j].toNat
              · have d1 : decide ((127 : Int) < (xs[k][j].toNat : Int)) = true := by simp; omega
                have HF := Lib.hid (show shortB xs = false by unfold shortB; rw [all_no hlt (shortS_no hjl h127), Bool.and_false])
                clear H HA HQ
                go_wp2
                go_ret
                exact ⟨ret_bool HF.out.symm, rfl⟩
              · have d1 : decide ((127 : Int) < (xs[k][j].toNat : Int)) = false := by simp; omega
                have HQ2 : Hid (∀ q, ∀ h : q < xs[k].size, q < j + 1 → xs[k][q].toNat ≤ 127) := fun q h hq => by
                  by_cases e : q = j
                  · subst e; omega
                  · exact HQ.out q h (by omega)
                clear HQ
                go_wp2
                refine ⟨⟨j + 1, by omega, by go_num, HQ2⟩, ?_⟩
                simp [intOf]; omega
            · have hy := shortS_yes hs' (fun q hq => HQ.out q hq (by omega))
              have HA2 : Hid (∀ j, ∀ hj : j < xs.length, j < k + 1 → shortS xs[j] = true) := fun q hq hqk => by
                by_cases e : q = k
                · subst e; exact hy
                · exact HA.out q hq (by omega)
              clear HQ HA hy
              go_wp2
              refine ⟨⟨k + 1, by omega, by go_num, HA2⟩, ?_⟩
              simp [intOf]; omega
      · have hf : shortB xs = true := by
          unfold shortB
          rw [all_yes (p := shortS) (fun j hj => HA.out j hj (by omega)), Bool.and_true]
          simpa using hle
        have HF := Lib.hid hf
        clear hf H HA
        go_wp2
        go_ret
        exact ⟨ret_bool HF.out.symm, rfl⟩

theorem ne_of_at {xs ys : List ByteArray} {k : Nat} (h1 : k < xs.length) (h2 : k < ys.length) (h : (xs[k].toList == ys[k].toList) = false) : decide (xs = ys) = false := by
  simp only [decide_eq_false_iff_not]
  rintro rfl
  simp at h
theorem eq_of_all {xs ys : List ByteArray} (hl : xs.length = ys.length) (h : ∀ k, ∀ h1 : k < xs.length, ∀ h2 : k < ys.length, (xs[k].toList == ys[k].toList) = true) : decide (xs = ys) = true := by
  simp only [decide_eq_true_eq]
  refine List.ext_getElem hl fun k h1 h2 => ?_
  have := h k h1 h2
  rw [ByteArray.toList_eq, ByteArray.toList_eq] at this
  apply ByteArray.ext
  apply Array.ext'
  simpa using this
set_option maxRecDepth 100000 in
theorem hlSame_any (A : Option Addr) (c : Nat) (xs : List ByteArray) (B : Option Addr) (d : Nat) (ys : List ByteArray) (w : World) (h : Sl w A (strs xs)) (h2 : Sl w B (strs ys)) :
    Calls Try.prog 44 #[.slice A xs.length c, .slice B ys.length d] w fun e w' => e = .returned (.bool (decide (xs = ys))) ∧ Below w.heap.size w w' := by
  have hl : xs.length ≤ 9223372036854775807 := by simpa [strs_len] using h.1
  have hl2 : ys.length ≤ 9223372036854775807 := by simpa [strs_len] using h2.1
  have H := Lib.hid h
  have H2 := Lib.hid h2
  clear h h2
  by_cases hne : xs.length = ys.length
  · have d0 : ((xs.length : Int) == (ys.length : Int)) = true := by simp; omega
    have HE := Lib.hid hne
    clear hne
    go_enter Try.func44, Try.ntmps44
    go_wp2
    go_loopw [13] (fun i wr => ∃ k : Nat, k ≤ xs.length ∧ i = .int .i64 k ∧ Hid (∀ j, ∀ h1 : j < xs.length, ∀ h2 : j < ys.length, j < k → (xs[j].toList == ys[j].toList) = true) ∧ Hid (Below w.heap.size w wr)) (fun i _ => xs.length - (intOf i).toNat)
    case atStart => exact ⟨0, Nat.zero_le _, rfl, fun j _ _ h0 => by omega, Below.refl _ _⟩
    case round =>
      obtain ⟨k, hk, rfl, HA, HB⟩ := hrel
      by_cases hlt : k < xs.length
      · have hlt2 : k < ys.length := by rw [← HE.out]; exact hlt
        obtain ⟨ad, rfl, hx⟩ := strs_at (H.out.below HB.out) hlt
        obtain ⟨bd, rfl, hy⟩ := strs_at (H2.out.below HB.out) hlt2
        go_upto_region 6 with fail
        cases hb : xs[k].toList == ys[k].toList
        · have HF := Lib.hid (ne_of_at hlt hlt2 hb)
          have HBb := Lib.hid hb
          clear HA
          go_quiet (fail)
          go_wp2_with fail
          go_ret
          exact ⟨ret_bool HF.out.symm, below_drewN1 HB.out _⟩
        · have HA2 : Hid (∀ j, ∀ h1 : j < xs.length, ∀ h2 : j < ys.length, j < k + 1 → (xs[j].toList == ys[j].toList) = true) := fun j h1 h2 hj => by
            by_cases e : j = k
            · subst e; exact hb
            · exact HA.out j h1 h2 (by omega)
          clear HA
          go_quiet (fail)
          go_wp2_with fail
          refine ⟨⟨k + 1, by omega, by go_num, HA2, below_drewN1 HB.out _⟩, ?_⟩
          simp [intOf]; omega
      · have HF := Lib.hid (eq_of_all HE.out (fun j h1 h2 => HA.out j h1 h2 (by omega)))
        clear HA
        go_wp2_with fail
        go_ret
        exact ⟨ret_bool HF.out.symm, HB.out⟩
  · have HF := Lib.hid (show decide (xs = ys) = false by simp only [decide_eq_false_iff_not]; rintro rfl; exact hne rfl)
    have d0 : ((xs.length : Int) == (ys.length : Int)) = false := by simp; omega
    clear hne
    go_enter Try.func44, Try.ntmps44
    go_wp2
    go_ret
    exact ⟨ret_bool HF.out.symm, Below.refl _ _⟩
end Go.Proofs.Ytkjcedlgljeoiaa
