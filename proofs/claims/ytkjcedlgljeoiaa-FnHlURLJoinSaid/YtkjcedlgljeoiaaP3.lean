/- Contracts: zzFits3, HlOneOf, VersionSet.Has, HasVersion. -/
import Derived.Test.YtkjcedlgljeoiaaP2
namespace Go.Proofs.Ytkjcedlgljeoiaa
open Go.RowKit Go.Lib

def fits3 (xs : List ByteArray) : Bool := decide (xs.length ≤ 2147483647) && xs.all fun s => decide (s.size ≤ 2147483647)
theorem all_no {α : Type} {p : α → Bool} {xs : List α} {k : Nat} (hk : k < xs.length) (h : p xs[k] = false) : xs.all p = false := by
  rw [List.all_eq_false]
  exact ⟨xs[k], List.getElem_mem hk, by simp [h]⟩
theorem all_yes {α : Type} {p : α → Bool} {xs : List α} (h : ∀ k, ∀ hk : k < xs.length, p xs[k] = true) : xs.all p = true := by
  rw [List.all_eq_true]
  intro c hc
  obtain ⟨k, hk, rfl⟩ := List.mem_iff_getElem.1 hc
  exact h k hk
theorem any_no {α : Type} {p : α → Bool} {xs : List α} (h : ∀ k, ∀ hk : k < xs.length, p xs[k] = false) : xs.any p = false := by
  rw [List.any_eq_false]
  intro c hc
  obtain ⟨k, hk, rfl⟩ := List.mem_iff_getElem.1 hc
  simp [h k hk]
theorem any_yes {α : Type} {p : α → Bool} {xs : List α} {k : Nat} (hk : k < xs.length) (h : p xs[k] = true) : xs.any p = true := by
  rw [List.any_eq_true]
  exact ⟨xs[k], List.getElem_mem hk, h⟩

theorem zzFits3_any (A : Option Addr) (c : Nat) (xs : List ByteArray) (w : World) (h : Sl w A (strs xs)) :
    Calls Try.prog 27 #[.slice A xs.length c] w fun e w' => e = .returned (.bool (fits3 xs)) ∧ w = w' := by
  have hl : xs.length ≤ 9223372036854775807 := by simpa [strs_len] using h.1
  have H := Lib.hid h
  clear h
  by_cases hbig : 2147483647 < xs.length
  · have hf : fits3 xs = false := by simp [fits3]; omega
    have HF := Lib.hid hf
    clear hf H
    go_enter Try.func27, Try.ntmps27
    go_wp2
    go_ret
    exact ⟨ret_bool HF.out.symm, rfl⟩
  · have hle : xs.length ≤ 2147483647 := by omega
    clear hbig
    go_enter Try.func27, Try.ntmps27
    go_wp2
    go_loop [10] (fun i => ∃ k : Nat, k ≤ xs.length ∧ i = .int .i64 k ∧ Hid (∀ j, ∀ hj : j < xs.length, j < k → decide (xs[j].size ≤ 2147483647) = true)) (fun i => xs.length - (intOf i).toNat)
    case atStart => exact ⟨0, Nat.zero_le _, rfl, fun j _ h0 => by omega⟩
    case round =>
      obtain ⟨k, hk, rfl, HA⟩ := hrel
      by_cases hlt : k < xs.length
      · obtain ⟨ad, rfl, hx⟩ := strs_at H.out hlt
        by_cases hs : 2147483647 < xs[k].size
        · have hf : fits3 xs = false := by
            unfold fits3
            rw [all_no (p := fun s : ByteArray => decide (s.size ≤ 2147483647)) hlt (by simp; omega), Bool.and_false]
          have HF := Lib.hid hf
          clear hf H HA
          go_wp2
          go_ret
          exact ⟨ret_bool HF.out.symm, rfl⟩
        · have hs' : xs[k].size ≤ 2147483647 := by omega
          clear hs
          go_wp2
          go_round
          case rel =>
            refine ⟨k + 1, by omega, by go_num, fun j hj hjk => ?_⟩
            by_cases e : j = k
            · subst e; simpa using hs'
            · exact HA.out j hj (by omega)
          case measure => simp [intOf]; omega
      · have hf : fits3 xs = true := by
          unfold fits3
          rw [all_yes (p := fun s : ByteArray => decide (s.size ≤ 2147483647)) (fun j hj => HA.out j hj (by omega)), Bool.and_true]
          simpa using hle
        have HF := Lib.hid hf
        clear hf H HA
        go_wp2
        go_ret
        exact ⟨ret_bool HF.out.symm, rfl⟩

def oneOf (s : ByteArray) (xs : List ByteArray) : Bool := xs.any fun x => x.toList == s.toList
theorem oneOf_any (s : ByteArray) (A : Option Addr) (c : Nat) (xs : List ByteArray) (w : World) (h : Sl w A (strs xs)) :
    Calls Try.prog 41 #[.string s, .slice A xs.length c] w fun e w' => e = .returned (.bool (oneOf s xs)) ∧ w = w' := by
  have hl : xs.length ≤ 9223372036854775807 := by simpa [strs_len] using h.1
  have H := Lib.hid h
  clear h
  go_enter Try.func41, Try.ntmps41
  go_wp2
  go_loop [9] (fun i => ∃ k : Nat, k ≤ xs.length ∧ i = .int .i64 k ∧ Hid (∀ j, ∀ hj : j < xs.length, j < k → (xs[j].toList == s.toList) = false)) (fun i => xs.length - (intOf i).toNat)
  case atStart => exact ⟨0, Nat.zero_le _, rfl, fun j _ h0 => by omega⟩
  case round =>
    obtain ⟨k, hk, rfl, HA⟩ := hrel
    by_cases hlt : k < xs.length
    · obtain ⟨ad, rfl, hx⟩ := strs_at H.out hlt
      cases hb : xs[k].toList == s.toList
      · clear H
        have HB := Lib.hid hb
        go_wp2
        go_round
        case rel =>
          refine ⟨k + 1, by omega, by go_num, fun j hj hjk => ?_⟩
          by_cases e : j = k
          · subst e; exact HB.out
          · exact HA.out j hj (by omega)
        case measure => simp [intOf]; omega
      · have HF := Lib.hid (any_yes (p := fun x : ByteArray => x.toList == s.toList) hlt hb)
        clear H HA
        go_wp2
        go_ret
        exact ⟨ret_bool HF.out.symm, rfl⟩
    · have HF := Lib.hid (any_no (p := fun x : ByteArray => x.toList == s.toList) (fun j hj => HA.out j hj (by omega)))
      clear H HA
      go_wp2
      go_ret
      exact ⟨ret_bool HF.out.symm, rfl⟩
end Go.Proofs.Ytkjcedlgljeoiaa
