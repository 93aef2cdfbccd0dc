/- Contracts of plain.Contains, plain.Word. -/
import Derived.Test.YtkjcedlgljeoiaaP0
import Derived.Test.YtkjcedlgljeoiaaRw
namespace Go.Proofs.Ytkjcedlgljeoiaa
open Go.RowKit Go.Lib

theorem contains_any (s sub : ByteArray) (w : World) (h : s.size + sub.size ≤ 4611686018427387904) :
    Calls Try.prog 192 #[.string s, .string sub] w fun e w' => e = .returned (.bool (idxO s sub).isSome) ∧ w = w' := by
  have hd0 : decide (0 ≤ idxI s sub) = (idxO s sub).isSome := by
    unfold idxI
    cases idxO s sub <;> simp
  have hd := Lib.hid hd0
  clear hd0
  go_enter Try.func192, Try.ntmps192
  go_wp2_with (go_at_call 145; refine (index_any _ _ _ h).mono ?_; rintro e w' ⟨rfl, rfl⟩)
  go_ret
  exact ⟨ret_bool hd.out, rfl⟩

theorem contains_is (s sub : ByteArray) (b : Bool) (h : s.size + sub.size ≤ 4611686018427387904) (hb : (idxO s sub).isSome = b) (w : World) :
    Calls Try.prog 192 #[.string s, .string sub] w fun e w' => e = .returned (.bool b) ∧ w = w' := by
  rw [← hb]
  exact contains_any s sub w h
theorem enc_size (r : Int) : (Utf8.encode r).size ≤ 4 := by
  unfold Utf8.encode
  simp only []
  repeat' split
  all_goals exact Nat.le_of_ble_eq_true rfl
def alnumU (n : Nat) : Bool := (97 ≤ n && n ≤ 122) || (65 ≤ n && n ≤ 90) || (48 ≤ n && n ≤ 57)
def okU (set : ByteArray) (n : Nat) : Bool := alnumU n || (idxO set (Utf8.encode (n : Int))).isSome
def wordB (s set : ByteArray) : Bool := (s.data.toList.all fun c => okU set c.toNat) && !s.data.toList.isEmpty
theorem wordB_no {s set : ByteArray} {k : Nat} (hk : k < s.size) (h : okU set s[k].toNat = false) : wordB s set = false := by
  unfold wordB
  rw [Bool.and_eq_false_iff]
  left
  rw [List.all_eq_false]
  exact ⟨s[k], Array.mem_toList_iff.2 (Array.getElem_mem _), by simp [h]⟩
theorem wordB_yes {s set : ByteArray} (h : ∀ k, ∀ hk : k < s.size, okU set s[k].toNat = true) : wordB s set = !s.data.toList.isEmpty := by
  unfold wordB
  have : (s.data.toList.all fun c => okU set c.toNat) = true := by
    rw [List.all_eq_true]
    intro c hc
    obtain ⟨k, hk, rfl⟩ := List.mem_iff_getElem.1 hc
    exact h k (by simpa using hk)
  rw [this, Bool.true_and]

set_option maxRecDepth 100000 in
set_option maxHeartbeats 1000000 in
theorem word_any (s set : ByteArray) (w : World) (h : s.size + set.size ≤ 4611686018427387000) :
    Calls Try.prog 146 #[.string s, .string set] w fun e w' => e = .returned (.bool (wordB s set)) ∧ w = w' := by
  go_enter Try.func146, Try.ntmps146
  go_wp2
  go_loop [5] (fun i => ∃ k : Nat, k ≤ s.size ∧ i = .int .i64 k ∧ Hid (∀ j, ∀ hj : j < s.size, j < k → okU set s[j].toNat = true)) (fun i => s.size + 1 - (intOf i).toNat)
  case atStart => exact ⟨0, by omega, rfl, fun j hj h0 => by omega⟩
  case round =>
    obtain ⟨k, hk, rfl, H⟩ := hrel
    by_cases hlt : k < s.size
    · have hstep : okU set s[k].toNat = true → Hid (∀ j, ∀ hj : j < s.size, j < k + 1 → okU set s[j].toNat = true) := fun hy j hj hjk => by
        by_cases e : j = k
        · subst e; exact hy
        · exact H.out j hj (by omega)
      have hno := fun hy => wordB_no (s := s) (set := set) hlt hy
      have HS := Lib.hid hstep
      have HN := Lib.hid hno
      clear hstep hno
      cases ha : alnumU s[k].toNat
      · have hr : (s[k].toNat : Int) < 48 ∨ (58 ≤ (s[k].toNat : Int) ∧ (s[k].toNat : Int) ≤ 64) ∨ (91 ≤ (s[k].toNat : Int) ∧ (s[k].toNat : Int) ≤ 96) ∨ (123 ≤ (s[k].toNat : Int) ∧ (s[k].toNat : Int) ≤ 255) := by
          have := s[k].toNat_lt
          simp [alnumU] at ha; omega
        cases hb : (idxO set (Utf8.encode (s[k].toNat : Int))).isSome
        · have hok : okU set s[k].toNat = false := by simp [okU, ha, hb]
          have HC := Lib.hid (contains_is set (Utf8.encode (s[k].toNat : Int)) false (by have := enc_size (s[k].toNat : Int); omega) hb)
          have HE := Lib.hid (HN.out hok)
          clear HS HN H hok ha hb
          rcases hr with hr | ⟨hr, hr2⟩ | ⟨hr, hr2⟩ | ⟨hr, hr2⟩
          · have d1 : decide ((s[k].toNat : Int) ≤ 122) = true := by simp; omega
            have d2 : decide ((s[k].toNat : Int) ≤ 90) = true := by simp; omega
            have d3 : decide ((s[k].toNat : Int) ≤ 57) = true := by simp; omega
            go_wp2_with (go_at_call 192; (with_reducible refine (HC.out _).mono ?_); rintro e w1 ⟨rfl, rfl⟩)
            go_ret
            exact ⟨ret_bool HE.out.symm, rfl⟩
          · have d1 : decide ((s[k].toNat : Int) ≤ 122) = true := by simp; omega
            have d2 : decide ((s[k].toNat : Int) ≤ 90) = true := by simp; omega
            have d3 : decide ((s[k].toNat : Int) ≤ 57) = false := by simp; omega
            go_wp2_with (go_at_call 192; (with_reducible refine (HC.out _).mono ?_); rintro e w1 ⟨rfl, rfl⟩)
            go_ret
            exact ⟨ret_bool HE.out.symm, rfl⟩
          · have d1 : decide ((s[k].toNat : Int) ≤ 122) = true := by simp; omega
            have d2 : decide ((s[k].toNat : Int) ≤ 90) = false := by simp; omega
            have d3 : decide ((s[k].toNat : Int) ≤ 57) = false := by simp; omega
            go_wp2_with (go_at_call 192; (with_reducible refine (HC.out _).mono ?_); rintro e w1 ⟨rfl, rfl⟩)
            go_ret
            exact ⟨ret_bool HE.out.symm, rfl⟩
          · have d1 : decide ((s[k].toNat : Int) ≤ 122) = false := by simp; omega
            have d2 : decide ((s[k].toNat : Int) ≤ 90) = false := by simp; omega
            have d3 : decide ((s[k].toNat : Int) ≤ 57) = false := by simp; omega
            go_wp2_with (go_at_call 192; (with_reducible refine (HC.out _).mono ?_); rintro e w1 ⟨rfl, rfl⟩)
            go_ret
            exact ⟨ret_bool HE.out.symm, rfl⟩
        · have hok : okU set s[k].toNat = true := by simp [okU, ha, hb]
          have HC := Lib.hid (contains_is set (Utf8.encode (s[k].toNat : Int)) true (by have := enc_size (s[k].toNat : Int); omega) hb)
          have HE := Lib.hid (HS.out hok)
          clear HS HN H hok ha hb
          rcases hr with hr | ⟨hr, hr2⟩ | ⟨hr, hr2⟩ | ⟨hr, hr2⟩
          · have d1 : decide ((s[k].toNat : Int) ≤ 122) = true := by simp; omega
            have d2 : decide ((s[k].toNat : Int) ≤ 90) = true := by simp; omega
            have d3 : decide ((s[k].toNat : Int) ≤ 57) = true := by simp; omega
            go_wp2_with (go_at_call 192; (with_reducible refine (HC.out _).mono ?_); rintro e w1 ⟨rfl, rfl⟩)
            go_round
            case rel => exact ⟨k + 1, by omega, by go_num, HE.out⟩
            case measure => simp [intOf]; omega
          · have d1 : decide ((s[k].toNat : Int) ≤ 122) = true := by simp; omega
            have d2 : decide ((s[k].toNat : Int) ≤ 90) = true := by simp; omega
            have d3 : decide ((s[k].toNat : Int) ≤ 57) = false := by simp; omega
            go_wp2_with (go_at_call 192; (with_reducible refine (HC.out _).mono ?_); rintro e w1 ⟨rfl, rfl⟩)
            go_round
            case rel => exact ⟨k + 1, by omega, by go_num, HE.out⟩
            case measure => simp [intOf]; omega
          · have d1 : decide ((s[k].toNat : Int) ≤ 122) = true := by simp; omega
            have d2 : decide ((s[k].toNat : Int) ≤ 90) = false := by simp; omega
            have d3 : decide ((s[k].toNat : Int) ≤ 57) = false := by simp; omega
            go_wp2_with (go_at_call 192; (with_reducible refine (HC.out _).mono ?_); rintro e w1 ⟨rfl, rfl⟩)
            go_round
            case rel => exact ⟨k + 1, by omega, by go_num, HE.out⟩
            case measure => simp [intOf]; omega
          · have d1 : decide ((s[k].toNat : Int) ≤ 122) = false := by simp; omega
            have d2 : decide ((s[k].toNat : Int) ≤ 90) = false := by simp; omega
            have d3 : decide ((s[k].toNat : Int) ≤ 57) = false := by simp; omega
            go_wp2_with (go_at_call 192; (with_reducible refine (HC.out _).mono ?_); rintro e w1 ⟨rfl, rfl⟩)
            go_round
            case rel => exact ⟨k + 1, by omega, by go_num, HE.out⟩
            case measure => simp [intOf]; omega
      · have hr : (97 ≤ (s[k].toNat : Int) ∧ (s[k].toNat : Int) ≤ 122) ∨ (65 ≤ (s[k].toNat : Int) ∧ (s[k].toNat : Int) ≤ 90) ∨ (48 ≤ (s[k].toNat : Int) ∧ (s[k].toNat : Int) ≤ 57) := by
          simp [alnumU] at ha; omega
        have hok : okU set s[k].toNat = true := by simp [okU, ha]
        have HE := Lib.hid (HS.out hok)
        clear HS HN H hok ha
        rcases hr with ⟨hr, hr2⟩ | ⟨hr, hr2⟩ | ⟨hr, hr2⟩
        · have d1 : decide ((s[k].toNat : Int) ≤ 122) = true := by simp; omega
          have d2 : decide ((s[k].toNat : Int) ≤ 90) = false := by simp; omega
          have d3 : decide ((s[k].toNat : Int) ≤ 57) = false := by simp; omega
          go_wp2_with fail
          go_round
          case rel => exact ⟨k + 1, by omega, by go_num, HE.out⟩
          case measure => simp [intOf]; omega
        · have d1 : decide ((s[k].toNat : Int) ≤ 122) = true := by simp; omega
          have d2 : decide ((s[k].toNat : Int) ≤ 90) = true := by simp; omega
          have d3 : decide ((s[k].toNat : Int) ≤ 57) = false := by simp; omega
          go_wp2_with fail
          go_round
          case rel => exact ⟨k + 1, by omega, by go_num, HE.out⟩
          case measure => simp [intOf]; omega
        · have d1 : decide ((s[k].toNat : Int) ≤ 122) = true := by simp; omega
          have d2 : decide ((s[k].toNat : Int) ≤ 90) = true := by simp; omega
          have d3 : decide ((s[k].toNat : Int) ≤ 57) = true := by simp; omega
          go_wp2_with fail
          go_round
          case rel => exact ⟨k + 1, by omega, by go_num, HE.out⟩
          case measure => simp [intOf]; omega
    · have HE := Lib.hid (wordB_yes (s := s) (set := set) (fun j hj => H.out j hj (by omega)))
      clear H
      go_wp2_with fail
      go_ret
      exact ⟨ret_bool (by rw [HE.out, ByteArray.toList_eq]), rfl⟩
end Go.Proofs.Ytkjcedlgljeoiaa
