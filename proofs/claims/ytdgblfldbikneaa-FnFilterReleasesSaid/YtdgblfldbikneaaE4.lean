/- Contracts: spec.StName, for every text. -/
import Derived.Test.YtdgblfldbikneaaE3
import Derived.Test.YtdgblfldbikneaaS0
namespace Go.Proofs.Ytdgblfldbikneaa
open Go.RowKit Go.Lib
set_option linter.unusedVariables false
set_option linter.unusedSimpArgs false

def nameB (c : UInt8) : Bool := decide ((97 ≤ c.toNat ∧ c.toNat ≤ 122) ∨ (48 ≤ c.toNat ∧ c.toNat ≤ 57) ∨ c.toNat = 45)
def nameF (s : ByteArray) : Bool := s.data.toList.all nameB && decide (0 < s.size) && decide (s.size ≤ 20)
theorem name_all {s : ByteArray} (h : ∀ j, ∀ h : j < s.size, nameB s[j] = true) : s.data.toList.all nameB = true := by
  rw [List.all_eq_true]
  intro c hc
  obtain ⟨j, hj, rfl⟩ := List.mem_iff_getElem.1 hc
  exact h j (by simpa using hj)
theorem name_bad {s : ByteArray} {j : Nat} (h : j < s.size) (hb : nameB s[j] = false) : s.data.toList.all nameB = false := by
  cases hd : s.data.toList.all nameB with
  | false => rfl
  | true =>
    rw [List.all_eq_true] at hd
    have h2 := hd s[j] (by exact List.getElem_mem (by simpa using h))
    rw [hb] at h2
    cases h2
set_option maxRecDepth 100000 in
set_option maxHeartbeats 4000000 in
theorem stName_any (s : ByteArray) (w : World) (hs : s.size ≤ 9223372036854775807) :
    Calls Try.prog 115 #[.string s] w fun e w' => e = .returned (.bool (nameF s)) ∧ w = w' := by
  go_enter Try.func115, Try.ntmps115
  go_wp2_with fail
  go_loop [6] (fun i => ∃ k : Nat, k ≤ s.size ∧ i = .int .i64 k ∧ Hid (∀ j, ∀ h : j < s.size, j < k → nameB s[j] = true)) (fun i => s.size - (intOf i).toNat)
  case atStart => exact ⟨0, Nat.zero_le _, rfl, fun j _ h => by omega⟩
  case round =>
    obtain ⟨k, hk, rfl, HA⟩ := hrel
    by_cases hlt : k < s.size
    · cases hn : nameB s[k]
      · have HF := Lib.hid (name_bad hlt hn)
        have hr : ((s[k].toNat : Int) < 45) ∨ ((45 : Int) < s[k].toNat ∧ (s[k].toNat : Int) < 48) ∨ ((57 : Int) < s[k].toNat ∧ (s[k].toNat : Int) < 97) ∨ (122 : Int) < s[k].toNat := by
          simp only [nameB, decide_eq_false_iff_not] at hn; omega
        clear hn
        rcases hr with hr | ⟨hr, hr2⟩ | ⟨hr, hr2⟩ | hr
        all_goals
          have hne : ((s[k].toNat : Int) == 45) = false := by simp only [beq_eq_false_iff_ne, ne_eq]; omega
          go_wp2_with fail
          all_goals (try (exfalso; simp only [Bool.not_eq_eq_eq_not, Bool.not_true, Bool.not_false, decide_eq_true_eq, decide_eq_false_iff_not, beq_iff_eq, beq_eq_false_iff_ne, ne_eq] at *; omega))
          go_ret
          exact ⟨ret_bool (by unfold nameF; rw [HF.out]; rfl), rfl⟩
      · have HN := Lib.hid hn
        have hr : ((s[k].toNat : Int) = 45) ∨ ((48 : Int) ≤ s[k].toNat ∧ (s[k].toNat : Int) ≤ 57) ∨ ((97 : Int) ≤ s[k].toNat ∧ (s[k].toNat : Int) ≤ 122) := by
          simp only [nameB, decide_eq_true_eq] at hn; omega
        clear hn
        rcases hr with hr | ⟨hr, hr2⟩ | ⟨hr, hr2⟩
        all_goals
          go_wp2_with fail
          all_goals (try (exfalso; simp only [Bool.not_eq_eq_eq_not, Bool.not_true, Bool.not_false, decide_eq_true_eq, decide_eq_false_iff_not, beq_iff_eq, beq_eq_false_iff_ne, ne_eq] at *; omega))
          go_round
          case rel =>
            refine ⟨k + 1, by omega, by go_num, fun j hj h2 => ?_⟩
            by_cases e : j = k
            · subst e; exact HN.out
            · exact HA.out j hj (by omega)
          case measure => simp [intOf]; omega
    · obtain rfl : k = s.size := by omega
      have HT := Lib.hid (name_all fun j hj => HA.out j hj hj)
      clear hlt
      by_cases he : s.size = 0
      · have e1 : s = ⟨#[]⟩ := by apply ByteArray.ext; exact Array.size_eq_zero_iff.1 he
        subst e1
        go_wp2_with fail
        go_ret
        exact ⟨rfl, rfl⟩
      · have e2 : ¬ s.toList = [] := by
          rw [ByteArray.toList_eq]
          intro e
          have h3 : s.data.toList.length = 0 := by rw [e]; rfl
          rw [Array.length_toList] at h3
          exact he h3
        have e1 : s.toList.isEmpty = false := by simp [e2]
        have e0 : (s.toList == []) = false := by simp [e2]
        have e3 : (s.toList != []) = true := by simp [e2]
        by_cases h20 : s.size ≤ 20
        · have d : ((s.size : Int) ≤ 20) := by omega
          go_wp2_with fail
          go_ret
          exact ⟨ret_bool (by rw [nameF, HT.out, decide_eq_true (show 0 < s.size by omega), decide_eq_true h20]; rfl), rfl⟩
        · have d : ¬ ((s.size : Int) ≤ 20) := by omega
          go_wp2_with fail
          go_ret
          exact ⟨ret_bool (by rw [nameF, HT.out, decide_eq_true (show 0 < s.size by omega), decide_eq_false h20]; rfl), rfl⟩
end Go.Proofs.Ytdgblfldbikneaa
