/- Contract: HlAll. -/
import Derived.Test.YtkjcedlgljeoiaaP6
namespace Go.Proofs.Ytkjcedlgljeoiaa
open Go.RowKit Go.Lib

def okB (set : ByteArray) (c : UInt8) : Bool := alnumU c.toNat || set.data.toList.any fun x => x == c
def allB (s set : ByteArray) : Bool := (s.data.toList.all fun c => okB set c) && !s.data.toList.isEmpty
theorem allB_no {s set : ByteArray} {k : Nat} (hk : k < s.size) (h : okB set s[k] = false) : allB s set = false := by
  unfold allB
  rw [Bool.and_eq_false_iff]
  left
  rw [List.all_eq_false]
  exact ⟨s[k], Array.mem_toList_iff.2 (Array.getElem_mem _), by simp [h]⟩
theorem allB_yes {s set : ByteArray} (h : ∀ k, ∀ hk : k < s.size, okB set s[k] = true) : allB s set = !s.data.toList.isEmpty := by
  unfold allB
  have : (s.data.toList.all fun c => okB set c) = true := by
    rw [List.all_eq_true]
    intro c hc
    obtain ⟨k, hk, rfl⟩ := List.mem_iff_getElem.1 hc
    exact h k (by simpa using hk)
  rw [this, Bool.true_and]

def inSet (set : ByteArray) (j : Nat) (c : UInt8) : Bool := (set.data.toList.take j).any fun x => x == c
theorem inSet_succ {set : ByteArray} {j : Nat} (h : j < set.size) (c : UInt8) : inSet set (j + 1) c = (inSet set j c || ((set[j].toNat : Int) == (c.toNat : Int))) := by
  have hl : j < set.data.toList.length := by simpa using h
  unfold inSet
  rw [List.take_succ_eq_append_getElem hl, List.any_append]
  have : (set.data.toList[j] == c) = ((set[j].toNat : Int) == (c.toNat : Int)) := by
    have e : set.data.toList[j] = set[j] := rfl
    rw [e]
    by_cases h : set[j] = c
    · subst h; simp
    · have h2 : ¬ (set[j].toNat : Int) = (c.toNat : Int) := fun e => h (UInt8.toNat_inj.1 (by omega))
      have e1 : (set[j] == c) = false := by simpa using h
      have e2 : ((set[j].toNat : Int) == (c.toNat : Int)) = false := by simpa using h2
      rw [e1, e2]
  simp only [List.any_cons, List.any_nil, Bool.or_false, this]
theorem inSet_all (set : ByteArray) (c : UInt8) (j : Nat) (h : set.size ≤ j) : inSet set j c = set.data.toList.any fun x => x == c := by
  unfold inSet
  rw [List.take_of_length_le (by simpa using h)]

set_option maxRecDepth 100000 in
set_option maxHeartbeats 2000000 in
theorem hlAll_any (s set : ByteArray) (w : World) (h : s.size ≤ 1099511627776) (h2 : set.size ≤ 1099511627776) :
    Calls Try.prog 28 #[.string s, .string set] w fun e w' => e = .returned (.bool (allB s set)) ∧ w = w' := by
  go_enter Try.func28, Try.ntmps28
  go_wp2
  go_loop [11] (fun i => ∃ k : Nat, k ≤ s.size ∧ i = .int .i64 k ∧ Hid (∀ j, ∀ hj : j < s.size, j < k → okB set s[j] = true)) (fun i => s.size - (intOf i).toNat)
  case atStart => exact ⟨0, by omega, rfl, fun j hj h0 => by omega⟩
  case round =>
    obtain ⟨k, hk, rfl, H⟩ := hrel
    by_cases hlt : k < s.size
    · have h255 : (s[k].toNat : Int) ≤ 255 := by have := s[k].toNat_lt; omega
      go_upto_region 5 with fail
      go_cut [7, 11] (fun v7 v11 wx => v7 = .bool (alnumU s[k].toNat) ∧ v11 = .int .i64 k ∧ wx = w)
      case first =>
        clear H
        cases ha : alnumU s[k].toNat
        · have hr : (s[k].toNat : Int) < 48 ∨ (58 ≤ (s[k].toNat : Int) ∧ (s[k].toNat : Int) ≤ 64) ∨ (91 ≤ (s[k].toNat : Int) ∧ (s[k].toNat : Int) ≤ 96) ∨ (123 ≤ (s[k].toNat : Int) ∧ (s[k].toNat : Int) ≤ 255) := by
            simp [alnumU] at ha; omega
          have HV := Lib.hid ha
          clear ha
          rcases hr with hr | ⟨hr, hr2⟩ | ⟨hr, hr2⟩ | ⟨hr, hr2⟩
          · have d1 : decide (97 ≤ (s[k].toNat : Int)) = false := by simp; omega
            have d2 : decide (65 ≤ (s[k].toNat : Int)) = false := by simp; omega
            have d3 : decide (48 ≤ (s[k].toNat : Int)) = false := by simp; omega
            go_wp2_with fail
            go_meet
            exact ⟨by rw [HV.out], rfl, rfl⟩
          · have d1 : decide (97 ≤ (s[k].toNat : Int)) = false := by simp; omega
            have d2 : decide (65 ≤ (s[k].toNat : Int)) = false := by simp; omega
            have d3 : decide (48 ≤ (s[k].toNat : Int)) = true := by simp; omega
            have d4 : decide ((s[k].toNat : Int) ≤ 57) = false := by simp; omega
            go_wp2_with fail
            go_meet
            exact ⟨by rw [HV.out], rfl, rfl⟩
          · have d1 : decide (97 ≤ (s[k].toNat : Int)) = false := by simp; omega
            have d2 : decide (65 ≤ (s[k].toNat : Int)) = true := by simp; omega
            have d5 : decide ((s[k].toNat : Int) ≤ 90) = false := by simp; omega
            have d3 : decide (48 ≤ (s[k].toNat : Int)) = true := by simp; omega
            have d4 : decide ((s[k].toNat : Int) ≤ 57) = false := by simp; omega
            go_wp2_with fail
            go_meet
            exact ⟨by rw [HV.out], rfl, rfl⟩
          · have d1 : decide (97 ≤ (s[k].toNat : Int)) = true := by simp; omega
            have d6 : decide ((s[k].toNat : Int) ≤ 122) = false := by simp; omega
            have d2 : decide (65 ≤ (s[k].toNat : Int)) = true := by simp; omega
            have d5 : decide ((s[k].toNat : Int) ≤ 90) = false := by simp; omega
            have d3 : decide (48 ≤ (s[k].toNat : Int)) = true := by simp; omega
            have d4 : decide ((s[k].toNat : Int) ≤ 57) = false := by simp; omega
            go_wp2_with fail
            go_meet
            exact ⟨by rw [HV.out], rfl, rfl⟩
        · have hr : (97 ≤ (s[k].toNat : Int) ∧ (s[k].toNat : Int) ≤ 122) ∨ (65 ≤ (s[k].toNat : Int) ∧ (s[k].toNat : Int) ≤ 90) ∨ (48 ≤ (s[k].toNat : Int) ∧ (s[k].toNat : Int) ≤ 57) := by
            simp [alnumU] at ha; omega
          have HV := Lib.hid ha
          clear ha
          rcases hr with ⟨hr, hr2⟩ | ⟨hr, hr2⟩ | ⟨hr, hr2⟩
          · have d1 : decide (97 ≤ (s[k].toNat : Int)) = true := by simp; omega
            have d6 : decide ((s[k].toNat : Int) ≤ 122) = true := by simp; omega
            go_wp2_with fail
            go_meet
            exact ⟨by rw [HV.out], rfl, rfl⟩
          · have d1 : decide (97 ≤ (s[k].toNat : Int)) = false := by simp; omega
            have d2 : decide (65 ≤ (s[k].toNat : Int)) = true := by simp; omega
            have d5 : decide ((s[k].toNat : Int) ≤ 90) = true := by simp; omega
            go_wp2_with fail
            go_meet
            exact ⟨by rw [HV.out], rfl, rfl⟩
          · have d1 : decide (97 ≤ (s[k].toNat : Int)) = false := by simp; omega
            have d2 : decide (65 ≤ (s[k].toNat : Int)) = false := by simp; omega
            have d3 : decide (48 ≤ (s[k].toNat : Int)) = true := by simp; omega
            have d4 : decide ((s[k].toNat : Int) ≤ 57) = true := by simp; omega
            go_wp2_with fail
            go_meet
            exact ⟨by rw [HV.out], rfl, rfl⟩
      case rest =>
        obtain ⟨rfl, rfl, rfl⟩ := hcut
        go_wp2_with fail
        go_loop [7, 41] (fun b i => ∃ (j : Nat) (a : Bool), j ≤ set.size ∧ i = .int .i64 j ∧ b = .bool a ∧ Hid (a = (alnumU s[k].toNat || inSet set j s[k]))) (fun _ i => set.size - (intOf i).toNat)
        case atStart => exact ⟨0, _, by omega, rfl, rfl, by show _ = _; simp [inSet]⟩
        case round =>
          obtain ⟨j, a, hj, rfl, rfl, HA⟩ := hrel
          by_cases hjl : j < set.size
          · have HI := Lib.hid (inSet_succ hjl s[k])
            cases a
            · cases hb : ((set[j].toNat : Int) == (s[k].toNat : Int))
              · have HBb := Lib.hid hb
                go_wp2_with fail
                refine ⟨⟨j + 1, false, by omega, by go_num, rfl, by show _ = _; rw [HI.out, ← Bool.or_assoc, ← HA.out, HBb.out]; rfl⟩, ?_⟩
                simp [intOf]; omega
              · have HBb := Lib.hid hb
                go_wp2_with fail
                refine ⟨⟨j + 1, true, by omega, by go_num, rfl, by show _ = _; rw [HI.out, ← Bool.or_assoc, ← HA.out, HBb.out]; rfl⟩, ?_⟩
                simp [intOf]; omega
            · go_wp2_with fail
              refine ⟨⟨j + 1, true, by omega, by go_num, rfl, by show _ = _; rw [HI.out, ← Bool.or_assoc, ← HA.out]; rfl⟩, ?_⟩
              simp [intOf]; omega
          · have ha : a = okB set s[k] := by
              rw [HA.out, inSet_all _ _ _ (by omega)]
              rfl
            cases a
            · have HE := Lib.hid (allB_no hlt ha.symm)
              clear H HA ha
              go_wp2_with fail
              go_ret
              exact ⟨ret_bool HE.out.symm, rfl⟩
            · have HE : Hid (∀ j, ∀ hj : j < s.size, j < k + 1 → okB set s[j] = true) := fun q hq hqk => by
                by_cases e : q = k
                · subst e; exact ha.symm
                · exact H.out q hq (by omega)
              clear H HA ha
              go_wp2_with fail
              refine ⟨⟨k + 1, by omega, by go_num, HE⟩, ?_⟩
              simp [intOf]; omega
    · have HE := Lib.hid (allB_yes (s := s) (set := set) (fun j hj => H.out j hj (by omega)))
      clear H
      go_wp2_with fail
      go_ret
      exact ⟨ret_bool (by rw [HE.out, ByteArray.toList_eq]), rfl⟩
end Go.Proofs.Ytkjcedlgljeoiaa
