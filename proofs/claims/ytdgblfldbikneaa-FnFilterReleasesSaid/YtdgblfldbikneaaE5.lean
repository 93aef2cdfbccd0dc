/- Contracts: stRelease, stReleases, stList. -/
import Derived.Test.YtdgblfldbikneaaE4
namespace Go.Proofs.Ytdgblfldbikneaa
open Go.RowKit Go.Lib
set_option linter.unusedVariables false
set_option linter.unusedSimpArgs false
def stL : List ByteArray := stCells.toList.map fun v => match v with
  | .string s => s
  | _ => ⟨#[]⟩
theorem stL_cells : stCells.toList = strs stL := rfl
theorem stL_len : stL.length = 9 := rfl
theorem stStat_any (w : World) : Calls Try.prog 15 #[] w fun e w' => ∃ A, e = .returned (.slice A 9 9) ∧ Sl w' A (strs stL) ∧ Below w.heap.size w w' := by
  refine (stStatuses_any w).mono ?_
  rintro e w' ⟨rfl, rfl⟩
  refine ⟨_, rfl, ?_, (Below.refl _ _).alloc (Nat.le_refl _) _⟩
  have h := Blk.sl (Blk.new w 9 stCells) (by decide)
  rwa [stL_cells] at h
theorem stName_is (s : ByteArray) (b : Bool) (w : World) (hs : s.size ≤ maxLen) (h : nameF s = b) : Calls Try.prog 115 #[.string s] w fun e w' => e = .returned (.bool b) ∧ w = w' := by
  rw [← h]
  exact stName_any s w (by simpa [maxLen] using hs)
theorem emp_eq {s : ByteArray} : (s.toList == []) = decide (s = ⟨#[]⟩) := by
  have e : (⟨#[]⟩ : ByteArray).toList = [] := by rw [ByteArray.toList_eq]
  rw [← bytes_eq, e]
def relB (x : Ty53) : Bool := nameF x.fName && (decide (x.fNamespace = ⟨#[]⟩) || nameF x.fNamespace) && decide (1 ≤ x.fVersion) && decide (x.fVersion ≤ 999) && decide (0 ≤ x.fAt) && decide (x.fAt < 8589934592)
def statB (s : ByteArray) : Bool := stL.any fun t => decide (t = s)
theorem stat_yes {k : Nat} {s : ByteArray} (h : k < stL.length) (e : stL[k] = s) : statB s = true := by
  rw [statB, List.any_eq_true]
  exact ⟨_, List.getElem_mem h, decide_eq_true e⟩
theorem stat_no {s : ByteArray} (h : ∀ j, ∀ h : j < stL.length, stL[j] ≠ s) : statB s = false := by
  rw [statB, List.any_eq_false]
  intro t ht
  obtain ⟨j, hj, rfl⟩ := List.mem_iff_getElem.1 ht
  simpa using h j hj
def relF (x : Ty53) : Bool := statB x.fStatus && relB x
set_option maxRecDepth 100000 in
set_option maxHeartbeats 8000000 in
theorem stRelease_any (x : Ty53) (w : World) (hx : x.ok w) :
    Calls Try.prog 74 #[.agg #[.string x.fName, .string x.fNamespace, .string x.fStatus, .int .i64 x.fVersion, .int .i64 x.fAt]] w fun e w' => e = .returned (.bool (relF x)) ∧ Below w.heap.size w w' := by
  obtain ⟨o1, o2, o3, o4, o5⟩ := hx
  have O1 := Lib.hid o1
  have O2 := Lib.hid o2
  clear o1 o2 o3 o4 o5
  go_enter Try.func74, Try.ntmps74
  go_wp2_with (first
    | ((with_reducible refine at_dst (N := 1) rfl ?_); refine ev_box rfl 53 _ rfl _ rfl ?_; intro g1 w1 hg hB hb
       have low_g1 := Nat.le_trans (Nat.le_refl _) hg
       have B_w1 := Lib.hid (below_trans (Below.refl _ _) hb)
       have g1_w1 : Hid (Blk w1 g1 53 #[.string x.fName, .string x.fNamespace, .string x.fStatus, .int .i64 x.fVersion, .int .i64 x.fAt]) := hB
       clear hB hb)
    | (go_at_call 15; (with_reducible refine (stStat_any _).mono ?_); rintro e w2 ⟨A, rfl, hsl, hb⟩
       have g1_w2 := Lib.hid (g1_w1.out.below hb)
       have B_w2 := Lib.hid (below_trans B_w1.out hb)
       have HSL := Lib.hid hsl
       clear hsl
       clear hb))
  go_loop [7] (fun i => ∃ k : Nat, k ≤ 9 ∧ i = .int .i64 k ∧ Hid (∀ j, ∀ h : j < stL.length, j < k → stL[j] ≠ x.fStatus)) (fun i => 9 - (intOf i).toNat)
  case atStart => exact ⟨0, Nat.zero_le _, rfl, fun j _ h => by omega⟩
  case round =>
    obtain ⟨k, hk, rfl, HA⟩ := hrel
    by_cases hlt : k < 9
    · have hkl : k < stL.length := hlt
      obtain ⟨ad, rfl, hc0⟩ := HSL.out.at_ (j := k) (u := .string stL[k]) (by simp [strs, hkl])
      have HC := Lib.hid hc0
      clear hc0
      cases he : stL[k].toList == x.fStatus.toList
      · have hne : stL[k] ≠ x.fStatus := by
          have h0 := he
          rw [bytes_eq, decide_eq_false_iff_not] at h0
          exact h0
        go_wp2_with (first
          | ((with_reducible refine at_dst (N := 10) rfl ?_); refine ev_ld rfl 9 _ rfl _ rfl (.string (stL[k])) (HC.out) _ Try.underlying9 rfl ?_)
          | ((with_reducible refine at_dst (N := 13) rfl ?_); refine ev_ld rfl 9 _ rfl ⟨g1, 2, none⟩ rfl (.string x.fStatus) (g1_w2.out.cell 2) _ Try.underlying9 rfl ?_))
        go_round
        case rel =>
          refine ⟨k + 1, by omega, by go_num, fun j hj h2 => ?_⟩
          by_cases e : j = k
          · subst e; exact hne
          · exact HA.out j hj (by omega)
        case measure => simp [intOf]; omega
      · have hmem : statB x.fStatus = true := by
          have h0 := he
          rw [bytes_eq, decide_eq_true_eq] at h0
          exact stat_yes hkl h0
        have HM := Lib.hid hmem
        clear hmem
        cases hn1 : nameF x.fName
        · go_wp2_with (first
            | ((with_reducible refine at_dst (N := 10) rfl ?_); refine ev_ld rfl 9 _ rfl _ rfl (.string (stL[k])) (HC.out) _ Try.underlying9 rfl ?_)
            | ((with_reducible refine at_dst (N := 13) rfl ?_); refine ev_ld rfl 9 _ rfl ⟨g1, 2, none⟩ rfl (.string x.fStatus) (g1_w2.out.cell 2) _ Try.underlying9 rfl ?_)
            | ((with_reducible refine at_dst (N := 16) rfl ?_); refine ev_ld rfl 9 _ rfl ⟨g1, 0, none⟩ rfl (.string x.fName) (g1_w2.out.cell 0) _ Try.underlying9 rfl ?_)
            | (go_at_call 115; (with_reducible refine (stName_is _ false _ O1.out hn1).mono ?_); rintro e wq ⟨rfl, rfl⟩))
          go_ret
          exact ⟨ret_bool (by simp only [relF, relB, HM.out, hn1, Bool.and_false, Bool.false_and, Bool.and_true, Bool.true_and, Bool.or_false, Bool.true_or, Bool.false_or, Bool.or_true]), B_w2.out⟩
        · cases hemp : x.fNamespace.toList == []
          · have hem2 : (x.fNamespace.toList != []) = true := by rw [bne, hemp]; rfl
            have hns : decide (x.fNamespace = ⟨#[]⟩) = false := by
              have h0 := hemp
              rw [emp_eq] at h0
              exact h0
            have HNS := Lib.hid hns
            clear hns
            cases hn3 : nameF x.fNamespace
            · go_wp2_with (first
                | ((with_reducible refine at_dst (N := 10) rfl ?_); refine ev_ld rfl 9 _ rfl _ rfl (.string (stL[k])) (HC.out) _ Try.underlying9 rfl ?_)
                | ((with_reducible refine at_dst (N := 13) rfl ?_); refine ev_ld rfl 9 _ rfl ⟨g1, 2, none⟩ rfl (.string x.fStatus) (g1_w2.out.cell 2) _ Try.underlying9 rfl ?_)
                | ((with_reducible refine at_dst (N := 16) rfl ?_); refine ev_ld rfl 9 _ rfl ⟨g1, 0, none⟩ rfl (.string x.fName) (g1_w2.out.cell 0) _ Try.underlying9 rfl ?_)
                | (go_at_call 115; (with_reducible refine (stName_is _ true _ O1.out hn1).mono ?_); rintro e wq ⟨rfl, rfl⟩)
                | ((with_reducible refine at_dst (N := 20) rfl ?_); refine wl_guard rfl ?_; refine ev_ld rfl 9 _ rfl ⟨g1, 1, none⟩ rfl (.string x.fNamespace) (g1_w2.out.cell 1) _ Try.underlying9 rfl ?_)
                | ((with_reducible refine at_dst (N := 24) rfl ?_); refine wl_guard rfl ?_; refine ev_ld rfl 9 _ rfl ⟨g1, 1, none⟩ rfl (.string x.fNamespace) (g1_w2.out.cell 1) _ Try.underlying9 rfl ?_)
                | (go_at_call 115; (with_reducible refine (stName_is _ false _ O2.out hn3).mono ?_); rintro e wq ⟨rfl, rfl⟩))
              go_ret
              exact ⟨ret_bool (by simp only [relF, relB, HM.out, hn1, HNS.out, hn3, Bool.and_false, Bool.false_and, Bool.and_true, Bool.true_and, Bool.or_false, Bool.true_or, Bool.false_or, Bool.or_true]), B_w2.out⟩
            · by_cases hc4 : (1 : Int) ≤ x.fVersion
              · have Ec4 := Lib.hid (decide_eq_true hc4)
                by_cases hc5 : x.fVersion ≤ (999 : Int)
                · have Ec5 := Lib.hid (decide_eq_true hc5)
                  by_cases hc6 : (0 : Int) ≤ x.fAt
                  · have Ec6 := Lib.hid (decide_eq_true hc6)
                    by_cases hc7 : x.fAt < (8589934592 : Int)
                    · have Ec7 := Lib.hid (decide_eq_true hc7)
                      go_wp2_with (first
                        | ((with_reducible refine at_dst (N := 10) rfl ?_); refine ev_ld rfl 9 _ rfl _ rfl (.string (stL[k])) (HC.out) _ Try.underlying9 rfl ?_)
                        | ((with_reducible refine at_dst (N := 13) rfl ?_); refine ev_ld rfl 9 _ rfl ⟨g1, 2, none⟩ rfl (.string x.fStatus) (g1_w2.out.cell 2) _ Try.underlying9 rfl ?_)
                        | ((with_reducible refine at_dst (N := 16) rfl ?_); refine ev_ld rfl 9 _ rfl ⟨g1, 0, none⟩ rfl (.string x.fName) (g1_w2.out.cell 0) _ Try.underlying9 rfl ?_)
                        | (go_at_call 115; (with_reducible refine (stName_is _ true _ O1.out hn1).mono ?_); rintro e wq ⟨rfl, rfl⟩)
                        | ((with_reducible refine at_dst (N := 20) rfl ?_); refine wl_guard rfl ?_; refine ev_ld rfl 9 _ rfl ⟨g1, 1, none⟩ rfl (.string x.fNamespace) (g1_w2.out.cell 1) _ Try.underlying9 rfl ?_)
                        | ((with_reducible refine at_dst (N := 24) rfl ?_); refine wl_guard rfl ?_; refine ev_ld rfl 9 _ rfl ⟨g1, 1, none⟩ rfl (.string x.fNamespace) (g1_w2.out.cell 1) _ Try.underlying9 rfl ?_)
                        | (go_at_call 115; (with_reducible refine (stName_is _ true _ O2.out hn3).mono ?_); rintro e wq ⟨rfl, rfl⟩)
                        | ((with_reducible refine at_dst (N := 30) rfl ?_); refine wl_guard rfl ?_; refine ev_ld rfl 3 _ rfl ⟨g1, 3, none⟩ rfl (.int .i64 x.fVersion) (g1_w2.out.cell 3) _ Try.underlying3 rfl ?_)
                        | ((with_reducible refine at_dst (N := 35) rfl ?_); refine wl_guard rfl ?_; refine ev_ld rfl 3 _ rfl ⟨g1, 3, none⟩ rfl (.int .i64 x.fVersion) (g1_w2.out.cell 3) _ Try.underlying3 rfl ?_)
                        | ((with_reducible refine at_dst (N := 40) rfl ?_); refine wl_guard rfl ?_; refine ev_ld rfl 2 _ rfl ⟨g1, 4, none⟩ rfl (.int .i64 x.fAt) (g1_w2.out.cell 4) _ Try.underlying2 rfl ?_)
                        | ((with_reducible refine at_dst (N := 45) rfl ?_); refine wl_guard rfl ?_; refine ev_ld rfl 2 _ rfl ⟨g1, 4, none⟩ rfl (.int .i64 x.fAt) (g1_w2.out.cell 4) _ Try.underlying2 rfl ?_))
                      go_ret
                      exact ⟨ret_bool (by simp only [relF, relB, HM.out, hn1, HNS.out, hn3, Ec4.out, Ec5.out, Ec6.out, Ec7.out, Bool.and_false, Bool.false_and, Bool.and_true, Bool.true_and, Bool.or_false, Bool.true_or, Bool.false_or, Bool.or_true]), B_w2.out⟩
                    · have Ec7 := Lib.hid (decide_eq_false hc7)
                      go_wp2_with (first
                        | ((with_reducible refine at_dst (N := 10) rfl ?_); refine ev_ld rfl 9 _ rfl _ rfl (.string (stL[k])) (HC.out) _ Try.underlying9 rfl ?_)
                        | ((with_reducible refine at_dst (N := 13) rfl ?_); refine ev_ld rfl 9 _ rfl ⟨g1, 2, none⟩ rfl (.string x.fStatus) (g1_w2.out.cell 2) _ Try.underlying9 rfl ?_)
                        | ((with_reducible refine at_dst (N := 16) rfl ?_); refine ev_ld rfl 9 _ rfl ⟨g1, 0, none⟩ rfl (.string x.fName) (g1_w2.out.cell 0) _ Try.underlying9 rfl ?_)
                        | (go_at_call 115; (with_reducible refine (stName_is _ true _ O1.out hn1).mono ?_); rintro e wq ⟨rfl, rfl⟩)
                        | ((with_reducible refine at_dst (N := 20) rfl ?_); refine wl_guard rfl ?_; refine ev_ld rfl 9 _ rfl ⟨g1, 1, none⟩ rfl (.string x.fNamespace) (g1_w2.out.cell 1) _ Try.underlying9 rfl ?_)
                        | ((with_reducible refine at_dst (N := 24) rfl ?_); refine wl_guard rfl ?_; refine ev_ld rfl 9 _ rfl ⟨g1, 1, none⟩ rfl (.string x.fNamespace) (g1_w2.out.cell 1) _ Try.underlying9 rfl ?_)
                        | (go_at_call 115; (with_reducible refine (stName_is _ true _ O2.out hn3).mono ?_); rintro e wq ⟨rfl, rfl⟩)
                        | ((with_reducible refine at_dst (N := 30) rfl ?_); refine wl_guard rfl ?_; refine ev_ld rfl 3 _ rfl ⟨g1, 3, none⟩ rfl (.int .i64 x.fVersion) (g1_w2.out.cell 3) _ Try.underlying3 rfl ?_)
                        | ((with_reducible refine at_dst (N := 35) rfl ?_); refine wl_guard rfl ?_; refine ev_ld rfl 3 _ rfl ⟨g1, 3, none⟩ rfl (.int .i64 x.fVersion) (g1_w2.out.cell 3) _ Try.underlying3 rfl ?_)
                        | ((with_reducible refine at_dst (N := 40) rfl ?_); refine wl_guard rfl ?_; refine ev_ld rfl 2 _ rfl ⟨g1, 4, none⟩ rfl (.int .i64 x.fAt) (g1_w2.out.cell 4) _ Try.underlying2 rfl ?_)
                        | ((with_reducible refine at_dst (N := 45) rfl ?_); refine wl_guard rfl ?_; refine ev_ld rfl 2 _ rfl ⟨g1, 4, none⟩ rfl (.int .i64 x.fAt) (g1_w2.out.cell 4) _ Try.underlying2 rfl ?_))
                      go_ret
                      exact ⟨ret_bool (by simp only [relF, relB, HM.out, hn1, HNS.out, hn3, Ec4.out, Ec5.out, Ec6.out, Ec7.out, Bool.and_false, Bool.false_and, Bool.and_true, Bool.true_and, Bool.or_false, Bool.true_or, Bool.false_or, Bool.or_true]), B_w2.out⟩
                  · have Ec6 := Lib.hid (decide_eq_false hc6)
                    go_wp2_with (first
                      | ((with_reducible refine at_dst (N := 10) rfl ?_); refine ev_ld rfl 9 _ rfl _ rfl (.string (stL[k])) (HC.out) _ Try.underlying9 rfl ?_)
                      | ((with_reducible refine at_dst (N := 13) rfl ?_); refine ev_ld rfl 9 _ rfl ⟨g1, 2, none⟩ rfl (.string x.fStatus) (g1_w2.out.cell 2) _ Try.underlying9 rfl ?_)
                      | ((with_reducible refine at_dst (N := 16) rfl ?_); refine ev_ld rfl 9 _ rfl ⟨g1, 0, none⟩ rfl (.string x.fName) (g1_w2.out.cell 0) _ Try.underlying9 rfl ?_)
                      | (go_at_call 115; (with_reducible refine (stName_is _ true _ O1.out hn1).mono ?_); rintro e wq ⟨rfl, rfl⟩)
                      | ((with_reducible refine at_dst (N := 20) rfl ?_); refine wl_guard rfl ?_; refine ev_ld rfl 9 _ rfl ⟨g1, 1, none⟩ rfl (.string x.fNamespace) (g1_w2.out.cell 1) _ Try.underlying9 rfl ?_)
                      | ((with_reducible refine at_dst (N := 24) rfl ?_); refine wl_guard rfl ?_; refine ev_ld rfl 9 _ rfl ⟨g1, 1, none⟩ rfl (.string x.fNamespace) (g1_w2.out.cell 1) _ Try.underlying9 rfl ?_)
                      | (go_at_call 115; (with_reducible refine (stName_is _ true _ O2.out hn3).mono ?_); rintro e wq ⟨rfl, rfl⟩)
                      | ((with_reducible refine at_dst (N := 30) rfl ?_); refine wl_guard rfl ?_; refine ev_ld rfl 3 _ rfl ⟨g1, 3, none⟩ rfl (.int .i64 x.fVersion) (g1_w2.out.cell 3) _ Try.underlying3 rfl ?_)
                      | ((with_reducible refine at_dst (N := 35) rfl ?_); refine wl_guard rfl ?_; refine ev_ld rfl 3 _ rfl ⟨g1, 3, none⟩ rfl (.int .i64 x.fVersion) (g1_w2.out.cell 3) _ Try.underlying3 rfl ?_)
                      | ((with_reducible refine at_dst (N := 40) rfl ?_); refine wl_guard rfl ?_; refine ev_ld rfl 2 _ rfl ⟨g1, 4, none⟩ rfl (.int .i64 x.fAt) (g1_w2.out.cell 4) _ Try.underlying2 rfl ?_))
                    go_ret
                    exact ⟨ret_bool (by simp only [relF, relB, HM.out, hn1, HNS.out, hn3, Ec4.out, Ec5.out, Ec6.out, Bool.and_false, Bool.false_and, Bool.and_true, Bool.true_and, Bool.or_false, Bool.true_or, Bool.false_or, Bool.or_true]), B_w2.out⟩
                · have Ec5 := Lib.hid (decide_eq_false hc5)
                  go_wp2_with (first
                    | ((with_reducible refine at_dst (N := 10) rfl ?_); refine ev_ld rfl 9 _ rfl _ rfl (.string (stL[k])) (HC.out) _ Try.underlying9 rfl ?_)
                    | ((with_reducible refine at_dst (N := 13) rfl ?_); refine ev_ld rfl 9 _ rfl ⟨g1, 2, none⟩ rfl (.string x.fStatus) (g1_w2.out.cell 2) _ Try.underlying9 rfl ?_)
                    | ((with_reducible refine at_dst (N := 16) rfl ?_); refine ev_ld rfl 9 _ rfl ⟨g1, 0, none⟩ rfl (.string x.fName) (g1_w2.out.cell 0) _ Try.underlying9 rfl ?_)
                    | (go_at_call 115; (with_reducible refine (stName_is _ true _ O1.out hn1).mono ?_); rintro e wq ⟨rfl, rfl⟩)
                    | ((with_reducible refine at_dst (N := 20) rfl ?_); refine wl_guard rfl ?_; refine ev_ld rfl 9 _ rfl ⟨g1, 1, none⟩ rfl (.string x.fNamespace) (g1_w2.out.cell 1) _ Try.underlying9 rfl ?_)
                    | ((with_reducible refine at_dst (N := 24) rfl ?_); refine wl_guard rfl ?_; refine ev_ld rfl 9 _ rfl ⟨g1, 1, none⟩ rfl (.string x.fNamespace) (g1_w2.out.cell 1) _ Try.underlying9 rfl ?_)
                    | (go_at_call 115; (with_reducible refine (stName_is _ true _ O2.out hn3).mono ?_); rintro e wq ⟨rfl, rfl⟩)
                    | ((with_reducible refine at_dst (N := 30) rfl ?_); refine wl_guard rfl ?_; refine ev_ld rfl 3 _ rfl ⟨g1, 3, none⟩ rfl (.int .i64 x.fVersion) (g1_w2.out.cell 3) _ Try.underlying3 rfl ?_)
                    | ((with_reducible refine at_dst (N := 35) rfl ?_); refine wl_guard rfl ?_; refine ev_ld rfl 3 _ rfl ⟨g1, 3, none⟩ rfl (.int .i64 x.fVersion) (g1_w2.out.cell 3) _ Try.underlying3 rfl ?_))
                  go_ret
                  exact ⟨ret_bool (by simp only [relF, relB, HM.out, hn1, HNS.out, hn3, Ec4.out, Ec5.out, Bool.and_false, Bool.false_and, Bool.and_true, Bool.true_and, Bool.or_false, Bool.true_or, Bool.false_or, Bool.or_true]), B_w2.out⟩
              · have Ec4 := Lib.hid (decide_eq_false hc4)
                go_wp2_with (first
                  | ((with_reducible refine at_dst (N := 10) rfl ?_); refine ev_ld rfl 9 _ rfl _ rfl (.string (stL[k])) (HC.out) _ Try.underlying9 rfl ?_)
                  | ((with_reducible refine at_dst (N := 13) rfl ?_); refine ev_ld rfl 9 _ rfl ⟨g1, 2, none⟩ rfl (.string x.fStatus) (g1_w2.out.cell 2) _ Try.underlying9 rfl ?_)
                  | ((with_reducible refine at_dst (N := 16) rfl ?_); refine ev_ld rfl 9 _ rfl ⟨g1, 0, none⟩ rfl (.string x.fName) (g1_w2.out.cell 0) _ Try.underlying9 rfl ?_)
                  | (go_at_call 115; (with_reducible refine (stName_is _ true _ O1.out hn1).mono ?_); rintro e wq ⟨rfl, rfl⟩)
                  | ((with_reducible refine at_dst (N := 20) rfl ?_); refine wl_guard rfl ?_; refine ev_ld rfl 9 _ rfl ⟨g1, 1, none⟩ rfl (.string x.fNamespace) (g1_w2.out.cell 1) _ Try.underlying9 rfl ?_)
                  | ((with_reducible refine at_dst (N := 24) rfl ?_); refine wl_guard rfl ?_; refine ev_ld rfl 9 _ rfl ⟨g1, 1, none⟩ rfl (.string x.fNamespace) (g1_w2.out.cell 1) _ Try.underlying9 rfl ?_)
                  | (go_at_call 115; (with_reducible refine (stName_is _ true _ O2.out hn3).mono ?_); rintro e wq ⟨rfl, rfl⟩)
                  | ((with_reducible refine at_dst (N := 30) rfl ?_); refine wl_guard rfl ?_; refine ev_ld rfl 3 _ rfl ⟨g1, 3, none⟩ rfl (.int .i64 x.fVersion) (g1_w2.out.cell 3) _ Try.underlying3 rfl ?_))
                go_ret
                exact ⟨ret_bool (by simp only [relF, relB, HM.out, hn1, HNS.out, hn3, Ec4.out, Bool.and_false, Bool.false_and, Bool.and_true, Bool.true_and, Bool.or_false, Bool.true_or, Bool.false_or, Bool.or_true]), B_w2.out⟩
          · have hem2 : (x.fNamespace.toList != []) = false := by rw [bne, hemp]; rfl
            have hns : decide (x.fNamespace = ⟨#[]⟩) = true := by
              have h0 := hemp
              rw [emp_eq] at h0
              exact h0
            have HNS := Lib.hid hns
            clear hns
            by_cases hc4 : (1 : Int) ≤ x.fVersion
            · have Ec4 := Lib.hid (decide_eq_true hc4)
              by_cases hc5 : x.fVersion ≤ (999 : Int)
              · have Ec5 := Lib.hid (decide_eq_true hc5)
                by_cases hc6 : (0 : Int) ≤ x.fAt
                · have Ec6 := Lib.hid (decide_eq_true hc6)
                  by_cases hc7 : x.fAt < (8589934592 : Int)
                  · have Ec7 := Lib.hid (decide_eq_true hc7)
                    go_wp2_with (first
                      | ((with_reducible refine at_dst (N := 10) rfl ?_); refine ev_ld rfl 9 _ rfl _ rfl (.string (stL[k])) (HC.out) _ Try.underlying9 rfl ?_)
                      | ((with_reducible refine at_dst (N := 13) rfl ?_); refine ev_ld rfl 9 _ rfl ⟨g1, 2, none⟩ rfl (.string x.fStatus) (g1_w2.out.cell 2) _ Try.underlying9 rfl ?_)
                      | ((with_reducible refine at_dst (N := 16) rfl ?_); refine ev_ld rfl 9 _ rfl ⟨g1, 0, none⟩ rfl (.string x.fName) (g1_w2.out.cell 0) _ Try.underlying9 rfl ?_)
                      | (go_at_call 115; (with_reducible refine (stName_is _ true _ O1.out hn1).mono ?_); rintro e wq ⟨rfl, rfl⟩)
                      | ((with_reducible refine at_dst (N := 20) rfl ?_); refine wl_guard rfl ?_; refine ev_ld rfl 9 _ rfl ⟨g1, 1, none⟩ rfl (.string x.fNamespace) (g1_w2.out.cell 1) _ Try.underlying9 rfl ?_)
                      | ((with_reducible refine at_dst (N := 30) rfl ?_); refine wl_guard rfl ?_; refine ev_ld rfl 3 _ rfl ⟨g1, 3, none⟩ rfl (.int .i64 x.fVersion) (g1_w2.out.cell 3) _ Try.underlying3 rfl ?_)
                      | ((with_reducible refine at_dst (N := 35) rfl ?_); refine wl_guard rfl ?_; refine ev_ld rfl 3 _ rfl ⟨g1, 3, none⟩ rfl (.int .i64 x.fVersion) (g1_w2.out.cell 3) _ Try.underlying3 rfl ?_)
                      | ((with_reducible refine at_dst (N := 40) rfl ?_); refine wl_guard rfl ?_; refine ev_ld rfl 2 _ rfl ⟨g1, 4, none⟩ rfl (.int .i64 x.fAt) (g1_w2.out.cell 4) _ Try.underlying2 rfl ?_)
                      | ((with_reducible refine at_dst (N := 45) rfl ?_); refine wl_guard rfl ?_; refine ev_ld rfl 2 _ rfl ⟨g1, 4, none⟩ rfl (.int .i64 x.fAt) (g1_w2.out.cell 4) _ Try.underlying2 rfl ?_))
                    go_ret
                    exact ⟨ret_bool (by simp only [relF, relB, HM.out, hn1, HNS.out, Ec4.out, Ec5.out, Ec6.out, Ec7.out, Bool.and_false, Bool.false_and, Bool.and_true, Bool.true_and, Bool.or_false, Bool.true_or, Bool.false_or, Bool.or_true]), B_w2.out⟩
                  · have Ec7 := Lib.hid (decide_eq_false hc7)
                    go_wp2_with (first
                      | ((with_reducible refine at_dst (N := 10) rfl ?_); refine ev_ld rfl 9 _ rfl _ rfl (.string (stL[k])) (HC.out) _ Try.underlying9 rfl ?_)
                      | ((with_reducible refine at_dst (N := 13) rfl ?_); refine ev_ld rfl 9 _ rfl ⟨g1, 2, none⟩ rfl (.string x.fStatus) (g1_w2.out.cell 2) _ Try.underlying9 rfl ?_)
                      | ((with_reducible refine at_dst (N := 16) rfl ?_); refine ev_ld rfl 9 _ rfl ⟨g1, 0, none⟩ rfl (.string x.fName) (g1_w2.out.cell 0) _ Try.underlying9 rfl ?_)
                      | (go_at_call 115; (with_reducible refine (stName_is _ true _ O1.out hn1).mono ?_); rintro e wq ⟨rfl, rfl⟩)
                      | ((with_reducible refine at_dst (N := 20) rfl ?_); refine wl_guard rfl ?_; refine ev_ld rfl 9 _ rfl ⟨g1, 1, none⟩ rfl (.string x.fNamespace) (g1_w2.out.cell 1) _ Try.underlying9 rfl ?_)
                      | ((with_reducible refine at_dst (N := 30) rfl ?_); refine wl_guard rfl ?_; refine ev_ld rfl 3 _ rfl ⟨g1, 3, none⟩ rfl (.int .i64 x.fVersion) (g1_w2.out.cell 3) _ Try.underlying3 rfl ?_)
                      | ((with_reducible refine at_dst (N := 35) rfl ?_); refine wl_guard rfl ?_; refine ev_ld rfl 3 _ rfl ⟨g1, 3, none⟩ rfl (.int .i64 x.fVersion) (g1_w2.out.cell 3) _ Try.underlying3 rfl ?_)
                      | ((with_reducible refine at_dst (N := 40) rfl ?_); refine wl_guard rfl ?_; refine ev_ld rfl 2 _ rfl ⟨g1, 4, none⟩ rfl (.int .i64 x.fAt) (g1_w2.out.cell 4) _ Try.underlying2 rfl ?_)
                      | ((with_reducible refine at_dst (N := 45) rfl ?_); refine wl_guard rfl ?_; refine ev_ld rfl 2 _ rfl ⟨g1, 4, none⟩ rfl (.int .i64 x.fAt) (g1_w2.out.cell 4) _ Try.underlying2 rfl ?_))
                    go_ret
                    exact ⟨ret_bool (by simp only [relF, relB, HM.out, hn1, HNS.out, Ec4.out, Ec5.out, Ec6.out, Ec7.out, Bool.and_false, Bool.false_and, Bool.and_true, Bool.true_and, Bool.or_false, Bool.true_or, Bool.false_or, Bool.or_true]), B_w2.out⟩
                · have Ec6 := Lib.hid (decide_eq_false hc6)
                  go_wp2_with (first
                    | ((with_reducible refine at_dst (N := 10) rfl ?_); refine ev_ld rfl 9 _ rfl _ rfl (.string (stL[k])) (HC.out) _ Try.underlying9 rfl ?_)
                    | ((with_reducible refine at_dst (N := 13) rfl ?_); refine ev_ld rfl 9 _ rfl ⟨g1, 2, none⟩ rfl (.string x.fStatus) (g1_w2.out.cell 2) _ Try.underlying9 rfl ?_)
                    | ((with_reducible refine at_dst (N := 16) rfl ?_); refine ev_ld rfl 9 _ rfl ⟨g1, 0, none⟩ rfl (.string x.fName) (g1_w2.out.cell 0) _ Try.underlying9 rfl ?_)
                    | (go_at_call 115; (with_reducible refine (stName_is _ true _ O1.out hn1).mono ?_); rintro e wq ⟨rfl, rfl⟩)
                    | ((with_reducible refine at_dst (N := 20) rfl ?_); refine wl_guard rfl ?_; refine ev_ld rfl 9 _ rfl ⟨g1, 1, none⟩ rfl (.string x.fNamespace) (g1_w2.out.cell 1) _ Try.underlying9 rfl ?_)
                    | ((with_reducible refine at_dst (N := 30) rfl ?_); refine wl_guard rfl ?_; refine ev_ld rfl 3 _ rfl ⟨g1, 3, none⟩ rfl (.int .i64 x.fVersion) (g1_w2.out.cell 3) _ Try.underlying3 rfl ?_)
                    | ((with_reducible refine at_dst (N := 35) rfl ?_); refine wl_guard rfl ?_; refine ev_ld rfl 3 _ rfl ⟨g1, 3, none⟩ rfl (.int .i64 x.fVersion) (g1_w2.out.cell 3) _ Try.underlying3 rfl ?_)
                    | ((with_reducible refine at_dst (N := 40) rfl ?_); refine wl_guard rfl ?_; refine ev_ld rfl 2 _ rfl ⟨g1, 4, none⟩ rfl (.int .i64 x.fAt) (g1_w2.out.cell 4) _ Try.underlying2 rfl ?_))
                  go_ret
                  exact ⟨ret_bool (by simp only [relF, relB, HM.out, hn1, HNS.out, Ec4.out, Ec5.out, Ec6.out, Bool.and_false, Bool.false_and, Bool.and_true, Bool.true_and, Bool.or_false, Bool.true_or, Bool.false_or, Bool.or_true]), B_w2.out⟩
              · have Ec5 := Lib.hid (decide_eq_false hc5)
                go_wp2_with (first
                  | ((with_reducible refine at_dst (N := 10) rfl ?_); refine ev_ld rfl 9 _ rfl _ rfl (.string (stL[k])) (HC.out) _ Try.underlying9 rfl ?_)
                  | ((with_reducible refine at_dst (N := 13) rfl ?_); refine ev_ld rfl 9 _ rfl ⟨g1, 2, none⟩ rfl (.string x.fStatus) (g1_w2.out.cell 2) _ Try.underlying9 rfl ?_)
                  | ((with_reducible refine at_dst (N := 16) rfl ?_); refine ev_ld rfl 9 _ rfl ⟨g1, 0, none⟩ rfl (.string x.fName) (g1_w2.out.cell 0) _ Try.underlying9 rfl ?_)
                  | (go_at_call 115; (with_reducible refine (stName_is _ true _ O1.out hn1).mono ?_); rintro e wq ⟨rfl, rfl⟩)
                  | ((with_reducible refine at_dst (N := 20) rfl ?_); refine wl_guard rfl ?_; refine ev_ld rfl 9 _ rfl ⟨g1, 1, none⟩ rfl (.string x.fNamespace) (g1_w2.out.cell 1) _ Try.underlying9 rfl ?_)
                  | ((with_reducible refine at_dst (N := 30) rfl ?_); refine wl_guard rfl ?_; refine ev_ld rfl 3 _ rfl ⟨g1, 3, none⟩ rfl (.int .i64 x.fVersion) (g1_w2.out.cell 3) _ Try.underlying3 rfl ?_)
                  | ((with_reducible refine at_dst (N := 35) rfl ?_); refine wl_guard rfl ?_; refine ev_ld rfl 3 _ rfl ⟨g1, 3, none⟩ rfl (.int .i64 x.fVersion) (g1_w2.out.cell 3) _ Try.underlying3 rfl ?_))
                go_ret
                exact ⟨ret_bool (by simp only [relF, relB, HM.out, hn1, HNS.out, Ec4.out, Ec5.out, Bool.and_false, Bool.false_and, Bool.and_true, Bool.true_and, Bool.or_false, Bool.true_or, Bool.false_or, Bool.or_true]), B_w2.out⟩
            · have Ec4 := Lib.hid (decide_eq_false hc4)
              go_wp2_with (first
                | ((with_reducible refine at_dst (N := 10) rfl ?_); refine ev_ld rfl 9 _ rfl _ rfl (.string (stL[k])) (HC.out) _ Try.underlying9 rfl ?_)
                | ((with_reducible refine at_dst (N := 13) rfl ?_); refine ev_ld rfl 9 _ rfl ⟨g1, 2, none⟩ rfl (.string x.fStatus) (g1_w2.out.cell 2) _ Try.underlying9 rfl ?_)
                | ((with_reducible refine at_dst (N := 16) rfl ?_); refine ev_ld rfl 9 _ rfl ⟨g1, 0, none⟩ rfl (.string x.fName) (g1_w2.out.cell 0) _ Try.underlying9 rfl ?_)
                | (go_at_call 115; (with_reducible refine (stName_is _ true _ O1.out hn1).mono ?_); rintro e wq ⟨rfl, rfl⟩)
                | ((with_reducible refine at_dst (N := 20) rfl ?_); refine wl_guard rfl ?_; refine ev_ld rfl 9 _ rfl ⟨g1, 1, none⟩ rfl (.string x.fNamespace) (g1_w2.out.cell 1) _ Try.underlying9 rfl ?_)
                | ((with_reducible refine at_dst (N := 30) rfl ?_); refine wl_guard rfl ?_; refine ev_ld rfl 3 _ rfl ⟨g1, 3, none⟩ rfl (.int .i64 x.fVersion) (g1_w2.out.cell 3) _ Try.underlying3 rfl ?_))
              go_ret
              exact ⟨ret_bool (by simp only [relF, relB, HM.out, hn1, HNS.out, Ec4.out, Bool.and_false, Bool.false_and, Bool.and_true, Bool.true_and, Bool.or_false, Bool.true_or, Bool.false_or, Bool.or_true]), B_w2.out⟩
    · obtain rfl : k = 9 := by omega
      have hnm : statB x.fStatus = false := stat_no fun j hj => HA.out j hj (by have : stL.length = 9 := rfl; omega)
      have HM := Lib.hid hnm
      clear hnm hlt
      go_wp2_with fail
      go_ret
      exact ⟨ret_bool (by rw [relF, HM.out]; rfl), B_w2.out⟩
end Go.Proofs.Ytdgblfldbikneaa
