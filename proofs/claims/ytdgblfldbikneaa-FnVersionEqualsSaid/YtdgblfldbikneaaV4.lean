/- Contracts: ChVersion, versionEquals, VersionEquals; FnVersionEquals: the walk. -/
import Derived.Test.YtdgblfldbikneaaV3
import Derived.Test.YtdgblfldbikneaaGx
namespace Go.Proofs.Ytdgblfldbikneaa
open Go.RowKit Go.Lib
set_option linter.unusedVariables false
set_option linter.unusedSimpArgs false
theorem nums_len (s : ByteArray) : ((numsF s).map fun n : Nat => (n : Int)).length = 3 := by
  unfold numsF
  cases h : pref s 3 with
  | none => rfl
  | some x => obtain ⟨l, p⟩ := x; simp [pref_len h]
theorem nums_bd {s : ByteArray} (h : plainB s = true) : ∀ x ∈ (numsF s).map (fun n : Nat => (n : Int)), 0 ≤ x ∧ x < 1000000000 := by
  obtain ⟨p, q, r, _, n, a⟩ := pref_text h
  intro x hx
  have hb : ∀ t ∈ [p, q, r], (valL t : Int) < 1000000000 := fun t ht => by
    have h1 := valL_le t (a t ht).2.2.1
    have h2 := pow_le9 (a t ht).2.1
    omega
  rw [n] at hx
  simp only [List.map_cons, List.map_nil, List.mem_cons, List.not_mem_nil, or_false] at hx
  rcases hx with rfl | rfl | rfl
  · exact ⟨by omega, hb p (by simp)⟩
  · exact ⟨by omega, hb q (by simp)⟩
  · exact ⟨by omega, hb r (by simp)⟩
/-- How versions are equal. -/
def eqvF (s t : ByteArray) : Bool := if errB s then decide (s = t) else if errB t then false else decide (numsF s = numsF t)
theorem eqvF_eq {s t : ByteArray} (hs : plainB s = true ∨ errB s = true) (ht : plainB t = true ∨ errB t = true) : eqvF s t = decide (s = t) := by
  unfold eqvF
  split
  · rfl
  · rename_i h1
    have p1 : plainB s = true := hs.resolve_right h1
    split
    · rename_i h2
      symm
      rw [decide_eq_false_iff_not]
      intro e
      subst e
      exact h1 h2
    · rename_i h2
      have p2 : plainB t = true := ht.resolve_right h2
      by_cases e : s = t
      · subst e; simp
      · have : numsF s ≠ numsF t := fun h => e (nums_inj p1 p2 h)
        simp [e, this]
set_option maxRecDepth 100000 in
set_option maxHeartbeats 2000000 in
theorem verEq_e (s t : ByteArray) (w : World) (hs : s.size ≤ 1000000) (ht : t.size ≤ 1000000) (he : errB s = true) :
    Calls Try.prog 114 #[.string s, .string t] w fun e w' => e = .returned (.bool (eqvF s t)) ∧ Below w.heap.size w w' := by
  have he2 : eqvF s t = decide (s = t) := by unfold eqvF; rw [if_pos he]
  have HE2 := Lib.hid he2
  clear he2
  go_enter Try.func114, Try.ntmps114
  go_wp2_with (first
    | (go_at_call 139; (with_reducible refine (newVer_err s _ hs he).mono ?_); rintro e w1 ⟨ge1, rfl, hb⟩
       have B_w1 := Lib.hid (below_trans (Below.refl _ _) hb)
       clear hb))
  go_ret
  exact ⟨ret_bool (by rw [HE2.out]; first | rfl | (rw [toList_eq3])), B_w1.out⟩
set_option maxRecDepth 100000 in
set_option maxHeartbeats 2000000 in
theorem verEq_pe (s t : ByteArray) (w : World) (hs : s.size ≤ 1000000) (ht : t.size ≤ 1000000) (hp : plainB s = true) (he : errB t = true) :
    Calls Try.prog 114 #[.string s, .string t] w fun e w' => e = .returned (.bool (eqvF s t)) ∧ Below w.heap.size w w' := by
  have he2 : eqvF s t = false := by unfold eqvF; rw [if_neg (by rw [plain_ok hp]; decide), if_pos he]
  have HE2 := Lib.hid he2
  clear he2
  go_enter Try.func114, Try.ntmps114
  go_wp2_with (first
    | (go_at_call 139; (with_reducible refine (newVer_plain s _ hs hp).mono ?_); rintro e w1 ⟨gv1, rfl, hlo, hv, hb⟩
       have low_gv1 := Nat.le_trans (Nat.le_refl _) hlo
       have B_w1 := Lib.hid (below_trans (Below.refl _ _) hb)
       have HV1 := Lib.hid hv
       clear hv hlo
       clear hb)
    | (go_at_call 139; (with_reducible refine (newVer_err t _ ht he).mono ?_); rintro e w2 ⟨ge2, rfl, hb⟩
       have gv1_w2 := Lib.hid (HV1.out.below hb)
       have B_w2 := Lib.hid (below_trans B_w1.out hb)
       clear hb))
  go_ret
  exact ⟨ret_bool HE2.out.symm, B_w2.out⟩
set_option maxRecDepth 100000 in
set_option maxHeartbeats 2000000 in
theorem verEq_pp (s t : ByteArray) (w : World) (hs : s.size ≤ 1000000) (ht : t.size ≤ 1000000) (hp : plainB s = true) (hp2 : plainB t = true) :
    Calls Try.prog 114 #[.string s, .string t] w fun e w' => e = .returned (.bool (eqvF s t)) ∧ Below w.heap.size w w' := by
  have he2 : eqvF s t = decide (((numsF s).map fun n : Nat => (n : Int)) = (numsF t).map fun n : Nat => (n : Int)) := by
    unfold eqvF
    rw [if_neg (by rw [plain_ok hp]; decide), if_neg (by rw [plain_ok hp2]; decide)]
    rw [Bool.eq_iff_iff, decide_eq_true_eq, decide_eq_true_eq]
    refine ⟨fun h => by rw [h], fun h => ?_⟩
    exact List.map_inj_right (fun a b h => by exact_mod_cast h) |>.1 h
  have HE2 := Lib.hid he2
  clear he2
  go_enter Try.func114, Try.ntmps114
  go_wp2_with (first
    | (go_at_call 139; (with_reducible refine (newVer_plain s _ hs hp).mono ?_); rintro e w1 ⟨gv1, rfl, hlo, hv, hb⟩
       have low_gv1 := Nat.le_trans (Nat.le_refl _) hlo
       have B_w1 := Lib.hid (below_trans (Below.refl _ _) hb)
       have HV1 := Lib.hid hv
       clear hv hlo
       clear hb)
    | (go_at_call 139; (with_reducible refine (newVer_plain t _ ht hp2).mono ?_); rintro e w2 ⟨gv2, rfl, hlo, hv, hb⟩
       have n_gv1_gv2 : gv1 ≠ gv2 := by have := HV1.out.lt; omega
       have low_gv2 := Nat.le_trans B_w1.out.size hlo
       have gv1_w2 := Lib.hid (HV1.out.below hb)
       have B_w2 := Lib.hid (below_trans B_w1.out hb)
       have HV2 := Lib.hid hv
       clear hv hlo
       clear hb)
    | (go_at_call 140; (with_reducible refine (equal_any gv1 gv2 _ _ s t _ gv1_w2.out HV2.out (nums_len s) (nums_len t) (nums_bd hp) (nums_bd hp2)).mono ?_); rintro e w3 ⟨rfl, hb⟩
       have gv1_w3 := Lib.hid (gv1_w2.out.below hb)
       have gv2_w3 := Lib.hid (HV2.out.below hb)
       have B_w3 := Lib.hid (below_trans B_w2.out hb)
       clear hb))
  go_ret
  exact ⟨ret_bool HE2.out.symm, B_w3.out⟩
theorem verEq_any (s t : ByteArray) (w : World) (hs : s.size ≤ 1000000) (ht : t.size ≤ 1000000) (ps : plainB s = true ∨ errB s = true) (pt : plainB t = true ∨ errB t = true) :
    Calls Try.prog 114 #[.string s, .string t] w fun e w' => e = .returned (.bool (eqvF s t)) ∧ Below w.heap.size w w' := by
  by_cases h : errB s = true
  · exact verEq_e s t w hs ht h
  · by_cases h2 : errB t = true
    · exact verEq_pe s t w hs ht (ps.resolve_right h) h2
    · exact verEq_pp s t w hs ht (ps.resolve_right h) (pt.resolve_right h2)
set_option maxRecDepth 100000 in
theorem zzVerEq_any (s t : ByteArray) (w : World) (hs : s.size ≤ 1000000) (ht : t.size ≤ 1000000) (ps : plainB s = true ∨ errB s = true) (pt : plainB t = true ∨ errB t = true) :
    Calls Try.prog 71 #[.string s, .string t] w fun e w' => e = .returned (.bool (eqvF s t)) ∧ Below w.heap.size w w' := by
  go_enter Try.func71, Try.ntmps71
  go_wp2_with (first
    | (go_at_call 114; (with_reducible refine (verEq_any s t _ hs ht ps pt).mono ?_); rintro e w1 ⟨rfl, hb⟩
       have B_w1 := Lib.hid (below_trans (Below.refl _ _) hb)
       clear hb))
  go_ret
  exact ⟨rfl, B_w1.out⟩
theorem catch70 (x0 x1 : Nat) (w : World) :
    CallsD Try.prog 70 #[.pointer (some ⟨x0, 0, none⟩), .pointer (some ⟨x1, 0, none⟩)] .returning w fun e u' w' => e = .returned (.tuple #[]) ∧ u' = .returning ∧ w' = w := by
  refine callsD_of_wpS Try.func70 rfl fun c₀ cs hu => ?_
  apply wpS_seq
  apply wpS_region
  simp [wpOpsS, go_sem, recoverD, hu, Try.ntmps70, Exit.thenS]
  refine wpS_cond (t := false) (by simp [Act.eval, Array.replicate]) ?_
  simp only [Bool.false_eq_true, if_false]
  refine wpS_of_wp (wp_skip ?_)
  cases c₀
  simp_all [bodyPostS, results, Try.results70]
set_option maxRecDepth 100000 in
set_option maxHeartbeats 2000000 in
theorem implVerEq_any (s t : ByteArray) (w : World) (hs : s.size ≤ 1000000) (ht : t.size ≤ 1000000) (ps : plainB s = true ∨ errB s = true) (pt : plainB t = true ∨ errB t = true) :
    Calls Try.prog 26 #[.string s, .string t] w fun e w' => e = .returned (.tuple #[.bool (eqvF s t), .int .i64 0]) ∧ Below w.heap.size w w' := by
  have hmf : ∀ (fn : Fn) (first cap : Array Value) (w : World), (Instr.makeFunc fn first cap).run Try.prog w = .ok (.func fn first cap) w := fun _ _ _ _ => rfl
  go_enter_defers Try.func26, Try.ntmps26
  go_wp2_with (first
    | ((with_reducible refine at_dst (N := 4) rfl ?_); refine ev_alloc rfl 4 rfl _ _ tz4 ?_; intro g4 w1 hg hB hb
       have low_g4 := Nat.le_trans (Nat.le_refl _) hg
       have B_w1 := Lib.hid (below_trans (Below.refl _ _) hb)
       have g4_w1 : Hid (Blk w1 g4 4 #[.bool false]) := hB
       clear hB hb)
    | ((with_reducible refine at_dst (N := 5) rfl ?_); refine ev_alloc rfl 3 rfl _ _ tz3 ?_; intro g5 w2 hg hB hb
       have n_g4_g5 : g4 ≠ g5 := by have := g4_w1.out.lt; omega
       have low_g5 := Nat.le_trans B_w1.out.size hg
       have g4_w2 := Lib.hid (g4_w1.out.below hb)
       have B_w2 := Lib.hid (below_trans B_w1.out hb)
       have g5_w2 : Hid (Blk w2 g5 3 #[.int .i64 0]) := hB
       clear hB hb)
    | (go_at_call 71; (with_reducible refine (zzVerEq_any s t _ hs ht ps pt).mono ?_); rintro e w3 ⟨rfl, hb⟩
       have g4_w3 := Lib.hid (g4_w2.out.below hb)
       have g5_w3 := Lib.hid (g5_w2.out.below hb)
       have B_w3 := Lib.hid (below_trans B_w2.out hb)
       clear hb)
    | (refine ev_store1 rfl 4 _ _ rfl g4 0 _ rfl (.bool (eqvF s t)) rfl 4 g4_w3.out tsz4 (by simp) rfl rfl ?_; intro w4 hB hg hz
       have g5_w4 := Lib.hid (g5_w3.out.grown hg n_g4_g5.symm)
       have B_w4 := Lib.hid (below_grown B_w3.out hg B_w3.out.size low_g4)
       have g4_w4 : Hid (Blk w4 g4 4 #[.bool (eqvF s t)]) := hB
       clear hB hg hz)
    | (refine ev_store1 rfl 3 _ _ rfl g5 0 _ rfl (.int .i64 0) rfl 3 g5_w4.out tsz3 (by simp) rfl rfl ?_; intro w5 hB hg hz
       have g4_w5 := Lib.hid (g4_w4.out.grown hg n_g4_g5)
       have B_w5 := Lib.hid (below_grown B_w4.out hg B_w4.out.size low_g5)
       have g5_w5 : Hid (Blk w5 g5 3 #[.int .i64 0]) := hB
       clear hB hg hz))
  have rl0 : (loadVar 4 ⟨g4, 0, none⟩).run Try.prog w5 = .ok (.bool (eqvF s t)) w5 := load_one (P := Try.prog) _ 4 ⟨g4, 0, none⟩ (.bool (eqvF s t)) (g4_w5.out.cell 0) _ Try.underlying4 rfl
  have rl1 : (loadVar 3 ⟨g5, 0, none⟩).run Try.prog w5 = .ok (.int .i64 0) w5 := load_one (P := Try.prog) _ 3 ⟨g5, 0, none⟩ (.int .i64 0) (g5_w5.out.cell 0) _ Try.underlying3 rfl
  refine leaves_catch (f := 70) (args := #[.pointer (some ⟨g4, 0, none⟩), .pointer (some ⟨g5, 0, none⟩)]) (v := .tuple #[.bool (eqvF s t), .int .i64 0]) (by simp [go_sem]) (catch70 g4 g5 _) (results2 Try.results26 ⟨_, rfl, rl0⟩ ⟨_, rfl, rl1⟩) ?_
  exact ⟨rfl, B_w5.out⟩
set_option maxRecDepth 100000 in
set_option maxHeartbeats 2000000 in
theorem chVer_p (s : ByteArray) (w : World) (hs : s.size ≤ 1000000) (hp : plainB s = true) :
    Calls Try.prog 24 #[.string s] w fun e w' => e = .returned (.string (verF s)) ∧ Below w.heap.size w w' := by
  obtain ⟨x0, x1, x2, hl3⟩ : ∃ x0 x1 x2, ((numsF s).map fun n : Nat => (n : Int)) = [x0, x1, x2] := by
    have c3 := nums_len s
    rcases hq : ((numsF s).map fun n : Nat => (n : Int)) with _ | ⟨x0, _ | ⟨x1, _ | ⟨x2, _ | ⟨x3, r⟩⟩⟩⟩ <;> rw [hq] at c3 <;> simp at c3
    exact ⟨x0, x1, x2, rfl⟩
  have hc := fun W => chNums_any s W hs
  rw [hl3, hp] at hc
  have HC : Hid (∀ W, Calls Try.prog 69 #[.string s] W fun e w' => e = .returned (.tuple #[.agg #[.int .i64 x0, .int .i64 x1, .int .i64 x2], .bool true]) ∧ Below W.heap.size W w') := hc
  clear hc hl3
  have hv : verF s = s := by unfold verF; rw [if_pos (.inl hp)]
  have HV := Lib.hid hv
  clear hv hp
  go_enter Try.func24, Try.ntmps24
  go_wp2_with (first
    | (go_at_call 69; (with_reducible refine (HC.out _).mono ?_); rintro e w1 ⟨rfl, hb⟩
       have B_w1 := Lib.hid (below_trans (Below.refl _ _) hb)
       clear hb)
    | ((with_reducible refine at_dst (N := 3) rfl ?_); refine ev_alloc rfl 117 rfl _ _ tz117 ?_; intro g3 w2 hg hB hb
       have low_g3 := Nat.le_trans B_w1.out.size hg
       have B_w2 := Lib.hid (below_trans B_w1.out hb)
       have g3_w2 : Hid (Blk w2 g3 117 #[.int .i64 0, .int .i64 0, .int .i64 0]) := hB
       clear hB hb)
    | (refine ev_store rfl 117 _ _ rfl g3 _ _ rfl rfl 117 g3_w2.out tsz117 rfl rfl ?_; intro w3 hB hg hz
       have B_w3 := Lib.hid (below_grown B_w2.out hg B_w2.out.size low_g3)
       have g3_w3 : Hid (Blk w3 g3 117 #[.int .i64 x0, .int .i64 x1, .int .i64 x2]) := hB
       clear hB hg hz))
  go_ret
  exact ⟨ret_str HV.out.symm, B_w3.out⟩
set_option maxRecDepth 100000 in
set_option maxHeartbeats 4000000 in
theorem chVer_n (s : ByteArray) (w : World) (hs : s.size ≤ 1000000) (hp : plainB s = false) :
    Calls Try.prog 24 #[.string s] w fun e w' => e = .returned (.string (verF s)) ∧ Below w.heap.size w w' := by
  obtain ⟨x0, x1, x2, hl3⟩ : ∃ x0 x1 x2, ((numsF s).map fun n : Nat => (n : Int)) = [x0, x1, x2] := by
    have c3 := nums_len s
    rcases hq : ((numsF s).map fun n : Nat => (n : Int)) with _ | ⟨x0, _ | ⟨x1, _ | ⟨x2, _ | ⟨x3, r⟩⟩⟩⟩ <;> rw [hq] at c3 <;> simp at c3
    exact ⟨x0, x1, x2, rfl⟩
  have hc := fun W => chNums_any s W hs
  rw [hl3, hp] at hc
  have HC : Hid (∀ W, Calls Try.prog 69 #[.string s] W fun e w' => e = .returned (.tuple #[.agg #[.int .i64 x0, .int .i64 x1, .int .i64 x2], .bool false]) ∧ Below W.heap.size W w') := hc
  clear hc hl3
  by_cases h0 : s.data.toList = []
  · have hv : verF s = s := by unfold verF; rw [if_pos (.inr h0)]
    obtain rfl : s = ⟨#[]⟩ := ByteArray.ext (Array.ext' h0)
    have HV := Lib.hid hv
    clear hv hp h0
    go_enter Try.func24, Try.ntmps24
    go_wp2_with (first
      | (go_at_call 69; (with_reducible refine (HC.out _).mono ?_); rintro e w1 ⟨rfl, hb⟩
         have B_w1 := Lib.hid (below_trans (Below.refl _ _) hb)
         clear hb)
      | ((with_reducible refine at_dst (N := 3) rfl ?_); refine ev_alloc rfl 117 rfl _ _ tz117 ?_; intro g3 w2 hg hB hb
         have low_g3 := Nat.le_trans B_w1.out.size hg
         have B_w2 := Lib.hid (below_trans B_w1.out hb)
         have g3_w2 : Hid (Blk w2 g3 117 #[.int .i64 0, .int .i64 0, .int .i64 0]) := hB
         clear hB hb)
      | (refine ev_store rfl 117 _ _ rfl g3 _ _ rfl rfl 117 g3_w2.out tsz117 rfl rfl ?_; intro w3 hB hg hz
         have B_w3 := Lib.hid (below_grown B_w2.out hg B_w2.out.size low_g3)
         have g3_w3 : Hid (Blk w3 g3 117 #[.int .i64 x0, .int .i64 x1, .int .i64 x2]) := hB
         clear hB hg hz))
    go_ret
    exact ⟨ret_str HV.out.symm, B_w3.out⟩
  · have e0 : ¬ s.toList = [] := by rw [ByteArray.toList_eq]; exact h0
    have e1 : s.toList.isEmpty = false := by simp [e0]
    have hpos : 0 < s.size := by
      rcases Nat.eq_zero_or_pos s.size with h | h
      · exact absurd (List.eq_nil_of_length_eq_zero (by rw [Array.length_toList]; exact h)) h0
      · exact h
    have h255 : (s[0].toNat : Int) ≤ 255 := by have := s[0].toNat_lt; omega
    have hv : verF s = if leadB s[0] then noF ++ s else s := by
      unfold verF
      rw [if_neg (by rintro (h | h); (rw [hp] at h; cases h); exact h0 h)]
      cases hl : s.data.toList with
      | nil => exact absurd hl h0
      | cons c l =>
        have e : s[0] = c := by
          have h5 : s.data.toList[0]? = some c := by rw [hl]; rfl
          obtain ⟨h6, h7⟩ := List.getElem?_eq_some_iff.1 h5
          exact h7
        rw [e]
    have hr : (48 ≤ (s[0].toNat : Int) ∧ (s[0].toNat : Int) ≤ 57) ∨ (s[0].toNat : Int) = 118 ∨ ((s[0].toNat : Int) < 48 ∧ leadB s[0] = false) ∨ (57 < (s[0].toNat : Int) ∧ (s[0].toNat : Int) ≠ 118 ∧ leadB s[0] = false) := by
      by_cases hl : leadB s[0] = true
      · simp only [leadB, decide_eq_true_eq] at hl; omega
      · have hl2 : leadB s[0] = false := by simpa using hl
        have hl3 := hl2
        simp only [leadB, decide_eq_false_iff_not] at hl3
        rcases (by omega : (s[0].toNat : Int) < 48 ∨ 57 < (s[0].toNat : Int)) with h | h
        · exact .inr (.inr (.inl ⟨h, hl2⟩))
        · exact .inr (.inr (.inr ⟨h, by omega, hl2⟩))
    have HV := Lib.hid hv
    clear hv hp h0
    rcases hr with ⟨r1, r2⟩ | r1 | ⟨r1, r2⟩ | ⟨r1, r3, r2⟩
    · have hv2 : verF s = noF ++ s := by rw [HV.out, if_pos (by simp only [leadB, decide_eq_true_eq]; omega)]
      have HV2 := Lib.hid hv2
      clear hv2 HV
      go_enter Try.func24, Try.ntmps24
      go_wp2_with (first
        | (go_at_call 69; (with_reducible refine (HC.out _).mono ?_); rintro e w1 ⟨rfl, hb⟩
           have B_w1 := Lib.hid (below_trans (Below.refl _ _) hb)
           clear hb)
        | ((with_reducible refine at_dst (N := 3) rfl ?_); refine ev_alloc rfl 117 rfl _ _ tz117 ?_; intro g3 w2 hg hB hb
           have low_g3 := Nat.le_trans B_w1.out.size hg
           have B_w2 := Lib.hid (below_trans B_w1.out hb)
           have g3_w2 : Hid (Blk w2 g3 117 #[.int .i64 0, .int .i64 0, .int .i64 0]) := hB
           clear hB hb)
        | (refine ev_store rfl 117 _ _ rfl g3 _ _ rfl rfl 117 g3_w2.out tsz117 rfl rfl ?_; intro w3 hB hg hz
           have B_w3 := Lib.hid (below_grown B_w2.out hg B_w2.out.size low_g3)
           have g3_w3 : Hid (Blk w3 g3 117 #[.int .i64 x0, .int .i64 x1, .int .i64 x2]) := hB
           clear hB hg hz))
      go_ret
      exact ⟨ret_str HV2.out.symm, B_w3.out⟩
    · have hv2 : verF s = noF ++ s := by rw [HV.out, if_pos (by simp only [leadB, decide_eq_true_eq]; omega)]
      have d1 : (48 : Int) ≤ (s[0].toNat : Int) := by omega
      have d2 : 57 < (s[0].toNat : Int) := by omega
      have d3 : ((s[0].toNat : Int) == 118) = true := by simp only [beq_iff_eq]; omega
      clear r1
      have HV2 := Lib.hid hv2
      clear hv2 HV
      go_enter Try.func24, Try.ntmps24
      go_wp2_with (first
        | (go_at_call 69; (with_reducible refine (HC.out _).mono ?_); rintro e w1 ⟨rfl, hb⟩
           have B_w1 := Lib.hid (below_trans (Below.refl _ _) hb)
           clear hb)
        | ((with_reducible refine at_dst (N := 3) rfl ?_); refine ev_alloc rfl 117 rfl _ _ tz117 ?_; intro g3 w2 hg hB hb
           have low_g3 := Nat.le_trans B_w1.out.size hg
           have B_w2 := Lib.hid (below_trans B_w1.out hb)
           have g3_w2 : Hid (Blk w2 g3 117 #[.int .i64 0, .int .i64 0, .int .i64 0]) := hB
           clear hB hb)
        | (refine ev_store rfl 117 _ _ rfl g3 _ _ rfl rfl 117 g3_w2.out tsz117 rfl rfl ?_; intro w3 hB hg hz
           have B_w3 := Lib.hid (below_grown B_w2.out hg B_w2.out.size low_g3)
           have g3_w3 : Hid (Blk w3 g3 117 #[.int .i64 x0, .int .i64 x1, .int .i64 x2]) := hB
           clear hB hg hz))
      go_ret
      exact ⟨ret_str HV2.out.symm, B_w3.out⟩
    · have hv2 : verF s = s := by rw [HV.out, if_neg (by simp [r2])]
      have d3 : ((s[0].toNat : Int) == 118) = false := by simp only [beq_eq_false_iff_ne, ne_eq]; omega
      clear r2
      have HV2 := Lib.hid hv2
      clear hv2 HV
      go_enter Try.func24, Try.ntmps24
      go_wp2_with (first
        | (go_at_call 69; (with_reducible refine (HC.out _).mono ?_); rintro e w1 ⟨rfl, hb⟩
           have B_w1 := Lib.hid (below_trans (Below.refl _ _) hb)
           clear hb)
        | ((with_reducible refine at_dst (N := 3) rfl ?_); refine ev_alloc rfl 117 rfl _ _ tz117 ?_; intro g3 w2 hg hB hb
           have low_g3 := Nat.le_trans B_w1.out.size hg
           have B_w2 := Lib.hid (below_trans B_w1.out hb)
           have g3_w2 : Hid (Blk w2 g3 117 #[.int .i64 0, .int .i64 0, .int .i64 0]) := hB
           clear hB hb)
        | (refine ev_store rfl 117 _ _ rfl g3 _ _ rfl rfl 117 g3_w2.out tsz117 rfl rfl ?_; intro w3 hB hg hz
           have B_w3 := Lib.hid (below_grown B_w2.out hg B_w2.out.size low_g3)
           have g3_w3 : Hid (Blk w3 g3 117 #[.int .i64 x0, .int .i64 x1, .int .i64 x2]) := hB
           clear hB hg hz))
      go_ret
      exact ⟨ret_str HV2.out.symm, B_w3.out⟩
    · have hv2 : verF s = s := by rw [HV.out, if_neg (by simp [r2])]
      have d1 : (48 : Int) ≤ (s[0].toNat : Int) := by omega
      have d3 : ((s[0].toNat : Int) == 118) = false := by simp only [beq_eq_false_iff_ne, ne_eq]; omega
      clear r2 r3
      have HV2 := Lib.hid hv2
      clear hv2 HV
      go_enter Try.func24, Try.ntmps24
      go_wp2_with (first
        | (go_at_call 69; (with_reducible refine (HC.out _).mono ?_); rintro e w1 ⟨rfl, hb⟩
           have B_w1 := Lib.hid (below_trans (Below.refl _ _) hb)
           clear hb)
        | ((with_reducible refine at_dst (N := 3) rfl ?_); refine ev_alloc rfl 117 rfl _ _ tz117 ?_; intro g3 w2 hg hB hb
           have low_g3 := Nat.le_trans B_w1.out.size hg
           have B_w2 := Lib.hid (below_trans B_w1.out hb)
           have g3_w2 : Hid (Blk w2 g3 117 #[.int .i64 0, .int .i64 0, .int .i64 0]) := hB
           clear hB hb)
        | (refine ev_store rfl 117 _ _ rfl g3 _ _ rfl rfl 117 g3_w2.out tsz117 rfl rfl ?_; intro w3 hB hg hz
           have B_w3 := Lib.hid (below_grown B_w2.out hg B_w2.out.size low_g3)
           have g3_w3 : Hid (Blk w3 g3 117 #[.int .i64 x0, .int .i64 x1, .int .i64 x2]) := hB
           clear hB hg hz))
      go_ret
      exact ⟨ret_str HV2.out.symm, B_w3.out⟩
theorem chVer_any (s : ByteArray) (w : World) (hs : s.size ≤ 1000000) : Calls Try.prog 24 #[.string s] w fun e w' => e = .returned (.string (verF s)) ∧ Below w.heap.size w w' := by
  cases hp : plainB s
  · exact chVer_n s w hs hp
  · exact chVer_p s w hs hp
theorem verF_size (s : ByteArray) : (verF s).size ≤ s.size + 3 := by
  unfold verF
  split
  · omega
  · split
    · omega
    · split
      · have e : (noF ++ s).size = noF.size + s.size := ByteArray.size_append
        have : noF.size = 3 := rfl
        omega
      · omega
end Go.Proofs.Ytdgblfldbikneaa
