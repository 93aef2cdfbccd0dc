/- Contract: spec.ChNumbers. -/
import Derived.Test.YtdgblfldbikneaaV0
import Derived.BigRegion
import Derived.Deep.CutBlock
namespace Go.Proofs.Ytdgblfldbikneaa
open Go.RowKit Go.Lib
set_option linter.unusedVariables false
set_option linter.unusedSimpArgs false

/-- Three numbers as an array's cells. -/
def nC (l : List Int) : Array Value := (l.map (Value.int .i64)).toArray
theorem nC_size (l : List Int) : (nC l).size = l.length := by simp [nC]
theorem nC_get {l : List Int} {k : Nat} (h : k < l.length) : (nC l)[k]? = some (.int .i64 l[k]) := by simp [nC, h]
theorem nC_set (l : List Int) (k : Nat) (x : Int) : (nC l).setIfInBounds k (.int .i64 x) = nC (l.set k x) := by simp [nC, List.map_set]
/-- The numbers that are known so far. -/
def clF (l : List Nat) : List Int := l.map (fun n : Nat => (n : Int)) ++ List.replicate (3 - l.length) 0
theorem clF_len {l : List Nat} (h : l.length ≤ 3) : (clF l).length = 3 := by simp [clF]; omega
theorem clF_set {l : List Nat} {v : Nat} (h : l.length < 3) : (clF l).set l.length (v : Int) = clF (l ++ [v]) := by
  unfold clF
  have e : 3 - l.length = (3 - (l ++ [v]).length) + 1 := by simp; omega
  rw [e, List.replicate_succ, List.set_append_right _ _ (by simp)]
  simp
theorem clF_zero {l : List Nat} (h : l.length < 3) (h2 : l.length < (clF l).length) : (clF l)[l.length] = 0 := by
  unfold clF at h2 ⊢
  rw [List.getElem_append_right (by simp)]
  simp
theorem valL_le : ∀ l : List UInt8, (∀ c ∈ l, digB c = true) → valL l < 10 ^ l.length := by
  refine snoc_ind (fun _ => by decide) (fun l c ih h => ?_)
  have h1 := ih (fun x hx => h x (List.mem_append_left _ hx))
  have h2 := h c (by simp)
  simp only [digB, decide_eq_true_eq] at h2
  rw [valL_snoc, List.length_append, List.length_singleton, Nat.pow_succ]
  omega
theorem pow_le9 {n : Nat} (h : n ≤ 9) : 10 ^ n ≤ 1000000000 := Nat.le_trans (Nat.pow_le_pow_right (by decide) h) (by decide)
theorem wrap_in {x : Int} (h0 : 0 ≤ x) (h1 : x ≤ 9223372036854775807) : IntKind.i64.wrap x = x := IntWalk.i64_in _ (by omega)
/-- A digit more. -/
theorem val_step {pre : List UInt8} {c : UInt8} {x : Int} (hd : ∀ y ∈ pre, digB y = true) (hc : digB c = true) (hx : pre.length ≤ 9 → x = (valL pre : Int)) (hn : (pre ++ [c]).length ≤ 9) :
    IntKind.i64.wrap (IntKind.i64.wrap (10 * x) + ((c.toNat : Int) - 48)) = (valL (pre ++ [c]) : Int) := by
  rw [List.length_append, List.length_singleton] at hn
  have e := hx (by omega)
  have h1 := valL_le pre hd
  have h2 := pow_le9 (n := pre.length) (by omega)
  simp only [digB, decide_eq_true_eq] at hc
  rw [valL_snoc, e, wrap_in (x := 10 * (valL pre : Int)) (by omega) (by omega), wrap_in (by omega) (by omega)]
  omega

theorem pref_none {s : ByteArray} {k p : Nat} {l : List Nat} (h : pref s k = some (l, p)) (hk : k < 3) (hs : stepF s k p = none) : pref s 3 = none := by
  have h1 : pref s (k + 1) = none := by simp only [pref, h, hs]
  have up : ∀ j, pref s j = none → pref s (j + 1) = none := fun j hj => by simp only [pref, hj]
  rcases (by omega : k = 0 ∨ k = 1 ∨ k = 2) with rfl | rfl | rfl
  · exact up 2 (up 1 h1)
  · exact up 2 h1
  · exact h1
theorem get48 {s : ByteArray} {p : Nat} {pre : List UInt8} (ht : tw s p = pre) (h0 : pre ≠ []) : ∃ h : p < s.size, pre.head? = some s[p] := by
  have hp : p < s.size := by
    rcases Nat.lt_or_ge p s.size with h | h
    · exact h
    · rw [tw_end h] at ht; exact absurd ht.symm h0
  refine ⟨hp, ?_⟩
  have hl : p < s.data.toList.length := by simpa using hp
  have h1 := tw_drop s p
  rw [List.drop_eq_getElem_cons hl, ht] at h1
  cases pre with
  | nil => exact absurd rfl h0
  | cons c cs =>
    simp only [List.cons_append, List.cons.injEq] at h1
    simp only [List.head?_cons, Option.some.injEq]
    exact h1.1.symm
theorem step_bad {s : ByteArray} {k p m : Nat} {pre : List UInt8} (ht : tw s p = pre) (hm : m = p + pre.length)
    (h : m = p ∨ 9 < m - p ∨ (1 < m - p ∧ ∃ h : p < s.size, s[p] = 48) ∨ (k < 2 ∧ (s.size ≤ m ∨ ∃ h : m < s.size, s[m] ≠ 46))) : stepF s k p = none := by
  unfold stepF
  rw [ht, ← hm, if_pos ?_]
  rcases h with h | h | ⟨h1, h2, h3⟩ | ⟨h1, h2⟩
  · left; exact List.eq_nil_of_length_eq_zero (by omega)
  · right; left; omega
  · right; right; left
    have h0 : pre ≠ [] := fun e => by rw [e] at hm; simp at hm; omega
    obtain ⟨_, h4⟩ := get48 ht h0
    exact ⟨by omega, by rw [h4, h3]⟩
  · right; right; right
    refine ⟨h1, ?_⟩
    rcases h2 with h2 | ⟨h2, h3⟩
    · rw [List.getElem?_eq_none (by simpa using h2)]; simp
    · rw [List.getElem?_eq_getElem (by simpa using h2)]
      intro e
      injection e with e
      exact h3 e
theorem step_good {s : ByteArray} {k p m : Nat} {pre : List UInt8} (ht : tw s p = pre) (hm : m = p + pre.length)
    (h : ¬ (m = p ∨ 9 < m - p ∨ (1 < m - p ∧ ∃ h : p < s.size, s[p] = 48) ∨ (k < 2 ∧ (s.size ≤ m ∨ ∃ h : m < s.size, s[m] ≠ 46)))) : stepF s k p = some (valL pre, m + 1) ∧ pre.length ≤ 9 := by
  have h9 : pre.length ≤ 9 := by
    rcases Nat.lt_or_ge 9 pre.length with h1 | h1
    · exact absurd (.inr (.inl (by omega))) h
    · exact h1
  refine ⟨?_, h9⟩
  unfold stepF
  rw [ht, ← hm, if_neg ?_]
  rintro (h1 | h1 | ⟨h1, h2⟩ | ⟨h1, h2⟩)
  · exact h (.inl (by rw [hm, h1]; rfl))
  · omega
  · have h0 : pre ≠ [] := fun e => by rw [e] at h1; simp at h1
    obtain ⟨h3, h4⟩ := get48 ht h0
    rw [h4] at h2
    injection h2 with h2
    exact h (.inr (.inr (.inl ⟨by omega, h3, h2⟩)))
  · refine h (.inr (.inr (.inr ⟨h1, ?_⟩)))
    rcases Nat.lt_or_ge m s.size with h3 | h3
    · refine .inr ⟨h3, fun e => h2 ?_⟩
      rw [List.getElem?_eq_getElem (by simpa using h3)]
      congr 1
    · exact .inl h3

set_option maxRecDepth 100000 in
set_option maxHeartbeats 4000000 in
theorem chNums_any (s : ByteArray) (w : World) (hs : s.size ≤ 1000000) :
    Calls Try.prog 69 #[.string s] w fun e w' => e = .returned (.tuple #[.agg (nC ((numsF s).map fun n : Nat => (n : Int))), .bool (plainB s)]) ∧ Below w.heap.size w w' := by
  go_enter Try.func69, Try.ntmps69
  go_wp2_with ((with_reducible refine at_dst (N := 2) rfl ?_); refine ev_alloc rfl 117 rfl _ _ tz117 ?_; intro g w1 hg hB hb; have HB1 : Hid (Blk w1 g 117 (nC (clF []))) := hB; have B1 := Lib.hid hb; clear hB hb)
  go_loopw [4, 5, 6, 7] (fun at_ _ _ i wr => ∃ k p : Nat, ∃ l : List Nat, k ≤ 3 ∧ p ≤ s.size + 1 ∧ l.length = k ∧ i = .int .i64 k ∧ at_ = .int .i64 p ∧ Hid (pref s k = some (l, p)) ∧ Hid (Blk wr g 117 (nC (clF l))) ∧ Hid (Below w.heap.size w wr)) (fun _ _ _ i _ => 3 - (intOf i).toNat)
  case atStart => exact ⟨0, 0, [], by omega, by omega, rfl, rfl, rfl, rfl, HB1, B1⟩
  case round =>
    clear HB1 B1
    obtain ⟨k, p, l, hk, hp, hlen, rfl, rfl, HP, HB, HW⟩ := hrel
    by_cases hk3 : k < 3
    · have dk : decide ((k : Int) < 3) = true := by simp; omega
      go_upto_block 2 with fail
      clear dk
      obtain ⟨wo, rfl⟩ : ∃ wo : World, wo = wr := ⟨_, rfl⟩
      go_cut [4] (fun at_ wx => ∃ m : Nat, ∃ pre : List UInt8, ∃ x : Int, at_ = .int .i64 m ∧ p ≤ m ∧ m ≤ s.size + 1 ∧ Hid (tw s p = pre ∧ m = p + pre.length ∧ (pre.length ≤ 9 → x = (valL pre : Int))) ∧ Hid (Blk wx g 117 (nC ((clF l).set k x))) ∧ Hid (Below w.heap.size w wx))
      case first =>
        go_wp2_with fail
        go_loopw [4] (fun at_ wr => ∃ m : Nat, ∃ pre : List UInt8, ∃ x : Int, at_ = .int .i64 m ∧ p ≤ m ∧ m ≤ s.size + 1 ∧ Hid (tw s p = pre ++ tw s m ∧ m = p + pre.length ∧ (pre.length ≤ 9 → x = (valL pre : Int))) ∧ Hid (Blk wr g 117 (nC ((clF l).set k x))) ∧ Hid (Below w.heap.size w wr)) (fun at_ _ => s.size + 1 - (intOf at_).toNat)
        case atStart =>
          refine ⟨p, [], 0, rfl, Nat.le_refl _, hp, ⟨by simp, by simp, fun _ => rfl⟩, ?_, HW⟩
          have e : (clF l).set k 0 = clF l := by
            have h3 := clF_len (l := l) (by omega)
            have hz := clF_zero (l := l) (by omega) (by omega)
            subst hlen
            rw [← hz]
            exact List.set_getElem_self _
          rw [e]
          exact HB
        case round =>
          obtain ⟨m, pre, x, rfl, hpm, hm, HT, HB2, HW2⟩ := hrel
          obtain ⟨ht, hmp, hx⟩ := HT.out
          have HX := Lib.hid hx
          have HTT := Lib.hid ht
          have HM := Lib.hid hmp
          clear hx HT hmp
          have c3 := clF_len (l := l) (by omega)
          have hcell : wr.cell? ⟨g, k, none⟩ = some (.int .i64 x) := by
            rw [HB2.out.cell, nC_get (by rw [List.length_set]; omega)]
            simp
          have hfr := HB2.out.frozen k
          by_cases hgo : ∃ h : m < s.size, digB s[m] = true
          · obtain ⟨hlt, hd⟩ := hgo
            have hsn := tw_digit hlt hd
            have HD := Lib.hid hd
            have d1 : (48 : Int) ≤ (s[m].toNat : Int) := by simp only [digB, decide_eq_true_eq] at hd; omega
            have d2 : (s[m].toNat : Int) ≤ 57 := by simp only [digB, decide_eq_true_eq] at hd; omega
            have b0 : (0 : Int) ≤ (k : Int) := by omega
            have b1 : (k : Int) < 3 := by omega
            have b3 : ((k : Int)).toNat = k := by omega
            have HS := Lib.hid hsn
            clear hd hsn ht
            go_upto_region 7 with fail
            go_region
            go_wp2_with fail
            refine ⟨⟨m + 1, pre ++ [s[m]], wrap64 (wrap64 (10 * x) + ((s[m].toNat : Int) - 48)), by go_num, by omega, by omega, ⟨by rw [HTT.out, HS.out]; simp, by have := HM.out; simp; omega, fun h9 => by rw [← IntWalk.i64_left, ← IntWalk.i64_left]; exact val_step (fun y hy => tw_all y (by rw [HTT.out]; exact List.mem_append_left _ hy)) HD.out HX.out h9⟩, ?_, ?_⟩, ?_⟩
            · have h1 := HB2.out.set_ k (.int .i64 (wrap64 (wrap64 (10 * x) + ((s[m].toNat : Int) - 48))))
              rw [nC_set, List.set_set] at h1
              exact h1
            · exact (below_set HW2.out hg k _).drew
            · simp [intOf]; omega
          · have hst : tw s m = [] := by
              by_cases hlt : m < s.size
              · exact tw_stop hlt (by cases hd : digB s[m] with
                  | false => rfl
                  | true => exact absurd ⟨hlt, hd⟩ hgo)
              · exact tw_end (by omega)
            rw [hst, List.append_nil] at ht
            have HTW := Lib.hid ht
            by_cases hlt : m < s.size
            · have hd : digB s[m] = false := by
                cases hd : digB s[m] with
                | false => rfl
                | true => exact absurd ⟨hlt, hd⟩ hgo
              have hrng : (s[m].toNat : Int) < 48 ∨ 57 < (s[m].toNat : Int) := by
                simp only [digB, decide_eq_false_iff_not] at hd; omega
              clear hd hgo ht hst HTT
              rcases hrng with hr | hr
              all_goals
                go_wp2_with fail
                go_meet
                exact ⟨m, pre, x, rfl, hpm, hm, ⟨HTW.out, HM.out, HX.out⟩, HB2, HW2⟩
            · clear hgo ht hst HTT
              go_wp2_with fail
              go_meet
              exact ⟨m, pre, x, rfl, hpm, hm, ⟨HTW.out, HM.out, HX.out⟩, HB2, HW2⟩
      case rest =>
        obtain ⟨m, pre, x, rfl, hpm, hm, HT, HB2, HW2⟩ := hcut
        obtain ⟨ht, hmp, hx⟩ := HT.out
        have HX := Lib.hid hx
        have HM := Lib.hid hmp
        have HTW := Lib.hid ht
        have hms : p < m → p < s.size ∧ m ≤ s.size := fun h => by
          have h0 : pre ≠ [] := fun e => by rw [e] at hmp; simp at hmp; omega
          obtain ⟨h1, _⟩ := get48 ht h0
          have := tw_le s p (by omega)
          rw [ht] at this
          omega
        have c3 := clF_len (l := l) (by omega)
        have hbad : (m = p ∨ 9 < m - p ∨ (1 < m - p ∧ ∃ h : p < s.size, s[p] = 48) ∨ (k < 2 ∧ (s.size ≤ m ∨ ∃ h : m < s.size, s[m] ≠ 46))) → pref s 3 = none := fun h => pref_none HP.out (by omega) (step_bad HTW.out HM.out h)
        have hgood : ¬ (m = p ∨ 9 < m - p ∨ (1 < m - p ∧ ∃ h : p < s.size, s[p] = 48) ∨ (k < 2 ∧ (s.size ≤ m ∨ ∃ h : m < s.size, s[m] ≠ 46))) → stepF s k p = some (valL pre, m + 1) ∧ pre.length ≤ 9 := fun h => step_good HTW.out HM.out h
        have HBAD := Lib.hid hbad
        have HGOOD := Lib.hid hgood
        have HMS := Lib.hid hms
        have b0 : (0 : Int) ≤ (k : Int) := by omega
        have b1 : (k : Int) < 3 := by omega
        have b2 : (0 : Int) ≤ (p : Int) := by omega
        have b4 : ((p : Int)).toNat = p := by omega
        have b5 : ((m : Int)).toNat = m := by omega
        have b6 : (p : Int) ≤ (m : Int) := by omega
        clear ht hmp hx hms hbad hgood HT
        by_cases hmp : m = p
        · have d0 : ((m : Int) == (p : Int)) = true := by simp only [beq_iff_eq]; omega
          have HPM := Lib.hid hmp
          clear hmp
          have hnone := HBAD.out (.inl HPM.out)
          have hN : numsF s = [0, 0, 0] := by unfold numsF; rw [hnone]
          have hP : plainB s = false := by unfold plainB; rw [hnone]
          have HN := Lib.hid hN
          have HPL := Lib.hid hP
          clear hnone hN hP HBAD HGOOD
          go_wp2_with (refine ev_store rfl 117 _ _ rfl g _ _ rfl rfl 117 HB2.out tsz117 (by rw [nC_size, List.length_set]; exact c3) rfl ?_; intro w9 hB9 hg9 hz9; have B9 := Lib.hid (below_grown HW2.out hg9 HW2.out.size hg); have HB9 : Hid (Blk w9 g 117 #[.int .i64 0, .int .i64 0, .int .i64 0]) := hB9; clear hB9 hg9 hz9)
          have rl0 : (loadVar 117 ⟨g, 0, none⟩).run Try.prog w9 = .ok (.agg #[.int .i64 0, .int .i64 0, .int .i64 0]) w9 := load_mid (P := Try.prog) _ 117 g 0 117 _ HB9.out 3 (by simp) _ Try.underlying117 rfl tsz117
          refine bodyPost_ret (v := .tuple #[.agg #[.int .i64 0, .int .i64 0, .int .i64 0], .bool false]) (results2 Try.results69 ⟨_, rfl, rl0⟩ rfl) rfl ?_
          exact ⟨by rw [HN.out, HPL.out]; rfl, B9.out⟩
        · have d0 : ((m : Int) == (p : Int)) = false := by simp only [beq_eq_false_iff_ne, ne_eq]; omega
          obtain ⟨hps, hms⟩ := HMS.out (by omega)
          have hpm2 : p < m := by omega
          clear hmp
          by_cases h9 : 9 < m - p
          · have d9 : (9 : Int) < (m : Int) - (p : Int) := by omega
            have hnone := HBAD.out (.inr (.inl h9))
            have hN : numsF s = [0, 0, 0] := by unfold numsF; rw [hnone]
            have hP : plainB s = false := by unfold plainB; rw [hnone]
            have HN := Lib.hid hN
            have HPL := Lib.hid hP
            clear hnone hN hP HBAD HGOOD
            go_wp2_with (refine ev_store rfl 117 _ _ rfl g _ _ rfl rfl 117 HB2.out tsz117 (by rw [nC_size, List.length_set]; exact c3) rfl ?_; intro w9 hB9 hg9 hz9; have B9 := Lib.hid (below_grown HW2.out hg9 HW2.out.size hg); have HB9 : Hid (Blk w9 g 117 #[.int .i64 0, .int .i64 0, .int .i64 0]) := hB9; clear hB9 hg9 hz9)
            have rl0 : (loadVar 117 ⟨g, 0, none⟩).run Try.prog w9 = .ok (.agg #[.int .i64 0, .int .i64 0, .int .i64 0]) w9 := load_mid (P := Try.prog) _ 117 g 0 117 _ HB9.out 3 (by simp) _ Try.underlying117 rfl tsz117
            refine bodyPost_ret (v := .tuple #[.agg #[.int .i64 0, .int .i64 0, .int .i64 0], .bool false]) (results2 Try.results69 ⟨_, rfl, rl0⟩ rfl) rfl ?_
            exact ⟨by rw [HN.out, HPL.out]; rfl, B9.out⟩
          have d9 : (m : Int) - (p : Int) ≤ 9 := by omega
          by_cases hz : 1 < m - p ∧ s[p].toNat = 48
          · obtain ⟨h1, h48⟩ := hz
            have d1 : (1 : Int) < (m : Int) - (p : Int) := by omega
            have d48 : ((s[p].toNat : Int) == 48) = true := by simp only [beq_iff_eq]; omega
            have H48 : Hid (s[p].toNat = 48) := h48
            clear h48
            have hnone := HBAD.out (.inr (.inr (.inl ⟨h1, hps, UInt8.toNat_inj.1 H48.out⟩)))
            have hN : numsF s = [0, 0, 0] := by unfold numsF; rw [hnone]
            have hP : plainB s = false := by unfold plainB; rw [hnone]
            have HN := Lib.hid hN
            have HPL := Lib.hid hP
            clear hnone hN hP HBAD HGOOD
            go_wp2_with (refine ev_store rfl 117 _ _ rfl g _ _ rfl rfl 117 HB2.out tsz117 (by rw [nC_size, List.length_set]; exact c3) rfl ?_; intro w9 hB9 hg9 hz9; have B9 := Lib.hid (below_grown HW2.out hg9 HW2.out.size hg); have HB9 : Hid (Blk w9 g 117 #[.int .i64 0, .int .i64 0, .int .i64 0]) := hB9; clear hB9 hg9 hz9)
            have rl0 : (loadVar 117 ⟨g, 0, none⟩).run Try.prog w9 = .ok (.agg #[.int .i64 0, .int .i64 0, .int .i64 0]) w9 := load_mid (P := Try.prog) _ 117 g 0 117 _ HB9.out 3 (by simp) _ Try.underlying117 rfl tsz117
            refine bodyPost_ret (v := .tuple #[.agg #[.int .i64 0, .int .i64 0, .int .i64 0], .bool false]) (results2 Try.results69 ⟨_, rfl, rl0⟩ rfl) rfl ?_
            exact ⟨by rw [HN.out, HPL.out]; rfl, B9.out⟩
          have HZ := Lib.hid hz
          clear hz
          by_cases h1 : 1 < m - p
          · have d1 : (1 : Int) < (m : Int) - (p : Int) := by omega
            have n48 : ¬ s[p].toNat = 48 := fun h => HZ.out ⟨h1, h⟩
            have d48 : ((s[p].toNat : Int) == 48) = false := by simp only [beq_eq_false_iff_ne, ne_eq]; omega
            by_cases hk2 : k < 2
            · by_cases hlt : m < s.size
              · by_cases h46 : s[m].toNat = 46
                · have d46 : ((s[m].toNat : Int) == 46) = true := by simp only [beq_iff_eq]; omega
                  have d46' : ((s[m].toNat : Int) != 46) = false := by simp; omega
                  obtain ⟨hstep, h9⟩ := HGOOD.out (by
                    rintro (h | h | ⟨h1, h2, h3⟩ | ⟨h1, h2 | ⟨h2, h3⟩⟩)
                    · omega
                    · omega
                    · have : s[p].toNat = 48 := by rw [h3]; rfl
                      omega
                    · omega
                    · exact absurd (UInt8.toNat_inj.1 (show s[m].toNat = 46 by omega)) h3)
                  have hx := HX.out h9
                  have hpn : pref s (k + 1) = some (l ++ [valL pre], m + 1) := by simp only [pref, HP.out, hstep]
                  have HPN := Lib.hid hpn
                  have HXX := Lib.hid hx
                  clear hstep h9 hx hpn HBAD HGOOD HX HTW HM
                  go_wp2_with fail
                  refine ⟨⟨k + 1, m + 1, l ++ [valL pre], by omega, by omega, by simp; omega, by go_num, by go_num, HPN, ?_, HW2⟩, ?_⟩
                  · have h1 := HB2.out
                    rw [HXX.out, ← hlen, clF_set (by omega)] at h1
                    exact h1
                  · simp [intOf]; omega
                · have d46 : ((s[m].toNat : Int) == 46) = false := by simp only [beq_eq_false_iff_ne, ne_eq]; omega
                  have d46' : ((s[m].toNat : Int) != 46) = true := by simp; omega
                  have N46 : Hid (s[m] ≠ 46) := fun e => h46 (by rw [e]; rfl)
                  clear h46
                  have hnone := HBAD.out (.inr (.inr (.inr ⟨hk2, .inr ⟨hlt, N46.out⟩⟩)))
                  have hN : numsF s = [0, 0, 0] := by unfold numsF; rw [hnone]
                  have hP : plainB s = false := by unfold plainB; rw [hnone]
                  have HN := Lib.hid hN
                  have HPL := Lib.hid hP
                  clear hnone hN hP HBAD HGOOD
                  go_wp2_with (refine ev_store rfl 117 _ _ rfl g _ _ rfl rfl 117 HB2.out tsz117 (by rw [nC_size, List.length_set]; exact c3) rfl ?_; intro w9 hB9 hg9 hz9; have B9 := Lib.hid (below_grown HW2.out hg9 HW2.out.size hg); have HB9 : Hid (Blk w9 g 117 #[.int .i64 0, .int .i64 0, .int .i64 0]) := hB9; clear hB9 hg9 hz9)
                  have rl0 : (loadVar 117 ⟨g, 0, none⟩).run Try.prog w9 = .ok (.agg #[.int .i64 0, .int .i64 0, .int .i64 0]) w9 := load_mid (P := Try.prog) _ 117 g 0 117 _ HB9.out 3 (by simp) _ Try.underlying117 rfl tsz117
                  refine bodyPost_ret (v := .tuple #[.agg #[.int .i64 0, .int .i64 0, .int .i64 0], .bool false]) (results2 Try.results69 ⟨_, rfl, rl0⟩ rfl) rfl ?_
                  exact ⟨by rw [HN.out, HPL.out]; rfl, B9.out⟩
              · have d5 : s.size ≤ m := by omega
                have hnone := HBAD.out (.inr (.inr (.inr ⟨hk2, .inl d5⟩)))
                have hN : numsF s = [0, 0, 0] := by unfold numsF; rw [hnone]
                have hP : plainB s = false := by unfold plainB; rw [hnone]
                have HN := Lib.hid hN
                have HPL := Lib.hid hP
                clear hnone hN hP HBAD HGOOD
                go_wp2_with (refine ev_store rfl 117 _ _ rfl g _ _ rfl rfl 117 HB2.out tsz117 (by rw [nC_size, List.length_set]; exact c3) rfl ?_; intro w9 hB9 hg9 hz9; have B9 := Lib.hid (below_grown HW2.out hg9 HW2.out.size hg); have HB9 : Hid (Blk w9 g 117 #[.int .i64 0, .int .i64 0, .int .i64 0]) := hB9; clear hB9 hg9 hz9)
                have rl0 : (loadVar 117 ⟨g, 0, none⟩).run Try.prog w9 = .ok (.agg #[.int .i64 0, .int .i64 0, .int .i64 0]) w9 := load_mid (P := Try.prog) _ 117 g 0 117 _ HB9.out 3 (by simp) _ Try.underlying117 rfl tsz117
                refine bodyPost_ret (v := .tuple #[.agg #[.int .i64 0, .int .i64 0, .int .i64 0], .bool false]) (results2 Try.results69 ⟨_, rfl, rl0⟩ rfl) rfl ?_
                exact ⟨by rw [HN.out, HPL.out]; rfl, B9.out⟩
            · have d2 : (2 : Int) ≤ (k : Int) := by omega
              obtain ⟨hstep, h9⟩ := HGOOD.out (by
                rintro (h | h | ⟨h1, h2, h3⟩ | ⟨h1, h2 | ⟨h2, h3⟩⟩)
                · omega
                · omega
                · have : s[p].toNat = 48 := by rw [h3]; rfl
                  omega
                · omega
                · exact absurd (UInt8.toNat_inj.1 (show s[m].toNat = 46 by omega)) h3)
              have hx := HX.out h9
              have hpn : pref s (k + 1) = some (l ++ [valL pre], m + 1) := by simp only [pref, HP.out, hstep]
              have HPN := Lib.hid hpn
              have HXX := Lib.hid hx
              clear hstep h9 hx hpn HBAD HGOOD HX HTW HM
              go_wp2_with fail
              refine ⟨⟨k + 1, m + 1, l ++ [valL pre], by omega, by omega, by simp; omega, by go_num, by go_num, HPN, ?_, HW2⟩, ?_⟩
              · have h1 := HB2.out
                rw [HXX.out, ← hlen, clF_set (by omega)] at h1
                exact h1
              · simp [intOf]; omega
          · have d1 : (m : Int) - (p : Int) ≤ 1 := by omega
            by_cases hk2 : k < 2
            · by_cases hlt : m < s.size
              · by_cases h46 : s[m].toNat = 46
                · have d46 : ((s[m].toNat : Int) == 46) = true := by simp only [beq_iff_eq]; omega
                  have d46' : ((s[m].toNat : Int) != 46) = false := by simp; omega
                  obtain ⟨hstep, h9⟩ := HGOOD.out (by
                    rintro (h | h | ⟨h1, h2, h3⟩ | ⟨h1, h2 | ⟨h2, h3⟩⟩)
                    · omega
                    · omega
                    · have : s[p].toNat = 48 := by rw [h3]; rfl
                      omega
                    · omega
                    · exact absurd (UInt8.toNat_inj.1 (show s[m].toNat = 46 by omega)) h3)
                  have hx := HX.out h9
                  have hpn : pref s (k + 1) = some (l ++ [valL pre], m + 1) := by simp only [pref, HP.out, hstep]
                  have HPN := Lib.hid hpn
                  have HXX := Lib.hid hx
                  clear hstep h9 hx hpn HBAD HGOOD HX HTW HM
                  go_wp2_with fail
                  refine ⟨⟨k + 1, m + 1, l ++ [valL pre], by omega, by omega, by simp; omega, by go_num, by go_num, HPN, ?_, HW2⟩, ?_⟩
                  · have h1 := HB2.out
                    rw [HXX.out, ← hlen, clF_set (by omega)] at h1
                    exact h1
                  · simp [intOf]; omega
                · have d46 : ((s[m].toNat : Int) == 46) = false := by simp only [beq_eq_false_iff_ne, ne_eq]; omega
                  have d46' : ((s[m].toNat : Int) != 46) = true := by simp; omega
                  have N46 : Hid (s[m] ≠ 46) := fun e => h46 (by rw [e]; rfl)
                  clear h46
                  have hnone := HBAD.out (.inr (.inr (.inr ⟨hk2, .inr ⟨hlt, N46.out⟩⟩)))
                  have hN : numsF s = [0, 0, 0] := by unfold numsF; rw [hnone]
                  have hP : plainB s = false := by unfold plainB; rw [hnone]
                  have HN := Lib.hid hN
                  have HPL := Lib.hid hP
                  clear hnone hN hP HBAD HGOOD
                  go_wp2_with (refine ev_store rfl 117 _ _ rfl g _ _ rfl rfl 117 HB2.out tsz117 (by rw [nC_size, List.length_set]; exact c3) rfl ?_; intro w9 hB9 hg9 hz9; have B9 := Lib.hid (below_grown HW2.out hg9 HW2.out.size hg); have HB9 : Hid (Blk w9 g 117 #[.int .i64 0, .int .i64 0, .int .i64 0]) := hB9; clear hB9 hg9 hz9)
                  have rl0 : (loadVar 117 ⟨g, 0, none⟩).run Try.prog w9 = .ok (.agg #[.int .i64 0, .int .i64 0, .int .i64 0]) w9 := load_mid (P := Try.prog) _ 117 g 0 117 _ HB9.out 3 (by simp) _ Try.underlying117 rfl tsz117
                  refine bodyPost_ret (v := .tuple #[.agg #[.int .i64 0, .int .i64 0, .int .i64 0], .bool false]) (results2 Try.results69 ⟨_, rfl, rl0⟩ rfl) rfl ?_
                  exact ⟨by rw [HN.out, HPL.out]; rfl, B9.out⟩
              · have d5 : s.size ≤ m := by omega
                have hnone := HBAD.out (.inr (.inr (.inr ⟨hk2, .inl d5⟩)))
                have hN : numsF s = [0, 0, 0] := by unfold numsF; rw [hnone]
                have hP : plainB s = false := by unfold plainB; rw [hnone]
                have HN := Lib.hid hN
                have HPL := Lib.hid hP
                clear hnone hN hP HBAD HGOOD
                go_wp2_with (refine ev_store rfl 117 _ _ rfl g _ _ rfl rfl 117 HB2.out tsz117 (by rw [nC_size, List.length_set]; exact c3) rfl ?_; intro w9 hB9 hg9 hz9; have B9 := Lib.hid (below_grown HW2.out hg9 HW2.out.size hg); have HB9 : Hid (Blk w9 g 117 #[.int .i64 0, .int .i64 0, .int .i64 0]) := hB9; clear hB9 hg9 hz9)
                have rl0 : (loadVar 117 ⟨g, 0, none⟩).run Try.prog w9 = .ok (.agg #[.int .i64 0, .int .i64 0, .int .i64 0]) w9 := load_mid (P := Try.prog) _ 117 g 0 117 _ HB9.out 3 (by simp) _ Try.underlying117 rfl tsz117
                refine bodyPost_ret (v := .tuple #[.agg #[.int .i64 0, .int .i64 0, .int .i64 0], .bool false]) (results2 Try.results69 ⟨_, rfl, rl0⟩ rfl) rfl ?_
                exact ⟨by rw [HN.out, HPL.out]; rfl, B9.out⟩
            · have d2 : (2 : Int) ≤ (k : Int) := by omega
              obtain ⟨hstep, h9⟩ := HGOOD.out (by
                rintro (h | h | ⟨h1, h2, h3⟩ | ⟨h1, h2 | ⟨h2, h3⟩⟩)
                · omega
                · omega
                · have : s[p].toNat = 48 := by rw [h3]; rfl
                  omega
                · omega
                · exact absurd (UInt8.toNat_inj.1 (show s[m].toNat = 46 by omega)) h3)
              have hx := HX.out h9
              have hpn : pref s (k + 1) = some (l ++ [valL pre], m + 1) := by simp only [pref, HP.out, hstep]
              have HPN := Lib.hid hpn
              have HXX := Lib.hid hx
              clear hstep h9 hx hpn HBAD HGOOD HX HTW HM
              go_wp2_with fail
              refine ⟨⟨k + 1, m + 1, l ++ [valL pre], by omega, by omega, by simp; omega, by go_num, by go_num, HPN, ?_, HW2⟩, ?_⟩
              · have h1 := HB2.out
                rw [HXX.out, ← hlen, clF_set (by omega)] at h1
                exact h1
              · simp [intOf]; omega
    · obtain rfl : k = 3 := by omega
      have hN : numsF s = l := by unfold numsF; rw [HP.out]
      have hpl : plainB s = decide (p = s.size + 1) := by unfold plainB; rw [HP.out]
      have hcl : clF l = l.map fun n : Nat => (n : Int) := by unfold clF; rw [hlen]; simp
      rw [hcl] at HB
      have c3 : (l.map fun n : Nat => (n : Int)).length = 3 := by simp [hlen]
      have HN := Lib.hid hN
      have HPL := Lib.hid hpl
      clear hN hpl hcl hk3 HP
      obtain ⟨x0, x1, x2, hl3⟩ : ∃ x0 x1 x2, (l.map fun n : Nat => (n : Int)) = [x0, x1, x2] := by
        rcases hq : (l.map fun n : Nat => (n : Int)) with _ | ⟨x0, _ | ⟨x1, _ | ⟨x2, _ | ⟨x3, r⟩⟩⟩⟩ <;> rw [hq] at c3 <;> simp at c3
        exact ⟨x0, x1, x2, rfl⟩
      rw [hl3] at HB
      have HL3 := Lib.hid hl3
      have HB9 : Hid (Blk wr g 117 #[.int .i64 x0, .int .i64 x1, .int .i64 x2]) := HB
      clear HB c3 hl3
      by_cases he : p = s.size + 1
      · have d0 : ((p : Int) == (s.size : Int) + 1) = true := by simp only [beq_iff_eq]; omega
        have HE := Lib.hid he
        clear he
        go_wp2_with (first
          | ((with_reducible refine at_dst (N := 82) rfl ?_); refine ev_loadB rfl 117 _ rfl g rfl 117 _ HB9.out _ Try.underlying117 rfl tsz117 ?_)
          | (refine ev_store rfl 117 _ _ rfl g _ _ rfl rfl 117 HB9.out tsz117 rfl rfl ?_; intro w9 hB8 hg9 hz9; have B9 := Lib.hid (below_grown HW.out hg9 HW.out.size hg); have HB8 : Hid (Blk w9 g 117 #[.int .i64 x0, .int .i64 x1, .int .i64 x2]) := hB8; clear hB8 hg9 hz9))
        have rl0 : (loadVar 117 ⟨g, 0, none⟩).run Try.prog w9 = .ok (.agg #[.int .i64 x0, .int .i64 x1, .int .i64 x2]) w9 := load_mid (P := Try.prog) _ 117 g 0 117 _ HB8.out 3 (by simp) _ Try.underlying117 rfl tsz117
        refine bodyPost_ret (v := .tuple #[.agg #[.int .i64 x0, .int .i64 x1, .int .i64 x2], .bool true]) (results2 Try.results69 ⟨_, rfl, rl0⟩ rfl) rfl ?_
        refine ⟨?_, B9.out⟩
        rw [HN.out, HL3.out, HPL.out]
        simp [HE.out, nC]
      · have d0 : ((p : Int) == (s.size : Int) + 1) = false := by simp only [beq_eq_false_iff_ne, ne_eq]; omega
        have HE := Lib.hid he
        clear he
        go_wp2_with (first
          | ((with_reducible refine at_dst (N := 82) rfl ?_); refine ev_loadB rfl 117 _ rfl g rfl 117 _ HB9.out _ Try.underlying117 rfl tsz117 ?_)
          | (refine ev_store rfl 117 _ _ rfl g _ _ rfl rfl 117 HB9.out tsz117 rfl rfl ?_; intro w9 hB8 hg9 hz9; have B9 := Lib.hid (below_grown HW.out hg9 HW.out.size hg); have HB8 : Hid (Blk w9 g 117 #[.int .i64 x0, .int .i64 x1, .int .i64 x2]) := hB8; clear hB8 hg9 hz9))
        have rl0 : (loadVar 117 ⟨g, 0, none⟩).run Try.prog w9 = .ok (.agg #[.int .i64 x0, .int .i64 x1, .int .i64 x2]) w9 := load_mid (P := Try.prog) _ 117 g 0 117 _ HB8.out 3 (by simp) _ Try.underlying117 rfl tsz117
        refine bodyPost_ret (v := .tuple #[.agg #[.int .i64 x0, .int .i64 x1, .int .i64 x2], .bool false]) (results2 Try.results69 ⟨_, rfl, rl0⟩ rfl) rfl ?_
        refine ⟨?_, B9.out⟩
        rw [HN.out, HL3.out, HPL.out]
        simp [HE.out, nC]
end Go.Proofs.Ytdgblfldbikneaa
