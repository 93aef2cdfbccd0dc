/- Contract: semver.NewVersion of a plain version. -/
import Derived.Test.YtdgblfldbikneaaV1
namespace Go.Proofs.Ytdgblfldbikneaa
open Go.RowKit Go.Lib
set_option linter.unusedVariables false
set_option linter.unusedSimpArgs false

/-- A version's cells. -/
def vC (l : List Int) (s : ByteArray) : Array Value := (l.map (Value.int .i64) ++ [Value.string s]).toArray
theorem vC_get {l : List Int} {s : ByteArray} {k : Nat} (h : k < l.length) : (vC l s)[k]? = some (.int .i64 l[k]) := by
  simp [vC, List.getElem?_append_left, h]
theorem vC_set {l : List Int} {s : ByteArray} {k : Nat} (h : k < l.length) (x : Int) : (vC l s).setIfInBounds k (.int .i64 x) = vC (l.set k x) s := by
  simp [vC, List.map_set, List.set_append_left, h]
theorem tw_get {s : ByteArray} {p j : Nat} (h : j < (tw s p).length) : ∃ h2 : p + j < s.size, (tw s p)[j] = s[p + j] ∧ digB s[p + j] = true := by
  have h1 := tw_drop s p
  have hlen : j < (s.data.toList.drop p).length := by rw [h1, List.length_append]; omega
  have h2 : p + j < s.size := by simp at hlen; omega
  refine ⟨h2, ?_⟩
  have e : (s.data.toList.drop p)[j]? = some (tw s p)[j] := by rw [h1, List.getElem?_append_left h]; exact List.getElem?_eq_getElem h
  rw [List.getElem?_drop] at e
  obtain ⟨h3, h4⟩ := List.getElem?_eq_some_iff.1 e
  have h5 : (tw s p)[j] = s[p + j] := h4.symm
  exact ⟨h5, by rw [← h5]; exact tw_all _ (List.getElem_mem h)⟩
theorem tw_next {s : ByteArray} {p : Nat} (h : p + (tw s p).length < s.size) : digB s[p + (tw s p).length] = false := by
  cases hd : digB s[p + (tw s p).length] with
  | false => rfl
  | true =>
    exfalso
    have hp : p ≤ s.size := by omega
    have h1 := tw_drop s p
    have hl : p + (tw s p).length < s.data.toList.length := by simpa using h
    rw [List.drop_eq_getElem_cons hl] at h1
    have h2 : (s.data.toList.drop p).takeWhile digB = tw s p := rfl
    rw [h1, List.takeWhile_append_of_pos tw_all] at h2
    have e : s.data.toList[p + (tw s p).length] = s[p + (tw s p).length] := rfl
    rw [List.takeWhile_cons, e, hd] at h2
    have := congrArg List.length h2
    simp at this
theorem take_val {l : List UInt8} {j : Nat} (h : j < l.length) : valL (l.take (j + 1)) = 10 * valL (l.take j) + (l[j].toNat - 48) := by
  rw [List.take_succ_eq_append_getElem h, valL_snoc]
/-- The numbers of a plain version, one by one. -/
theorem plain_steps {s : ByteArray} (h : plainB s = true) {k p : Nat} {l : List Nat} (hp : pref s k = some (l, p)) (hk : k < 3) :
    stepF s k p = some (valL (tw s p), p + (tw s p).length + 1) ∧ pref s (k + 1) = some (l ++ [valL (tw s p)], p + (tw s p).length + 1) ∧ 0 < (tw s p).length ∧ (tw s p).length ≤ 9 ∧ (1 < (tw s p).length → ∃ h : p < s.size, s[p] ≠ 48) ∧
    (k < 2 → ∃ h : p + (tw s p).length < s.size, s[p + (tw s p).length] = 46) ∧ (k = 2 → p + (tw s p).length = s.size) := by
  cases hs : stepF s k p with
  | none =>
    have := pref_none hp hk hs
    unfold plainB at h
    rw [this] at h
    cases h
  | some y =>
    obtain ⟨v, e⟩ := y
    obtain ⟨a1, a2, a3, a4, a5, a6⟩ := stepF_some hs
    subst a1; subst a2
    have hpn : pref s (k + 1) = some (l ++ [valL (tw s p)], p + (tw s p).length + 1) := by simp only [pref, hp, hs]
    have hpos : 0 < (tw s p).length := List.length_pos_iff.2 a3
    refine ⟨rfl, hpn, hpos, a4, fun h1 => ?_, fun h2 => ?_, fun h2 => ?_⟩
    · obtain ⟨h3, h4⟩ := get48 (s := s) (p := p) rfl a3
      exact ⟨h3, fun e => a5 h1 (by rw [h4, e])⟩
    · obtain ⟨h3, h4⟩ := List.getElem?_eq_some_iff.1 (a6 h2)
      exact ⟨by simpa using h3, h4⟩
    · subst h2
      unfold plainB at h
      rw [hpn] at h
      simp only [decide_eq_true_eq] at h
      omega

set_option maxRecDepth 100000 in
set_option maxHeartbeats 8000000 in
theorem newVer_plain (s : ByteArray) (w : World) (hs : s.size ≤ 1000000) (hp : plainB s = true) :
    Calls Try.prog 139 #[.string s] w fun e w' => ∃ g, e = .returned (.tuple #[.pointer (some ⟨g, 0, none⟩), .nilIface]) ∧ w.heap.size ≤ g ∧ Blk w' g 228 (vC ((numsF s).map fun n : Nat => (n : Int)) s) ∧ Below w.heap.size w w' := by
  have hchars : ∀ j, ∀ h : j < s.size, digB s[j] = true ∨ s[j] = 46 := by
    obtain ⟨p, q, r, e, _, a⟩ := pref_text hp
    intro j h
    have hm : s[j] ∈ s.data.toList := List.getElem_mem (by simpa using h)
    rw [e] at hm
    simp only [List.mem_append, List.mem_cons] at hm
    rcases hm with hm | hm | hm | hm | hm
    · exact .inl ((a p (by simp)).2.2.1 _ hm)
    · exact .inr hm
    · exact .inl ((a q (by simp)).2.2.1 _ hm)
    · exact .inr hm
    · exact .inl ((a r (by simp)).2.2.1 _ hm)
  obtain ⟨hpos, hfirst⟩ : ∃ h : 0 < s.size, digB s[0] = true := by
    have h1 := (plain_steps hp (k := 0) (p := 0) (l := []) rfl (by omega)).2.2.1
    obtain ⟨h2, _, h3⟩ := tw_get h1
    exact ⟨by omega, by simpa using h3⟩
  have HC := Lib.hid hchars
  have HP := Lib.hid hp
  have f1 : (48 : Int) ≤ (s[0].toNat : Int) := by simp only [digB, decide_eq_true_eq] at hfirst; omega
  have f2 : (s[0].toNat : Int) ≤ 57 := by simp only [digB, decide_eq_true_eq] at hfirst; omega
  have f3 : ((s[0].toNat : Int) != 118) = true := by simp; omega
  have e0 : ¬ s.toList = [] := by
    rw [ByteArray.toList_eq]
    intro e
    have h3 : s.data.toList.length = 0 := by rw [e]; rfl
    rw [Array.length_toList] at h3
    have h4 : s.size = 0 := h3
    omega
  have e1 : s.toList.isEmpty = false := by simp [e0]
  clear hchars hp hfirst
  go_enter Try.func139, Try.ntmps139
  go_upto_block 0 with fail
  go_cut [4] (fun _ wx => wx = w)
  case first =>
    clear f1 f2 f3 e0 e1
    go_wp2_with fail
    go_loop [4] (fun i => ∃ k : Nat, k ≤ s.size ∧ i = .int .i64 k) (fun i => s.size - (intOf i).toNat)
    case atStart => exact ⟨0, Nat.zero_le _, rfl⟩
    case round =>
      obtain ⟨k, hk, rfl⟩ := hrel
      by_cases hlt : k < s.size
      · rcases HC.out k hlt with hd | hd
        · have d1 : (48 : Int) ≤ (s[k].toNat : Int) := by simp only [digB, decide_eq_true_eq] at hd; omega
          have d2 : (s[k].toNat : Int) ≤ 57 := by simp only [digB, decide_eq_true_eq] at hd; omega
          clear hd
          go_wp2_with fail
          go_round
          case rel => exact ⟨k + 1, by omega, by go_num⟩
          case measure => simp [intOf]; omega
        · have d1 : s[k].toNat = 46 := by rw [hd]; rfl
          have d2 : (s[k].toNat : Int) < 48 := by omega
          have d3 : (s[k].toNat : Int) < 97 := by omega
          have d4 : (s[k].toNat : Int) < 65 := by omega
          have d5 : ((s[k].toNat : Int) == 46) = true := by simp only [beq_iff_eq]; omega
          clear hd d1
          go_wp2_with fail
          go_round
          case rel => exact ⟨k + 1, by omega, by go_num⟩
          case measure => simp [intOf]; omega
      · go_wp2_with fail
        go_meet
        rfl
  case rest =>
    obtain rfl : w = wc := hcut.symm
    go_upto_block 2 with ((with_reducible refine at_dst (N := 75) rfl ?_); refine ev_box rfl 228 _ rfl _ rfl ?_; intro g w1 hg hB hb; have HB1 : Hid (Blk w1 g 228 (vC (clF []) s)) := hB; have B1 := Lib.hid hb; clear hB hb)
    clear f1 f2 f3 e0 e1
    go_wp2_with fail
    go_loopw [7, 8, 9] (fun at_ i _ wr => ∃ k p : Nat, ∃ l : List Nat, k ≤ 3 ∧ p ≤ s.size + 1 ∧ l.length = k ∧ i = .int .i64 k ∧ at_ = .int .i64 p ∧ Hid (pref s k = some (l, p)) ∧ Hid (Blk wr g 228 (vC (clF l) s)) ∧ Hid (Below w.heap.size w wr)) (fun _ i _ _ => 3 - (intOf i).toNat)
    case atStart => exact ⟨0, 0, [], by omega, by omega, rfl, rfl, rfl, rfl, HB1, B1⟩
    case round =>
      clear HB1 B1
      obtain ⟨k, p, l, hk, hp, hlen, rfl, rfl, HPR, HB, HW⟩ := hrel
      by_cases hk3 : k < 3
      · obtain ⟨st1, st2, st3, st4, st5, st6, st7⟩ := plain_steps HP.out HPR.out hk3
        have HN := Lib.hid st2
        have H5 := Lib.hid st5
        have H6 := Lib.hid st6
        have H7 := Lib.hid st7
        have hple : p ≤ s.size := by
          obtain ⟨h2, _⟩ := tw_get st3
          omega
        have hend := tw_le s p hple
        clear st1 st2 st5 st6 st7
        obtain ⟨n, hn⟩ : ∃ n, n = (tw s p).length := ⟨_, rfl⟩
        have HNN := Lib.hid hn
        rw [← hn] at st3 st4 hend
        clear hn
        have dk : decide ((k : Int) < 3) = true := by simp; omega
        go_upto_block 4 with fail
        clear dk
        obtain ⟨wo, rfl⟩ : ∃ wo : World, wo = wr := ⟨_, rfl⟩
        go_cut [7] (fun at_ wx => at_ = .int .i64 (p + n : Nat) ∧ Hid (Blk wx g 228 (vC ((clF l).set k (valL (tw s p) : Int)) s)) ∧ Hid (Below w.heap.size w wx))
        case first =>
          go_wp2_with fail
          go_loopw [7] (fun at_ wr => ∃ j : Nat, j ≤ n ∧ at_ = .int .i64 (p + j : Nat) ∧ Hid (Blk wr g 228 (vC ((clF l).set k (valL ((tw s p).take j) : Int)) s)) ∧ Hid (Below w.heap.size w wr)) (fun at_ _ => p + n - (intOf at_).toNat)
          case atStart =>
            refine ⟨0, by omega, by simp, ?_, HW⟩
            have e : (clF l).set k 0 = clF l := by
              have h3 := clF_len (l := l) (by omega)
              have hz := clF_zero (l := l) (by omega) (by omega)
              subst hlen
              rw [← hz]
              exact List.set_getElem_self _
            show Blk _ _ _ _
            rw [List.take_zero, show ((valL [] : Nat) : Int) = 0 from rfl, e]
            exact HB
          case round =>
            obtain ⟨j, hj, rfl, HB2, HW2⟩ := hrel
            have c3 := clF_len (l := l) (by omega)
            have hfr := HB2.out.frozen k
            by_cases hlt : j < n
            · obtain ⟨h2, hge, hd⟩ := tw_get (s := s) (p := p) (j := j) (by have := HNN.out; omega)
              obtain ⟨x, hx⟩ : ∃ x : Nat, x = valL ((tw s p).take j) := ⟨_, rfl⟩
              have hx1 : x < 1000000000 := by
                have h1 := valL_le ((tw s p).take j) (fun c hc => tw_all c (List.mem_of_mem_take hc))
                have h3 := pow_le9 (n := ((tw s p).take j).length) (by rw [List.length_take]; omega)
                omega
              have hcell : wr.cell? ⟨g, k, none⟩ = some (.int .i64 (x : Int)) := by
                rw [HB2.out.cell, vC_get (by rw [List.length_set]; omega)]
                simp [hx]
              have hval : valL ((tw s p).take (j + 1)) = 10 * x + (s[p + j].toNat - 48) := by
                rw [take_val (by have := HNN.out; omega), hx, hge]
              have HV := Lib.hid hval
              have d1 : (48 : Int) ≤ (s[p + j].toNat : Int) := by simp only [digB, decide_eq_true_eq] at hd; omega
              have d2 : (s[p + j].toNat : Int) ≤ 57 := by simp only [digB, decide_eq_true_eq] at hd; omega
              have b0 : (0 : Int) ≤ (k : Int) := by omega
              have b1 : (k : Int) < 3 := by omega
              have b3 : ((k : Int)).toNat = k := by omega
              have b4 : ((p : Int) + (j : Int)).toNat = p + j := by omega
              clear hd hval hx hge
              go_upto_region 16 with fail
              go_region
              go_wp2_with fail
              refine ⟨⟨j + 1, by omega, by go_num, ?_, (below_set HW2.out hg k _).drew⟩, by simp [intOf]; omega⟩
              have h1 := HB2.out.set_ k (.int .i64 ((x : Int) * 10 + ((s[p + j].toNat : Int) - 48)))
              rw [vC_set (by rw [List.length_set]; omega), List.set_set] at h1
              have e : ((valL ((tw s p).take (j + 1)) : Nat) : Int) = (x : Int) * 10 + ((s[p + j].toNat : Int) - 48) := by rw [HV.out]; omega
              rw [e]
              exact h1
            · obtain rfl : j = n := by omega
              have HB3 : Hid (Blk wr g 228 (vC ((clF l).set k (valL (tw s p) : Int)) s)) := by
                have h1 := HB2.out
                rw [List.take_of_length_le (by have := HNN.out; omega)] at h1
                exact h1
              by_cases hin : p + j < s.size
              · have hd := tw_next (s := s) (p := p) (by have := HNN.out; omega)
                have hrng : (s[p + j].toNat : Int) < 48 ∨ 57 < (s[p + j].toNat : Int) := by
                  have hn := HNN.out
                  subst hn
                  simp only [digB, decide_eq_false_iff_not] at hd
                  omega
                have b4 : ((p : Int) + (j : Int)).toNat = p + j := by omega
                clear hd
                rcases hrng with hr | hr
                all_goals
                  go_wp2_with fail
                  go_meet
                  exact ⟨rfl, HB3, HW2⟩
              · go_wp2_with fail
                go_meet
                exact ⟨rfl, HB3, HW2⟩
        case rest =>
          obtain ⟨rfl, HB2, HW2⟩ := hcut
          have hn0 : ((p + n : Nat) : Int) = (p : Int) + (n : Int) := by simp
          have HB3 : Hid (Blk wc g 228 (vC (clF (l ++ [valL (tw s p)])) s)) := by
            have h1 := HB2.out
            rw [← hlen, clF_set (by omega)] at h1
            exact h1
          have hlen2 : (l ++ [valL (tw s p)]).length = k + 1 := by simp [hlen]
          have HN2 : Hid (pref s (k + 1) = some (l ++ [valL (tw s p)], p + n + 1)) := by
            have h1 := HN.out
            have hn := HNN.out
            rw [← hn] at h1
            exact h1
          have hps : p < s.size := by
            obtain ⟨h2, _⟩ := tw_get (s := s) (p := p) (j := 0) (by have := HNN.out; omega)
            omega
          have t1 : ((p : Int) + (n : Int) == (p : Int)) = false := by simp only [beq_eq_false_iff_ne, ne_eq]; omega
          have hz : 1 < n → s[p].toNat ≠ 48 := fun h => by
            obtain ⟨_, h3⟩ := H5.out (by have := HNN.out; omega)
            exact fun e => h3 (UInt8.toNat_inj.1 e)
          have h46 : k < 2 → ∃ h : p + n < s.size, s[p + n].toNat = 46 := fun h => by
            have hn := HNN.out
            subst hn
            obtain ⟨h3, h4⟩ := H6.out h
            exact ⟨h3, by rw [h4]; rfl⟩
          have hk2 : k = 2 → p + n = s.size := fun h => by
            have hn := HNN.out
            subst hn
            exact H7.out h
          have HZ := Lib.hid hz
          have H46 := Lib.hid h46
          have HK2 := Lib.hid hk2
          clear HB2 hz h46 hk2 HNN H5 H6 H7 HN
          have b0 : (0 : Int) ≤ (k : Int) := by omega
          have b4 : ((p : Int) + (n : Int)).toNat = p + n := by omega
          have b5 : ((p : Int)).toNat = p := by omega
          by_cases h48 : s[p].toNat = 48
          · have hn1 : n ≤ 1 := by
              rcases Nat.lt_or_ge 1 n with h | h
              · exact absurd h48 (HZ.out h)
              · exact h
            have d48 : ((s[p].toNat : Int) == 48) = true := by simp only [beq_iff_eq]; omega
            have dn : (p : Int) + (n : Int) - (p : Int) ≤ 1 := by omega
            clear h48
            rcases (by omega : k < 2 ∨ k = 2) with hk2 | hk2
            · obtain ⟨hm, h46⟩ := H46.out hk2
              have d1 : ((s[p + n].toNat : Int) == 46) = true := by simp only [beq_iff_eq]; omega
              have d2 : ((s[p + n].toNat : Int) != 46) = false := by simp; omega
              have d3 : ((p : Int) + (n : Int) == (s.size : Int)) = false := by simp only [beq_eq_false_iff_ne, ne_eq]; omega
              have d4 : ((k : Int) == 2) = false := by simp only [beq_eq_false_iff_ne, ne_eq]; omega
              have d5 : (k : Int) < 2 := by omega
              clear h46
              go_wp2_with fail
              refine ⟨⟨k + 1, p + n + 1, l ++ [valL (tw s p)], by omega, by omega, hlen2, by go_num, by go_num, HN2, HB3, HW2⟩, by simp [intOf]; omega⟩
            · have hm := HK2.out hk2
              have d3 : (s.size : Int) ≤ (p : Int) + (n : Int) := by omega
              have d4 : ((k : Int) == 2) = true := by simp only [beq_iff_eq]; omega
              have d5 : (2 : Int) ≤ (k : Int) := by omega
              have HM := Lib.hid hm
              have HKK := Lib.hid hk2
              clear hm hk2
              go_wp2_with fail
              refine ⟨⟨k + 1, p + n + 1, l ++ [valL (tw s p)], by omega, by omega, hlen2, by go_num, by go_num, HN2, HB3, HW2⟩, by simp [intOf]; omega⟩
          · have d48 : ((s[p].toNat : Int) == 48) = false := by simp only [beq_eq_false_iff_ne, ne_eq]; omega
            clear h48
            rcases (by omega : k < 2 ∨ k = 2) with hk2 | hk2
            · obtain ⟨hm, h46⟩ := H46.out hk2
              have d1 : ((s[p + n].toNat : Int) == 46) = true := by simp only [beq_iff_eq]; omega
              have d2 : ((s[p + n].toNat : Int) != 46) = false := by simp; omega
              have d3 : ((p : Int) + (n : Int) == (s.size : Int)) = false := by simp only [beq_eq_false_iff_ne, ne_eq]; omega
              have d4 : ((k : Int) == 2) = false := by simp only [beq_eq_false_iff_ne, ne_eq]; omega
              have d5 : (k : Int) < 2 := by omega
              clear h46
              go_wp2_with fail
              refine ⟨⟨k + 1, p + n + 1, l ++ [valL (tw s p)], by omega, by omega, hlen2, by go_num, by go_num, HN2, HB3, HW2⟩, by simp [intOf]; omega⟩
            · have hm := HK2.out hk2
              have d3 : (s.size : Int) ≤ (p : Int) + (n : Int) := by omega
              have d4 : ((k : Int) == 2) = true := by simp only [beq_iff_eq]; omega
              have d5 : (2 : Int) ≤ (k : Int) := by omega
              have HM := Lib.hid hm
              have HKK := Lib.hid hk2
              clear hm hk2
              go_wp2_with fail
              refine ⟨⟨k + 1, p + n + 1, l ++ [valL (tw s p)], by omega, by omega, hlen2, by go_num, by go_num, HN2, HB3, HW2⟩, by simp [intOf]; omega⟩
      · obtain rfl : k = 3 := by omega
        have hN : numsF s = l := by unfold numsF; rw [HPR.out]
        have hcl : clF l = l.map fun n : Nat => (n : Int) := by unfold clF; rw [hlen]; simp
        rw [hcl] at HB
        have HN := Lib.hid hN
        clear hN hcl hk3 HPR
        go_wp2_with fail
        go_ret2
        exact ⟨g, rfl, hg, by rw [HN.out]; exact HB.out, HW.out⟩
end Go.Proofs.Ytdgblfldbikneaa
