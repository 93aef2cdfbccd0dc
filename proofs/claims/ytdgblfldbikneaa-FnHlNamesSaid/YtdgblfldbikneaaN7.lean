/- FnHlNames: the walk. -/
import Derived.Test.YtdgblfldbikneaaN6
namespace Go.Proofs.Ytdgblfldbikneaa
open Go.RowKit Go.Lib

theorem fits3_le {xs : List ByteArray} (h : fits3 xs = true) : ∀ k, ∀ hk : k < xs.length, xs[k].size ≤ 2147483647 := fun k hk => by
  simp only [fits3, Bool.and_eq_true, List.all_eq_true] at h
  simpa using h.2 xs[k] (List.getElem_mem hk)
theorem slice_here (ad : Addr) : ad.add 0 = ad := by simp [Addr.add]

set_option maxRecDepth 100000 in
set_option maxHeartbeats 4000000 in
theorem fnHlNames_walk (n u : ByteArray) (A : Option Addr) (c : Nat) (xs : List ByteArray) (w : World) (hn : n.size ≤ maxLen) (hu : u.size ≤ maxLen) (hx : Sl w A (strs xs)) (hcap : xs.length ≤ c) :
    Calls Try.prog 13 #[.string n, .string u, .slice A xs.length c] w fun e w' => e = .returned (.bool true) ∧ Below w.heap.size w w' := by
  have HX := Lib.hid hx
  simp only [maxLen] at hn hu
  clear hx
  by_cases h1 : 2147483647 < n.size
  · go_enter Try.func13, Try.ntmps13
    go_wp2_with fail
    go_ret
    exact ⟨rfl, Below.refl _ _⟩
  by_cases h2 : 2147483647 < u.size
  · go_enter Try.func13, Try.ntmps13
    go_wp2_with fail
    go_ret
    exact ⟨rfl, Below.refl _ _⟩
  have hn' : n.size ≤ 2147483647 := by omega
  have hu' : u.size ≤ 2147483647 := by omega
  clear h1 h2 hn hu
  cases hf : fits3 xs
  · have HF := Lib.hid hf
    clear hf
    go_enter Try.func13, Try.ntmps13
    go_wp2_with (go_at_call 18; (with_reducible refine (zzFits3_any A c xs _ HX.out).mono ?_); rintro e w' ⟨rfl, rfl⟩; rw [HF.out])
    go_ret
    exact ⟨rfl, Below.refl _ _⟩
  have hl0 : xs.length ≤ 2147483647 := by simp [fits3] at hf; omega
  have HF := Lib.hid hf
  clear hf
  by_cases h100 : 100 < u.size
  · go_enter Try.func13, Try.ntmps13
    go_wp2_with (go_at_call 18; (with_reducible refine (zzFits3_any A c xs _ HX.out).mono ?_); rintro e w' ⟨rfl, rfl⟩; rw [HF.out])
    go_ret
    exact ⟨rfl, Below.refl _ _⟩
  have u100 : u.size ≤ 100 := by omega
  clear h100
  by_cases h30 : 30 < xs.length
  · go_enter Try.func13, Try.ntmps13
    go_wp2_with (go_at_call 18; (with_reducible refine (zzFits3_any A c xs _ HX.out).mono ?_); rintro e w' ⟨rfl, rfl⟩; rw [HF.out])
    go_ret
    exact ⟨rfl, Below.refl _ _⟩
  have x30 : xs.length ≤ 30 := by omega
  clear h30
  by_cases h300 : 300 < n.size
  · go_enter Try.func13, Try.ntmps13
    go_wp2_with (go_at_call 18; (with_reducible refine (zzFits3_any A c xs _ HX.out).mono ?_); rintro e w' ⟨rfl, rfl⟩; rw [HF.out])
    go_ret
    exact ⟨rfl, Below.refl _ _⟩
  have n300 : n.size ≤ 300 := by omega
  clear h300 hl0 hn' hu'
  go_enter Try.func13, Try.ntmps13
  go_wp2_with (go_at_call 18; (with_reducible refine (zzFits3_any A c xs _ HX.out).mono ?_); rintro e w' ⟨rfl, rfl⟩; rw [HF.out])
  go_loop [7, 45] (fun t i => ∃ k : Nat, k ≤ u.size ∧ i = .int .i64 k ∧ t = .string (wantF u k) ∧ Hid (∀ j, ∀ h : j < u.size, j < k → okB whiteS u[j] = true)) (fun _ i => u.size - (intOf i).toNat)
  case atStart => exact ⟨0, Nat.zero_le _, rfl, rfl, fun j h hj => by omega⟩
  case round =>
    obtain ⟨k, hk, rfl, rfl, HA⟩ := hrel
    by_cases hlt : k < u.size
    · have hw1 := wantF_size u k
      have HE := Lib.hid (ext_one hlt)
      have hone := fun W => hlAll_any ⟨#[u[k]]⟩ whiteS W (Nat.le_of_ble_eq_true rfl) (Nat.le_of_ble_eq_true rfl)
      rw [allB_one, ← ext_one hlt] at hone
      cases hok : okB whiteS u[k]
      · rw [hok] at hone
        have HO := Lib.hid hone
        clear hone hok HA
        go_wp2_with (go_at_call 49; (with_reducible refine (HO.out _).mono ?_); rintro e w' ⟨rfl, rfl⟩)
        go_ret
        exact ⟨rfl, Below.refl _ _⟩
      · rw [hok] at hone
        have HO := Lib.hid hone
        have HA2 : Hid (∀ j, ∀ h : j < u.size, j < k + 1 → okB whiteS u[j] = true) := fun j h hj => by
          by_cases e : j = k
          · subst e; exact hok
          · exact HA.out j h (by omega)
        have hs := wantF_succ hlt
        have hb := ByteArray.toList_eq (u.extract k (k + 1))
        rw [ext_one hlt] at hb
        clear hone hok HA
        by_cases h9 : u[k] = 9
        · have hw2 : wB u[k] = 32 := by rw [h9]; rfl
          rw [hw2] at hs
          have HS := Lib.hid hs
          have e1 : ((u.extract k (k + 1)).toList == [9]) = true := by rw [ext_one hlt, hb, h9]; rfl
          clear hs hb hw2 h9
          go_wp2_with (go_at_call 49; (with_reducible refine (HO.out _).mono ?_); rintro e w' ⟨rfl, rfl⟩)
          refine ⟨⟨k + 1, by omega, by go_num, by rw [HS.out], HA2⟩, ?_⟩
          simp [intOf]; omega
        · have e1 : ((u.extract k (k + 1)).toList == [9]) = false := by rw [ext_one hlt, hb]; simpa using h9
          by_cases h10 : u[k] = 10
          · have hw2 : wB u[k] = 32 := by rw [h10]; rfl
            rw [hw2] at hs
            have HS := Lib.hid hs
            have e2 : ((u.extract k (k + 1)).toList == [10]) = true := by rw [ext_one hlt, hb, h10]; rfl
            clear hs hb hw2 h9 h10
            go_wp2_with (go_at_call 49; (with_reducible refine (HO.out _).mono ?_); rintro e w' ⟨rfl, rfl⟩)
            refine ⟨⟨k + 1, by omega, by go_num, by rw [HS.out], HA2⟩, ?_⟩
            simp [intOf]; omega
          · have hw2 : wB u[k] = u[k] := by unfold wB; rw [if_neg (by simp [h9, h10])]
            rw [hw2, ← ext_one hlt] at hs
            have HS := Lib.hid hs
            have e2 : ((u.extract k (k + 1)).toList == [10]) = false := by rw [ext_one hlt, hb]; simpa using h10
            have e3 : (u.extract k (k + 1)).size ≤ 1 := by rw [ext_one hlt]; exact Nat.le_refl _
            clear hs hb hw2 h9 h10
            go_wp2_with (go_at_call 49; (with_reducible refine (HO.out _).mono ?_); rintro e w' ⟨rfl, rfl⟩)
            refine ⟨⟨k + 1, by omega, by go_num, by rw [HS.out], HA2⟩, ?_⟩
            simp [intOf]; omega
    · obtain rfl : k = u.size := by omega
      have hall : ∀ j, ∀ h : j < u.size, okB whiteS u[j] = true := fun j h => HA.out j h h
      have HC := Lib.hid (clean_want hall)
      have HAS := Lib.hid (ascii_of_ok hall)
      clear hall HA
      go_wp2_with fail
      go_loop [10, 68] (fun b i => ∃ (k : Nat) (a : Bool), k ≤ xs.length ∧ i = .int .i64 k ∧ b = .bool a ∧ Hid (a = ((List.range k).any fun j => oneOf (xs.getD j ByteArray.empty) (xs.take j))) ∧ Hid (∀ j, ∀ h : j < xs.length, j < k → xs[j].size ≤ 300)) (fun _ i => xs.length - (intOf i).toNat)
      case atStart => exact ⟨0, false, Nat.zero_le _, rfl, rfl, rfl, fun j h hj => by omega⟩
      case round =>
        obtain ⟨k, a, hk, rfl, rfl, HA, HZ⟩ := hrel
        by_cases hlt : k < xs.length
        · obtain ⟨ad, rfl, hxk⟩ := strs_at HX.out hlt
          by_cases hbig : 300 < xs[k].size
          · clear HA HZ
            go_wp2_with fail
            go_ret
            exact ⟨rfl, Below.refl _ _⟩
          · have hsm : xs[k].size ≤ 300 := by omega
            have HZ2 : Hid (∀ j, ∀ h : j < xs.length, j < k + 1 → xs[j].size ≤ 300) := fun j h hj => by
              by_cases e : j = k
              · subst e; exact hsm
              · exact HZ.out j h (by omega)
            have HD := Lib.hid (dup_succ xs k hlt)
            clear HZ hbig
            cases a
            · have ho := fun W (hW : Sl W (some ad) (strs xs)) => oneOf_take xs[k] (some ad) c xs k hk W hW
              cases hb : oneOf xs[k] (xs.take k)
              · rw [hb] at ho
                have HO := Lib.hid ho
                have HBb := Lib.hid hb
                clear ho hb
                go_wp2_with (go_at_call 35; (try rw [slice_here]); (with_reducible refine (HO.out _ HX.out).mono ?_); rintro e w' ⟨rfl, rfl⟩)
                refine ⟨⟨k + 1, false, by omega, by go_num, rfl, by show _ = _; rw [HD.out, ← HA.out, HBb.out]; rfl, HZ2⟩, ?_⟩
                simp [intOf]; omega
              · rw [hb] at ho
                have HO := Lib.hid ho
                have HBb := Lib.hid hb
                clear ho hb
                go_wp2_with (go_at_call 35; (try rw [slice_here]); (with_reducible refine (HO.out _ HX.out).mono ?_); rintro e w' ⟨rfl, rfl⟩)
                refine ⟨⟨k + 1, true, by omega, by go_num, rfl, by show _ = _; rw [HD.out, ← HA.out, HBb.out]; rfl, HZ2⟩, ?_⟩
                simp [intOf]; omega
            · go_wp2_with fail
              refine ⟨⟨k + 1, true, by omega, by go_num, rfl, by show _ = _; rw [HD.out, ← HA.out]; rfl, HZ2⟩, ?_⟩
              simp [intOf]; omega
        · obtain rfl : k = xs.length := by omega
          have ha : a = dupB xs := HA.out
          have hzz : ∀ j, ∀ h : j < xs.length, xs[j].size ≤ 1000000 := fun j h => Nat.le_trans (HZ.out j h h) (by omega)
          have hd := fun W (hW : Sl W A (strs xs)) => pluginDup_any A c xs W hW (by omega) hzz
          rw [← ha] at hd
          have HD := Lib.hid hd
          clear hd ha hzz HA HZ
          have hcn := fun W => chartName_any n W (by omega)
          rw [chartName_eq] at hcn
          have hal := fun W => hlAll_any n ⟨#[95, 46, 45]⟩ W (by omega) (Nat.le_of_ble_eq_true rfl)
          have hal2 := fun W => hlAll_any n ⟨#[95, 45]⟩ W (by omega) (Nat.le_of_ble_eq_true rfl)
          rw [allB_dash] at hal2
          have hpv := fun W => pluginValid_any n u W (by omega) (by omega) HAS.out
          rw [HC.out] at hpv
          generalize allB n ⟨#[95, 46, 45]⟩ = A2 at hcn hal
          have hW : ∃ W0, wordB n lowDash = W0 := ⟨_, rfl⟩
          obtain ⟨W0, hW⟩ := hW
          have hal3 : ∀ W, Calls Try.prog 49 #[.string n, .string ⟨#[95, 45]⟩] W fun e w' => e = .returned (.bool W0) ∧ W = w' := by rw [← hW]; exact hal2
          rw [hW] at hpv
          clear hal2 hW HC HAS
          have HPV := Lib.hid hpv
          have HCN := Lib.hid hcn
          have HAL := Lib.hid hal
          have HAL3 := Lib.hid hal3
          clear hpv hcn hal hal3
          cases W0 <;> cases a <;> cases A2
          all_goals first
            | (by_cases h250 : n.size ≤ 250
               · have e1 : decide (n.size ≤ 250) = true := by simpa using h250
                 rw [e1] at HCN
                 go_wp2_with (first
                   | (go_at_call 50; (with_reducible refine (HPV.out _).mono ?_); rintro e w1 ⟨u2, rfl, hu2, hb1⟩; first | (obtain rfl : u2 = _ := hu2 rfl) | clear hu2)
                   | (go_at_call 49; (with_reducible refine (HAL3.out _).mono ?_); rintro e w' ⟨rfl, rfl⟩)
                   | (go_at_call 49; (with_reducible refine (HAL.out _).mono ?_); rintro e w' ⟨rfl, rfl⟩)
                   | (go_at_call 51; (with_reducible refine (HD.out _ (HX.out.below hb1)).mono ?_); rintro e w2 ⟨rfl, hb2⟩)
                   | (go_at_call 52; (with_reducible refine (HCN.out _).mono ?_); rintro e w3 ⟨rfl, hb3⟩)
                   | (go_at_call 36; (with_reducible refine (hlLives_any _).mono ?_); rintro e w4 ⟨rfl, hb4⟩))
                 go_ret
                 exact ⟨rfl, below_trans (below_trans (below_trans hb1 hb2) hb3) hb4⟩
               · have e1 : decide (n.size ≤ 250) = false := by simpa using h250
                 have e2 : decide ((n.size : Int) ≤ 250) = false := by simp; omega
                 rw [e1] at HCN
                 go_wp2_with (first
                   | (go_at_call 50; (with_reducible refine (HPV.out _).mono ?_); rintro e w1 ⟨u2, rfl, hu2, hb1⟩; first | (obtain rfl : u2 = _ := hu2 rfl) | clear hu2)
                   | (go_at_call 49; (with_reducible refine (HAL3.out _).mono ?_); rintro e w' ⟨rfl, rfl⟩)
                   | (go_at_call 49; (with_reducible refine (HAL.out _).mono ?_); rintro e w' ⟨rfl, rfl⟩)
                   | (go_at_call 51; (with_reducible refine (HD.out _ (HX.out.below hb1)).mono ?_); rintro e w2 ⟨rfl, hb2⟩)
                   | (go_at_call 52; (with_reducible refine (HCN.out _).mono ?_); rintro e w3 ⟨rfl, hb3⟩)
                   | (go_at_call 36; (with_reducible refine (hlLives_any _).mono ?_); rintro e w4 ⟨rfl, hb4⟩))
                 go_ret
                 exact ⟨rfl, below_trans (below_trans (below_trans hb1 hb2) hb3) hb4⟩)
end Go.Proofs.Ytdgblfldbikneaa
