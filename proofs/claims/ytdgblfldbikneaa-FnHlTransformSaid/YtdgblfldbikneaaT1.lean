/- FnHlTransform: the walk. -/
import Derived.Test.YtdgblfldbikneaaT0
namespace Go.Proofs.Ytdgblfldbikneaa
open Go.RowKit Go.Lib

def totT (xs : List ByteArray) (name : ByteArray) (k : Nat) : Nat := szSum (xs.take k) + k * (name.size + 11)
theorem szSum_succ (xs : List ByteArray) (k : Nat) (h : k < xs.length) : szSum (xs.take (k + 1)) = szSum (xs.take k) + xs[k].size := by
  rw [List.take_succ_eq_append_getElem h]
  simp only [szSum, List.map_append, List.sum_append, List.map_cons, List.map_nil, List.sum_cons, List.sum_nil, Nat.add_zero]
theorem totT_succ (xs : List ByteArray) (name : ByteArray) (k : Nat) (h : k < xs.length) : totT xs name (k + 1) = totT xs name k + (xs[k].size + name.size + 11) := by
  unfold totT
  rw [szSum_succ xs k h, Nat.add_mul]
  omega
theorem szSum_le {xs : List ByteArray} {M : Nat} (h : ∀ k, ∀ hk : k < xs.length, xs[k].size ≤ M) (k : Nat) : szSum (xs.take k) ≤ k * M := by
  induction k with
  | zero => simp [szSum]
  | succ k ih =>
    rw [Nat.succ_mul]
    by_cases hk : k < xs.length
    · rw [szSum_succ xs k hk]
      have := h k hk
      omega
    · rw [List.take_of_length_le (by omega)]
      rw [List.take_of_length_le (by omega)] at ih
      omega
theorem szSum_bound {xs : List ByteArray} (h : fits3 xs = true) (k : Nat) : szSum (xs.take k) ≤ k * 2147483647 := by
  refine szSum_le (fun k hk => ?_) k
  simp only [fits3, Bool.and_eq_true, List.all_eq_true] at h
  simpa using h.2 xs[k] (List.getElem_mem hk)

set_option maxRecDepth 100000 in
set_option maxHeartbeats 2000000 in
theorem fnHlTransform_walk (A0 : Option Addr) (c0 : Nat) (xs : List ByteArray) (name : ByteArray) (A2 : Option Addr) (c2 : Nat) (vs : List ByteArray) (ver : ByteArray) (w : World)
    (h0 : Sl w A0 (strs xs)) (hn : name.size ≤ maxLen) (h2 : Sl w A2 (strs vs)) (hv : ver.size ≤ maxLen) :
    Calls Try.prog 9 #[.slice A0 xs.length c0, .string name, .slice A2 vs.length c2, .string ver] w fun e w' => e = .returned (.bool true) ∧ Below w.heap.size w w' := by
  have H0 := Lib.hid h0
  have H2 := Lib.hid h2
  simp only [maxLen] at hn hv
  clear h0 h2
  cases hf0 : fits3 xs
  · have HF := Lib.hid hf0
    clear hf0
    go_enter Try.func9, Try.ntmps9
    go_wp2_with (go_at_call 18; (with_reducible refine (zzFits3_any A0 c0 xs _ H0.out).mono ?_); rintro e w' ⟨rfl, rfl⟩; rw [HF.out])
    go_ret
    exact ⟨rfl, Below.refl _ _⟩
  by_cases hn2 : 2147483647 < name.size
  · have HF := Lib.hid hf0
    clear hf0
    go_enter Try.func9, Try.ntmps9
    go_wp2_with (go_at_call 18; (with_reducible refine (zzFits3_any A0 c0 xs _ H0.out).mono ?_); rintro e w' ⟨rfl, rfl⟩; rw [HF.out])
    go_ret
    exact ⟨rfl, Below.refl _ _⟩
  cases hf2 : fits3 vs
  · have HF := Lib.hid hf0
    have HF2 := Lib.hid hf2
    clear hf0 hf2
    go_enter Try.func9, Try.ntmps9
    go_wp2_with (first
      | (go_at_call 18; (with_reducible refine (zzFits3_any A0 c0 xs _ H0.out).mono ?_); rintro e w' ⟨rfl, rfl⟩; rw [HF.out])
      | (go_at_call 18; (with_reducible refine (zzFits3_any A2 c2 vs _ H2.out).mono ?_); rintro e w' ⟨rfl, rfl⟩; rw [HF2.out]))
    go_ret
    exact ⟨rfl, Below.refl _ _⟩
  have HB := Lib.hid (szSum_bound hf0)
  have hl0 : xs.length ≤ 2147483647 := by simp [fits3] at hf0; omega
  have hl2 : vs.length ≤ 2147483647 := by simp [fits3] at hf2; omega
  have HF := Lib.hid hf0
  have HF2 := Lib.hid hf2
  clear hf0 hf2
  by_cases hv2 : 2147483647 < ver.size
  · go_enter Try.func9, Try.ntmps9
    go_wp2_with (first
      | (go_at_call 18; (with_reducible refine (zzFits3_any A0 c0 xs _ H0.out).mono ?_); rintro e w' ⟨rfl, rfl⟩; rw [HF.out])
      | (go_at_call 18; (with_reducible refine (zzFits3_any A2 c2 vs _ H2.out).mono ?_); rintro e w' ⟨rfl, rfl⟩; rw [HF2.out]))
    go_ret
    exact ⟨rfl, Below.refl _ _⟩
  have hn3 : name.size ≤ 2147483647 := by omega
  have hv3 : ver.size ≤ 2147483647 := by omega
  clear hn2 hv2 hn hv
  by_cases hc : 100 < xs.length ∨ 100 < name.size ∨ 30 < vs.length
  · rcases Nat.lt_or_ge 100 xs.length with hc1 | hc1
    · clear hc
      go_enter Try.func9, Try.ntmps9
      go_wp2_with (first
        | (go_at_call 18; (with_reducible refine (zzFits3_any A0 c0 xs _ H0.out).mono ?_); rintro e w' ⟨rfl, rfl⟩; rw [HF.out])
        | (go_at_call 18; (with_reducible refine (zzFits3_any A2 c2 vs _ H2.out).mono ?_); rintro e w' ⟨rfl, rfl⟩; rw [HF2.out]))
      go_ret
      exact ⟨rfl, Below.refl _ _⟩
    rcases Nat.lt_or_ge 100 name.size with hc2 | hc2
    · clear hc
      go_enter Try.func9, Try.ntmps9
      go_wp2_with (first
        | (go_at_call 18; (with_reducible refine (zzFits3_any A0 c0 xs _ H0.out).mono ?_); rintro e w' ⟨rfl, rfl⟩; rw [HF.out])
        | (go_at_call 18; (with_reducible refine (zzFits3_any A2 c2 vs _ H2.out).mono ?_); rintro e w' ⟨rfl, rfl⟩; rw [HF2.out]))
      go_ret
      exact ⟨rfl, Below.refl _ _⟩
    have hc3 : 30 < vs.length := by omega
    clear hc
    go_enter Try.func9, Try.ntmps9
    go_wp2_with (first
      | (go_at_call 18; (with_reducible refine (zzFits3_any A0 c0 xs _ H0.out).mono ?_); rintro e w' ⟨rfl, rfl⟩; rw [HF.out])
      | (go_at_call 18; (with_reducible refine (zzFits3_any A2 c2 vs _ H2.out).mono ?_); rintro e w' ⟨rfl, rfl⟩; rw [HF2.out]))
    go_ret
    exact ⟨rfl, Below.refl _ _⟩
  have hc1 : xs.length ≤ 100 := by omega
  have hc2 : name.size ≤ 100 := by omega
  have hc3 : vs.length ≤ 30 := by omega
  clear hc hl0 hl2 hn3
  go_enter Try.func9, Try.ntmps9
  go_wp2_with (first
    | (go_at_call 18; (with_reducible refine (zzFits3_any A0 c0 xs _ H0.out).mono ?_); rintro e w' ⟨rfl, rfl⟩; rw [HF.out])
    | (go_at_call 18; (with_reducible refine (zzFits3_any A2 c2 vs _ H2.out).mono ?_); rintro e w' ⟨rfl, rfl⟩; rw [HF2.out]))
  go_loop [9, 50] (fun z i => ∃ k : Nat, k ≤ xs.length ∧ i = .int .i64 k ∧ z = .int .i64 (totT xs name k)) (fun _ i => xs.length - (intOf i).toNat)
  case atStart => exact ⟨0, Nat.zero_le _, rfl, by simp [totT, szSum]⟩
  case round =>
    obtain ⟨k, hk, rfl, rfl⟩ := hrel
    by_cases hlt : k < xs.length
    · obtain ⟨ad, rfl, hx⟩ := strs_at H0.out hlt
      have ht := totT_succ xs name k hlt
      have hb := HB.out (k + 1)
      have hb2 : totT xs name (k + 1) ≤ 1000000000000 := by
        have h3 := Nat.mul_le_mul (show k + 1 ≤ 100 by omega) (show name.size + 11 ≤ 111 by omega)
        unfold totT
        omega
      have HT := Lib.hid ht
      have e1 : totT xs name k ≤ 1000000000000 := by omega
      have e2 : xs[k].size ≤ 1000000000000 := by omega
      have e3 : totT xs name k + (xs[k].size + name.size + 11) ≤ 1000000000000 := by omega
      clear ht hb hb2
      go_wp2
      go_round
      case rel => exact ⟨k + 1, by omega, by go_num, by rw [HT.out]; go_num⟩
      case measure => simp [intOf]; omega
    · obtain rfl : k = xs.length := by omega
      have hbt : totT xs name xs.length ≤ 1000000000000 := by
        have hb := HB.out xs.length
        have h3 := Nat.mul_le_mul hc1 (show name.size + 11 ≤ 111 by omega)
        unfold totT
        omega
      by_cases hbig : 3000 < totT xs name xs.length
      · go_wp2
        go_ret
        exact ⟨rfl, Below.refl _ _⟩
      · have hs3 : szSum xs + xs.length * (name.size + 11) ≤ 3000 := by
          unfold totT at hbig
          rw [List.take_length] at hbig
          omega
        have hsm : ∀ k, (joinF markS (xs.take k)).size ≤ 3000 := fun k => by
          have h1 := joinF_take_size markS xs k
          have h2 : xs.length * markS.size ≤ xs.length * (name.size + 11) := Nat.mul_le_mul_left _ (by rw [mark_size]; omega)
          omega
        have hsn : ∀ k, (joinF name (xs.take k)).size ≤ 3000 := fun k => by
          have h1 := joinF_take_size name xs k
          have h2 : xs.length * name.size ≤ xs.length * (name.size + 11) := Nat.mul_le_mul_left _ (by omega)
          omega
        have hsz : ∀ k, ∀ h : k < xs.length, xs[k].size ≤ 3000 := fun k h => by
          have h1 := szSum_succ xs k h
          have h2 := szSum_take xs (k + 1)
          omega
        have HM := Lib.hid hsm
        have HN := Lib.hid hsn
        have HS := Lib.hid hsz
        clear hsm hsn hsz hs3 HB
        go_wp2
        go_loop [12, 13, 67] (fun t v i => ∃ k : Nat, k ≤ xs.length ∧ i = .int .i64 k ∧ t = .string (joinF markS (xs.take k)) ∧ v = .string (joinF name (xs.take k)) ∧ Hid (∀ j, ∀ h : j < xs.length, j < k → noLt xs[j])) (fun _ _ i => xs.length - (intOf i).toNat)
        case atStart => exact ⟨0, Nat.zero_le _, rfl, rfl, rfl, fun j h hj => by omega⟩
        case round =>
          obtain ⟨k, hk, rfl, rfl, rfl, HA⟩ := hrel
          by_cases hlt : k < xs.length
          · obtain ⟨ad, rfl, hx⟩ := strs_at H0.out hlt
            have hxz := HS.out k hlt
            go_wp2
            go_loop [74] (fun i => ∃ j : Nat, j ≤ xs[k].size ∧ i = .int .i64 j ∧ Hid (∀ q, ∀ h : q < xs[k].size, q < j → xs[k][q].toNat ≠ 60)) (fun i => xs[k].size - (intOf i).toNat)
            case atStart => exact ⟨0, Nat.zero_le _, rfl, fun q h hq => by omega⟩
            case round =>
              obtain ⟨j, hj, rfl, HQ⟩ := hrel
              by_cases hjl : j < xs[k].size
              · by_cases h60 : xs[k][j].toNat = 60
                · have d1 : ((xs[k][j].toNat : Int) == 60) = true := by simp; omega
                  go_wp2
                  go_ret
                  exact ⟨rfl, Below.refl _ _⟩
                · have hne : (xs[k][j].toNat : Int) ≠ 60 := by omega
                  have d1 : ((xs[k][j].toNat : Int) == 60) = false := by simp; omega
                  have HQ2 : Hid (∀ q, ∀ h : q < xs[k].size, q < j + 1 → xs[k][q].toNat ≠ 60) := fun q h hq => by
                    by_cases e : q = j
                    · subst e; exact h60
                    · exact HQ.out q h (by omega)
                  by_cases h62 : xs[k][j].toNat = 62
                  · have d2 : ((xs[k][j].toNat : Int) == 62) = true := by simp; omega
                    clear HQ HQ2
                    go_wp2
                    go_ret
                    exact ⟨rfl, Below.refl _ _⟩
                  · have hne2 : (xs[k][j].toNat : Int) ≠ 62 := by omega
                    have d2 : ((xs[k][j].toNat : Int) == 62) = false := by simp; omega
                    clear HQ
                    go_wp2
                    go_round
                    case rel => exact ⟨j + 1, by omega, by go_num, HQ2⟩
                    case measure => simp [intOf]; omega
              · have HA2 : Hid (∀ j, ∀ h : j < xs.length, j < k + 1 → noLt xs[j]) := fun q h hq => by
                  by_cases e : q = k
                  · subst e; exact fun z hz => HQ.out z hz (by omega)
                  · exact HA.out q h (by omega)
                clear HQ HA
                by_cases h0 : 0 < k
                · have HJ := Lib.hid (joinF_take markS xs k hlt h0)
                  have HJn := Lib.hid (joinF_take name xs k hlt h0)
                  have m1 := HM.out k
                  have m2 := HN.out k
                  have m3 : (joinF markS (xs.take k) ++ markS).size ≤ 3011 := by rw [ByteArray.size_append, mark_size]; omega
                  have m4 : (joinF name (xs.take k) ++ name).size ≤ 3100 := by rw [ByteArray.size_append]; omega
                  go_wp2
                  refine ⟨⟨k + 1, by omega, by go_num, by rw [HJ.out], by rw [HJn.out], HA2⟩, ?_⟩
                  simp [intOf]; omega
                · obtain rfl : k = 0 := by omega
                  have hj0 : ∀ sep, joinF sep (xs.take (0 + 1)) = joinF sep (xs.take 0) ++ xs[0] := fun sep => by
                    rw [List.take_succ_eq_append_getElem hlt]
                    simp [joinF]
                  have HJ := Lib.hid hj0
                  clear hj0
                  have m1 : (joinF markS []).size ≤ 3000 := HM.out 0
                  have m2 : (joinF name []).size ≤ 3000 := HN.out 0
                  go_wp2
                  go_round
                  case rel => exact ⟨0 + 1, by omega, by go_num, (congrArg Value.string (HJ.out _)).symm, (congrArg Value.string (HJ.out _)).symm, HA2⟩
                  case measure => simp [intOf]; omega
          · have he : xs.take k = xs := List.take_of_length_le (by omega)
            rw [he]
            have hall : ∀ x ∈ xs, noLt x := fun x hx => by
              obtain ⟨j, hj, rfl⟩ := List.mem_iff_getElem.1 hx
              exact HA.out j hj (by omega)
            have HR := Lib.hid (repl_join xs name hall)
            have HM2 := HM.out xs.length
            rw [List.take_length] at HM2
            clear HA he hall HS HN HM
            go_wp2_with (first
              | (go_at_call 33; (with_reducible refine (transform_any (joinF markS xs) name _ (by omega) (by omega)).mono ?_); rintro e w1 ⟨rfl, hb1⟩; rw [HR.out])
              | (go_at_call 34; (with_reducible refine (hasVersion_any ver A2 c2 vs _ (H2.out.below hb1)).mono ?_); rintro e w2 ⟨rfl, rfl⟩)
              | (go_at_call 35; (with_reducible refine (oneOf_any ver A2 c2 vs _ (H2.out.below hb1)).mono ?_); rintro e w2 ⟨rfl, rfl⟩)
              | (go_at_call 36; (with_reducible refine (hlLives_any _).mono ?_); rintro e w2 ⟨rfl, hb2⟩))
            go_ret
            exact ⟨rfl, below_trans hb1 hb2⟩
end Go.Proofs.Ytdgblfldbikneaa
