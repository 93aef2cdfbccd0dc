/- FnHookHas: the walk. -/
import Derived.Test.YtdgblfldbikneaaH1
namespace Go.Proofs.Ytdgblfldbikneaa
open Go.RowKit Go.Lib

theorem hookHas_lit (g : Nat) (w : World) (h : Blk w g 9 #[.string ⟨#[97]⟩]) :
    Calls Try.prog 19 #[.agg #[.string ⟨#[]⟩, .string ⟨#[]⟩, .string ⟨#[]⟩, .string ⟨#[]⟩, .slice none 0 0, .slice (some ⟨g, 0, none⟩) 1 1, .slice none 0 0, .int .i64 0], .string ⟨#[97]⟩] w
      fun e w' => e = .returned (.tuple #[.bool true, .bool false]) ∧ Below w.heap.size w w' := by
  have hh := hookHas_any ⟨#[]⟩ ⟨#[]⟩ ⟨#[]⟩ ⟨#[]⟩ none 0 [] (some ⟨g, 0, none⟩) 1 [⟨#[97]⟩] none 0 [] 0 ⟨#[97]⟩ w Sl.nil (h.sl (by simp)) Sl.nil (by simp) (by simp) (by simp)
  have e1 : oneOf ⟨#[97]⟩ [⟨#[97]⟩] = true := by decide +kernel
  have e2 : oneOf ⟨#[97]⟩ [] = false := rfl
  rw [e1, e2] at hh
  exact hh
theorem any_succ {α : Type} {p : α → Bool} {xs : List α} {k : Nat} (h : k < xs.length) : (xs.take (k + 1)).any p = ((xs.take k).any p || p xs[k]) := by
  rw [List.take_succ_eq_append_getElem h]
  simp only [List.any_append, List.any_cons, List.any_nil, Bool.or_false]
theorem fits3_len {xs : List ByteArray} (h : fits3 xs = true) : xs.length ≤ 2147483647 := by simp [fits3] at h; omega

set_option maxRecDepth 100000 in
set_option maxHeartbeats 2000000 in
theorem fnHookHas_walk (A0 : Option Addr) (c0 : Nat) (ds : List ByteArray) (A1 : Option Addr) (c1 : Nat) (os : List ByteArray) (s : ByteArray) (w : World)
    (h0 : Sl w A0 (strs ds)) (h1 : Sl w A1 (strs os)) (hs : s.size ≤ maxLen) :
    Calls Try.prog 4 #[.slice A0 ds.length c0, .slice A1 os.length c1, .string s] w fun e w' => e = .returned (.bool true) ∧ Below w.heap.size w w' := by
  have H0 := Lib.hid h0
  have H1 := Lib.hid h1
  simp only [maxLen] at hs
  clear h0 h1
  cases hf0 : fits3 ds
  · have HF := Lib.hid hf0
    clear hf0
    go_enter Try.func4, Try.ntmps4
    go_wp2_with (go_at_call 18; (with_reducible refine (zzFits3_any A0 c0 ds _ H0.out).mono ?_); rintro e w' ⟨rfl, rfl⟩; rw [HF.out])
    go_ret
    exact ⟨rfl, Below.refl _ _⟩
  have hl0 := fits3_len hf0
  have HF := Lib.hid hf0
  clear hf0
  cases hf1 : fits3 os
  · have HF1 := Lib.hid hf1
    clear hf1
    go_enter Try.func4, Try.ntmps4
    go_wp2_with (first
      | (go_at_call 18; (with_reducible refine (zzFits3_any A0 c0 ds _ H0.out).mono ?_); rintro e w' ⟨rfl, rfl⟩; rw [HF.out])
      | (go_at_call 18; (with_reducible refine (zzFits3_any A1 c1 os _ H1.out).mono ?_); rintro e w' ⟨rfl, rfl⟩; rw [HF1.out]))
    go_ret
    exact ⟨rfl, Below.refl _ _⟩
  have hl1 := fits3_len hf1
  have HF1 := Lib.hid hf1
  clear hf1
  by_cases hbig : 2147483647 < s.size
  · go_enter Try.func4, Try.ntmps4
    go_wp2_with (first
      | (go_at_call 18; (with_reducible refine (zzFits3_any A0 c0 ds _ H0.out).mono ?_); rintro e w' ⟨rfl, rfl⟩; rw [HF.out])
      | (go_at_call 18; (with_reducible refine (zzFits3_any A1 c1 os _ H1.out).mono ?_); rintro e w' ⟨rfl, rfl⟩; rw [HF1.out]))
    go_ret
    exact ⟨rfl, Below.refl _ _⟩
  by_cases h5 : 5 < ds.length
  · go_enter Try.func4, Try.ntmps4
    go_wp2_with (first
      | (go_at_call 18; (with_reducible refine (zzFits3_any A0 c0 ds _ H0.out).mono ?_); rintro e w' ⟨rfl, rfl⟩; rw [HF.out])
      | (go_at_call 18; (with_reducible refine (zzFits3_any A1 c1 os _ H1.out).mono ?_); rintro e w' ⟨rfl, rfl⟩; rw [HF1.out]))
    go_ret
    exact ⟨rfl, Below.refl _ _⟩
  by_cases h6 : 5 < os.length
  · go_enter Try.func4, Try.ntmps4
    go_wp2_with (first
      | (go_at_call 18; (with_reducible refine (zzFits3_any A0 c0 ds _ H0.out).mono ?_); rintro e w' ⟨rfl, rfl⟩; rw [HF.out])
      | (go_at_call 18; (with_reducible refine (zzFits3_any A1 c1 os _ H1.out).mono ?_); rintro e w' ⟨rfl, rfl⟩; rw [HF1.out]))
    go_ret
    exact ⟨rfl, Below.refl _ _⟩
  have hd5 : ds.length ≤ 5 := by omega
  have ho5 : os.length ≤ 5 := by omega
  clear h5 h6
  go_enter Try.func4, Try.ntmps4
  go_wp2_with (first
    | (go_at_call 18; (with_reducible refine (zzFits3_any A0 c0 ds _ H0.out).mono ?_); rintro e w' ⟨rfl, rfl⟩; rw [HF.out])
    | (go_at_call 18; (with_reducible refine (zzFits3_any A1 c1 os _ H1.out).mono ?_); rintro e w' ⟨rfl, rfl⟩; rw [HF1.out]))
  go_loop [7, 40] (fun b i => ∃ (k : Nat) (a : Bool), k ≤ ds.length ∧ i = .int .i64 k ∧ b = .bool a ∧ Hid (a = (ds.take k).any fun x => x.toList == s.toList)) (fun _ i => ds.length - (intOf i).toNat)
  case atStart => exact ⟨0, false, Nat.zero_le _, rfl, rfl, rfl⟩
  case round =>
    obtain ⟨k, a, hk, rfl, rfl, HA⟩ := hrel
    by_cases hlt : k < ds.length
    · obtain ⟨ad, rfl, hx⟩ := strs_at H0.out hlt
      have HN := Lib.hid (any_succ (p := fun x : ByteArray => x.toList == s.toList) hlt)
      cases a
      · cases hb : ds[k].toList == s.toList
        · have HB := Lib.hid hb
          go_wp2
          go_round
          case rel => exact ⟨k + 1, false, by omega, by go_num, rfl, by show _ = _; rw [HN.out, ← HA.out, HB.out]; rfl⟩
          case measure => simp [intOf]; omega
        · have HB := Lib.hid hb
          go_wp2
          go_round
          case rel => exact ⟨k + 1, true, by omega, by go_num, rfl, by show _ = _; rw [HN.out, ← HA.out, HB.out]; rfl⟩
          case measure => simp [intOf]; omega
      · go_wp2
        go_round
        case rel => exact ⟨k + 1, true, by omega, by go_num, rfl, by show _ = _; rw [HN.out, ← HA.out]; rfl⟩
        case measure => simp [intOf]; omega
    · have ha : a = oneOf s ds := by
        have := HA.out
        rw [List.take_of_length_le (by omega)] at this
        exact this
      have HA2 := Lib.hid ha
      clear HA ha
      go_wp2
      go_loop [8, 53] (fun b i => ∃ (k : Nat) (a : Bool), k ≤ os.length ∧ i = .int .i64 k ∧ b = .bool a ∧ Hid (a = (os.take k).any fun x => x.toList == s.toList)) (fun _ i => os.length - (intOf i).toNat)
      case atStart => exact ⟨0, false, Nat.zero_le _, rfl, rfl, rfl⟩
      case round =>
        obtain ⟨k, b, hk, rfl, rfl, HA⟩ := hrel
        by_cases hlt : k < os.length
        · obtain ⟨ad, rfl, hx⟩ := strs_at H1.out hlt
          have HN := Lib.hid (any_succ (p := fun x : ByteArray => x.toList == s.toList) hlt)
          cases b
          · cases hb : os[k].toList == s.toList
            · have HB := Lib.hid hb
              go_wp2
              go_round
              case rel => exact ⟨k + 1, false, by omega, by go_num, rfl, by show _ = _; rw [HN.out, ← HA.out, HB.out]; rfl⟩
              case measure => simp [intOf]; omega
            · have HB := Lib.hid hb
              go_wp2
              go_round
              case rel => exact ⟨k + 1, true, by omega, by go_num, rfl, by show _ = _; rw [HN.out, ← HA.out, HB.out]; rfl⟩
              case measure => simp [intOf]; omega
          · go_wp2
            go_round
            case rel => exact ⟨k + 1, true, by omega, by go_num, rfl, by show _ = _; rw [HN.out, ← HA.out]; rfl⟩
            case measure => simp [intOf]; omega
        · have hb : b = oneOf s os := by
            have := HA.out
            rw [List.take_of_length_le (by omega)] at this
            exact this
          clear HA
          have hh := fun W (k0 : Sl W A0 (strs ds)) (k1 : Sl W A1 (strs os)) => hookHas_any ⟨#[]⟩ ⟨#[]⟩ ⟨#[]⟩ ⟨#[]⟩ none 0 [] A0 c0 ds A1 c1 os 0 s W Sl.nil k0 k1 (by simp) (by omega) (by omega)
          rw [← HA2.out, ← hb] at hh
          simp only [List.length_nil] at hh
          have HH := Lib.hid hh
          clear hh hb HA2
          cases a <;> cases b <;>
          · go_wp2_with (first
              | (go_at_call 19; (with_reducible refine (HH.out _ H0.out H1.out).mono ?_); rintro e w1 ⟨rfl, hb1⟩)
              | (go_at_call 19; (with_reducible refine (hookHas_lit _ _ (Blk.new w1 9 #[.string ⟨#[97]⟩])).mono ?_); rintro e w2 ⟨rfl, hb2⟩))
            go_ret
            exact ⟨rfl, below_trans (below_alloc1 hb1 _) hb2⟩
end Go.Proofs.Ytdgblfldbikneaa
