/- FnVersionEquals: the walk. -/
import Derived.Test.YtdgblfldbikneaaV4
namespace Go.Proofs.Ytdgblfldbikneaa
open Go.RowKit Go.Lib
set_option linter.unusedVariables false
set_option linter.unusedSimpArgs false
theorem one_plain : plainB ⟨#[49, 46, 50, 46, 51]⟩ = true := by decide
theorem verF_mil (s : ByteArray) : (verF (ascF s)).size ≤ 1000000 := by
  have h1 := verF_size (ascF s)
  have h2 := ascF_size s
  omega
theorem implVerEq_one (w : World) : Calls Try.prog 26 #[.string ⟨#[49, 46, 50, 46, 51]⟩, .string ⟨#[49, 46, 50, 46, 51]⟩] w fun e w' => e = .returned (.tuple #[.bool true, .int .i64 0]) ∧ Below w.heap.size w w' := by
  have h := implVerEq_any ⟨#[49, 46, 50, 46, 51]⟩ ⟨#[49, 46, 50, 46, 51]⟩ w (by decide) (by decide) (.inl one_plain) (.inl one_plain)
  have e : eqvF ⟨#[49, 46, 50, 46, 51]⟩ ⟨#[49, 46, 50, 46, 51]⟩ = true := by
    rw [eqvF_eq (.inl one_plain) (.inl one_plain)]
    exact decide_eq_true rfl
  rw [e] at h
  exact h
set_option maxRecDepth 100000 in
set_option maxHeartbeats 4000000 in
theorem fnVersionEquals_walk (a b : ByteArray) (w : World) (ha : a.size ≤ maxLen) (hb0 : b.size ≤ maxLen) :
    Calls Try.prog 6 #[.string a, .string b] w fun e w' => e = .returned (.bool true) ∧ Below w.heap.size w w' := by
  have La : a.size ≤ 9223372036854775807 := by simpa [maxLen] using ha
  have Lb : b.size ≤ 9223372036854775807 := by simpa [maxLen] using hb0
  clear ha hb0
  by_cases hbig : 2147483647 < a.size
  · go_enter Try.func6, Try.ntmps6
    go_wp2_with fail
    go_ret
    exact ⟨rfl, Below.refl _ _⟩
  have sa : a.size ≤ 2147483647 := by omega
  clear hbig
  by_cases hbig : 2147483647 < b.size
  · go_enter Try.func6, Try.ntmps6
    go_wp2_with fail
    go_ret
    exact ⟨rfl, Below.refl _ _⟩
  have sb : b.size ≤ 2147483647 := by omega
  clear hbig
  cases hq : (verF (ascF a)).toList == (verF (ascF b)).toList
  · have hq2 : eqvF (verF (ascF a)) (verF (ascF b)) = false := by
      rw [eqvF_eq (verF_cases _) (verF_cases _)]
      rw [toList_eq3] at hq
      exact hq
    have HQ := Lib.hid hq2
    clear hq2
    go_enter Try.func6, Try.ntmps6
    go_wp2_with (first
      | (go_at_call 25; (with_reducible refine (chAscii_any a _ La).mono ?_); rintro e w1 ⟨rfl, hb⟩
         have B_w1 := Lib.hid (below_trans (Below.refl _ _) hb)
         clear hb)
      | (go_at_call 24; (with_reducible refine (chVer_any (ascF a) _ (ascF_mil a)).mono ?_); rintro e w2 ⟨rfl, hb⟩
         have B_w2 := Lib.hid (below_trans B_w1.out hb)
         clear hb)
      | (go_at_call 25; (with_reducible refine (chAscii_any b _ Lb).mono ?_); rintro e w3 ⟨rfl, hb⟩
         have B_w3 := Lib.hid (below_trans B_w2.out hb)
         clear hb)
      | (go_at_call 24; (with_reducible refine (chVer_any (ascF b) _ (ascF_mil b)).mono ?_); rintro e w4 ⟨rfl, hb⟩
         have B_w4 := Lib.hid (below_trans B_w3.out hb)
         clear hb)
      | (go_at_call 26; (with_reducible refine (implVerEq_any (verF (ascF a)) (verF (ascF b)) _ (verF_mil a) (verF_mil b) (verF_cases _) (verF_cases _)).mono ?_); rintro e w5 ⟨rfl, hb⟩
         have B_w5 := Lib.hid (below_trans B_w4.out hb)
         rw [HQ.out]
         clear hb)
      | (go_at_call 26; (with_reducible refine (implVerEq_one _).mono ?_); rintro e w6 ⟨rfl, hb⟩
         have B_w6 := Lib.hid (below_trans B_w5.out hb)
         clear hb))
    (try simp only [Exit.inBlock, Exit.then])
    refine bodyPost_ret (v := .bool true) (results1 Try.results6 rfl) rfl ?_
    exact ⟨rfl, B_w6.out⟩
  · have hq2 : eqvF (verF (ascF a)) (verF (ascF b)) = true := by
      rw [eqvF_eq (verF_cases _) (verF_cases _)]
      rw [toList_eq3] at hq
      exact hq
    have HQ := Lib.hid hq2
    clear hq2
    go_enter Try.func6, Try.ntmps6
    go_wp2_with (first
      | (go_at_call 25; (with_reducible refine (chAscii_any a _ La).mono ?_); rintro e w1 ⟨rfl, hb⟩
         have B_w1 := Lib.hid (below_trans (Below.refl _ _) hb)
         clear hb)
      | (go_at_call 24; (with_reducible refine (chVer_any (ascF a) _ (ascF_mil a)).mono ?_); rintro e w2 ⟨rfl, hb⟩
         have B_w2 := Lib.hid (below_trans B_w1.out hb)
         clear hb)
      | (go_at_call 25; (with_reducible refine (chAscii_any b _ Lb).mono ?_); rintro e w3 ⟨rfl, hb⟩
         have B_w3 := Lib.hid (below_trans B_w2.out hb)
         clear hb)
      | (go_at_call 24; (with_reducible refine (chVer_any (ascF b) _ (ascF_mil b)).mono ?_); rintro e w4 ⟨rfl, hb⟩
         have B_w4 := Lib.hid (below_trans B_w3.out hb)
         clear hb)
      | (go_at_call 26; (with_reducible refine (implVerEq_any (verF (ascF a)) (verF (ascF b)) _ (verF_mil a) (verF_mil b) (verF_cases _) (verF_cases _)).mono ?_); rintro e w5 ⟨rfl, hb⟩
         have B_w5 := Lib.hid (below_trans B_w4.out hb)
         rw [HQ.out]
         clear hb)
      | (go_at_call 26; (with_reducible refine (implVerEq_one _).mono ?_); rintro e w6 ⟨rfl, hb⟩
         have B_w6 := Lib.hid (below_trans B_w5.out hb)
         clear hb))
    (try simp only [Exit.inBlock, Exit.then])
    refine bodyPost_ret (v := .bool true) (results1 Try.results6 rfl) rfl ?_
    exact ⟨rfl, B_w6.out⟩
end Go.Proofs.Ytdgblfldbikneaa
