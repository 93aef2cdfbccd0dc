/- Expand: hlSpecial, hlName, under, hlEnv. -/
import Derived.Test.YtkjcedlgljeoiaaX1
import Derived.Test.YtkjcedlgljeoiaaFz
import Derived.Test.YtkjcedlgljeoiaaQ1
namespace Go.Proofs.Ytkjcedlgljeoiaa
open Go.RowKit Go.Lib
set_option linter.unusedVariables false
set_option linter.unusedSimpArgs false
theorem oneOf7 (s : ByteArray) (g : Nat) (w : World) (h : Blk w g 9 #[.string ⟨#[42]⟩, .string ⟨#[35]⟩, .string ⟨#[36]⟩, .string ⟨#[64]⟩, .string ⟨#[33]⟩, .string ⟨#[63]⟩, .string ⟨#[45]⟩]) :
    Calls Try.prog 41 #[.string s, .slice (some ⟨g, 0, none⟩) 7 7] w fun e w' => e = .returned (.bool (oneOf s sevenB)) ∧ w = w' := oneOf_any s (some ⟨g, 0, none⟩) 7 sevenB w (h.sl (by simp))
theorem hlShort1 (a : ByteArray) (g : Nat) (w : World) (h : Blk w g 9 #[.string a]) :
    Calls Try.prog 19 #[.slice (some ⟨g, 0, none⟩) 1 1] w fun e w' => e = .returned (.bool (shortS a)) ∧ w = w' := by
  have h3 := hlShort_any (some ⟨g, 0, none⟩) 1 [a] w (h.sl (by simp))
  simpa [shortB] using h3
theorem hlShort2 (a b : ByteArray) (g : Nat) (w : World) (h : Blk w g 9 #[.string a, .string b]) :
    Calls Try.prog 19 #[.slice (some ⟨g, 0, none⟩) 2 2] w fun e w' => e = .returned (.bool (shortS a && shortS b)) ∧ w = w' := by
  have h3 := hlShort_any (some ⟨g, 0, none⟩) 2 [a, b] w (h.sl (by simp))
  simpa [shortB] using h3
set_option maxRecDepth 100000 in
set_option maxHeartbeats 4000000 in
theorem hlSpecial_any (n : Nat) (w : World)  (hn : n ≤ 127) :
    Calls Try.prog 134 #[.int .u8 (↑n)] w fun e w' => e = .returned (.bool (spU n)) ∧ Below w.heap.size w w' := by
  have h128 : decide ((n : Int) < 128) = true := by simp; omega
  suffices hQ : ∀ Q : Ending → World → Prop, Hid (∀ (e : Ending) (w' : World), (e = .returned (.bool (spU n)) ∧ Below w.heap.size w w') → Post1 Q e w') → Calls Try.prog 134 #[.int .u8 (↑n)] w (fun e w' => Post1 Q e w') from hQ (fun e w' => e = .returned (.bool (spU n)) ∧ Below w.heap.size w w') (fun _ _ h => by unfold Post1; exact h)
  intro Q HQ
  go_enter Try.func134, Try.ntmps134
  by_cases hc1 : (↑n : Int) < 48
  · cases hc2 : (oneOf (Utf8.encode (↑n : Int)) sevenB)
    · go_wp2_with (first
        | ((with_reducible refine at_dst (N := 13) rfl ?_); refine wl_guard rfl ?_; refine ev_bs rfl 22 9 7 _ rfl #[.string ⟨#[42]⟩, .string ⟨#[35]⟩, .string ⟨#[36]⟩, .string ⟨#[64]⟩, .string ⟨#[33]⟩, .string ⟨#[63]⟩, .string ⟨#[45]⟩] (by go_simp) ?_; intro g13 w1 hg hB hb
           have low_g13 := Nat.le_trans (Nat.le_refl _) hg
           have B_w1 := Lib.hid (below_trans (Below.refl _ _) hb)
           have g13_w1 : Hid (Blk w1 g13 9 #[.string ⟨#[42]⟩, .string ⟨#[35]⟩, .string ⟨#[36]⟩, .string ⟨#[64]⟩, .string ⟨#[33]⟩, .string ⟨#[63]⟩, .string ⟨#[45]⟩]) := hB
           clear hB hb)
        | (go_at_call 41; (with_reducible refine (oneOf7 (Utf8.encode (↑n : Int)) g13 _ g13_w1.out).mono ?_); rintro e wq ⟨rfl, rfl⟩; rw [hc2]))
      go_ret
      exact HQ.out _ _ ⟨ret_bool (by rw [← seven_is hn]; first | (rw [show decide (48 ≤ n) = true by (simp; omega), show decide (n ≤ 57) = true by (simp; omega)]; rfl) | (rw [show (decide (48 ≤ n) && decide (n ≤ 57)) = false by (simp; omega)]; simp [*])), B_w1.out⟩
    · go_wp2_with (first
        | ((with_reducible refine at_dst (N := 13) rfl ?_); refine wl_guard rfl ?_; refine ev_bs rfl 22 9 7 _ rfl #[.string ⟨#[42]⟩, .string ⟨#[35]⟩, .string ⟨#[36]⟩, .string ⟨#[64]⟩, .string ⟨#[33]⟩, .string ⟨#[63]⟩, .string ⟨#[45]⟩] (by go_simp) ?_; intro g13 w1 hg hB hb
           have low_g13 := Nat.le_trans (Nat.le_refl _) hg
           have B_w1 := Lib.hid (below_trans (Below.refl _ _) hb)
           have g13_w1 : Hid (Blk w1 g13 9 #[.string ⟨#[42]⟩, .string ⟨#[35]⟩, .string ⟨#[36]⟩, .string ⟨#[64]⟩, .string ⟨#[33]⟩, .string ⟨#[63]⟩, .string ⟨#[45]⟩]) := hB
           clear hB hb)
        | (go_at_call 41; (with_reducible refine (oneOf7 (Utf8.encode (↑n : Int)) g13 _ g13_w1.out).mono ?_); rintro e wq ⟨rfl, rfl⟩; rw [hc2]))
      go_ret
      exact HQ.out _ _ ⟨ret_bool (by rw [← seven_is hn]; first | (rw [show decide (48 ≤ n) = true by (simp; omega), show decide (n ≤ 57) = true by (simp; omega)]; rfl) | (rw [show (decide (48 ≤ n) && decide (n ≤ 57)) = false by (simp; omega)]; simp [*])), B_w1.out⟩
  · by_cases hc2 : (57 : Int) < ↑n
    · have hd1 : decide (48 ≤ (n : Int)) = true := by simp; omega
      have hd2 : decide ((n : Int) ≤ 57) = false := by simp; omega
      cases hc3 : (oneOf (Utf8.encode (↑n : Int)) sevenB)
      · go_wp2_with (first
          | ((with_reducible refine at_dst (N := 13) rfl ?_); refine wl_guard rfl ?_; refine ev_bs rfl 22 9 7 _ rfl #[.string ⟨#[42]⟩, .string ⟨#[35]⟩, .string ⟨#[36]⟩, .string ⟨#[64]⟩, .string ⟨#[33]⟩, .string ⟨#[63]⟩, .string ⟨#[45]⟩] (by go_simp) ?_; intro g13 w1 hg hB hb
             have low_g13 := Nat.le_trans (Nat.le_refl _) hg
             have B_w1 := Lib.hid (below_trans (Below.refl _ _) hb)
             have g13_w1 : Hid (Blk w1 g13 9 #[.string ⟨#[42]⟩, .string ⟨#[35]⟩, .string ⟨#[36]⟩, .string ⟨#[64]⟩, .string ⟨#[33]⟩, .string ⟨#[63]⟩, .string ⟨#[45]⟩]) := hB
             clear hB hb)
          | (go_at_call 41; (with_reducible refine (oneOf7 (Utf8.encode (↑n : Int)) g13 _ g13_w1.out).mono ?_); rintro e wq ⟨rfl, rfl⟩; rw [hc3]))
        go_ret
        exact HQ.out _ _ ⟨ret_bool (by rw [← seven_is hn]; first | (rw [show decide (48 ≤ n) = true by (simp; omega), show decide (n ≤ 57) = true by (simp; omega)]; rfl) | (rw [show (decide (48 ≤ n) && decide (n ≤ 57)) = false by (simp; omega)]; simp [*])), B_w1.out⟩
      · go_wp2_with (first
          | ((with_reducible refine at_dst (N := 13) rfl ?_); refine wl_guard rfl ?_; refine ev_bs rfl 22 9 7 _ rfl #[.string ⟨#[42]⟩, .string ⟨#[35]⟩, .string ⟨#[36]⟩, .string ⟨#[64]⟩, .string ⟨#[33]⟩, .string ⟨#[63]⟩, .string ⟨#[45]⟩] (by go_simp) ?_; intro g13 w1 hg hB hb
             have low_g13 := Nat.le_trans (Nat.le_refl _) hg
             have B_w1 := Lib.hid (below_trans (Below.refl _ _) hb)
             have g13_w1 : Hid (Blk w1 g13 9 #[.string ⟨#[42]⟩, .string ⟨#[35]⟩, .string ⟨#[36]⟩, .string ⟨#[64]⟩, .string ⟨#[33]⟩, .string ⟨#[63]⟩, .string ⟨#[45]⟩]) := hB
             clear hB hb)
          | (go_at_call 41; (with_reducible refine (oneOf7 (Utf8.encode (↑n : Int)) g13 _ g13_w1.out).mono ?_); rintro e wq ⟨rfl, rfl⟩; rw [hc3]))
        go_ret
        exact HQ.out _ _ ⟨ret_bool (by rw [← seven_is hn]; first | (rw [show decide (48 ≤ n) = true by (simp; omega), show decide (n ≤ 57) = true by (simp; omega)]; rfl) | (rw [show (decide (48 ≤ n) && decide (n ≤ 57)) = false by (simp; omega)]; simp [*])), B_w1.out⟩
    · go_wp2_with fail
      go_ret
      exact HQ.out _ _ ⟨ret_bool (by rw [← seven_is hn]; first | (rw [show decide (48 ≤ n) = true by (simp; omega), show decide (n ≤ 57) = true by (simp; omega)]; rfl) | (rw [show (decide (48 ≤ n) && decide (n ≤ 57)) = false by (simp; omega)]; simp [*])), (Below.refl _ _)⟩
set_option maxRecDepth 100000 in
set_option maxHeartbeats 4000000 in
theorem hlName_any (n : Nat) (w : World)  (hn : n ≤ 127) :
    Calls Try.prog 135 #[.int .u8 (↑n)] w fun e w' => e = .returned (.bool (nmU n)) ∧ Below w.heap.size w w' := by
  have h128 : decide ((n : Int) < 128) = true := by simp; omega
  suffices hQ : ∀ Q : Ending → World → Prop, Hid (∀ (e : Ending) (w' : World), (e = .returned (.bool (nmU n)) ∧ Below w.heap.size w w') → Post1 Q e w') → Calls Try.prog 135 #[.int .u8 (↑n)] w (fun e w' => Post1 Q e w') from hQ (fun e w' => e = .returned (.bool (nmU n)) ∧ Below w.heap.size w w') (fun _ _ h => by unfold Post1; exact h)
  intro Q HQ
  go_enter Try.func135, Try.ntmps135
  cases hc1 : (allB (Utf8.encode (↑n : Int)) ⟨#[95]⟩)
  · go_wp2_with (first
      | (go_at_call 28; (with_reducible refine (hlAll_any (Utf8.encode (↑n : Int)) ⟨#[95]⟩ _ (by have := enc_size (n : Int); omega) (by decide)).mono ?_); rintro e wq ⟨rfl, rfl⟩; rw [hc1]))
    go_ret
    exact HQ.out _ _ ⟨ret_bool (by rw [← under_is hn]; first | exact hc1.symm | (exfalso; omega)), (Below.refl _ _)⟩
  · go_wp2_with (first
      | (go_at_call 28; (with_reducible refine (hlAll_any (Utf8.encode (↑n : Int)) ⟨#[95]⟩ _ (by have := enc_size (n : Int); omega) (by decide)).mono ?_); rintro e wq ⟨rfl, rfl⟩; rw [hc1]))
    go_ret
    exact HQ.out _ _ ⟨ret_bool (by rw [← under_is hn]; first | exact hc1.symm | (exfalso; omega)), (Below.refl _ _)⟩
end Go.Proofs.Ytkjcedlgljeoiaa
