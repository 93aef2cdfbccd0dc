/- FnValidDependency: the walk. -/
import Derived.Test.YtdgblfldbikneaaA11
namespace Go.Proofs.Ytdgblfldbikneaa
open Go.RowKit Go.Lib
set_option linter.unusedVariables false
set_option linter.unusedSimpArgs false
theorem fits3_le {xs : List ByteArray} (h : fits3 xs = true) : ∀ x ∈ xs, x.size ≤ 2147483647 := by
  simp only [fits3, Bool.and_eq_true, List.all_eq_true, decide_eq_true_eq] at h
  exact h.2
theorem someF_len (xs : List ByteArray) : (someF xs).length ≤ 1000000 := by simp [someF]; omega
theorem someF_le (xs : List ByteArray) : ∀ x ∈ someF xs, x.size ≤ 1000000 := by
  intro x hx
  obtain ⟨y, _, rfl⟩ := List.mem_map.1 hx
  exact ascF_mil y
theorem someF_asc (xs : List ByteArray) : ∀ x ∈ someF xs, asciiB x := by
  intro x hx
  obtain ⟨y, _, rfl⟩ := List.mem_map.1 hx
  exact asc_ascii y
theorem valDep_one (w : World) :
    Calls Try.prog 46 #[.agg #[.bool false, .string ⟨#[97, 9, 98]⟩, .string ⟨#[]⟩, .string ⟨#[]⟩, .string ⟨#[]⟩, .slice none 0 0, .string ⟨#[]⟩]] w fun e w' => ∃ A' c', e = .returned (.tuple #[.agg #[.bool false, .string ⟨#[97, 32, 98]⟩, .string ⟨#[]⟩, .string ⟨#[]⟩, .string ⟨#[]⟩, .slice A' 0 c', .string ⟨#[]⟩], .bool false, .int .i64 0]) ∧ w'.ownsRow w.heap.size 9 1 (.slice A' 0 c') 0 [] ∧ Below w.heap.size w w' := by
  have h := valDep_ok ⟨#[97, 9, 98]⟩ ⟨#[]⟩ ⟨#[]⟩ ⟨#[]⟩ ⟨#[]⟩ none 0 [] w Sl.nil (by decide) (by decide) (by decide) (by decide) (by decide) (by simp) (by simp) ascii_ab ascii_e ascii_e ascii_e (by simp) (by decide)
  have e : cleanF ⟨#[]⟩ = ⟨#[]⟩ := by decide
  rw [clean_ab, e] at h
  exact h
theorem valDep_nil0 (w : World) : Calls Try.prog 46 #[.agg #[.bool true, .string ⟨#[]⟩, .string ⟨#[]⟩, .string ⟨#[]⟩, .string ⟨#[]⟩, .slice none 0 0, .string ⟨#[]⟩]] w fun e w' => e = .returned (.tuple #[.agg #[.bool true, .string ⟨#[]⟩, .string ⟨#[]⟩, .string ⟨#[]⟩, .string ⟨#[]⟩, .slice none 0 0, .string ⟨#[]⟩], .bool true, .int .i64 0]) ∧ Below w.heap.size w w' := valDep_nil ⟨#[]⟩ ⟨#[]⟩ ⟨#[]⟩ ⟨#[]⟩ ⟨#[]⟩ none 0 [] w
theorem specDep_nil0 (w : World) : Calls Try.prog 47 #[.agg #[.bool true, .string ⟨#[]⟩, .string ⟨#[]⟩, .string ⟨#[]⟩, .string ⟨#[]⟩, .slice none 0 0, .string ⟨#[]⟩]] w fun e w' => e = .returned (.tuple #[.agg #[.bool true, .string ⟨#[]⟩, .string ⟨#[]⟩, .string ⟨#[]⟩, .string ⟨#[]⟩, .slice none 0 0, .string ⟨#[]⟩], .bool false]) ∧ Below w.heap.size w w' := specDep_nil ⟨#[]⟩ ⟨#[]⟩ ⟨#[]⟩ ⟨#[]⟩ ⟨#[]⟩ none 0 [] w
set_option maxRecDepth 100000 in
set_option maxHeartbeats 4000000 in
theorem fnValidDependency_walk (x : Ty79) (w : World) (hx : x.ok w) :
    Calls Try.prog 12 #[.agg x.cells.toArray] w fun e w' => e = .returned (.bool true) ∧ Below w.heap.size w w' := by
  obtain ⟨n, a, b, r, d, A, c, tags, al⟩ := x
  obtain ⟨ha, hb0, hr, hd, ⟨hs, hcap⟩, hal⟩ := hx
  have La : a.size ≤ 9223372036854775807 := by simpa [maxLen] using ha
  have Lb : b.size ≤ 9223372036854775807 := by simpa [maxLen] using hb0
  have Lr : r.size ≤ 9223372036854775807 := by simpa [maxLen] using hr
  have Ld : d.size ≤ 9223372036854775807 := by simpa [maxLen] using hd
  have Lal : al.size ≤ 9223372036854775807 := by simpa [maxLen] using hal
  have hf := fun W (hw : (⟨n, a, b, r, d, A, c, tags, al⟩ : Ty79).ok W) => fits44_any ⟨n, a, b, r, d, A, c, tags, al⟩ W hw
  have HS := Lib.hid (show Sl w A (strs tags) from hs)
  simp only [Ty79.cells]
  cases hq : fits44 ⟨n, a, b, r, d, A, c, tags, al⟩
  · rw [hq] at hf
    have hf2 := fun W (hbw : Below w.heap.size w W) => hf W ⟨ha, hb0, hr, hd, ⟨hs.below hbw, hcap⟩, hal⟩
    have HC := Lib.hid hf2
    clear hf hf2 hq ha hb0 hr hd hs hal
    go_enter Try.func12, Try.ntmps12
    go_wp2_with (first
      | ((with_reducible refine at_dst (N := 1) rfl ?_); refine ev_box rfl 79 _ rfl _ rfl ?_; intro g1 w1 hg hB hb
         have low_g1 := Nat.le_trans (Nat.le_refl _) hg
         have B_w1 := Lib.hid (below_trans (Below.refl _ _) hb)
         have g1_w1 : Hid (Blk w1 g1 79 #[.bool n, .string a, .string b, .string r, .string d, .slice A tags.length c, .string al]) := hB
         clear hB hb)
      | ((with_reducible refine at_dst (N := 11) rfl ?_); refine ev_loadB rfl 79 _ rfl g1 rfl 79 _ g1_w1.out _ Try.underlying79 rfl tsz79 ?_)
      | (go_at_call 44; (with_reducible refine (HC.out _ B_w1.out).mono ?_); rintro e w2 ⟨rfl, hb⟩
         have g1_w2 := Lib.hid (g1_w1.out.below hb)
         have B_w2 := Lib.hid (below_trans B_w1.out hb)
         clear hb))
    (try simp only [Exit.inBlock, Exit.then])
    refine bodyPost_ret (v := .bool true) (results1 Try.results12 rfl) rfl ?_
    exact ⟨rfl, B_w2.out⟩
  · rw [hq] at hf
    have hf2 := fun W (hbw : Below w.heap.size w W) => hf W ⟨ha, hb0, hr, hd, ⟨hs.below hbw, hcap⟩, hal⟩
    have HC := Lib.hid hf2
    have ht3 : fits3 tags = true := by
      simp only [fits44, Bool.and_eq_true] at hq
      exact hq.1.2
    have HT : Hid (∀ x ∈ tags, x.size ≤ 9223372036854775807) := fun x hx => Nat.le_trans (fits3_le ht3 x hx) (by decide)
    have HCL : (cleansF (someF tags)).length ≤ 9223372036854775807 := by rw [cleansF_len]; exact Nat.le_trans (someF_len tags) (by decide)
    clear hf hf2 hq ht3 ha hb0 hr hd hs hal
    cases n
    · cases hal0 : aliasF (ascF al)
      · have HAL := Lib.hid hal0
        clear hal0
        go_enter Try.func12, Try.ntmps12
        go_wp2_with (first
          | ((with_reducible refine at_dst (N := 1) rfl ?_); refine ev_box rfl 79 _ rfl _ rfl ?_; intro g1 w1 hg hB hb
             have low_g1 := Nat.le_trans (Nat.le_refl _) hg
             have B_w1 := Lib.hid (below_trans (Below.refl _ _) hb)
             have g1_w1 : Hid (Blk w1 g1 79 #[.bool false, .string a, .string b, .string r, .string d, .slice A tags.length c, .string al]) := hB
             clear hB hb)
          | ((with_reducible refine at_dst (N := 11) rfl ?_); refine ev_loadB rfl 79 _ rfl g1 rfl 79 _ g1_w1.out _ Try.underlying79 rfl tsz79 ?_)
          | (go_at_call 44; (with_reducible refine (HC.out _ B_w1.out).mono ?_); rintro e w2 ⟨rfl, hb⟩
             have g1_w2 := Lib.hid (g1_w1.out.below hb)
             have B_w2 := Lib.hid (below_trans B_w1.out hb)
             clear hb)
          | ((with_reducible refine at_dst (N := 14) rfl ?_); refine ev_loadB rfl 79 _ rfl g1 rfl 79 _ g1_w2.out _ Try.underlying79 rfl tsz79 ?_)
          | (go_at_call 45; (with_reducible refine (chDep_some a b r d al A c tags _ La Lb Lr Ld Lal HT.out (HS.out.below B_w2.out)).mono ?_); rintro e w3 ⟨A15, c15, rfl, ho, hb⟩
             have g1_w3 := Lib.hid (g1_w2.out.below hb)
             have B_w3 := Lib.hid (below_trans B_w2.out hb)
             have o15 := Lib.hid (own_mono ho B_w2.out.size)
             clear ho
             clear hb)
          | (refine ev_store rfl 79 _ _ rfl g1 _ _ rfl rfl 79 g1_w3.out tsz79 rfl rfl ?_; intro w4 hB hg hz
             have o15_w4 := Lib.hid (own_grown o15.out hg (own_ne o15.out g1_w3.out (by decide)))
             have B_w4 := Lib.hid (below_grown B_w3.out hg B_w3.out.size low_g1)
             have g1_w4 : Hid (Blk w4 g1 79 #[.bool false, .string (ascF a), .string (ascF b), .string (ascF r), .string (ascF d), .slice A15 ((someF tags).length) c15, .string (ascF al)]) := hB
             clear hB hg hz)
          | ((with_reducible refine at_dst (N := 17) rfl ?_); refine ev_loadB rfl 79 _ rfl g1 rfl 79 _ g1_w4.out _ Try.underlying79 rfl tsz79 ?_)
          | (go_at_call 46; (with_reducible refine (valDep_bad _ _ _ _ _ A15 c15 _ _ (own_sl1 o15_w4.out (Nat.le_trans (someF_len tags) (by decide))) (ascF_mil a) (ascF_mil b) (ascF_mil r) (ascF_mil d) (ascF_mil al) (someF_le tags) (someF_asc tags) (asc_ascii a) (asc_ascii b) (asc_ascii r) (asc_ascii d) (someF_len tags) HAL.out).mono ?_); rintro e w5 ⟨A18, c18, rfl, ho, hb⟩
             have g1_w5 := Lib.hid (g1_w4.out.below hb)
             have o15_w5 := Lib.hid (own_below o15_w4.out hb)
             have B_w5 := Lib.hid (below_trans B_w4.out hb)
             have o18 := Lib.hid (own_mono ho B_w4.out.size)
             clear ho
             clear hb)
          | ((with_reducible refine at_dst (N := 3) rfl ?_); refine ev_alloc rfl 79 rfl _ _ tz79 ?_; intro g3 w6 hg hB hb
             have n_g1_g3 : g1 ≠ g3 := by have := g1_w5.out.lt; omega
             have low_g3 := Nat.le_trans B_w5.out.size hg
             have g1_w6 := Lib.hid (g1_w5.out.below hb)
             have o15_w6 := Lib.hid (own_below o15_w5.out hb)
             have o18_w6 := Lib.hid (own_below o18.out hb)
             have B_w6 := Lib.hid (below_trans B_w5.out hb)
             have g3_w6 : Hid (Blk w6 g3 79 #[.bool false, .string ⟨#[]⟩, .string ⟨#[]⟩, .string ⟨#[]⟩, .string ⟨#[]⟩, .slice none 0 0, .string ⟨#[]⟩]) := hB
             clear hB hb)
          | (refine ev_store rfl 79 _ _ rfl g3 _ _ rfl rfl 79 g3_w6.out tsz79 rfl rfl ?_; intro w7 hB hg hz
             have g1_w7 := Lib.hid (g1_w6.out.grown hg n_g1_g3)
             have o15_w7 := Lib.hid (own_grown o15_w6.out hg (own_ne o15_w6.out g3_w6.out (by decide)))
             have o18_w7 := Lib.hid (own_grown o18_w6.out hg (own_ne o18_w6.out g3_w6.out (by decide)))
             have B_w7 := Lib.hid (below_grown B_w6.out hg B_w6.out.size low_g3)
             have g3_w7 : Hid (Blk w7 g3 79 #[.bool false, .string (cleanF (ascF a)), .string (cleanF (ascF b)), .string (cleanF (ascF r)), .string (cleanF (ascF d)), .slice A18 ((someF tags).length) c18, .string (ascF al)]) := hB
             clear hB hg hz)
          | ((with_reducible refine at_dst (N := 23) rfl ?_); refine ev_loadB rfl 79 _ rfl g1 rfl 79 _ g1_w7.out _ Try.underlying79 rfl tsz79 ?_)
          | (go_at_call 47; (with_reducible refine (specDep_some _ _ _ _ _ A15 c15 _ _ (ascF_mil a) (ascF_mil b) (ascF_mil r) (ascF_mil d) (ascF_mil al) (someF_le tags) (own_sl1 o15_w7.out (Nat.le_trans (someF_len tags) (by decide))) (someF_len tags)).mono ?_); rintro e w8 ⟨A24, c24, rfl, ho, hb⟩
             have g1_w8 := Lib.hid (g1_w7.out.below hb)
             have o15_w8 := Lib.hid (own_below o15_w7.out hb)
             have o18_w8 := Lib.hid (own_below o18_w7.out hb)
             have g3_w8 := Lib.hid (g3_w7.out.below hb)
             have B_w8 := Lib.hid (below_trans B_w7.out hb)
             rw [HAL.out]
             have o24 := Lib.hid (own_mono ho B_w7.out.size)
             clear ho
             clear hb)
          | ((with_reducible refine at_dst (N := 6) rfl ?_); refine ev_alloc rfl 79 rfl _ _ tz79 ?_; intro g6 w9 hg hB hb
             have n_g1_g6 : g1 ≠ g6 := by have := g1_w8.out.lt; omega
             have n_g3_g6 : g3 ≠ g6 := by have := g3_w8.out.lt; omega
             have low_g6 := Nat.le_trans B_w8.out.size hg
             have g1_w9 := Lib.hid (g1_w8.out.below hb)
             have o15_w9 := Lib.hid (own_below o15_w8.out hb)
             have o18_w9 := Lib.hid (own_below o18_w8.out hb)
             have g3_w9 := Lib.hid (g3_w8.out.below hb)
             have o24_w9 := Lib.hid (own_below o24.out hb)
             have B_w9 := Lib.hid (below_trans B_w8.out hb)
             have g6_w9 : Hid (Blk w9 g6 79 #[.bool false, .string ⟨#[]⟩, .string ⟨#[]⟩, .string ⟨#[]⟩, .string ⟨#[]⟩, .slice none 0 0, .string ⟨#[]⟩]) := hB
             clear hB hb)
          | (refine ev_store rfl 79 _ _ rfl g6 _ _ rfl rfl 79 g6_w9.out tsz79 rfl rfl ?_; intro w10 hB hg hz
             have g1_w10 := Lib.hid (g1_w9.out.grown hg n_g1_g6)
             have o15_w10 := Lib.hid (own_grown o15_w9.out hg (own_ne o15_w9.out g6_w9.out (by decide)))
             have o18_w10 := Lib.hid (own_grown o18_w9.out hg (own_ne o18_w9.out g6_w9.out (by decide)))
             have g3_w10 := Lib.hid (g3_w9.out.grown hg n_g3_g6)
             have o24_w10 := Lib.hid (own_grown o24_w9.out hg (own_ne o24_w9.out g6_w9.out (by decide)))
             have B_w10 := Lib.hid (below_grown B_w9.out hg B_w9.out.size low_g6)
             have g6_w10 : Hid (Blk w10 g6 79 #[.bool false, .string (cleanF (ascF a)), .string (cleanF (ascF b)), .string (cleanF (ascF r)), .string (cleanF (ascF d)), .slice A24 ((cleansF (someF tags)).length) c24, .string (ascF al)]) := hB
             clear hB hg hz)
          | (go_at_call 46; (with_reducible refine (valDep_one _).mono ?_); rintro e w11 ⟨A29, c29, rfl, ho, hb⟩
             have g1_w11 := Lib.hid (g1_w10.out.below hb)
             have o15_w11 := Lib.hid (own_below o15_w10.out hb)
             have o18_w11 := Lib.hid (own_below o18_w10.out hb)
             have g3_w11 := Lib.hid (g3_w10.out.below hb)
             have o24_w11 := Lib.hid (own_below o24_w10.out hb)
             have g6_w11 := Lib.hid (g6_w10.out.below hb)
             have B_w11 := Lib.hid (below_trans B_w10.out hb)
             clear ho
             clear hb)
          | ((with_reducible refine at_dst (N := 8) rfl ?_); refine ev_alloc rfl 79 rfl _ _ tz79 ?_; intro g8 w12 hg hB hb
             have n_g1_g8 : g1 ≠ g8 := by have := g1_w11.out.lt; omega
             have n_g3_g8 : g3 ≠ g8 := by have := g3_w11.out.lt; omega
             have n_g6_g8 : g6 ≠ g8 := by have := g6_w11.out.lt; omega
             have low_g8 := Nat.le_trans B_w11.out.size hg
             have g1_w12 := Lib.hid (g1_w11.out.below hb)
             have o15_w12 := Lib.hid (own_below o15_w11.out hb)
             have o18_w12 := Lib.hid (own_below o18_w11.out hb)
             have g3_w12 := Lib.hid (g3_w11.out.below hb)
             have o24_w12 := Lib.hid (own_below o24_w11.out hb)
             have g6_w12 := Lib.hid (g6_w11.out.below hb)
             have B_w12 := Lib.hid (below_trans B_w11.out hb)
             have g8_w12 : Hid (Blk w12 g8 79 #[.bool false, .string ⟨#[]⟩, .string ⟨#[]⟩, .string ⟨#[]⟩, .string ⟨#[]⟩, .slice none 0 0, .string ⟨#[]⟩]) := hB
             clear hB hb)
          | (refine ev_store rfl 79 _ _ rfl g8 _ _ rfl rfl 79 g8_w12.out tsz79 rfl rfl ?_; intro w13 hB hg hz
             have g1_w13 := Lib.hid (g1_w12.out.grown hg n_g1_g8)
             have o15_w13 := Lib.hid (own_grown o15_w12.out hg (own_ne o15_w12.out g8_w12.out (by decide)))
             have o18_w13 := Lib.hid (own_grown o18_w12.out hg (own_ne o18_w12.out g8_w12.out (by decide)))
             have g3_w13 := Lib.hid (g3_w12.out.grown hg n_g3_g8)
             have o24_w13 := Lib.hid (own_grown o24_w12.out hg (own_ne o24_w12.out g8_w12.out (by decide)))
             have g6_w13 := Lib.hid (g6_w12.out.grown hg n_g6_g8)
             have B_w13 := Lib.hid (below_grown B_w12.out hg B_w12.out.size low_g8)
             have g8_w13 : Hid (Blk w13 g8 79 #[.bool false, .string ⟨#[97, 32, 98]⟩, .string ⟨#[]⟩, .string ⟨#[]⟩, .string ⟨#[]⟩, .slice A29 0 c29, .string ⟨#[]⟩]) := hB
             clear hB hg hz)
          | ((with_reducible refine at_dst (N := 43) rfl ?_); refine wl_guard rfl ?_; refine ev_ld rfl 4 _ rfl ⟨g1, 0, none⟩ rfl (.bool false) (g1_w13.out.cell 0) _ Try.underlying4 rfl ?_)
          | ((with_reducible refine at_dst (N := 45) rfl ?_); refine wl_guard rfl ?_; refine ev_loadB rfl 79 _ rfl g3 rfl 79 _ g3_w13.out _ Try.underlying79 rfl tsz79 ?_)
          | ((with_reducible refine at_dst (N := 46) rfl ?_); refine wl_guard rfl ?_; refine ev_loadB rfl 79 _ rfl g6 rfl 79 _ g6_w13.out _ Try.underlying79 rfl tsz79 ?_)
          | (go_at_call 48; (with_reducible refine (chSameDep_eq _ _ _ _ _ A18 _ c18 _ A24 _ c24 _ (own_sl1 o18_w13.out (Nat.le_trans (someF_len tags) (by decide))) (own_sl1 o24_w13.out HCL) (cleansF_len _) rfl).mono ?_); rintro e w14 ⟨rfl, hb⟩
             have g1_w14 := Lib.hid (g1_w13.out.below hb)
             have o15_w14 := Lib.hid (own_below o15_w13.out hb)
             have o18_w14 := Lib.hid (own_below o18_w13.out hb)
             have g3_w14 := Lib.hid (g3_w13.out.below hb)
             have o24_w14 := Lib.hid (own_below o24_w13.out hb)
             have g6_w14 := Lib.hid (g6_w13.out.below hb)
             have g8_w14 := Lib.hid (g8_w13.out.below hb)
             have B_w14 := Lib.hid (below_trans B_w13.out hb)
             clear hb)
          | ((with_reducible refine at_dst (N := 52) rfl ?_); refine wl_guard rfl ?_; refine ev_ld rfl 9 _ rfl ⟨g8, 1, none⟩ rfl (.string ⟨#[97, 32, 98]⟩) (g8_w14.out.cell 1) _ Try.underlying9 rfl ?_))
        (try simp only [Exit.inBlock, Exit.then])
        refine bodyPost_ret (v := .bool true) (results1 Try.results12 rfl) rfl ?_
        exact ⟨rfl, B_w14.out⟩
      · have HAL := Lib.hid hal0
        clear hal0
        go_enter Try.func12, Try.ntmps12
        go_wp2_with (first
          | ((with_reducible refine at_dst (N := 1) rfl ?_); refine ev_box rfl 79 _ rfl _ rfl ?_; intro g1 w1 hg hB hb
             have low_g1 := Nat.le_trans (Nat.le_refl _) hg
             have B_w1 := Lib.hid (below_trans (Below.refl _ _) hb)
             have g1_w1 : Hid (Blk w1 g1 79 #[.bool false, .string a, .string b, .string r, .string d, .slice A tags.length c, .string al]) := hB
             clear hB hb)
          | ((with_reducible refine at_dst (N := 11) rfl ?_); refine ev_loadB rfl 79 _ rfl g1 rfl 79 _ g1_w1.out _ Try.underlying79 rfl tsz79 ?_)
          | (go_at_call 44; (with_reducible refine (HC.out _ B_w1.out).mono ?_); rintro e w2 ⟨rfl, hb⟩
             have g1_w2 := Lib.hid (g1_w1.out.below hb)
             have B_w2 := Lib.hid (below_trans B_w1.out hb)
             clear hb)
          | ((with_reducible refine at_dst (N := 14) rfl ?_); refine ev_loadB rfl 79 _ rfl g1 rfl 79 _ g1_w2.out _ Try.underlying79 rfl tsz79 ?_)
          | (go_at_call 45; (with_reducible refine (chDep_some a b r d al A c tags _ La Lb Lr Ld Lal HT.out (HS.out.below B_w2.out)).mono ?_); rintro e w3 ⟨A15, c15, rfl, ho, hb⟩
             have g1_w3 := Lib.hid (g1_w2.out.below hb)
             have B_w3 := Lib.hid (below_trans B_w2.out hb)
             have o15 := Lib.hid (own_mono ho B_w2.out.size)
             clear ho
             clear hb)
          | (refine ev_store rfl 79 _ _ rfl g1 _ _ rfl rfl 79 g1_w3.out tsz79 rfl rfl ?_; intro w4 hB hg hz
             have o15_w4 := Lib.hid (own_grown o15.out hg (own_ne o15.out g1_w3.out (by decide)))
             have B_w4 := Lib.hid (below_grown B_w3.out hg B_w3.out.size low_g1)
             have g1_w4 : Hid (Blk w4 g1 79 #[.bool false, .string (ascF a), .string (ascF b), .string (ascF r), .string (ascF d), .slice A15 ((someF tags).length) c15, .string (ascF al)]) := hB
             clear hB hg hz)
          | ((with_reducible refine at_dst (N := 17) rfl ?_); refine ev_loadB rfl 79 _ rfl g1 rfl 79 _ g1_w4.out _ Try.underlying79 rfl tsz79 ?_)
          | (go_at_call 46; (with_reducible refine (valDep_ok _ _ _ _ _ A15 c15 _ _ (own_sl1 o15_w4.out (Nat.le_trans (someF_len tags) (by decide))) (ascF_mil a) (ascF_mil b) (ascF_mil r) (ascF_mil d) (ascF_mil al) (someF_le tags) (someF_asc tags) (asc_ascii a) (asc_ascii b) (asc_ascii r) (asc_ascii d) (someF_len tags) HAL.out).mono ?_); rintro e w5 ⟨A18, c18, rfl, ho, hb⟩
             have g1_w5 := Lib.hid (g1_w4.out.below hb)
             have o15_w5 := Lib.hid (own_below o15_w4.out hb)
             have B_w5 := Lib.hid (below_trans B_w4.out hb)
             have o18 := Lib.hid (own_mono ho B_w4.out.size)
             clear ho
             clear hb)
          | ((with_reducible refine at_dst (N := 3) rfl ?_); refine ev_alloc rfl 79 rfl _ _ tz79 ?_; intro g3 w6 hg hB hb
             have n_g1_g3 : g1 ≠ g3 := by have := g1_w5.out.lt; omega
             have low_g3 := Nat.le_trans B_w5.out.size hg
             have g1_w6 := Lib.hid (g1_w5.out.below hb)
             have o15_w6 := Lib.hid (own_below o15_w5.out hb)
             have o18_w6 := Lib.hid (own_below o18.out hb)
             have B_w6 := Lib.hid (below_trans B_w5.out hb)
             have g3_w6 : Hid (Blk w6 g3 79 #[.bool false, .string ⟨#[]⟩, .string ⟨#[]⟩, .string ⟨#[]⟩, .string ⟨#[]⟩, .slice none 0 0, .string ⟨#[]⟩]) := hB
             clear hB hb)
          | (refine ev_store rfl 79 _ _ rfl g3 _ _ rfl rfl 79 g3_w6.out tsz79 rfl rfl ?_; intro w7 hB hg hz
             have g1_w7 := Lib.hid (g1_w6.out.grown hg n_g1_g3)
             have o15_w7 := Lib.hid (own_grown o15_w6.out hg (own_ne o15_w6.out g3_w6.out (by decide)))
             have o18_w7 := Lib.hid (own_grown o18_w6.out hg (own_ne o18_w6.out g3_w6.out (by decide)))
             have B_w7 := Lib.hid (below_grown B_w6.out hg B_w6.out.size low_g3)
             have g3_w7 : Hid (Blk w7 g3 79 #[.bool false, .string (cleanF (ascF a)), .string (cleanF (ascF b)), .string (cleanF (ascF r)), .string (cleanF (ascF d)), .slice A18 ((someF tags).length) c18, .string (ascF al)]) := hB
             clear hB hg hz)
          | ((with_reducible refine at_dst (N := 23) rfl ?_); refine ev_loadB rfl 79 _ rfl g1 rfl 79 _ g1_w7.out _ Try.underlying79 rfl tsz79 ?_)
          | (go_at_call 47; (with_reducible refine (specDep_some _ _ _ _ _ A15 c15 _ _ (ascF_mil a) (ascF_mil b) (ascF_mil r) (ascF_mil d) (ascF_mil al) (someF_le tags) (own_sl1 o15_w7.out (Nat.le_trans (someF_len tags) (by decide))) (someF_len tags)).mono ?_); rintro e w8 ⟨A24, c24, rfl, ho, hb⟩
             have g1_w8 := Lib.hid (g1_w7.out.below hb)
             have o15_w8 := Lib.hid (own_below o15_w7.out hb)
             have o18_w8 := Lib.hid (own_below o18_w7.out hb)
             have g3_w8 := Lib.hid (g3_w7.out.below hb)
             have B_w8 := Lib.hid (below_trans B_w7.out hb)
             rw [HAL.out]
             have o24 := Lib.hid (own_mono ho B_w7.out.size)
             clear ho
             clear hb)
          | ((with_reducible refine at_dst (N := 6) rfl ?_); refine ev_alloc rfl 79 rfl _ _ tz79 ?_; intro g6 w9 hg hB hb
             have n_g1_g6 : g1 ≠ g6 := by have := g1_w8.out.lt; omega
             have n_g3_g6 : g3 ≠ g6 := by have := g3_w8.out.lt; omega
             have low_g6 := Nat.le_trans B_w8.out.size hg
             have g1_w9 := Lib.hid (g1_w8.out.below hb)
             have o15_w9 := Lib.hid (own_below o15_w8.out hb)
             have o18_w9 := Lib.hid (own_below o18_w8.out hb)
             have g3_w9 := Lib.hid (g3_w8.out.below hb)
             have o24_w9 := Lib.hid (own_below o24.out hb)
             have B_w9 := Lib.hid (below_trans B_w8.out hb)
             have g6_w9 : Hid (Blk w9 g6 79 #[.bool false, .string ⟨#[]⟩, .string ⟨#[]⟩, .string ⟨#[]⟩, .string ⟨#[]⟩, .slice none 0 0, .string ⟨#[]⟩]) := hB
             clear hB hb)
          | (refine ev_store rfl 79 _ _ rfl g6 _ _ rfl rfl 79 g6_w9.out tsz79 rfl rfl ?_; intro w10 hB hg hz
             have g1_w10 := Lib.hid (g1_w9.out.grown hg n_g1_g6)
             have o15_w10 := Lib.hid (own_grown o15_w9.out hg (own_ne o15_w9.out g6_w9.out (by decide)))
             have o18_w10 := Lib.hid (own_grown o18_w9.out hg (own_ne o18_w9.out g6_w9.out (by decide)))
             have g3_w10 := Lib.hid (g3_w9.out.grown hg n_g3_g6)
             have o24_w10 := Lib.hid (own_grown o24_w9.out hg (own_ne o24_w9.out g6_w9.out (by decide)))
             have B_w10 := Lib.hid (below_grown B_w9.out hg B_w9.out.size low_g6)
             have g6_w10 : Hid (Blk w10 g6 79 #[.bool false, .string (cleanF (ascF a)), .string (cleanF (ascF b)), .string (cleanF (ascF r)), .string (cleanF (ascF d)), .slice A24 ((cleansF (someF tags)).length) c24, .string (ascF al)]) := hB
             clear hB hg hz)
          | (go_at_call 46; (with_reducible refine (valDep_one _).mono ?_); rintro e w11 ⟨A29, c29, rfl, ho, hb⟩
             have g1_w11 := Lib.hid (g1_w10.out.below hb)
             have o15_w11 := Lib.hid (own_below o15_w10.out hb)
             have o18_w11 := Lib.hid (own_below o18_w10.out hb)
             have g3_w11 := Lib.hid (g3_w10.out.below hb)
             have o24_w11 := Lib.hid (own_below o24_w10.out hb)
             have g6_w11 := Lib.hid (g6_w10.out.below hb)
             have B_w11 := Lib.hid (below_trans B_w10.out hb)
             clear ho
             clear hb)
          | ((with_reducible refine at_dst (N := 8) rfl ?_); refine ev_alloc rfl 79 rfl _ _ tz79 ?_; intro g8 w12 hg hB hb
             have n_g1_g8 : g1 ≠ g8 := by have := g1_w11.out.lt; omega
             have n_g3_g8 : g3 ≠ g8 := by have := g3_w11.out.lt; omega
             have n_g6_g8 : g6 ≠ g8 := by have := g6_w11.out.lt; omega
             have low_g8 := Nat.le_trans B_w11.out.size hg
             have g1_w12 := Lib.hid (g1_w11.out.below hb)
             have o15_w12 := Lib.hid (own_below o15_w11.out hb)
             have o18_w12 := Lib.hid (own_below o18_w11.out hb)
             have g3_w12 := Lib.hid (g3_w11.out.below hb)
             have o24_w12 := Lib.hid (own_below o24_w11.out hb)
             have g6_w12 := Lib.hid (g6_w11.out.below hb)
             have B_w12 := Lib.hid (below_trans B_w11.out hb)
             have g8_w12 : Hid (Blk w12 g8 79 #[.bool false, .string ⟨#[]⟩, .string ⟨#[]⟩, .string ⟨#[]⟩, .string ⟨#[]⟩, .slice none 0 0, .string ⟨#[]⟩]) := hB
             clear hB hb)
          | (refine ev_store rfl 79 _ _ rfl g8 _ _ rfl rfl 79 g8_w12.out tsz79 rfl rfl ?_; intro w13 hB hg hz
             have g1_w13 := Lib.hid (g1_w12.out.grown hg n_g1_g8)
             have o15_w13 := Lib.hid (own_grown o15_w12.out hg (own_ne o15_w12.out g8_w12.out (by decide)))
             have o18_w13 := Lib.hid (own_grown o18_w12.out hg (own_ne o18_w12.out g8_w12.out (by decide)))
             have g3_w13 := Lib.hid (g3_w12.out.grown hg n_g3_g8)
             have o24_w13 := Lib.hid (own_grown o24_w12.out hg (own_ne o24_w12.out g8_w12.out (by decide)))
             have g6_w13 := Lib.hid (g6_w12.out.grown hg n_g6_g8)
             have B_w13 := Lib.hid (below_grown B_w12.out hg B_w12.out.size low_g8)
             have g8_w13 : Hid (Blk w13 g8 79 #[.bool false, .string ⟨#[97, 32, 98]⟩, .string ⟨#[]⟩, .string ⟨#[]⟩, .string ⟨#[]⟩, .slice A29 0 c29, .string ⟨#[]⟩]) := hB
             clear hB hg hz)
          | ((with_reducible refine at_dst (N := 43) rfl ?_); refine wl_guard rfl ?_; refine ev_ld rfl 4 _ rfl ⟨g1, 0, none⟩ rfl (.bool false) (g1_w13.out.cell 0) _ Try.underlying4 rfl ?_)
          | ((with_reducible refine at_dst (N := 45) rfl ?_); refine wl_guard rfl ?_; refine ev_loadB rfl 79 _ rfl g3 rfl 79 _ g3_w13.out _ Try.underlying79 rfl tsz79 ?_)
          | ((with_reducible refine at_dst (N := 46) rfl ?_); refine wl_guard rfl ?_; refine ev_loadB rfl 79 _ rfl g6 rfl 79 _ g6_w13.out _ Try.underlying79 rfl tsz79 ?_)
          | (go_at_call 48; (with_reducible refine (chSameDep_eq _ _ _ _ _ A18 _ c18 _ A24 _ c24 _ (own_sl1 o18_w13.out (Nat.le_trans (someF_len tags) (by decide))) (own_sl1 o24_w13.out HCL) (cleansF_len _) rfl).mono ?_); rintro e w14 ⟨rfl, hb⟩
             have g1_w14 := Lib.hid (g1_w13.out.below hb)
             have o15_w14 := Lib.hid (own_below o15_w13.out hb)
             have o18_w14 := Lib.hid (own_below o18_w13.out hb)
             have g3_w14 := Lib.hid (g3_w13.out.below hb)
             have o24_w14 := Lib.hid (own_below o24_w13.out hb)
             have g6_w14 := Lib.hid (g6_w13.out.below hb)
             have g8_w14 := Lib.hid (g8_w13.out.below hb)
             have B_w14 := Lib.hid (below_trans B_w13.out hb)
             clear hb)
          | ((with_reducible refine at_dst (N := 52) rfl ?_); refine wl_guard rfl ?_; refine ev_ld rfl 9 _ rfl ⟨g8, 1, none⟩ rfl (.string ⟨#[97, 32, 98]⟩) (g8_w14.out.cell 1) _ Try.underlying9 rfl ?_))
        (try simp only [Exit.inBlock, Exit.then])
        refine bodyPost_ret (v := .bool true) (results1 Try.results12 rfl) rfl ?_
        exact ⟨rfl, B_w14.out⟩
    · go_enter Try.func12, Try.ntmps12
      go_wp2_with (first
        | ((with_reducible refine at_dst (N := 1) rfl ?_); refine ev_box rfl 79 _ rfl _ rfl ?_; intro g1 w1 hg hB hb
           have low_g1 := Nat.le_trans (Nat.le_refl _) hg
           have B_w1 := Lib.hid (below_trans (Below.refl _ _) hb)
           have g1_w1 : Hid (Blk w1 g1 79 #[.bool true, .string a, .string b, .string r, .string d, .slice A tags.length c, .string al]) := hB
           clear hB hb)
        | ((with_reducible refine at_dst (N := 11) rfl ?_); refine ev_loadB rfl 79 _ rfl g1 rfl 79 _ g1_w1.out _ Try.underlying79 rfl tsz79 ?_)
        | (go_at_call 44; (with_reducible refine (HC.out _ B_w1.out).mono ?_); rintro e w2 ⟨rfl, hb⟩
           have g1_w2 := Lib.hid (g1_w1.out.below hb)
           have B_w2 := Lib.hid (below_trans B_w1.out hb)
           clear hb)
        | ((with_reducible refine at_dst (N := 14) rfl ?_); refine ev_loadB rfl 79 _ rfl g1 rfl 79 _ g1_w2.out _ Try.underlying79 rfl tsz79 ?_)
        | (go_at_call 45; (with_reducible refine (chDep_nil a b r d al A c tags _).mono ?_); rintro e w3 ⟨rfl, hb⟩
           have g1_w3 := Lib.hid (g1_w2.out.below hb)
           have B_w3 := Lib.hid (below_trans B_w2.out hb)
           clear hb)
        | (refine ev_store rfl 79 _ _ rfl g1 _ _ rfl rfl 79 g1_w3.out tsz79 rfl rfl ?_; intro w4 hB hg hz
           have B_w4 := Lib.hid (below_grown B_w3.out hg B_w3.out.size low_g1)
           have g1_w4 : Hid (Blk w4 g1 79 #[.bool true, .string ⟨#[]⟩, .string ⟨#[]⟩, .string ⟨#[]⟩, .string ⟨#[]⟩, .slice none 0 0, .string ⟨#[]⟩]) := hB
           clear hB hg hz)
        | ((with_reducible refine at_dst (N := 17) rfl ?_); refine ev_loadB rfl 79 _ rfl g1 rfl 79 _ g1_w4.out _ Try.underlying79 rfl tsz79 ?_)
        | (go_at_call 46; (with_reducible refine (valDep_nil0 _).mono ?_); rintro e w5 ⟨rfl, hb⟩
           have g1_w5 := Lib.hid (g1_w4.out.below hb)
           have B_w5 := Lib.hid (below_trans B_w4.out hb)
           clear hb)
        | ((with_reducible refine at_dst (N := 3) rfl ?_); refine ev_alloc rfl 79 rfl _ _ tz79 ?_; intro g3 w6 hg hB hb
           have n_g1_g3 : g1 ≠ g3 := by have := g1_w5.out.lt; omega
           have low_g3 := Nat.le_trans B_w5.out.size hg
           have g1_w6 := Lib.hid (g1_w5.out.below hb)
           have B_w6 := Lib.hid (below_trans B_w5.out hb)
           have g3_w6 : Hid (Blk w6 g3 79 #[.bool false, .string ⟨#[]⟩, .string ⟨#[]⟩, .string ⟨#[]⟩, .string ⟨#[]⟩, .slice none 0 0, .string ⟨#[]⟩]) := hB
           clear hB hb)
        | (refine ev_store rfl 79 _ _ rfl g3 _ _ rfl rfl 79 g3_w6.out tsz79 rfl rfl ?_; intro w7 hB hg hz
           have g1_w7 := Lib.hid (g1_w6.out.grown hg n_g1_g3)
           have B_w7 := Lib.hid (below_grown B_w6.out hg B_w6.out.size low_g3)
           have g3_w7 : Hid (Blk w7 g3 79 #[.bool true, .string ⟨#[]⟩, .string ⟨#[]⟩, .string ⟨#[]⟩, .string ⟨#[]⟩, .slice none 0 0, .string ⟨#[]⟩]) := hB
           clear hB hg hz)
        | ((with_reducible refine at_dst (N := 23) rfl ?_); refine ev_loadB rfl 79 _ rfl g1 rfl 79 _ g1_w7.out _ Try.underlying79 rfl tsz79 ?_)
        | (go_at_call 47; (with_reducible refine (specDep_nil0 _).mono ?_); rintro e w8 ⟨rfl, hb⟩
           have g1_w8 := Lib.hid (g1_w7.out.below hb)
           have g3_w8 := Lib.hid (g3_w7.out.below hb)
           have B_w8 := Lib.hid (below_trans B_w7.out hb)
           clear hb)
        | ((with_reducible refine at_dst (N := 6) rfl ?_); refine ev_alloc rfl 79 rfl _ _ tz79 ?_; intro g6 w9 hg hB hb
           have n_g1_g6 : g1 ≠ g6 := by have := g1_w8.out.lt; omega
           have n_g3_g6 : g3 ≠ g6 := by have := g3_w8.out.lt; omega
           have low_g6 := Nat.le_trans B_w8.out.size hg
           have g1_w9 := Lib.hid (g1_w8.out.below hb)
           have g3_w9 := Lib.hid (g3_w8.out.below hb)
           have B_w9 := Lib.hid (below_trans B_w8.out hb)
           have g6_w9 : Hid (Blk w9 g6 79 #[.bool false, .string ⟨#[]⟩, .string ⟨#[]⟩, .string ⟨#[]⟩, .string ⟨#[]⟩, .slice none 0 0, .string ⟨#[]⟩]) := hB
           clear hB hb)
        | (refine ev_store rfl 79 _ _ rfl g6 _ _ rfl rfl 79 g6_w9.out tsz79 rfl rfl ?_; intro w10 hB hg hz
           have g1_w10 := Lib.hid (g1_w9.out.grown hg n_g1_g6)
           have g3_w10 := Lib.hid (g3_w9.out.grown hg n_g3_g6)
           have B_w10 := Lib.hid (below_grown B_w9.out hg B_w9.out.size low_g6)
           have g6_w10 : Hid (Blk w10 g6 79 #[.bool true, .string ⟨#[]⟩, .string ⟨#[]⟩, .string ⟨#[]⟩, .string ⟨#[]⟩, .slice none 0 0, .string ⟨#[]⟩]) := hB
           clear hB hg hz)
        | (go_at_call 46; (with_reducible refine (valDep_one _).mono ?_); rintro e w11 ⟨A29, c29, rfl, ho, hb⟩
           have g1_w11 := Lib.hid (g1_w10.out.below hb)
           have g3_w11 := Lib.hid (g3_w10.out.below hb)
           have g6_w11 := Lib.hid (g6_w10.out.below hb)
           have B_w11 := Lib.hid (below_trans B_w10.out hb)
           clear ho
           clear hb)
        | ((with_reducible refine at_dst (N := 8) rfl ?_); refine ev_alloc rfl 79 rfl _ _ tz79 ?_; intro g8 w12 hg hB hb
           have n_g1_g8 : g1 ≠ g8 := by have := g1_w11.out.lt; omega
           have n_g3_g8 : g3 ≠ g8 := by have := g3_w11.out.lt; omega
           have n_g6_g8 : g6 ≠ g8 := by have := g6_w11.out.lt; omega
           have low_g8 := Nat.le_trans B_w11.out.size hg
           have g1_w12 := Lib.hid (g1_w11.out.below hb)
           have g3_w12 := Lib.hid (g3_w11.out.below hb)
           have g6_w12 := Lib.hid (g6_w11.out.below hb)
           have B_w12 := Lib.hid (below_trans B_w11.out hb)
           have g8_w12 : Hid (Blk w12 g8 79 #[.bool false, .string ⟨#[]⟩, .string ⟨#[]⟩, .string ⟨#[]⟩, .string ⟨#[]⟩, .slice none 0 0, .string ⟨#[]⟩]) := hB
           clear hB hb)
        | (refine ev_store rfl 79 _ _ rfl g8 _ _ rfl rfl 79 g8_w12.out tsz79 rfl rfl ?_; intro w13 hB hg hz
           have g1_w13 := Lib.hid (g1_w12.out.grown hg n_g1_g8)
           have g3_w13 := Lib.hid (g3_w12.out.grown hg n_g3_g8)
           have g6_w13 := Lib.hid (g6_w12.out.grown hg n_g6_g8)
           have B_w13 := Lib.hid (below_grown B_w12.out hg B_w12.out.size low_g8)
           have g8_w13 : Hid (Blk w13 g8 79 #[.bool false, .string ⟨#[97, 32, 98]⟩, .string ⟨#[]⟩, .string ⟨#[]⟩, .string ⟨#[]⟩, .slice A29 0 c29, .string ⟨#[]⟩]) := hB
           clear hB hg hz)
        | ((with_reducible refine at_dst (N := 43) rfl ?_); refine wl_guard rfl ?_; refine ev_ld rfl 4 _ rfl ⟨g1, 0, none⟩ rfl (.bool true) (g1_w13.out.cell 0) _ Try.underlying4 rfl ?_)
        | ((with_reducible refine at_dst (N := 52) rfl ?_); refine wl_guard rfl ?_; refine ev_ld rfl 9 _ rfl ⟨g8, 1, none⟩ rfl (.string ⟨#[97, 32, 98]⟩) (g8_w13.out.cell 1) _ Try.underlying9 rfl ?_))
      (try simp only [Exit.inBlock, Exit.then])
      refine bodyPost_ret (v := .bool true) (results1 Try.results12 rfl) rfl ?_
      exact ⟨rfl, B_w13.out⟩
end Go.Proofs.Ytdgblfldbikneaa
