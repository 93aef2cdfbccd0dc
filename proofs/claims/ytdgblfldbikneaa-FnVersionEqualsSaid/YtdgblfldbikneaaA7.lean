/- FnValidPerson: the walk. -/
import Derived.Test.YtdgblfldbikneaaA6
import Derived.Test.YtdgblfldbikneaaFz
namespace Go.Proofs.Ytdgblfldbikneaa
open Go.RowKit Go.Lib
set_option linter.unusedVariables false
set_option linter.unusedSimpArgs false
theorem ascF_size (s : ByteArray) : (ascF s).size ≤ 60 := by
  unfold ascF
  rw [mskF_size]
  simp [ByteArray.size_extract]
  omega
theorem ascF_mil (s : ByteArray) : (ascF s).size ≤ 1000000 := Nat.le_trans (ascF_size s) (by decide)
theorem clean_ab : cleanF ⟨#[97, 9, 98]⟩ = ⟨#[97, 32, 98]⟩ := by decide
theorem ascii_ab : asciiB ⟨#[97, 9, 98]⟩ := by unfold asciiB; decide
theorem ascii_e : asciiB ⟨#[]⟩ := by unfold asciiB; decide
theorem validPers_one (w : World) :
    Calls Try.prog 22 #[.agg #[.bool false, .string ⟨#[97, 9, 98]⟩, .string ⟨#[]⟩, .string ⟨#[]⟩]] w fun e w' => e = .returned (.tuple #[.agg #[.bool false, .string ⟨#[97, 32, 98]⟩, .string ⟨#[]⟩, .string ⟨#[]⟩], .bool false, .int .i64 0]) ∧ Below w.heap.size w w' := by
  have h := validPers_some ⟨#[97, 9, 98]⟩ ⟨#[]⟩ ⟨#[]⟩ w (by decide) (by decide) (by decide) ascii_ab ascii_e ascii_e
  have e : cleanF ⟨#[]⟩ = ⟨#[]⟩ := by decide
  rw [clean_ab, e] at h
  exact h
set_option maxRecDepth 100000 in
set_option maxHeartbeats 2000000 in
theorem fnValidPerson_walk (x : Ty35) (w : World) (hx : x.ok w) :
    Calls Try.prog 5 #[.agg x.cells.toArray] w fun e w' => e = .returned (.bool true) ∧ Below w.heap.size w w' := by
  obtain ⟨n, a, b, c⟩ := x
  obtain ⟨ha, hb0, hc⟩ := hx
  have La : a.size ≤ 9223372036854775807 := by simpa [maxLen] using ha
  have Lb : b.size ≤ 9223372036854775807 := by simpa [maxLen] using hb0
  have Lc : c.size ≤ 9223372036854775807 := by simpa [maxLen] using hc
  have hf := fun W => fits20_any ⟨n, a, b, c⟩ W ⟨ha, hb0, hc⟩
  clear ha hb0 hc
  simp only [Ty35.cells]
  cases hq : fits20 ⟨n, a, b, c⟩ <;> rw [hq] at hf <;> have HC := Lib.hid hf <;> clear hf hq
  · go_enter Try.func5, Try.ntmps5
    go_wp2_with (first
      | ((with_reducible refine at_dst (N := 1) rfl ?_); refine ev_box rfl 35 _ rfl _ rfl ?_; intro g1 w1 hg hB hb
         have low_g1 := Nat.le_trans (Nat.le_refl _) hg
         have B_w1 := Lib.hid (below_trans (Below.refl _ _) hb)
         have g1_w1 : Hid (Blk w1 g1 35 #[.bool n, .string a, .string b, .string c]) := hB
         clear hB hb)
      | ((with_reducible refine at_dst (N := 11) rfl ?_); refine ev_loadB rfl 35 _ rfl g1 rfl 35 _ g1_w1.out _ Try.underlying35 rfl tsz35 ?_)
      | (go_at_call 20; (with_reducible refine (HC.out _).mono ?_); rintro e w2 ⟨rfl, hb⟩
         have g1_w2 := Lib.hid (g1_w1.out.below hb)
         have B_w2 := Lib.hid (below_trans B_w1.out hb)
         clear hb))
    (try simp only [Exit.inBlock, Exit.then])
    refine bodyPost_ret (v := .bool true) (results1 Try.results5 rfl) rfl ?_
    exact ⟨rfl, B_w2.out⟩
  · cases n
    · go_enter Try.func5, Try.ntmps5
      go_wp2_with (first
        | ((with_reducible refine at_dst (N := 1) rfl ?_); refine ev_box rfl 35 _ rfl _ rfl ?_; intro g1 w1 hg hB hb
           have low_g1 := Nat.le_trans (Nat.le_refl _) hg
           have B_w1 := Lib.hid (below_trans (Below.refl _ _) hb)
           have g1_w1 : Hid (Blk w1 g1 35 #[.bool false, .string a, .string b, .string c]) := hB
           clear hB hb)
        | ((with_reducible refine at_dst (N := 11) rfl ?_); refine ev_loadB rfl 35 _ rfl g1 rfl 35 _ g1_w1.out _ Try.underlying35 rfl tsz35 ?_)
        | (go_at_call 20; (with_reducible refine (HC.out _).mono ?_); rintro e w2 ⟨rfl, hb⟩
           have g1_w2 := Lib.hid (g1_w1.out.below hb)
           have B_w2 := Lib.hid (below_trans B_w1.out hb)
           clear hb)
        | ((with_reducible refine at_dst (N := 14) rfl ?_); refine ev_loadB rfl 35 _ rfl g1 rfl 35 _ g1_w2.out _ Try.underlying35 rfl tsz35 ?_)
        | (go_at_call 21; (with_reducible refine (chPers_some a b c _ La Lb Lc).mono ?_); rintro e w3 ⟨rfl, hb⟩
           have g1_w3 := Lib.hid (g1_w2.out.below hb)
           have B_w3 := Lib.hid (below_trans B_w2.out hb)
           clear hb)
        | (refine ev_store rfl 35 _ _ rfl g1 _ _ rfl rfl 35 g1_w3.out tsz35 rfl rfl ?_; intro w4 hB hg hz
           have B_w4 := Lib.hid (below_grown B_w3.out hg B_w3.out.size low_g1)
           have g1_w4 : Hid (Blk w4 g1 35 #[.bool false, .string (ascF a), .string (ascF b), .string (ascF c)]) := hB
           clear hB hg hz)
        | ((with_reducible refine at_dst (N := 17) rfl ?_); refine ev_loadB rfl 35 _ rfl g1 rfl 35 _ g1_w4.out _ Try.underlying35 rfl tsz35 ?_)
        | (go_at_call 22; (with_reducible refine (validPers_some _ _ _ _ (ascF_mil a) (ascF_mil b) (ascF_mil c) (asc_ascii a) (asc_ascii b) (asc_ascii c)).mono ?_); rintro e w5 ⟨rfl, hb⟩
           have g1_w5 := Lib.hid (g1_w4.out.below hb)
           have B_w5 := Lib.hid (below_trans B_w4.out hb)
           clear hb)
        | ((with_reducible refine at_dst (N := 3) rfl ?_); refine ev_alloc rfl 35 rfl _ _ tz35 ?_; intro g3 w6 hg hB hb
           have n_g1_g3 : g1 ≠ g3 := by have := g1_w5.out.lt; omega
           have low_g3 := Nat.le_trans B_w5.out.size hg
           have g1_w6 := Lib.hid (g1_w5.out.below hb)
           have B_w6 := Lib.hid (below_trans B_w5.out hb)
           have g3_w6 : Hid (Blk w6 g3 35 #[.bool false, .string ⟨#[]⟩, .string ⟨#[]⟩, .string ⟨#[]⟩]) := hB
           clear hB hb)
        | (refine ev_store rfl 35 _ _ rfl g3 _ _ rfl rfl 35 g3_w6.out tsz35 rfl rfl ?_; intro w7 hB hg hz
           have g1_w7 := Lib.hid (g1_w6.out.grown hg n_g1_g3)
           have B_w7 := Lib.hid (below_grown B_w6.out hg B_w6.out.size low_g3)
           have g3_w7 : Hid (Blk w7 g3 35 #[.bool false, .string (cleanF (ascF a)), .string (cleanF (ascF b)), .string (cleanF (ascF c))]) := hB
           clear hB hg hz)
        | ((with_reducible refine at_dst (N := 23) rfl ?_); refine ev_loadB rfl 35 _ rfl g1 rfl 35 _ g1_w7.out _ Try.underlying35 rfl tsz35 ?_)
        | (go_at_call 23; (with_reducible refine (specPers_some _ _ _ _ (ascF_mil a) (ascF_mil b) (ascF_mil c)).mono ?_); rintro e w8 ⟨rfl, hb⟩
           have g1_w8 := Lib.hid (g1_w7.out.below hb)
           have g3_w8 := Lib.hid (g3_w7.out.below hb)
           have B_w8 := Lib.hid (below_trans B_w7.out hb)
           clear hb)
        | ((with_reducible refine at_dst (N := 6) rfl ?_); refine ev_alloc rfl 35 rfl _ _ tz35 ?_; intro g6 w9 hg hB hb
           have n_g1_g6 : g1 ≠ g6 := by have := g1_w8.out.lt; omega
           have n_g3_g6 : g3 ≠ g6 := by have := g3_w8.out.lt; omega
           have low_g6 := Nat.le_trans B_w8.out.size hg
           have g1_w9 := Lib.hid (g1_w8.out.below hb)
           have g3_w9 := Lib.hid (g3_w8.out.below hb)
           have B_w9 := Lib.hid (below_trans B_w8.out hb)
           have g6_w9 : Hid (Blk w9 g6 35 #[.bool false, .string ⟨#[]⟩, .string ⟨#[]⟩, .string ⟨#[]⟩]) := hB
           clear hB hb)
        | (refine ev_store rfl 35 _ _ rfl g6 _ _ rfl rfl 35 g6_w9.out tsz35 rfl rfl ?_; intro w10 hB hg hz
           have g1_w10 := Lib.hid (g1_w9.out.grown hg n_g1_g6)
           have g3_w10 := Lib.hid (g3_w9.out.grown hg n_g3_g6)
           have B_w10 := Lib.hid (below_grown B_w9.out hg B_w9.out.size low_g6)
           have g6_w10 : Hid (Blk w10 g6 35 #[.bool false, .string (cleanF (ascF a)), .string (cleanF (ascF b)), .string (cleanF (ascF c))]) := hB
           clear hB hg hz)
        | (go_at_call 22; (with_reducible refine (validPers_one _).mono ?_); rintro e w11 ⟨rfl, hb⟩
           have g1_w11 := Lib.hid (g1_w10.out.below hb)
           have g3_w11 := Lib.hid (g3_w10.out.below hb)
           have g6_w11 := Lib.hid (g6_w10.out.below hb)
           have B_w11 := Lib.hid (below_trans B_w10.out hb)
           clear hb)
        | ((with_reducible refine at_dst (N := 8) rfl ?_); refine ev_alloc rfl 35 rfl _ _ tz35 ?_; intro g8 w12 hg hB hb
           have n_g1_g8 : g1 ≠ g8 := by have := g1_w11.out.lt; omega
           have n_g3_g8 : g3 ≠ g8 := by have := g3_w11.out.lt; omega
           have n_g6_g8 : g6 ≠ g8 := by have := g6_w11.out.lt; omega
           have low_g8 := Nat.le_trans B_w11.out.size hg
           have g1_w12 := Lib.hid (g1_w11.out.below hb)
           have g3_w12 := Lib.hid (g3_w11.out.below hb)
           have g6_w12 := Lib.hid (g6_w11.out.below hb)
           have B_w12 := Lib.hid (below_trans B_w11.out hb)
           have g8_w12 : Hid (Blk w12 g8 35 #[.bool false, .string ⟨#[]⟩, .string ⟨#[]⟩, .string ⟨#[]⟩]) := hB
           clear hB hb)
        | (refine ev_store rfl 35 _ _ rfl g8 _ _ rfl rfl 35 g8_w12.out tsz35 rfl rfl ?_; intro w13 hB hg hz
           have g1_w13 := Lib.hid (g1_w12.out.grown hg n_g1_g8)
           have g3_w13 := Lib.hid (g3_w12.out.grown hg n_g3_g8)
           have g6_w13 := Lib.hid (g6_w12.out.grown hg n_g6_g8)
           have B_w13 := Lib.hid (below_grown B_w12.out hg B_w12.out.size low_g8)
           have g8_w13 : Hid (Blk w13 g8 35 #[.bool false, .string ⟨#[97, 32, 98]⟩, .string ⟨#[]⟩, .string ⟨#[]⟩]) := hB
           clear hB hg hz)
        | ((with_reducible refine at_dst (N := 45) rfl ?_); refine wl_guard rfl ?_; refine ev_loadB rfl 35 _ rfl g3 rfl 35 _ g3_w13.out _ Try.underlying35 rfl tsz35 ?_)
        | ((with_reducible refine at_dst (N := 46) rfl ?_); refine wl_guard rfl ?_; refine ev_loadB rfl 35 _ rfl g6 rfl 35 _ g6_w13.out _ Try.underlying35 rfl tsz35 ?_)
        | ((with_reducible refine at_dst (N := 52) rfl ?_); refine wl_guard rfl ?_; refine ev_ld rfl 9 _ rfl ⟨g8, 1, none⟩ rfl (.string ⟨#[97, 32, 98]⟩) (g8_w13.out.cell 1) _ Try.underlying9 rfl ?_))
      (try simp only [Exit.inBlock, Exit.then])
      refine bodyPost_ret (v := .bool true) (results1 Try.results5 rfl) rfl ?_
      exact ⟨rfl, B_w13.out⟩
    · go_enter Try.func5, Try.ntmps5
      go_wp2_with (first
        | ((with_reducible refine at_dst (N := 1) rfl ?_); refine ev_box rfl 35 _ rfl _ rfl ?_; intro g1 w1 hg hB hb
           have low_g1 := Nat.le_trans (Nat.le_refl _) hg
           have B_w1 := Lib.hid (below_trans (Below.refl _ _) hb)
           have g1_w1 : Hid (Blk w1 g1 35 #[.bool true, .string a, .string b, .string c]) := hB
           clear hB hb)
        | ((with_reducible refine at_dst (N := 11) rfl ?_); refine ev_loadB rfl 35 _ rfl g1 rfl 35 _ g1_w1.out _ Try.underlying35 rfl tsz35 ?_)
        | (go_at_call 20; (with_reducible refine (HC.out _).mono ?_); rintro e w2 ⟨rfl, hb⟩
           have g1_w2 := Lib.hid (g1_w1.out.below hb)
           have B_w2 := Lib.hid (below_trans B_w1.out hb)
           clear hb)
        | ((with_reducible refine at_dst (N := 14) rfl ?_); refine ev_loadB rfl 35 _ rfl g1 rfl 35 _ g1_w2.out _ Try.underlying35 rfl tsz35 ?_)
        | (go_at_call 21; (with_reducible refine (chPers_nil a b c _).mono ?_); rintro e w3 ⟨rfl, hb⟩
           have g1_w3 := Lib.hid (g1_w2.out.below hb)
           have B_w3 := Lib.hid (below_trans B_w2.out hb)
           clear hb)
        | (refine ev_store rfl 35 _ _ rfl g1 _ _ rfl rfl 35 g1_w3.out tsz35 rfl rfl ?_; intro w4 hB hg hz
           have B_w4 := Lib.hid (below_grown B_w3.out hg B_w3.out.size low_g1)
           have g1_w4 : Hid (Blk w4 g1 35 #[.bool true, .string ⟨#[]⟩, .string ⟨#[]⟩, .string ⟨#[]⟩]) := hB
           clear hB hg hz)
        | ((with_reducible refine at_dst (N := 17) rfl ?_); refine ev_loadB rfl 35 _ rfl g1 rfl 35 _ g1_w4.out _ Try.underlying35 rfl tsz35 ?_)
        | (go_at_call 22; (with_reducible refine (validPers_nil _ _ _ _).mono ?_); rintro e w5 ⟨rfl, hb⟩
           have g1_w5 := Lib.hid (g1_w4.out.below hb)
           have B_w5 := Lib.hid (below_trans B_w4.out hb)
           clear hb)
        | ((with_reducible refine at_dst (N := 3) rfl ?_); refine ev_alloc rfl 35 rfl _ _ tz35 ?_; intro g3 w6 hg hB hb
           have n_g1_g3 : g1 ≠ g3 := by have := g1_w5.out.lt; omega
           have low_g3 := Nat.le_trans B_w5.out.size hg
           have g1_w6 := Lib.hid (g1_w5.out.below hb)
           have B_w6 := Lib.hid (below_trans B_w5.out hb)
           have g3_w6 : Hid (Blk w6 g3 35 #[.bool false, .string ⟨#[]⟩, .string ⟨#[]⟩, .string ⟨#[]⟩]) := hB
           clear hB hb)
        | (refine ev_store rfl 35 _ _ rfl g3 _ _ rfl rfl 35 g3_w6.out tsz35 rfl rfl ?_; intro w7 hB hg hz
           have g1_w7 := Lib.hid (g1_w6.out.grown hg n_g1_g3)
           have B_w7 := Lib.hid (below_grown B_w6.out hg B_w6.out.size low_g3)
           have g3_w7 : Hid (Blk w7 g3 35 #[.bool true, .string ⟨#[]⟩, .string ⟨#[]⟩, .string ⟨#[]⟩]) := hB
           clear hB hg hz)
        | ((with_reducible refine at_dst (N := 23) rfl ?_); refine ev_loadB rfl 35 _ rfl g1 rfl 35 _ g1_w7.out _ Try.underlying35 rfl tsz35 ?_)
        | (go_at_call 23; (with_reducible refine (specPers_nil _ _ _ _).mono ?_); rintro e w8 ⟨rfl, hb⟩
           have g1_w8 := Lib.hid (g1_w7.out.below hb)
           have g3_w8 := Lib.hid (g3_w7.out.below hb)
           have B_w8 := Lib.hid (below_trans B_w7.out hb)
           clear hb)
        | ((with_reducible refine at_dst (N := 6) rfl ?_); refine ev_alloc rfl 35 rfl _ _ tz35 ?_; intro g6 w9 hg hB hb
           have n_g1_g6 : g1 ≠ g6 := by have := g1_w8.out.lt; omega
           have n_g3_g6 : g3 ≠ g6 := by have := g3_w8.out.lt; omega
           have low_g6 := Nat.le_trans B_w8.out.size hg
           have g1_w9 := Lib.hid (g1_w8.out.below hb)
           have g3_w9 := Lib.hid (g3_w8.out.below hb)
           have B_w9 := Lib.hid (below_trans B_w8.out hb)
           have g6_w9 : Hid (Blk w9 g6 35 #[.bool false, .string ⟨#[]⟩, .string ⟨#[]⟩, .string ⟨#[]⟩]) := hB
           clear hB hb)
        | (refine ev_store rfl 35 _ _ rfl g6 _ _ rfl rfl 35 g6_w9.out tsz35 rfl rfl ?_; intro w10 hB hg hz
           have g1_w10 := Lib.hid (g1_w9.out.grown hg n_g1_g6)
           have g3_w10 := Lib.hid (g3_w9.out.grown hg n_g3_g6)
           have B_w10 := Lib.hid (below_grown B_w9.out hg B_w9.out.size low_g6)
           have g6_w10 : Hid (Blk w10 g6 35 #[.bool true, .string ⟨#[]⟩, .string ⟨#[]⟩, .string ⟨#[]⟩]) := hB
           clear hB hg hz)
        | (go_at_call 22; (with_reducible refine (validPers_one _).mono ?_); rintro e w11 ⟨rfl, hb⟩
           have g1_w11 := Lib.hid (g1_w10.out.below hb)
           have g3_w11 := Lib.hid (g3_w10.out.below hb)
           have g6_w11 := Lib.hid (g6_w10.out.below hb)
           have B_w11 := Lib.hid (below_trans B_w10.out hb)
           clear hb)
        | ((with_reducible refine at_dst (N := 8) rfl ?_); refine ev_alloc rfl 35 rfl _ _ tz35 ?_; intro g8 w12 hg hB hb
           have n_g1_g8 : g1 ≠ g8 := by have := g1_w11.out.lt; omega
           have n_g3_g8 : g3 ≠ g8 := by have := g3_w11.out.lt; omega
           have n_g6_g8 : g6 ≠ g8 := by have := g6_w11.out.lt; omega
           have low_g8 := Nat.le_trans B_w11.out.size hg
           have g1_w12 := Lib.hid (g1_w11.out.below hb)
           have g3_w12 := Lib.hid (g3_w11.out.below hb)
           have g6_w12 := Lib.hid (g6_w11.out.below hb)
           have B_w12 := Lib.hid (below_trans B_w11.out hb)
           have g8_w12 : Hid (Blk w12 g8 35 #[.bool false, .string ⟨#[]⟩, .string ⟨#[]⟩, .string ⟨#[]⟩]) := hB
           clear hB hb)
        | (refine ev_store rfl 35 _ _ rfl g8 _ _ rfl rfl 35 g8_w12.out tsz35 rfl rfl ?_; intro w13 hB hg hz
           have g1_w13 := Lib.hid (g1_w12.out.grown hg n_g1_g8)
           have g3_w13 := Lib.hid (g3_w12.out.grown hg n_g3_g8)
           have g6_w13 := Lib.hid (g6_w12.out.grown hg n_g6_g8)
           have B_w13 := Lib.hid (below_grown B_w12.out hg B_w12.out.size low_g8)
           have g8_w13 : Hid (Blk w13 g8 35 #[.bool false, .string ⟨#[97, 32, 98]⟩, .string ⟨#[]⟩, .string ⟨#[]⟩]) := hB
           clear hB hg hz)
        | ((with_reducible refine at_dst (N := 52) rfl ?_); refine wl_guard rfl ?_; refine ev_ld rfl 9 _ rfl ⟨g8, 1, none⟩ rfl (.string ⟨#[97, 32, 98]⟩) (g8_w13.out.cell 1) _ Try.underlying9 rfl ?_))
      (try simp only [Exit.inBlock, Exit.then])
      refine bodyPost_ret (v := .bool true) (results1 Try.results5 rfl) rfl ?_
      exact ⟨rfl, B_w13.out⟩
end Go.Proofs.Ytdgblfldbikneaa
