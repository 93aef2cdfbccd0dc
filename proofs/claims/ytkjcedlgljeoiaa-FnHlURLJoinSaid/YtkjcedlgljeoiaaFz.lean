/- Contracts of size checks. Printed. -/
import Derived.Test.YtkjcedlgljeoiaaOk
import Derived.Test.YtkjcedlgljeoiaaTz
import Derived.Test.YtkjcedlgljeoiaaP3
namespace Go.Proofs.Ytkjcedlgljeoiaa
open Go.RowKit Go.Lib
set_option linter.unusedVariables false
set_option linter.unusedSimpArgs false
def fits68 (x : Ty108) : Bool := decide (x.fKey.size ≤ 2147483647) && decide (x.fText.size ≤ 2147483647)
set_option maxRecDepth 100000 in
set_option maxHeartbeats 4000000 in
theorem fits68_any (x : Ty108) (w : World) (h0 : Ty108.ok x w)  :
    Calls Try.prog 68 #[.agg #[.string x.fKey, .string x.fText]] w fun e w' => e = .returned (.bool (fits68 x)) ∧ Below w.heap.size w w' := by
  have H0 := Lib.hid h0
  clear h0
  suffices hQ : ∀ Q : Ending → World → Prop, Hid (∀ (e : Ending) (w' : World), (e = .returned (.bool (fits68 x)) ∧ Below w.heap.size w w') → Post1 Q e w') → Calls Try.prog 68 #[.agg #[.string x.fKey, .string x.fText]] w (fun e w' => Post1 Q e w') from hQ (fun e w' => e = .returned (.bool (fits68 x)) ∧ Below w.heap.size w w') (fun _ _ h => by unfold Post1; exact h)
  intro Q HQ
  go_enter Try.func68, Try.ntmps68
  by_cases hc1 : (2147483647 : Int) < ↑x.fKey.size
  · have P0 : Hid (decide (x.fKey.size ≤ 2147483647) = false) := by show _ = _; simp; omega
    go_wp2_with (first
      | ((with_reducible refine at_dst (N := 1) rfl ?_); refine ev_box rfl 108 _ rfl _ rfl ?_; intro g1 w1 hg hB hb
         have low_g1 := Nat.le_trans (Nat.le_refl _) hg
         have B_w1 := Lib.hid (below_trans (Below.refl _ _) hb)
         have g1_w1 : Hid (Blk w1 g1 108 #[.string x.fKey, .string x.fText]) := hB
         clear hB hb)
      | ((with_reducible refine at_dst (N := 4) rfl ?_); refine ev_ld rfl 9 _ rfl ⟨g1, 0, none⟩ rfl (.string x.fKey) (g1_w1.out.cell 0) _ Try.underlying9 rfl ?_))
    go_ret
    exact HQ.out _ _ ⟨ret_bool (by simp only [fits68, P0.out, Bool.and_self, Bool.and_false, Bool.false_and]), B_w1.out⟩
  · have P0 : Hid (decide (x.fKey.size ≤ 2147483647) = true) := by show _ = _; simp; omega
    by_cases hc2 : (2147483647 : Int) < ↑x.fText.size
    · have P1 : Hid (decide (x.fText.size ≤ 2147483647) = false) := by show _ = _; simp; omega
      go_wp2_with (first
        | ((with_reducible refine at_dst (N := 1) rfl ?_); refine ev_box rfl 108 _ rfl _ rfl ?_; intro g1 w1 hg hB hb
           have low_g1 := Nat.le_trans (Nat.le_refl _) hg
           have B_w1 := Lib.hid (below_trans (Below.refl _ _) hb)
           have g1_w1 : Hid (Blk w1 g1 108 #[.string x.fKey, .string x.fText]) := hB
           clear hB hb)
        | ((with_reducible refine at_dst (N := 4) rfl ?_); refine ev_ld rfl 9 _ rfl ⟨g1, 0, none⟩ rfl (.string x.fKey) (g1_w1.out.cell 0) _ Try.underlying9 rfl ?_)
        | ((with_reducible refine at_dst (N := 8) rfl ?_); refine ev_ld rfl 9 _ rfl ⟨g1, 1, none⟩ rfl (.string x.fText) (g1_w1.out.cell 1) _ Try.underlying9 rfl ?_))
      go_ret
      exact HQ.out _ _ ⟨ret_bool (by simp only [fits68, P0.out, P1.out, Bool.and_self, Bool.and_false, Bool.false_and]), B_w1.out⟩
    · have P1 : Hid (decide (x.fText.size ≤ 2147483647) = true) := by show _ = _; simp; omega
      go_wp2_with (first
        | ((with_reducible refine at_dst (N := 1) rfl ?_); refine ev_box rfl 108 _ rfl _ rfl ?_; intro g1 w1 hg hB hb
           have low_g1 := Nat.le_trans (Nat.le_refl _) hg
           have B_w1 := Lib.hid (below_trans (Below.refl _ _) hb)
           have g1_w1 : Hid (Blk w1 g1 108 #[.string x.fKey, .string x.fText]) := hB
           clear hB hb)
        | ((with_reducible refine at_dst (N := 4) rfl ?_); refine ev_ld rfl 9 _ rfl ⟨g1, 0, none⟩ rfl (.string x.fKey) (g1_w1.out.cell 0) _ Try.underlying9 rfl ?_)
        | ((with_reducible refine at_dst (N := 8) rfl ?_); refine ev_ld rfl 9 _ rfl ⟨g1, 1, none⟩ rfl (.string x.fText) (g1_w1.out.cell 1) _ Try.underlying9 rfl ?_))
      go_ret
      exact HQ.out _ _ ⟨ret_bool (by simp only [fits68, P0.out, P1.out, Bool.and_self, Bool.and_false, Bool.false_and]), B_w1.out⟩
def fits18 (xs : List Ty108) : Bool := decide (xs.length ≤ 2147483647) && xs.all fits68
set_option maxRecDepth 100000 in
set_option maxHeartbeats 4000000 in
theorem fits18_any (A : Option Addr) (c : Nat) (xs : List Ty108) (w : World) (h0 : Rows w (A) 2 (xs.map Ty108.cells)) (h1 : Ty108.oks xs w)  :
    Calls Try.prog 18 #[.slice (A) (xs.length) (c)] w fun e w' => e = .returned (.bool (fits18 xs)) ∧ Below w.heap.size w w' := by
  have hl_xs : xs.length ≤ 9223372036854775807 := by have := h0.1; simpa [strs, ptrs] using this
  have H0 := Lib.hid h0
  clear h0
  have H1 := Lib.hid h1
  clear h1
  suffices hQ : ∀ Q : Ending → World → Prop, Hid (∀ (e : Ending) (w' : World), (e = .returned (.bool (fits18 xs)) ∧ Below w.heap.size w w') → Post1 Q e w') → Calls Try.prog 18 #[.slice (A) (xs.length) (c)] w (fun e w' => Post1 Q e w') from hQ (fun e w' => e = .returned (.bool (fits18 xs)) ∧ Below w.heap.size w w') (fun _ _ h => by unfold Post1; exact h)
  intro Q HQ
  go_enter Try.func18, Try.ntmps18
  by_cases hc1 : (2147483647 : Int) < ↑xs.length
  · go_wp2_with fail
    go_ret
    exact HQ.out _ _ ⟨ret_bool (by have e : decide (xs.length ≤ 2147483647) = false := (by simp; omega); rw [fits18, e, Bool.false_and]), (Below.refl _ _)⟩
  · go_wp2_with fail
    go_loopw [10] (fun v10 wr => ∃ k : Nat, (k ≤ xs.length) ∧ v10 = .int .i64 (↑k) ∧ Hid ((xs.take k).all fits68 = true) ∧ Hid (Below w.heap.size w wr)) (fun v10 _ => xs.length - (intOf v10).toNat)
    case atStart => exact ⟨0, (by omega), rfl, rfl, (Below.refl _ _)⟩
    case round =>
      obtain ⟨k, hk, rfl, L0_all, L0_B⟩ := hrel
      by_cases hlt_k : k < xs.length
      · obtain ⟨ad_k, rfl⟩ := (H0.out.below L0_B.out).addr (by simp [strs, ptrs]; omega)
        have HE := Lib.hid (Ty108.oks.at H1.out hlt_k)
        cases hc2 : (fits68 xs[k])
        · go_wp2_with (first
            | ((with_reducible refine at_dst (N := 13) rfl ?_); refine ev_loadR rfl 108 _ rfl _ rfl [.string xs[k].fKey, .string xs[k].fText] ((H0.out.below L0_B.out).el (j := k) (row := xs[k].cells) (by simp [hlt_k])) _ Try.underlying108 rfl tsz108 ?_)
            | ((with_reducible refine at_dst (N := 4) rfl ?_); refine ev_alloc rfl 108 rfl _ _ tz108 ?_; intro g4 w1 hg hB hb
               have low_g4 := Nat.le_trans L0_B.out.size hg
               have B_w1 := Lib.hid (below_trans L0_B.out hb)
               have g4_w1 : Hid (Blk w1 g4 108 #[.string ⟨#[]⟩, .string ⟨#[]⟩]) := hB
               clear hB hb)
            | (refine ev_store rfl 108 _ _ rfl g4 _ _ rfl rfl 108 g4_w1.out tsz108 rfl rfl ?_; intro w2 hB hg hz
               have hx := GrX.grown (S := fun k => k = g4) hg rfl
               have B_w2 := Lib.hid (below_grx B_w1.out hx B_w1.out.size (fun k => (fun e => e ▸ low_g4)))
               clear hx
               have g4_w2 : Hid (Blk w2 g4 108 #[.string xs[k].fKey, .string xs[k].fText]) := hB
               clear hB hg hz)
            | ((with_reducible refine at_dst (N := 14) rfl ?_); refine ev_loadB rfl 108 _ rfl g4 rfl 108 _ g4_w2.out _ Try.underlying108 rfl tsz108 ?_)
            | (go_at_call 68; (with_reducible refine (fits68_any xs[k] _ (Ty108.ok.below HE.out B_w2.out)).mono ?_); rintro e w3 ⟨rfl, hb⟩; rw [hc2]
               have g4_w3 := Lib.hid (g4_w2.out.below hb)
               have B_w3 := Lib.hid (below_trans B_w2.out hb)
               clear hb))
          go_ret
          exact HQ.out _ _ ⟨ret_bool (by rw [fits18, all_at hlt_k hc2, Bool.and_false]), B_w3.out⟩
        · go_wp2_with (first
            | ((with_reducible refine at_dst (N := 13) rfl ?_); refine ev_loadR rfl 108 _ rfl _ rfl [.string xs[k].fKey, .string xs[k].fText] ((H0.out.below L0_B.out).el (j := k) (row := xs[k].cells) (by simp [hlt_k])) _ Try.underlying108 rfl tsz108 ?_)
            | ((with_reducible refine at_dst (N := 4) rfl ?_); refine ev_alloc rfl 108 rfl _ _ tz108 ?_; intro g4 w1 hg hB hb
               have low_g4 := Nat.le_trans L0_B.out.size hg
               have B_w1 := Lib.hid (below_trans L0_B.out hb)
               have g4_w1 : Hid (Blk w1 g4 108 #[.string ⟨#[]⟩, .string ⟨#[]⟩]) := hB
               clear hB hb)
            | (refine ev_store rfl 108 _ _ rfl g4 _ _ rfl rfl 108 g4_w1.out tsz108 rfl rfl ?_; intro w2 hB hg hz
               have hx := GrX.grown (S := fun k => k = g4) hg rfl
               have B_w2 := Lib.hid (below_grx B_w1.out hx B_w1.out.size (fun k => (fun e => e ▸ low_g4)))
               clear hx
               have g4_w2 : Hid (Blk w2 g4 108 #[.string xs[k].fKey, .string xs[k].fText]) := hB
               clear hB hg hz)
            | ((with_reducible refine at_dst (N := 14) rfl ?_); refine ev_loadB rfl 108 _ rfl g4 rfl 108 _ g4_w2.out _ Try.underlying108 rfl tsz108 ?_)
            | (go_at_call 68; (with_reducible refine (fits68_any xs[k] _ (Ty108.ok.below HE.out B_w2.out)).mono ?_); rintro e w3 ⟨rfl, hb⟩; rw [hc2]
               have g4_w3 := Lib.hid (g4_w2.out.below hb)
               have B_w3 := Lib.hid (below_trans B_w2.out hb)
               clear hb))
          refine ⟨⟨k + 1, (by omega), by go_num, by show _ = _; rw [all_take hlt_k, L0_all.out, hc2]; rfl, B_w3⟩, ?_⟩
          simp [intOf]; omega
      · obtain rfl : k = xs.length := by omega
        rw [List.take_length] at L0_all
        go_wp2_with fail
        go_ret
        exact HQ.out _ _ ⟨ret_bool (by have e : decide (xs.length ≤ 2147483647) = true := (by simp; omega); rw [fits18, e, L0_all.out]; rfl), L0_B.out⟩
def fits190 (x : Ty52) : Bool := decide (x.fName.size ≤ 2147483647) && decide (x.fURL.size ≤ 2147483647)
set_option maxRecDepth 100000 in
set_option maxHeartbeats 4000000 in
theorem fits190_any (x : Ty52) (w : World) (h0 : Ty52.ok x w)  :
    Calls Try.prog 190 #[.agg #[.string x.fName, .string x.fURL]] w fun e w' => e = .returned (.bool (fits190 x)) ∧ Below w.heap.size w w' := by
  have H0 := Lib.hid h0
  clear h0
  suffices hQ : ∀ Q : Ending → World → Prop, Hid (∀ (e : Ending) (w' : World), (e = .returned (.bool (fits190 x)) ∧ Below w.heap.size w w') → Post1 Q e w') → Calls Try.prog 190 #[.agg #[.string x.fName, .string x.fURL]] w (fun e w' => Post1 Q e w') from hQ (fun e w' => e = .returned (.bool (fits190 x)) ∧ Below w.heap.size w w') (fun _ _ h => by unfold Post1; exact h)
  intro Q HQ
  go_enter Try.func190, Try.ntmps190
  by_cases hc1 : (2147483647 : Int) < ↑x.fName.size
  · have P0 : Hid (decide (x.fName.size ≤ 2147483647) = false) := by show _ = _; simp; omega
    go_wp2_with (first
      | ((with_reducible refine at_dst (N := 1) rfl ?_); refine ev_box rfl 52 _ rfl _ rfl ?_; intro g1 w1 hg hB hb
         have low_g1 := Nat.le_trans (Nat.le_refl _) hg
         have B_w1 := Lib.hid (below_trans (Below.refl _ _) hb)
         have g1_w1 : Hid (Blk w1 g1 52 #[.string x.fName, .string x.fURL]) := hB
         clear hB hb)
      | ((with_reducible refine at_dst (N := 4) rfl ?_); refine ev_ld rfl 9 _ rfl ⟨g1, 0, none⟩ rfl (.string x.fName) (g1_w1.out.cell 0) _ Try.underlying9 rfl ?_))
    go_ret
    exact HQ.out _ _ ⟨ret_bool (by simp only [fits190, P0.out, Bool.and_self, Bool.and_false, Bool.false_and]), B_w1.out⟩
  · have P0 : Hid (decide (x.fName.size ≤ 2147483647) = true) := by show _ = _; simp; omega
    by_cases hc2 : (2147483647 : Int) < ↑x.fURL.size
    · have P1 : Hid (decide (x.fURL.size ≤ 2147483647) = false) := by show _ = _; simp; omega
      go_wp2_with (first
        | ((with_reducible refine at_dst (N := 1) rfl ?_); refine ev_box rfl 52 _ rfl _ rfl ?_; intro g1 w1 hg hB hb
           have low_g1 := Nat.le_trans (Nat.le_refl _) hg
           have B_w1 := Lib.hid (below_trans (Below.refl _ _) hb)
           have g1_w1 : Hid (Blk w1 g1 52 #[.string x.fName, .string x.fURL]) := hB
           clear hB hb)
        | ((with_reducible refine at_dst (N := 4) rfl ?_); refine ev_ld rfl 9 _ rfl ⟨g1, 0, none⟩ rfl (.string x.fName) (g1_w1.out.cell 0) _ Try.underlying9 rfl ?_)
        | ((with_reducible refine at_dst (N := 8) rfl ?_); refine ev_ld rfl 9 _ rfl ⟨g1, 1, none⟩ rfl (.string x.fURL) (g1_w1.out.cell 1) _ Try.underlying9 rfl ?_))
      go_ret
      exact HQ.out _ _ ⟨ret_bool (by simp only [fits190, P0.out, P1.out, Bool.and_self, Bool.and_false, Bool.false_and]), B_w1.out⟩
    · have P1 : Hid (decide (x.fURL.size ≤ 2147483647) = true) := by show _ = _; simp; omega
      go_wp2_with (first
        | ((with_reducible refine at_dst (N := 1) rfl ?_); refine ev_box rfl 52 _ rfl _ rfl ?_; intro g1 w1 hg hB hb
           have low_g1 := Nat.le_trans (Nat.le_refl _) hg
           have B_w1 := Lib.hid (below_trans (Below.refl _ _) hb)
           have g1_w1 : Hid (Blk w1 g1 52 #[.string x.fName, .string x.fURL]) := hB
           clear hB hb)
        | ((with_reducible refine at_dst (N := 4) rfl ?_); refine ev_ld rfl 9 _ rfl ⟨g1, 0, none⟩ rfl (.string x.fName) (g1_w1.out.cell 0) _ Try.underlying9 rfl ?_)
        | ((with_reducible refine at_dst (N := 8) rfl ?_); refine ev_ld rfl 9 _ rfl ⟨g1, 1, none⟩ rfl (.string x.fURL) (g1_w1.out.cell 1) _ Try.underlying9 rfl ?_))
      go_ret
      exact HQ.out _ _ ⟨ret_bool (by simp only [fits190, P0.out, P1.out, Bool.and_self, Bool.and_false, Bool.false_and]), B_w1.out⟩
def fits137 (xs : List Ty52) : Bool := decide (xs.length ≤ 2147483647) && xs.all fits190
set_option maxRecDepth 100000 in
set_option maxHeartbeats 4000000 in
theorem fits137_any (A : Option Addr) (c : Nat) (xs : List Ty52) (w : World) (h0 : Rows w (A) 2 (xs.map Ty52.cells)) (h1 : Ty52.oks xs w)  :
    Calls Try.prog 137 #[.slice (A) (xs.length) (c)] w fun e w' => e = .returned (.bool (fits137 xs)) ∧ Below w.heap.size w w' := by
  have hl_xs : xs.length ≤ 9223372036854775807 := by have := h0.1; simpa [strs, ptrs] using this
  have H0 := Lib.hid h0
  clear h0
  have H1 := Lib.hid h1
  clear h1
  suffices hQ : ∀ Q : Ending → World → Prop, Hid (∀ (e : Ending) (w' : World), (e = .returned (.bool (fits137 xs)) ∧ Below w.heap.size w w') → Post1 Q e w') → Calls Try.prog 137 #[.slice (A) (xs.length) (c)] w (fun e w' => Post1 Q e w') from hQ (fun e w' => e = .returned (.bool (fits137 xs)) ∧ Below w.heap.size w w') (fun _ _ h => by unfold Post1; exact h)
  intro Q HQ
  go_enter Try.func137, Try.ntmps137
  by_cases hc1 : (2147483647 : Int) < ↑xs.length
  · go_wp2_with fail
    go_ret
    exact HQ.out _ _ ⟨ret_bool (by have e : decide (xs.length ≤ 2147483647) = false := (by simp; omega); rw [fits137, e, Bool.false_and]), (Below.refl _ _)⟩
  · go_wp2_with fail
    go_loopw [10] (fun v10 wr => ∃ k : Nat, (k ≤ xs.length) ∧ v10 = .int .i64 (↑k) ∧ Hid ((xs.take k).all fits190 = true) ∧ Hid (Below w.heap.size w wr)) (fun v10 _ => xs.length - (intOf v10).toNat)
    case atStart => exact ⟨0, (by omega), rfl, rfl, (Below.refl _ _)⟩
    case round =>
      obtain ⟨k, hk, rfl, L0_all, L0_B⟩ := hrel
      by_cases hlt_k : k < xs.length
      · obtain ⟨ad_k, rfl⟩ := (H0.out.below L0_B.out).addr (by simp [strs, ptrs]; omega)
        have HE := Lib.hid (Ty52.oks.at H1.out hlt_k)
        cases hc2 : (fits190 xs[k])
        · go_wp2_with (first
            | ((with_reducible refine at_dst (N := 13) rfl ?_); refine ev_loadR rfl 52 _ rfl _ rfl [.string xs[k].fName, .string xs[k].fURL] ((H0.out.below L0_B.out).el (j := k) (row := xs[k].cells) (by simp [hlt_k])) _ Try.underlying52 rfl tsz52 ?_)
            | ((with_reducible refine at_dst (N := 4) rfl ?_); refine ev_alloc rfl 52 rfl _ _ tz52 ?_; intro g4 w1 hg hB hb
               have low_g4 := Nat.le_trans L0_B.out.size hg
               have B_w1 := Lib.hid (below_trans L0_B.out hb)
               have g4_w1 : Hid (Blk w1 g4 52 #[.string ⟨#[]⟩, .string ⟨#[]⟩]) := hB
               clear hB hb)
            | (refine ev_store rfl 52 _ _ rfl g4 _ _ rfl rfl 52 g4_w1.out tsz52 rfl rfl ?_; intro w2 hB hg hz
               have hx := GrX.grown (S := fun k => k = g4) hg rfl
               have B_w2 := Lib.hid (below_grx B_w1.out hx B_w1.out.size (fun k => (fun e => e ▸ low_g4)))
               clear hx
               have g4_w2 : Hid (Blk w2 g4 52 #[.string xs[k].fName, .string xs[k].fURL]) := hB
               clear hB hg hz)
            | ((with_reducible refine at_dst (N := 14) rfl ?_); refine ev_loadB rfl 52 _ rfl g4 rfl 52 _ g4_w2.out _ Try.underlying52 rfl tsz52 ?_)
            | (go_at_call 190; (with_reducible refine (fits190_any xs[k] _ (Ty52.ok.below HE.out B_w2.out)).mono ?_); rintro e w3 ⟨rfl, hb⟩; rw [hc2]
               have g4_w3 := Lib.hid (g4_w2.out.below hb)
               have B_w3 := Lib.hid (below_trans B_w2.out hb)
               clear hb))
          go_ret
          exact HQ.out _ _ ⟨ret_bool (by rw [fits137, all_at hlt_k hc2, Bool.and_false]), B_w3.out⟩
        · go_wp2_with (first
            | ((with_reducible refine at_dst (N := 13) rfl ?_); refine ev_loadR rfl 52 _ rfl _ rfl [.string xs[k].fName, .string xs[k].fURL] ((H0.out.below L0_B.out).el (j := k) (row := xs[k].cells) (by simp [hlt_k])) _ Try.underlying52 rfl tsz52 ?_)
            | ((with_reducible refine at_dst (N := 4) rfl ?_); refine ev_alloc rfl 52 rfl _ _ tz52 ?_; intro g4 w1 hg hB hb
               have low_g4 := Nat.le_trans L0_B.out.size hg
               have B_w1 := Lib.hid (below_trans L0_B.out hb)
               have g4_w1 : Hid (Blk w1 g4 52 #[.string ⟨#[]⟩, .string ⟨#[]⟩]) := hB
               clear hB hb)
            | (refine ev_store rfl 52 _ _ rfl g4 _ _ rfl rfl 52 g4_w1.out tsz52 rfl rfl ?_; intro w2 hB hg hz
               have hx := GrX.grown (S := fun k => k = g4) hg rfl
               have B_w2 := Lib.hid (below_grx B_w1.out hx B_w1.out.size (fun k => (fun e => e ▸ low_g4)))
               clear hx
               have g4_w2 : Hid (Blk w2 g4 52 #[.string xs[k].fName, .string xs[k].fURL]) := hB
               clear hB hg hz)
            | ((with_reducible refine at_dst (N := 14) rfl ?_); refine ev_loadB rfl 52 _ rfl g4 rfl 52 _ g4_w2.out _ Try.underlying52 rfl tsz52 ?_)
            | (go_at_call 190; (with_reducible refine (fits190_any xs[k] _ (Ty52.ok.below HE.out B_w2.out)).mono ?_); rintro e w3 ⟨rfl, hb⟩; rw [hc2]
               have g4_w3 := Lib.hid (g4_w2.out.below hb)
               have B_w3 := Lib.hid (below_trans B_w2.out hb)
               clear hb))
          refine ⟨⟨k + 1, (by omega), by go_num, by show _ = _; rw [all_take hlt_k, L0_all.out, hc2]; rfl, B_w3⟩, ?_⟩
          simp [intOf]; omega
      · obtain rfl : k = xs.length := by omega
        rw [List.take_length] at L0_all
        go_wp2_with fail
        go_ret
        exact HQ.out _ _ ⟨ret_bool (by have e : decide (xs.length ≤ 2147483647) = true := (by simp; omega); rw [fits137, e, L0_all.out]; rfl), L0_B.out⟩
def fits74 (x : Ty50) : Bool := (fits137 x.fRepos) && decide (x.fName.size ≤ 2147483647)
set_option maxRecDepth 100000 in
set_option maxHeartbeats 4000000 in
theorem fits74_any (x : Ty50) (w : World) (h0 : Ty50.ok x w)  :
    Calls Try.prog 74 #[.agg #[.int .i64 x.fOp, .slice x.fRepos_a x.fRepos.length x.fRepos_c, .string x.fName]] w fun e w' => e = .returned (.bool (fits74 x)) ∧ Below w.heap.size w w' := by
  have H0 := Lib.hid h0
  clear h0
  have H0_Repos := Lib.hid (Ty50.ok_rRepos H0.out)
  have H0_Reposo := Lib.hid (Ty50.ok_oRepos H0.out)
  suffices hQ : ∀ Q : Ending → World → Prop, Hid (∀ (e : Ending) (w' : World), (e = .returned (.bool (fits74 x)) ∧ Below w.heap.size w w') → Post1 Q e w') → Calls Try.prog 74 #[.agg #[.int .i64 x.fOp, .slice x.fRepos_a x.fRepos.length x.fRepos_c, .string x.fName]] w (fun e w' => Post1 Q e w') from hQ (fun e w' => e = .returned (.bool (fits74 x)) ∧ Below w.heap.size w w') (fun _ _ h => by unfold Post1; exact h)
  intro Q HQ
  go_enter Try.func74, Try.ntmps74
  cases hc1 : (fits137 x.fRepos)
  · have P0 := Lib.hid hc1
    go_wp2_with (first
      | ((with_reducible refine at_dst (N := 1) rfl ?_); refine ev_box rfl 50 _ rfl _ rfl ?_; intro g1 w1 hg hB hb
         have low_g1 := Nat.le_trans (Nat.le_refl _) hg
         have B_w1 := Lib.hid (below_trans (Below.refl _ _) hb)
         have g1_w1 : Hid (Blk w1 g1 50 #[.int .i64 x.fOp, .slice x.fRepos_a x.fRepos.length x.fRepos_c, .string x.fName]) := hB
         clear hB hb)
      | ((with_reducible refine at_dst (N := 4) rfl ?_); refine ev_ld rfl 48 _ rfl ⟨g1, 1, none⟩ rfl (.slice x.fRepos_a x.fRepos.length x.fRepos_c) (g1_w1.out.cell 1) _ Try.underlying48 rfl ?_)
      | (go_at_call 137; (with_reducible refine (fits137_any x.fRepos_a x.fRepos_c x.fRepos _ (H0_Repos.out.below B_w1.out) (Ty52.oks.below H0_Reposo.out B_w1.out)).mono ?_); rintro e w2 ⟨rfl, hb⟩; rw [hc1]
         have g1_w2 := Lib.hid (g1_w1.out.below hb)
         have B_w2 := Lib.hid (below_trans B_w1.out hb)
         clear hb))
    go_ret
    exact HQ.out _ _ ⟨ret_bool (by simp only [fits74, P0.out, Bool.and_self, Bool.and_false, Bool.false_and]), B_w2.out⟩
  · have P0 := Lib.hid hc1
    by_cases hc2 : (2147483647 : Int) < ↑x.fName.size
    · have P1 : Hid (decide (x.fName.size ≤ 2147483647) = false) := by show _ = _; simp; omega
      go_wp2_with (first
        | ((with_reducible refine at_dst (N := 1) rfl ?_); refine ev_box rfl 50 _ rfl _ rfl ?_; intro g1 w1 hg hB hb
           have low_g1 := Nat.le_trans (Nat.le_refl _) hg
           have B_w1 := Lib.hid (below_trans (Below.refl _ _) hb)
           have g1_w1 : Hid (Blk w1 g1 50 #[.int .i64 x.fOp, .slice x.fRepos_a x.fRepos.length x.fRepos_c, .string x.fName]) := hB
           clear hB hb)
        | ((with_reducible refine at_dst (N := 4) rfl ?_); refine ev_ld rfl 48 _ rfl ⟨g1, 1, none⟩ rfl (.slice x.fRepos_a x.fRepos.length x.fRepos_c) (g1_w1.out.cell 1) _ Try.underlying48 rfl ?_)
        | (go_at_call 137; (with_reducible refine (fits137_any x.fRepos_a x.fRepos_c x.fRepos _ (H0_Repos.out.below B_w1.out) (Ty52.oks.below H0_Reposo.out B_w1.out)).mono ?_); rintro e w2 ⟨rfl, hb⟩; rw [hc1]
           have g1_w2 := Lib.hid (g1_w1.out.below hb)
           have B_w2 := Lib.hid (below_trans B_w1.out hb)
           clear hb)
        | ((with_reducible refine at_dst (N := 8) rfl ?_); refine ev_ld rfl 9 _ rfl ⟨g1, 2, none⟩ rfl (.string x.fName) (g1_w2.out.cell 2) _ Try.underlying9 rfl ?_))
      go_ret
      exact HQ.out _ _ ⟨ret_bool (by simp only [fits74, P0.out, P1.out, Bool.and_self, Bool.and_false, Bool.false_and]), B_w2.out⟩
    · have P1 : Hid (decide (x.fName.size ≤ 2147483647) = true) := by show _ = _; simp; omega
      go_wp2_with (first
        | ((with_reducible refine at_dst (N := 1) rfl ?_); refine ev_box rfl 50 _ rfl _ rfl ?_; intro g1 w1 hg hB hb
           have low_g1 := Nat.le_trans (Nat.le_refl _) hg
           have B_w1 := Lib.hid (below_trans (Below.refl _ _) hb)
           have g1_w1 : Hid (Blk w1 g1 50 #[.int .i64 x.fOp, .slice x.fRepos_a x.fRepos.length x.fRepos_c, .string x.fName]) := hB
           clear hB hb)
        | ((with_reducible refine at_dst (N := 4) rfl ?_); refine ev_ld rfl 48 _ rfl ⟨g1, 1, none⟩ rfl (.slice x.fRepos_a x.fRepos.length x.fRepos_c) (g1_w1.out.cell 1) _ Try.underlying48 rfl ?_)
        | (go_at_call 137; (with_reducible refine (fits137_any x.fRepos_a x.fRepos_c x.fRepos _ (H0_Repos.out.below B_w1.out) (Ty52.oks.below H0_Reposo.out B_w1.out)).mono ?_); rintro e w2 ⟨rfl, hb⟩; rw [hc1]
           have g1_w2 := Lib.hid (g1_w1.out.below hb)
           have B_w2 := Lib.hid (below_trans B_w1.out hb)
           clear hb)
        | ((with_reducible refine at_dst (N := 8) rfl ?_); refine ev_ld rfl 9 _ rfl ⟨g1, 2, none⟩ rfl (.string x.fName) (g1_w2.out.cell 2) _ Try.underlying9 rfl ?_))
      go_ret
      exact HQ.out _ _ ⟨ret_bool (by simp only [fits74, P0.out, P1.out, Bool.and_self, Bool.and_false, Bool.false_and]), B_w2.out⟩
def fits24 (xs : List Ty50) : Bool := decide (xs.length ≤ 2147483647) && xs.all fits74
set_option maxRecDepth 100000 in
set_option maxHeartbeats 4000000 in
theorem fits24_any (A : Option Addr) (c : Nat) (xs : List Ty50) (w : World) (h0 : Rows w (A) 3 (xs.map Ty50.cells)) (h1 : Ty50.oks xs w)  :
    Calls Try.prog 24 #[.slice (A) (xs.length) (c)] w fun e w' => e = .returned (.bool (fits24 xs)) ∧ Below w.heap.size w w' := by
  have hl_xs : xs.length ≤ 9223372036854775807 := by have := h0.1; simpa [strs, ptrs] using this
  have H0 := Lib.hid h0
  clear h0
  have H1 := Lib.hid h1
  clear h1
  suffices hQ : ∀ Q : Ending → World → Prop, Hid (∀ (e : Ending) (w' : World), (e = .returned (.bool (fits24 xs)) ∧ Below w.heap.size w w') → Post1 Q e w') → Calls Try.prog 24 #[.slice (A) (xs.length) (c)] w (fun e w' => Post1 Q e w') from hQ (fun e w' => e = .returned (.bool (fits24 xs)) ∧ Below w.heap.size w w') (fun _ _ h => by unfold Post1; exact h)
  intro Q HQ
  go_enter Try.func24, Try.ntmps24
  by_cases hc1 : (2147483647 : Int) < ↑xs.length
  · go_wp2_with fail
    go_ret
    exact HQ.out _ _ ⟨ret_bool (by have e : decide (xs.length ≤ 2147483647) = false := (by simp; omega); rw [fits24, e, Bool.false_and]), (Below.refl _ _)⟩
  · go_wp2_with fail
    go_loopw [10] (fun v10 wr => ∃ k : Nat, (k ≤ xs.length) ∧ v10 = .int .i64 (↑k) ∧ Hid ((xs.take k).all fits74 = true) ∧ Hid (Below w.heap.size w wr)) (fun v10 _ => xs.length - (intOf v10).toNat)
    case atStart => exact ⟨0, (by omega), rfl, rfl, (Below.refl _ _)⟩
    case round =>
      obtain ⟨k, hk, rfl, L0_all, L0_B⟩ := hrel
      by_cases hlt_k : k < xs.length
      · obtain ⟨ad_k, rfl⟩ := (H0.out.below L0_B.out).addr (by simp [strs, ptrs]; omega)
        have HE := Lib.hid (Ty50.oks.at H1.out hlt_k)
        cases hc2 : (fits74 xs[k])
        · go_wp2_with (first
            | ((with_reducible refine at_dst (N := 13) rfl ?_); refine ev_loadR rfl 50 _ rfl _ rfl [.int .i64 xs[k].fOp, .slice xs[k].fRepos_a xs[k].fRepos.length xs[k].fRepos_c, .string xs[k].fName] ((H0.out.below L0_B.out).el (j := k) (row := xs[k].cells) (by simp [hlt_k])) _ Try.underlying50 rfl tsz50 ?_)
            | ((with_reducible refine at_dst (N := 4) rfl ?_); refine ev_alloc rfl 50 rfl _ _ tz50 ?_; intro g4 w1 hg hB hb
               have low_g4 := Nat.le_trans L0_B.out.size hg
               have B_w1 := Lib.hid (below_trans L0_B.out hb)
               have g4_w1 : Hid (Blk w1 g4 50 #[.int .i64 0, .slice none 0 0, .string ⟨#[]⟩]) := hB
               clear hB hb)
            | (refine ev_store rfl 50 _ _ rfl g4 _ _ rfl rfl 50 g4_w1.out tsz50 rfl rfl ?_; intro w2 hB hg hz
               have hx := GrX.grown (S := fun k => k = g4) hg rfl
               have B_w2 := Lib.hid (below_grx B_w1.out hx B_w1.out.size (fun k => (fun e => e ▸ low_g4)))
               clear hx
               have g4_w2 : Hid (Blk w2 g4 50 #[.int .i64 xs[k].fOp, .slice xs[k].fRepos_a xs[k].fRepos.length xs[k].fRepos_c, .string xs[k].fName]) := hB
               clear hB hg hz)
            | ((with_reducible refine at_dst (N := 14) rfl ?_); refine ev_loadB rfl 50 _ rfl g4 rfl 50 _ g4_w2.out _ Try.underlying50 rfl tsz50 ?_)
            | (go_at_call 74; (with_reducible refine (fits74_any xs[k] _ (Ty50.ok.below HE.out B_w2.out)).mono ?_); rintro e w3 ⟨rfl, hb⟩; rw [hc2]
               have g4_w3 := Lib.hid (g4_w2.out.below hb)
               have B_w3 := Lib.hid (below_trans B_w2.out hb)
               clear hb))
          go_ret
          exact HQ.out _ _ ⟨ret_bool (by rw [fits24, all_at hlt_k hc2, Bool.and_false]), B_w3.out⟩
        · go_wp2_with (first
            | ((with_reducible refine at_dst (N := 13) rfl ?_); refine ev_loadR rfl 50 _ rfl _ rfl [.int .i64 xs[k].fOp, .slice xs[k].fRepos_a xs[k].fRepos.length xs[k].fRepos_c, .string xs[k].fName] ((H0.out.below L0_B.out).el (j := k) (row := xs[k].cells) (by simp [hlt_k])) _ Try.underlying50 rfl tsz50 ?_)
            | ((with_reducible refine at_dst (N := 4) rfl ?_); refine ev_alloc rfl 50 rfl _ _ tz50 ?_; intro g4 w1 hg hB hb
               have low_g4 := Nat.le_trans L0_B.out.size hg
               have B_w1 := Lib.hid (below_trans L0_B.out hb)
               have g4_w1 : Hid (Blk w1 g4 50 #[.int .i64 0, .slice none 0 0, .string ⟨#[]⟩]) := hB
               clear hB hb)
            | (refine ev_store rfl 50 _ _ rfl g4 _ _ rfl rfl 50 g4_w1.out tsz50 rfl rfl ?_; intro w2 hB hg hz
               have hx := GrX.grown (S := fun k => k = g4) hg rfl
               have B_w2 := Lib.hid (below_grx B_w1.out hx B_w1.out.size (fun k => (fun e => e ▸ low_g4)))
               clear hx
               have g4_w2 : Hid (Blk w2 g4 50 #[.int .i64 xs[k].fOp, .slice xs[k].fRepos_a xs[k].fRepos.length xs[k].fRepos_c, .string xs[k].fName]) := hB
               clear hB hg hz)
            | ((with_reducible refine at_dst (N := 14) rfl ?_); refine ev_loadB rfl 50 _ rfl g4 rfl 50 _ g4_w2.out _ Try.underlying50 rfl tsz50 ?_)
            | (go_at_call 74; (with_reducible refine (fits74_any xs[k] _ (Ty50.ok.below HE.out B_w2.out)).mono ?_); rintro e w3 ⟨rfl, hb⟩; rw [hc2]
               have g4_w3 := Lib.hid (g4_w2.out.below hb)
               have B_w3 := Lib.hid (below_trans B_w2.out hb)
               clear hb))
          refine ⟨⟨k + 1, (by omega), by go_num, by show _ = _; rw [all_take hlt_k, L0_all.out, hc2]; rfl, B_w3⟩, ?_⟩
          simp [intOf]; omega
      · obtain rfl : k = xs.length := by omega
        rw [List.take_length] at L0_all
        go_wp2_with fail
        go_ret
        exact HQ.out _ _ ⟨ret_bool (by have e : decide (xs.length ≤ 2147483647) = true := (by simp; omega); rw [fits24, e, L0_all.out]; rfl), L0_B.out⟩
def fits125 (x : Ty94) : Bool := decide (x.fName.size ≤ 2147483647) && decide (x.fData.size ≤ 2147483647)
set_option maxRecDepth 100000 in
set_option maxHeartbeats 4000000 in
theorem fits125_any (x : Ty94) (w : World) (h0 : Ty94.ok x w)  :
    Calls Try.prog 125 #[.agg #[.string x.fName, .string x.fData]] w fun e w' => e = .returned (.bool (fits125 x)) ∧ Below w.heap.size w w' := by
  have H0 := Lib.hid h0
  clear h0
  suffices hQ : ∀ Q : Ending → World → Prop, Hid (∀ (e : Ending) (w' : World), (e = .returned (.bool (fits125 x)) ∧ Below w.heap.size w w') → Post1 Q e w') → Calls Try.prog 125 #[.agg #[.string x.fName, .string x.fData]] w (fun e w' => Post1 Q e w') from hQ (fun e w' => e = .returned (.bool (fits125 x)) ∧ Below w.heap.size w w') (fun _ _ h => by unfold Post1; exact h)
  intro Q HQ
  go_enter Try.func125, Try.ntmps125
  by_cases hc1 : (2147483647 : Int) < ↑x.fName.size
  · have P0 : Hid (decide (x.fName.size ≤ 2147483647) = false) := by show _ = _; simp; omega
    go_wp2_with (first
      | ((with_reducible refine at_dst (N := 1) rfl ?_); refine ev_box rfl 94 _ rfl _ rfl ?_; intro g1 w1 hg hB hb
         have low_g1 := Nat.le_trans (Nat.le_refl _) hg
         have B_w1 := Lib.hid (below_trans (Below.refl _ _) hb)
         have g1_w1 : Hid (Blk w1 g1 94 #[.string x.fName, .string x.fData]) := hB
         clear hB hb)
      | ((with_reducible refine at_dst (N := 4) rfl ?_); refine ev_ld rfl 9 _ rfl ⟨g1, 0, none⟩ rfl (.string x.fName) (g1_w1.out.cell 0) _ Try.underlying9 rfl ?_))
    go_ret
    exact HQ.out _ _ ⟨ret_bool (by simp only [fits125, P0.out, Bool.and_self, Bool.and_false, Bool.false_and]), B_w1.out⟩
  · have P0 : Hid (decide (x.fName.size ≤ 2147483647) = true) := by show _ = _; simp; omega
    by_cases hc2 : (2147483647 : Int) < ↑x.fData.size
    · have P1 : Hid (decide (x.fData.size ≤ 2147483647) = false) := by show _ = _; simp; omega
      go_wp2_with (first
        | ((with_reducible refine at_dst (N := 1) rfl ?_); refine ev_box rfl 94 _ rfl _ rfl ?_; intro g1 w1 hg hB hb
           have low_g1 := Nat.le_trans (Nat.le_refl _) hg
           have B_w1 := Lib.hid (below_trans (Below.refl _ _) hb)
           have g1_w1 : Hid (Blk w1 g1 94 #[.string x.fName, .string x.fData]) := hB
           clear hB hb)
        | ((with_reducible refine at_dst (N := 4) rfl ?_); refine ev_ld rfl 9 _ rfl ⟨g1, 0, none⟩ rfl (.string x.fName) (g1_w1.out.cell 0) _ Try.underlying9 rfl ?_)
        | ((with_reducible refine at_dst (N := 8) rfl ?_); refine ev_ld rfl 9 _ rfl ⟨g1, 1, none⟩ rfl (.string x.fData) (g1_w1.out.cell 1) _ Try.underlying9 rfl ?_))
      go_ret
      exact HQ.out _ _ ⟨ret_bool (by simp only [fits125, P0.out, P1.out, Bool.and_self, Bool.and_false, Bool.false_and]), B_w1.out⟩
    · have P1 : Hid (decide (x.fData.size ≤ 2147483647) = true) := by show _ = _; simp; omega
      go_wp2_with (first
        | ((with_reducible refine at_dst (N := 1) rfl ?_); refine ev_box rfl 94 _ rfl _ rfl ?_; intro g1 w1 hg hB hb
           have low_g1 := Nat.le_trans (Nat.le_refl _) hg
           have B_w1 := Lib.hid (below_trans (Below.refl _ _) hb)
           have g1_w1 : Hid (Blk w1 g1 94 #[.string x.fName, .string x.fData]) := hB
           clear hB hb)
        | ((with_reducible refine at_dst (N := 4) rfl ?_); refine ev_ld rfl 9 _ rfl ⟨g1, 0, none⟩ rfl (.string x.fName) (g1_w1.out.cell 0) _ Try.underlying9 rfl ?_)
        | ((with_reducible refine at_dst (N := 8) rfl ?_); refine ev_ld rfl 9 _ rfl ⟨g1, 1, none⟩ rfl (.string x.fData) (g1_w1.out.cell 1) _ Try.underlying9 rfl ?_))
      go_ret
      exact HQ.out _ _ ⟨ret_bool (by simp only [fits125, P0.out, P1.out, Bool.and_self, Bool.and_false, Bool.false_and]), B_w1.out⟩
def fits63 (xs : List Ty94) : Bool := decide (xs.length ≤ 2147483647) && xs.all fits125
set_option maxRecDepth 100000 in
set_option maxHeartbeats 4000000 in
theorem fits63_any (A : Option Addr) (c : Nat) (xs : List Ty94) (w : World) (h0 : Rows w (A) 2 (xs.map Ty94.cells)) (h1 : Ty94.oks xs w)  :
    Calls Try.prog 63 #[.slice (A) (xs.length) (c)] w fun e w' => e = .returned (.bool (fits63 xs)) ∧ Below w.heap.size w w' := by
  have hl_xs : xs.length ≤ 9223372036854775807 := by have := h0.1; simpa [strs, ptrs] using this
  have H0 := Lib.hid h0
  clear h0
  have H1 := Lib.hid h1
  clear h1
  suffices hQ : ∀ Q : Ending → World → Prop, Hid (∀ (e : Ending) (w' : World), (e = .returned (.bool (fits63 xs)) ∧ Below w.heap.size w w') → Post1 Q e w') → Calls Try.prog 63 #[.slice (A) (xs.length) (c)] w (fun e w' => Post1 Q e w') from hQ (fun e w' => e = .returned (.bool (fits63 xs)) ∧ Below w.heap.size w w') (fun _ _ h => by unfold Post1; exact h)
  intro Q HQ
  go_enter Try.func63, Try.ntmps63
  by_cases hc1 : (2147483647 : Int) < ↑xs.length
  · go_wp2_with fail
    go_ret
    exact HQ.out _ _ ⟨ret_bool (by have e : decide (xs.length ≤ 2147483647) = false := (by simp; omega); rw [fits63, e, Bool.false_and]), (Below.refl _ _)⟩
  · go_wp2_with fail
    go_loopw [10] (fun v10 wr => ∃ k : Nat, (k ≤ xs.length) ∧ v10 = .int .i64 (↑k) ∧ Hid ((xs.take k).all fits125 = true) ∧ Hid (Below w.heap.size w wr)) (fun v10 _ => xs.length - (intOf v10).toNat)
    case atStart => exact ⟨0, (by omega), rfl, rfl, (Below.refl _ _)⟩
    case round =>
      obtain ⟨k, hk, rfl, L0_all, L0_B⟩ := hrel
      by_cases hlt_k : k < xs.length
      · obtain ⟨ad_k, rfl⟩ := (H0.out.below L0_B.out).addr (by simp [strs, ptrs]; omega)
        have HE := Lib.hid (Ty94.oks.at H1.out hlt_k)
        cases hc2 : (fits125 xs[k])
        · go_wp2_with (first
            | ((with_reducible refine at_dst (N := 13) rfl ?_); refine ev_loadR rfl 94 _ rfl _ rfl [.string xs[k].fName, .string xs[k].fData] ((H0.out.below L0_B.out).el (j := k) (row := xs[k].cells) (by simp [hlt_k])) _ Try.underlying94 rfl tsz94 ?_)
            | ((with_reducible refine at_dst (N := 4) rfl ?_); refine ev_alloc rfl 94 rfl _ _ tz94 ?_; intro g4 w1 hg hB hb
               have low_g4 := Nat.le_trans L0_B.out.size hg
               have B_w1 := Lib.hid (below_trans L0_B.out hb)
               have g4_w1 : Hid (Blk w1 g4 94 #[.string ⟨#[]⟩, .string ⟨#[]⟩]) := hB
               clear hB hb)
            | (refine ev_store rfl 94 _ _ rfl g4 _ _ rfl rfl 94 g4_w1.out tsz94 rfl rfl ?_; intro w2 hB hg hz
               have hx := GrX.grown (S := fun k => k = g4) hg rfl
               have B_w2 := Lib.hid (below_grx B_w1.out hx B_w1.out.size (fun k => (fun e => e ▸ low_g4)))
               clear hx
               have g4_w2 : Hid (Blk w2 g4 94 #[.string xs[k].fName, .string xs[k].fData]) := hB
               clear hB hg hz)
            | ((with_reducible refine at_dst (N := 14) rfl ?_); refine ev_loadB rfl 94 _ rfl g4 rfl 94 _ g4_w2.out _ Try.underlying94 rfl tsz94 ?_)
            | (go_at_call 125; (with_reducible refine (fits125_any xs[k] _ (Ty94.ok.below HE.out B_w2.out)).mono ?_); rintro e w3 ⟨rfl, hb⟩; rw [hc2]
               have g4_w3 := Lib.hid (g4_w2.out.below hb)
               have B_w3 := Lib.hid (below_trans B_w2.out hb)
               clear hb))
          go_ret
          exact HQ.out _ _ ⟨ret_bool (by rw [fits63, all_at hlt_k hc2, Bool.and_false]), B_w3.out⟩
        · go_wp2_with (first
            | ((with_reducible refine at_dst (N := 13) rfl ?_); refine ev_loadR rfl 94 _ rfl _ rfl [.string xs[k].fName, .string xs[k].fData] ((H0.out.below L0_B.out).el (j := k) (row := xs[k].cells) (by simp [hlt_k])) _ Try.underlying94 rfl tsz94 ?_)
            | ((with_reducible refine at_dst (N := 4) rfl ?_); refine ev_alloc rfl 94 rfl _ _ tz94 ?_; intro g4 w1 hg hB hb
               have low_g4 := Nat.le_trans L0_B.out.size hg
               have B_w1 := Lib.hid (below_trans L0_B.out hb)
               have g4_w1 : Hid (Blk w1 g4 94 #[.string ⟨#[]⟩, .string ⟨#[]⟩]) := hB
               clear hB hb)
            | (refine ev_store rfl 94 _ _ rfl g4 _ _ rfl rfl 94 g4_w1.out tsz94 rfl rfl ?_; intro w2 hB hg hz
               have hx := GrX.grown (S := fun k => k = g4) hg rfl
               have B_w2 := Lib.hid (below_grx B_w1.out hx B_w1.out.size (fun k => (fun e => e ▸ low_g4)))
               clear hx
               have g4_w2 : Hid (Blk w2 g4 94 #[.string xs[k].fName, .string xs[k].fData]) := hB
               clear hB hg hz)
            | ((with_reducible refine at_dst (N := 14) rfl ?_); refine ev_loadB rfl 94 _ rfl g4 rfl 94 _ g4_w2.out _ Try.underlying94 rfl tsz94 ?_)
            | (go_at_call 125; (with_reducible refine (fits125_any xs[k] _ (Ty94.ok.below HE.out B_w2.out)).mono ?_); rintro e w3 ⟨rfl, hb⟩; rw [hc2]
               have g4_w3 := Lib.hid (g4_w2.out.below hb)
               have B_w3 := Lib.hid (below_trans B_w2.out hb)
               clear hb))
          refine ⟨⟨k + 1, (by omega), by go_num, by show _ = _; rw [all_take hlt_k, L0_all.out, hc2]; rfl, B_w3⟩, ?_⟩
          simp [intOf]; omega
      · obtain rfl : k = xs.length := by omega
        rw [List.take_length] at L0_all
        go_wp2_with fail
        go_ret
        exact HQ.out _ _ ⟨ret_bool (by have e : decide (xs.length ≤ 2147483647) = true := (by simp; omega); rw [fits63, e, L0_all.out]; rfl), L0_B.out⟩
def fits151 (x : Ty78) : Bool := decide (x.fName.size ≤ 2147483647) && decide (x.fEmail.size ≤ 2147483647) && decide (x.fURL.size ≤ 2147483647)
set_option maxRecDepth 100000 in
set_option maxHeartbeats 4000000 in
theorem fits151_any (x : Ty78) (w : World) (h0 : Ty78.ok x w)  :
    Calls Try.prog 151 #[.agg #[.bool x.fNil, .string x.fName, .string x.fEmail, .string x.fURL]] w fun e w' => e = .returned (.bool (fits151 x)) ∧ Below w.heap.size w w' := by
  have H0 := Lib.hid h0
  clear h0
  suffices hQ : ∀ Q : Ending → World → Prop, Hid (∀ (e : Ending) (w' : World), (e = .returned (.bool (fits151 x)) ∧ Below w.heap.size w w') → Post1 Q e w') → Calls Try.prog 151 #[.agg #[.bool x.fNil, .string x.fName, .string x.fEmail, .string x.fURL]] w (fun e w' => Post1 Q e w') from hQ (fun e w' => e = .returned (.bool (fits151 x)) ∧ Below w.heap.size w w') (fun _ _ h => by unfold Post1; exact h)
  intro Q HQ
  go_enter Try.func151, Try.ntmps151
  by_cases hc1 : (2147483647 : Int) < ↑x.fName.size
  · have P0 : Hid (decide (x.fName.size ≤ 2147483647) = false) := by show _ = _; simp; omega
    go_wp2_with (first
      | ((with_reducible refine at_dst (N := 1) rfl ?_); refine ev_box rfl 78 _ rfl _ rfl ?_; intro g1 w1 hg hB hb
         have low_g1 := Nat.le_trans (Nat.le_refl _) hg
         have B_w1 := Lib.hid (below_trans (Below.refl _ _) hb)
         have g1_w1 : Hid (Blk w1 g1 78 #[.bool x.fNil, .string x.fName, .string x.fEmail, .string x.fURL]) := hB
         clear hB hb)
      | ((with_reducible refine at_dst (N := 4) rfl ?_); refine ev_ld rfl 9 _ rfl ⟨g1, 1, none⟩ rfl (.string x.fName) (g1_w1.out.cell 1) _ Try.underlying9 rfl ?_))
    go_ret
    exact HQ.out _ _ ⟨ret_bool (by simp only [fits151, P0.out, Bool.and_self, Bool.and_false, Bool.false_and]), B_w1.out⟩
  · have P0 : Hid (decide (x.fName.size ≤ 2147483647) = true) := by show _ = _; simp; omega
    by_cases hc2 : (2147483647 : Int) < ↑x.fEmail.size
    · have P1 : Hid (decide (x.fEmail.size ≤ 2147483647) = false) := by show _ = _; simp; omega
      go_wp2_with (first
        | ((with_reducible refine at_dst (N := 1) rfl ?_); refine ev_box rfl 78 _ rfl _ rfl ?_; intro g1 w1 hg hB hb
           have low_g1 := Nat.le_trans (Nat.le_refl _) hg
           have B_w1 := Lib.hid (below_trans (Below.refl _ _) hb)
           have g1_w1 : Hid (Blk w1 g1 78 #[.bool x.fNil, .string x.fName, .string x.fEmail, .string x.fURL]) := hB
           clear hB hb)
        | ((with_reducible refine at_dst (N := 4) rfl ?_); refine ev_ld rfl 9 _ rfl ⟨g1, 1, none⟩ rfl (.string x.fName) (g1_w1.out.cell 1) _ Try.underlying9 rfl ?_)
        | ((with_reducible refine at_dst (N := 8) rfl ?_); refine ev_ld rfl 9 _ rfl ⟨g1, 2, none⟩ rfl (.string x.fEmail) (g1_w1.out.cell 2) _ Try.underlying9 rfl ?_))
      go_ret
      exact HQ.out _ _ ⟨ret_bool (by simp only [fits151, P0.out, P1.out, Bool.and_self, Bool.and_false, Bool.false_and]), B_w1.out⟩
    · have P1 : Hid (decide (x.fEmail.size ≤ 2147483647) = true) := by show _ = _; simp; omega
      by_cases hc3 : (2147483647 : Int) < ↑x.fURL.size
      · have P2 : Hid (decide (x.fURL.size ≤ 2147483647) = false) := by show _ = _; simp; omega
        go_wp2_with (first
          | ((with_reducible refine at_dst (N := 1) rfl ?_); refine ev_box rfl 78 _ rfl _ rfl ?_; intro g1 w1 hg hB hb
             have low_g1 := Nat.le_trans (Nat.le_refl _) hg
             have B_w1 := Lib.hid (below_trans (Below.refl _ _) hb)
             have g1_w1 : Hid (Blk w1 g1 78 #[.bool x.fNil, .string x.fName, .string x.fEmail, .string x.fURL]) := hB
             clear hB hb)
          | ((with_reducible refine at_dst (N := 4) rfl ?_); refine ev_ld rfl 9 _ rfl ⟨g1, 1, none⟩ rfl (.string x.fName) (g1_w1.out.cell 1) _ Try.underlying9 rfl ?_)
          | ((with_reducible refine at_dst (N := 8) rfl ?_); refine ev_ld rfl 9 _ rfl ⟨g1, 2, none⟩ rfl (.string x.fEmail) (g1_w1.out.cell 2) _ Try.underlying9 rfl ?_)
          | ((with_reducible refine at_dst (N := 12) rfl ?_); refine ev_ld rfl 9 _ rfl ⟨g1, 3, none⟩ rfl (.string x.fURL) (g1_w1.out.cell 3) _ Try.underlying9 rfl ?_))
        go_ret
        exact HQ.out _ _ ⟨ret_bool (by simp only [fits151, P0.out, P1.out, P2.out, Bool.and_self, Bool.and_false, Bool.false_and]), B_w1.out⟩
      · have P2 : Hid (decide (x.fURL.size ≤ 2147483647) = true) := by show _ = _; simp; omega
        go_wp2_with (first
          | ((with_reducible refine at_dst (N := 1) rfl ?_); refine ev_box rfl 78 _ rfl _ rfl ?_; intro g1 w1 hg hB hb
             have low_g1 := Nat.le_trans (Nat.le_refl _) hg
             have B_w1 := Lib.hid (below_trans (Below.refl _ _) hb)
             have g1_w1 : Hid (Blk w1 g1 78 #[.bool x.fNil, .string x.fName, .string x.fEmail, .string x.fURL]) := hB
             clear hB hb)
          | ((with_reducible refine at_dst (N := 4) rfl ?_); refine ev_ld rfl 9 _ rfl ⟨g1, 1, none⟩ rfl (.string x.fName) (g1_w1.out.cell 1) _ Try.underlying9 rfl ?_)
          | ((with_reducible refine at_dst (N := 8) rfl ?_); refine ev_ld rfl 9 _ rfl ⟨g1, 2, none⟩ rfl (.string x.fEmail) (g1_w1.out.cell 2) _ Try.underlying9 rfl ?_)
          | ((with_reducible refine at_dst (N := 12) rfl ?_); refine ev_ld rfl 9 _ rfl ⟨g1, 3, none⟩ rfl (.string x.fURL) (g1_w1.out.cell 3) _ Try.underlying9 rfl ?_))
        go_ret
        exact HQ.out _ _ ⟨ret_bool (by simp only [fits151, P0.out, P1.out, P2.out, Bool.and_self, Bool.and_false, Bool.false_and]), B_w1.out⟩
def fits89 (xs : List Ty78) : Bool := decide (xs.length ≤ 2147483647) && xs.all fits151
set_option maxRecDepth 100000 in
set_option maxHeartbeats 4000000 in
theorem fits89_any (A : Option Addr) (c : Nat) (xs : List Ty78) (w : World) (h0 : Rows w (A) 4 (xs.map Ty78.cells)) (h1 : Ty78.oks xs w)  :
    Calls Try.prog 89 #[.slice (A) (xs.length) (c)] w fun e w' => e = .returned (.bool (fits89 xs)) ∧ Below w.heap.size w w' := by
  have hl_xs : xs.length ≤ 9223372036854775807 := by have := h0.1; simpa [strs, ptrs] using this
  have H0 := Lib.hid h0
  clear h0
  have H1 := Lib.hid h1
  clear h1
  suffices hQ : ∀ Q : Ending → World → Prop, Hid (∀ (e : Ending) (w' : World), (e = .returned (.bool (fits89 xs)) ∧ Below w.heap.size w w') → Post1 Q e w') → Calls Try.prog 89 #[.slice (A) (xs.length) (c)] w (fun e w' => Post1 Q e w') from hQ (fun e w' => e = .returned (.bool (fits89 xs)) ∧ Below w.heap.size w w') (fun _ _ h => by unfold Post1; exact h)
  intro Q HQ
  go_enter Try.func89, Try.ntmps89
  by_cases hc1 : (2147483647 : Int) < ↑xs.length
  · go_wp2_with fail
    go_ret
    exact HQ.out _ _ ⟨ret_bool (by have e : decide (xs.length ≤ 2147483647) = false := (by simp; omega); rw [fits89, e, Bool.false_and]), (Below.refl _ _)⟩
  · go_wp2_with fail
    go_loopw [10] (fun v10 wr => ∃ k : Nat, (k ≤ xs.length) ∧ v10 = .int .i64 (↑k) ∧ Hid ((xs.take k).all fits151 = true) ∧ Hid (Below w.heap.size w wr)) (fun v10 _ => xs.length - (intOf v10).toNat)
    case atStart => exact ⟨0, (by omega), rfl, rfl, (Below.refl _ _)⟩
    case round =>
      obtain ⟨k, hk, rfl, L0_all, L0_B⟩ := hrel
      by_cases hlt_k : k < xs.length
      · obtain ⟨ad_k, rfl⟩ := (H0.out.below L0_B.out).addr (by simp [strs, ptrs]; omega)
        have HE := Lib.hid (Ty78.oks.at H1.out hlt_k)
        cases hc2 : (fits151 xs[k])
        · go_wp2_with (first
            | ((with_reducible refine at_dst (N := 13) rfl ?_); refine ev_loadR rfl 78 _ rfl _ rfl [.bool xs[k].fNil, .string xs[k].fName, .string xs[k].fEmail, .string xs[k].fURL] ((H0.out.below L0_B.out).el (j := k) (row := xs[k].cells) (by simp [hlt_k])) _ Try.underlying78 rfl tsz78 ?_)
            | ((with_reducible refine at_dst (N := 4) rfl ?_); refine ev_alloc rfl 78 rfl _ _ tz78 ?_; intro g4 w1 hg hB hb
               have low_g4 := Nat.le_trans L0_B.out.size hg
               have B_w1 := Lib.hid (below_trans L0_B.out hb)
               have g4_w1 : Hid (Blk w1 g4 78 #[.bool false, .string ⟨#[]⟩, .string ⟨#[]⟩, .string ⟨#[]⟩]) := hB
               clear hB hb)
            | (refine ev_store rfl 78 _ _ rfl g4 _ _ rfl rfl 78 g4_w1.out tsz78 rfl rfl ?_; intro w2 hB hg hz
               have hx := GrX.grown (S := fun k => k = g4) hg rfl
               have B_w2 := Lib.hid (below_grx B_w1.out hx B_w1.out.size (fun k => (fun e => e ▸ low_g4)))
               clear hx
               have g4_w2 : Hid (Blk w2 g4 78 #[.bool xs[k].fNil, .string xs[k].fName, .string xs[k].fEmail, .string xs[k].fURL]) := hB
               clear hB hg hz)
            | ((with_reducible refine at_dst (N := 14) rfl ?_); refine ev_loadB rfl 78 _ rfl g4 rfl 78 _ g4_w2.out _ Try.underlying78 rfl tsz78 ?_)
            | (go_at_call 151; (with_reducible refine (fits151_any xs[k] _ (Ty78.ok.below HE.out B_w2.out)).mono ?_); rintro e w3 ⟨rfl, hb⟩; rw [hc2]
               have g4_w3 := Lib.hid (g4_w2.out.below hb)
               have B_w3 := Lib.hid (below_trans B_w2.out hb)
               clear hb))
          go_ret
          exact HQ.out _ _ ⟨ret_bool (by rw [fits89, all_at hlt_k hc2, Bool.and_false]), B_w3.out⟩
        · go_wp2_with (first
            | ((with_reducible refine at_dst (N := 13) rfl ?_); refine ev_loadR rfl 78 _ rfl _ rfl [.bool xs[k].fNil, .string xs[k].fName, .string xs[k].fEmail, .string xs[k].fURL] ((H0.out.below L0_B.out).el (j := k) (row := xs[k].cells) (by simp [hlt_k])) _ Try.underlying78 rfl tsz78 ?_)
            | ((with_reducible refine at_dst (N := 4) rfl ?_); refine ev_alloc rfl 78 rfl _ _ tz78 ?_; intro g4 w1 hg hB hb
               have low_g4 := Nat.le_trans L0_B.out.size hg
               have B_w1 := Lib.hid (below_trans L0_B.out hb)
               have g4_w1 : Hid (Blk w1 g4 78 #[.bool false, .string ⟨#[]⟩, .string ⟨#[]⟩, .string ⟨#[]⟩]) := hB
               clear hB hb)
            | (refine ev_store rfl 78 _ _ rfl g4 _ _ rfl rfl 78 g4_w1.out tsz78 rfl rfl ?_; intro w2 hB hg hz
               have hx := GrX.grown (S := fun k => k = g4) hg rfl
               have B_w2 := Lib.hid (below_grx B_w1.out hx B_w1.out.size (fun k => (fun e => e ▸ low_g4)))
               clear hx
               have g4_w2 : Hid (Blk w2 g4 78 #[.bool xs[k].fNil, .string xs[k].fName, .string xs[k].fEmail, .string xs[k].fURL]) := hB
               clear hB hg hz)
            | ((with_reducible refine at_dst (N := 14) rfl ?_); refine ev_loadB rfl 78 _ rfl g4 rfl 78 _ g4_w2.out _ Try.underlying78 rfl tsz78 ?_)
            | (go_at_call 151; (with_reducible refine (fits151_any xs[k] _ (Ty78.ok.below HE.out B_w2.out)).mono ?_); rintro e w3 ⟨rfl, hb⟩; rw [hc2]
               have g4_w3 := Lib.hid (g4_w2.out.below hb)
               have B_w3 := Lib.hid (below_trans B_w2.out hb)
               clear hb))
          refine ⟨⟨k + 1, (by omega), by go_num, by show _ = _; rw [all_take hlt_k, L0_all.out, hc2]; rfl, B_w3⟩, ?_⟩
          simp [intOf]; omega
      · obtain rfl : k = xs.length := by omega
        rw [List.take_length] at L0_all
        go_wp2_with fail
        go_ret
        exact HQ.out _ _ ⟨ret_bool (by have e : decide (xs.length ≤ 2147483647) = true := (by simp; omega); rw [fits89, e, L0_all.out]; rfl), L0_B.out⟩
def fits152 (x : Ty80) : Bool := decide (x.fName.size ≤ 2147483647) && decide (x.fVersion.size ≤ 2147483647) && decide (x.fRepository.size ≤ 2147483647) && decide (x.fCondition.size ≤ 2147483647) && (fits3 x.fTags) && decide (x.fAlias.size ≤ 2147483647)
set_option maxRecDepth 100000 in
set_option maxHeartbeats 4000000 in
theorem fits152_any (x : Ty80) (w : World) (h0 : Ty80.ok x w)  :
    Calls Try.prog 152 #[.agg #[.bool x.fNil, .string x.fName, .string x.fVersion, .string x.fRepository, .string x.fCondition, .slice x.fTags_a x.fTags.length x.fTags_c, .string x.fAlias]] w fun e w' => e = .returned (.bool (fits152 x)) ∧ Below w.heap.size w w' := by
  have H0 := Lib.hid h0
  clear h0
  have H0_Tags := Lib.hid (Ty80.ok_sTags H0.out)
  suffices hQ : ∀ Q : Ending → World → Prop, Hid (∀ (e : Ending) (w' : World), (e = .returned (.bool (fits152 x)) ∧ Below w.heap.size w w') → Post1 Q e w') → Calls Try.prog 152 #[.agg #[.bool x.fNil, .string x.fName, .string x.fVersion, .string x.fRepository, .string x.fCondition, .slice x.fTags_a x.fTags.length x.fTags_c, .string x.fAlias]] w (fun e w' => Post1 Q e w') from hQ (fun e w' => e = .returned (.bool (fits152 x)) ∧ Below w.heap.size w w') (fun _ _ h => by unfold Post1; exact h)
  intro Q HQ
  go_enter Try.func152, Try.ntmps152
  by_cases hc1 : (2147483647 : Int) < ↑x.fName.size
  · have P0 : Hid (decide (x.fName.size ≤ 2147483647) = false) := by show _ = _; simp; omega
    go_wp2_with (first
      | ((with_reducible refine at_dst (N := 1) rfl ?_); refine ev_box rfl 80 _ rfl _ rfl ?_; intro g1 w1 hg hB hb
         have low_g1 := Nat.le_trans (Nat.le_refl _) hg
         have B_w1 := Lib.hid (below_trans (Below.refl _ _) hb)
         have g1_w1 : Hid (Blk w1 g1 80 #[.bool x.fNil, .string x.fName, .string x.fVersion, .string x.fRepository, .string x.fCondition, .slice x.fTags_a x.fTags.length x.fTags_c, .string x.fAlias]) := hB
         clear hB hb)
      | ((with_reducible refine at_dst (N := 4) rfl ?_); refine ev_ld rfl 9 _ rfl ⟨g1, 1, none⟩ rfl (.string x.fName) (g1_w1.out.cell 1) _ Try.underlying9 rfl ?_))
    go_ret
    exact HQ.out _ _ ⟨ret_bool (by simp only [fits152, P0.out, Bool.and_self, Bool.and_false, Bool.false_and]), B_w1.out⟩
  · have P0 : Hid (decide (x.fName.size ≤ 2147483647) = true) := by show _ = _; simp; omega
    by_cases hc2 : (2147483647 : Int) < ↑x.fVersion.size
    · have P1 : Hid (decide (x.fVersion.size ≤ 2147483647) = false) := by show _ = _; simp; omega
      go_wp2_with (first
        | ((with_reducible refine at_dst (N := 1) rfl ?_); refine ev_box rfl 80 _ rfl _ rfl ?_; intro g1 w1 hg hB hb
           have low_g1 := Nat.le_trans (Nat.le_refl _) hg
           have B_w1 := Lib.hid (below_trans (Below.refl _ _) hb)
           have g1_w1 : Hid (Blk w1 g1 80 #[.bool x.fNil, .string x.fName, .string x.fVersion, .string x.fRepository, .string x.fCondition, .slice x.fTags_a x.fTags.length x.fTags_c, .string x.fAlias]) := hB
           clear hB hb)
        | ((with_reducible refine at_dst (N := 4) rfl ?_); refine ev_ld rfl 9 _ rfl ⟨g1, 1, none⟩ rfl (.string x.fName) (g1_w1.out.cell 1) _ Try.underlying9 rfl ?_)
        | ((with_reducible refine at_dst (N := 8) rfl ?_); refine ev_ld rfl 9 _ rfl ⟨g1, 2, none⟩ rfl (.string x.fVersion) (g1_w1.out.cell 2) _ Try.underlying9 rfl ?_))
      go_ret
      exact HQ.out _ _ ⟨ret_bool (by simp only [fits152, P0.out, P1.out, Bool.and_self, Bool.and_false, Bool.false_and]), B_w1.out⟩
    · have P1 : Hid (decide (x.fVersion.size ≤ 2147483647) = true) := by show _ = _; simp; omega
      by_cases hc3 : (2147483647 : Int) < ↑x.fRepository.size
      · have P2 : Hid (decide (x.fRepository.size ≤ 2147483647) = false) := by show _ = _; simp; omega
        go_wp2_with (first
          | ((with_reducible refine at_dst (N := 1) rfl ?_); refine ev_box rfl 80 _ rfl _ rfl ?_; intro g1 w1 hg hB hb
             have low_g1 := Nat.le_trans (Nat.le_refl _) hg
             have B_w1 := Lib.hid (below_trans (Below.refl _ _) hb)
             have g1_w1 : Hid (Blk w1 g1 80 #[.bool x.fNil, .string x.fName, .string x.fVersion, .string x.fRepository, .string x.fCondition, .slice x.fTags_a x.fTags.length x.fTags_c, .string x.fAlias]) := hB
             clear hB hb)
          | ((with_reducible refine at_dst (N := 4) rfl ?_); refine ev_ld rfl 9 _ rfl ⟨g1, 1, none⟩ rfl (.string x.fName) (g1_w1.out.cell 1) _ Try.underlying9 rfl ?_)
          | ((with_reducible refine at_dst (N := 8) rfl ?_); refine ev_ld rfl 9 _ rfl ⟨g1, 2, none⟩ rfl (.string x.fVersion) (g1_w1.out.cell 2) _ Try.underlying9 rfl ?_)
          | ((with_reducible refine at_dst (N := 12) rfl ?_); refine ev_ld rfl 9 _ rfl ⟨g1, 3, none⟩ rfl (.string x.fRepository) (g1_w1.out.cell 3) _ Try.underlying9 rfl ?_))
        go_ret
        exact HQ.out _ _ ⟨ret_bool (by simp only [fits152, P0.out, P1.out, P2.out, Bool.and_self, Bool.and_false, Bool.false_and]), B_w1.out⟩
      · have P2 : Hid (decide (x.fRepository.size ≤ 2147483647) = true) := by show _ = _; simp; omega
        by_cases hc4 : (2147483647 : Int) < ↑x.fCondition.size
        · have P3 : Hid (decide (x.fCondition.size ≤ 2147483647) = false) := by show _ = _; simp; omega
          go_wp2_with (first
            | ((with_reducible refine at_dst (N := 1) rfl ?_); refine ev_box rfl 80 _ rfl _ rfl ?_; intro g1 w1 hg hB hb
               have low_g1 := Nat.le_trans (Nat.le_refl _) hg
               have B_w1 := Lib.hid (below_trans (Below.refl _ _) hb)
               have g1_w1 : Hid (Blk w1 g1 80 #[.bool x.fNil, .string x.fName, .string x.fVersion, .string x.fRepository, .string x.fCondition, .slice x.fTags_a x.fTags.length x.fTags_c, .string x.fAlias]) := hB
               clear hB hb)
            | ((with_reducible refine at_dst (N := 4) rfl ?_); refine ev_ld rfl 9 _ rfl ⟨g1, 1, none⟩ rfl (.string x.fName) (g1_w1.out.cell 1) _ Try.underlying9 rfl ?_)
            | ((with_reducible refine at_dst (N := 8) rfl ?_); refine ev_ld rfl 9 _ rfl ⟨g1, 2, none⟩ rfl (.string x.fVersion) (g1_w1.out.cell 2) _ Try.underlying9 rfl ?_)
            | ((with_reducible refine at_dst (N := 12) rfl ?_); refine ev_ld rfl 9 _ rfl ⟨g1, 3, none⟩ rfl (.string x.fRepository) (g1_w1.out.cell 3) _ Try.underlying9 rfl ?_)
            | ((with_reducible refine at_dst (N := 16) rfl ?_); refine ev_ld rfl 9 _ rfl ⟨g1, 4, none⟩ rfl (.string x.fCondition) (g1_w1.out.cell 4) _ Try.underlying9 rfl ?_))
          go_ret
          exact HQ.out _ _ ⟨ret_bool (by simp only [fits152, P0.out, P1.out, P2.out, P3.out, Bool.and_self, Bool.and_false, Bool.false_and]), B_w1.out⟩
        · have P3 : Hid (decide (x.fCondition.size ≤ 2147483647) = true) := by show _ = _; simp; omega
          cases hc5 : (fits3 x.fTags)
          · have P4 := Lib.hid hc5
            go_wp2_with (first
              | ((with_reducible refine at_dst (N := 1) rfl ?_); refine ev_box rfl 80 _ rfl _ rfl ?_; intro g1 w1 hg hB hb
                 have low_g1 := Nat.le_trans (Nat.le_refl _) hg
                 have B_w1 := Lib.hid (below_trans (Below.refl _ _) hb)
                 have g1_w1 : Hid (Blk w1 g1 80 #[.bool x.fNil, .string x.fName, .string x.fVersion, .string x.fRepository, .string x.fCondition, .slice x.fTags_a x.fTags.length x.fTags_c, .string x.fAlias]) := hB
                 clear hB hb)
              | ((with_reducible refine at_dst (N := 4) rfl ?_); refine ev_ld rfl 9 _ rfl ⟨g1, 1, none⟩ rfl (.string x.fName) (g1_w1.out.cell 1) _ Try.underlying9 rfl ?_)
              | ((with_reducible refine at_dst (N := 8) rfl ?_); refine ev_ld rfl 9 _ rfl ⟨g1, 2, none⟩ rfl (.string x.fVersion) (g1_w1.out.cell 2) _ Try.underlying9 rfl ?_)
              | ((with_reducible refine at_dst (N := 12) rfl ?_); refine ev_ld rfl 9 _ rfl ⟨g1, 3, none⟩ rfl (.string x.fRepository) (g1_w1.out.cell 3) _ Try.underlying9 rfl ?_)
              | ((with_reducible refine at_dst (N := 16) rfl ?_); refine ev_ld rfl 9 _ rfl ⟨g1, 4, none⟩ rfl (.string x.fCondition) (g1_w1.out.cell 4) _ Try.underlying9 rfl ?_)
              | ((with_reducible refine at_dst (N := 20) rfl ?_); refine ev_ld rfl 22 _ rfl ⟨g1, 5, none⟩ rfl (.slice x.fTags_a x.fTags.length x.fTags_c) (g1_w1.out.cell 5) _ Try.underlying22 rfl ?_)
              | (go_at_call 27; (with_reducible refine (zzFits3_any x.fTags_a x.fTags_c x.fTags _ (H0_Tags.out.below B_w1.out)).mono ?_); rintro e wq ⟨rfl, rfl⟩; rw [hc5]))
            go_ret
            exact HQ.out _ _ ⟨ret_bool (by simp only [fits152, P0.out, P1.out, P2.out, P3.out, P4.out, Bool.and_self, Bool.and_false, Bool.false_and]), B_w1.out⟩
          · have P4 := Lib.hid hc5
            by_cases hc6 : (2147483647 : Int) < ↑x.fAlias.size
            · have P5 : Hid (decide (x.fAlias.size ≤ 2147483647) = false) := by show _ = _; simp; omega
              go_wp2_with (first
                | ((with_reducible refine at_dst (N := 1) rfl ?_); refine ev_box rfl 80 _ rfl _ rfl ?_; intro g1 w1 hg hB hb
                   have low_g1 := Nat.le_trans (Nat.le_refl _) hg
                   have B_w1 := Lib.hid (below_trans (Below.refl _ _) hb)
                   have g1_w1 : Hid (Blk w1 g1 80 #[.bool x.fNil, .string x.fName, .string x.fVersion, .string x.fRepository, .string x.fCondition, .slice x.fTags_a x.fTags.length x.fTags_c, .string x.fAlias]) := hB
                   clear hB hb)
                | ((with_reducible refine at_dst (N := 4) rfl ?_); refine ev_ld rfl 9 _ rfl ⟨g1, 1, none⟩ rfl (.string x.fName) (g1_w1.out.cell 1) _ Try.underlying9 rfl ?_)
                | ((with_reducible refine at_dst (N := 8) rfl ?_); refine ev_ld rfl 9 _ rfl ⟨g1, 2, none⟩ rfl (.string x.fVersion) (g1_w1.out.cell 2) _ Try.underlying9 rfl ?_)
                | ((with_reducible refine at_dst (N := 12) rfl ?_); refine ev_ld rfl 9 _ rfl ⟨g1, 3, none⟩ rfl (.string x.fRepository) (g1_w1.out.cell 3) _ Try.underlying9 rfl ?_)
                | ((with_reducible refine at_dst (N := 16) rfl ?_); refine ev_ld rfl 9 _ rfl ⟨g1, 4, none⟩ rfl (.string x.fCondition) (g1_w1.out.cell 4) _ Try.underlying9 rfl ?_)
                | ((with_reducible refine at_dst (N := 20) rfl ?_); refine ev_ld rfl 22 _ rfl ⟨g1, 5, none⟩ rfl (.slice x.fTags_a x.fTags.length x.fTags_c) (g1_w1.out.cell 5) _ Try.underlying22 rfl ?_)
                | (go_at_call 27; (with_reducible refine (zzFits3_any x.fTags_a x.fTags_c x.fTags _ (H0_Tags.out.below B_w1.out)).mono ?_); rintro e wq ⟨rfl, rfl⟩; rw [hc5])
                | ((with_reducible refine at_dst (N := 24) rfl ?_); refine ev_ld rfl 9 _ rfl ⟨g1, 6, none⟩ rfl (.string x.fAlias) (g1_w1.out.cell 6) _ Try.underlying9 rfl ?_))
              go_ret
              exact HQ.out _ _ ⟨ret_bool (by simp only [fits152, P0.out, P1.out, P2.out, P3.out, P4.out, P5.out, Bool.and_self, Bool.and_false, Bool.false_and]), B_w1.out⟩
            · have P5 : Hid (decide (x.fAlias.size ≤ 2147483647) = true) := by show _ = _; simp; omega
              go_wp2_with (first
                | ((with_reducible refine at_dst (N := 1) rfl ?_); refine ev_box rfl 80 _ rfl _ rfl ?_; intro g1 w1 hg hB hb
                   have low_g1 := Nat.le_trans (Nat.le_refl _) hg
                   have B_w1 := Lib.hid (below_trans (Below.refl _ _) hb)
                   have g1_w1 : Hid (Blk w1 g1 80 #[.bool x.fNil, .string x.fName, .string x.fVersion, .string x.fRepository, .string x.fCondition, .slice x.fTags_a x.fTags.length x.fTags_c, .string x.fAlias]) := hB
                   clear hB hb)
                | ((with_reducible refine at_dst (N := 4) rfl ?_); refine ev_ld rfl 9 _ rfl ⟨g1, 1, none⟩ rfl (.string x.fName) (g1_w1.out.cell 1) _ Try.underlying9 rfl ?_)
                | ((with_reducible refine at_dst (N := 8) rfl ?_); refine ev_ld rfl 9 _ rfl ⟨g1, 2, none⟩ rfl (.string x.fVersion) (g1_w1.out.cell 2) _ Try.underlying9 rfl ?_)
                | ((with_reducible refine at_dst (N := 12) rfl ?_); refine ev_ld rfl 9 _ rfl ⟨g1, 3, none⟩ rfl (.string x.fRepository) (g1_w1.out.cell 3) _ Try.underlying9 rfl ?_)
                | ((with_reducible refine at_dst (N := 16) rfl ?_); refine ev_ld rfl 9 _ rfl ⟨g1, 4, none⟩ rfl (.string x.fCondition) (g1_w1.out.cell 4) _ Try.underlying9 rfl ?_)
                | ((with_reducible refine at_dst (N := 20) rfl ?_); refine ev_ld rfl 22 _ rfl ⟨g1, 5, none⟩ rfl (.slice x.fTags_a x.fTags.length x.fTags_c) (g1_w1.out.cell 5) _ Try.underlying22 rfl ?_)
                | (go_at_call 27; (with_reducible refine (zzFits3_any x.fTags_a x.fTags_c x.fTags _ (H0_Tags.out.below B_w1.out)).mono ?_); rintro e wq ⟨rfl, rfl⟩; rw [hc5])
                | ((with_reducible refine at_dst (N := 24) rfl ?_); refine ev_ld rfl 9 _ rfl ⟨g1, 6, none⟩ rfl (.string x.fAlias) (g1_w1.out.cell 6) _ Try.underlying9 rfl ?_))
              go_ret
              exact HQ.out _ _ ⟨ret_bool (by simp only [fits152, P0.out, P1.out, P2.out, P3.out, P4.out, P5.out, Bool.and_self, Bool.and_false, Bool.false_and]), B_w1.out⟩
def fits90 (xs : List Ty80) : Bool := decide (xs.length ≤ 2147483647) && xs.all fits152
set_option maxRecDepth 100000 in
set_option maxHeartbeats 4000000 in
theorem fits90_any (A : Option Addr) (c : Nat) (xs : List Ty80) (w : World) (h0 : Rows w (A) 7 (xs.map Ty80.cells)) (h1 : Ty80.oks xs w)  :
    Calls Try.prog 90 #[.slice (A) (xs.length) (c)] w fun e w' => e = .returned (.bool (fits90 xs)) ∧ Below w.heap.size w w' := by
  have hl_xs : xs.length ≤ 9223372036854775807 := by have := h0.1; simpa [strs, ptrs] using this
  have H0 := Lib.hid h0
  clear h0
  have H1 := Lib.hid h1
  clear h1
  suffices hQ : ∀ Q : Ending → World → Prop, Hid (∀ (e : Ending) (w' : World), (e = .returned (.bool (fits90 xs)) ∧ Below w.heap.size w w') → Post1 Q e w') → Calls Try.prog 90 #[.slice (A) (xs.length) (c)] w (fun e w' => Post1 Q e w') from hQ (fun e w' => e = .returned (.bool (fits90 xs)) ∧ Below w.heap.size w w') (fun _ _ h => by unfold Post1; exact h)
  intro Q HQ
  go_enter Try.func90, Try.ntmps90
  by_cases hc1 : (2147483647 : Int) < ↑xs.length
  · go_wp2_with fail
    go_ret
    exact HQ.out _ _ ⟨ret_bool (by have e : decide (xs.length ≤ 2147483647) = false := (by simp; omega); rw [fits90, e, Bool.false_and]), (Below.refl _ _)⟩
  · go_wp2_with fail
    go_loopw [10] (fun v10 wr => ∃ k : Nat, (k ≤ xs.length) ∧ v10 = .int .i64 (↑k) ∧ Hid ((xs.take k).all fits152 = true) ∧ Hid (Below w.heap.size w wr)) (fun v10 _ => xs.length - (intOf v10).toNat)
    case atStart => exact ⟨0, (by omega), rfl, rfl, (Below.refl _ _)⟩
    case round =>
      obtain ⟨k, hk, rfl, L0_all, L0_B⟩ := hrel
      by_cases hlt_k : k < xs.length
      · obtain ⟨ad_k, rfl⟩ := (H0.out.below L0_B.out).addr (by simp [strs, ptrs]; omega)
        have HE := Lib.hid (Ty80.oks.at H1.out hlt_k)
        cases hc2 : (fits152 xs[k])
        · go_wp2_with (first
            | ((with_reducible refine at_dst (N := 13) rfl ?_); refine ev_loadR rfl 80 _ rfl _ rfl [.bool xs[k].fNil, .string xs[k].fName, .string xs[k].fVersion, .string xs[k].fRepository, .string xs[k].fCondition, .slice xs[k].fTags_a xs[k].fTags.length xs[k].fTags_c, .string xs[k].fAlias] ((H0.out.below L0_B.out).el (j := k) (row := xs[k].cells) (by simp [hlt_k])) _ Try.underlying80 rfl tsz80 ?_)
            | ((with_reducible refine at_dst (N := 4) rfl ?_); refine ev_alloc rfl 80 rfl _ _ tz80 ?_; intro g4 w1 hg hB hb
               have low_g4 := Nat.le_trans L0_B.out.size hg
               have B_w1 := Lib.hid (below_trans L0_B.out hb)
               have g4_w1 : Hid (Blk w1 g4 80 #[.bool false, .string ⟨#[]⟩, .string ⟨#[]⟩, .string ⟨#[]⟩, .string ⟨#[]⟩, .slice none 0 0, .string ⟨#[]⟩]) := hB
               clear hB hb)
            | (refine ev_store rfl 80 _ _ rfl g4 _ _ rfl rfl 80 g4_w1.out tsz80 rfl rfl ?_; intro w2 hB hg hz
               have hx := GrX.grown (S := fun k => k = g4) hg rfl
               have B_w2 := Lib.hid (below_grx B_w1.out hx B_w1.out.size (fun k => (fun e => e ▸ low_g4)))
               clear hx
               have g4_w2 : Hid (Blk w2 g4 80 #[.bool xs[k].fNil, .string xs[k].fName, .string xs[k].fVersion, .string xs[k].fRepository, .string xs[k].fCondition, .slice xs[k].fTags_a xs[k].fTags.length xs[k].fTags_c, .string xs[k].fAlias]) := hB
               clear hB hg hz)
            | ((with_reducible refine at_dst (N := 14) rfl ?_); refine ev_loadB rfl 80 _ rfl g4 rfl 80 _ g4_w2.out _ Try.underlying80 rfl tsz80 ?_)
            | (go_at_call 152; (with_reducible refine (fits152_any xs[k] _ (Ty80.ok.below HE.out B_w2.out)).mono ?_); rintro e w3 ⟨rfl, hb⟩; rw [hc2]
               have g4_w3 := Lib.hid (g4_w2.out.below hb)
               have B_w3 := Lib.hid (below_trans B_w2.out hb)
               clear hb))
          go_ret
          exact HQ.out _ _ ⟨ret_bool (by rw [fits90, all_at hlt_k hc2, Bool.and_false]), B_w3.out⟩
        · go_wp2_with (first
            | ((with_reducible refine at_dst (N := 13) rfl ?_); refine ev_loadR rfl 80 _ rfl _ rfl [.bool xs[k].fNil, .string xs[k].fName, .string xs[k].fVersion, .string xs[k].fRepository, .string xs[k].fCondition, .slice xs[k].fTags_a xs[k].fTags.length xs[k].fTags_c, .string xs[k].fAlias] ((H0.out.below L0_B.out).el (j := k) (row := xs[k].cells) (by simp [hlt_k])) _ Try.underlying80 rfl tsz80 ?_)
            | ((with_reducible refine at_dst (N := 4) rfl ?_); refine ev_alloc rfl 80 rfl _ _ tz80 ?_; intro g4 w1 hg hB hb
               have low_g4 := Nat.le_trans L0_B.out.size hg
               have B_w1 := Lib.hid (below_trans L0_B.out hb)
               have g4_w1 : Hid (Blk w1 g4 80 #[.bool false, .string ⟨#[]⟩, .string ⟨#[]⟩, .string ⟨#[]⟩, .string ⟨#[]⟩, .slice none 0 0, .string ⟨#[]⟩]) := hB
               clear hB hb)
            | (refine ev_store rfl 80 _ _ rfl g4 _ _ rfl rfl 80 g4_w1.out tsz80 rfl rfl ?_; intro w2 hB hg hz
               have hx := GrX.grown (S := fun k => k = g4) hg rfl
               have B_w2 := Lib.hid (below_grx B_w1.out hx B_w1.out.size (fun k => (fun e => e ▸ low_g4)))
               clear hx
               have g4_w2 : Hid (Blk w2 g4 80 #[.bool xs[k].fNil, .string xs[k].fName, .string xs[k].fVersion, .string xs[k].fRepository, .string xs[k].fCondition, .slice xs[k].fTags_a xs[k].fTags.length xs[k].fTags_c, .string xs[k].fAlias]) := hB
               clear hB hg hz)
            | ((with_reducible refine at_dst (N := 14) rfl ?_); refine ev_loadB rfl 80 _ rfl g4 rfl 80 _ g4_w2.out _ Try.underlying80 rfl tsz80 ?_)
            | (go_at_call 152; (with_reducible refine (fits152_any xs[k] _ (Ty80.ok.below HE.out B_w2.out)).mono ?_); rintro e w3 ⟨rfl, hb⟩; rw [hc2]
               have g4_w3 := Lib.hid (g4_w2.out.below hb)
               have B_w3 := Lib.hid (below_trans B_w2.out hb)
               clear hb))
          refine ⟨⟨k + 1, (by omega), by go_num, by show _ = _; rw [all_take hlt_k, L0_all.out, hc2]; rfl, B_w3⟩, ?_⟩
          simp [intOf]; omega
      · obtain rfl : k = xs.length := by omega
        rw [List.take_length] at L0_all
        go_wp2_with fail
        go_ret
        exact HQ.out _ _ ⟨ret_bool (by have e : decide (xs.length ≤ 2147483647) = true := (by simp; omega); rw [fits90, e, L0_all.out]; rfl), L0_B.out⟩
def fits37 (x : Ty26) : Bool := decide (x.fName.size ≤ 2147483647) && decide (x.fHome.size ≤ 2147483647) && decide (x.fVersion.size ≤ 2147483647) && decide (x.fDescription.size ≤ 2147483647) && decide (x.fIcon.size ≤ 2147483647) && decide (x.fAPIVersion.size ≤ 2147483647) && decide (x.fCondition.size ≤ 2147483647) && decide (x.fTags.size ≤ 2147483647) && decide (x.fAppVersion.size ≤ 2147483647) && decide (x.fKubeVersion.size ≤ 2147483647) && decide (x.fType.size ≤ 2147483647) && (fits3 x.fSources) && (fits3 x.fKeywords) && (fits89 x.fMaintainers) && (fits90 x.fDependencies)
set_option maxRecDepth 100000 in
set_option maxHeartbeats 4000000 in
theorem fits37_any (x : Ty26) (w : World) (h0 : Ty26.ok x w)  :
    Calls Try.prog 37 #[.agg #[.string x.fName, .string x.fHome, .string x.fVersion, .string x.fDescription, .string x.fIcon, .string x.fAPIVersion, .string x.fCondition, .string x.fTags, .string x.fAppVersion, .string x.fKubeVersion, .string x.fType, .slice x.fSources_a x.fSources.length x.fSources_c, .slice x.fKeywords_a x.fKeywords.length x.fKeywords_c, .slice x.fMaintainers_a x.fMaintainers.length x.fMaintainers_c, .slice x.fDependencies_a x.fDependencies.length x.fDependencies_c]] w fun e w' => e = .returned (.bool (fits37 x)) ∧ Below w.heap.size w w' := by
  have H0 := Lib.hid h0
  clear h0
  have H0_Sources := Lib.hid (Ty26.ok_sSources H0.out)
  have H0_Keywords := Lib.hid (Ty26.ok_sKeywords H0.out)
  have H0_Maintainers := Lib.hid (Ty26.ok_rMaintainers H0.out)
  have H0_Maintainerso := Lib.hid (Ty26.ok_oMaintainers H0.out)
  have H0_Dependencies := Lib.hid (Ty26.ok_rDependencies H0.out)
  have H0_Dependencieso := Lib.hid (Ty26.ok_oDependencies H0.out)
  suffices hQ : ∀ Q : Ending → World → Prop, Hid (∀ (e : Ending) (w' : World), (e = .returned (.bool (fits37 x)) ∧ Below w.heap.size w w') → Post1 Q e w') → Calls Try.prog 37 #[.agg #[.string x.fName, .string x.fHome, .string x.fVersion, .string x.fDescription, .string x.fIcon, .string x.fAPIVersion, .string x.fCondition, .string x.fTags, .string x.fAppVersion, .string x.fKubeVersion, .string x.fType, .slice x.fSources_a x.fSources.length x.fSources_c, .slice x.fKeywords_a x.fKeywords.length x.fKeywords_c, .slice x.fMaintainers_a x.fMaintainers.length x.fMaintainers_c, .slice x.fDependencies_a x.fDependencies.length x.fDependencies_c]] w (fun e w' => Post1 Q e w') from hQ (fun e w' => e = .returned (.bool (fits37 x)) ∧ Below w.heap.size w w') (fun _ _ h => by unfold Post1; exact h)
  intro Q HQ
  go_enter Try.func37, Try.ntmps37
  by_cases hc1 : (2147483647 : Int) < ↑x.fName.size
  · have P0 : Hid (decide (x.fName.size ≤ 2147483647) = false) := by show _ = _; simp; omega
    go_wp2_with (first
      | ((with_reducible refine at_dst (N := 1) rfl ?_); refine ev_box rfl 26 _ rfl _ rfl ?_; intro g1 w1 hg hB hb
         have low_g1 := Nat.le_trans (Nat.le_refl _) hg
         have B_w1 := Lib.hid (below_trans (Below.refl _ _) hb)
         have g1_w1 : Hid (Blk w1 g1 26 #[.string x.fName, .string x.fHome, .string x.fVersion, .string x.fDescription, .string x.fIcon, .string x.fAPIVersion, .string x.fCondition, .string x.fTags, .string x.fAppVersion, .string x.fKubeVersion, .string x.fType, .slice x.fSources_a x.fSources.length x.fSources_c, .slice x.fKeywords_a x.fKeywords.length x.fKeywords_c, .slice x.fMaintainers_a x.fMaintainers.length x.fMaintainers_c, .slice x.fDependencies_a x.fDependencies.length x.fDependencies_c]) := hB
         clear hB hb)
      | ((with_reducible refine at_dst (N := 4) rfl ?_); refine ev_ld rfl 9 _ rfl ⟨g1, 0, none⟩ rfl (.string x.fName) (g1_w1.out.cell 0) _ Try.underlying9 rfl ?_))
    go_ret
    exact HQ.out _ _ ⟨ret_bool (by simp only [fits37, P0.out, Bool.and_self, Bool.and_false, Bool.false_and]), B_w1.out⟩
  · have P0 : Hid (decide (x.fName.size ≤ 2147483647) = true) := by show _ = _; simp; omega
    by_cases hc2 : (2147483647 : Int) < ↑x.fHome.size
    · have P1 : Hid (decide (x.fHome.size ≤ 2147483647) = false) := by show _ = _; simp; omega
      go_wp2_with (first
        | ((with_reducible refine at_dst (N := 1) rfl ?_); refine ev_box rfl 26 _ rfl _ rfl ?_; intro g1 w1 hg hB hb
           have low_g1 := Nat.le_trans (Nat.le_refl _) hg
           have B_w1 := Lib.hid (below_trans (Below.refl _ _) hb)
           have g1_w1 : Hid (Blk w1 g1 26 #[.string x.fName, .string x.fHome, .string x.fVersion, .string x.fDescription, .string x.fIcon, .string x.fAPIVersion, .string x.fCondition, .string x.fTags, .string x.fAppVersion, .string x.fKubeVersion, .string x.fType, .slice x.fSources_a x.fSources.length x.fSources_c, .slice x.fKeywords_a x.fKeywords.length x.fKeywords_c, .slice x.fMaintainers_a x.fMaintainers.length x.fMaintainers_c, .slice x.fDependencies_a x.fDependencies.length x.fDependencies_c]) := hB
           clear hB hb)
        | ((with_reducible refine at_dst (N := 4) rfl ?_); refine ev_ld rfl 9 _ rfl ⟨g1, 0, none⟩ rfl (.string x.fName) (g1_w1.out.cell 0) _ Try.underlying9 rfl ?_)
        | ((with_reducible refine at_dst (N := 8) rfl ?_); refine ev_ld rfl 9 _ rfl ⟨g1, 1, none⟩ rfl (.string x.fHome) (g1_w1.out.cell 1) _ Try.underlying9 rfl ?_))
      go_ret
      exact HQ.out _ _ ⟨ret_bool (by simp only [fits37, P0.out, P1.out, Bool.and_self, Bool.and_false, Bool.false_and]), B_w1.out⟩
    · have P1 : Hid (decide (x.fHome.size ≤ 2147483647) = true) := by show _ = _; simp; omega
      by_cases hc3 : (2147483647 : Int) < ↑x.fVersion.size
      · have P2 : Hid (decide (x.fVersion.size ≤ 2147483647) = false) := by show _ = _; simp; omega
        go_wp2_with (first
          | ((with_reducible refine at_dst (N := 1) rfl ?_); refine ev_box rfl 26 _ rfl _ rfl ?_; intro g1 w1 hg hB hb
             have low_g1 := Nat.le_trans (Nat.le_refl _) hg
             have B_w1 := Lib.hid (below_trans (Below.refl _ _) hb)
             have g1_w1 : Hid (Blk w1 g1 26 #[.string x.fName, .string x.fHome, .string x.fVersion, .string x.fDescription, .string x.fIcon, .string x.fAPIVersion, .string x.fCondition, .string x.fTags, .string x.fAppVersion, .string x.fKubeVersion, .string x.fType, .slice x.fSources_a x.fSources.length x.fSources_c, .slice x.fKeywords_a x.fKeywords.length x.fKeywords_c, .slice x.fMaintainers_a x.fMaintainers.length x.fMaintainers_c, .slice x.fDependencies_a x.fDependencies.length x.fDependencies_c]) := hB
             clear hB hb)
          | ((with_reducible refine at_dst (N := 4) rfl ?_); refine ev_ld rfl 9 _ rfl ⟨g1, 0, none⟩ rfl (.string x.fName) (g1_w1.out.cell 0) _ Try.underlying9 rfl ?_)
          | ((with_reducible refine at_dst (N := 8) rfl ?_); refine ev_ld rfl 9 _ rfl ⟨g1, 1, none⟩ rfl (.string x.fHome) (g1_w1.out.cell 1) _ Try.underlying9 rfl ?_)
          | ((with_reducible refine at_dst (N := 12) rfl ?_); refine ev_ld rfl 9 _ rfl ⟨g1, 2, none⟩ rfl (.string x.fVersion) (g1_w1.out.cell 2) _ Try.underlying9 rfl ?_))
        go_ret
        exact HQ.out _ _ ⟨ret_bool (by simp only [fits37, P0.out, P1.out, P2.out, Bool.and_self, Bool.and_false, Bool.false_and]), B_w1.out⟩
      · have P2 : Hid (decide (x.fVersion.size ≤ 2147483647) = true) := by show _ = _; simp; omega
        by_cases hc4 : (2147483647 : Int) < ↑x.fDescription.size
        · have P3 : Hid (decide (x.fDescription.size ≤ 2147483647) = false) := by show _ = _; simp; omega
          go_wp2_with (first
            | ((with_reducible refine at_dst (N := 1) rfl ?_); refine ev_box rfl 26 _ rfl _ rfl ?_; intro g1 w1 hg hB hb
               have low_g1 := Nat.le_trans (Nat.le_refl _) hg
               have B_w1 := Lib.hid (below_trans (Below.refl _ _) hb)
               have g1_w1 : Hid (Blk w1 g1 26 #[.string x.fName, .string x.fHome, .string x.fVersion, .string x.fDescription, .string x.fIcon, .string x.fAPIVersion, .string x.fCondition, .string x.fTags, .string x.fAppVersion, .string x.fKubeVersion, .string x.fType, .slice x.fSources_a x.fSources.length x.fSources_c, .slice x.fKeywords_a x.fKeywords.length x.fKeywords_c, .slice x.fMaintainers_a x.fMaintainers.length x.fMaintainers_c, .slice x.fDependencies_a x.fDependencies.length x.fDependencies_c]) := hB
               clear hB hb)
            | ((with_reducible refine at_dst (N := 4) rfl ?_); refine ev_ld rfl 9 _ rfl ⟨g1, 0, none⟩ rfl (.string x.fName) (g1_w1.out.cell 0) _ Try.underlying9 rfl ?_)
            | ((with_reducible refine at_dst (N := 8) rfl ?_); refine ev_ld rfl 9 _ rfl ⟨g1, 1, none⟩ rfl (.string x.fHome) (g1_w1.out.cell 1) _ Try.underlying9 rfl ?_)
            | ((with_reducible refine at_dst (N := 12) rfl ?_); refine ev_ld rfl 9 _ rfl ⟨g1, 2, none⟩ rfl (.string x.fVersion) (g1_w1.out.cell 2) _ Try.underlying9 rfl ?_)
            | ((with_reducible refine at_dst (N := 16) rfl ?_); refine ev_ld rfl 9 _ rfl ⟨g1, 3, none⟩ rfl (.string x.fDescription) (g1_w1.out.cell 3) _ Try.underlying9 rfl ?_))
          go_ret
          exact HQ.out _ _ ⟨ret_bool (by simp only [fits37, P0.out, P1.out, P2.out, P3.out, Bool.and_self, Bool.and_false, Bool.false_and]), B_w1.out⟩
        · have P3 : Hid (decide (x.fDescription.size ≤ 2147483647) = true) := by show _ = _; simp; omega
          by_cases hc5 : (2147483647 : Int) < ↑x.fIcon.size
          · have P4 : Hid (decide (x.fIcon.size ≤ 2147483647) = false) := by show _ = _; simp; omega
            go_wp2_with (first
              | ((with_reducible refine at_dst (N := 1) rfl ?_); refine ev_box rfl 26 _ rfl _ rfl ?_; intro g1 w1 hg hB hb
                 have low_g1 := Nat.le_trans (Nat.le_refl _) hg
                 have B_w1 := Lib.hid (below_trans (Below.refl _ _) hb)
                 have g1_w1 : Hid (Blk w1 g1 26 #[.string x.fName, .string x.fHome, .string x.fVersion, .string x.fDescription, .string x.fIcon, .string x.fAPIVersion, .string x.fCondition, .string x.fTags, .string x.fAppVersion, .string x.fKubeVersion, .string x.fType, .slice x.fSources_a x.fSources.length x.fSources_c, .slice x.fKeywords_a x.fKeywords.length x.fKeywords_c, .slice x.fMaintainers_a x.fMaintainers.length x.fMaintainers_c, .slice x.fDependencies_a x.fDependencies.length x.fDependencies_c]) := hB
                 clear hB hb)
              | ((with_reducible refine at_dst (N := 4) rfl ?_); refine ev_ld rfl 9 _ rfl ⟨g1, 0, none⟩ rfl (.string x.fName) (g1_w1.out.cell 0) _ Try.underlying9 rfl ?_)
              | ((with_reducible refine at_dst (N := 8) rfl ?_); refine ev_ld rfl 9 _ rfl ⟨g1, 1, none⟩ rfl (.string x.fHome) (g1_w1.out.cell 1) _ Try.underlying9 rfl ?_)
              | ((with_reducible refine at_dst (N := 12) rfl ?_); refine ev_ld rfl 9 _ rfl ⟨g1, 2, none⟩ rfl (.string x.fVersion) (g1_w1.out.cell 2) _ Try.underlying9 rfl ?_)
              | ((with_reducible refine at_dst (N := 16) rfl ?_); refine ev_ld rfl 9 _ rfl ⟨g1, 3, none⟩ rfl (.string x.fDescription) (g1_w1.out.cell 3) _ Try.underlying9 rfl ?_)
              | ((with_reducible refine at_dst (N := 20) rfl ?_); refine ev_ld rfl 9 _ rfl ⟨g1, 4, none⟩ rfl (.string x.fIcon) (g1_w1.out.cell 4) _ Try.underlying9 rfl ?_))
            go_ret
            exact HQ.out _ _ ⟨ret_bool (by simp only [fits37, P0.out, P1.out, P2.out, P3.out, P4.out, Bool.and_self, Bool.and_false, Bool.false_and]), B_w1.out⟩
          · have P4 : Hid (decide (x.fIcon.size ≤ 2147483647) = true) := by show _ = _; simp; omega
            by_cases hc6 : (2147483647 : Int) < ↑x.fAPIVersion.size
            · have P5 : Hid (decide (x.fAPIVersion.size ≤ 2147483647) = false) := by show _ = _; simp; omega
              go_wp2_with (first
                | ((with_reducible refine at_dst (N := 1) rfl ?_); refine ev_box rfl 26 _ rfl _ rfl ?_; intro g1 w1 hg hB hb
                   have low_g1 := Nat.le_trans (Nat.le_refl _) hg
                   have B_w1 := Lib.hid (below_trans (Below.refl _ _) hb)
                   have g1_w1 : Hid (Blk w1 g1 26 #[.string x.fName, .string x.fHome, .string x.fVersion, .string x.fDescription, .string x.fIcon, .string x.fAPIVersion, .string x.fCondition, .string x.fTags, .string x.fAppVersion, .string x.fKubeVersion, .string x.fType, .slice x.fSources_a x.fSources.length x.fSources_c, .slice x.fKeywords_a x.fKeywords.length x.fKeywords_c, .slice x.fMaintainers_a x.fMaintainers.length x.fMaintainers_c, .slice x.fDependencies_a x.fDependencies.length x.fDependencies_c]) := hB
                   clear hB hb)
                | ((with_reducible refine at_dst (N := 4) rfl ?_); refine ev_ld rfl 9 _ rfl ⟨g1, 0, none⟩ rfl (.string x.fName) (g1_w1.out.cell 0) _ Try.underlying9 rfl ?_)
                | ((with_reducible refine at_dst (N := 8) rfl ?_); refine ev_ld rfl 9 _ rfl ⟨g1, 1, none⟩ rfl (.string x.fHome) (g1_w1.out.cell 1) _ Try.underlying9 rfl ?_)
                | ((with_reducible refine at_dst (N := 12) rfl ?_); refine ev_ld rfl 9 _ rfl ⟨g1, 2, none⟩ rfl (.string x.fVersion) (g1_w1.out.cell 2) _ Try.underlying9 rfl ?_)
                | ((with_reducible refine at_dst (N := 16) rfl ?_); refine ev_ld rfl 9 _ rfl ⟨g1, 3, none⟩ rfl (.string x.fDescription) (g1_w1.out.cell 3) _ Try.underlying9 rfl ?_)
                | ((with_reducible refine at_dst (N := 20) rfl ?_); refine ev_ld rfl 9 _ rfl ⟨g1, 4, none⟩ rfl (.string x.fIcon) (g1_w1.out.cell 4) _ Try.underlying9 rfl ?_)
                | ((with_reducible refine at_dst (N := 24) rfl ?_); refine ev_ld rfl 9 _ rfl ⟨g1, 5, none⟩ rfl (.string x.fAPIVersion) (g1_w1.out.cell 5) _ Try.underlying9 rfl ?_))
              go_ret
              exact HQ.out _ _ ⟨ret_bool (by simp only [fits37, P0.out, P1.out, P2.out, P3.out, P4.out, P5.out, Bool.and_self, Bool.and_false, Bool.false_and]), B_w1.out⟩
            · have P5 : Hid (decide (x.fAPIVersion.size ≤ 2147483647) = true) := by show _ = _; simp; omega
              by_cases hc7 : (2147483647 : Int) < ↑x.fCondition.size
              · have P6 : Hid (decide (x.fCondition.size ≤ 2147483647) = false) := by show _ = _; simp; omega
                go_wp2_with (first
                  | ((with_reducible refine at_dst (N := 1) rfl ?_); refine ev_box rfl 26 _ rfl _ rfl ?_; intro g1 w1 hg hB hb
                     have low_g1 := Nat.le_trans (Nat.le_refl _) hg
                     have B_w1 := Lib.hid (below_trans (Below.refl _ _) hb)
                     have g1_w1 : Hid (Blk w1 g1 26 #[.string x.fName, .string x.fHome, .string x.fVersion, .string x.fDescription, .string x.fIcon, .string x.fAPIVersion, .string x.fCondition, .string x.fTags, .string x.fAppVersion, .string x.fKubeVersion, .string x.fType, .slice x.fSources_a x.fSources.length x.fSources_c, .slice x.fKeywords_a x.fKeywords.length x.fKeywords_c, .slice x.fMaintainers_a x.fMaintainers.length x.fMaintainers_c, .slice x.fDependencies_a x.fDependencies.length x.fDependencies_c]) := hB
                     clear hB hb)
                  | ((with_reducible refine at_dst (N := 4) rfl ?_); refine ev_ld rfl 9 _ rfl ⟨g1, 0, none⟩ rfl (.string x.fName) (g1_w1.out.cell 0) _ Try.underlying9 rfl ?_)
                  | ((with_reducible refine at_dst (N := 8) rfl ?_); refine ev_ld rfl 9 _ rfl ⟨g1, 1, none⟩ rfl (.string x.fHome) (g1_w1.out.cell 1) _ Try.underlying9 rfl ?_)
                  | ((with_reducible refine at_dst (N := 12) rfl ?_); refine ev_ld rfl 9 _ rfl ⟨g1, 2, none⟩ rfl (.string x.fVersion) (g1_w1.out.cell 2) _ Try.underlying9 rfl ?_)
                  | ((with_reducible refine at_dst (N := 16) rfl ?_); refine ev_ld rfl 9 _ rfl ⟨g1, 3, none⟩ rfl (.string x.fDescription) (g1_w1.out.cell 3) _ Try.underlying9 rfl ?_)
                  | ((with_reducible refine at_dst (N := 20) rfl ?_); refine ev_ld rfl 9 _ rfl ⟨g1, 4, none⟩ rfl (.string x.fIcon) (g1_w1.out.cell 4) _ Try.underlying9 rfl ?_)
                  | ((with_reducible refine at_dst (N := 24) rfl ?_); refine ev_ld rfl 9 _ rfl ⟨g1, 5, none⟩ rfl (.string x.fAPIVersion) (g1_w1.out.cell 5) _ Try.underlying9 rfl ?_)
                  | ((with_reducible refine at_dst (N := 28) rfl ?_); refine ev_ld rfl 9 _ rfl ⟨g1, 6, none⟩ rfl (.string x.fCondition) (g1_w1.out.cell 6) _ Try.underlying9 rfl ?_))
                go_ret
                exact HQ.out _ _ ⟨ret_bool (by simp only [fits37, P0.out, P1.out, P2.out, P3.out, P4.out, P5.out, P6.out, Bool.and_self, Bool.and_false, Bool.false_and]), B_w1.out⟩
              · have P6 : Hid (decide (x.fCondition.size ≤ 2147483647) = true) := by show _ = _; simp; omega
                by_cases hc8 : (2147483647 : Int) < ↑x.fTags.size
                · have P7 : Hid (decide (x.fTags.size ≤ 2147483647) = false) := by show _ = _; simp; omega
                  go_wp2_with (first
                    | ((with_reducible refine at_dst (N := 1) rfl ?_); refine ev_box rfl 26 _ rfl _ rfl ?_; intro g1 w1 hg hB hb
                       have low_g1 := Nat.le_trans (Nat.le_refl _) hg
                       have B_w1 := Lib.hid (below_trans (Below.refl _ _) hb)
                       have g1_w1 : Hid (Blk w1 g1 26 #[.string x.fName, .string x.fHome, .string x.fVersion, .string x.fDescription, .string x.fIcon, .string x.fAPIVersion, .string x.fCondition, .string x.fTags, .string x.fAppVersion, .string x.fKubeVersion, .string x.fType, .slice x.fSources_a x.fSources.length x.fSources_c, .slice x.fKeywords_a x.fKeywords.length x.fKeywords_c, .slice x.fMaintainers_a x.fMaintainers.length x.fMaintainers_c, .slice x.fDependencies_a x.fDependencies.length x.fDependencies_c]) := hB
                       clear hB hb)
                    | ((with_reducible refine at_dst (N := 4) rfl ?_); refine ev_ld rfl 9 _ rfl ⟨g1, 0, none⟩ rfl (.string x.fName) (g1_w1.out.cell 0) _ Try.underlying9 rfl ?_)
                    | ((with_reducible refine at_dst (N := 8) rfl ?_); refine ev_ld rfl 9 _ rfl ⟨g1, 1, none⟩ rfl (.string x.fHome) (g1_w1.out.cell 1) _ Try.underlying9 rfl ?_)
                    | ((with_reducible refine at_dst (N := 12) rfl ?_); refine ev_ld rfl 9 _ rfl ⟨g1, 2, none⟩ rfl (.string x.fVersion) (g1_w1.out.cell 2) _ Try.underlying9 rfl ?_)
                    | ((with_reducible refine at_dst (N := 16) rfl ?_); refine ev_ld rfl 9 _ rfl ⟨g1, 3, none⟩ rfl (.string x.fDescription) (g1_w1.out.cell 3) _ Try.underlying9 rfl ?_)
                    | ((with_reducible refine at_dst (N := 20) rfl ?_); refine ev_ld rfl 9 _ rfl ⟨g1, 4, none⟩ rfl (.string x.fIcon) (g1_w1.out.cell 4) _ Try.underlying9 rfl ?_)
                    | ((with_reducible refine at_dst (N := 24) rfl ?_); refine ev_ld rfl 9 _ rfl ⟨g1, 5, none⟩ rfl (.string x.fAPIVersion) (g1_w1.out.cell 5) _ Try.underlying9 rfl ?_)
                    | ((with_reducible refine at_dst (N := 28) rfl ?_); refine ev_ld rfl 9 _ rfl ⟨g1, 6, none⟩ rfl (.string x.fCondition) (g1_w1.out.cell 6) _ Try.underlying9 rfl ?_)
                    | ((with_reducible refine at_dst (N := 32) rfl ?_); refine ev_ld rfl 9 _ rfl ⟨g1, 7, none⟩ rfl (.string x.fTags) (g1_w1.out.cell 7) _ Try.underlying9 rfl ?_))
                  go_ret
                  exact HQ.out _ _ ⟨ret_bool (by simp only [fits37, P0.out, P1.out, P2.out, P3.out, P4.out, P5.out, P6.out, P7.out, Bool.and_self, Bool.and_false, Bool.false_and]), B_w1.out⟩
                · have P7 : Hid (decide (x.fTags.size ≤ 2147483647) = true) := by show _ = _; simp; omega
                  by_cases hc9 : (2147483647 : Int) < ↑x.fAppVersion.size
                  · have P8 : Hid (decide (x.fAppVersion.size ≤ 2147483647) = false) := by show _ = _; simp; omega
                    go_wp2_with (first
                      | ((with_reducible refine at_dst (N := 1) rfl ?_); refine ev_box rfl 26 _ rfl _ rfl ?_; intro g1 w1 hg hB hb
                         have low_g1 := Nat.le_trans (Nat.le_refl _) hg
                         have B_w1 := Lib.hid (below_trans (Below.refl _ _) hb)
                         have g1_w1 : Hid (Blk w1 g1 26 #[.string x.fName, .string x.fHome, .string x.fVersion, .string x.fDescription, .string x.fIcon, .string x.fAPIVersion, .string x.fCondition, .string x.fTags, .string x.fAppVersion, .string x.fKubeVersion, .string x.fType, .slice x.fSources_a x.fSources.length x.fSources_c, .slice x.fKeywords_a x.fKeywords.length x.fKeywords_c, .slice x.fMaintainers_a x.fMaintainers.length x.fMaintainers_c, .slice x.fDependencies_a x.fDependencies.length x.fDependencies_c]) := hB
                         clear hB hb)
                      | ((with_reducible refine at_dst (N := 4) rfl ?_); refine ev_ld rfl 9 _ rfl ⟨g1, 0, none⟩ rfl (.string x.fName) (g1_w1.out.cell 0) _ Try.underlying9 rfl ?_)
                      | ((with_reducible refine at_dst (N := 8) rfl ?_); refine ev_ld rfl 9 _ rfl ⟨g1, 1, none⟩ rfl (.string x.fHome) (g1_w1.out.cell 1) _ Try.underlying9 rfl ?_)
                      | ((with_reducible refine at_dst (N := 12) rfl ?_); refine ev_ld rfl 9 _ rfl ⟨g1, 2, none⟩ rfl (.string x.fVersion) (g1_w1.out.cell 2) _ Try.underlying9 rfl ?_)
                      | ((with_reducible refine at_dst (N := 16) rfl ?_); refine ev_ld rfl 9 _ rfl ⟨g1, 3, none⟩ rfl (.string x.fDescription) (g1_w1.out.cell 3) _ Try.underlying9 rfl ?_)
                      | ((with_reducible refine at_dst (N := 20) rfl ?_); refine ev_ld rfl 9 _ rfl ⟨g1, 4, none⟩ rfl (.string x.fIcon) (g1_w1.out.cell 4) _ Try.underlying9 rfl ?_)
                      | ((with_reducible refine at_dst (N := 24) rfl ?_); refine ev_ld rfl 9 _ rfl ⟨g1, 5, none⟩ rfl (.string x.fAPIVersion) (g1_w1.out.cell 5) _ Try.underlying9 rfl ?_)
                      | ((with_reducible refine at_dst (N := 28) rfl ?_); refine ev_ld rfl 9 _ rfl ⟨g1, 6, none⟩ rfl (.string x.fCondition) (g1_w1.out.cell 6) _ Try.underlying9 rfl ?_)
                      | ((with_reducible refine at_dst (N := 32) rfl ?_); refine ev_ld rfl 9 _ rfl ⟨g1, 7, none⟩ rfl (.string x.fTags) (g1_w1.out.cell 7) _ Try.underlying9 rfl ?_)
                      | ((with_reducible refine at_dst (N := 36) rfl ?_); refine ev_ld rfl 9 _ rfl ⟨g1, 8, none⟩ rfl (.string x.fAppVersion) (g1_w1.out.cell 8) _ Try.underlying9 rfl ?_))
                    go_ret
                    exact HQ.out _ _ ⟨ret_bool (by simp only [fits37, P0.out, P1.out, P2.out, P3.out, P4.out, P5.out, P6.out, P7.out, P8.out, Bool.and_self, Bool.and_false, Bool.false_and]), B_w1.out⟩
                  · have P8 : Hid (decide (x.fAppVersion.size ≤ 2147483647) = true) := by show _ = _; simp; omega
                    by_cases hc10 : (2147483647 : Int) < ↑x.fKubeVersion.size
                    · have P9 : Hid (decide (x.fKubeVersion.size ≤ 2147483647) = false) := by show _ = _; simp; omega
                      go_wp2_with (first
                        | ((with_reducible refine at_dst (N := 1) rfl ?_); refine ev_box rfl 26 _ rfl _ rfl ?_; intro g1 w1 hg hB hb
                           have low_g1 := Nat.le_trans (Nat.le_refl _) hg
                           have B_w1 := Lib.hid (below_trans (Below.refl _ _) hb)
                           have g1_w1 : Hid (Blk w1 g1 26 #[.string x.fName, .string x.fHome, .string x.fVersion, .string x.fDescription, .string x.fIcon, .string x.fAPIVersion, .string x.fCondition, .string x.fTags, .string x.fAppVersion, .string x.fKubeVersion, .string x.fType, .slice x.fSources_a x.fSources.length x.fSources_c, .slice x.fKeywords_a x.fKeywords.length x.fKeywords_c, .slice x.fMaintainers_a x.fMaintainers.length x.fMaintainers_c, .slice x.fDependencies_a x.fDependencies.length x.fDependencies_c]) := hB
                           clear hB hb)
                        | ((with_reducible refine at_dst (N := 4) rfl ?_); refine ev_ld rfl 9 _ rfl ⟨g1, 0, none⟩ rfl (.string x.fName) (g1_w1.out.cell 0) _ Try.underlying9 rfl ?_)
                        | ((with_reducible refine at_dst (N := 8) rfl ?_); refine ev_ld rfl 9 _ rfl ⟨g1, 1, none⟩ rfl (.string x.fHome) (g1_w1.out.cell 1) _ Try.underlying9 rfl ?_)
                        | ((with_reducible refine at_dst (N := 12) rfl ?_); refine ev_ld rfl 9 _ rfl ⟨g1, 2, none⟩ rfl (.string x.fVersion) (g1_w1.out.cell 2) _ Try.underlying9 rfl ?_)
                        | ((with_reducible refine at_dst (N := 16) rfl ?_); refine ev_ld rfl 9 _ rfl ⟨g1, 3, none⟩ rfl (.string x.fDescription) (g1_w1.out.cell 3) _ Try.underlying9 rfl ?_)
                        | ((with_reducible refine at_dst (N := 20) rfl ?_); refine ev_ld rfl 9 _ rfl ⟨g1, 4, none⟩ rfl (.string x.fIcon) (g1_w1.out.cell 4) _ Try.underlying9 rfl ?_)
                        | ((with_reducible refine at_dst (N := 24) rfl ?_); refine ev_ld rfl 9 _ rfl ⟨g1, 5, none⟩ rfl (.string x.fAPIVersion) (g1_w1.out.cell 5) _ Try.underlying9 rfl ?_)
                        | ((with_reducible refine at_dst (N := 28) rfl ?_); refine ev_ld rfl 9 _ rfl ⟨g1, 6, none⟩ rfl (.string x.fCondition) (g1_w1.out.cell 6) _ Try.underlying9 rfl ?_)
                        | ((with_reducible refine at_dst (N := 32) rfl ?_); refine ev_ld rfl 9 _ rfl ⟨g1, 7, none⟩ rfl (.string x.fTags) (g1_w1.out.cell 7) _ Try.underlying9 rfl ?_)
                        | ((with_reducible refine at_dst (N := 36) rfl ?_); refine ev_ld rfl 9 _ rfl ⟨g1, 8, none⟩ rfl (.string x.fAppVersion) (g1_w1.out.cell 8) _ Try.underlying9 rfl ?_)
                        | ((with_reducible refine at_dst (N := 40) rfl ?_); refine ev_ld rfl 9 _ rfl ⟨g1, 9, none⟩ rfl (.string x.fKubeVersion) (g1_w1.out.cell 9) _ Try.underlying9 rfl ?_))
                      go_ret
                      exact HQ.out _ _ ⟨ret_bool (by simp only [fits37, P0.out, P1.out, P2.out, P3.out, P4.out, P5.out, P6.out, P7.out, P8.out, P9.out, Bool.and_self, Bool.and_false, Bool.false_and]), B_w1.out⟩
                    · have P9 : Hid (decide (x.fKubeVersion.size ≤ 2147483647) = true) := by show _ = _; simp; omega
                      by_cases hc11 : (2147483647 : Int) < ↑x.fType.size
                      · have P10 : Hid (decide (x.fType.size ≤ 2147483647) = false) := by show _ = _; simp; omega
                        go_wp2_with (first
                          | ((with_reducible refine at_dst (N := 1) rfl ?_); refine ev_box rfl 26 _ rfl _ rfl ?_; intro g1 w1 hg hB hb
                             have low_g1 := Nat.le_trans (Nat.le_refl _) hg
                             have B_w1 := Lib.hid (below_trans (Below.refl _ _) hb)
                             have g1_w1 : Hid (Blk w1 g1 26 #[.string x.fName, .string x.fHome, .string x.fVersion, .string x.fDescription, .string x.fIcon, .string x.fAPIVersion, .string x.fCondition, .string x.fTags, .string x.fAppVersion, .string x.fKubeVersion, .string x.fType, .slice x.fSources_a x.fSources.length x.fSources_c, .slice x.fKeywords_a x.fKeywords.length x.fKeywords_c, .slice x.fMaintainers_a x.fMaintainers.length x.fMaintainers_c, .slice x.fDependencies_a x.fDependencies.length x.fDependencies_c]) := hB
                             clear hB hb)
                          | ((with_reducible refine at_dst (N := 4) rfl ?_); refine ev_ld rfl 9 _ rfl ⟨g1, 0, none⟩ rfl (.string x.fName) (g1_w1.out.cell 0) _ Try.underlying9 rfl ?_)
                          | ((with_reducible refine at_dst (N := 8) rfl ?_); refine ev_ld rfl 9 _ rfl ⟨g1, 1, none⟩ rfl (.string x.fHome) (g1_w1.out.cell 1) _ Try.underlying9 rfl ?_)
                          | ((with_reducible refine at_dst (N := 12) rfl ?_); refine ev_ld rfl 9 _ rfl ⟨g1, 2, none⟩ rfl (.string x.fVersion) (g1_w1.out.cell 2) _ Try.underlying9 rfl ?_)
                          | ((with_reducible refine at_dst (N := 16) rfl ?_); refine ev_ld rfl 9 _ rfl ⟨g1, 3, none⟩ rfl (.string x.fDescription) (g1_w1.out.cell 3) _ Try.underlying9 rfl ?_)
                          | ((with_reducible refine at_dst (N := 20) rfl ?_); refine ev_ld rfl 9 _ rfl ⟨g1, 4, none⟩ rfl (.string x.fIcon) (g1_w1.out.cell 4) _ Try.underlying9 rfl ?_)
                          | ((with_reducible refine at_dst (N := 24) rfl ?_); refine ev_ld rfl 9 _ rfl ⟨g1, 5, none⟩ rfl (.string x.fAPIVersion) (g1_w1.out.cell 5) _ Try.underlying9 rfl ?_)
                          | ((with_reducible refine at_dst (N := 28) rfl ?_); refine ev_ld rfl 9 _ rfl ⟨g1, 6, none⟩ rfl (.string x.fCondition) (g1_w1.out.cell 6) _ Try.underlying9 rfl ?_)
                          | ((with_reducible refine at_dst (N := 32) rfl ?_); refine ev_ld rfl 9 _ rfl ⟨g1, 7, none⟩ rfl (.string x.fTags) (g1_w1.out.cell 7) _ Try.underlying9 rfl ?_)
                          | ((with_reducible refine at_dst (N := 36) rfl ?_); refine ev_ld rfl 9 _ rfl ⟨g1, 8, none⟩ rfl (.string x.fAppVersion) (g1_w1.out.cell 8) _ Try.underlying9 rfl ?_)
                          | ((with_reducible refine at_dst (N := 40) rfl ?_); refine ev_ld rfl 9 _ rfl ⟨g1, 9, none⟩ rfl (.string x.fKubeVersion) (g1_w1.out.cell 9) _ Try.underlying9 rfl ?_)
                          | ((with_reducible refine at_dst (N := 44) rfl ?_); refine ev_ld rfl 9 _ rfl ⟨g1, 10, none⟩ rfl (.string x.fType) (g1_w1.out.cell 10) _ Try.underlying9 rfl ?_))
                        go_ret
                        exact HQ.out _ _ ⟨ret_bool (by simp only [fits37, P0.out, P1.out, P2.out, P3.out, P4.out, P5.out, P6.out, P7.out, P8.out, P9.out, P10.out, Bool.and_self, Bool.and_false, Bool.false_and]), B_w1.out⟩
                      · have P10 : Hid (decide (x.fType.size ≤ 2147483647) = true) := by show _ = _; simp; omega
                        cases hc12 : (fits3 x.fSources)
                        · have P11 := Lib.hid hc12
                          go_wp2_with (first
                            | ((with_reducible refine at_dst (N := 1) rfl ?_); refine ev_box rfl 26 _ rfl _ rfl ?_; intro g1 w1 hg hB hb
                               have low_g1 := Nat.le_trans (Nat.le_refl _) hg
                               have B_w1 := Lib.hid (below_trans (Below.refl _ _) hb)
                               have g1_w1 : Hid (Blk w1 g1 26 #[.string x.fName, .string x.fHome, .string x.fVersion, .string x.fDescription, .string x.fIcon, .string x.fAPIVersion, .string x.fCondition, .string x.fTags, .string x.fAppVersion, .string x.fKubeVersion, .string x.fType, .slice x.fSources_a x.fSources.length x.fSources_c, .slice x.fKeywords_a x.fKeywords.length x.fKeywords_c, .slice x.fMaintainers_a x.fMaintainers.length x.fMaintainers_c, .slice x.fDependencies_a x.fDependencies.length x.fDependencies_c]) := hB
                               clear hB hb)
                            | ((with_reducible refine at_dst (N := 4) rfl ?_); refine ev_ld rfl 9 _ rfl ⟨g1, 0, none⟩ rfl (.string x.fName) (g1_w1.out.cell 0) _ Try.underlying9 rfl ?_)
                            | ((with_reducible refine at_dst (N := 8) rfl ?_); refine ev_ld rfl 9 _ rfl ⟨g1, 1, none⟩ rfl (.string x.fHome) (g1_w1.out.cell 1) _ Try.underlying9 rfl ?_)
                            | ((with_reducible refine at_dst (N := 12) rfl ?_); refine ev_ld rfl 9 _ rfl ⟨g1, 2, none⟩ rfl (.string x.fVersion) (g1_w1.out.cell 2) _ Try.underlying9 rfl ?_)
                            | ((with_reducible refine at_dst (N := 16) rfl ?_); refine ev_ld rfl 9 _ rfl ⟨g1, 3, none⟩ rfl (.string x.fDescription) (g1_w1.out.cell 3) _ Try.underlying9 rfl ?_)
                            | ((with_reducible refine at_dst (N := 20) rfl ?_); refine ev_ld rfl 9 _ rfl ⟨g1, 4, none⟩ rfl (.string x.fIcon) (g1_w1.out.cell 4) _ Try.underlying9 rfl ?_)
                            | ((with_reducible refine at_dst (N := 24) rfl ?_); refine ev_ld rfl 9 _ rfl ⟨g1, 5, none⟩ rfl (.string x.fAPIVersion) (g1_w1.out.cell 5) _ Try.underlying9 rfl ?_)
                            | ((with_reducible refine at_dst (N := 28) rfl ?_); refine ev_ld rfl 9 _ rfl ⟨g1, 6, none⟩ rfl (.string x.fCondition) (g1_w1.out.cell 6) _ Try.underlying9 rfl ?_)
                            | ((with_reducible refine at_dst (N := 32) rfl ?_); refine ev_ld rfl 9 _ rfl ⟨g1, 7, none⟩ rfl (.string x.fTags) (g1_w1.out.cell 7) _ Try.underlying9 rfl ?_)
                            | ((with_reducible refine at_dst (N := 36) rfl ?_); refine ev_ld rfl 9 _ rfl ⟨g1, 8, none⟩ rfl (.string x.fAppVersion) (g1_w1.out.cell 8) _ Try.underlying9 rfl ?_)
                            | ((with_reducible refine at_dst (N := 40) rfl ?_); refine ev_ld rfl 9 _ rfl ⟨g1, 9, none⟩ rfl (.string x.fKubeVersion) (g1_w1.out.cell 9) _ Try.underlying9 rfl ?_)
                            | ((with_reducible refine at_dst (N := 44) rfl ?_); refine ev_ld rfl 9 _ rfl ⟨g1, 10, none⟩ rfl (.string x.fType) (g1_w1.out.cell 10) _ Try.underlying9 rfl ?_)
                            | ((with_reducible refine at_dst (N := 48) rfl ?_); refine ev_ld rfl 22 _ rfl ⟨g1, 11, none⟩ rfl (.slice x.fSources_a x.fSources.length x.fSources_c) (g1_w1.out.cell 11) _ Try.underlying22 rfl ?_)
                            | (go_at_call 27; (with_reducible refine (zzFits3_any x.fSources_a x.fSources_c x.fSources _ (H0_Sources.out.below B_w1.out)).mono ?_); rintro e wq ⟨rfl, rfl⟩; rw [hc12]))
                          go_ret
                          exact HQ.out _ _ ⟨ret_bool (by simp only [fits37, P0.out, P1.out, P2.out, P3.out, P4.out, P5.out, P6.out, P7.out, P8.out, P9.out, P10.out, P11.out, Bool.and_self, Bool.and_false, Bool.false_and]), B_w1.out⟩
                        · have P11 := Lib.hid hc12
                          cases hc13 : (fits3 x.fKeywords)
                          · have P12 := Lib.hid hc13
                            go_wp2_with (first
                              | ((with_reducible refine at_dst (N := 1) rfl ?_); refine ev_box rfl 26 _ rfl _ rfl ?_; intro g1 w1 hg hB hb
                                 have low_g1 := Nat.le_trans (Nat.le_refl _) hg
                                 have B_w1 := Lib.hid (below_trans (Below.refl _ _) hb)
                                 have g1_w1 : Hid (Blk w1 g1 26 #[.string x.fName, .string x.fHome, .string x.fVersion, .string x.fDescription, .string x.fIcon, .string x.fAPIVersion, .string x.fCondition, .string x.fTags, .string x.fAppVersion, .string x.fKubeVersion, .string x.fType, .slice x.fSources_a x.fSources.length x.fSources_c, .slice x.fKeywords_a x.fKeywords.length x.fKeywords_c, .slice x.fMaintainers_a x.fMaintainers.length x.fMaintainers_c, .slice x.fDependencies_a x.fDependencies.length x.fDependencies_c]) := hB
                                 clear hB hb)
                              | ((with_reducible refine at_dst (N := 4) rfl ?_); refine ev_ld rfl 9 _ rfl ⟨g1, 0, none⟩ rfl (.string x.fName) (g1_w1.out.cell 0) _ Try.underlying9 rfl ?_)
                              | ((with_reducible refine at_dst (N := 8) rfl ?_); refine ev_ld rfl 9 _ rfl ⟨g1, 1, none⟩ rfl (.string x.fHome) (g1_w1.out.cell 1) _ Try.underlying9 rfl ?_)
                              | ((with_reducible refine at_dst (N := 12) rfl ?_); refine ev_ld rfl 9 _ rfl ⟨g1, 2, none⟩ rfl (.string x.fVersion) (g1_w1.out.cell 2) _ Try.underlying9 rfl ?_)
                              | ((with_reducible refine at_dst (N := 16) rfl ?_); refine ev_ld rfl 9 _ rfl ⟨g1, 3, none⟩ rfl (.string x.fDescription) (g1_w1.out.cell 3) _ Try.underlying9 rfl ?_)
                              | ((with_reducible refine at_dst (N := 20) rfl ?_); refine ev_ld rfl 9 _ rfl ⟨g1, 4, none⟩ rfl (.string x.fIcon) (g1_w1.out.cell 4) _ Try.underlying9 rfl ?_)
                              | ((with_reducible refine at_dst (N := 24) rfl ?_); refine ev_ld rfl 9 _ rfl ⟨g1, 5, none⟩ rfl (.string x.fAPIVersion) (g1_w1.out.cell 5) _ Try.underlying9 rfl ?_)
                              | ((with_reducible refine at_dst (N := 28) rfl ?_); refine ev_ld rfl 9 _ rfl ⟨g1, 6, none⟩ rfl (.string x.fCondition) (g1_w1.out.cell 6) _ Try.underlying9 rfl ?_)
                              | ((with_reducible refine at_dst (N := 32) rfl ?_); refine ev_ld rfl 9 _ rfl ⟨g1, 7, none⟩ rfl (.string x.fTags) (g1_w1.out.cell 7) _ Try.underlying9 rfl ?_)
                              | ((with_reducible refine at_dst (N := 36) rfl ?_); refine ev_ld rfl 9 _ rfl ⟨g1, 8, none⟩ rfl (.string x.fAppVersion) (g1_w1.out.cell 8) _ Try.underlying9 rfl ?_)
                              | ((with_reducible refine at_dst (N := 40) rfl ?_); refine ev_ld rfl 9 _ rfl ⟨g1, 9, none⟩ rfl (.string x.fKubeVersion) (g1_w1.out.cell 9) _ Try.underlying9 rfl ?_)
                              | ((with_reducible refine at_dst (N := 44) rfl ?_); refine ev_ld rfl 9 _ rfl ⟨g1, 10, none⟩ rfl (.string x.fType) (g1_w1.out.cell 10) _ Try.underlying9 rfl ?_)
                              | ((with_reducible refine at_dst (N := 48) rfl ?_); refine ev_ld rfl 22 _ rfl ⟨g1, 11, none⟩ rfl (.slice x.fSources_a x.fSources.length x.fSources_c) (g1_w1.out.cell 11) _ Try.underlying22 rfl ?_)
                              | (go_at_call 27; (with_reducible refine (zzFits3_any x.fSources_a x.fSources_c x.fSources _ (H0_Sources.out.below B_w1.out)).mono ?_); rintro e wq ⟨rfl, rfl⟩; rw [hc12])
                              | ((with_reducible refine at_dst (N := 52) rfl ?_); refine ev_ld rfl 22 _ rfl ⟨g1, 12, none⟩ rfl (.slice x.fKeywords_a x.fKeywords.length x.fKeywords_c) (g1_w1.out.cell 12) _ Try.underlying22 rfl ?_)
                              | (go_at_call 27; (with_reducible refine (zzFits3_any x.fKeywords_a x.fKeywords_c x.fKeywords _ (H0_Keywords.out.below B_w1.out)).mono ?_); rintro e wq ⟨rfl, rfl⟩; rw [hc13]))
                            go_ret
                            exact HQ.out _ _ ⟨ret_bool (by simp only [fits37, P0.out, P1.out, P2.out, P3.out, P4.out, P5.out, P6.out, P7.out, P8.out, P9.out, P10.out, P11.out, P12.out, Bool.and_self, Bool.and_false, Bool.false_and]), B_w1.out⟩
                          · have P12 := Lib.hid hc13
                            cases hc14 : (fits89 x.fMaintainers)
                            · have P13 := Lib.hid hc14
                              go_wp2_with (first
                                | ((with_reducible refine at_dst (N := 1) rfl ?_); refine ev_box rfl 26 _ rfl _ rfl ?_; intro g1 w1 hg hB hb
                                   have low_g1 := Nat.le_trans (Nat.le_refl _) hg
                                   have B_w1 := Lib.hid (below_trans (Below.refl _ _) hb)
                                   have g1_w1 : Hid (Blk w1 g1 26 #[.string x.fName, .string x.fHome, .string x.fVersion, .string x.fDescription, .string x.fIcon, .string x.fAPIVersion, .string x.fCondition, .string x.fTags, .string x.fAppVersion, .string x.fKubeVersion, .string x.fType, .slice x.fSources_a x.fSources.length x.fSources_c, .slice x.fKeywords_a x.fKeywords.length x.fKeywords_c, .slice x.fMaintainers_a x.fMaintainers.length x.fMaintainers_c, .slice x.fDependencies_a x.fDependencies.length x.fDependencies_c]) := hB
                                   clear hB hb)
                                | ((with_reducible refine at_dst (N := 4) rfl ?_); refine ev_ld rfl 9 _ rfl ⟨g1, 0, none⟩ rfl (.string x.fName) (g1_w1.out.cell 0) _ Try.underlying9 rfl ?_)
                                | ((with_reducible refine at_dst (N := 8) rfl ?_); refine ev_ld rfl 9 _ rfl ⟨g1, 1, none⟩ rfl (.string x.fHome) (g1_w1.out.cell 1) _ Try.underlying9 rfl ?_)
                                | ((with_reducible refine at_dst (N := 12) rfl ?_); refine ev_ld rfl 9 _ rfl ⟨g1, 2, none⟩ rfl (.string x.fVersion) (g1_w1.out.cell 2) _ Try.underlying9 rfl ?_)
                                | ((with_reducible refine at_dst (N := 16) rfl ?_); refine ev_ld rfl 9 _ rfl ⟨g1, 3, none⟩ rfl (.string x.fDescription) (g1_w1.out.cell 3) _ Try.underlying9 rfl ?_)
                                | ((with_reducible refine at_dst (N := 20) rfl ?_); refine ev_ld rfl 9 _ rfl ⟨g1, 4, none⟩ rfl (.string x.fIcon) (g1_w1.out.cell 4) _ Try.underlying9 rfl ?_)
                                | ((with_reducible refine at_dst (N := 24) rfl ?_); refine ev_ld rfl 9 _ rfl ⟨g1, 5, none⟩ rfl (.string x.fAPIVersion) (g1_w1.out.cell 5) _ Try.underlying9 rfl ?_)
                                | ((with_reducible refine at_dst (N := 28) rfl ?_); refine ev_ld rfl 9 _ rfl ⟨g1, 6, none⟩ rfl (.string x.fCondition) (g1_w1.out.cell 6) _ Try.underlying9 rfl ?_)
                                | ((with_reducible refine at_dst (N := 32) rfl ?_); refine ev_ld rfl 9 _ rfl ⟨g1, 7, none⟩ rfl (.string x.fTags) (g1_w1.out.cell 7) _ Try.underlying9 rfl ?_)
                                | ((with_reducible refine at_dst (N := 36) rfl ?_); refine ev_ld rfl 9 _ rfl ⟨g1, 8, none⟩ rfl (.string x.fAppVersion) (g1_w1.out.cell 8) _ Try.underlying9 rfl ?_)
                                | ((with_reducible refine at_dst (N := 40) rfl ?_); refine ev_ld rfl 9 _ rfl ⟨g1, 9, none⟩ rfl (.string x.fKubeVersion) (g1_w1.out.cell 9) _ Try.underlying9 rfl ?_)
                                | ((with_reducible refine at_dst (N := 44) rfl ?_); refine ev_ld rfl 9 _ rfl ⟨g1, 10, none⟩ rfl (.string x.fType) (g1_w1.out.cell 10) _ Try.underlying9 rfl ?_)
                                | ((with_reducible refine at_dst (N := 48) rfl ?_); refine ev_ld rfl 22 _ rfl ⟨g1, 11, none⟩ rfl (.slice x.fSources_a x.fSources.length x.fSources_c) (g1_w1.out.cell 11) _ Try.underlying22 rfl ?_)
                                | (go_at_call 27; (with_reducible refine (zzFits3_any x.fSources_a x.fSources_c x.fSources _ (H0_Sources.out.below B_w1.out)).mono ?_); rintro e wq ⟨rfl, rfl⟩; rw [hc12])
                                | ((with_reducible refine at_dst (N := 52) rfl ?_); refine ev_ld rfl 22 _ rfl ⟨g1, 12, none⟩ rfl (.slice x.fKeywords_a x.fKeywords.length x.fKeywords_c) (g1_w1.out.cell 12) _ Try.underlying22 rfl ?_)
                                | (go_at_call 27; (with_reducible refine (zzFits3_any x.fKeywords_a x.fKeywords_c x.fKeywords _ (H0_Keywords.out.below B_w1.out)).mono ?_); rintro e wq ⟨rfl, rfl⟩; rw [hc13])
                                | ((with_reducible refine at_dst (N := 56) rfl ?_); refine ev_ld rfl 23 _ rfl ⟨g1, 13, none⟩ rfl (.slice x.fMaintainers_a x.fMaintainers.length x.fMaintainers_c) (g1_w1.out.cell 13) _ Try.underlying23 rfl ?_)
                                | (go_at_call 89; (with_reducible refine (fits89_any x.fMaintainers_a x.fMaintainers_c x.fMaintainers _ (H0_Maintainers.out.below B_w1.out) (Ty78.oks.below H0_Maintainerso.out B_w1.out)).mono ?_); rintro e w2 ⟨rfl, hb⟩; rw [hc14]
                                   have g1_w2 := Lib.hid (g1_w1.out.below hb)
                                   have B_w2 := Lib.hid (below_trans B_w1.out hb)
                                   clear hb))
                              go_ret
                              exact HQ.out _ _ ⟨ret_bool (by simp only [fits37, P0.out, P1.out, P2.out, P3.out, P4.out, P5.out, P6.out, P7.out, P8.out, P9.out, P10.out, P11.out, P12.out, P13.out, Bool.and_self, Bool.and_false, Bool.false_and]), B_w2.out⟩
                            · have P13 := Lib.hid hc14
                              cases hc15 : (fits90 x.fDependencies)
                              · have P14 := Lib.hid hc15
                                go_wp2_with (first
                                  | ((with_reducible refine at_dst (N := 1) rfl ?_); refine ev_box rfl 26 _ rfl _ rfl ?_; intro g1 w1 hg hB hb
                                     have low_g1 := Nat.le_trans (Nat.le_refl _) hg
                                     have B_w1 := Lib.hid (below_trans (Below.refl _ _) hb)
                                     have g1_w1 : Hid (Blk w1 g1 26 #[.string x.fName, .string x.fHome, .string x.fVersion, .string x.fDescription, .string x.fIcon, .string x.fAPIVersion, .string x.fCondition, .string x.fTags, .string x.fAppVersion, .string x.fKubeVersion, .string x.fType, .slice x.fSources_a x.fSources.length x.fSources_c, .slice x.fKeywords_a x.fKeywords.length x.fKeywords_c, .slice x.fMaintainers_a x.fMaintainers.length x.fMaintainers_c, .slice x.fDependencies_a x.fDependencies.length x.fDependencies_c]) := hB
                                     clear hB hb)
                                  | ((with_reducible refine at_dst (N := 4) rfl ?_); refine ev_ld rfl 9 _ rfl ⟨g1, 0, none⟩ rfl (.string x.fName) (g1_w1.out.cell 0) _ Try.underlying9 rfl ?_)
                                  | ((with_reducible refine at_dst (N := 8) rfl ?_); refine ev_ld rfl 9 _ rfl ⟨g1, 1, none⟩ rfl (.string x.fHome) (g1_w1.out.cell 1) _ Try.underlying9 rfl ?_)
                                  | ((with_reducible refine at_dst (N := 12) rfl ?_); refine ev_ld rfl 9 _ rfl ⟨g1, 2, none⟩ rfl (.string x.fVersion) (g1_w1.out.cell 2) _ Try.underlying9 rfl ?_)
                                  | ((with_reducible refine at_dst (N := 16) rfl ?_); refine ev_ld rfl 9 _ rfl ⟨g1, 3, none⟩ rfl (.string x.fDescription) (g1_w1.out.cell 3) _ Try.underlying9 rfl ?_)
                                  | ((with_reducible refine at_dst (N := 20) rfl ?_); refine ev_ld rfl 9 _ rfl ⟨g1, 4, none⟩ rfl (.string x.fIcon) (g1_w1.out.cell 4) _ Try.underlying9 rfl ?_)
                                  | ((with_reducible refine at_dst (N := 24) rfl ?_); refine ev_ld rfl 9 _ rfl ⟨g1, 5, none⟩ rfl (.string x.fAPIVersion) (g1_w1.out.cell 5) _ Try.underlying9 rfl ?_)
                                  | ((with_reducible refine at_dst (N := 28) rfl ?_); refine ev_ld rfl 9 _ rfl ⟨g1, 6, none⟩ rfl (.string x.fCondition) (g1_w1.out.cell 6) _ Try.underlying9 rfl ?_)
                                  | ((with_reducible refine at_dst (N := 32) rfl ?_); refine ev_ld rfl 9 _ rfl ⟨g1, 7, none⟩ rfl (.string x.fTags) (g1_w1.out.cell 7) _ Try.underlying9 rfl ?_)
                                  | ((with_reducible refine at_dst (N := 36) rfl ?_); refine ev_ld rfl 9 _ rfl ⟨g1, 8, none⟩ rfl (.string x.fAppVersion) (g1_w1.out.cell 8) _ Try.underlying9 rfl ?_)
                                  | ((with_reducible refine at_dst (N := 40) rfl ?_); refine ev_ld rfl 9 _ rfl ⟨g1, 9, none⟩ rfl (.string x.fKubeVersion) (g1_w1.out.cell 9) _ Try.underlying9 rfl ?_)
                                  | ((with_reducible refine at_dst (N := 44) rfl ?_); refine ev_ld rfl 9 _ rfl ⟨g1, 10, none⟩ rfl (.string x.fType) (g1_w1.out.cell 10) _ Try.underlying9 rfl ?_)
                                  | ((with_reducible refine at_dst (N := 48) rfl ?_); refine ev_ld rfl 22 _ rfl ⟨g1, 11, none⟩ rfl (.slice x.fSources_a x.fSources.length x.fSources_c) (g1_w1.out.cell 11) _ Try.underlying22 rfl ?_)
                                  | (go_at_call 27; (with_reducible refine (zzFits3_any x.fSources_a x.fSources_c x.fSources _ (H0_Sources.out.below B_w1.out)).mono ?_); rintro e wq ⟨rfl, rfl⟩; rw [hc12])
                                  | ((with_reducible refine at_dst (N := 52) rfl ?_); refine ev_ld rfl 22 _ rfl ⟨g1, 12, none⟩ rfl (.slice x.fKeywords_a x.fKeywords.length x.fKeywords_c) (g1_w1.out.cell 12) _ Try.underlying22 rfl ?_)
                                  | (go_at_call 27; (with_reducible refine (zzFits3_any x.fKeywords_a x.fKeywords_c x.fKeywords _ (H0_Keywords.out.below B_w1.out)).mono ?_); rintro e wq ⟨rfl, rfl⟩; rw [hc13])
                                  | ((with_reducible refine at_dst (N := 56) rfl ?_); refine ev_ld rfl 23 _ rfl ⟨g1, 13, none⟩ rfl (.slice x.fMaintainers_a x.fMaintainers.length x.fMaintainers_c) (g1_w1.out.cell 13) _ Try.underlying23 rfl ?_)
                                  | (go_at_call 89; (with_reducible refine (fits89_any x.fMaintainers_a x.fMaintainers_c x.fMaintainers _ (H0_Maintainers.out.below B_w1.out) (Ty78.oks.below H0_Maintainerso.out B_w1.out)).mono ?_); rintro e w2 ⟨rfl, hb⟩; rw [hc14]
                                     have g1_w2 := Lib.hid (g1_w1.out.below hb)
                                     have B_w2 := Lib.hid (below_trans B_w1.out hb)
                                     clear hb)
                                  | ((with_reducible refine at_dst (N := 60) rfl ?_); refine ev_ld rfl 24 _ rfl ⟨g1, 14, none⟩ rfl (.slice x.fDependencies_a x.fDependencies.length x.fDependencies_c) (g1_w2.out.cell 14) _ Try.underlying24 rfl ?_)
                                  | (go_at_call 90; (with_reducible refine (fits90_any x.fDependencies_a x.fDependencies_c x.fDependencies _ (H0_Dependencies.out.below B_w2.out) (Ty80.oks.below H0_Dependencieso.out B_w2.out)).mono ?_); rintro e w3 ⟨rfl, hb⟩; rw [hc15]
                                     have g1_w3 := Lib.hid (g1_w2.out.below hb)
                                     have B_w3 := Lib.hid (below_trans B_w2.out hb)
                                     clear hb))
                                go_ret
                                exact HQ.out _ _ ⟨ret_bool (by simp only [fits37, P0.out, P1.out, P2.out, P3.out, P4.out, P5.out, P6.out, P7.out, P8.out, P9.out, P10.out, P11.out, P12.out, P13.out, P14.out, Bool.and_self, Bool.and_false, Bool.false_and]), B_w3.out⟩
                              · have P14 := Lib.hid hc15
                                go_wp2_with (first
                                  | ((with_reducible refine at_dst (N := 1) rfl ?_); refine ev_box rfl 26 _ rfl _ rfl ?_; intro g1 w1 hg hB hb
                                     have low_g1 := Nat.le_trans (Nat.le_refl _) hg
                                     have B_w1 := Lib.hid (below_trans (Below.refl _ _) hb)
                                     have g1_w1 : Hid (Blk w1 g1 26 #[.string x.fName, .string x.fHome, .string x.fVersion, .string x.fDescription, .string x.fIcon, .string x.fAPIVersion, .string x.fCondition, .string x.fTags, .string x.fAppVersion, .string x.fKubeVersion, .string x.fType, .slice x.fSources_a x.fSources.length x.fSources_c, .slice x.fKeywords_a x.fKeywords.length x.fKeywords_c, .slice x.fMaintainers_a x.fMaintainers.length x.fMaintainers_c, .slice x.fDependencies_a x.fDependencies.length x.fDependencies_c]) := hB
                                     clear hB hb)
                                  | ((with_reducible refine at_dst (N := 4) rfl ?_); refine ev_ld rfl 9 _ rfl ⟨g1, 0, none⟩ rfl (.string x.fName) (g1_w1.out.cell 0) _ Try.underlying9 rfl ?_)
                                  | ((with_reducible refine at_dst (N := 8) rfl ?_); refine ev_ld rfl 9 _ rfl ⟨g1, 1, none⟩ rfl (.string x.fHome) (g1_w1.out.cell 1) _ Try.underlying9 rfl ?_)
                                  | ((with_reducible refine at_dst (N := 12) rfl ?_); refine ev_ld rfl 9 _ rfl ⟨g1, 2, none⟩ rfl (.string x.fVersion) (g1_w1.out.cell 2) _ Try.underlying9 rfl ?_)
                                  | ((with_reducible refine at_dst (N := 16) rfl ?_); refine ev_ld rfl 9 _ rfl ⟨g1, 3, none⟩ rfl (.string x.fDescription) (g1_w1.out.cell 3) _ Try.underlying9 rfl ?_)
                                  | ((with_reducible refine at_dst (N := 20) rfl ?_); refine ev_ld rfl 9 _ rfl ⟨g1, 4, none⟩ rfl (.string x.fIcon) (g1_w1.out.cell 4) _ Try.underlying9 rfl ?_)
                                  | ((with_reducible refine at_dst (N := 24) rfl ?_); refine ev_ld rfl 9 _ rfl ⟨g1, 5, none⟩ rfl (.string x.fAPIVersion) (g1_w1.out.cell 5) _ Try.underlying9 rfl ?_)
                                  | ((with_reducible refine at_dst (N := 28) rfl ?_); refine ev_ld rfl 9 _ rfl ⟨g1, 6, none⟩ rfl (.string x.fCondition) (g1_w1.out.cell 6) _ Try.underlying9 rfl ?_)
                                  | ((with_reducible refine at_dst (N := 32) rfl ?_); refine ev_ld rfl 9 _ rfl ⟨g1, 7, none⟩ rfl (.string x.fTags) (g1_w1.out.cell 7) _ Try.underlying9 rfl ?_)
                                  | ((with_reducible refine at_dst (N := 36) rfl ?_); refine ev_ld rfl 9 _ rfl ⟨g1, 8, none⟩ rfl (.string x.fAppVersion) (g1_w1.out.cell 8) _ Try.underlying9 rfl ?_)
                                  | ((with_reducible refine at_dst (N := 40) rfl ?_); refine ev_ld rfl 9 _ rfl ⟨g1, 9, none⟩ rfl (.string x.fKubeVersion) (g1_w1.out.cell 9) _ Try.underlying9 rfl ?_)
                                  | ((with_reducible refine at_dst (N := 44) rfl ?_); refine ev_ld rfl 9 _ rfl ⟨g1, 10, none⟩ rfl (.string x.fType) (g1_w1.out.cell 10) _ Try.underlying9 rfl ?_)
                                  | ((with_reducible refine at_dst (N := 48) rfl ?_); refine ev_ld rfl 22 _ rfl ⟨g1, 11, none⟩ rfl (.slice x.fSources_a x.fSources.length x.fSources_c) (g1_w1.out.cell 11) _ Try.underlying22 rfl ?_)
                                  | (go_at_call 27; (with_reducible refine (zzFits3_any x.fSources_a x.fSources_c x.fSources _ (H0_Sources.out.below B_w1.out)).mono ?_); rintro e wq ⟨rfl, rfl⟩; rw [hc12])
                                  | ((with_reducible refine at_dst (N := 52) rfl ?_); refine ev_ld rfl 22 _ rfl ⟨g1, 12, none⟩ rfl (.slice x.fKeywords_a x.fKeywords.length x.fKeywords_c) (g1_w1.out.cell 12) _ Try.underlying22 rfl ?_)
                                  | (go_at_call 27; (with_reducible refine (zzFits3_any x.fKeywords_a x.fKeywords_c x.fKeywords _ (H0_Keywords.out.below B_w1.out)).mono ?_); rintro e wq ⟨rfl, rfl⟩; rw [hc13])
                                  | ((with_reducible refine at_dst (N := 56) rfl ?_); refine ev_ld rfl 23 _ rfl ⟨g1, 13, none⟩ rfl (.slice x.fMaintainers_a x.fMaintainers.length x.fMaintainers_c) (g1_w1.out.cell 13) _ Try.underlying23 rfl ?_)
                                  | (go_at_call 89; (with_reducible refine (fits89_any x.fMaintainers_a x.fMaintainers_c x.fMaintainers _ (H0_Maintainers.out.below B_w1.out) (Ty78.oks.below H0_Maintainerso.out B_w1.out)).mono ?_); rintro e w2 ⟨rfl, hb⟩; rw [hc14]
                                     have g1_w2 := Lib.hid (g1_w1.out.below hb)
                                     have B_w2 := Lib.hid (below_trans B_w1.out hb)
                                     clear hb)
                                  | ((with_reducible refine at_dst (N := 60) rfl ?_); refine ev_ld rfl 24 _ rfl ⟨g1, 14, none⟩ rfl (.slice x.fDependencies_a x.fDependencies.length x.fDependencies_c) (g1_w2.out.cell 14) _ Try.underlying24 rfl ?_)
                                  | (go_at_call 90; (with_reducible refine (fits90_any x.fDependencies_a x.fDependencies_c x.fDependencies _ (H0_Dependencies.out.below B_w2.out) (Ty80.oks.below H0_Dependencieso.out B_w2.out)).mono ?_); rintro e w3 ⟨rfl, hb⟩; rw [hc15]
                                     have g1_w3 := Lib.hid (g1_w2.out.below hb)
                                     have B_w3 := Lib.hid (below_trans B_w2.out hb)
                                     clear hb))
                                go_ret
                                exact HQ.out _ _ ⟨ret_bool (by simp only [fits37, P0.out, P1.out, P2.out, P3.out, P4.out, P5.out, P6.out, P7.out, P8.out, P9.out, P10.out, P11.out, P12.out, P13.out, P14.out, Bool.and_self, Bool.and_false, Bool.false_and]), B_w3.out⟩
def fits81 (x : Ty69) : Bool := (fits37 x.fMeta) && (fits3 x.fURLs) && decide (x.fDigest.size ≤ 2147483647)
set_option maxRecDepth 100000 in
set_option maxHeartbeats 4000000 in
theorem fits81_any (x : Ty69) (w : World) (h0 : Ty69.ok x w)  :
    Calls Try.prog 81 #[.agg #[.bool x.fNil, .bool x.fBare, .string x.fMeta.fName, .string x.fMeta.fHome, .string x.fMeta.fVersion, .string x.fMeta.fDescription, .string x.fMeta.fIcon, .string x.fMeta.fAPIVersion, .string x.fMeta.fCondition, .string x.fMeta.fTags, .string x.fMeta.fAppVersion, .string x.fMeta.fKubeVersion, .string x.fMeta.fType, .slice x.fMeta.fSources_a x.fMeta.fSources.length x.fMeta.fSources_c, .slice x.fMeta.fKeywords_a x.fMeta.fKeywords.length x.fMeta.fKeywords_c, .slice x.fMeta.fMaintainers_a x.fMeta.fMaintainers.length x.fMeta.fMaintainers_c, .slice x.fMeta.fDependencies_a x.fMeta.fDependencies.length x.fMeta.fDependencies_c, .slice x.fURLs_a x.fURLs.length x.fURLs_c, .string x.fDigest]] w fun e w' => e = .returned (.bool (fits81 x)) ∧ Below w.heap.size w w' := by
  have H0 := Lib.hid h0
  clear h0
  have H0_Meta := Lib.hid (Ty69.ok_Meta H0.out)
  have H0_Meta_Sources := Lib.hid (Ty26.ok_sSources H0_Meta.out)
  have H0_Meta_Keywords := Lib.hid (Ty26.ok_sKeywords H0_Meta.out)
  have H0_Meta_Maintainers := Lib.hid (Ty26.ok_rMaintainers H0_Meta.out)
  have H0_Meta_Maintainerso := Lib.hid (Ty26.ok_oMaintainers H0_Meta.out)
  have H0_Meta_Dependencies := Lib.hid (Ty26.ok_rDependencies H0_Meta.out)
  have H0_Meta_Dependencieso := Lib.hid (Ty26.ok_oDependencies H0_Meta.out)
  have H0_URLs := Lib.hid (Ty69.ok_sURLs H0.out)
  suffices hQ : ∀ Q : Ending → World → Prop, Hid (∀ (e : Ending) (w' : World), (e = .returned (.bool (fits81 x)) ∧ Below w.heap.size w w') → Post1 Q e w') → Calls Try.prog 81 #[.agg #[.bool x.fNil, .bool x.fBare, .string x.fMeta.fName, .string x.fMeta.fHome, .string x.fMeta.fVersion, .string x.fMeta.fDescription, .string x.fMeta.fIcon, .string x.fMeta.fAPIVersion, .string x.fMeta.fCondition, .string x.fMeta.fTags, .string x.fMeta.fAppVersion, .string x.fMeta.fKubeVersion, .string x.fMeta.fType, .slice x.fMeta.fSources_a x.fMeta.fSources.length x.fMeta.fSources_c, .slice x.fMeta.fKeywords_a x.fMeta.fKeywords.length x.fMeta.fKeywords_c, .slice x.fMeta.fMaintainers_a x.fMeta.fMaintainers.length x.fMeta.fMaintainers_c, .slice x.fMeta.fDependencies_a x.fMeta.fDependencies.length x.fMeta.fDependencies_c, .slice x.fURLs_a x.fURLs.length x.fURLs_c, .string x.fDigest]] w (fun e w' => Post1 Q e w') from hQ (fun e w' => e = .returned (.bool (fits81 x)) ∧ Below w.heap.size w w') (fun _ _ h => by unfold Post1; exact h)
  intro Q HQ
  go_enter Try.func81, Try.ntmps81
  cases hc1 : (fits37 x.fMeta)
  · have P0 := Lib.hid hc1
    go_wp2_with (first
      | ((with_reducible refine at_dst (N := 1) rfl ?_); refine ev_box rfl 69 _ rfl _ rfl ?_; intro g1 w1 hg hB hb
         have low_g1 := Nat.le_trans (Nat.le_refl _) hg
         have B_w1 := Lib.hid (below_trans (Below.refl _ _) hb)
         have g1_w1 : Hid (Blk w1 g1 69 #[.bool x.fNil, .bool x.fBare, .string x.fMeta.fName, .string x.fMeta.fHome, .string x.fMeta.fVersion, .string x.fMeta.fDescription, .string x.fMeta.fIcon, .string x.fMeta.fAPIVersion, .string x.fMeta.fCondition, .string x.fMeta.fTags, .string x.fMeta.fAppVersion, .string x.fMeta.fKubeVersion, .string x.fMeta.fType, .slice x.fMeta.fSources_a x.fMeta.fSources.length x.fMeta.fSources_c, .slice x.fMeta.fKeywords_a x.fMeta.fKeywords.length x.fMeta.fKeywords_c, .slice x.fMeta.fMaintainers_a x.fMeta.fMaintainers.length x.fMeta.fMaintainers_c, .slice x.fMeta.fDependencies_a x.fMeta.fDependencies.length x.fMeta.fDependencies_c, .slice x.fURLs_a x.fURLs.length x.fURLs_c, .string x.fDigest]) := hB
         clear hB hb)
      | ((with_reducible refine at_dst (N := 4) rfl ?_); refine ev_ldm rfl 26 _ rfl g1 2 rfl 69 _ g1_w1.out 15 (by simp) _ Try.underlying26 rfl tsz26 (.agg #[.string x.fMeta.fName, .string x.fMeta.fHome, .string x.fMeta.fVersion, .string x.fMeta.fDescription, .string x.fMeta.fIcon, .string x.fMeta.fAPIVersion, .string x.fMeta.fCondition, .string x.fMeta.fTags, .string x.fMeta.fAppVersion, .string x.fMeta.fKubeVersion, .string x.fMeta.fType, .slice x.fMeta.fSources_a x.fMeta.fSources.length x.fMeta.fSources_c, .slice x.fMeta.fKeywords_a x.fMeta.fKeywords.length x.fMeta.fKeywords_c, .slice x.fMeta.fMaintainers_a x.fMeta.fMaintainers.length x.fMeta.fMaintainers_c, .slice x.fMeta.fDependencies_a x.fMeta.fDependencies.length x.fMeta.fDependencies_c]) rfl ?_)
      | (go_at_call 37; (with_reducible refine (fits37_any x.fMeta _ (Ty26.ok.below H0_Meta.out B_w1.out)).mono ?_); rintro e w2 ⟨rfl, hb⟩; rw [hc1]
         have g1_w2 := Lib.hid (g1_w1.out.below hb)
         have B_w2 := Lib.hid (below_trans B_w1.out hb)
         clear hb))
    go_ret
    exact HQ.out _ _ ⟨ret_bool (by simp only [fits81, P0.out, Bool.and_self, Bool.and_false, Bool.false_and]), B_w2.out⟩
  · have P0 := Lib.hid hc1
    cases hc2 : (fits3 x.fURLs)
    · have P1 := Lib.hid hc2
      go_wp2_with (first
        | ((with_reducible refine at_dst (N := 1) rfl ?_); refine ev_box rfl 69 _ rfl _ rfl ?_; intro g1 w1 hg hB hb
           have low_g1 := Nat.le_trans (Nat.le_refl _) hg
           have B_w1 := Lib.hid (below_trans (Below.refl _ _) hb)
           have g1_w1 : Hid (Blk w1 g1 69 #[.bool x.fNil, .bool x.fBare, .string x.fMeta.fName, .string x.fMeta.fHome, .string x.fMeta.fVersion, .string x.fMeta.fDescription, .string x.fMeta.fIcon, .string x.fMeta.fAPIVersion, .string x.fMeta.fCondition, .string x.fMeta.fTags, .string x.fMeta.fAppVersion, .string x.fMeta.fKubeVersion, .string x.fMeta.fType, .slice x.fMeta.fSources_a x.fMeta.fSources.length x.fMeta.fSources_c, .slice x.fMeta.fKeywords_a x.fMeta.fKeywords.length x.fMeta.fKeywords_c, .slice x.fMeta.fMaintainers_a x.fMeta.fMaintainers.length x.fMeta.fMaintainers_c, .slice x.fMeta.fDependencies_a x.fMeta.fDependencies.length x.fMeta.fDependencies_c, .slice x.fURLs_a x.fURLs.length x.fURLs_c, .string x.fDigest]) := hB
           clear hB hb)
        | ((with_reducible refine at_dst (N := 4) rfl ?_); refine ev_ldm rfl 26 _ rfl g1 2 rfl 69 _ g1_w1.out 15 (by simp) _ Try.underlying26 rfl tsz26 (.agg #[.string x.fMeta.fName, .string x.fMeta.fHome, .string x.fMeta.fVersion, .string x.fMeta.fDescription, .string x.fMeta.fIcon, .string x.fMeta.fAPIVersion, .string x.fMeta.fCondition, .string x.fMeta.fTags, .string x.fMeta.fAppVersion, .string x.fMeta.fKubeVersion, .string x.fMeta.fType, .slice x.fMeta.fSources_a x.fMeta.fSources.length x.fMeta.fSources_c, .slice x.fMeta.fKeywords_a x.fMeta.fKeywords.length x.fMeta.fKeywords_c, .slice x.fMeta.fMaintainers_a x.fMeta.fMaintainers.length x.fMeta.fMaintainers_c, .slice x.fMeta.fDependencies_a x.fMeta.fDependencies.length x.fMeta.fDependencies_c]) rfl ?_)
        | (go_at_call 37; (with_reducible refine (fits37_any x.fMeta _ (Ty26.ok.below H0_Meta.out B_w1.out)).mono ?_); rintro e w2 ⟨rfl, hb⟩; rw [hc1]
           have g1_w2 := Lib.hid (g1_w1.out.below hb)
           have B_w2 := Lib.hid (below_trans B_w1.out hb)
           clear hb)
        | ((with_reducible refine at_dst (N := 8) rfl ?_); refine ev_ld rfl 22 _ rfl ⟨g1, 17, none⟩ rfl (.slice x.fURLs_a x.fURLs.length x.fURLs_c) (g1_w2.out.cell 17) _ Try.underlying22 rfl ?_)
        | (go_at_call 27; (with_reducible refine (zzFits3_any x.fURLs_a x.fURLs_c x.fURLs _ (H0_URLs.out.below B_w2.out)).mono ?_); rintro e wq ⟨rfl, rfl⟩; rw [hc2]))
      go_ret
      exact HQ.out _ _ ⟨ret_bool (by simp only [fits81, P0.out, P1.out, Bool.and_self, Bool.and_false, Bool.false_and]), B_w2.out⟩
    · have P1 := Lib.hid hc2
      by_cases hc3 : (2147483647 : Int) < ↑x.fDigest.size
      · have P2 : Hid (decide (x.fDigest.size ≤ 2147483647) = false) := by show _ = _; simp; omega
        go_wp2_with (first
          | ((with_reducible refine at_dst (N := 1) rfl ?_); refine ev_box rfl 69 _ rfl _ rfl ?_; intro g1 w1 hg hB hb
             have low_g1 := Nat.le_trans (Nat.le_refl _) hg
             have B_w1 := Lib.hid (below_trans (Below.refl _ _) hb)
             have g1_w1 : Hid (Blk w1 g1 69 #[.bool x.fNil, .bool x.fBare, .string x.fMeta.fName, .string x.fMeta.fHome, .string x.fMeta.fVersion, .string x.fMeta.fDescription, .string x.fMeta.fIcon, .string x.fMeta.fAPIVersion, .string x.fMeta.fCondition, .string x.fMeta.fTags, .string x.fMeta.fAppVersion, .string x.fMeta.fKubeVersion, .string x.fMeta.fType, .slice x.fMeta.fSources_a x.fMeta.fSources.length x.fMeta.fSources_c, .slice x.fMeta.fKeywords_a x.fMeta.fKeywords.length x.fMeta.fKeywords_c, .slice x.fMeta.fMaintainers_a x.fMeta.fMaintainers.length x.fMeta.fMaintainers_c, .slice x.fMeta.fDependencies_a x.fMeta.fDependencies.length x.fMeta.fDependencies_c, .slice x.fURLs_a x.fURLs.length x.fURLs_c, .string x.fDigest]) := hB
             clear hB hb)
          | ((with_reducible refine at_dst (N := 4) rfl ?_); refine ev_ldm rfl 26 _ rfl g1 2 rfl 69 _ g1_w1.out 15 (by simp) _ Try.underlying26 rfl tsz26 (.agg #[.string x.fMeta.fName, .string x.fMeta.fHome, .string x.fMeta.fVersion, .string x.fMeta.fDescription, .string x.fMeta.fIcon, .string x.fMeta.fAPIVersion, .string x.fMeta.fCondition, .string x.fMeta.fTags, .string x.fMeta.fAppVersion, .string x.fMeta.fKubeVersion, .string x.fMeta.fType, .slice x.fMeta.fSources_a x.fMeta.fSources.length x.fMeta.fSources_c, .slice x.fMeta.fKeywords_a x.fMeta.fKeywords.length x.fMeta.fKeywords_c, .slice x.fMeta.fMaintainers_a x.fMeta.fMaintainers.length x.fMeta.fMaintainers_c, .slice x.fMeta.fDependencies_a x.fMeta.fDependencies.length x.fMeta.fDependencies_c]) rfl ?_)
          | (go_at_call 37; (with_reducible refine (fits37_any x.fMeta _ (Ty26.ok.below H0_Meta.out B_w1.out)).mono ?_); rintro e w2 ⟨rfl, hb⟩; rw [hc1]
             have g1_w2 := Lib.hid (g1_w1.out.below hb)
             have B_w2 := Lib.hid (below_trans B_w1.out hb)
             clear hb)
          | ((with_reducible refine at_dst (N := 8) rfl ?_); refine ev_ld rfl 22 _ rfl ⟨g1, 17, none⟩ rfl (.slice x.fURLs_a x.fURLs.length x.fURLs_c) (g1_w2.out.cell 17) _ Try.underlying22 rfl ?_)
          | (go_at_call 27; (with_reducible refine (zzFits3_any x.fURLs_a x.fURLs_c x.fURLs _ (H0_URLs.out.below B_w2.out)).mono ?_); rintro e wq ⟨rfl, rfl⟩; rw [hc2])
          | ((with_reducible refine at_dst (N := 12) rfl ?_); refine ev_ld rfl 9 _ rfl ⟨g1, 18, none⟩ rfl (.string x.fDigest) (g1_w2.out.cell 18) _ Try.underlying9 rfl ?_))
        go_ret
        exact HQ.out _ _ ⟨ret_bool (by simp only [fits81, P0.out, P1.out, P2.out, Bool.and_self, Bool.and_false, Bool.false_and]), B_w2.out⟩
      · have P2 : Hid (decide (x.fDigest.size ≤ 2147483647) = true) := by show _ = _; simp; omega
        go_wp2_with (first
          | ((with_reducible refine at_dst (N := 1) rfl ?_); refine ev_box rfl 69 _ rfl _ rfl ?_; intro g1 w1 hg hB hb
             have low_g1 := Nat.le_trans (Nat.le_refl _) hg
             have B_w1 := Lib.hid (below_trans (Below.refl _ _) hb)
             have g1_w1 : Hid (Blk w1 g1 69 #[.bool x.fNil, .bool x.fBare, .string x.fMeta.fName, .string x.fMeta.fHome, .string x.fMeta.fVersion, .string x.fMeta.fDescription, .string x.fMeta.fIcon, .string x.fMeta.fAPIVersion, .string x.fMeta.fCondition, .string x.fMeta.fTags, .string x.fMeta.fAppVersion, .string x.fMeta.fKubeVersion, .string x.fMeta.fType, .slice x.fMeta.fSources_a x.fMeta.fSources.length x.fMeta.fSources_c, .slice x.fMeta.fKeywords_a x.fMeta.fKeywords.length x.fMeta.fKeywords_c, .slice x.fMeta.fMaintainers_a x.fMeta.fMaintainers.length x.fMeta.fMaintainers_c, .slice x.fMeta.fDependencies_a x.fMeta.fDependencies.length x.fMeta.fDependencies_c, .slice x.fURLs_a x.fURLs.length x.fURLs_c, .string x.fDigest]) := hB
             clear hB hb)
          | ((with_reducible refine at_dst (N := 4) rfl ?_); refine ev_ldm rfl 26 _ rfl g1 2 rfl 69 _ g1_w1.out 15 (by simp) _ Try.underlying26 rfl tsz26 (.agg #[.string x.fMeta.fName, .string x.fMeta.fHome, .string x.fMeta.fVersion, .string x.fMeta.fDescription, .string x.fMeta.fIcon, .string x.fMeta.fAPIVersion, .string x.fMeta.fCondition, .string x.fMeta.fTags, .string x.fMeta.fAppVersion, .string x.fMeta.fKubeVersion, .string x.fMeta.fType, .slice x.fMeta.fSources_a x.fMeta.fSources.length x.fMeta.fSources_c, .slice x.fMeta.fKeywords_a x.fMeta.fKeywords.length x.fMeta.fKeywords_c, .slice x.fMeta.fMaintainers_a x.fMeta.fMaintainers.length x.fMeta.fMaintainers_c, .slice x.fMeta.fDependencies_a x.fMeta.fDependencies.length x.fMeta.fDependencies_c]) rfl ?_)
          | (go_at_call 37; (with_reducible refine (fits37_any x.fMeta _ (Ty26.ok.below H0_Meta.out B_w1.out)).mono ?_); rintro e w2 ⟨rfl, hb⟩; rw [hc1]
             have g1_w2 := Lib.hid (g1_w1.out.below hb)
             have B_w2 := Lib.hid (below_trans B_w1.out hb)
             clear hb)
          | ((with_reducible refine at_dst (N := 8) rfl ?_); refine ev_ld rfl 22 _ rfl ⟨g1, 17, none⟩ rfl (.slice x.fURLs_a x.fURLs.length x.fURLs_c) (g1_w2.out.cell 17) _ Try.underlying22 rfl ?_)
          | (go_at_call 27; (with_reducible refine (zzFits3_any x.fURLs_a x.fURLs_c x.fURLs _ (H0_URLs.out.below B_w2.out)).mono ?_); rintro e wq ⟨rfl, rfl⟩; rw [hc2])
          | ((with_reducible refine at_dst (N := 12) rfl ?_); refine ev_ld rfl 9 _ rfl ⟨g1, 18, none⟩ rfl (.string x.fDigest) (g1_w2.out.cell 18) _ Try.underlying9 rfl ?_))
        go_ret
        exact HQ.out _ _ ⟨ret_bool (by simp only [fits81, P0.out, P1.out, P2.out, Bool.and_self, Bool.and_false, Bool.false_and]), B_w2.out⟩
def fits31 (xs : List Ty69) : Bool := decide (xs.length ≤ 2147483647) && xs.all fits81
set_option maxRecDepth 100000 in
set_option maxHeartbeats 4000000 in
theorem fits31_any (A : Option Addr) (c : Nat) (xs : List Ty69) (w : World) (h0 : Rows w (A) 19 (xs.map Ty69.cells)) (h1 : Ty69.oks xs w)  :
    Calls Try.prog 31 #[.slice (A) (xs.length) (c)] w fun e w' => e = .returned (.bool (fits31 xs)) ∧ Below w.heap.size w w' := by
  have hl_xs : xs.length ≤ 9223372036854775807 := by have := h0.1; simpa [strs, ptrs] using this
  have H0 := Lib.hid h0
  clear h0
  have H1 := Lib.hid h1
  clear h1
  suffices hQ : ∀ Q : Ending → World → Prop, Hid (∀ (e : Ending) (w' : World), (e = .returned (.bool (fits31 xs)) ∧ Below w.heap.size w w') → Post1 Q e w') → Calls Try.prog 31 #[.slice (A) (xs.length) (c)] w (fun e w' => Post1 Q e w') from hQ (fun e w' => e = .returned (.bool (fits31 xs)) ∧ Below w.heap.size w w') (fun _ _ h => by unfold Post1; exact h)
  intro Q HQ
  go_enter Try.func31, Try.ntmps31
  by_cases hc1 : (2147483647 : Int) < ↑xs.length
  · go_wp2_with fail
    go_ret
    exact HQ.out _ _ ⟨ret_bool (by have e : decide (xs.length ≤ 2147483647) = false := (by simp; omega); rw [fits31, e, Bool.false_and]), (Below.refl _ _)⟩
  · go_wp2_with fail
    go_loopw [10] (fun v10 wr => ∃ k : Nat, (k ≤ xs.length) ∧ v10 = .int .i64 (↑k) ∧ Hid ((xs.take k).all fits81 = true) ∧ Hid (Below w.heap.size w wr)) (fun v10 _ => xs.length - (intOf v10).toNat)
    case atStart => exact ⟨0, (by omega), rfl, rfl, (Below.refl _ _)⟩
    case round =>
      obtain ⟨k, hk, rfl, L0_all, L0_B⟩ := hrel
      by_cases hlt_k : k < xs.length
      · obtain ⟨ad_k, rfl⟩ := (H0.out.below L0_B.out).addr (by simp [strs, ptrs]; omega)
        have HE := Lib.hid (Ty69.oks.at H1.out hlt_k)
        cases hc2 : (fits81 xs[k])
        · go_wp2_with (first
            | ((with_reducible refine at_dst (N := 13) rfl ?_); refine ev_loadR rfl 69 _ rfl _ rfl [.bool xs[k].fNil, .bool xs[k].fBare, .string xs[k].fMeta.fName, .string xs[k].fMeta.fHome, .string xs[k].fMeta.fVersion, .string xs[k].fMeta.fDescription, .string xs[k].fMeta.fIcon, .string xs[k].fMeta.fAPIVersion, .string xs[k].fMeta.fCondition, .string xs[k].fMeta.fTags, .string xs[k].fMeta.fAppVersion, .string xs[k].fMeta.fKubeVersion, .string xs[k].fMeta.fType, .slice xs[k].fMeta.fSources_a xs[k].fMeta.fSources.length xs[k].fMeta.fSources_c, .slice xs[k].fMeta.fKeywords_a xs[k].fMeta.fKeywords.length xs[k].fMeta.fKeywords_c, .slice xs[k].fMeta.fMaintainers_a xs[k].fMeta.fMaintainers.length xs[k].fMeta.fMaintainers_c, .slice xs[k].fMeta.fDependencies_a xs[k].fMeta.fDependencies.length xs[k].fMeta.fDependencies_c, .slice xs[k].fURLs_a xs[k].fURLs.length xs[k].fURLs_c, .string xs[k].fDigest] ((H0.out.below L0_B.out).el (j := k) (row := xs[k].cells) (by simp [hlt_k])) _ Try.underlying69 rfl tsz69 ?_)
            | ((with_reducible refine at_dst (N := 4) rfl ?_); refine ev_alloc rfl 69 rfl _ _ tz69 ?_; intro g4 w1 hg hB hb
               have low_g4 := Nat.le_trans L0_B.out.size hg
               have B_w1 := Lib.hid (below_trans L0_B.out hb)
               have g4_w1 : Hid (Blk w1 g4 69 #[.bool false, .bool false, .string ⟨#[]⟩, .string ⟨#[]⟩, .string ⟨#[]⟩, .string ⟨#[]⟩, .string ⟨#[]⟩, .string ⟨#[]⟩, .string ⟨#[]⟩, .string ⟨#[]⟩, .string ⟨#[]⟩, .string ⟨#[]⟩, .string ⟨#[]⟩, .slice none 0 0, .slice none 0 0, .slice none 0 0, .slice none 0 0, .slice none 0 0, .string ⟨#[]⟩]) := hB
               clear hB hb)
            | (refine ev_store rfl 69 _ _ rfl g4 _ _ rfl rfl 69 g4_w1.out tsz69 rfl rfl ?_; intro w2 hB hg hz
               have hx := GrX.grown (S := fun k => k = g4) hg rfl
               have B_w2 := Lib.hid (below_grx B_w1.out hx B_w1.out.size (fun k => (fun e => e ▸ low_g4)))
               clear hx
               have g4_w2 : Hid (Blk w2 g4 69 #[.bool xs[k].fNil, .bool xs[k].fBare, .string xs[k].fMeta.fName, .string xs[k].fMeta.fHome, .string xs[k].fMeta.fVersion, .string xs[k].fMeta.fDescription, .string xs[k].fMeta.fIcon, .string xs[k].fMeta.fAPIVersion, .string xs[k].fMeta.fCondition, .string xs[k].fMeta.fTags, .string xs[k].fMeta.fAppVersion, .string xs[k].fMeta.fKubeVersion, .string xs[k].fMeta.fType, .slice xs[k].fMeta.fSources_a xs[k].fMeta.fSources.length xs[k].fMeta.fSources_c, .slice xs[k].fMeta.fKeywords_a xs[k].fMeta.fKeywords.length xs[k].fMeta.fKeywords_c, .slice xs[k].fMeta.fMaintainers_a xs[k].fMeta.fMaintainers.length xs[k].fMeta.fMaintainers_c, .slice xs[k].fMeta.fDependencies_a xs[k].fMeta.fDependencies.length xs[k].fMeta.fDependencies_c, .slice xs[k].fURLs_a xs[k].fURLs.length xs[k].fURLs_c, .string xs[k].fDigest]) := hB
               clear hB hg hz)
            | ((with_reducible refine at_dst (N := 14) rfl ?_); refine ev_loadB rfl 69 _ rfl g4 rfl 69 _ g4_w2.out _ Try.underlying69 rfl tsz69 ?_)
            | (go_at_call 81; (with_reducible refine (fits81_any xs[k] _ (Ty69.ok.below HE.out B_w2.out)).mono ?_); rintro e w3 ⟨rfl, hb⟩; rw [hc2]
               have g4_w3 := Lib.hid (g4_w2.out.below hb)
               have B_w3 := Lib.hid (below_trans B_w2.out hb)
               clear hb))
          go_ret
          exact HQ.out _ _ ⟨ret_bool (by rw [fits31, all_at hlt_k hc2, Bool.and_false]), B_w3.out⟩
        · go_wp2_with (first
            | ((with_reducible refine at_dst (N := 13) rfl ?_); refine ev_loadR rfl 69 _ rfl _ rfl [.bool xs[k].fNil, .bool xs[k].fBare, .string xs[k].fMeta.fName, .string xs[k].fMeta.fHome, .string xs[k].fMeta.fVersion, .string xs[k].fMeta.fDescription, .string xs[k].fMeta.fIcon, .string xs[k].fMeta.fAPIVersion, .string xs[k].fMeta.fCondition, .string xs[k].fMeta.fTags, .string xs[k].fMeta.fAppVersion, .string xs[k].fMeta.fKubeVersion, .string xs[k].fMeta.fType, .slice xs[k].fMeta.fSources_a xs[k].fMeta.fSources.length xs[k].fMeta.fSources_c, .slice xs[k].fMeta.fKeywords_a xs[k].fMeta.fKeywords.length xs[k].fMeta.fKeywords_c, .slice xs[k].fMeta.fMaintainers_a xs[k].fMeta.fMaintainers.length xs[k].fMeta.fMaintainers_c, .slice xs[k].fMeta.fDependencies_a xs[k].fMeta.fDependencies.length xs[k].fMeta.fDependencies_c, .slice xs[k].fURLs_a xs[k].fURLs.length xs[k].fURLs_c, .string xs[k].fDigest] ((H0.out.below L0_B.out).el (j := k) (row := xs[k].cells) (by simp [hlt_k])) _ Try.underlying69 rfl tsz69 ?_)
            | ((with_reducible refine at_dst (N := 4) rfl ?_); refine ev_alloc rfl 69 rfl _ _ tz69 ?_; intro g4 w1 hg hB hb
               have low_g4 := Nat.le_trans L0_B.out.size hg
               have B_w1 := Lib.hid (below_trans L0_B.out hb)
               have g4_w1 : Hid (Blk w1 g4 69 #[.bool false, .bool false, .string ⟨#[]⟩, .string ⟨#[]⟩, .string ⟨#[]⟩, .string ⟨#[]⟩, .string ⟨#[]⟩, .string ⟨#[]⟩, .string ⟨#[]⟩, .string ⟨#[]⟩, .string ⟨#[]⟩, .string ⟨#[]⟩, .string ⟨#[]⟩, .slice none 0 0, .slice none 0 0, .slice none 0 0, .slice none 0 0, .slice none 0 0, .string ⟨#[]⟩]) := hB
               clear hB hb)
            | (refine ev_store rfl 69 _ _ rfl g4 _ _ rfl rfl 69 g4_w1.out tsz69 rfl rfl ?_; intro w2 hB hg hz
               have hx := GrX.grown (S := fun k => k = g4) hg rfl
               have B_w2 := Lib.hid (below_grx B_w1.out hx B_w1.out.size (fun k => (fun e => e ▸ low_g4)))
               clear hx
               have g4_w2 : Hid (Blk w2 g4 69 #[.bool xs[k].fNil, .bool xs[k].fBare, .string xs[k].fMeta.fName, .string xs[k].fMeta.fHome, .string xs[k].fMeta.fVersion, .string xs[k].fMeta.fDescription, .string xs[k].fMeta.fIcon, .string xs[k].fMeta.fAPIVersion, .string xs[k].fMeta.fCondition, .string xs[k].fMeta.fTags, .string xs[k].fMeta.fAppVersion, .string xs[k].fMeta.fKubeVersion, .string xs[k].fMeta.fType, .slice xs[k].fMeta.fSources_a xs[k].fMeta.fSources.length xs[k].fMeta.fSources_c, .slice xs[k].fMeta.fKeywords_a xs[k].fMeta.fKeywords.length xs[k].fMeta.fKeywords_c, .slice xs[k].fMeta.fMaintainers_a xs[k].fMeta.fMaintainers.length xs[k].fMeta.fMaintainers_c, .slice xs[k].fMeta.fDependencies_a xs[k].fMeta.fDependencies.length xs[k].fMeta.fDependencies_c, .slice xs[k].fURLs_a xs[k].fURLs.length xs[k].fURLs_c, .string xs[k].fDigest]) := hB
               clear hB hg hz)
            | ((with_reducible refine at_dst (N := 14) rfl ?_); refine ev_loadB rfl 69 _ rfl g4 rfl 69 _ g4_w2.out _ Try.underlying69 rfl tsz69 ?_)
            | (go_at_call 81; (with_reducible refine (fits81_any xs[k] _ (Ty69.ok.below HE.out B_w2.out)).mono ?_); rintro e w3 ⟨rfl, hb⟩; rw [hc2]
               have g4_w3 := Lib.hid (g4_w2.out.below hb)
               have B_w3 := Lib.hid (below_trans B_w2.out hb)
               clear hb))
          refine ⟨⟨k + 1, (by omega), by go_num, by show _ = _; rw [all_take hlt_k, L0_all.out, hc2]; rfl, B_w3⟩, ?_⟩
          simp [intOf]; omega
      · obtain rfl : k = xs.length := by omega
        rw [List.take_length] at L0_all
        go_wp2_with fail
        go_ret
        exact HQ.out _ _ ⟨ret_bool (by have e : decide (xs.length ≤ 2147483647) = true := (by simp; omega); rw [fits31, e, L0_all.out]; rfl), L0_B.out⟩
def fits102 (x : Ty103) : Bool := decide (x.fName.size ≤ 2147483647) && (fits31 x.fVersions)
set_option maxRecDepth 100000 in
set_option maxHeartbeats 4000000 in
theorem fits102_any (x : Ty103) (w : World) (h0 : Ty103.ok x w)  :
    Calls Try.prog 102 #[.agg #[.string x.fName, .slice x.fVersions_a x.fVersions.length x.fVersions_c]] w fun e w' => e = .returned (.bool (fits102 x)) ∧ Below w.heap.size w w' := by
  have H0 := Lib.hid h0
  clear h0
  have H0_Versions := Lib.hid (Ty103.ok_rVersions H0.out)
  have H0_Versionso := Lib.hid (Ty103.ok_oVersions H0.out)
  suffices hQ : ∀ Q : Ending → World → Prop, Hid (∀ (e : Ending) (w' : World), (e = .returned (.bool (fits102 x)) ∧ Below w.heap.size w w') → Post1 Q e w') → Calls Try.prog 102 #[.agg #[.string x.fName, .slice x.fVersions_a x.fVersions.length x.fVersions_c]] w (fun e w' => Post1 Q e w') from hQ (fun e w' => e = .returned (.bool (fits102 x)) ∧ Below w.heap.size w w') (fun _ _ h => by unfold Post1; exact h)
  intro Q HQ
  go_enter Try.func102, Try.ntmps102
  by_cases hc1 : (2147483647 : Int) < ↑x.fName.size
  · have P0 : Hid (decide (x.fName.size ≤ 2147483647) = false) := by show _ = _; simp; omega
    go_wp2_with (first
      | ((with_reducible refine at_dst (N := 1) rfl ?_); refine ev_box rfl 103 _ rfl _ rfl ?_; intro g1 w1 hg hB hb
         have low_g1 := Nat.le_trans (Nat.le_refl _) hg
         have B_w1 := Lib.hid (below_trans (Below.refl _ _) hb)
         have g1_w1 : Hid (Blk w1 g1 103 #[.string x.fName, .slice x.fVersions_a x.fVersions.length x.fVersions_c]) := hB
         clear hB hb)
      | ((with_reducible refine at_dst (N := 4) rfl ?_); refine ev_ld rfl 9 _ rfl ⟨g1, 0, none⟩ rfl (.string x.fName) (g1_w1.out.cell 0) _ Try.underlying9 rfl ?_))
    go_ret
    exact HQ.out _ _ ⟨ret_bool (by simp only [fits102, P0.out, Bool.and_self, Bool.and_false, Bool.false_and]), B_w1.out⟩
  · have P0 : Hid (decide (x.fName.size ≤ 2147483647) = true) := by show _ = _; simp; omega
    cases hc2 : (fits31 x.fVersions)
    · have P1 := Lib.hid hc2
      go_wp2_with (first
        | ((with_reducible refine at_dst (N := 1) rfl ?_); refine ev_box rfl 103 _ rfl _ rfl ?_; intro g1 w1 hg hB hb
           have low_g1 := Nat.le_trans (Nat.le_refl _) hg
           have B_w1 := Lib.hid (below_trans (Below.refl _ _) hb)
           have g1_w1 : Hid (Blk w1 g1 103 #[.string x.fName, .slice x.fVersions_a x.fVersions.length x.fVersions_c]) := hB
           clear hB hb)
        | ((with_reducible refine at_dst (N := 4) rfl ?_); refine ev_ld rfl 9 _ rfl ⟨g1, 0, none⟩ rfl (.string x.fName) (g1_w1.out.cell 0) _ Try.underlying9 rfl ?_)
        | ((with_reducible refine at_dst (N := 8) rfl ?_); refine ev_ld rfl 65 _ rfl ⟨g1, 1, none⟩ rfl (.slice x.fVersions_a x.fVersions.length x.fVersions_c) (g1_w1.out.cell 1) _ Try.underlying65 rfl ?_)
        | (go_at_call 31; (with_reducible refine (fits31_any x.fVersions_a x.fVersions_c x.fVersions _ (H0_Versions.out.below B_w1.out) (Ty69.oks.below H0_Versionso.out B_w1.out)).mono ?_); rintro e w2 ⟨rfl, hb⟩; rw [hc2]
           have g1_w2 := Lib.hid (g1_w1.out.below hb)
           have B_w2 := Lib.hid (below_trans B_w1.out hb)
           clear hb))
      go_ret
      exact HQ.out _ _ ⟨ret_bool (by simp only [fits102, P0.out, P1.out, Bool.and_self, Bool.and_false, Bool.false_and]), B_w2.out⟩
    · have P1 := Lib.hid hc2
      go_wp2_with (first
        | ((with_reducible refine at_dst (N := 1) rfl ?_); refine ev_box rfl 103 _ rfl _ rfl ?_; intro g1 w1 hg hB hb
           have low_g1 := Nat.le_trans (Nat.le_refl _) hg
           have B_w1 := Lib.hid (below_trans (Below.refl _ _) hb)
           have g1_w1 : Hid (Blk w1 g1 103 #[.string x.fName, .slice x.fVersions_a x.fVersions.length x.fVersions_c]) := hB
           clear hB hb)
        | ((with_reducible refine at_dst (N := 4) rfl ?_); refine ev_ld rfl 9 _ rfl ⟨g1, 0, none⟩ rfl (.string x.fName) (g1_w1.out.cell 0) _ Try.underlying9 rfl ?_)
        | ((with_reducible refine at_dst (N := 8) rfl ?_); refine ev_ld rfl 65 _ rfl ⟨g1, 1, none⟩ rfl (.slice x.fVersions_a x.fVersions.length x.fVersions_c) (g1_w1.out.cell 1) _ Try.underlying65 rfl ?_)
        | (go_at_call 31; (with_reducible refine (fits31_any x.fVersions_a x.fVersions_c x.fVersions _ (H0_Versions.out.below B_w1.out) (Ty69.oks.below H0_Versionso.out B_w1.out)).mono ?_); rintro e w2 ⟨rfl, hb⟩; rw [hc2]
           have g1_w2 := Lib.hid (g1_w1.out.below hb)
           have B_w2 := Lib.hid (below_trans B_w1.out hb)
           clear hb))
      go_ret
      exact HQ.out _ _ ⟨ret_bool (by simp only [fits102, P0.out, P1.out, Bool.and_self, Bool.and_false, Bool.false_and]), B_w2.out⟩
def fits48 (xs : List Ty103) : Bool := decide (xs.length ≤ 2147483647) && xs.all fits102
set_option maxRecDepth 100000 in
set_option maxHeartbeats 4000000 in
theorem fits48_any (A : Option Addr) (c : Nat) (xs : List Ty103) (w : World) (h0 : Rows w (A) 2 (xs.map Ty103.cells)) (h1 : Ty103.oks xs w)  :
    Calls Try.prog 48 #[.slice (A) (xs.length) (c)] w fun e w' => e = .returned (.bool (fits48 xs)) ∧ Below w.heap.size w w' := by
  have hl_xs : xs.length ≤ 9223372036854775807 := by have := h0.1; simpa [strs, ptrs] using this
  have H0 := Lib.hid h0
  clear h0
  have H1 := Lib.hid h1
  clear h1
  suffices hQ : ∀ Q : Ending → World → Prop, Hid (∀ (e : Ending) (w' : World), (e = .returned (.bool (fits48 xs)) ∧ Below w.heap.size w w') → Post1 Q e w') → Calls Try.prog 48 #[.slice (A) (xs.length) (c)] w (fun e w' => Post1 Q e w') from hQ (fun e w' => e = .returned (.bool (fits48 xs)) ∧ Below w.heap.size w w') (fun _ _ h => by unfold Post1; exact h)
  intro Q HQ
  go_enter Try.func48, Try.ntmps48
  by_cases hc1 : (2147483647 : Int) < ↑xs.length
  · go_wp2_with fail
    go_ret
    exact HQ.out _ _ ⟨ret_bool (by have e : decide (xs.length ≤ 2147483647) = false := (by simp; omega); rw [fits48, e, Bool.false_and]), (Below.refl _ _)⟩
  · go_wp2_with fail
    go_loopw [10] (fun v10 wr => ∃ k : Nat, (k ≤ xs.length) ∧ v10 = .int .i64 (↑k) ∧ Hid ((xs.take k).all fits102 = true) ∧ Hid (Below w.heap.size w wr)) (fun v10 _ => xs.length - (intOf v10).toNat)
    case atStart => exact ⟨0, (by omega), rfl, rfl, (Below.refl _ _)⟩
    case round =>
      obtain ⟨k, hk, rfl, L0_all, L0_B⟩ := hrel
      by_cases hlt_k : k < xs.length
      · obtain ⟨ad_k, rfl⟩ := (H0.out.below L0_B.out).addr (by simp [strs, ptrs]; omega)
        have HE := Lib.hid (Ty103.oks.at H1.out hlt_k)
        cases hc2 : (fits102 xs[k])
        · go_wp2_with (first
            | ((with_reducible refine at_dst (N := 13) rfl ?_); refine ev_loadR rfl 103 _ rfl _ rfl [.string xs[k].fName, .slice xs[k].fVersions_a xs[k].fVersions.length xs[k].fVersions_c] ((H0.out.below L0_B.out).el (j := k) (row := xs[k].cells) (by simp [hlt_k])) _ Try.underlying103 rfl tsz103 ?_)
            | ((with_reducible refine at_dst (N := 4) rfl ?_); refine ev_alloc rfl 103 rfl _ _ tz103 ?_; intro g4 w1 hg hB hb
               have low_g4 := Nat.le_trans L0_B.out.size hg
               have B_w1 := Lib.hid (below_trans L0_B.out hb)
               have g4_w1 : Hid (Blk w1 g4 103 #[.string ⟨#[]⟩, .slice none 0 0]) := hB
               clear hB hb)
            | (refine ev_store rfl 103 _ _ rfl g4 _ _ rfl rfl 103 g4_w1.out tsz103 rfl rfl ?_; intro w2 hB hg hz
               have hx := GrX.grown (S := fun k => k = g4) hg rfl
               have B_w2 := Lib.hid (below_grx B_w1.out hx B_w1.out.size (fun k => (fun e => e ▸ low_g4)))
               clear hx
               have g4_w2 : Hid (Blk w2 g4 103 #[.string xs[k].fName, .slice xs[k].fVersions_a xs[k].fVersions.length xs[k].fVersions_c]) := hB
               clear hB hg hz)
            | ((with_reducible refine at_dst (N := 14) rfl ?_); refine ev_loadB rfl 103 _ rfl g4 rfl 103 _ g4_w2.out _ Try.underlying103 rfl tsz103 ?_)
            | (go_at_call 102; (with_reducible refine (fits102_any xs[k] _ (Ty103.ok.below HE.out B_w2.out)).mono ?_); rintro e w3 ⟨rfl, hb⟩; rw [hc2]
               have g4_w3 := Lib.hid (g4_w2.out.below hb)
               have B_w3 := Lib.hid (below_trans B_w2.out hb)
               clear hb))
          go_ret
          exact HQ.out _ _ ⟨ret_bool (by rw [fits48, all_at hlt_k hc2, Bool.and_false]), B_w3.out⟩
        · go_wp2_with (first
            | ((with_reducible refine at_dst (N := 13) rfl ?_); refine ev_loadR rfl 103 _ rfl _ rfl [.string xs[k].fName, .slice xs[k].fVersions_a xs[k].fVersions.length xs[k].fVersions_c] ((H0.out.below L0_B.out).el (j := k) (row := xs[k].cells) (by simp [hlt_k])) _ Try.underlying103 rfl tsz103 ?_)
            | ((with_reducible refine at_dst (N := 4) rfl ?_); refine ev_alloc rfl 103 rfl _ _ tz103 ?_; intro g4 w1 hg hB hb
               have low_g4 := Nat.le_trans L0_B.out.size hg
               have B_w1 := Lib.hid (below_trans L0_B.out hb)
               have g4_w1 : Hid (Blk w1 g4 103 #[.string ⟨#[]⟩, .slice none 0 0]) := hB
               clear hB hb)
            | (refine ev_store rfl 103 _ _ rfl g4 _ _ rfl rfl 103 g4_w1.out tsz103 rfl rfl ?_; intro w2 hB hg hz
               have hx := GrX.grown (S := fun k => k = g4) hg rfl
               have B_w2 := Lib.hid (below_grx B_w1.out hx B_w1.out.size (fun k => (fun e => e ▸ low_g4)))
               clear hx
               have g4_w2 : Hid (Blk w2 g4 103 #[.string xs[k].fName, .slice xs[k].fVersions_a xs[k].fVersions.length xs[k].fVersions_c]) := hB
               clear hB hg hz)
            | ((with_reducible refine at_dst (N := 14) rfl ?_); refine ev_loadB rfl 103 _ rfl g4 rfl 103 _ g4_w2.out _ Try.underlying103 rfl tsz103 ?_)
            | (go_at_call 102; (with_reducible refine (fits102_any xs[k] _ (Ty103.ok.below HE.out B_w2.out)).mono ?_); rintro e w3 ⟨rfl, hb⟩; rw [hc2]
               have g4_w3 := Lib.hid (g4_w2.out.below hb)
               have B_w3 := Lib.hid (below_trans B_w2.out hb)
               clear hb))
          refine ⟨⟨k + 1, (by omega), by go_num, by show _ = _; rw [all_take hlt_k, L0_all.out, hc2]; rfl, B_w3⟩, ?_⟩
          simp [intOf]; omega
      · obtain rfl : k = xs.length := by omega
        rw [List.take_length] at L0_all
        go_wp2_with fail
        go_ret
        exact HQ.out _ _ ⟨ret_bool (by have e : decide (xs.length ≤ 2147483647) = true := (by simp; omega); rw [fits48, e, L0_all.out]; rfl), L0_B.out⟩
def fits108 (x : Ty110) : Bool := decide (x.fOS.size ≤ 2147483647) && decide (x.fArch.size ≤ 2147483647) && decide (x.fCommand.size ≤ 2147483647) && (fits3 x.fArgs)
set_option maxRecDepth 100000 in
set_option maxHeartbeats 4000000 in
theorem fits108_any (x : Ty110) (w : World) (h0 : Ty110.ok x w)  :
    Calls Try.prog 108 #[.agg #[.string x.fOS, .string x.fArch, .string x.fCommand, .slice x.fArgs_a x.fArgs.length x.fArgs_c]] w fun e w' => e = .returned (.bool (fits108 x)) ∧ Below w.heap.size w w' := by
  have H0 := Lib.hid h0
  clear h0
  have H0_Args := Lib.hid (Ty110.ok_sArgs H0.out)
  suffices hQ : ∀ Q : Ending → World → Prop, Hid (∀ (e : Ending) (w' : World), (e = .returned (.bool (fits108 x)) ∧ Below w.heap.size w w') → Post1 Q e w') → Calls Try.prog 108 #[.agg #[.string x.fOS, .string x.fArch, .string x.fCommand, .slice x.fArgs_a x.fArgs.length x.fArgs_c]] w (fun e w' => Post1 Q e w') from hQ (fun e w' => e = .returned (.bool (fits108 x)) ∧ Below w.heap.size w w') (fun _ _ h => by unfold Post1; exact h)
  intro Q HQ
  go_enter Try.func108, Try.ntmps108
  by_cases hc1 : (2147483647 : Int) < ↑x.fOS.size
  · have P0 : Hid (decide (x.fOS.size ≤ 2147483647) = false) := by show _ = _; simp; omega
    go_wp2_with (first
      | ((with_reducible refine at_dst (N := 1) rfl ?_); refine ev_box rfl 110 _ rfl _ rfl ?_; intro g1 w1 hg hB hb
         have low_g1 := Nat.le_trans (Nat.le_refl _) hg
         have B_w1 := Lib.hid (below_trans (Below.refl _ _) hb)
         have g1_w1 : Hid (Blk w1 g1 110 #[.string x.fOS, .string x.fArch, .string x.fCommand, .slice x.fArgs_a x.fArgs.length x.fArgs_c]) := hB
         clear hB hb)
      | ((with_reducible refine at_dst (N := 4) rfl ?_); refine ev_ld rfl 9 _ rfl ⟨g1, 0, none⟩ rfl (.string x.fOS) (g1_w1.out.cell 0) _ Try.underlying9 rfl ?_))
    go_ret
    exact HQ.out _ _ ⟨ret_bool (by simp only [fits108, P0.out, Bool.and_self, Bool.and_false, Bool.false_and]), B_w1.out⟩
  · have P0 : Hid (decide (x.fOS.size ≤ 2147483647) = true) := by show _ = _; simp; omega
    by_cases hc2 : (2147483647 : Int) < ↑x.fArch.size
    · have P1 : Hid (decide (x.fArch.size ≤ 2147483647) = false) := by show _ = _; simp; omega
      go_wp2_with (first
        | ((with_reducible refine at_dst (N := 1) rfl ?_); refine ev_box rfl 110 _ rfl _ rfl ?_; intro g1 w1 hg hB hb
           have low_g1 := Nat.le_trans (Nat.le_refl _) hg
           have B_w1 := Lib.hid (below_trans (Below.refl _ _) hb)
           have g1_w1 : Hid (Blk w1 g1 110 #[.string x.fOS, .string x.fArch, .string x.fCommand, .slice x.fArgs_a x.fArgs.length x.fArgs_c]) := hB
           clear hB hb)
        | ((with_reducible refine at_dst (N := 4) rfl ?_); refine ev_ld rfl 9 _ rfl ⟨g1, 0, none⟩ rfl (.string x.fOS) (g1_w1.out.cell 0) _ Try.underlying9 rfl ?_)
        | ((with_reducible refine at_dst (N := 8) rfl ?_); refine ev_ld rfl 9 _ rfl ⟨g1, 1, none⟩ rfl (.string x.fArch) (g1_w1.out.cell 1) _ Try.underlying9 rfl ?_))
      go_ret
      exact HQ.out _ _ ⟨ret_bool (by simp only [fits108, P0.out, P1.out, Bool.and_self, Bool.and_false, Bool.false_and]), B_w1.out⟩
    · have P1 : Hid (decide (x.fArch.size ≤ 2147483647) = true) := by show _ = _; simp; omega
      by_cases hc3 : (2147483647 : Int) < ↑x.fCommand.size
      · have P2 : Hid (decide (x.fCommand.size ≤ 2147483647) = false) := by show _ = _; simp; omega
        go_wp2_with (first
          | ((with_reducible refine at_dst (N := 1) rfl ?_); refine ev_box rfl 110 _ rfl _ rfl ?_; intro g1 w1 hg hB hb
             have low_g1 := Nat.le_trans (Nat.le_refl _) hg
             have B_w1 := Lib.hid (below_trans (Below.refl _ _) hb)
             have g1_w1 : Hid (Blk w1 g1 110 #[.string x.fOS, .string x.fArch, .string x.fCommand, .slice x.fArgs_a x.fArgs.length x.fArgs_c]) := hB
             clear hB hb)
          | ((with_reducible refine at_dst (N := 4) rfl ?_); refine ev_ld rfl 9 _ rfl ⟨g1, 0, none⟩ rfl (.string x.fOS) (g1_w1.out.cell 0) _ Try.underlying9 rfl ?_)
          | ((with_reducible refine at_dst (N := 8) rfl ?_); refine ev_ld rfl 9 _ rfl ⟨g1, 1, none⟩ rfl (.string x.fArch) (g1_w1.out.cell 1) _ Try.underlying9 rfl ?_)
          | ((with_reducible refine at_dst (N := 12) rfl ?_); refine ev_ld rfl 9 _ rfl ⟨g1, 2, none⟩ rfl (.string x.fCommand) (g1_w1.out.cell 2) _ Try.underlying9 rfl ?_))
        go_ret
        exact HQ.out _ _ ⟨ret_bool (by simp only [fits108, P0.out, P1.out, P2.out, Bool.and_self, Bool.and_false, Bool.false_and]), B_w1.out⟩
      · have P2 : Hid (decide (x.fCommand.size ≤ 2147483647) = true) := by show _ = _; simp; omega
        cases hc4 : (fits3 x.fArgs)
        · have P3 := Lib.hid hc4
          go_wp2_with (first
            | ((with_reducible refine at_dst (N := 1) rfl ?_); refine ev_box rfl 110 _ rfl _ rfl ?_; intro g1 w1 hg hB hb
               have low_g1 := Nat.le_trans (Nat.le_refl _) hg
               have B_w1 := Lib.hid (below_trans (Below.refl _ _) hb)
               have g1_w1 : Hid (Blk w1 g1 110 #[.string x.fOS, .string x.fArch, .string x.fCommand, .slice x.fArgs_a x.fArgs.length x.fArgs_c]) := hB
               clear hB hb)
            | ((with_reducible refine at_dst (N := 4) rfl ?_); refine ev_ld rfl 9 _ rfl ⟨g1, 0, none⟩ rfl (.string x.fOS) (g1_w1.out.cell 0) _ Try.underlying9 rfl ?_)
            | ((with_reducible refine at_dst (N := 8) rfl ?_); refine ev_ld rfl 9 _ rfl ⟨g1, 1, none⟩ rfl (.string x.fArch) (g1_w1.out.cell 1) _ Try.underlying9 rfl ?_)
            | ((with_reducible refine at_dst (N := 12) rfl ?_); refine ev_ld rfl 9 _ rfl ⟨g1, 2, none⟩ rfl (.string x.fCommand) (g1_w1.out.cell 2) _ Try.underlying9 rfl ?_)
            | ((with_reducible refine at_dst (N := 16) rfl ?_); refine ev_ld rfl 22 _ rfl ⟨g1, 3, none⟩ rfl (.slice x.fArgs_a x.fArgs.length x.fArgs_c) (g1_w1.out.cell 3) _ Try.underlying22 rfl ?_)
            | (go_at_call 27; (with_reducible refine (zzFits3_any x.fArgs_a x.fArgs_c x.fArgs _ (H0_Args.out.below B_w1.out)).mono ?_); rintro e wq ⟨rfl, rfl⟩; rw [hc4]))
          go_ret
          exact HQ.out _ _ ⟨ret_bool (by simp only [fits108, P0.out, P1.out, P2.out, P3.out, Bool.and_self, Bool.and_false, Bool.false_and]), B_w1.out⟩
        · have P3 := Lib.hid hc4
          go_wp2_with (first
            | ((with_reducible refine at_dst (N := 1) rfl ?_); refine ev_box rfl 110 _ rfl _ rfl ?_; intro g1 w1 hg hB hb
               have low_g1 := Nat.le_trans (Nat.le_refl _) hg
               have B_w1 := Lib.hid (below_trans (Below.refl _ _) hb)
               have g1_w1 : Hid (Blk w1 g1 110 #[.string x.fOS, .string x.fArch, .string x.fCommand, .slice x.fArgs_a x.fArgs.length x.fArgs_c]) := hB
               clear hB hb)
            | ((with_reducible refine at_dst (N := 4) rfl ?_); refine ev_ld rfl 9 _ rfl ⟨g1, 0, none⟩ rfl (.string x.fOS) (g1_w1.out.cell 0) _ Try.underlying9 rfl ?_)
            | ((with_reducible refine at_dst (N := 8) rfl ?_); refine ev_ld rfl 9 _ rfl ⟨g1, 1, none⟩ rfl (.string x.fArch) (g1_w1.out.cell 1) _ Try.underlying9 rfl ?_)
            | ((with_reducible refine at_dst (N := 12) rfl ?_); refine ev_ld rfl 9 _ rfl ⟨g1, 2, none⟩ rfl (.string x.fCommand) (g1_w1.out.cell 2) _ Try.underlying9 rfl ?_)
            | ((with_reducible refine at_dst (N := 16) rfl ?_); refine ev_ld rfl 22 _ rfl ⟨g1, 3, none⟩ rfl (.slice x.fArgs_a x.fArgs.length x.fArgs_c) (g1_w1.out.cell 3) _ Try.underlying22 rfl ?_)
            | (go_at_call 27; (with_reducible refine (zzFits3_any x.fArgs_a x.fArgs_c x.fArgs _ (H0_Args.out.below B_w1.out)).mono ?_); rintro e wq ⟨rfl, rfl⟩; rw [hc4]))
          go_ret
          exact HQ.out _ _ ⟨ret_bool (by simp only [fits108, P0.out, P1.out, P2.out, P3.out, Bool.and_self, Bool.and_false, Bool.false_and]), B_w1.out⟩
def fits54 (xs : List Ty110) : Bool := decide (xs.length ≤ 2147483647) && xs.all fits108
set_option maxRecDepth 100000 in
set_option maxHeartbeats 4000000 in
theorem fits54_any (A : Option Addr) (c : Nat) (xs : List Ty110) (w : World) (h0 : Rows w (A) 4 (xs.map Ty110.cells)) (h1 : Ty110.oks xs w)  :
    Calls Try.prog 54 #[.slice (A) (xs.length) (c)] w fun e w' => e = .returned (.bool (fits54 xs)) ∧ Below w.heap.size w w' := by
  have hl_xs : xs.length ≤ 9223372036854775807 := by have := h0.1; simpa [strs, ptrs] using this
  have H0 := Lib.hid h0
  clear h0
  have H1 := Lib.hid h1
  clear h1
  suffices hQ : ∀ Q : Ending → World → Prop, Hid (∀ (e : Ending) (w' : World), (e = .returned (.bool (fits54 xs)) ∧ Below w.heap.size w w') → Post1 Q e w') → Calls Try.prog 54 #[.slice (A) (xs.length) (c)] w (fun e w' => Post1 Q e w') from hQ (fun e w' => e = .returned (.bool (fits54 xs)) ∧ Below w.heap.size w w') (fun _ _ h => by unfold Post1; exact h)
  intro Q HQ
  go_enter Try.func54, Try.ntmps54
  by_cases hc1 : (2147483647 : Int) < ↑xs.length
  · go_wp2_with fail
    go_ret
    exact HQ.out _ _ ⟨ret_bool (by have e : decide (xs.length ≤ 2147483647) = false := (by simp; omega); rw [fits54, e, Bool.false_and]), (Below.refl _ _)⟩
  · go_wp2_with fail
    go_loopw [10] (fun v10 wr => ∃ k : Nat, (k ≤ xs.length) ∧ v10 = .int .i64 (↑k) ∧ Hid ((xs.take k).all fits108 = true) ∧ Hid (Below w.heap.size w wr)) (fun v10 _ => xs.length - (intOf v10).toNat)
    case atStart => exact ⟨0, (by omega), rfl, rfl, (Below.refl _ _)⟩
    case round =>
      obtain ⟨k, hk, rfl, L0_all, L0_B⟩ := hrel
      by_cases hlt_k : k < xs.length
      · obtain ⟨ad_k, rfl⟩ := (H0.out.below L0_B.out).addr (by simp [strs, ptrs]; omega)
        have HE := Lib.hid (Ty110.oks.at H1.out hlt_k)
        cases hc2 : (fits108 xs[k])
        · go_wp2_with (first
            | ((with_reducible refine at_dst (N := 13) rfl ?_); refine ev_loadR rfl 110 _ rfl _ rfl [.string xs[k].fOS, .string xs[k].fArch, .string xs[k].fCommand, .slice xs[k].fArgs_a xs[k].fArgs.length xs[k].fArgs_c] ((H0.out.below L0_B.out).el (j := k) (row := xs[k].cells) (by simp [hlt_k])) _ Try.underlying110 rfl tsz110 ?_)
            | ((with_reducible refine at_dst (N := 4) rfl ?_); refine ev_alloc rfl 110 rfl _ _ tz110 ?_; intro g4 w1 hg hB hb
               have low_g4 := Nat.le_trans L0_B.out.size hg
               have B_w1 := Lib.hid (below_trans L0_B.out hb)
               have g4_w1 : Hid (Blk w1 g4 110 #[.string ⟨#[]⟩, .string ⟨#[]⟩, .string ⟨#[]⟩, .slice none 0 0]) := hB
               clear hB hb)
            | (refine ev_store rfl 110 _ _ rfl g4 _ _ rfl rfl 110 g4_w1.out tsz110 rfl rfl ?_; intro w2 hB hg hz
               have hx := GrX.grown (S := fun k => k = g4) hg rfl
               have B_w2 := Lib.hid (below_grx B_w1.out hx B_w1.out.size (fun k => (fun e => e ▸ low_g4)))
               clear hx
               have g4_w2 : Hid (Blk w2 g4 110 #[.string xs[k].fOS, .string xs[k].fArch, .string xs[k].fCommand, .slice xs[k].fArgs_a xs[k].fArgs.length xs[k].fArgs_c]) := hB
               clear hB hg hz)
            | ((with_reducible refine at_dst (N := 14) rfl ?_); refine ev_loadB rfl 110 _ rfl g4 rfl 110 _ g4_w2.out _ Try.underlying110 rfl tsz110 ?_)
            | (go_at_call 108; (with_reducible refine (fits108_any xs[k] _ (Ty110.ok.below HE.out B_w2.out)).mono ?_); rintro e w3 ⟨rfl, hb⟩; rw [hc2]
               have g4_w3 := Lib.hid (g4_w2.out.below hb)
               have B_w3 := Lib.hid (below_trans B_w2.out hb)
               clear hb))
          go_ret
          exact HQ.out _ _ ⟨ret_bool (by rw [fits54, all_at hlt_k hc2, Bool.and_false]), B_w3.out⟩
        · go_wp2_with (first
            | ((with_reducible refine at_dst (N := 13) rfl ?_); refine ev_loadR rfl 110 _ rfl _ rfl [.string xs[k].fOS, .string xs[k].fArch, .string xs[k].fCommand, .slice xs[k].fArgs_a xs[k].fArgs.length xs[k].fArgs_c] ((H0.out.below L0_B.out).el (j := k) (row := xs[k].cells) (by simp [hlt_k])) _ Try.underlying110 rfl tsz110 ?_)
            | ((with_reducible refine at_dst (N := 4) rfl ?_); refine ev_alloc rfl 110 rfl _ _ tz110 ?_; intro g4 w1 hg hB hb
               have low_g4 := Nat.le_trans L0_B.out.size hg
               have B_w1 := Lib.hid (below_trans L0_B.out hb)
               have g4_w1 : Hid (Blk w1 g4 110 #[.string ⟨#[]⟩, .string ⟨#[]⟩, .string ⟨#[]⟩, .slice none 0 0]) := hB
               clear hB hb)
            | (refine ev_store rfl 110 _ _ rfl g4 _ _ rfl rfl 110 g4_w1.out tsz110 rfl rfl ?_; intro w2 hB hg hz
               have hx := GrX.grown (S := fun k => k = g4) hg rfl
               have B_w2 := Lib.hid (below_grx B_w1.out hx B_w1.out.size (fun k => (fun e => e ▸ low_g4)))
               clear hx
               have g4_w2 : Hid (Blk w2 g4 110 #[.string xs[k].fOS, .string xs[k].fArch, .string xs[k].fCommand, .slice xs[k].fArgs_a xs[k].fArgs.length xs[k].fArgs_c]) := hB
               clear hB hg hz)
            | ((with_reducible refine at_dst (N := 14) rfl ?_); refine ev_loadB rfl 110 _ rfl g4 rfl 110 _ g4_w2.out _ Try.underlying110 rfl tsz110 ?_)
            | (go_at_call 108; (with_reducible refine (fits108_any xs[k] _ (Ty110.ok.below HE.out B_w2.out)).mono ?_); rintro e w3 ⟨rfl, hb⟩; rw [hc2]
               have g4_w3 := Lib.hid (g4_w2.out.below hb)
               have B_w3 := Lib.hid (below_trans B_w2.out hb)
               clear hb))
          refine ⟨⟨k + 1, (by omega), by go_num, by show _ = _; rw [all_take hlt_k, L0_all.out, hc2]; rfl, B_w3⟩, ?_⟩
          simp [intOf]; omega
      · obtain rfl : k = xs.length := by omega
        rw [List.take_length] at L0_all
        go_wp2_with fail
        go_ret
        exact HQ.out _ _ ⟨ret_bool (by have e : decide (xs.length ≤ 2147483647) = true := (by simp; omega); rw [fits54, e, L0_all.out]; rfl), L0_B.out⟩
end Go.Proofs.Ytkjcedlgljeoiaa
