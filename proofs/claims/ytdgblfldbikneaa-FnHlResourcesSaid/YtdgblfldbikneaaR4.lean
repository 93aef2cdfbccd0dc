/- FnHlResources: the walk. -/
import Derived.Test.YtdgblfldbikneaaR3
namespace Go.Proofs.Ytdgblfldbikneaa
open Go.RowKit Go.Lib
set_option linter.unusedVariables false
set_option linter.unusedSimpArgs false
set_option maxRecDepth 100000 in
set_option maxHeartbeats 16000000 in
theorem fnHlResources_K (A : Option Addr) (c : Nat) (xs : List Ty92) (B : Option Addr) (d : Nat) (ys : List Ty92) (x : Ty92) (w : World) (h0 : Rows w (A) 4 (xs.map Ty92.cells)) (h1 : Rows w (B) 4 (ys.map Ty92.cells)) (okx : ∀ y ∈ xs, y.ok w) (oky : ∀ y ∈ ys, y.ok w) (ok1 : x.ok w) :
    Calls Try.prog 14 #[.slice (A) (xs.length) (c), .slice (B) (ys.length) (d), .agg #[.string x.fName, .string x.fNamespace, .string x.fKind, .string x.fGroup]] w fun e w' => e = .returned (.bool true) ∧ Below w.heap.size w w' := by
  have hl_xs : xs.length ≤ 9223372036854775807 := by have := h0.1; simpa [strs, ptrs] using this
  have hl_ys : ys.length ≤ 9223372036854775807 := by have := h1.1; simpa [strs, ptrs] using this
  have H0 := Lib.hid h0
  clear h0
  have H1 := Lib.hid h1
  clear h1
  have okx2 : ∀ W, ∀ y ∈ xs, y.ok W := fun W => okx
  have oky2 : ∀ W, ∀ y ∈ ys, y.ok W := fun W => oky
  have ok12 : ∀ W, x.ok W := fun W => ok1
  clear okx oky ok1
  have hzx : ∀ y : Ty92, fits54 y = true → y.fName.size ≤ 2147483647 ∧ y.fNamespace.size ≤ 2147483647 ∧ y.fKind.size ≤ 2147483647 ∧ y.fGroup.size ≤ 2147483647 := fun y h => by
    simp only [fits54, Bool.and_eq_true, decide_eq_true_eq] at h
    exact ⟨h.1.1.1, h.1.1.2, h.1.2, h.2⟩
  suffices hQ : ∀ Q : Ending → World → Prop, Hid (∀ (e : Ending) (w' : World), (e = .returned (.bool true) ∧ Below w.heap.size w w') → Post1 Q e w') → Calls Try.prog 14 #[.slice (A) (xs.length) (c), .slice (B) (ys.length) (d), .agg #[.string x.fName, .string x.fNamespace, .string x.fKind, .string x.fGroup]] w (fun e w' => Post1 Q e w') from hQ (fun e w' => e = .returned (.bool true) ∧ Below w.heap.size w w') (fun _ _ h => by unfold Post1; exact h)
  intro Q HQ
  go_enter Try.func14, Try.ntmps14
  cases hc1 : (fits53 xs)
  · go_wp2_with (first
      | ((with_reducible refine at_dst (N := 5) rfl ?_); refine ev_box rfl 92 _ rfl _ rfl ?_; intro g5 w1 hg hB hb
         have low_g5 := Nat.le_trans (Nat.le_refl _) hg
         have B_w1 := Lib.hid (below_trans (Below.refl _ _) hb)
         have g5_w1 : Hid (Blk w1 g5 92 #[.string x.fName, .string x.fNamespace, .string x.fKind, .string x.fGroup]) := hB
         clear hB hb)
      | (go_at_call 53; (with_reducible refine (fits53_any A c xs _ (H0.out.below B_w1.out) (okx2 _)).mono ?_); rintro e w2 ⟨rfl, hb⟩; rw [hc1]
         have g5_w2 := Lib.hid (g5_w1.out.below hb)
         have B_w2 := Lib.hid (below_trans B_w1.out hb)
         clear hb))
    go_ret
    exact HQ.out _ _ ⟨rfl, B_w2.out⟩
  · cases hc2 : (fits53 ys)
    · go_wp2_with (first
        | ((with_reducible refine at_dst (N := 5) rfl ?_); refine ev_box rfl 92 _ rfl _ rfl ?_; intro g5 w1 hg hB hb
           have low_g5 := Nat.le_trans (Nat.le_refl _) hg
           have B_w1 := Lib.hid (below_trans (Below.refl _ _) hb)
           have g5_w1 : Hid (Blk w1 g5 92 #[.string x.fName, .string x.fNamespace, .string x.fKind, .string x.fGroup]) := hB
           clear hB hb)
        | (go_at_call 53; (with_reducible refine (fits53_any A c xs _ (H0.out.below B_w1.out) (okx2 _)).mono ?_); rintro e w2 ⟨rfl, hb⟩; rw [hc1]
           have g5_w2 := Lib.hid (g5_w1.out.below hb)
           have B_w2 := Lib.hid (below_trans B_w1.out hb)
           clear hb)
        | (go_at_call 53; (with_reducible refine (fits53_any B d ys _ (H1.out.below B_w2.out) (oky2 _)).mono ?_); rintro e w3 ⟨rfl, hb⟩; rw [hc2]
           have g5_w3 := Lib.hid (g5_w2.out.below hb)
           have B_w3 := Lib.hid (below_trans B_w2.out hb)
           clear hb))
      go_ret
      exact HQ.out _ _ ⟨rfl, B_w3.out⟩
    · cases hc3 : (fits54 x)
      · go_wp2_with (first
          | ((with_reducible refine at_dst (N := 5) rfl ?_); refine ev_box rfl 92 _ rfl _ rfl ?_; intro g5 w1 hg hB hb
             have low_g5 := Nat.le_trans (Nat.le_refl _) hg
             have B_w1 := Lib.hid (below_trans (Below.refl _ _) hb)
             have g5_w1 : Hid (Blk w1 g5 92 #[.string x.fName, .string x.fNamespace, .string x.fKind, .string x.fGroup]) := hB
             clear hB hb)
          | (go_at_call 53; (with_reducible refine (fits53_any A c xs _ (H0.out.below B_w1.out) (okx2 _)).mono ?_); rintro e w2 ⟨rfl, hb⟩; rw [hc1]
             have g5_w2 := Lib.hid (g5_w1.out.below hb)
             have B_w2 := Lib.hid (below_trans B_w1.out hb)
             clear hb)
          | (go_at_call 53; (with_reducible refine (fits53_any B d ys _ (H1.out.below B_w2.out) (oky2 _)).mono ?_); rintro e w3 ⟨rfl, hb⟩; rw [hc2]
             have g5_w3 := Lib.hid (g5_w2.out.below hb)
             have B_w3 := Lib.hid (below_trans B_w2.out hb)
             clear hb)
          | ((with_reducible refine at_dst (N := 28) rfl ?_); refine wl_guard rfl ?_; refine ev_loadB rfl 92 _ rfl g5 rfl 92 _ g5_w3.out _ Try.underlying92 rfl tsz92 ?_)
          | (go_at_call 54; (with_reducible refine (fits54_any x _ (ok12 _)).mono ?_); rintro e w4 ⟨rfl, hb⟩; rw [hc3]
             have g5_w4 := Lib.hid (g5_w3.out.below hb)
             have B_w4 := Lib.hid (below_trans B_w3.out hb)
             clear hb))
        go_ret
        exact HQ.out _ _ ⟨rfl, B_w4.out⟩
      · obtain ⟨zs, hzs⟩ : ∃ zs, zs = x :: xs ++ ys := ⟨_, rfl⟩
        have hzl : zs.length = 1 + xs.length + ys.length := by rw [hzs]; simp; omega
        have HZS := Lib.hid hzs
        have HZ : Hid (∀ y ∈ zs, y.fName.size ≤ 2147483647 ∧ y.fNamespace.size ≤ 2147483647 ∧ y.fKind.size ≤ 2147483647 ∧ y.fGroup.size ≤ 2147483647) := fun y hy => by
          rw [hzs] at hy
          simp only [List.cons_append, List.mem_cons, List.mem_append] at hy
          rcases hy with rfl | hy | hy
          · exact hzx _ hc3
          · exact hzx _ (List.all_eq_true.1 (by have h0 := hc1; rw [fits53, Bool.and_eq_true] at h0; exact h0.2) y hy)
          · exact hzx _ (List.all_eq_true.1 (by have h0 := hc2; rw [fits53, Bool.and_eq_true] at h0; exact h0.2) y hy)
        clear hzx hzs
        by_cases hc4 : (20 : Int) < ↑xs.length
        · go_wp2_with (first
            | ((with_reducible refine at_dst (N := 5) rfl ?_); refine ev_box rfl 92 _ rfl _ rfl ?_; intro g5 w1 hg hB hb
               have low_g5 := Nat.le_trans (Nat.le_refl _) hg
               have B_w1 := Lib.hid (below_trans (Below.refl _ _) hb)
               have g5_w1 : Hid (Blk w1 g5 92 #[.string x.fName, .string x.fNamespace, .string x.fKind, .string x.fGroup]) := hB
               clear hB hb)
            | (go_at_call 53; (with_reducible refine (fits53_any A c xs _ (H0.out.below B_w1.out) (okx2 _)).mono ?_); rintro e w2 ⟨rfl, hb⟩; rw [hc1]
               have g5_w2 := Lib.hid (g5_w1.out.below hb)
               have B_w2 := Lib.hid (below_trans B_w1.out hb)
               clear hb)
            | (go_at_call 53; (with_reducible refine (fits53_any B d ys _ (H1.out.below B_w2.out) (oky2 _)).mono ?_); rintro e w3 ⟨rfl, hb⟩; rw [hc2]
               have g5_w3 := Lib.hid (g5_w2.out.below hb)
               have B_w3 := Lib.hid (below_trans B_w2.out hb)
               clear hb)
            | ((with_reducible refine at_dst (N := 28) rfl ?_); refine wl_guard rfl ?_; refine ev_loadB rfl 92 _ rfl g5 rfl 92 _ g5_w3.out _ Try.underlying92 rfl tsz92 ?_)
            | (go_at_call 54; (with_reducible refine (fits54_any x _ (ok12 _)).mono ?_); rintro e w4 ⟨rfl, hb⟩; rw [hc3]
               have g5_w4 := Lib.hid (g5_w3.out.below hb)
               have B_w4 := Lib.hid (below_trans B_w3.out hb)
               clear hb))
          go_ret
          exact HQ.out _ _ ⟨rfl, B_w4.out⟩
        · by_cases hc5 : (20 : Int) < ↑ys.length
          · go_wp2_with (first
              | ((with_reducible refine at_dst (N := 5) rfl ?_); refine ev_box rfl 92 _ rfl _ rfl ?_; intro g5 w1 hg hB hb
                 have low_g5 := Nat.le_trans (Nat.le_refl _) hg
                 have B_w1 := Lib.hid (below_trans (Below.refl _ _) hb)
                 have g5_w1 : Hid (Blk w1 g5 92 #[.string x.fName, .string x.fNamespace, .string x.fKind, .string x.fGroup]) := hB
                 clear hB hb)
              | (go_at_call 53; (with_reducible refine (fits53_any A c xs _ (H0.out.below B_w1.out) (okx2 _)).mono ?_); rintro e w2 ⟨rfl, hb⟩; rw [hc1]
                 have g5_w2 := Lib.hid (g5_w1.out.below hb)
                 have B_w2 := Lib.hid (below_trans B_w1.out hb)
                 clear hb)
              | (go_at_call 53; (with_reducible refine (fits53_any B d ys _ (H1.out.below B_w2.out) (oky2 _)).mono ?_); rintro e w3 ⟨rfl, hb⟩; rw [hc2]
                 have g5_w3 := Lib.hid (g5_w2.out.below hb)
                 have B_w3 := Lib.hid (below_trans B_w2.out hb)
                 clear hb)
              | ((with_reducible refine at_dst (N := 28) rfl ?_); refine wl_guard rfl ?_; refine ev_loadB rfl 92 _ rfl g5 rfl 92 _ g5_w3.out _ Try.underlying92 rfl tsz92 ?_)
              | (go_at_call 54; (with_reducible refine (fits54_any x _ (ok12 _)).mono ?_); rintro e w4 ⟨rfl, hb⟩; rw [hc3]
                 have g5_w4 := Lib.hid (g5_w3.out.below hb)
                 have B_w4 := Lib.hid (below_trans B_w3.out hb)
                 clear hb))
            go_ret
            exact HQ.out _ _ ⟨rfl, B_w4.out⟩
          · go_wp2_with (first
              | ((with_reducible refine at_dst (N := 5) rfl ?_); refine ev_box rfl 92 _ rfl _ rfl ?_; intro g5 w1 hg hB hb
                 have low_g5 := Nat.le_trans (Nat.le_refl _) hg
                 have B_w1 := Lib.hid (below_trans (Below.refl _ _) hb)
                 have g5_w1 : Hid (Blk w1 g5 92 #[.string x.fName, .string x.fNamespace, .string x.fKind, .string x.fGroup]) := hB
                 clear hB hb)
              | (go_at_call 53; (with_reducible refine (fits53_any A c xs _ (H0.out.below B_w1.out) (okx2 _)).mono ?_); rintro e w2 ⟨rfl, hb⟩; rw [hc1]
                 have g5_w2 := Lib.hid (g5_w1.out.below hb)
                 have B_w2 := Lib.hid (below_trans B_w1.out hb)
                 clear hb)
              | (go_at_call 53; (with_reducible refine (fits53_any B d ys _ (H1.out.below B_w2.out) (oky2 _)).mono ?_); rintro e w3 ⟨rfl, hb⟩; rw [hc2]
                 have g5_w3 := Lib.hid (g5_w2.out.below hb)
                 have B_w3 := Lib.hid (below_trans B_w2.out hb)
                 clear hb)
              | ((with_reducible refine at_dst (N := 28) rfl ?_); refine wl_guard rfl ?_; refine ev_loadB rfl 92 _ rfl g5 rfl 92 _ g5_w3.out _ Try.underlying92 rfl tsz92 ?_)
              | (go_at_call 54; (with_reducible refine (fits54_any x _ (ok12 _)).mono ?_); rintro e w4 ⟨rfl, hb⟩; rw [hc3]
                 have g5_w4 := Lib.hid (g5_w3.out.below hb)
                 have B_w4 := Lib.hid (below_trans B_w3.out hb)
                 clear hb)
              | ((with_reducible refine at_dst (N := 40) rfl ?_); refine ev_loadB rfl 92 _ rfl g5 rfl 92 _ g5_w4.out _ Try.underlying92 rfl tsz92 ?_)
              | ((with_reducible refine at_dst (N := 41) rfl ?_); refine ev_bs rfl 90 92 1 _ rfl #[.string x.fName, .string x.fNamespace, .string x.fKind, .string x.fGroup] (by go_simp) ?_; intro g41 w5 hg hB hb
                 have n_g5_g41 : g5 ≠ g41 := by have := g5_w4.out.lt; omega
                 have low_g41 := Nat.le_trans B_w4.out.size hg
                 have g5_w5 := Lib.hid (g5_w4.out.below hb)
                 have B_w5 := Lib.hid (below_trans B_w4.out hb)
                 have g41_w5 : Hid (Blk w5 g41 92 #[.string x.fName, .string x.fNamespace, .string x.fKind, .string x.fGroup]) := hB
                 clear hB hb)
              | ((with_reducible refine at_dst (N := 43) rfl ?_); refine ev_app rfl _ _ 90 92 rfl Try.underlying90 _ 4 _ tin92 rfl (by omega) w.heap.size _ _ _ rfl (Lib.hid (own_of_blk (sz := 4) (n := 1) g41_w5.out low_g41 rfl (by omega))).out _ xs.length _ (flatC Ty92.cells xs) rfl (Rows.flat (H0.out.below B_w5.out) (by decide) Ty92.len (by omega)) (flatC_len Ty92.len) (flatC_one Ty92.one) (by omega) (by omega) B_w5.out.size ?_; intro v43_w6 w6 ho1 hg1 hat1
                 have nr_obg41_g5 : (Value.slice (some ⟨g41, 0, none⟩) 1 1).ownBlock ≠ some g5 := by intro e; simp [Value.ownBlock] at e; have := n_g5_g41; omega
                 have hx := GrX.row (S := fun k => (.slice (some ⟨g41, 0, none⟩) 1 1 : Value).ownBlock = some k) hg1 (fun g h => h)
                 have g5_w6 := Lib.hid (g5_w5.out.grx hx nr_obg41_g5)
                 have B_w6 := Lib.hid (below_grx B_w5.out hx B_w5.out.size (fun k => (fun e => own_ge (Lib.hid (own_of_blk (sz := 4) (n := 1) g41_w5.out low_g41 rfl (by omega))).out k e)))
                 obtain ⟨A43_w6, c43_w6, rfl, _⟩ := own_form ho1
                 have obg41_w6 := Lib.hid ho1
                 have nr_obg41_g5 := nr_app nr_obg41_g5 hat1 g5_w5.out.lt
                 clear ho1 hg1 hat1 hx)
              | ((with_reducible refine at_dst (N := 45) rfl ?_); refine ev_app rfl _ _ 90 92 rfl Try.underlying90 _ 4 _ tin92 rfl (by omega) w.heap.size _ _ _ rfl obg41_w6.out _ ys.length _ (flatC Ty92.cells ys) rfl (Rows.flat (H1.out.below B_w6.out) (by decide) Ty92.len (by omega)) (flatC_len Ty92.len) (flatC_one Ty92.one) (by omega) (by omega) B_w6.out.size ?_; intro v45_w7 w7 ho1 hg1 hat1
                 have hx := GrX.row (S := fun k => (.slice A43_w6 (1 + xs.length) c43_w6 : Value).ownBlock = some k) hg1 (fun g h => h)
                 have g5_w7 := Lib.hid (g5_w6.out.grx hx nr_obg41_g5)
                 have B_w7 := Lib.hid (below_grx B_w6.out hx B_w6.out.size (fun k => (fun e => own_ge obg41_w6.out k e)))
                 obtain ⟨A45_w7, c45_w7, rfl, _⟩ := own_form ho1
                 have obg41_w7 := Lib.hid ho1
                 have nr_obg41_g5 := nr_app nr_obg41_g5 hat1 g5_w6.out.lt
                 clear ho1 hg1 hat1 hx))
            have HZF : Hid (flatC Ty92.cells zs = (([Value.string x.fName, .string x.fNamespace, .string x.fKind, .string x.fGroup]) ++ (flatC Ty92.cells xs)) ++ (flatC Ty92.cells ys)) := by show _ = _; rw [HZS.out]; simp [flatC, Ty92.cells]
            go_loopw [47] (fun v47 wr => ∃ k : Nat, (k ≤ 1 + xs.length + ys.length) ∧ v47 = .int .i64 (↑k) ∧ Hid (World.ownsRow wr w.heap.size 92 4 (.slice A45_w7 (1 + xs.length + ys.length) c45_w7) (1 + xs.length + ys.length) (flatC Ty92.cells zs)) ∧ Hid (Blk wr g5 92 #[.string x.fName, .string x.fNamespace, .string x.fKind, .string x.fGroup]) ∧ Hid (Below w.heap.size w wr)) (fun v47 _ => (1 + xs.length + ys.length) - (intOf v47).toNat)
            case atStart => exact ⟨0, (by omega), rfl, (by show World.ownsRow _ _ _ _ _ _ _; have h0 := obg41_w7.out; have e : flatC Ty92.cells zs = _ := HZF.out; rw [e]; exact h0), g5_w7, B_w7⟩
            case round =>
              obtain ⟨k, hk, rfl, L0_zs, L0_g5, L0_B⟩ := hrel
              by_cases hlt_k : k < (1 + xs.length + ys.length)
              · have hlz : k < zs.length := by omega
                obtain ⟨hz1, hz2, hz3, hz4⟩ := HZ.out zs[k] (List.getElem_mem hlz)
                obtain ⟨ad_k, rfl⟩ := (own_rowsT1 L0_zs.out (by first | rfl | (simp; done) | omega | (simp; omega)) (by decide) (fun x => rfl) (by omega)).addr (by simp [strs, ptrs]; omega)
                by_cases hc6 : (100 : Int) < (((↑zs[k].fName.size + ↑zs[k].fNamespace.size) + ↑zs[k].fKind.size) + ↑zs[k].fGroup.size)
                · go_wp2_with (first
                    | ((with_reducible refine at_dst (N := 50) rfl ?_); refine ev_loadR rfl 92 _ rfl _ rfl [.string zs[k].fName, .string zs[k].fNamespace, .string zs[k].fKind, .string zs[k].fGroup] ((own_rowsT1 L0_zs.out (by first | rfl | (simp; done) | omega | (simp; omega)) (by decide) (fun x => rfl) (by omega)).el (j := k) (row := zs[k].cells) (by simp [hlz])) _ Try.underlying92 rfl tsz92 ?_)
                    | ((with_reducible refine at_dst (N := 9) rfl ?_); refine ev_alloc rfl 92 rfl _ _ tz92 ?_; intro g9 w8 hg hB hb
                       have nr_zs_g9 := own_fresh' L0_zs.out hg
                       have n_g5_g9 : g5 ≠ g9 := by have := L0_g5.out.lt; omega
                       have low_g9 := Nat.le_trans L0_B.out.size hg
                       have zs_w8 := Lib.hid (own_below L0_zs.out hb)
                       have g5_w8 := Lib.hid (L0_g5.out.below hb)
                       have B_w8 := Lib.hid (below_trans L0_B.out hb)
                       have g9_w8 : Hid (Blk w8 g9 92 #[.string ⟨#[]⟩, .string ⟨#[]⟩, .string ⟨#[]⟩, .string ⟨#[]⟩]) := hB
                       clear hB hb)
                    | (refine ev_store rfl 92 _ _ rfl g9 _ _ rfl rfl 92 g9_w8.out tsz92 rfl rfl ?_; intro w9 hB hg hz
                       have hx := GrX.grown (S := fun k => k = g9) hg rfl
                       have zs_w9 := Lib.hid (own_grx zs_w8.out hx (fun k hk => (fun e => nr_zs_g9 (e ▸ hk))))
                       have g5_w9 := Lib.hid (g5_w8.out.grx hx (fun e => n_g5_g9 e))
                       have B_w9 := Lib.hid (below_grx B_w8.out hx B_w8.out.size (fun k => (fun e => e ▸ low_g9)))
                       clear hx
                       have g9_w9 : Hid (Blk w9 g9 92 #[.string zs[k].fName, .string zs[k].fNamespace, .string zs[k].fKind, .string zs[k].fGroup]) := hB
                       clear hB hg hz)
                    | ((with_reducible refine at_dst (N := 52) rfl ?_); refine ev_ld rfl 9 _ rfl ⟨g9, 0, none⟩ rfl (.string zs[k].fName) (g9_w9.out.cell 0) _ Try.underlying9 rfl ?_)
                    | ((with_reducible refine at_dst (N := 55) rfl ?_); refine ev_ld rfl 9 _ rfl ⟨g9, 1, none⟩ rfl (.string zs[k].fNamespace) (g9_w9.out.cell 1) _ Try.underlying9 rfl ?_)
                    | ((with_reducible refine at_dst (N := 59) rfl ?_); refine ev_ld rfl 9 _ rfl ⟨g9, 2, none⟩ rfl (.string zs[k].fKind) (g9_w9.out.cell 2) _ Try.underlying9 rfl ?_)
                    | ((with_reducible refine at_dst (N := 63) rfl ?_); refine ev_ld rfl 9 _ rfl ⟨g9, 3, none⟩ rfl (.string zs[k].fGroup) (g9_w9.out.cell 3) _ Try.underlying9 rfl ?_))
                  go_ret
                  exact HQ.out _ _ ⟨rfl, B_w9.out⟩
                · go_wp2_with (first
                    | ((with_reducible refine at_dst (N := 50) rfl ?_); refine ev_loadR rfl 92 _ rfl _ rfl [.string zs[k].fName, .string zs[k].fNamespace, .string zs[k].fKind, .string zs[k].fGroup] ((own_rowsT1 L0_zs.out (by first | rfl | (simp; done) | omega | (simp; omega)) (by decide) (fun x => rfl) (by omega)).el (j := k) (row := zs[k].cells) (by simp [hlz])) _ Try.underlying92 rfl tsz92 ?_)
                    | ((with_reducible refine at_dst (N := 9) rfl ?_); refine ev_alloc rfl 92 rfl _ _ tz92 ?_; intro g9 w8 hg hB hb
                       have nr_zs_g9 := own_fresh' L0_zs.out hg
                       have n_g5_g9 : g5 ≠ g9 := by have := L0_g5.out.lt; omega
                       have low_g9 := Nat.le_trans L0_B.out.size hg
                       have zs_w8 := Lib.hid (own_below L0_zs.out hb)
                       have g5_w8 := Lib.hid (L0_g5.out.below hb)
                       have B_w8 := Lib.hid (below_trans L0_B.out hb)
                       have g9_w8 : Hid (Blk w8 g9 92 #[.string ⟨#[]⟩, .string ⟨#[]⟩, .string ⟨#[]⟩, .string ⟨#[]⟩]) := hB
                       clear hB hb)
                    | (refine ev_store rfl 92 _ _ rfl g9 _ _ rfl rfl 92 g9_w8.out tsz92 rfl rfl ?_; intro w9 hB hg hz
                       have hx := GrX.grown (S := fun k => k = g9) hg rfl
                       have zs_w9 := Lib.hid (own_grx zs_w8.out hx (fun k hk => (fun e => nr_zs_g9 (e ▸ hk))))
                       have g5_w9 := Lib.hid (g5_w8.out.grx hx (fun e => n_g5_g9 e))
                       have B_w9 := Lib.hid (below_grx B_w8.out hx B_w8.out.size (fun k => (fun e => e ▸ low_g9)))
                       clear hx
                       have g9_w9 : Hid (Blk w9 g9 92 #[.string zs[k].fName, .string zs[k].fNamespace, .string zs[k].fKind, .string zs[k].fGroup]) := hB
                       clear hB hg hz)
                    | ((with_reducible refine at_dst (N := 52) rfl ?_); refine ev_ld rfl 9 _ rfl ⟨g9, 0, none⟩ rfl (.string zs[k].fName) (g9_w9.out.cell 0) _ Try.underlying9 rfl ?_)
                    | ((with_reducible refine at_dst (N := 55) rfl ?_); refine ev_ld rfl 9 _ rfl ⟨g9, 1, none⟩ rfl (.string zs[k].fNamespace) (g9_w9.out.cell 1) _ Try.underlying9 rfl ?_)
                    | ((with_reducible refine at_dst (N := 59) rfl ?_); refine ev_ld rfl 9 _ rfl ⟨g9, 2, none⟩ rfl (.string zs[k].fKind) (g9_w9.out.cell 2) _ Try.underlying9 rfl ?_)
                    | ((with_reducible refine at_dst (N := 63) rfl ?_); refine ev_ld rfl 9 _ rfl ⟨g9, 3, none⟩ rfl (.string zs[k].fGroup) (g9_w9.out.cell 3) _ Try.underlying9 rfl ?_))
                  refine ⟨⟨k + 1, (by omega), by go_num, zs_w9, g5_w9, B_w9⟩, ?_⟩
                  simp [intOf]; omega
              · skip
                go_wp2_with fail
                go_loopw [10, 11, 70] (fun v10 v11 v70 wr => ∃ k : Nat, (k ≤ xs.length) ∧ (∀ k, Value.ownBlock v10 = some k → Value.ownBlock v11 ≠ some k) ∧ (Value.ownBlock v10 ≠ some g5) ∧ (Value.ownBlock v11 ≠ some g5) ∧ v70 = .int .i64 (↑k) ∧ Hid (World.ownsRow wr w.heap.size 92 4 v10 (((xs.take k).filter (notM ys)).length) (flatC Ty92.cells ((xs.take k).filter (notM ys)))) ∧ Hid (World.ownsRow wr w.heap.size 92 4 v11 (((xs.take k).filter (anyM ys)).length) (flatC Ty92.cells ((xs.take k).filter (anyM ys)))) ∧ Hid (Blk wr g5 92 #[.string x.fName, .string x.fNamespace, .string x.fKind, .string x.fGroup]) ∧ Hid (Below w.heap.size w wr)) (fun v10 v11 v70 _ => xs.length - (intOf v70).toNat)
                case atStart => exact ⟨0, (by omega), (by simp [Value.ownBlock]), (by simp [Value.ownBlock]), (by simp [Value.ownBlock]), rfl, (own_nil _ _ _ _), (own_nil _ _ _ _), L0_g5, L0_B⟩
                case round =>
                  obtain ⟨k, hk, oo_o10_o11, nr_o10_g5, nr_o11_g5, rfl, L1_o10, L1_o11, L1_g5, L1_B⟩ := hrel
                  by_cases hlt_k : k < xs.length
                  · obtain ⟨ad_k, rfl⟩ := (H0.out.below L1_B.out).addr (by simp [strs, ptrs]; omega)
                    have hf1 : ((xs.take k).filter (notM ys)).length ≤ k := by
                      have h1 := List.length_filter_le (notM ys) (xs.take k)
                      have h2 := List.length_take_le k xs
                      omega
                    have hf2 : ((xs.take k).filter (anyM ys)).length ≤ k := by
                      have h1 := List.length_filter_le (anyM ys) (xs.take k)
                      have h2 := List.length_take_le k xs
                      omega
                    cases hc6 : (anyM ys xs[k])
                    · go_wp2_with (first
                        | ((with_reducible refine at_dst (N := 73) rfl ?_); refine ev_loadR rfl 92 _ rfl _ rfl [.string xs[k].fName, .string xs[k].fNamespace, .string xs[k].fKind, .string xs[k].fGroup] ((H0.out.below L1_B.out).el (j := k) (row := xs[k].cells) (by simp [hlt_k])) _ Try.underlying92 rfl tsz92 ?_)
                        | ((with_reducible refine at_dst (N := 13) rfl ?_); refine ev_alloc rfl 92 rfl _ _ tz92 ?_; intro g13 w8 hg hB hb
                           have nr_o10_g13 := own_fresh' L1_o10.out hg
                           have nr_o11_g13 := own_fresh' L1_o11.out hg
                           have n_g5_g13 : g5 ≠ g13 := by have := L1_g5.out.lt; omega
                           have low_g13 := Nat.le_trans L1_B.out.size hg
                           have o10_w8 := Lib.hid (own_below L1_o10.out hb)
                           have o11_w8 := Lib.hid (own_below L1_o11.out hb)
                           have g5_w8 := Lib.hid (L1_g5.out.below hb)
                           have B_w8 := Lib.hid (below_trans L1_B.out hb)
                           have g13_w8 : Hid (Blk w8 g13 92 #[.string ⟨#[]⟩, .string ⟨#[]⟩, .string ⟨#[]⟩, .string ⟨#[]⟩]) := hB
                           clear hB hb)
                        | (refine ev_store rfl 92 _ _ rfl g13 _ _ rfl rfl 92 g13_w8.out tsz92 rfl rfl ?_; intro w9 hB hg hz
                           have hx := GrX.grown (S := fun k => k = g13) hg rfl
                           have o10_w9 := Lib.hid (own_grx o10_w8.out hx (fun k hk => (fun e => nr_o10_g13 (e ▸ hk))))
                           have o11_w9 := Lib.hid (own_grx o11_w8.out hx (fun k hk => (fun e => nr_o11_g13 (e ▸ hk))))
                           have g5_w9 := Lib.hid (g5_w8.out.grx hx (fun e => n_g5_g13 e))
                           have B_w9 := Lib.hid (below_grx B_w8.out hx B_w8.out.size (fun k => (fun e => e ▸ low_g13)))
                           clear hx
                           have g13_w9 : Hid (Blk w9 g13 92 #[.string xs[k].fName, .string xs[k].fNamespace, .string xs[k].fKind, .string xs[k].fGroup]) := hB
                           clear hB hg hz)
                        | ((with_reducible refine at_dst (N := 76) rfl ?_); refine ev_loadB rfl 92 _ rfl g13 rfl 92 _ g13_w9.out _ Try.underlying92 rfl tsz92 ?_)
                        | (go_at_call 55; (with_reducible refine (lawIn_any B d ys xs[k] _ (H1.out.below B_w9.out)).mono ?_); rintro e w10 ⟨rfl, hb⟩; rw [hc6]
                           have o10_w10 := Lib.hid (own_below o10_w9.out hb)
                           have o11_w10 := Lib.hid (own_below o11_w9.out hb)
                           have g5_w10 := Lib.hid (g5_w9.out.below hb)
                           have g13_w10 := Lib.hid (g13_w9.out.below hb)
                           have B_w10 := Lib.hid (below_trans B_w9.out hb)
                           clear hb)
                        | ((with_reducible refine at_dst (N := 83) rfl ?_); refine ev_loadB rfl 92 _ rfl g13 rfl 92 _ g13_w10.out _ Try.underlying92 rfl tsz92 ?_)
                        | ((with_reducible refine at_dst (N := 84) rfl ?_); refine ev_bs rfl 90 92 1 _ rfl #[.string xs[k].fName, .string xs[k].fNamespace, .string xs[k].fKind, .string xs[k].fGroup] (by go_simp) ?_; intro g84 w11 hg hB hb
                           have nr_o10_g84 := own_fresh' o10_w10.out hg
                           have nr_o11_g84 := own_fresh' o11_w10.out hg
                           have n_g5_g84 : g5 ≠ g84 := by have := g5_w10.out.lt; omega
                           have n_g13_g84 : g13 ≠ g84 := by have := g13_w10.out.lt; omega
                           have low_g84 := Nat.le_trans B_w10.out.size hg
                           have o10_w11 := Lib.hid (own_below o10_w10.out hb)
                           have o11_w11 := Lib.hid (own_below o11_w10.out hb)
                           have g5_w11 := Lib.hid (g5_w10.out.below hb)
                           have g13_w11 := Lib.hid (g13_w10.out.below hb)
                           have B_w11 := Lib.hid (below_trans B_w10.out hb)
                           have g84_w11 : Hid (Blk w11 g84 92 #[.string xs[k].fName, .string xs[k].fNamespace, .string xs[k].fKind, .string xs[k].fGroup]) := hB
                           clear hB hb)
                        | ((with_reducible refine at_dst (N := 85) rfl ?_); refine ev_app rfl _ _ 90 92 rfl Try.underlying90 _ 4 _ tin92 rfl (by omega) w.heap.size _ _ _ rfl o10_w11.out _ 1 _ [.string xs[k].fName, .string xs[k].fNamespace, .string xs[k].fKind, .string xs[k].fGroup] rfl (g84_w11.out.sl (by simp)) rfl (by simp [Value.oneCell']) (by omega) (by omega) B_w11.out.size ?_; intro v85_w12 w12 ho1 hg1 hat1
                           have hx := GrX.row (S := fun k => (u10 : Value).ownBlock = some k) hg1 (fun g h => h)
                           have o11_w12 := Lib.hid (own_grx o11_w11.out hx (fun k hk => (fun e => oo_o10_o11 k e hk)))
                           have g5_w12 := Lib.hid (g5_w11.out.grx hx nr_o10_g5)
                           have g13_w12 := Lib.hid (g13_w11.out.grx hx nr_o10_g13)
                           have B_w12 := Lib.hid (below_grx B_w11.out hx B_w11.out.size (fun k => (fun e => own_ge o10_w11.out k e)))
                           obtain ⟨A85_w12, c85_w12, rfl, _⟩ := own_form ho1
                           have o10_w12 := Lib.hid ho1
                           have nr_o10_g5 := nr_app nr_o10_g5 hat1 g5_w11.out.lt
                           have nr_o10_g13 := nr_app nr_o10_g13 hat1 g13_w11.out.lt
                           have oo_o10_o11 := oo_app oo_o10_o11 hat1 o11_w11.out
                           clear ho1 hg1 hat1 hx))
                      have hnm : notM ys xs[k] = true := by unfold notM; rw [hc6]; rfl
                      refine ⟨⟨k + 1, (by omega), oo_o10_o11, nr_o10_g5, nr_o11_g5, by go_num, by show World.ownsRow _ _ _ _ _ _ _; rw [filter_take hlt_k, hnm, if_pos rfl, List.length_append, flatC_snoc]; exact o10_w12.out, by show World.ownsRow _ _ _ _ _ _ _; rw [filter_take hlt_k, hc6, if_neg (by decide), List.append_nil]; exact o11_w12.out, g5_w12, B_w12⟩, ?_⟩
                      simp [intOf]; omega
                    · go_wp2_with (first
                        | ((with_reducible refine at_dst (N := 73) rfl ?_); refine ev_loadR rfl 92 _ rfl _ rfl [.string xs[k].fName, .string xs[k].fNamespace, .string xs[k].fKind, .string xs[k].fGroup] ((H0.out.below L1_B.out).el (j := k) (row := xs[k].cells) (by simp [hlt_k])) _ Try.underlying92 rfl tsz92 ?_)
                        | ((with_reducible refine at_dst (N := 13) rfl ?_); refine ev_alloc rfl 92 rfl _ _ tz92 ?_; intro g13 w8 hg hB hb
                           have nr_o10_g13 := own_fresh' L1_o10.out hg
                           have nr_o11_g13 := own_fresh' L1_o11.out hg
                           have n_g5_g13 : g5 ≠ g13 := by have := L1_g5.out.lt; omega
                           have low_g13 := Nat.le_trans L1_B.out.size hg
                           have o10_w8 := Lib.hid (own_below L1_o10.out hb)
                           have o11_w8 := Lib.hid (own_below L1_o11.out hb)
                           have g5_w8 := Lib.hid (L1_g5.out.below hb)
                           have B_w8 := Lib.hid (below_trans L1_B.out hb)
                           have g13_w8 : Hid (Blk w8 g13 92 #[.string ⟨#[]⟩, .string ⟨#[]⟩, .string ⟨#[]⟩, .string ⟨#[]⟩]) := hB
                           clear hB hb)
                        | (refine ev_store rfl 92 _ _ rfl g13 _ _ rfl rfl 92 g13_w8.out tsz92 rfl rfl ?_; intro w9 hB hg hz
                           have hx := GrX.grown (S := fun k => k = g13) hg rfl
                           have o10_w9 := Lib.hid (own_grx o10_w8.out hx (fun k hk => (fun e => nr_o10_g13 (e ▸ hk))))
                           have o11_w9 := Lib.hid (own_grx o11_w8.out hx (fun k hk => (fun e => nr_o11_g13 (e ▸ hk))))
                           have g5_w9 := Lib.hid (g5_w8.out.grx hx (fun e => n_g5_g13 e))
                           have B_w9 := Lib.hid (below_grx B_w8.out hx B_w8.out.size (fun k => (fun e => e ▸ low_g13)))
                           clear hx
                           have g13_w9 : Hid (Blk w9 g13 92 #[.string xs[k].fName, .string xs[k].fNamespace, .string xs[k].fKind, .string xs[k].fGroup]) := hB
                           clear hB hg hz)
                        | ((with_reducible refine at_dst (N := 76) rfl ?_); refine ev_loadB rfl 92 _ rfl g13 rfl 92 _ g13_w9.out _ Try.underlying92 rfl tsz92 ?_)
                        | (go_at_call 55; (with_reducible refine (lawIn_any B d ys xs[k] _ (H1.out.below B_w9.out)).mono ?_); rintro e w10 ⟨rfl, hb⟩; rw [hc6]
                           have o10_w10 := Lib.hid (own_below o10_w9.out hb)
                           have o11_w10 := Lib.hid (own_below o11_w9.out hb)
                           have g5_w10 := Lib.hid (g5_w9.out.below hb)
                           have g13_w10 := Lib.hid (g13_w9.out.below hb)
                           have B_w10 := Lib.hid (below_trans B_w9.out hb)
                           clear hb)
                        | ((with_reducible refine at_dst (N := 79) rfl ?_); refine ev_loadB rfl 92 _ rfl g13 rfl 92 _ g13_w10.out _ Try.underlying92 rfl tsz92 ?_)
                        | ((with_reducible refine at_dst (N := 80) rfl ?_); refine ev_bs rfl 90 92 1 _ rfl #[.string xs[k].fName, .string xs[k].fNamespace, .string xs[k].fKind, .string xs[k].fGroup] (by go_simp) ?_; intro g80 w11 hg hB hb
                           have nr_o10_g80 := own_fresh' o10_w10.out hg
                           have nr_o11_g80 := own_fresh' o11_w10.out hg
                           have n_g5_g80 : g5 ≠ g80 := by have := g5_w10.out.lt; omega
                           have n_g13_g80 : g13 ≠ g80 := by have := g13_w10.out.lt; omega
                           have low_g80 := Nat.le_trans B_w10.out.size hg
                           have o10_w11 := Lib.hid (own_below o10_w10.out hb)
                           have o11_w11 := Lib.hid (own_below o11_w10.out hb)
                           have g5_w11 := Lib.hid (g5_w10.out.below hb)
                           have g13_w11 := Lib.hid (g13_w10.out.below hb)
                           have B_w11 := Lib.hid (below_trans B_w10.out hb)
                           have g80_w11 : Hid (Blk w11 g80 92 #[.string xs[k].fName, .string xs[k].fNamespace, .string xs[k].fKind, .string xs[k].fGroup]) := hB
                           clear hB hb)
                        | ((with_reducible refine at_dst (N := 81) rfl ?_); refine ev_app rfl _ _ 90 92 rfl Try.underlying90 _ 4 _ tin92 rfl (by omega) w.heap.size _ _ _ rfl o11_w11.out _ 1 _ [.string xs[k].fName, .string xs[k].fNamespace, .string xs[k].fKind, .string xs[k].fGroup] rfl (g80_w11.out.sl (by simp)) rfl (by simp [Value.oneCell']) (by omega) (by omega) B_w11.out.size ?_; intro v81_w12 w12 ho1 hg1 hat1
                           have hx := GrX.row (S := fun k => (u11 : Value).ownBlock = some k) hg1 (fun g h => h)
                           have o10_w12 := Lib.hid (own_grx o10_w11.out hx (fun k hk => (fun e => oo_o10_o11 k hk e)))
                           have g5_w12 := Lib.hid (g5_w11.out.grx hx nr_o11_g5)
                           have g13_w12 := Lib.hid (g13_w11.out.grx hx nr_o11_g13)
                           have B_w12 := Lib.hid (below_grx B_w11.out hx B_w11.out.size (fun k => (fun e => own_ge o11_w11.out k e)))
                           obtain ⟨A81_w12, c81_w12, rfl, _⟩ := own_form ho1
                           have o11_w12 := Lib.hid ho1
                           have nr_o11_g5 := nr_app nr_o11_g5 hat1 g5_w11.out.lt
                           have nr_o11_g13 := nr_app nr_o11_g13 hat1 g13_w11.out.lt
                           have oo_o10_o11 := oo_app' oo_o10_o11 hat1 o10_w11.out
                           clear ho1 hg1 hat1 hx))
                      have hnm : notM ys xs[k] = false := by unfold notM; rw [hc6]; rfl
                      refine ⟨⟨k + 1, (by omega), oo_o10_o11, nr_o10_g5, nr_o11_g5, by go_num, by show World.ownsRow _ _ _ _ _ _ _; rw [filter_take hlt_k, hnm, if_neg (by decide), List.append_nil]; exact o10_w12.out, by show World.ownsRow _ _ _ _ _ _ _; rw [filter_take hlt_k, hc6, if_pos rfl, List.length_append, flatC_snoc]; exact o11_w12.out, g5_w12, B_w12⟩, ?_⟩
                      simp [intOf]; omega
                  · obtain rfl : k = xs.length := by omega
                    rw [List.take_length] at L1_o10 L1_o11
                    obtain ⟨A10, c10, rfl, _⟩ := own_form L1_o10.out
                    obtain ⟨A11, c11, rfl, _⟩ := own_form L1_o11.out
                    have hfa := List.length_filter_le (notM ys) xs
                    have hfb := List.length_filter_le (anyM ys) xs
                    cases hc6 : (anyM xs x)
                    · go_wp2_with (first
                        | ((with_reducible refine at_dst (N := 89) rfl ?_); refine ev_loadB rfl 92 _ rfl g5 rfl 92 _ L1_g5.out _ Try.underlying92 rfl tsz92 ?_)
                        | (go_at_call 56; (with_reducible refine (rget_none A c xs x _ (H0.out.below L1_B.out) (by omega) (by assumption)).mono ?_); rintro e w8 ⟨rfl, hb⟩
                           have o10_w8 := Lib.hid (own_below L1_o10.out hb)
                           have o11_w8 := Lib.hid (own_below L1_o11.out hb)
                           have g5_w8 := Lib.hid (L1_g5.out.below hb)
                           have B_w8 := Lib.hid (below_trans L1_B.out hb)
                           clear hb)
                        | ((with_reducible refine at_dst (N := 14) rfl ?_); refine ev_alloc rfl 92 rfl _ _ tz92 ?_; intro g14 w9 hg hB hb
                           have nr_o10_g14 := own_fresh' o10_w8.out hg
                           have nr_o11_g14 := own_fresh' o11_w8.out hg
                           have n_g5_g14 : g5 ≠ g14 := by have := g5_w8.out.lt; omega
                           have low_g14 := Nat.le_trans B_w8.out.size hg
                           have o10_w9 := Lib.hid (own_below o10_w8.out hb)
                           have o11_w9 := Lib.hid (own_below o11_w8.out hb)
                           have g5_w9 := Lib.hid (g5_w8.out.below hb)
                           have B_w9 := Lib.hid (below_trans B_w8.out hb)
                           have g14_w9 : Hid (Blk w9 g14 92 #[.string ⟨#[]⟩, .string ⟨#[]⟩, .string ⟨#[]⟩, .string ⟨#[]⟩]) := hB
                           clear hB hb)
                        | (refine ev_store rfl 92 _ _ rfl g14 _ _ rfl rfl 92 g14_w9.out tsz92 rfl rfl ?_; intro w10 hB hg hz
                           have hx := GrX.grown (S := fun k => k = g14) hg rfl
                           have o10_w10 := Lib.hid (own_grx o10_w9.out hx (fun k hk => (fun e => nr_o10_g14 (e ▸ hk))))
                           have o11_w10 := Lib.hid (own_grx o11_w9.out hx (fun k hk => (fun e => nr_o11_g14 (e ▸ hk))))
                           have g5_w10 := Lib.hid (g5_w9.out.grx hx (fun e => n_g5_g14 e))
                           have B_w10 := Lib.hid (below_grx B_w9.out hx B_w9.out.size (fun k => (fun e => e ▸ low_g14)))
                           clear hx
                           have g14_w10 : Hid (Blk w10 g14 92 #[.string ⟨#[]⟩, .string ⟨#[]⟩, .string ⟨#[]⟩, .string ⟨#[]⟩]) := hB
                           clear hB hg hz)
                        | (go_at_call 57; (with_reducible refine (sets_any A c xs B d ys _ (H0.out.below B_w10.out) (H1.out.below B_w10.out) (by omega) (by omega)).mono ?_); rintro e w11 ⟨A296, c296, A396, c396, rfl, hp0_96, hp1_96, hb⟩
                           have o10_w11 := Lib.hid (own_below o10_w10.out hb)
                           have o11_w11 := Lib.hid (own_below o11_w10.out hb)
                           have g5_w11 := Lib.hid (g5_w10.out.below hb)
                           have g14_w11 := Lib.hid (g14_w10.out.below hb)
                           have B_w11 := Lib.hid (below_trans B_w10.out hb)
                           have hp0_96 := own_mono hp0_96 B_w10.out.size
                           have o96_0_w11 := Lib.hid hp0_96
                           have hp1_96 := own_mono hp1_96 B_w10.out.size
                           have o96_1_w11 := Lib.hid hp1_96
                           clear hb hp0_96 hp1_96)
                        | ((with_reducible refine at_dst (N := 102) rfl ?_); refine ev_loadB rfl 92 _ rfl g5 rfl 92 _ g5_w11.out _ Try.underlying92 rfl tsz92 ?_)
                        | (go_at_call 55; (with_reducible refine (lawIn_any A c xs x _ (H0.out.below B_w11.out)).mono ?_); rintro e w12 ⟨rfl, hb⟩; rw [hc6]
                           have o10_w12 := Lib.hid (own_below o10_w11.out hb)
                           have o11_w12 := Lib.hid (own_below o11_w11.out hb)
                           have g5_w12 := Lib.hid (g5_w11.out.below hb)
                           have g14_w12 := Lib.hid (g14_w11.out.below hb)
                           have o96_0_w12 := Lib.hid (own_below o96_0_w11.out hb)
                           have o96_1_w12 := Lib.hid (own_below o96_1_w11.out hb)
                           have B_w12 := Lib.hid (below_trans B_w11.out hb)
                           clear hb)
                        | (go_at_call 58; (with_reducible refine (lawSame_any A296 c296 A10 c10 (xs.filter (notM ys)) _ (own_rowsT1 o96_0_w12.out (by first | rfl | (simp; done) | omega | (simp; omega)) (by decide) (fun x => rfl) (by omega)) (own_rowsT1 o10_w12.out (by first | rfl | (simp; done) | omega | (simp; omega)) (by decide) (fun x => rfl) (by omega))).mono ?_); rintro e w13 ⟨rfl, hb⟩
                           have o10_w13 := Lib.hid (own_below o10_w12.out hb)
                           have o11_w13 := Lib.hid (own_below o11_w12.out hb)
                           have g5_w13 := Lib.hid (g5_w12.out.below hb)
                           have g14_w13 := Lib.hid (g14_w12.out.below hb)
                           have o96_0_w13 := Lib.hid (own_below o96_0_w12.out hb)
                           have o96_1_w13 := Lib.hid (own_below o96_1_w12.out hb)
                           have B_w13 := Lib.hid (below_trans B_w12.out hb)
                           clear hb)
                        | (go_at_call 58; (with_reducible refine (lawSame_any A396 c396 A11 c11 (xs.filter (anyM ys)) _ (own_rowsT1 o96_1_w13.out (by first | rfl | (simp; done) | omega | (simp; omega)) (by decide) (fun x => rfl) (by omega)) (own_rowsT1 o11_w13.out (by first | rfl | (simp; done) | omega | (simp; omega)) (by decide) (fun x => rfl) (by omega))).mono ?_); rintro e w14 ⟨rfl, hb⟩
                           have o10_w14 := Lib.hid (own_below o10_w13.out hb)
                           have o11_w14 := Lib.hid (own_below o11_w13.out hb)
                           have g5_w14 := Lib.hid (g5_w13.out.below hb)
                           have g14_w14 := Lib.hid (g14_w13.out.below hb)
                           have o96_0_w14 := Lib.hid (own_below o96_0_w13.out hb)
                           have o96_1_w14 := Lib.hid (own_below o96_1_w13.out hb)
                           have B_w14 := Lib.hid (below_trans B_w13.out hb)
                           clear hb)
                        | (go_at_call 36; (with_reducible refine (hlLives_any  _ ).mono ?_); rintro e w15 ⟨rfl, hb⟩
                           have o10_w15 := Lib.hid (own_below o10_w14.out hb)
                           have o11_w15 := Lib.hid (own_below o11_w14.out hb)
                           have g5_w15 := Lib.hid (g5_w14.out.below hb)
                           have g14_w15 := Lib.hid (g14_w14.out.below hb)
                           have o96_0_w15 := Lib.hid (own_below o96_0_w14.out hb)
                           have o96_1_w15 := Lib.hid (own_below o96_1_w14.out hb)
                           have B_w15 := Lib.hid (below_trans B_w14.out hb)
                           clear hb))
                      go_ret
                      exact HQ.out _ _ ⟨rfl, B_w15.out⟩
                    · go_wp2_with (first
                        | ((with_reducible refine at_dst (N := 89) rfl ?_); refine ev_loadB rfl 92 _ rfl g5 rfl 92 _ L1_g5.out _ Try.underlying92 rfl tsz92 ?_)
                        | (go_at_call 56; (with_reducible refine (rget_some A c xs x _ (H0.out.below L1_B.out) (by omega) (by assumption)).mono ?_); rintro e w8 ⟨rfl, hb⟩
                           have o10_w8 := Lib.hid (own_below L1_o10.out hb)
                           have o11_w8 := Lib.hid (own_below L1_o11.out hb)
                           have g5_w8 := Lib.hid (L1_g5.out.below hb)
                           have B_w8 := Lib.hid (below_trans L1_B.out hb)
                           clear hb)
                        | ((with_reducible refine at_dst (N := 14) rfl ?_); refine ev_alloc rfl 92 rfl _ _ tz92 ?_; intro g14 w9 hg hB hb
                           have nr_o10_g14 := own_fresh' o10_w8.out hg
                           have nr_o11_g14 := own_fresh' o11_w8.out hg
                           have n_g5_g14 : g5 ≠ g14 := by have := g5_w8.out.lt; omega
                           have low_g14 := Nat.le_trans B_w8.out.size hg
                           have o10_w9 := Lib.hid (own_below o10_w8.out hb)
                           have o11_w9 := Lib.hid (own_below o11_w8.out hb)
                           have g5_w9 := Lib.hid (g5_w8.out.below hb)
                           have B_w9 := Lib.hid (below_trans B_w8.out hb)
                           have g14_w9 : Hid (Blk w9 g14 92 #[.string ⟨#[]⟩, .string ⟨#[]⟩, .string ⟨#[]⟩, .string ⟨#[]⟩]) := hB
                           clear hB hb)
                        | (refine ev_store rfl 92 _ _ rfl g14 _ _ rfl rfl 92 g14_w9.out tsz92 rfl rfl ?_; intro w10 hB hg hz
                           have hx := GrX.grown (S := fun k => k = g14) hg rfl
                           have o10_w10 := Lib.hid (own_grx o10_w9.out hx (fun k hk => (fun e => nr_o10_g14 (e ▸ hk))))
                           have o11_w10 := Lib.hid (own_grx o11_w9.out hx (fun k hk => (fun e => nr_o11_g14 (e ▸ hk))))
                           have g5_w10 := Lib.hid (g5_w9.out.grx hx (fun e => n_g5_g14 e))
                           have B_w10 := Lib.hid (below_grx B_w9.out hx B_w9.out.size (fun k => (fun e => e ▸ low_g14)))
                           clear hx
                           have g14_w10 : Hid (Blk w10 g14 92 #[.string x.fName, .string x.fNamespace, .string x.fKind, .string x.fGroup]) := hB
                           clear hB hg hz)
                        | (go_at_call 57; (with_reducible refine (sets_any A c xs B d ys _ (H0.out.below B_w10.out) (H1.out.below B_w10.out) (by omega) (by omega)).mono ?_); rintro e w11 ⟨A296, c296, A396, c396, rfl, hp0_96, hp1_96, hb⟩
                           have o10_w11 := Lib.hid (own_below o10_w10.out hb)
                           have o11_w11 := Lib.hid (own_below o11_w10.out hb)
                           have g5_w11 := Lib.hid (g5_w10.out.below hb)
                           have g14_w11 := Lib.hid (g14_w10.out.below hb)
                           have B_w11 := Lib.hid (below_trans B_w10.out hb)
                           have hp0_96 := own_mono hp0_96 B_w10.out.size
                           have o96_0_w11 := Lib.hid hp0_96
                           have hp1_96 := own_mono hp1_96 B_w10.out.size
                           have o96_1_w11 := Lib.hid hp1_96
                           clear hb hp0_96 hp1_96)
                        | ((with_reducible refine at_dst (N := 102) rfl ?_); refine ev_loadB rfl 92 _ rfl g5 rfl 92 _ g5_w11.out _ Try.underlying92 rfl tsz92 ?_)
                        | (go_at_call 55; (with_reducible refine (lawIn_any A c xs x _ (H0.out.below B_w11.out)).mono ?_); rintro e w12 ⟨rfl, hb⟩; rw [hc6]
                           have o10_w12 := Lib.hid (own_below o10_w11.out hb)
                           have o11_w12 := Lib.hid (own_below o11_w11.out hb)
                           have g5_w12 := Lib.hid (g5_w11.out.below hb)
                           have g14_w12 := Lib.hid (g14_w11.out.below hb)
                           have o96_0_w12 := Lib.hid (own_below o96_0_w11.out hb)
                           have o96_1_w12 := Lib.hid (own_below o96_1_w11.out hb)
                           have B_w12 := Lib.hid (below_trans B_w11.out hb)
                           clear hb)
                        | ((with_reducible refine at_dst (N := 109) rfl ?_); refine wl_guard rfl ?_; refine ev_loadB rfl 92 _ rfl g14 rfl 92 _ g14_w12.out _ Try.underlying92 rfl tsz92 ?_)
                        | ((with_reducible refine at_dst (N := 110) rfl ?_); refine wl_guard rfl ?_; refine ev_loadB rfl 92 _ rfl g5 rfl 92 _ g5_w12.out _ Try.underlying92 rfl tsz92 ?_)
                        | ((with_reducible refine at_dst (N := 111) rfl ?_); refine wl_guard rfl ?_; refine ev_eql rfl 92 _ _ _ rfl _ _ rfl rfl (by kernel_rfl) _ ((eqlT92 x.fName x.fName x.fNamespace x.fNamespace x.fKind x.fKind x.fGroup x.fGroup _).trans (by simp)) ?_)
                        | (go_at_call 58; (with_reducible refine (lawSame_any A296 c296 A10 c10 (xs.filter (notM ys)) _ (own_rowsT1 o96_0_w12.out (by first | rfl | (simp; done) | omega | (simp; omega)) (by decide) (fun x => rfl) (by omega)) (own_rowsT1 o10_w12.out (by first | rfl | (simp; done) | omega | (simp; omega)) (by decide) (fun x => rfl) (by omega))).mono ?_); rintro e w13 ⟨rfl, hb⟩
                           have o10_w13 := Lib.hid (own_below o10_w12.out hb)
                           have o11_w13 := Lib.hid (own_below o11_w12.out hb)
                           have g5_w13 := Lib.hid (g5_w12.out.below hb)
                           have g14_w13 := Lib.hid (g14_w12.out.below hb)
                           have o96_0_w13 := Lib.hid (own_below o96_0_w12.out hb)
                           have o96_1_w13 := Lib.hid (own_below o96_1_w12.out hb)
                           have B_w13 := Lib.hid (below_trans B_w12.out hb)
                           clear hb)
                        | (go_at_call 58; (with_reducible refine (lawSame_any A396 c396 A11 c11 (xs.filter (anyM ys)) _ (own_rowsT1 o96_1_w13.out (by first | rfl | (simp; done) | omega | (simp; omega)) (by decide) (fun x => rfl) (by omega)) (own_rowsT1 o11_w13.out (by first | rfl | (simp; done) | omega | (simp; omega)) (by decide) (fun x => rfl) (by omega))).mono ?_); rintro e w14 ⟨rfl, hb⟩
                           have o10_w14 := Lib.hid (own_below o10_w13.out hb)
                           have o11_w14 := Lib.hid (own_below o11_w13.out hb)
                           have g5_w14 := Lib.hid (g5_w13.out.below hb)
                           have g14_w14 := Lib.hid (g14_w13.out.below hb)
                           have o96_0_w14 := Lib.hid (own_below o96_0_w13.out hb)
                           have o96_1_w14 := Lib.hid (own_below o96_1_w13.out hb)
                           have B_w14 := Lib.hid (below_trans B_w13.out hb)
                           clear hb)
                        | (go_at_call 36; (with_reducible refine (hlLives_any  _ ).mono ?_); rintro e w15 ⟨rfl, hb⟩
                           have o10_w15 := Lib.hid (own_below o10_w14.out hb)
                           have o11_w15 := Lib.hid (own_below o11_w14.out hb)
                           have g5_w15 := Lib.hid (g5_w14.out.below hb)
                           have g14_w15 := Lib.hid (g14_w14.out.below hb)
                           have o96_0_w15 := Lib.hid (own_below o96_0_w14.out hb)
                           have o96_1_w15 := Lib.hid (own_below o96_1_w14.out hb)
                           have B_w15 := Lib.hid (below_trans B_w14.out hb)
                           clear hb))
                      go_ret
                      exact HQ.out _ _ ⟨rfl, B_w15.out⟩
theorem fnHlResources_walk (A : Option Addr) (c : Nat) (xs : List Ty92) (B : Option Addr) (d : Nat) (ys : List Ty92) (x : Ty92) (w : World) (h : Rows w A 4 (xs.map Ty92.cells)) (_hcap : xs.length ≤ c) (hok : ∀ x ∈ xs, x.ok w) (h2 : Rows w B 4 (ys.map Ty92.cells)) (_hcap2 : ys.length ≤ d) (hok2 : ∀ x ∈ ys, x.ok w) (h3 : x.ok w) :
    Calls Try.prog 14 #[.slice A xs.length c, .slice B ys.length d, .agg x.cells.toArray] w fun e w' => e = .returned (.bool true) ∧ Below w.heap.size w w' :=
  fnHlResources_K A c xs B d ys x w h h2 hok hok2 h3
end Go.Proofs.Ytdgblfldbikneaa
