/- Expand: hlEnv, under. -/
import Derived.Test.YtkjcedlgljeoiaaX2
namespace Go.Proofs.Ytkjcedlgljeoiaa
open Go.RowKit Go.Lib
set_option linter.unusedVariables false
set_option linter.unusedSimpArgs false
set_option maxRecDepth 100000 in
set_option maxHeartbeats 4000000 in
theorem hlEnv_any (A : Option Addr) (c : Nat) (xs : List Ty108) (w : World) (h0 : Rows w (A) 2 (xs.map Ty108.cells)) (hc : xs.length ≤ c) (hk : ∀ x ∈ xs, x.fKey.size ≤ 2147483647) :
    Calls Try.prog 20 #[.slice (A) (xs.length) (c)] w fun e w' => ∃ b : Bool, e = .returned (.bool b) ∧ Below w.heap.size w w' := by
  have hl_xs : xs.length ≤ 9223372036854775807 := by have := h0.1; simpa [strs, ptrs] using this
  have H0 := Lib.hid h0
  clear h0
  suffices hQ : ∀ Q : Ending → World → Prop, Hid (∀ (e : Ending) (w' : World), (∃ b : Bool, e = .returned (.bool b) ∧ Below w.heap.size w w') → Post1 Q e w') → Calls Try.prog 20 #[.slice (A) (xs.length) (c)] w (fun e w' => Post1 Q e w') from hQ (fun e w' => ∃ b : Bool, e = .returned (.bool b) ∧ Below w.heap.size w w') (fun _ _ h => by unfold Post1; exact h)
  intro Q HQ
  go_enter Try.func20, Try.ntmps20
  by_cases hc1 : (20 : Int) < ↑xs.length
  · go_wp2_with fail
    go_ret
    exact HQ.out _ _ ⟨false, rfl, (Below.refl _ _)⟩
  · go_wp2_with fail
    go_loopw [12] (fun v12 wr => ∃ k : Nat, (k ≤ xs.length) ∧ v12 = .int .i64 (↑k) ∧ Hid (Below w.heap.size w wr)) (fun v12 _ => xs.length - (intOf v12).toNat)
    case atStart => exact ⟨0, (by omega), rfl, (Below.refl _ _)⟩
    case round =>
      obtain ⟨k, hk2, rfl, L0_B⟩ := hrel
      by_cases hlt_k : k < xs.length
      · obtain ⟨ad_k, rfl⟩ := (H0.out.below L0_B.out).addr (by simp [strs, ptrs]; omega)
        cases hc2 : (allB xs[k].fKey ⟨#[95]⟩)
        · go_wp2_with (first
            | ((with_reducible refine at_dst (N := 16) rfl ?_); refine ev_loadR rfl 108 _ rfl _ rfl [.string xs[k].fKey, .string xs[k].fText] ((H0.out.below L0_B.out).el (j := k) (row := xs[k].cells) (by simp [hlt_k])) _ Try.underlying108 rfl tsz108 ?_)
            | ((with_reducible refine at_dst (N := 4) rfl ?_); refine ev_alloc rfl 108 rfl _ _ tz108 ?_; intro g4 w1 hg hB hb
               have low_g4 := Nat.le_trans L0_B.out.size hg
               have B_w1 := Lib.hid (below_trans L0_B.out hb)
               have g4_w1 : Hid (Blk w1 g4 108 #[.string ⟨#[]⟩, .string ⟨#[]⟩]) := hB
               clear hB hb)
            | (refine ev_store rfl 108 _ _ rfl g4 _ _ rfl rfl 108 g4_w1.out tsz108 rfl rfl ?_; intro w2 hB hg hz
               have hx := GrX.grown (S := fun k => k = g4) hg rfl
               have B_w2 := Lib.hid (below_grx B_w1.out hx B_w1.out.size (fun k => (fun e => e ▸ low_g4)))
               clear hx
               have g4_w2 : Hid (Blk w2 g4 108 #[.string xs[k].fKey, .string xs[k].fText]) := hB
               clear hB hg hz)
            | ((with_reducible refine at_dst (N := 18) rfl ?_); refine ev_ld rfl 9 _ rfl ⟨g4, 0, none⟩ rfl (.string xs[k].fKey) (g4_w2.out.cell 0) _ Try.underlying9 rfl ?_)
            | (go_at_call 28; (with_reducible refine (hlAll_any xs[k].fKey ⟨#[95]⟩ _ (by have := hk _ (List.getElem_mem hlt_k); omega) (by decide)).mono ?_); rintro e wq ⟨rfl, rfl⟩; rw [hc2]))
          go_ret
          exact HQ.out _ _ ⟨false, rfl, B_w2.out⟩
        · cases hc3 : (shortS xs[k].fKey && shortS xs[k].fText)
          · go_wp2_with (first
              | ((with_reducible refine at_dst (N := 16) rfl ?_); refine ev_loadR rfl 108 _ rfl _ rfl [.string xs[k].fKey, .string xs[k].fText] ((H0.out.below L0_B.out).el (j := k) (row := xs[k].cells) (by simp [hlt_k])) _ Try.underlying108 rfl tsz108 ?_)
              | ((with_reducible refine at_dst (N := 4) rfl ?_); refine ev_alloc rfl 108 rfl _ _ tz108 ?_; intro g4 w1 hg hB hb
                 have low_g4 := Nat.le_trans L0_B.out.size hg
                 have B_w1 := Lib.hid (below_trans L0_B.out hb)
                 have g4_w1 : Hid (Blk w1 g4 108 #[.string ⟨#[]⟩, .string ⟨#[]⟩]) := hB
                 clear hB hb)
              | (refine ev_store rfl 108 _ _ rfl g4 _ _ rfl rfl 108 g4_w1.out tsz108 rfl rfl ?_; intro w2 hB hg hz
                 have hx := GrX.grown (S := fun k => k = g4) hg rfl
                 have B_w2 := Lib.hid (below_grx B_w1.out hx B_w1.out.size (fun k => (fun e => e ▸ low_g4)))
                 clear hx
                 have g4_w2 : Hid (Blk w2 g4 108 #[.string xs[k].fKey, .string xs[k].fText]) := hB
                 clear hB hg hz)
              | ((with_reducible refine at_dst (N := 18) rfl ?_); refine ev_ld rfl 9 _ rfl ⟨g4, 0, none⟩ rfl (.string xs[k].fKey) (g4_w2.out.cell 0) _ Try.underlying9 rfl ?_)
              | (go_at_call 28; (with_reducible refine (hlAll_any xs[k].fKey ⟨#[95]⟩ _ (by have := hk _ (List.getElem_mem hlt_k); omega) (by decide)).mono ?_); rintro e wq ⟨rfl, rfl⟩; rw [hc2])
              | ((with_reducible refine at_dst (N := 23) rfl ?_); refine wl_guard rfl ?_; refine ev_ld rfl 9 _ rfl ⟨g4, 0, none⟩ rfl (.string xs[k].fKey) (g4_w2.out.cell 0) _ Try.underlying9 rfl ?_)
              | ((with_reducible refine at_dst (N := 25) rfl ?_); refine wl_guard rfl ?_; refine ev_ld rfl 9 _ rfl ⟨g4, 1, none⟩ rfl (.string xs[k].fText) (g4_w2.out.cell 1) _ Try.underlying9 rfl ?_)
              | ((with_reducible refine at_dst (N := 26) rfl ?_); refine wl_guard rfl ?_; refine ev_bs rfl 22 9 2 _ rfl #[.string xs[k].fKey, .string xs[k].fText] (by go_simp) ?_; intro g26 w3 hg hB hb
                 have n_g4_g26 : g4 ≠ g26 := by have := g4_w2.out.lt; omega
                 have low_g26 := Nat.le_trans B_w2.out.size hg
                 have g4_w3 := Lib.hid (g4_w2.out.below hb)
                 have B_w3 := Lib.hid (below_trans B_w2.out hb)
                 have g26_w3 : Hid (Blk w3 g26 9 #[.string xs[k].fKey, .string xs[k].fText]) := hB
                 clear hB hb)
              | (go_at_call 19; (with_reducible refine (hlShort2 xs[k].fKey xs[k].fText g26 _ g26_w3.out).mono ?_); rintro e wq ⟨rfl, rfl⟩; rw [hc3]))
            go_ret
            exact HQ.out _ _ ⟨false, rfl, B_w3.out⟩
          · go_wp2_with (first
              | ((with_reducible refine at_dst (N := 16) rfl ?_); refine ev_loadR rfl 108 _ rfl _ rfl [.string xs[k].fKey, .string xs[k].fText] ((H0.out.below L0_B.out).el (j := k) (row := xs[k].cells) (by simp [hlt_k])) _ Try.underlying108 rfl tsz108 ?_)
              | ((with_reducible refine at_dst (N := 4) rfl ?_); refine ev_alloc rfl 108 rfl _ _ tz108 ?_; intro g4 w1 hg hB hb
                 have low_g4 := Nat.le_trans L0_B.out.size hg
                 have B_w1 := Lib.hid (below_trans L0_B.out hb)
                 have g4_w1 : Hid (Blk w1 g4 108 #[.string ⟨#[]⟩, .string ⟨#[]⟩]) := hB
                 clear hB hb)
              | (refine ev_store rfl 108 _ _ rfl g4 _ _ rfl rfl 108 g4_w1.out tsz108 rfl rfl ?_; intro w2 hB hg hz
                 have hx := GrX.grown (S := fun k => k = g4) hg rfl
                 have B_w2 := Lib.hid (below_grx B_w1.out hx B_w1.out.size (fun k => (fun e => e ▸ low_g4)))
                 clear hx
                 have g4_w2 : Hid (Blk w2 g4 108 #[.string xs[k].fKey, .string xs[k].fText]) := hB
                 clear hB hg hz)
              | ((with_reducible refine at_dst (N := 18) rfl ?_); refine ev_ld rfl 9 _ rfl ⟨g4, 0, none⟩ rfl (.string xs[k].fKey) (g4_w2.out.cell 0) _ Try.underlying9 rfl ?_)
              | (go_at_call 28; (with_reducible refine (hlAll_any xs[k].fKey ⟨#[95]⟩ _ (by have := hk _ (List.getElem_mem hlt_k); omega) (by decide)).mono ?_); rintro e wq ⟨rfl, rfl⟩; rw [hc2])
              | ((with_reducible refine at_dst (N := 23) rfl ?_); refine wl_guard rfl ?_; refine ev_ld rfl 9 _ rfl ⟨g4, 0, none⟩ rfl (.string xs[k].fKey) (g4_w2.out.cell 0) _ Try.underlying9 rfl ?_)
              | ((with_reducible refine at_dst (N := 25) rfl ?_); refine wl_guard rfl ?_; refine ev_ld rfl 9 _ rfl ⟨g4, 1, none⟩ rfl (.string xs[k].fText) (g4_w2.out.cell 1) _ Try.underlying9 rfl ?_)
              | ((with_reducible refine at_dst (N := 26) rfl ?_); refine wl_guard rfl ?_; refine ev_bs rfl 22 9 2 _ rfl #[.string xs[k].fKey, .string xs[k].fText] (by go_simp) ?_; intro g26 w3 hg hB hb
                 have n_g4_g26 : g4 ≠ g26 := by have := g4_w2.out.lt; omega
                 have low_g26 := Nat.le_trans B_w2.out.size hg
                 have g4_w3 := Lib.hid (g4_w2.out.below hb)
                 have B_w3 := Lib.hid (below_trans B_w2.out hb)
                 have g26_w3 : Hid (Blk w3 g26 9 #[.string xs[k].fKey, .string xs[k].fText]) := hB
                 clear hB hb)
              | (go_at_call 19; (with_reducible refine (hlShort2 xs[k].fKey xs[k].fText g26 _ g26_w3.out).mono ?_); rintro e wq ⟨rfl, rfl⟩; rw [hc3])
              | ((with_reducible refine at_dst (N := 32) rfl ?_); refine ev_slice_h rfl 40 108 _ _ rfl Try.underlying40 2 tsz108 (some ad_k) xs.length c k rfl rfl (by omega) ?_))
            go_loopw [34] (fun v34 wr => ∃ j : Nat, (j ≤ k) ∧ v34 = .int .i64 (↑j) ∧ Hid (Blk wr g4 108 #[.string xs[k].fKey, .string xs[k].fText]) ∧ Hid (Below w.heap.size w wr)) (fun v34 _ => k - (intOf v34).toNat)
            case atStart => exact ⟨0, (by omega), rfl, g4_w3, B_w3⟩
            case round =>
              obtain ⟨j, hj, rfl, L1_g4, L1_B⟩ := hrel
              by_cases hlt_j : j < k
              · have hjx : j < xs.length := by omega
                cases hc4 : (xs[j].fKey.toList == xs[k].fKey.toList)
                · have hc4' : (xs[j].fKey.toList != xs[k].fKey.toList) = true := by rw [bne, hc4]; rfl
                  go_wp2_with (first
                    | ((with_reducible refine at_dst (N := 37) rfl ?_); refine ev_loadR rfl 108 _ rfl _ rfl [.string xs[j].fKey, .string xs[j].fText] ((H0.out.below L1_B.out).el (j := j) (row := xs[j].cells) (by simp [hjx])) _ Try.underlying108 rfl tsz108 ?_)
                    | ((with_reducible refine at_dst (N := 6) rfl ?_); refine ev_alloc rfl 108 rfl _ _ tz108 ?_; intro g6 w4 hg hB hb
                       have n_g4_g6 : g4 ≠ g6 := by have := L1_g4.out.lt; omega
                       have low_g6 := Nat.le_trans L1_B.out.size hg
                       have g4_w4 := Lib.hid (L1_g4.out.below hb)
                       have B_w4 := Lib.hid (below_trans L1_B.out hb)
                       have g6_w4 : Hid (Blk w4 g6 108 #[.string ⟨#[]⟩, .string ⟨#[]⟩]) := hB
                       clear hB hb)
                    | (refine ev_store rfl 108 _ _ rfl g6 _ _ rfl rfl 108 g6_w4.out tsz108 rfl rfl ?_; intro w5 hB hg hz
                       have hx := GrX.grown (S := fun k => k = g6) hg rfl
                       have g4_w5 := Lib.hid (g4_w4.out.grx hx (fun e => n_g4_g6 e))
                       have B_w5 := Lib.hid (below_grx B_w4.out hx B_w4.out.size (fun k => (fun e => e ▸ low_g6)))
                       clear hx
                       have g6_w5 : Hid (Blk w5 g6 108 #[.string xs[j].fKey, .string xs[j].fText]) := hB
                       clear hB hg hz)
                    | ((with_reducible refine at_dst (N := 39) rfl ?_); refine ev_ld rfl 9 _ rfl ⟨g6, 0, none⟩ rfl (.string xs[j].fKey) (g6_w5.out.cell 0) _ Try.underlying9 rfl ?_)
                    | ((with_reducible refine at_dst (N := 41) rfl ?_); refine ev_ld rfl 9 _ rfl ⟨g4, 0, none⟩ rfl (.string xs[k].fKey) (g4_w5.out.cell 0) _ Try.underlying9 rfl ?_))
                  refine ⟨⟨j + 1, (by omega), by go_num, g4_w5, B_w5⟩, ?_⟩
                  simp [intOf]; omega
                · have hc4' : (xs[j].fKey.toList != xs[k].fKey.toList) = false := by rw [bne, hc4]; rfl
                  go_wp2_with (first
                    | ((with_reducible refine at_dst (N := 37) rfl ?_); refine ev_loadR rfl 108 _ rfl _ rfl [.string xs[j].fKey, .string xs[j].fText] ((H0.out.below L1_B.out).el (j := j) (row := xs[j].cells) (by simp [hjx])) _ Try.underlying108 rfl tsz108 ?_)
                    | ((with_reducible refine at_dst (N := 6) rfl ?_); refine ev_alloc rfl 108 rfl _ _ tz108 ?_; intro g6 w4 hg hB hb
                       have n_g4_g6 : g4 ≠ g6 := by have := L1_g4.out.lt; omega
                       have low_g6 := Nat.le_trans L1_B.out.size hg
                       have g4_w4 := Lib.hid (L1_g4.out.below hb)
                       have B_w4 := Lib.hid (below_trans L1_B.out hb)
                       have g6_w4 : Hid (Blk w4 g6 108 #[.string ⟨#[]⟩, .string ⟨#[]⟩]) := hB
                       clear hB hb)
                    | (refine ev_store rfl 108 _ _ rfl g6 _ _ rfl rfl 108 g6_w4.out tsz108 rfl rfl ?_; intro w5 hB hg hz
                       have hx := GrX.grown (S := fun k => k = g6) hg rfl
                       have g4_w5 := Lib.hid (g4_w4.out.grx hx (fun e => n_g4_g6 e))
                       have B_w5 := Lib.hid (below_grx B_w4.out hx B_w4.out.size (fun k => (fun e => e ▸ low_g6)))
                       clear hx
                       have g6_w5 : Hid (Blk w5 g6 108 #[.string xs[j].fKey, .string xs[j].fText]) := hB
                       clear hB hg hz)
                    | ((with_reducible refine at_dst (N := 39) rfl ?_); refine ev_ld rfl 9 _ rfl ⟨g6, 0, none⟩ rfl (.string xs[j].fKey) (g6_w5.out.cell 0) _ Try.underlying9 rfl ?_)
                    | ((with_reducible refine at_dst (N := 41) rfl ?_); refine ev_ld rfl 9 _ rfl ⟨g4, 0, none⟩ rfl (.string xs[k].fKey) (g4_w5.out.cell 0) _ Try.underlying9 rfl ?_))
                  go_ret
                  exact HQ.out _ _ ⟨false, rfl, B_w5.out⟩
              · obtain rfl : k = j := by omega
                go_wp2_with fail
                refine ⟨⟨k + 1, (by omega), by go_num, L1_B⟩, ?_⟩
                simp [intOf]; omega
      · obtain rfl : k = xs.length := by omega
        go_wp2_with fail
        go_ret
        exact HQ.out _ _ ⟨true, rfl, L0_B.out⟩
def undF (xs : List Ty108) (s : ByteArray) : ByteArray := xs.foldl (fun a x => if x.fKey.toList == s.toList then x.fText else a) ⟨#[]⟩
theorem undF_take {xs : List Ty108} {s : ByteArray} {k : Nat} (h : k < xs.length) : undF (xs.take (k + 1)) s = if xs[k].fKey.toList == s.toList then xs[k].fText else undF (xs.take k) s := by unfold undF; rw [take_snoc h, List.foldl_append]; rfl
theorem undF_size {xs : List Ty108} {s : ByteArray} {n : Nat} (h : ∀ x ∈ xs, x.fText.size ≤ n) : (undF xs s).size ≤ n := by
  unfold undF
  suffices H : ∀ (l : List Ty108) (a : ByteArray), (∀ x ∈ l, x.fText.size ≤ n) → a.size ≤ n → (l.foldl (fun a x => if x.fKey.toList == s.toList then x.fText else a) a).size ≤ n from H xs _ h (Nat.zero_le _)
  intro l
  induction l with
  | nil => intro a _ ha; exact ha
  | cons y ys ih =>
    intro a hl ha
    rw [List.foldl_cons]
    refine ih _ (fun x hx => hl x (List.mem_cons_of_mem _ hx)) ?_
    split
    · exact hl y (List.mem_cons_self ..)
    · exact ha
set_option maxRecDepth 100000 in
set_option maxHeartbeats 4000000 in
theorem under_any (A : Option Addr) (c : Nat) (xs : List Ty108) (s : ByteArray) (w : World) (h0 : Rows w (A) 2 (xs.map Ty108.cells))  :
    Calls Try.prog 71 #[.slice (A) (xs.length) (c), .string s] w fun e w' => e = .returned (.string (undF xs s)) ∧ Below w.heap.size w w' := by
  have hl_xs : xs.length ≤ 9223372036854775807 := by have := h0.1; simpa [strs, ptrs] using this
  have H0 := Lib.hid h0
  clear h0
  suffices hQ : ∀ Q : Ending → World → Prop, Hid (∀ (e : Ending) (w' : World), (e = .returned (.string (undF xs s)) ∧ Below w.heap.size w w') → Post1 Q e w') → Calls Try.prog 71 #[.slice (A) (xs.length) (c), .string s] w (fun e w' => Post1 Q e w') from hQ (fun e w' => e = .returned (.string (undF xs s)) ∧ Below w.heap.size w w') (fun _ _ h => by unfold Post1; exact h)
  intro Q HQ
  go_enter Try.func71, Try.ntmps71
  go_wp2_with fail
  go_loopw [5, 10] (fun v5 v10 wr => ∃ k : Nat, (k ≤ xs.length) ∧ v5 = .string (undF (xs.take k) s) ∧ v10 = .int .i64 (↑k) ∧ Hid (Below w.heap.size w wr)) (fun v5 v10 _ => xs.length - (intOf v10).toNat)
  case atStart => exact ⟨0, (by omega), rfl, rfl, (Below.refl _ _)⟩
  case round =>
    obtain ⟨k, hk2, rfl, rfl, L0_B⟩ := hrel
    by_cases hlt_k : k < xs.length
    · obtain ⟨ad_k, rfl⟩ := (H0.out.below L0_B.out).addr (by simp [strs, ptrs]; omega)
      cases hc1 : (xs[k].fKey.toList == s.toList)
      · have hc1' : (xs[k].fKey.toList != s.toList) = true := by rw [bne, hc1]; rfl
        go_wp2_with (first
          | ((with_reducible refine at_dst (N := 13) rfl ?_); refine ev_loadR rfl 108 _ rfl _ rfl [.string xs[k].fKey, .string xs[k].fText] ((H0.out.below L0_B.out).el (j := k) (row := xs[k].cells) (by simp [hlt_k])) _ Try.underlying108 rfl tsz108 ?_)
          | ((with_reducible refine at_dst (N := 7) rfl ?_); refine ev_alloc rfl 108 rfl _ _ tz108 ?_; intro g7 w1 hg hB hb
             have low_g7 := Nat.le_trans L0_B.out.size hg
             have B_w1 := Lib.hid (below_trans L0_B.out hb)
             have g7_w1 : Hid (Blk w1 g7 108 #[.string ⟨#[]⟩, .string ⟨#[]⟩]) := hB
             clear hB hb)
          | (refine ev_store rfl 108 _ _ rfl g7 _ _ rfl rfl 108 g7_w1.out tsz108 rfl rfl ?_; intro w2 hB hg hz
             have hx := GrX.grown (S := fun k => k = g7) hg rfl
             have B_w2 := Lib.hid (below_grx B_w1.out hx B_w1.out.size (fun k => (fun e => e ▸ low_g7)))
             clear hx
             have g7_w2 : Hid (Blk w2 g7 108 #[.string xs[k].fKey, .string xs[k].fText]) := hB
             clear hB hg hz)
          | ((with_reducible refine at_dst (N := 15) rfl ?_); refine ev_ld rfl 9 _ rfl ⟨g7, 0, none⟩ rfl (.string xs[k].fKey) (g7_w2.out.cell 0) _ Try.underlying9 rfl ?_))
        refine ⟨⟨k + 1, (by omega), (by rw [undF_take hlt_k]; simp only [*]; rfl), by go_num, B_w2⟩, ?_⟩
        simp [intOf]; omega
      · have hc1' : (xs[k].fKey.toList != s.toList) = false := by rw [bne, hc1]; rfl
        go_wp2_with (first
          | ((with_reducible refine at_dst (N := 13) rfl ?_); refine ev_loadR rfl 108 _ rfl _ rfl [.string xs[k].fKey, .string xs[k].fText] ((H0.out.below L0_B.out).el (j := k) (row := xs[k].cells) (by simp [hlt_k])) _ Try.underlying108 rfl tsz108 ?_)
          | ((with_reducible refine at_dst (N := 7) rfl ?_); refine ev_alloc rfl 108 rfl _ _ tz108 ?_; intro g7 w1 hg hB hb
             have low_g7 := Nat.le_trans L0_B.out.size hg
             have B_w1 := Lib.hid (below_trans L0_B.out hb)
             have g7_w1 : Hid (Blk w1 g7 108 #[.string ⟨#[]⟩, .string ⟨#[]⟩]) := hB
             clear hB hb)
          | (refine ev_store rfl 108 _ _ rfl g7 _ _ rfl rfl 108 g7_w1.out tsz108 rfl rfl ?_; intro w2 hB hg hz
             have hx := GrX.grown (S := fun k => k = g7) hg rfl
             have B_w2 := Lib.hid (below_grx B_w1.out hx B_w1.out.size (fun k => (fun e => e ▸ low_g7)))
             clear hx
             have g7_w2 : Hid (Blk w2 g7 108 #[.string xs[k].fKey, .string xs[k].fText]) := hB
             clear hB hg hz)
          | ((with_reducible refine at_dst (N := 15) rfl ?_); refine ev_ld rfl 9 _ rfl ⟨g7, 0, none⟩ rfl (.string xs[k].fKey) (g7_w2.out.cell 0) _ Try.underlying9 rfl ?_)
          | ((with_reducible refine at_dst (N := 19) rfl ?_); refine ev_ld rfl 9 _ rfl ⟨g7, 1, none⟩ rfl (.string xs[k].fText) (g7_w2.out.cell 1) _ Try.underlying9 rfl ?_))
        refine ⟨⟨k + 1, (by omega), (by rw [undF_take hlt_k]; simp only [*]; rfl), by go_num, B_w2⟩, ?_⟩
        simp [intOf]; omega
    · obtain rfl : k = xs.length := by omega
      rw [List.take_length]
      go_wp2_with fail
      go_ret
      exact HQ.out _ _ ⟨rfl, L0_B.out⟩
end Go.Proofs.Ytkjcedlgljeoiaa
