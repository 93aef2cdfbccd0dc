/- FnHlRepos: the walk. -/
import Derived.Test.YtkjcedlgljeoiaaRP7
namespace Go.Proofs.Ytkjcedlgljeoiaa
open Go.RowKit Go.Lib
set_option linter.unusedVariables false
set_option linter.unusedSimpArgs false
theorem eqlT52 (x0 y0 : ByteArray) (x1 y1 : ByteArray) (w : World) : (binOp .eql 52 (.agg #[.string x0, .string x1]) (.agg #[.string y0, .string y1])).run Try.prog w = .ok (.bool ((x0.toList == y0.toList) && (x1.toList == y1.toList))) w := by
  have u9 := Try.underlying9
  have a9 : (isAgg 9).run Try.prog w = .ok false w := by unfold isAgg; rw [Sem.run_bind, run_underlying u9 w]; rfl
  have z9 : (sizeOf 9).run Try.prog w = .ok 1 w := by kernel_rfl
  have hS : Try.prog.underlying 52 = some (.struct (Try.prog.fieldsOf 52)) := by kernel_rfl
  have hp : Try.prog.stoodInHeld 52 = false := by kernel_rfl
  rw [run_eql_struct, show (10000 : Nat) = 9999 + 1 from rfl, run_equalIn_agg w 9999 52 _ _ hS hp]
  simp only [Program.fieldsOf, Try.underlying52]
  go_simp
  cases h0 : (x0.toList == y0.toList) <;> cases h1 : (x1.toList == y1.toList) <;> simp_all
theorem neqT52 (x0 y0 : ByteArray) (x1 y1 : ByteArray) (w : World) : (binOp .neq 52 (.agg #[.string x0, .string x1]) (.agg #[.string y0, .string y1])).run Try.prog w = .ok (.bool (!((x0.toList == y0.toList) && (x1.toList == y1.toList)))) w := by
  have u9 := Try.underlying9
  have a9 : (isAgg 9).run Try.prog w = .ok false w := by unfold isAgg; rw [Sem.run_bind, run_underlying u9 w]; rfl
  have z9 : (sizeOf 9).run Try.prog w = .ok 1 w := by kernel_rfl
  have hS : Try.prog.underlying 52 = some (.struct (Try.prog.fieldsOf 52)) := by kernel_rfl
  have hp : Try.prog.stoodInHeld 52 = false := by kernel_rfl
  rw [run_neq_struct, show (10000 : Nat) = 9999 + 1 from rfl, run_equalIn_agg w 9999 52 _ _ hS hp]
  simp only [Program.fieldsOf, Try.underlying52]
  go_simp
  cases h0 : (x0.toList == y0.toList) <;> cases h1 : (x1.toList == y1.toList) <;> simp_all
set_option maxRecDepth 100000 in
set_option maxHeartbeats 16000000 in
theorem fnHlRepos_K (A : Option Addr) (c : Nat) (ss : List Ty50) (w : World) (h0 : Rows w (A) 3 (ss.map Ty50.cells)) (h1 : Ty50.oks ss w)  :
    Calls Try.prog 5 #[.slice (A) (ss.length) (c)] w fun e w' => e = .returned (.bool true) ∧ Below w.heap.size w w' := by
  have hl_ss : ss.length ≤ 9223372036854775807 := by have := h0.1; simpa [strs, ptrs] using this
  have H0 := Lib.hid h0
  clear h0
  have H1 := Lib.hid h1
  clear h1
  suffices hQ : ∀ Q : Ending → World → Prop, Hid (∀ (e : Ending) (w' : World), (e = .returned (.bool true) ∧ Below w.heap.size w w') → Post1 Q e w') → Calls Try.prog 5 #[.slice (A) (ss.length) (c)] w (fun e w' => Post1 Q e w') from hQ (fun e w' => e = .returned (.bool true) ∧ Below w.heap.size w w') (fun _ _ h => by unfold Post1; exact h)
  intro Q HQ
  go_enter Try.func5, Try.ntmps5
  cases hc1 : (fits24 ss)
  · go_wp2_with (first
      | (go_at_call 24; (with_reducible refine (fits24_any A c ss _ H0.out H1.out).mono ?_); rintro e w1 ⟨rfl, hb⟩; rw [hc1]
         have B_w1 := Lib.hid (below_trans (Below.refl _ _) hb)
         clear hb))
    go_ret
    exact HQ.out _ _ ⟨rfl, B_w1.out⟩
  · by_cases hc2 : (40 : Int) < ↑ss.length
    · go_wp2_with (first
        | (go_at_call 24; (with_reducible refine (fits24_any A c ss _ H0.out H1.out).mono ?_); rintro e w1 ⟨rfl, hb⟩; rw [hc1]
           have B_w1 := Lib.hid (below_trans (Below.refl _ _) hb)
           clear hb))
      go_ret
      exact HQ.out _ _ ⟨rfl, B_w1.out⟩
    · go_wp2_with (first
        | (go_at_call 24; (with_reducible refine (fits24_any A c ss _ H0.out H1.out).mono ?_); rintro e w1 ⟨rfl, hb⟩; rw [hc1]
           have B_w1 := Lib.hid (below_trans (Below.refl _ _) hb)
           clear hb))
      go_loopw [22] (fun v22 wr => ∃ k : Nat, (k ≤ ss.length) ∧ v22 = .int .i64 (↑k) ∧ Hid (∀ j, ∀ h : j < ss.length, j < k → 0 ≤ ss[j].fOp ∧ ss[j].fOp ≤ 4 ∧ ss[j].fRepos.length ≤ 6) ∧ Hid (Below w.heap.size w wr)) (fun v22 _ => ss.length - (intOf v22).toNat)
      case atStart => exact ⟨0, (by omega), rfl, (fun j _ h => by omega), B_w1⟩
      case round =>
        obtain ⟨k, hk, rfl, L0_all, L0_B⟩ := hrel
        by_cases hlt_k : k < ss.length
        · obtain ⟨ad_k, rfl⟩ := (H0.out.below L0_B.out).addr (by simp [strs, ptrs]; omega)
          have HE := Lib.hid (Ty50.oks.at H1.out hlt_k)
          obtain ⟨xa, hxa⟩ : ∃ a, ss[k].fRepos_a = a := ⟨_, rfl⟩
          have HXR := Lib.hid (show Rows w xa 2 (ss[k].fRepos.map Ty52.cells) by rw [← hxa]; exact Ty50.ok_rRepos HE.out)
          by_cases hc3 : (ss[k].fOp : Int) < 0
          · go_wp2_with (first
              | ((with_reducible refine at_dst (N := 25) rfl ?_); refine ev_loadR rfl 50 _ rfl _ rfl [.int .i64 ss[k].fOp, .slice xa ss[k].fRepos.length ss[k].fRepos_c, .string ss[k].fName] (by rw [← hxa]; exact ((H0.out.below L0_B.out).el (j := k) (row := ss[k].cells) (by simp [hlt_k]))) _ Try.underlying50 rfl tsz50 ?_)
              | ((with_reducible refine at_dst (N := 4) rfl ?_); refine ev_alloc rfl 50 rfl _ _ tz50 ?_; intro g4 w2 hg hB hb
                 have low_g4 := Nat.le_trans L0_B.out.size hg
                 have B_w2 := Lib.hid (below_trans L0_B.out hb)
                 have g4_w2 : Hid (Blk w2 g4 50 #[.int .i64 0, .slice none 0 0, .string ⟨#[]⟩]) := hB
                 clear hB hb)
              | (refine ev_store rfl 50 _ _ rfl g4 _ _ rfl rfl 50 g4_w2.out tsz50 rfl rfl ?_; intro w3 hB hg hz
                 have hx := GrX.grown (S := fun k => k = g4) hg rfl
                 have B_w3 := Lib.hid (below_grx B_w2.out hx B_w2.out.size (fun k => (fun e => e ▸ low_g4)))
                 clear hx
                 have g4_w3 : Hid (Blk w3 g4 50 #[.int .i64 ss[k].fOp, .slice xa ss[k].fRepos.length ss[k].fRepos_c, .string ss[k].fName]) := hB
                 clear hB hg hz)
              | ((with_reducible refine at_dst (N := 27) rfl ?_); refine ev_ld rfl 3 _ rfl ⟨g4, 0, none⟩ rfl (.int .i64 ss[k].fOp) (g4_w3.out.cell 0) _ Try.underlying3 rfl ?_))
            go_ret
            exact HQ.out _ _ ⟨rfl, B_w3.out⟩
          · by_cases hc4 : (4 : Int) < ss[k].fOp
            · go_wp2_with (first
                | ((with_reducible refine at_dst (N := 25) rfl ?_); refine ev_loadR rfl 50 _ rfl _ rfl [.int .i64 ss[k].fOp, .slice xa ss[k].fRepos.length ss[k].fRepos_c, .string ss[k].fName] (by rw [← hxa]; exact ((H0.out.below L0_B.out).el (j := k) (row := ss[k].cells) (by simp [hlt_k]))) _ Try.underlying50 rfl tsz50 ?_)
                | ((with_reducible refine at_dst (N := 4) rfl ?_); refine ev_alloc rfl 50 rfl _ _ tz50 ?_; intro g4 w2 hg hB hb
                   have low_g4 := Nat.le_trans L0_B.out.size hg
                   have B_w2 := Lib.hid (below_trans L0_B.out hb)
                   have g4_w2 : Hid (Blk w2 g4 50 #[.int .i64 0, .slice none 0 0, .string ⟨#[]⟩]) := hB
                   clear hB hb)
                | (refine ev_store rfl 50 _ _ rfl g4 _ _ rfl rfl 50 g4_w2.out tsz50 rfl rfl ?_; intro w3 hB hg hz
                   have hx := GrX.grown (S := fun k => k = g4) hg rfl
                   have B_w3 := Lib.hid (below_grx B_w2.out hx B_w2.out.size (fun k => (fun e => e ▸ low_g4)))
                   clear hx
                   have g4_w3 : Hid (Blk w3 g4 50 #[.int .i64 ss[k].fOp, .slice xa ss[k].fRepos.length ss[k].fRepos_c, .string ss[k].fName]) := hB
                   clear hB hg hz)
                | ((with_reducible refine at_dst (N := 27) rfl ?_); refine ev_ld rfl 3 _ rfl ⟨g4, 0, none⟩ rfl (.int .i64 ss[k].fOp) (g4_w3.out.cell 0) _ Try.underlying3 rfl ?_)
                | ((with_reducible refine at_dst (N := 31) rfl ?_); refine wl_guard rfl ?_; refine ev_ld rfl 3 _ rfl ⟨g4, 0, none⟩ rfl (.int .i64 ss[k].fOp) (g4_w3.out.cell 0) _ Try.underlying3 rfl ?_))
              go_ret
              exact HQ.out _ _ ⟨rfl, B_w3.out⟩
            · by_cases hc5 : (6 : Int) < ↑ss[k].fRepos.length
              · go_wp2_with (first
                  | ((with_reducible refine at_dst (N := 25) rfl ?_); refine ev_loadR rfl 50 _ rfl _ rfl [.int .i64 ss[k].fOp, .slice xa ss[k].fRepos.length ss[k].fRepos_c, .string ss[k].fName] (by rw [← hxa]; exact ((H0.out.below L0_B.out).el (j := k) (row := ss[k].cells) (by simp [hlt_k]))) _ Try.underlying50 rfl tsz50 ?_)
                  | ((with_reducible refine at_dst (N := 4) rfl ?_); refine ev_alloc rfl 50 rfl _ _ tz50 ?_; intro g4 w2 hg hB hb
                     have low_g4 := Nat.le_trans L0_B.out.size hg
                     have B_w2 := Lib.hid (below_trans L0_B.out hb)
                     have g4_w2 : Hid (Blk w2 g4 50 #[.int .i64 0, .slice none 0 0, .string ⟨#[]⟩]) := hB
                     clear hB hb)
                  | (refine ev_store rfl 50 _ _ rfl g4 _ _ rfl rfl 50 g4_w2.out tsz50 rfl rfl ?_; intro w3 hB hg hz
                     have hx := GrX.grown (S := fun k => k = g4) hg rfl
                     have B_w3 := Lib.hid (below_grx B_w2.out hx B_w2.out.size (fun k => (fun e => e ▸ low_g4)))
                     clear hx
                     have g4_w3 : Hid (Blk w3 g4 50 #[.int .i64 ss[k].fOp, .slice xa ss[k].fRepos.length ss[k].fRepos_c, .string ss[k].fName]) := hB
                     clear hB hg hz)
                  | ((with_reducible refine at_dst (N := 27) rfl ?_); refine ev_ld rfl 3 _ rfl ⟨g4, 0, none⟩ rfl (.int .i64 ss[k].fOp) (g4_w3.out.cell 0) _ Try.underlying3 rfl ?_)
                  | ((with_reducible refine at_dst (N := 31) rfl ?_); refine wl_guard rfl ?_; refine ev_ld rfl 3 _ rfl ⟨g4, 0, none⟩ rfl (.int .i64 ss[k].fOp) (g4_w3.out.cell 0) _ Try.underlying3 rfl ?_)
                  | ((with_reducible refine at_dst (N := 36) rfl ?_); refine wl_guard rfl ?_; refine ev_ld rfl 48 _ rfl ⟨g4, 1, none⟩ rfl (.slice xa ss[k].fRepos.length ss[k].fRepos_c) (g4_w3.out.cell 1) _ Try.underlying48 rfl ?_))
                go_ret
                exact HQ.out _ _ ⟨rfl, B_w3.out⟩
              · by_cases hc6 : (100 : Int) < ↑ss[k].fName.size
                · go_wp2_with (first
                    | ((with_reducible refine at_dst (N := 25) rfl ?_); refine ev_loadR rfl 50 _ rfl _ rfl [.int .i64 ss[k].fOp, .slice xa ss[k].fRepos.length ss[k].fRepos_c, .string ss[k].fName] (by rw [← hxa]; exact ((H0.out.below L0_B.out).el (j := k) (row := ss[k].cells) (by simp [hlt_k]))) _ Try.underlying50 rfl tsz50 ?_)
                    | ((with_reducible refine at_dst (N := 4) rfl ?_); refine ev_alloc rfl 50 rfl _ _ tz50 ?_; intro g4 w2 hg hB hb
                       have low_g4 := Nat.le_trans L0_B.out.size hg
                       have B_w2 := Lib.hid (below_trans L0_B.out hb)
                       have g4_w2 : Hid (Blk w2 g4 50 #[.int .i64 0, .slice none 0 0, .string ⟨#[]⟩]) := hB
                       clear hB hb)
                    | (refine ev_store rfl 50 _ _ rfl g4 _ _ rfl rfl 50 g4_w2.out tsz50 rfl rfl ?_; intro w3 hB hg hz
                       have hx := GrX.grown (S := fun k => k = g4) hg rfl
                       have B_w3 := Lib.hid (below_grx B_w2.out hx B_w2.out.size (fun k => (fun e => e ▸ low_g4)))
                       clear hx
                       have g4_w3 : Hid (Blk w3 g4 50 #[.int .i64 ss[k].fOp, .slice xa ss[k].fRepos.length ss[k].fRepos_c, .string ss[k].fName]) := hB
                       clear hB hg hz)
                    | ((with_reducible refine at_dst (N := 27) rfl ?_); refine ev_ld rfl 3 _ rfl ⟨g4, 0, none⟩ rfl (.int .i64 ss[k].fOp) (g4_w3.out.cell 0) _ Try.underlying3 rfl ?_)
                    | ((with_reducible refine at_dst (N := 31) rfl ?_); refine wl_guard rfl ?_; refine ev_ld rfl 3 _ rfl ⟨g4, 0, none⟩ rfl (.int .i64 ss[k].fOp) (g4_w3.out.cell 0) _ Try.underlying3 rfl ?_)
                    | ((with_reducible refine at_dst (N := 36) rfl ?_); refine wl_guard rfl ?_; refine ev_ld rfl 48 _ rfl ⟨g4, 1, none⟩ rfl (.slice xa ss[k].fRepos.length ss[k].fRepos_c) (g4_w3.out.cell 1) _ Try.underlying48 rfl ?_)
                    | ((with_reducible refine at_dst (N := 42) rfl ?_); refine wl_guard rfl ?_; refine ev_ld rfl 9 _ rfl ⟨g4, 2, none⟩ rfl (.string ss[k].fName) (g4_w3.out.cell 2) _ Try.underlying9 rfl ?_))
                  go_ret
                  exact HQ.out _ _ ⟨rfl, B_w3.out⟩
                · go_wp2_with (first
                    | ((with_reducible refine at_dst (N := 25) rfl ?_); refine ev_loadR rfl 50 _ rfl _ rfl [.int .i64 ss[k].fOp, .slice xa ss[k].fRepos.length ss[k].fRepos_c, .string ss[k].fName] (by rw [← hxa]; exact ((H0.out.below L0_B.out).el (j := k) (row := ss[k].cells) (by simp [hlt_k]))) _ Try.underlying50 rfl tsz50 ?_)
                    | ((with_reducible refine at_dst (N := 4) rfl ?_); refine ev_alloc rfl 50 rfl _ _ tz50 ?_; intro g4 w2 hg hB hb
                       have low_g4 := Nat.le_trans L0_B.out.size hg
                       have B_w2 := Lib.hid (below_trans L0_B.out hb)
                       have g4_w2 : Hid (Blk w2 g4 50 #[.int .i64 0, .slice none 0 0, .string ⟨#[]⟩]) := hB
                       clear hB hb)
                    | (refine ev_store rfl 50 _ _ rfl g4 _ _ rfl rfl 50 g4_w2.out tsz50 rfl rfl ?_; intro w3 hB hg hz
                       have hx := GrX.grown (S := fun k => k = g4) hg rfl
                       have B_w3 := Lib.hid (below_grx B_w2.out hx B_w2.out.size (fun k => (fun e => e ▸ low_g4)))
                       clear hx
                       have g4_w3 : Hid (Blk w3 g4 50 #[.int .i64 ss[k].fOp, .slice xa ss[k].fRepos.length ss[k].fRepos_c, .string ss[k].fName]) := hB
                       clear hB hg hz)
                    | ((with_reducible refine at_dst (N := 27) rfl ?_); refine ev_ld rfl 3 _ rfl ⟨g4, 0, none⟩ rfl (.int .i64 ss[k].fOp) (g4_w3.out.cell 0) _ Try.underlying3 rfl ?_)
                    | ((with_reducible refine at_dst (N := 31) rfl ?_); refine wl_guard rfl ?_; refine ev_ld rfl 3 _ rfl ⟨g4, 0, none⟩ rfl (.int .i64 ss[k].fOp) (g4_w3.out.cell 0) _ Try.underlying3 rfl ?_)
                    | ((with_reducible refine at_dst (N := 36) rfl ?_); refine wl_guard rfl ?_; refine ev_ld rfl 48 _ rfl ⟨g4, 1, none⟩ rfl (.slice xa ss[k].fRepos.length ss[k].fRepos_c) (g4_w3.out.cell 1) _ Try.underlying48 rfl ?_)
                    | ((with_reducible refine at_dst (N := 42) rfl ?_); refine wl_guard rfl ?_; refine ev_ld rfl 9 _ rfl ⟨g4, 2, none⟩ rfl (.string ss[k].fName) (g4_w3.out.cell 2) _ Try.underlying9 rfl ?_)
                    | ((with_reducible refine at_dst (N := 47) rfl ?_); refine ev_ld rfl 48 _ rfl ⟨g4, 1, none⟩ rfl (.slice xa ss[k].fRepos.length ss[k].fRepos_c) (g4_w3.out.cell 1) _ Try.underlying48 rfl ?_))
                  go_loopw [49] (fun v49 wr => ∃ j : Nat, (j ≤ ss[k].fRepos.length) ∧ v49 = .int .i64 (↑j) ∧ Hid (Blk wr g4 50 #[.int .i64 ss[k].fOp, .slice xa ss[k].fRepos.length ss[k].fRepos_c, .string ss[k].fName]) ∧ Hid (∀ j, ∀ h : j < ss.length, j < k → 0 ≤ ss[j].fOp ∧ ss[j].fOp ≤ 4 ∧ ss[j].fRepos.length ≤ 6) ∧ Hid (Below w.heap.size w wr)) (fun v49 _ => ss[k].fRepos.length - (intOf v49).toNat)
                  case atStart => exact ⟨0, (by omega), rfl, g4_w3, L0_all, B_w3⟩
                  case round =>
                    obtain ⟨j, hj, rfl, L1_g4, L1_all, L1_B⟩ := hrel
                    by_cases hlt_j : j < ss[k].fRepos.length
                    · obtain ⟨ad_j, rfl⟩ := (HXR.out.below L1_B.out).addr (by simp [strs, ptrs]; omega)
                      by_cases hc7 : (100 : Int) < ↑(ss[k].fRepos[j].fName).size
                      · go_wp2_with (first
                          | ((with_reducible refine at_dst (N := 52) rfl ?_); refine ev_loadR rfl 52 _ rfl _ rfl [.string (ss[k].fRepos[j].fName), .string (ss[k].fRepos[j].fURL)] ((HXR.out.below L1_B.out).el (j := j) (row := ss[k].fRepos[j].cells) (by simp [hlt_j])) _ Try.underlying52 rfl tsz52 ?_)
                          | ((with_reducible refine at_dst (N := 6) rfl ?_); refine ev_alloc rfl 52 rfl _ _ tz52 ?_; intro g6 w4 hg hB hb
                             have n_g4_g6 : g4 ≠ g6 := by have := L1_g4.out.lt; omega
                             have low_g6 := Nat.le_trans L1_B.out.size hg
                             have g4_w4 := Lib.hid (L1_g4.out.below hb)
                             have B_w4 := Lib.hid (below_trans L1_B.out hb)
                             have g6_w4 : Hid (Blk w4 g6 52 #[.string ⟨#[]⟩, .string ⟨#[]⟩]) := hB
                             clear hB hb)
                          | (refine ev_store rfl 52 _ _ rfl g6 _ _ rfl rfl 52 g6_w4.out tsz52 rfl rfl ?_; intro w5 hB hg hz
                             have hx := GrX.grown (S := fun k => k = g6) hg rfl
                             have g4_w5 := Lib.hid (g4_w4.out.grx hx (fun e => n_g4_g6 e))
                             have B_w5 := Lib.hid (below_grx B_w4.out hx B_w4.out.size (fun k => (fun e => e ▸ low_g6)))
                             clear hx
                             have g6_w5 : Hid (Blk w5 g6 52 #[.string (ss[k].fRepos[j].fName), .string (ss[k].fRepos[j].fURL)]) := hB
                             clear hB hg hz)
                          | ((with_reducible refine at_dst (N := 54) rfl ?_); refine ev_ld rfl 9 _ rfl ⟨g6, 0, none⟩ rfl (.string (ss[k].fRepos[j].fName)) (g6_w5.out.cell 0) _ Try.underlying9 rfl ?_))
                        go_ret
                        exact HQ.out _ _ ⟨rfl, B_w5.out⟩
                      · by_cases hc8 : (100 : Int) < ↑(ss[k].fRepos[j].fURL).size
                        · go_wp2_with (first
                            | ((with_reducible refine at_dst (N := 52) rfl ?_); refine ev_loadR rfl 52 _ rfl _ rfl [.string (ss[k].fRepos[j].fName), .string (ss[k].fRepos[j].fURL)] ((HXR.out.below L1_B.out).el (j := j) (row := ss[k].fRepos[j].cells) (by simp [hlt_j])) _ Try.underlying52 rfl tsz52 ?_)
                            | ((with_reducible refine at_dst (N := 6) rfl ?_); refine ev_alloc rfl 52 rfl _ _ tz52 ?_; intro g6 w4 hg hB hb
                               have n_g4_g6 : g4 ≠ g6 := by have := L1_g4.out.lt; omega
                               have low_g6 := Nat.le_trans L1_B.out.size hg
                               have g4_w4 := Lib.hid (L1_g4.out.below hb)
                               have B_w4 := Lib.hid (below_trans L1_B.out hb)
                               have g6_w4 : Hid (Blk w4 g6 52 #[.string ⟨#[]⟩, .string ⟨#[]⟩]) := hB
                               clear hB hb)
                            | (refine ev_store rfl 52 _ _ rfl g6 _ _ rfl rfl 52 g6_w4.out tsz52 rfl rfl ?_; intro w5 hB hg hz
                               have hx := GrX.grown (S := fun k => k = g6) hg rfl
                               have g4_w5 := Lib.hid (g4_w4.out.grx hx (fun e => n_g4_g6 e))
                               have B_w5 := Lib.hid (below_grx B_w4.out hx B_w4.out.size (fun k => (fun e => e ▸ low_g6)))
                               clear hx
                               have g6_w5 : Hid (Blk w5 g6 52 #[.string (ss[k].fRepos[j].fName), .string (ss[k].fRepos[j].fURL)]) := hB
                               clear hB hg hz)
                            | ((with_reducible refine at_dst (N := 54) rfl ?_); refine ev_ld rfl 9 _ rfl ⟨g6, 0, none⟩ rfl (.string (ss[k].fRepos[j].fName)) (g6_w5.out.cell 0) _ Try.underlying9 rfl ?_)
                            | ((with_reducible refine at_dst (N := 59) rfl ?_); refine wl_guard rfl ?_; refine ev_ld rfl 9 _ rfl ⟨g6, 1, none⟩ rfl (.string (ss[k].fRepos[j].fURL)) (g6_w5.out.cell 1) _ Try.underlying9 rfl ?_))
                          go_ret
                          exact HQ.out _ _ ⟨rfl, B_w5.out⟩
                        · go_wp2_with (first
                            | ((with_reducible refine at_dst (N := 52) rfl ?_); refine ev_loadR rfl 52 _ rfl _ rfl [.string (ss[k].fRepos[j].fName), .string (ss[k].fRepos[j].fURL)] ((HXR.out.below L1_B.out).el (j := j) (row := ss[k].fRepos[j].cells) (by simp [hlt_j])) _ Try.underlying52 rfl tsz52 ?_)
                            | ((with_reducible refine at_dst (N := 6) rfl ?_); refine ev_alloc rfl 52 rfl _ _ tz52 ?_; intro g6 w4 hg hB hb
                               have n_g4_g6 : g4 ≠ g6 := by have := L1_g4.out.lt; omega
                               have low_g6 := Nat.le_trans L1_B.out.size hg
                               have g4_w4 := Lib.hid (L1_g4.out.below hb)
                               have B_w4 := Lib.hid (below_trans L1_B.out hb)
                               have g6_w4 : Hid (Blk w4 g6 52 #[.string ⟨#[]⟩, .string ⟨#[]⟩]) := hB
                               clear hB hb)
                            | (refine ev_store rfl 52 _ _ rfl g6 _ _ rfl rfl 52 g6_w4.out tsz52 rfl rfl ?_; intro w5 hB hg hz
                               have hx := GrX.grown (S := fun k => k = g6) hg rfl
                               have g4_w5 := Lib.hid (g4_w4.out.grx hx (fun e => n_g4_g6 e))
                               have B_w5 := Lib.hid (below_grx B_w4.out hx B_w4.out.size (fun k => (fun e => e ▸ low_g6)))
                               clear hx
                               have g6_w5 : Hid (Blk w5 g6 52 #[.string (ss[k].fRepos[j].fName), .string (ss[k].fRepos[j].fURL)]) := hB
                               clear hB hg hz)
                            | ((with_reducible refine at_dst (N := 54) rfl ?_); refine ev_ld rfl 9 _ rfl ⟨g6, 0, none⟩ rfl (.string (ss[k].fRepos[j].fName)) (g6_w5.out.cell 0) _ Try.underlying9 rfl ?_)
                            | ((with_reducible refine at_dst (N := 59) rfl ?_); refine wl_guard rfl ?_; refine ev_ld rfl 9 _ rfl ⟨g6, 1, none⟩ rfl (.string (ss[k].fRepos[j].fURL)) (g6_w5.out.cell 1) _ Try.underlying9 rfl ?_))
                          refine ⟨⟨j + 1, (by omega), by go_num, g4_w5, L1_all, B_w5⟩, ?_⟩
                          simp [intOf]; omega
                    · obtain rfl : j = ss[k].fRepos.length := by omega
                      go_wp2_with fail
                      refine ⟨⟨k + 1, (by omega), by go_num, (fun j hj h => by by_cases e : j = k; (subst e; exact ⟨by omega, by omega, by omega⟩); exact L0_all.out j hj (by omega)), L1_B⟩, ?_⟩
                      simp [intOf]; omega
        · obtain rfl : k = ss.length := by omega
          have HS : Hid (∀ s ∈ ss, 0 ≤ s.fOp ∧ s.fOp ≤ 4 ∧ s.fRepos.length ≤ 6) := fun s hs => by
            obtain ⟨j, hj, rfl⟩ := List.mem_iff_getElem.1 hs
            exact L0_all.out j hj hj
          go_wp2_with (first
            | (go_at_call 25; (with_reducible refine (repos_any A c ss _ (H0.out.below L0_B.out) (Ty50.oks.below H1.out L0_B.out) (by first | omega | (simp; done) | (simp; omega)) HS.out).mono ?_); rintro e w2 ⟨A267, c267, zs67, rfl, hp0_67, hp1_67, hp2_67, hb⟩
               have B_w2 := Lib.hid (below_trans L0_B.out hb)
               have hp0_67 := own_mono hp0_67 L0_B.out.size
               have o67_0_w2 := Lib.hid hp0_67
               have f67_1_w2 := Lib.hid hp1_67
               have pp2_67 := hp2_67
               clear hb hp0_67 hp1_67 hp2_67)
            | (go_at_call 26; (with_reducible refine (hlRepos_any A c ss _ (H0.out.below B_w2.out) (Ty50.oks.below H1.out B_w2.out) (by first | omega | (simp; done) | (simp; omega)) HS.out).mono ?_); rintro e w3 ⟨A271, c271, zs71, rfl, hp0_71, hp1_71, hp2_71, hb⟩
               have o67_0_w3 := Lib.hid (own_below o67_0_w2.out hb)
               have f67_1_w3 := Lib.hid (DonesOk.below f67_1_w2.out hb)
               have B_w3 := Lib.hid (below_trans B_w2.out hb)
               have hp0_71 := own_mono hp0_71 B_w2.out.size
               have o71_0_w3 := Lib.hid hp0_71
               have f71_1_w3 := Lib.hid hp1_71
               have pp2_71 := hp2_71
               clear hb hp0_71 hp1_71 hp2_71))
          go_loopw [83] (fun v83 wr => ∃ k : Nat, (k ≤ ss.length) ∧ v83 = .int .i64 (↑k) ∧ Hid (World.ownsRow wr w.heap.size 58 2 (.slice A267 ss.length c267) ss.length (flatC Ty58.cells zs67)) ∧ Hid (World.ownsRow wr w.heap.size 58 2 (.slice A271 ss.length c271) ss.length (flatC Ty58.cells zs71)) ∧ Hid (DonesOk zs67 wr) ∧ Hid (DonesOk zs71 wr) ∧ Hid (Below w.heap.size w wr)) (fun v83 _ => ss.length - (intOf v83).toNat)
          case atStart => exact ⟨0, (by omega), rfl, o67_0_w3, o71_0_w3, f67_1_w3, f71_1_w3, B_w3⟩
          case round =>
            obtain ⟨k, hk, rfl, L2_o7, L2_o9, L2_dz1, L2_dz2, L2_B⟩ := hrel
            by_cases hlt_k : k < ss.length
            · have hm : zs67.map keyD = zs71.map keyD := pp2_67.trans pp2_71.symm
              have hn1 : zs67.length = ss.length := by have := congrArg List.length pp2_67; rwa [List.length_map, dones_len] at this
              have hn2 : zs71.length = ss.length := by have := congrArg List.length pp2_71; rwa [List.length_map, dones_len] at this
              have hk1 : k < zs67.length := by omega
              have hk2 : k < zs71.length := by omega
              have hkey : keyD zs67[k] = keyD zs71[k] := by have h0 := congrArg (fun l => l[k]?) hm; simpa [hk1, hk2] using h0
              have hI : zs67[k].fIs = zs71[k].fIs := congrArg Prod.fst hkey
              have hR : zs67[k].fRepos = zs71[k].fRepos := congrArg Prod.snd hkey
              obtain ⟨a1, ha1⟩ : ∃ a, zs67[k].fRepos_a = a := ⟨_, rfl⟩
              obtain ⟨a2, ha2⟩ : ∃ a, zs71[k].fRepos_a = a := ⟨_, rfl⟩
              have HT1 := Lib.hid (show TSl wr a1 52 (flatC Ty52.cells zs71[k].fRepos) by have h0 := L2_dz1.out _ (List.getElem_mem hk1); rw [ha1, hR] at h0; exact h0)
              have HT2 := Lib.hid (show TSl wr a2 52 (flatC Ty52.cells zs71[k].fRepos) by have h0 := L2_dz2.out _ (List.getElem_mem hk2); rw [ha2] at h0; exact h0)
              have hlz : zs71[k].fRepos.length * 2 ≤ 9223372036854775807 := by have h0 := HT2.out.sl.1; rwa [flatC_len Ty52.len] at h0
              have HK := Lib.hid (And.intro hI hR)
              clear hm hkey hI hR
              obtain ⟨ad7, rfl⟩ := (own_rowsT1 L2_o7.out hn1 (by decide) (fun x => rfl) (by omega)).addr (by simp; omega)
              obtain ⟨ad9, rfl⟩ := (own_rowsT1 L2_o9.out hn2 (by decide) (fun x => rfl) (by omega)).addr (by simp; omega)
              go_upto_region 24 with (first
                | ((with_reducible refine at_dst (N := 87) rfl ?_); refine ev_loadR rfl 58 _ rfl _ rfl [.bool zs71[k].fIs, .slice a2 zs71[k].fRepos.length zs71[k].fRepos_c] (show ∀ i u, ([.bool zs71[k].fIs, .slice a2 zs71[k].fRepos.length zs71[k].fRepos_c] : List Value)[i]? = some u → wr.cell? ((ad9.add (k * 2)).add i) = some u by have h0 := (own_rowsT1 L2_o9.out hn2 (by decide) (fun x => rfl) (by omega)).el (j := k) (row := zs71[k].cells) (by simp [hk2]); simp only [Ty58.cells, ha2] at h0; exact h0) _ Try.underlying58 rfl tsz58 ?_)
                | ((with_reducible refine at_dst (N := 11) rfl ?_); refine ev_alloc rfl 58 rfl _ _ tz58 ?_; intro g11 w4 hg hB hb
                   have nr_o7_g11 := own_fresh' L2_o7.out hg
                   have nr_o9_g11 := own_fresh' L2_o9.out hg
                   have low_g11 := Nat.le_trans L2_B.out.size hg
                   have o7_w4 := Lib.hid (own_below L2_o7.out hb)
                   have o9_w4 := Lib.hid (own_below L2_o9.out hb)
                   have dz1_w4 := Lib.hid (DonesOk.below L2_dz1.out hb)
                   have dz2_w4 := Lib.hid (DonesOk.below L2_dz2.out hb)
                   have t1_w4 := Lib.hid (HT1.out.below hb)
                   have t2_w4 := Lib.hid (HT2.out.below hb)
                   have B_w4 := Lib.hid (below_trans L2_B.out hb)
                   have g11_w4 : Hid (Blk w4 g11 58 #[.bool false, .slice none 0 0]) := hB
                   clear hB hb)
                | (refine ev_store rfl 58 _ _ rfl g11 _ _ rfl rfl 58 g11_w4.out tsz58 rfl rfl ?_; intro w5 hB hg hz
                   have hx := GrX.grown (S := fun k => k = g11) hg rfl
                   have o7_w5 := Lib.hid (own_grx o7_w4.out hx (fun k hk => (fun e => nr_o7_g11 (e ▸ hk))))
                   have o9_w5 := Lib.hid (own_grx o9_w4.out hx (fun k hk => (fun e => nr_o9_g11 (e ▸ hk))))
                   have dz1_w5 := Lib.hid (DonesOk.ap dz1_w4.out hx (SApart.blk g11_w4.out (by decide)))
                   have dz2_w5 := Lib.hid (DonesOk.ap dz2_w4.out hx (SApart.blk g11_w4.out (by decide)))
                   have t1_w5 := Lib.hid (TSl.ap (T := [52]) t1_w4.out hx (SApart.blk g11_w4.out (by decide)) (by simp))
                   have t2_w5 := Lib.hid (TSl.ap (T := [52]) t2_w4.out hx (SApart.blk g11_w4.out (by decide)) (by simp))
                   have B_w5 := Lib.hid (below_grx B_w4.out hx B_w4.out.size (fun k => (fun e => e ▸ low_g11)))
                   clear hx
                   have g11_w5 : Hid (Blk w5 g11 58 #[.bool zs71[k].fIs, .slice a2 zs71[k].fRepos.length zs71[k].fRepos_c]) := hB
                   clear hB hg hz))
              refine wp_region_grow [some [], some [], some [(0, 88), (1, 89)], some [(2, 90)], some [(3, 91)], some [], some [(5, 93)], some [(4, 92), (6, 94)], some [(7, 95)], some [(8, 96)], some [(8, 96)], some [(8, 96), (9, 97), (10, 98)], some [(8, 96), (11, 99)], some [(8, 96), (12, 100)], some [(8, 96), (13, 101)], some [(8, 96)], some [(8, 96), (15, 103)], some [(8, 96), (16, 104)], none, none]
                  [fun vv _ => vv = .slice (some ad7) ss.length c267,
                   fun vv _ => vv = .int .i64 (↑k),
                   fun vv _ => vv = .pointer (some (ad7.add (k * 2))),
                   fun vv _ => vv = .pointer (some (ad7.add (k * 2))),
                   fun vv _ => vv = .bool zs71[k].fIs,
                   fun vv _ => vv = .pointer (some ⟨g11, 0, none⟩),
                   fun vv _ => vv = .bool zs71[k].fIs,
                   fun vv _ => vv = .bool false,
                   fun vv _ => vv = .bool false,
                   fun vv _ => vv = .slice (some ad7) ss.length c267,
                   fun vv _ => vv = .int .i64 (↑k),
                   fun vv _ => vv = .pointer (some (ad7.add (k * 2))),
                   fun vv _ => vv = .pointer (some ⟨(ad7.add (k * 2)).block, (ad7.add (k * 2)).off + 1, none⟩),
                   fun vv _ => vv = .slice a1 zs71[k].fRepos.length zs67[k].fRepos_c,
                   fun vv _ => vv = .int .i64 (↑zs71[k].fRepos.length),
                   fun vv _ => vv = .pointer (some ⟨g11, 1, none⟩),
                   fun vv _ => vv = .slice a2 zs71[k].fRepos.length zs71[k].fRepos_c,
                   fun vv _ => vv = .int .i64 (↑zs71[k].fRepos.length),
                   fun _ _ => True,
                   fun _ _ => True] 129 (by kernel_rfl) rfl rfl (by kernel_rfl) ?_ ?_ ?_
              · intro p hp
                simp only [List.mem_cons, List.not_mem_nil, or_false] at hp
                rcases hp with rfl | rfl | rfl | rfl | rfl | rfl | rfl | rfl | rfl | rfl | rfl | rfl | rfl | rfl | rfl | rfl | rfl | rfl | rfl | rfl
                · exact stab_eq _
                · exact stab_eq _
                · exact stab_eq _
                · exact stab_eq _
                · exact stab_eq _
                · exact stab_eq _
                · exact stab_eq _
                · exact stab_eq _
                · exact stab_eq _
                · exact stab_eq _
                · exact stab_eq _
                · exact stab_eq _
                · exact stab_eq _
                · exact stab_eq _
                · exact stab_eq _
                · exact stab_eq _
                · exact stab_eq _
                · exact stab_eq _
                · exact stab_true
                · exact stab_true
              · simp only [oblGo, obl1, withDeps, oblK, postAt, List.getD_cons_zero, List.getD_cons_succ, forall_eq]
                refine ⟨?_, ?_, ?_, ?_, ?_, ?_, ?_, ?_, ?_, ?_, ?_, ?_, ?_, ?_, ?_, ?_, ?_, ?_, trivial⟩
                · intro wg hg
                  go_simp
                · intro wg hg
                  go_simp
                · intro wg hg
                  go_simp
                · intro wg hg
                  go_simp
                · intro wg hg
                  exact gr_ld 4 _ rfl _ rfl (.bool zs71[k].fIs) (hg.cell (cell0 (show ∀ i u, ([.bool zs71[k].fIs, .slice a1 zs71[k].fRepos.length zs67[k].fRepos_c] : List Value)[i]? = some u → w5.cell? ((ad7.add (k * 2)).add i) = some u by have h0 := (own_rowsT1 o7_w5.out hn1 (by decide) (fun x => rfl) (by omega)).el (j := k) (row := zs67[k].cells) (by simp [hk1]); simp only [Ty58.cells, ha1, HK.out.1, HK.out.2] at h0; exact h0) rfl)) _ Try.underlying4 rfl rfl
                · intro wg hg
                  go_simp
                · intro wg hg
                  exact gr_ld 4 _ rfl ⟨g11, 0, none⟩ rfl (.bool zs71[k].fIs) ((g11_w5.out.below hg).cell 0) _ Try.underlying4 rfl rfl
                · intro wg hg
                  go_simp
                  first | done | simp [*]
                · intro wg hg
                  go_simp
                · intro wg hg
                  rw [if_pos (by rfl)]
                  go_simp
                · intro wg hg
                  rw [if_pos (by rfl)]
                  go_simp
                · intro wg hg
                  rw [if_pos (by rfl)]
                  go_simp
                · intro wg hg
                  rw [if_pos (by rfl)]
                  go_simp
                · intro wg hg
                  rw [if_pos (by rfl)]
                  exact gr_ld 48 _ rfl _ rfl (.slice a1 zs71[k].fRepos.length zs67[k].fRepos_c) (hg.cell (cellj (show ∀ i u, ([.bool zs71[k].fIs, .slice a1 zs71[k].fRepos.length zs67[k].fRepos_c] : List Value)[i]? = some u → w5.cell? ((ad7.add (k * 2)).add i) = some u by have h0 := (own_rowsT1 o7_w5.out hn1 (by decide) (fun x => rfl) (by omega)).el (j := k) (row := zs67[k].cells) (by simp [hk1]); simp only [Ty58.cells, ha1, HK.out.1, HK.out.2] at h0; exact h0) 0 rfl)) _ Try.underlying48 rfl rfl
                · intro wg hg
                  rw [if_pos (by rfl)]
                  go_simp
                · intro wg hg
                  rw [if_pos (by rfl)]
                  go_simp
                · intro wg hg
                  rw [if_pos (by rfl)]
                  exact gr_ld 48 _ rfl ⟨g11, 1, none⟩ rfl (.slice a2 zs71[k].fRepos.length zs71[k].fRepos_c) ((g11_w5.out.below hg).cell 1) _ Try.underlying48 rfl rfl
                · intro wg hg
                  rw [if_pos (by rfl)]
                  go_simp
              simp only [headDs, withDeps, postAt, List.getD_cons_zero, List.getD_cons_succ, forall_eq, tailOps]
              intro w6 hgr
              simp only [Act.put, List.setIfInBounds_toArray, List.set_cons_succ, List.set_cons_zero]
              have o7_w6 := Lib.hid (own_below o7_w5.out (show Below _ _ _ from hgr))
              have o9_w6 := Lib.hid (own_below o9_w5.out (show Below _ _ _ from hgr))
              have dz1_w6 := Lib.hid (DonesOk.below dz1_w5.out (show Below _ _ _ from hgr))
              have dz2_w6 := Lib.hid (DonesOk.below dz2_w5.out (show Below _ _ _ from hgr))
              have t1_w6 := Lib.hid (t1_w5.out.below (show Below _ _ _ from hgr))
              have t2_w6 := Lib.hid (t2_w5.out.below (show Below _ _ _ from hgr))
              have g11_w6 := Lib.hid (g11_w5.out.below (show Below _ _ _ from hgr))
              have B_w6 := Lib.hid (below_trans B_w5.out (show Below _ _ _ from hgr))
              clear hgr
              go_wp2_with (first
                | ((with_reducible refine at_dst (N := 109) rfl ?_); refine ev_ld rfl 48 _ rfl ⟨g11, 1, none⟩ rfl (.slice a2 zs71[k].fRepos.length zs71[k].fRepos_c) (g11_w6.out.cell 1) _ Try.underlying48 rfl ?_))
              go_loopw [111] (fun v111 wr => ∃ j : Nat, (j ≤ zs71[k].fRepos.length) ∧ v111 = .int .i64 (↑j) ∧ Hid (World.ownsRow wr w.heap.size 58 2 (.slice (some ad7) ss.length c267) ss.length (flatC Ty58.cells zs67)) ∧ Hid (World.ownsRow wr w.heap.size 58 2 (.slice (some ad9) ss.length c271) ss.length (flatC Ty58.cells zs71)) ∧ Hid (DonesOk zs67 wr) ∧ Hid (DonesOk zs71 wr) ∧ Hid (TSl wr a1 52 (flatC Ty52.cells zs71[k].fRepos)) ∧ Hid (TSl wr a2 52 (flatC Ty52.cells zs71[k].fRepos)) ∧ Hid (Blk wr g11 58 #[.bool zs71[k].fIs, .slice a2 zs71[k].fRepos.length zs71[k].fRepos_c]) ∧ Hid (Below w.heap.size w wr)) (fun v111 _ => zs71[k].fRepos.length - (intOf v111).toNat)
              case atStart => exact ⟨0, (by omega), rfl, o7_w6, o9_w6, dz1_w6, dz2_w6, t1_w6, t2_w6, g11_w6, B_w6⟩
              case round =>
                obtain ⟨j, hj, rfl, L3_o7, L3_o9, L3_dz1, L3_dz2, L3_t1, L3_t2, L3_g11, L3_B⟩ := hrel
                by_cases hlt_j : j < zs71[k].fRepos.length
                · obtain ⟨ad_j, rfl⟩ := L3_t2.out.sl.addr (by rw [flatC_len Ty52.len]; omega)
                  obtain ⟨ad1, rfl⟩ := L3_t1.out.sl.addr (by rw [flatC_len Ty52.len]; omega)
                  go_upto_region 29 with (first
                    | ((with_reducible refine at_dst (N := 115) rfl ?_); refine ev_loadR rfl 52 _ rfl _ rfl [.string (zs71[k].fRepos[j].fName), .string (zs71[k].fRepos[j].fURL)] ((TSl.rows L3_t2.out (by decide) Ty52.len).el (j := j) (row := zs71[k].fRepos[j].cells) (by simp [hlt_j])) _ Try.underlying52 rfl tsz52 ?_)
                    | ((with_reducible refine at_dst (N := 13) rfl ?_); refine ev_alloc rfl 52 rfl _ _ tz52 ?_; intro g13 w7 hg hB hb
                       have n_g11_g13 : g11 ≠ g13 := by have := L3_g11.out.lt; omega
                       have low_g13 := Nat.le_trans L3_B.out.size hg
                       have lo_g13 := hg
                       have bo_g13 := Lib.hid hb
                       have o7_w7 := Lib.hid (own_below L3_o7.out hb)
                       have o9_w7 := Lib.hid (own_below L3_o9.out hb)
                       have dz1_w7 := Lib.hid (DonesOk.below L3_dz1.out hb)
                       have dz2_w7 := Lib.hid (DonesOk.below L3_dz2.out hb)
                       have t1_w7 := Lib.hid (L3_t1.out.below hb)
                       have t2_w7 := Lib.hid (L3_t2.out.below hb)
                       have g11_w7 := Lib.hid (L3_g11.out.below hb)
                       have B_w7 := Lib.hid (below_trans L3_B.out hb)
                       have g13_w7 : Hid (Blk w7 g13 52 #[.string ⟨#[]⟩, .string ⟨#[]⟩]) := hB
                       clear hB hb)
                    | (refine ev_store rfl 52 _ _ rfl g13 _ _ rfl rfl 52 g13_w7.out tsz52 rfl rfl ?_; intro w8 hB hg hz
                       have hx := GrX.grown (S := fun k => k = g13) hg rfl
                       have bo_g13_w8 := Lib.hid (below_grown bo_g13.out hg bo_g13.out.size lo_g13)
                       have dz1_w8 := Lib.hid (DonesOk.below L3_dz1.out bo_g13_w8.out)
                       have dz2_w8 := Lib.hid (DonesOk.below L3_dz2.out bo_g13_w8.out)
                       have t1_w8 := Lib.hid (L3_t1.out.below bo_g13_w8.out)
                       have t2_w8 := Lib.hid (L3_t2.out.below bo_g13_w8.out)
                       have o7_w8 := Lib.hid (own_grx o7_w7.out hx (fun k hk => (fun e => own_ne o7_w7.out g13_w7.out (by decide) (e ▸ hk))))
                       have o9_w8 := Lib.hid (own_grx o9_w7.out hx (fun k hk => (fun e => own_ne o9_w7.out g13_w7.out (by decide) (e ▸ hk))))
                       have g11_w8 := Lib.hid (g11_w7.out.grx hx (fun e => n_g11_g13 e))
                       have B_w8 := Lib.hid (below_grx B_w7.out hx B_w7.out.size (fun k => (fun e => e ▸ low_g13)))
                       clear hx
                       have g13_w8 : Hid (Blk w8 g13 52 #[.string (zs71[k].fRepos[j].fName), .string (zs71[k].fRepos[j].fURL)]) := hB
                       clear hB hg hz))
                  refine wp_region_grow [some [], some [], some [(0, 116), (1, 117)], some [(2, 118)], some [(3, 119)], some [], some [(4, 120), (5, 121)], some [(6, 122)], some [], none]
                      [fun vv _ => vv = .slice (some ad7) ss.length c267,
                       fun vv _ => vv = .int .i64 (↑k),
                       fun vv _ => vv = .pointer (some (ad7.add (k * 2))),
                       fun vv _ => vv = .pointer (some ⟨(ad7.add (k * 2)).block, (ad7.add (k * 2)).off + 1, none⟩),
                       fun vv _ => vv = .slice (some ad1) zs71[k].fRepos.length zs67[k].fRepos_c,
                       fun vv _ => vv = .int .i64 (↑j),
                       fun vv _ => vv = .pointer (some (ad1.add (j * 2))),
                       fun vv _ => vv = .agg #[.string (zs71[k].fRepos[j].fName), .string (zs71[k].fRepos[j].fURL)],
                       fun vv _ => vv = .agg #[.string (zs71[k].fRepos[j].fName), .string (zs71[k].fRepos[j].fURL)],
                       fun _ _ => True] 129 (by kernel_rfl) rfl rfl (by kernel_rfl) ?_ ?_ ?_
                  · intro p hp
                    simp only [List.mem_cons, List.not_mem_nil, or_false] at hp
                    rcases hp with rfl | rfl | rfl | rfl | rfl | rfl | rfl | rfl | rfl | rfl
                    · exact stab_eq _
                    · exact stab_eq _
                    · exact stab_eq _
                    · exact stab_eq _
                    · exact stab_eq _
                    · exact stab_eq _
                    · exact stab_eq _
                    · exact stab_eq _
                    · exact stab_eq _
                    · exact stab_true
                  · simp only [oblGo, obl1, withDeps, oblK, postAt, List.getD_cons_zero, List.getD_cons_succ, forall_eq]
                    refine ⟨?_, ?_, ?_, ?_, ?_, ?_, ?_, ?_, ?_, trivial⟩
                    · intro wg hg
                      go_simp
                    · intro wg hg
                      go_simp
                    · intro wg hg
                      go_simp
                    · intro wg hg
                      go_simp
                    · intro wg hg
                      exact gr_ld 48 _ rfl _ rfl (.slice (some ad1) zs71[k].fRepos.length zs67[k].fRepos_c) (hg.cell (cellj (show ∀ i u, ([.bool zs71[k].fIs, .slice (some ad1) zs71[k].fRepos.length zs67[k].fRepos_c] : List Value)[i]? = some u → w8.cell? ((ad7.add (k * 2)).add i) = some u by have h0 := (own_rowsT1 o7_w8.out hn1 (by decide) (fun x => rfl) (by omega)).el (j := k) (row := zs67[k].cells) (by simp [hk1]); simp only [Ty58.cells, ha1, HK.out.1, HK.out.2] at h0; exact h0) 0 rfl)) _ Try.underlying48 rfl rfl
                    · intro wg hg
                      go_simp
                    · intro wg hg
                      go_simp
                    · intro wg hg
                      exact gr_ldr 52 _ rfl _ rfl [.string (zs71[k].fRepos[j].fName), .string (zs71[k].fRepos[j].fURL)] (fun i u hu => hg.cell (((TSl.rows t1_w8.out (by decide) Ty52.len).el (j := j) (row := zs71[k].fRepos[j].cells) (by simp [hlt_j])) i u hu)) _ Try.underlying52 rfl tsz52 rfl
                    · intro wg hg
                      exact gr_ldm 52 _ rfl g13 0 rfl 52 _ (g13_w8.out.below hg) 2 (by simp) _ Try.underlying52 rfl tsz52 rfl
                  simp only [headDs, withDeps, postAt, List.getD_cons_zero, List.getD_cons_succ, forall_eq, tailOps]
                  intro w9 hgr
                  simp only [Act.put, List.setIfInBounds_toArray, List.set_cons_succ, List.set_cons_zero]
                  have o7_w9 := Lib.hid (own_below o7_w8.out (show Below _ _ _ from hgr))
                  have o9_w9 := Lib.hid (own_below o9_w8.out (show Below _ _ _ from hgr))
                  have dz1_w9 := Lib.hid (DonesOk.below dz1_w8.out (show Below _ _ _ from hgr))
                  have dz2_w9 := Lib.hid (DonesOk.below dz2_w8.out (show Below _ _ _ from hgr))
                  have t1_w9 := Lib.hid (t1_w8.out.below (show Below _ _ _ from hgr))
                  have t2_w9 := Lib.hid (t2_w8.out.below (show Below _ _ _ from hgr))
                  have g11_w9 := Lib.hid (g11_w8.out.below (show Below _ _ _ from hgr))
                  have g13_w9 := Lib.hid (g13_w8.out.below (show Below _ _ _ from hgr))
                  have B_w9 := Lib.hid (below_trans B_w8.out (show Below _ _ _ from hgr))
                  clear hgr
                  go_wp2_with (first
                    | ((with_reducible refine at_dst (N := 125) rfl ?_); refine ev_neq rfl 52 _ _ _ rfl _ _ rfl rfl (by kernel_rfl) _ ((neqT52 (zs71[k].fRepos[j].fName) (zs71[k].fRepos[j].fName) (zs71[k].fRepos[j].fURL) (zs71[k].fRepos[j].fURL) _).trans (by simp)) ?_))
                  refine ⟨⟨j + 1, (by omega), by go_num, o7_w9, o9_w9, dz1_w9, dz2_w9, t1_w9, t2_w9, g11_w9, B_w9⟩, ?_⟩
                  simp [intOf]; omega
                · obtain rfl : j = zs71[k].fRepos.length := by omega
                  go_wp2_with fail
                  refine ⟨⟨k + 1, (by omega), by go_num, L3_o7, L3_o9, L3_dz1, L3_dz2, L3_B⟩, ?_⟩
                  simp [intOf]; omega
            · obtain rfl : k = ss.length := by omega
              go_wp2_with (first
                | (go_at_call 23; (with_reducible refine (hlLives_any  _ ).mono ?_); rintro e w4 ⟨rfl, hb⟩
                   have o7_w4 := Lib.hid (own_below L2_o7.out hb)
                   have o9_w4 := Lib.hid (own_below L2_o9.out hb)
                   have dz1_w4 := Lib.hid (DonesOk.below L2_dz1.out hb)
                   have dz2_w4 := Lib.hid (DonesOk.below L2_dz2.out hb)
                   have B_w4 := Lib.hid (below_trans L2_B.out hb)
                   clear hb))
              go_ret
              exact HQ.out _ _ ⟨rfl, B_w4.out⟩
theorem fnHlRepos_walk (A : Option Addr) (c : Nat) (ss : List Ty50) (w : World) (h : Rows w A 3 (ss.map Ty50.cells)) (_hcap : ss.length ≤ c) (hok : ∀ x ∈ ss, x.ok w) :
    Calls Try.prog 5 #[.slice A ss.length c] w fun e w' => e = .returned (.bool true) ∧ Below w.heap.size w w' := fnHlRepos_K A c ss w h hok
end Go.Proofs.Ytkjcedlgljeoiaa
