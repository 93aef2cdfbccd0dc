/- Lists of repositories, the reference: hlUpdated. -/
import Derived.Test.YtkjcedlgljeoiaaRP5
import Derived.Test.YtkjcedlgljeoiaaWr
namespace Go.Proofs.Ytkjcedlgljeoiaa
open Go.RowKit Go.Lib
set_option linter.unusedVariables false
set_option linter.unusedSimpArgs false
set_option maxRecDepth 100000 in
set_option maxHeartbeats 4000000 in
theorem hlUpd_any (A : Option Addr) (c : Nat) (l : List Ty52) (r : Ty52) (w : World) (h0 : Rows w (A) 2 (l.map Ty52.cells)) (hn : l.length ≤ 1000000) :
    Calls Try.prog 77 #[.slice (A) (l.length) (c), .agg #[.string r.fName, .string r.fURL]] w fun e w' => ∃ A2 : Option Addr, ∃ c2 : Nat, e = .returned (.slice A2 ((updF l r).length) c2) ∧ World.ownsRow w' w.heap.size 52 2 (.slice A2 (updF l r).length c2) ((updF l r).length) (flatC Ty52.cells (updF l r)) ∧ Below w.heap.size w w' := by
  have hl_l : l.length ≤ 9223372036854775807 := by have := h0.1; simpa [strs, ptrs] using this
  have H0 := Lib.hid h0
  clear h0
  suffices hQ : ∀ Q : Ending → World → Prop, Hid (∀ (e : Ending) (w' : World), (∃ A2 : Option Addr, ∃ c2 : Nat, e = .returned (.slice A2 ((updF l r).length) c2) ∧ World.ownsRow w' w.heap.size 52 2 (.slice A2 (updF l r).length c2) ((updF l r).length) (flatC Ty52.cells (updF l r)) ∧ Below w.heap.size w w') → Post1 Q e w') → Calls Try.prog 77 #[.slice (A) (l.length) (c), .agg #[.string r.fName, .string r.fURL]] w (fun e w' => Post1 Q e w') from hQ (fun e w' => ∃ A2 : Option Addr, ∃ c2 : Nat, e = .returned (.slice A2 ((updF l r).length) c2) ∧ World.ownsRow w' w.heap.size 52 2 (.slice A2 (updF l r).length c2) ((updF l r).length) (flatC Ty52.cells (updF l r)) ∧ Below w.heap.size w w') (fun _ _ h => by unfold Post1; exact h)
  intro Q HQ
  go_enter Try.func77, Try.ntmps77
  go_wp2_with (first
    | ((with_reducible refine at_dst (N := 3) rfl ?_); refine ev_box rfl 52 _ rfl _ rfl ?_; intro g3 w1 hg hB hb
       have low_g3 := Nat.le_trans (Nat.le_refl _) hg
       have B_w1 := Lib.hid (below_trans (Below.refl _ _) hb)
       have g3_w1 : Hid (Blk w1 g3 52 #[.string r.fName, .string r.fURL]) := hB
       clear hB hb)
    | ((with_reducible refine at_dst (N := 8) rfl ?_); refine ev_bs rfl 48 52 0 _ rfl #[] (by go_simp) ?_; intro g8 w2 hg hB hb
       have n_g3_g8 : g3 ≠ g8 := by have := g3_w1.out.lt; omega
       have low_g8 := Nat.le_trans B_w1.out.size hg
       have g3_w2 := Lib.hid (g3_w1.out.below hb)
       have B_w2 := Lib.hid (below_trans B_w1.out hb)
       have g8_w2 : Hid (Blk w2 g8 52 #[]) := hB
       clear hB hb)
    | ((with_reducible refine at_dst (N := 10) rfl ?_); refine ev_app rfl _ _ 48 52 rfl Try.underlying48 _ 2 _ tin52 rfl (by omega) w.heap.size _ _ _ rfl (Lib.hid (own_of_blk (sz := 2) (n := 0) g8_w2.out low_g8 rfl (by omega))).out _ l.length _ (flatC Ty52.cells l) rfl (Rows.flat (H0.out.below B_w2.out) (by decide) Ty52.len (by omega)) (flatC_len Ty52.len) (flatC_one Ty52.one) (by omega) (by omega) B_w2.out.size ?_; intro v10_w3 w3 ho1 hg1 hat1
       have nr_obg8_g3 : (Value.slice (some ⟨g8, 0, none⟩) 0 0).ownBlock ≠ some g3 := by intro e; simp [Value.ownBlock] at e; have := n_g3_g8; omega
       have hx := GrX.row (S := fun k => (.slice (some ⟨g8, 0, none⟩) 0 0 : Value).ownBlock = some k) hg1 (fun g h => h)
       have g3_w3 := Lib.hid (g3_w2.out.grx hx nr_obg8_g3)
       have B_w3 := Lib.hid (below_grx B_w2.out hx B_w2.out.size (fun k => (fun e => own_ge (Lib.hid (own_of_blk (sz := 2) (n := 0) g8_w2.out low_g8 rfl (by omega))).out k e)))
       rw [Nat.zero_add] at ho1
       rw [List.nil_append] at ho1
       obtain ⟨A10_w3, c10_w3, rfl, _⟩ := own_form ho1
       have obg8_w3 := Lib.hid ho1
       have nr_obg8_g3 := nr_app nr_obg8_g3 hat1 g3_w2.out.lt
       clear ho1 hg1 hat1 hx))
  go_loopw [13] (fun v13 wr => ∃ k : Nat, (k ≤ l.length) ∧ ((Value.slice A10_w3 l.length c10_w3).ownBlock ≠ some g3) ∧ v13 = .int .i64 (↑k) ∧ Hid (World.ownsRow wr w.heap.size 52 2 (.slice A10_w3 l.length c10_w3) l.length (flatC Ty52.cells l)) ∧ Hid ((l.take k).any (sameN r.fName) = false) ∧ Hid (Blk wr g3 52 #[.string r.fName, .string r.fURL]) ∧ Hid (Below w.heap.size w wr)) (fun v13 _ => l.length - (intOf v13).toNat)
  case atStart => exact ⟨0, (by omega), nr_obg8_g3, rfl, obg8_w3, rfl, g3_w3, B_w3⟩
  case round =>
    obtain ⟨k, hk, nr_o5_g3, rfl, L0_o5, L0_none, L0_g3, L0_B⟩ := hrel
    by_cases hlt_k : k < l.length
    · obtain ⟨gm_o5, rfl⟩ := own_addr L0_o5.out (by omega)
      cases hc1 : (l[k].fName.toList == r.fName.toList)
      · have hc1' : (l[k].fName.toList != r.fName.toList) = true := by rw [bne, hc1]; rfl
        go_wp2_with (first
          | ((with_reducible refine at_dst (N := 17) rfl ?_); refine ev_loadR rfl 52 _ rfl _ rfl [.string l[k].fName, .string l[k].fURL] ((own_rowsT1 L0_o5.out (by first | rfl | omega) (by decide) (fun x => rfl) (by omega)).elz (j := k) (row := l[k].cells) (by simp [hlt_k])) _ Try.underlying52 rfl tsz52 ?_)
          | ((with_reducible refine at_dst (N := 7) rfl ?_); refine ev_alloc rfl 52 rfl _ _ tz52 ?_; intro g7 w4 hg hB hb
             have nr_o5_g7 := own_fresh' L0_o5.out hg
             have n_g3_g7 : g3 ≠ g7 := by have := L0_g3.out.lt; omega
             have low_g7 := Nat.le_trans L0_B.out.size hg
             have o5_w4 := Lib.hid (own_below L0_o5.out hb)
             have g3_w4 := Lib.hid (L0_g3.out.below hb)
             have B_w4 := Lib.hid (below_trans L0_B.out hb)
             have g7_w4 : Hid (Blk w4 g7 52 #[.string ⟨#[]⟩, .string ⟨#[]⟩]) := hB
             clear hB hb)
          | (refine ev_store rfl 52 _ _ rfl g7 _ _ rfl rfl 52 g7_w4.out tsz52 rfl rfl ?_; intro w5 hB hg hz
             have hx := GrX.grown (S := fun k => k = g7) hg rfl
             have o5_w5 := Lib.hid (own_grx o5_w4.out hx (fun k hk => (fun e => nr_o5_g7 (e ▸ hk))))
             have g3_w5 := Lib.hid (g3_w4.out.grx hx (fun e => n_g3_g7 e))
             have B_w5 := Lib.hid (below_grx B_w4.out hx B_w4.out.size (fun k => (fun e => e ▸ low_g7)))
             clear hx
             have g7_w5 : Hid (Blk w5 g7 52 #[.string l[k].fName, .string l[k].fURL]) := hB
             clear hB hg hz)
          | ((with_reducible refine at_dst (N := 19) rfl ?_); refine ev_ld rfl 9 _ rfl ⟨g7, 0, none⟩ rfl (.string l[k].fName) (g7_w5.out.cell 0) _ Try.underlying9 rfl ?_)
          | ((with_reducible refine at_dst (N := 21) rfl ?_); refine ev_ld rfl 9 _ rfl ⟨g3, 0, none⟩ rfl (.string r.fName) (g3_w5.out.cell 0) _ Try.underlying9 rfl ?_))
        refine ⟨⟨k + 1, (by omega), nr_o5_g3, by go_num, o5_w5, by show _ = _; rw [any_take hlt_k, L0_none.out]; simp only [sameN, hc1, Bool.or_false], g3_w5, B_w5⟩, ?_⟩
        simp [intOf]; omega
      · have hc1' : (l[k].fName.toList != r.fName.toList) = false := by rw [bne, hc1]; rfl
        go_wp2_with (first
          | ((with_reducible refine at_dst (N := 17) rfl ?_); refine ev_loadR rfl 52 _ rfl _ rfl [.string l[k].fName, .string l[k].fURL] ((own_rowsT1 L0_o5.out (by first | rfl | omega) (by decide) (fun x => rfl) (by omega)).elz (j := k) (row := l[k].cells) (by simp [hlt_k])) _ Try.underlying52 rfl tsz52 ?_)
          | ((with_reducible refine at_dst (N := 7) rfl ?_); refine ev_alloc rfl 52 rfl _ _ tz52 ?_; intro g7 w4 hg hB hb
             have nr_o5_g7 := own_fresh' L0_o5.out hg
             have n_g3_g7 : g3 ≠ g7 := by have := L0_g3.out.lt; omega
             have low_g7 := Nat.le_trans L0_B.out.size hg
             have o5_w4 := Lib.hid (own_below L0_o5.out hb)
             have g3_w4 := Lib.hid (L0_g3.out.below hb)
             have B_w4 := Lib.hid (below_trans L0_B.out hb)
             have g7_w4 : Hid (Blk w4 g7 52 #[.string ⟨#[]⟩, .string ⟨#[]⟩]) := hB
             clear hB hb)
          | (refine ev_store rfl 52 _ _ rfl g7 _ _ rfl rfl 52 g7_w4.out tsz52 rfl rfl ?_; intro w5 hB hg hz
             have hx := GrX.grown (S := fun k => k = g7) hg rfl
             have o5_w5 := Lib.hid (own_grx o5_w4.out hx (fun k hk => (fun e => nr_o5_g7 (e ▸ hk))))
             have g3_w5 := Lib.hid (g3_w4.out.grx hx (fun e => n_g3_g7 e))
             have B_w5 := Lib.hid (below_grx B_w4.out hx B_w4.out.size (fun k => (fun e => e ▸ low_g7)))
             clear hx
             have g7_w5 : Hid (Blk w5 g7 52 #[.string l[k].fName, .string l[k].fURL]) := hB
             clear hB hg hz)
          | ((with_reducible refine at_dst (N := 19) rfl ?_); refine ev_ld rfl 9 _ rfl ⟨g7, 0, none⟩ rfl (.string l[k].fName) (g7_w5.out.cell 0) _ Try.underlying9 rfl ?_)
          | ((with_reducible refine at_dst (N := 21) rfl ?_); refine ev_ld rfl 9 _ rfl ⟨g3, 0, none⟩ rfl (.string r.fName) (g3_w5.out.cell 0) _ Try.underlying9 rfl ?_)
          | ((with_reducible refine at_dst (N := 25) rfl ?_); refine ev_loadB rfl 52 _ rfl g3 rfl 52 _ g3_w5.out _ Try.underlying52 rfl tsz52 ?_)
          | ((with_reducible refine at_none rfl ?_); obtain ⟨gx, ex, _, _, _, hst⟩ := own_openT (f := Ty52.cells) (xs := l) o5_w5.out rfl (fun x => Ty52.len x) (k := k) hlt_k; injection ex with ex; injection ex with ex; subst ex; refine ev_storeT rfl 52 _ _ rfl _ (k * 2) #[.string r.fName, .string r.fURL] rfl rfl ((hst _ rfl r).1) tsz52 (by simp [Value.oneCell']) ?_; have hq := (hst _ rfl r).2; rw [show Ty52.cells r = (#[.string r.fName, .string r.fURL] : Array Value).toList from rfl] at hq; revert hq; generalize World.setCells _ _ _ _ = w6; intro hq; obtain ⟨ho1, hg⟩ := hq
             have hx := GrX.grown (S := fun k => (.slice (some ⟨gm_o5, 0, none⟩) l.length c10_w3 : Value).ownBlock = some k) hg rfl
             have g3_w6 := Lib.hid (g3_w5.out.grx hx nr_o5_g3)
             have g7_w6 := Lib.hid (g7_w5.out.grx hx nr_o5_g7)
             have B_w6 := Lib.hid (below_grx B_w5.out hx B_w5.out.size (fun k => (fun e => own_ge o5_w5.out k e)))
             have o5_w6 := Lib.hid ho1
             clear ho1 hg hx hst))
        have hu : updF l r = l.set k r := updF_at hlt_k L0_none.out (by simp only [sameN, hc1])
        go_ret
        exact HQ.out _ _ ⟨(some ⟨gm_o5, 0, none⟩), c10_w3, (by rw [hu, List.length_set]; rfl), (by rw [hu, List.length_set]; exact o5_w6.out), B_w6.out⟩
    · obtain rfl : k = l.length := by omega
      rw [List.take_length] at L0_none
      go_wp2_with (first
        | ((with_reducible refine at_dst (N := 30) rfl ?_); refine ev_loadB rfl 52 _ rfl g3 rfl 52 _ L0_g3.out _ Try.underlying52 rfl tsz52 ?_)
        | ((with_reducible refine at_dst (N := 31) rfl ?_); refine ev_bs rfl 48 52 1 _ rfl #[.string r.fName, .string r.fURL] (by go_simp) ?_; intro g31 w4 hg hB hb
           have nr_o5_g31 := own_fresh' L0_o5.out hg
           have n_g3_g31 : g3 ≠ g31 := by have := L0_g3.out.lt; omega
           have low_g31 := Nat.le_trans L0_B.out.size hg
           have o5_w4 := Lib.hid (own_below L0_o5.out hb)
           have g3_w4 := Lib.hid (L0_g3.out.below hb)
           have B_w4 := Lib.hid (below_trans L0_B.out hb)
           have g31_w4 : Hid (Blk w4 g31 52 #[.string r.fName, .string r.fURL]) := hB
           clear hB hb)
        | ((with_reducible refine at_dst (N := 32) rfl ?_); refine ev_app rfl _ _ 48 52 rfl Try.underlying48 _ 2 _ tin52 rfl (by omega) w.heap.size _ _ _ rfl o5_w4.out _ 1 _ [.string r.fName, .string r.fURL] rfl (g31_w4.out.sl (by simp)) rfl (by simp [Value.oneCell']) (by omega) (by omega) B_w4.out.size ?_; intro v32_w5 w5 ho1 hg1 hat1
           have hx := GrX.row (S := fun k => (.slice A10_w3 l.length c10_w3 : Value).ownBlock = some k) hg1 (fun g h => h)
           have g3_w5 := Lib.hid (g3_w4.out.grx hx nr_o5_g3)
           have B_w5 := Lib.hid (below_grx B_w4.out hx B_w4.out.size (fun k => (fun e => own_ge o5_w4.out k e)))
           obtain ⟨A32_w5, c32_w5, rfl, _⟩ := own_form ho1
           have o5_w5 := Lib.hid ho1
           have nr_o5_g3 := nr_app nr_o5_g3 hat1 g3_w4.out.lt
           clear ho1 hg1 hat1 hx))
      have hu : updF l r = l ++ [r] := updF_none L0_none.out
      go_ret
      exact HQ.out _ _ ⟨A32_w5, c32_w5, (by rw [hu, List.length_append]; rfl), (by rw [hu, List.length_append, flatC_snoc]; exact o5_w5.out), B_w5.out⟩
end Go.Proofs.Ytkjcedlgljeoiaa
