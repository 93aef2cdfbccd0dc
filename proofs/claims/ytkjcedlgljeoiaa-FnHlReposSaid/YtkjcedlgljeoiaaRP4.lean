/- Lists of repositories: reposDone. -/
import Derived.Test.YtkjcedlgljeoiaaRP3
namespace Go.Proofs.Ytkjcedlgljeoiaa
open Go.RowKit Go.Lib
set_option linter.unusedVariables false
set_option linter.unusedSimpArgs false
def stepL (l : List Ty52) (s : Ty50) : List Ty52 := if s.fOp = 0 then l ++ s.fRepos else if s.fOp = 1 then s.fRepos.foldl updF l else if s.fOp = 4 then l.filter (notN s.fName) else l
def stepIs (l : List Ty52) (s : Ty50) : Bool := (s.fOp == 2 || s.fOp == 3 || s.fOp == 4) && l.any (sameN s.fName)
def stepT (l : List Ty52) (s : Ty50) : List Ty52 := if s.fOp = 3 then (l.find? (sameN s.fName)).toList else stepL l s
theorem stepL_len (l : List Ty52) (s : Ty50) : (stepL l s).length ≤ l.length + s.fRepos.length := by
  unfold stepL
  split
  · simp
  split
  · exact foldU_len _ _
  split
  · have := List.length_filter_le (notN s.fName) l; omega
  · omega
set_option maxRecDepth 100000 in
set_option maxHeartbeats 16000000 in
theorem rDone_any (gf : Nat) (A : Option Addr) (c : Nat) (ps : List Nat) (l : List Ty52) (Bs : Nat) (s : Ty50) (w : World) (h0 : Blk w (gf) 218 #[.string ⟨#[118, 49]⟩, .slice A l.length c]) (h1 : World.ownsRow w (Bs) 219 1 (.slice A l.length c) (l.length) (ptrs ps)) (h2 : Pl RepAt w (ps) (l)) (h3 : Ty50.ok s w) (hBs : Bs ≤ w.heap.size) (hlf : Bs ≤ gf) (hn : l.length + s.fRepos.length ≤ 1000000) :
    Calls Try.prog 76 #[.pointer (some ⟨gf, 0, none⟩), .agg #[.int .i64 s.fOp, .slice s.fRepos_a s.fRepos.length s.fRepos_c, .string s.fName]] w fun e w' => ∃ A2 : Option Addr, ∃ c2 : Nat, ∃ ps2 : List Nat, ∃ A3 : Option Addr, ∃ c3 : Nat, e = .returned (.agg #[.bool (stepIs l s), .slice A3 (stepT l s).length c3]) ∧ Blk w' (gf) 218 #[.string ⟨#[118, 49]⟩, .slice A2 (stepL l s).length c2] ∧ World.ownsRow w' (Bs) 219 1 (.slice A2 (stepL l s).length c2) ((stepL l s).length) (ptrs ps2) ∧ Pl RepAt w' ps2 (stepL l s) ∧ World.ownsRow w' w.heap.size 52 2 (.slice A3 (stepT l s).length c3) ((stepT l s).length) (flatC Ty52.cells (stepT l s)) ∧ FoS w (.slice A l.length c) (.slice A2 (stepL l s).length c2) ∧ GrX (fun k => k = gf ∨ (.slice A l.length c : Value).ownBlock = some k) w w' := by
  have hlo_1 : l.length ≤ 9223372036854775807 := own_max1 h1
  have hlp_2 := h2.1
  have H0 := Lib.hid h0
  clear h0
  have H1 := Lib.hid h1
  clear h1
  have fos_p1 : FoS w (.slice A l.length c) (.slice A l.length c) := FoS.refl
  have H2 := Lib.hid h2
  clear h2
  have H3 := Lib.hid h3
  clear h3
  have hfl := List.length_filter_le (notN s.fName) l
  have hful := foldU_len s.fRepos l
  have H3_Repos := Lib.hid (Ty50.ok_rRepos H3.out)
  have H3_Reposo := Lib.hid (Ty50.ok_oRepos H3.out)
  obtain ⟨s_Repos_a, e_s_Repos_a⟩ : ∃ a, s.fRepos_a = a := ⟨_, rfl⟩
  have H3_Reposr := H3_Repos.out
  rw [e_s_Repos_a] at H3_Reposr
  have H3_Repos := Lib.hid H3_Reposr
  clear H3_Reposr
  suffices hQ : ∀ Q : Ending → World → Prop, Hid (∀ (e : Ending) (w' : World), (∃ A2 : Option Addr, ∃ c2 : Nat, ∃ ps2 : List Nat, ∃ A3 : Option Addr, ∃ c3 : Nat, e = .returned (.agg #[.bool (stepIs l s), .slice A3 (stepT l s).length c3]) ∧ Blk w' (gf) 218 #[.string ⟨#[118, 49]⟩, .slice A2 (stepL l s).length c2] ∧ World.ownsRow w' (Bs) 219 1 (.slice A2 (stepL l s).length c2) ((stepL l s).length) (ptrs ps2) ∧ Pl RepAt w' ps2 (stepL l s) ∧ World.ownsRow w' w.heap.size 52 2 (.slice A3 (stepT l s).length c3) ((stepT l s).length) (flatC Ty52.cells (stepT l s)) ∧ FoS w (.slice A l.length c) (.slice A2 (stepL l s).length c2) ∧ GrX (fun k => k = gf ∨ (.slice A l.length c : Value).ownBlock = some k) w w') → Post1 Q e w') → Calls Try.prog 76 #[.pointer (some ⟨gf, 0, none⟩), .agg #[.int .i64 s.fOp, .slice s.fRepos_a s.fRepos.length s.fRepos_c, .string s.fName]] w (fun e w' => Post1 Q e w') from hQ (fun e w' => ∃ A2 : Option Addr, ∃ c2 : Nat, ∃ ps2 : List Nat, ∃ A3 : Option Addr, ∃ c3 : Nat, e = .returned (.agg #[.bool (stepIs l s), .slice A3 (stepT l s).length c3]) ∧ Blk w' (gf) 218 #[.string ⟨#[118, 49]⟩, .slice A2 (stepL l s).length c2] ∧ World.ownsRow w' (Bs) 219 1 (.slice A2 (stepL l s).length c2) ((stepL l s).length) (ptrs ps2) ∧ Pl RepAt w' ps2 (stepL l s) ∧ World.ownsRow w' w.heap.size 52 2 (.slice A3 (stepT l s).length c3) ((stepT l s).length) (flatC Ty52.cells (stepT l s)) ∧ FoS w (.slice A l.length c) (.slice A2 (stepL l s).length c2) ∧ GrX (fun k => k = gf ∨ (.slice A l.length c : Value).ownBlock = some k) w w') (fun _ _ h => by unfold Post1; exact h)
  intro Q HQ
  rw [e_s_Repos_a]
  clear e_s_Repos_a
  go_enter Try.func76, Try.ntmps76
  go_wp2_with (first
    | ((with_reducible refine at_dst (N := 3) rfl ?_); refine ev_box rfl 50 _ rfl _ rfl ?_; intro g3 w1 hg hB hb
       have n_gf_g3 : gf ≠ g3 := by have := H0.out.lt; omega
       have low_g3 := Nat.le_trans (Nat.le_refl _) hg
       have gf_w1 := Lib.hid (H0.out.below hb)
       have p1_w1 := Lib.hid (own_below H1.out hb)
       have p3_w1 := Lib.hid (Ty50.ok.below H3.out hb)
       have pl_w1 := Lib.hid (Pl.map H2.out fun _ _ q => RepAt.below q hb)
       have B_w1 := Lib.hid (below_trans (Below.refl _ _) hb)
       have g3_w1 : Hid (Blk w1 g3 50 #[.int .i64 s.fOp, .slice s_Repos_a s.fRepos.length s.fRepos_c, .string s.fName]) := hB
       clear hB hb)
    | ((with_reducible refine at_dst (N := 4) rfl ?_); refine ev_alloc rfl 58 rfl _ _ tz58 ?_; intro g4 w2 hg hB hb
       have n_gf_g4 : gf ≠ g4 := by have := gf_w1.out.lt; omega
       have n_g3_g4 : g3 ≠ g4 := by have := g3_w1.out.lt; omega
       have low_g4 := Nat.le_trans B_w1.out.size hg
       have gf_w2 := Lib.hid (gf_w1.out.below hb)
       have p1_w2 := Lib.hid (own_below p1_w1.out hb)
       have p3_w2 := Lib.hid (Ty50.ok.below p3_w1.out hb)
       have pl_w2 := Lib.hid (Pl.map pl_w1.out fun _ _ q => RepAt.below q hb)
       have g3_w2 := Lib.hid (g3_w1.out.below hb)
       have B_w2 := Lib.hid (below_trans B_w1.out hb)
       have g4_w2 : Hid (Blk w2 g4 58 #[.bool false, .slice none 0 0]) := hB
       clear hB hb)
    | ((with_reducible refine at_dst (N := 11) rfl ?_); refine ev_ld rfl 48 _ rfl ⟨g3, 1, none⟩ rfl (.slice s_Repos_a s.fRepos.length s.fRepos_c) (g3_w2.out.cell 1) _ Try.underlying48 rfl ?_))
  go_loopw [5, 13] (fun v5 v13 wr => ∃ k : Nat, ∃ qs : List Nat, (k ≤ s.fRepos.length) ∧ v13 = .int .i64 (↑k) ∧ Hid (World.ownsRow wr w.heap.size 219 1 v5 k (ptrs qs)) ∧ Hid (Pl RepAt wr qs (s.fRepos.take k)) ∧ Hid (Blk wr g3 50 #[.int .i64 s.fOp, .slice s_Repos_a s.fRepos.length s.fRepos_c, .string s.fName]) ∧ Hid (Blk wr g4 58 #[.bool false, .slice none 0 0]) ∧ Hid (Blk wr gf 218 #[.string ⟨#[118, 49]⟩, .slice A l.length c]) ∧ Hid (World.ownsRow wr Bs 219 1 (.slice A l.length c) l.length (ptrs ps)) ∧ Hid (Pl RepAt wr ps l) ∧ Hid (Below w.heap.size w wr)) (fun v5 v13 _ => s.fRepos.length - (intOf v13).toNat)
  case atStart => exact ⟨0, [], (by omega), rfl, (own_nil _ _ _ _), Pl.nil, g3_w2, g4_w2, gf_w2, p1_w2, pl_w2, B_w2⟩
  case round =>
    obtain ⟨k, qs, hk, rfl, L0_o5, L0_plq, L0_g3, L0_g4, L0_gf, L0_p1, L0_pl, L0_B⟩ := hrel
    by_cases hlt_k : k < s.fRepos.length
    · obtain ⟨ad_k, rfl⟩ := (H3_Repos.out.below L0_B.out).addr (by simp [strs, ptrs]; omega)
      go_wp2_with (first
        | ((with_reducible refine at_dst (N := 16) rfl ?_); refine ev_loadR rfl 52 _ rfl _ rfl [.string s.fRepos[k].fName, .string s.fRepos[k].fURL] ((H3_Repos.out.below L0_B.out).el (j := k) (row := s.fRepos[k].cells) (by simp [hlt_k])) _ Try.underlying52 rfl tsz52 ?_)
        | ((with_reducible refine at_dst (N := 7) rfl ?_); refine ev_alloc rfl 52 rfl _ _ tz52 ?_; intro g7 w3 hg hB hb
           have n_g3_g7 : g3 ≠ g7 := by have := L0_g3.out.lt; omega
           have n_g4_g7 : g4 ≠ g7 := by have := L0_g4.out.lt; omega
           have n_gf_g7 : gf ≠ g7 := by have := L0_gf.out.lt; omega
           have low_g7 := Nat.le_trans L0_B.out.size hg
           have o5_w3 := Lib.hid (own_below L0_o5.out hb)
           have plq_w3 := Lib.hid (Pl.map L0_plq.out fun _ _ q => RepAt.below q hb)
           have g3_w3 := Lib.hid (L0_g3.out.below hb)
           have g4_w3 := Lib.hid (L0_g4.out.below hb)
           have gf_w3 := Lib.hid (L0_gf.out.below hb)
           have p1_w3 := Lib.hid (own_below L0_p1.out hb)
           have pl_w3 := Lib.hid (Pl.map L0_pl.out fun _ _ q => RepAt.below q hb)
           have B_w3 := Lib.hid (below_trans L0_B.out hb)
           have g7_w3 : Hid (Blk w3 g7 52 #[.string ⟨#[]⟩, .string ⟨#[]⟩]) := hB
           clear hB hb)
        | (refine ev_store rfl 52 _ _ rfl g7 _ _ rfl rfl 52 g7_w3.out tsz52 rfl rfl ?_; intro w4 hB hg hz
           have hx := GrX.grown (S := fun k => k = g7) hg rfl
           have o5_w4 := Lib.hid (own_grx o5_w3.out hx (fun k hk => (fun e => own_ne o5_w3.out g7_w3.out (by decide) (e ▸ hk))))
           have plq_w4 := Lib.hid (Pl.map plq_w3.out fun _ _ q => RepAt.ap q hx (SApart.blk g7_w3.out (by decide)))
           have g3_w4 := Lib.hid (g3_w3.out.grx hx (fun e => n_g3_g7 e))
           have g4_w4 := Lib.hid (g4_w3.out.grx hx (fun e => n_g4_g7 e))
           have gf_w4 := Lib.hid (gf_w3.out.grx hx (fun e => n_gf_g7 e))
           have p1_w4 := Lib.hid (own_grx p1_w3.out hx (fun k hk => (fun e => own_ne p1_w3.out g7_w3.out (by decide) (e ▸ hk))))
           have pl_w4 := Lib.hid (Pl.map pl_w3.out fun _ _ q => RepAt.ap q hx (SApart.blk g7_w3.out (by decide)))
           have B_w4 := Lib.hid (below_grx B_w3.out hx B_w3.out.size (fun k => (fun e => e ▸ low_g7)))
           clear hx
           have g7_w4 : Hid (Blk w4 g7 52 #[.string s.fRepos[k].fName, .string s.fRepos[k].fURL]) := hB
           clear hB hg hz)
        | ((with_reducible refine at_dst (N := 19) rfl ?_); refine ev_ld rfl 9 _ rfl ⟨g7, 0, none⟩ rfl (.string s.fRepos[k].fName) (g7_w4.out.cell 0) _ Try.underlying9 rfl ?_)
        | ((with_reducible refine at_dst (N := 21) rfl ?_); refine ev_ld rfl 9 _ rfl ⟨g7, 1, none⟩ rfl (.string s.fRepos[k].fURL) (g7_w4.out.cell 1) _ Try.underlying9 rfl ?_)
        | ((with_reducible refine at_dst (N := 23) rfl ?_); refine ev_box rfl 221 _ rfl _ rfl ?_; intro g23 w5 hg hB hb
           have n_g3_g23 : g3 ≠ g23 := by have := g3_w4.out.lt; omega
           have n_g4_g23 : g4 ≠ g23 := by have := g4_w4.out.lt; omega
           have n_gf_g23 : gf ≠ g23 := by have := gf_w4.out.lt; omega
           have n_g7_g23 : g7 ≠ g23 := by have := g7_w4.out.lt; omega
           have low_g23 := Nat.le_trans B_w4.out.size hg
           have lo_g23 := hg
           have bo_g23 := Lib.hid hb
           have o5_w5 := Lib.hid (own_below o5_w4.out hb)
           have plq_w5 := Lib.hid (Pl.map plq_w4.out fun _ _ q => RepAt.below q hb)
           have g3_w5 := Lib.hid (g3_w4.out.below hb)
           have g4_w5 := Lib.hid (g4_w4.out.below hb)
           have gf_w5 := Lib.hid (gf_w4.out.below hb)
           have p1_w5 := Lib.hid (own_below p1_w4.out hb)
           have pl_w5 := Lib.hid (Pl.map pl_w4.out fun _ _ q => RepAt.below q hb)
           have g7_w5 := Lib.hid (g7_w4.out.below hb)
           have B_w5 := Lib.hid (below_trans B_w4.out hb)
           have g23_w5 : Hid (Blk w5 g23 221 #[.string s.fRepos[k].fName, .string s.fRepos[k].fURL]) := hB
           clear hB hb)
        | ((with_reducible refine at_dst (N := 24) rfl ?_); refine ev_bs rfl 216 219 1 _ rfl #[.pointer (some ⟨g23, 0, none⟩)] (by go_simp) ?_; intro g24 w6 hg hB hb
           have nr_o5_g24 := own_fresh' o5_w5.out hg
           have n_g3_g24 : g3 ≠ g24 := by have := g3_w5.out.lt; omega
           have n_g4_g24 : g4 ≠ g24 := by have := g4_w5.out.lt; omega
           have n_gf_g24 : gf ≠ g24 := by have := gf_w5.out.lt; omega
           have nr_p1_g24 := own_fresh' p1_w5.out hg
           have n_g7_g24 : g7 ≠ g24 := by have := g7_w5.out.lt; omega
           have n_g23_g24 : g23 ≠ g24 := by have := g23_w5.out.lt; omega
           have low_g24 := Nat.le_trans B_w5.out.size hg
           have o5_w6 := Lib.hid (own_below o5_w5.out hb)
           have plq_w6 := Lib.hid (Pl.map plq_w5.out fun _ _ q => RepAt.below q hb)
           have g3_w6 := Lib.hid (g3_w5.out.below hb)
           have g4_w6 := Lib.hid (g4_w5.out.below hb)
           have gf_w6 := Lib.hid (gf_w5.out.below hb)
           have p1_w6 := Lib.hid (own_below p1_w5.out hb)
           have pl_w6 := Lib.hid (Pl.map pl_w5.out fun _ _ q => RepAt.below q hb)
           have g7_w6 := Lib.hid (g7_w5.out.below hb)
           have g23_w6 := Lib.hid (g23_w5.out.below hb)
           have B_w6 := Lib.hid (below_trans B_w5.out hb)
           have g24_w6 : Hid (Blk w6 g24 219 #[.pointer (some ⟨g23, 0, none⟩)]) := hB
           clear hB hb)
        | ((with_reducible refine at_dst (N := 25) rfl ?_); refine ev_app rfl _ _ 216 219 rfl Try.underlying216 _ 1 _ tin219 rfl (by omega) w.heap.size _ _ _ rfl o5_w6.out _ 1 _ [.pointer (some ⟨g23, 0, none⟩)] rfl (g24_w6.out.sl (by simp)) rfl (by simp [Value.oneCell']) (by omega) (by omega) B_w6.out.size ?_; intro v25_w7 w7 ho1 hg1 hat1
           have hx := GrX.row (S := fun k => (u5 : Value).ownBlock = some k) hg1 (fun g h => h)
           have plq_w7 := Lib.hid (Pl.map plq_w6.out fun _ _ q => RepAt.ap q hx (SApart.own o5_w6.out (by decide)))
           have g3_w7 := Lib.hid (g3_w6.out.grx hx (own_ne o5_w6.out g3_w6.out (by decide)))
           have g4_w7 := Lib.hid (g4_w6.out.grx hx (own_ne o5_w6.out g4_w6.out (by decide)))
           have gf_w7 := Lib.hid (gf_w6.out.grx hx (own_ne o5_w6.out gf_w6.out (by decide)))
           have p1_w7 := Lib.hid (own_grx p1_w6.out hx (fun k hk => (fun e => absurd (own_ge o5_w6.out k e) (by have := own_lt H1.out k hk; omega))))
           have pl_w7 := Lib.hid (Pl.map pl_w6.out fun _ _ q => RepAt.ap q hx (SApart.own o5_w6.out (by decide)))
           have g7_w7 := Lib.hid (g7_w6.out.grx hx (own_ne o5_w6.out g7_w6.out (by decide)))
           have g23_w7 := Lib.hid (g23_w6.out.grx hx (own_ne o5_w6.out g23_w6.out (by decide)))
           have B_w7 := Lib.hid (below_grx B_w6.out hx B_w6.out.size (fun k => (fun e => own_ge o5_w6.out k e)))
           obtain ⟨A25_w7, c25_w7, rfl, _⟩ := own_form ho1
           have o5_w7 := Lib.hid ho1
           clear ho1 hg1 hat1 hx))
      refine ⟨⟨k + 1, qs ++ [g23], (by omega), by go_num, by show World.ownsRow _ _ _ _ _ _ _; rw [ptrs_snoc]; exact o5_w7.out, by show Pl _ _ _ _; rw [take_snoc hlt_k]; exact plq_w7.out.snoc g23_w7.out, g3_w7, g4_w7, gf_w7, p1_w7, pl_w7, B_w7⟩, ?_⟩
      simp [intOf]; omega
    · obtain rfl : k = s.fRepos.length := by omega
      rw [List.take_length] at L0_plq
      obtain ⟨A5, c5, e5, _⟩ := own_form L0_o5.out
      subst e5
      cases hc1 : ((s.fOp : Int) == 0)
      · have hc1' : ((s.fOp : Int) != 0) = true := by rw [bne, hc1]; rfl
        have o_hc1 : ¬ s.fOp = 0 := by simpa using hc1
        cases hc2 : ((s.fOp : Int) == 1)
        · have hc2' : ((s.fOp : Int) != 1) = true := by rw [bne, hc2]; rfl
          have o_hc2 : ¬ s.fOp = 1 := by simpa using hc2
          cases hc3 : ((s.fOp : Int) == 2)
          · have hc3' : ((s.fOp : Int) != 2) = true := by rw [bne, hc3]; rfl
            have o_hc3 : ¬ s.fOp = 2 := by simpa using hc3
            cases hc4 : ((s.fOp : Int) == 3)
            · have hc4' : ((s.fOp : Int) != 3) = true := by rw [bne, hc4]; rfl
              have o_hc4 : ¬ s.fOp = 3 := by simpa using hc4
              cases hc5 : ((s.fOp : Int) == 4)
              · have hc5' : ((s.fOp : Int) != 4) = true := by rw [bne, hc5]; rfl
                have o_hc5 : ¬ s.fOp = 4 := by simpa using hc5
                go_wp2_with (first
                  | ((with_reducible refine at_dst (N := 28) rfl ?_); refine ev_ld rfl 3 _ rfl ⟨g3, 0, none⟩ rfl (.int .i64 s.fOp) (L0_g3.out.cell 0) _ Try.underlying3 rfl ?_)
                  | ((with_reducible refine at_dst (N := 68) rfl ?_); refine ev_ld rfl 216 _ rfl ⟨gf, 1, none⟩ rfl (.slice A l.length c) (L0_gf.out.cell 1) _ Try.underlying216 rfl ?_)
                  | (go_at_call 142; (with_reducible refine (rTold_any A l.length c ps l _ (own_sl1 L0_p1.out (by first | omega | (simp; omega))) L0_pl.out (by first | assumption | omega | (simp; done)) (by first | omega | (simp; done) | (simp; omega))).mono ?_); rintro e w3 ⟨A269, c269, rfl, hp0_69, hb⟩
                     have o5_w3 := Lib.hid (own_below L0_o5.out hb)
                     have plq_w3 := Lib.hid (Pl.map L0_plq.out fun _ _ q => RepAt.below q hb)
                     have g3_w3 := Lib.hid (L0_g3.out.below hb)
                     have g4_w3 := Lib.hid (L0_g4.out.below hb)
                     have gf_w3 := Lib.hid (L0_gf.out.below hb)
                     have p1_w3 := Lib.hid (own_below L0_p1.out hb)
                     have pl_w3 := Lib.hid (Pl.map L0_pl.out fun _ _ q => RepAt.below q hb)
                     have B_w3 := Lib.hid (below_trans L0_B.out hb)
                     have hp0_69 := own_mono hp0_69 L0_B.out.size
                     have o69_0_w3 := Lib.hid hp0_69
                     clear hb hp0_69)
                  | (refine ev_store rfl 58 _ _ rfl g4 _ _ rfl rfl 58 g4_w3.out tsz58 rfl rfl ?_; intro w4 hB hg hz
                     have hx := GrX.grown (S := fun k => k = g4) hg rfl
                     have o5_w4 := Lib.hid (own_grx o5_w3.out hx (fun k hk => (fun e => own_ne o5_w3.out g4_w3.out (by decide) (e ▸ hk))))
                     have plq_w4 := Lib.hid (Pl.map plq_w3.out fun _ _ q => RepAt.ap q hx (SApart.blk g4_w3.out (by decide)))
                     have g3_w4 := Lib.hid (g3_w3.out.grx hx (fun e => n_g3_g4 e))
                     have gf_w4 := Lib.hid (gf_w3.out.grx hx (fun e => n_gf_g4 e))
                     have p1_w4 := Lib.hid (own_grx p1_w3.out hx (fun k hk => (fun e => own_ne p1_w3.out g4_w3.out (by decide) (e ▸ hk))))
                     have pl_w4 := Lib.hid (Pl.map pl_w3.out fun _ _ q => RepAt.ap q hx (SApart.blk g4_w3.out (by decide)))
                     have o69_0_w4 := Lib.hid (own_grx o69_0_w3.out hx (fun k hk => (fun e => own_ne o69_0_w3.out g4_w3.out (by decide) (e ▸ hk))))
                     have B_w4 := Lib.hid (below_grx B_w3.out hx B_w3.out.size (fun k => (fun e => e ▸ low_g4)))
                     clear hx
                     have g4_w4 : Hid (Blk w4 g4 58 #[.bool false, .slice A269 (l.length) c269]) := hB
                     clear hB hg hz))
                have hL : stepL l s = l := by simp [stepL, *]
                have hT : stepT l s = stepL l s := by simp [stepT, *]
                have hI : stepIs l s = false := by simp [stepIs, *]
                have rl0 : (loadVar 58 ⟨g4, 0, none⟩).run Try.prog w4 = .ok (.agg #[.bool false, .slice A269 (l.length) c269]) w4 := load_mid (P := Try.prog) _ 58 g4 0 58 _ g4_w4.out 2 (by simp) _ Try.underlying58 rfl tsz58
                (try simp only [Exit.inBlock, Exit.then])
                refine bodyPost_ret (v := .agg #[.bool false, .slice A269 (l.length) c269]) (results1 Try.results76 ⟨_, rfl, rl0⟩) rfl ?_
                exact HQ.out _ _ ⟨A, c, ps, A269, c269, (by first | (simp only [hT, hI, hL]; done) | simp [hT, hI, hL]), (by rw [hL]; exact gf_w4.out), (by rw [hL]; exact p1_w4.out), (by rw [hL]; exact pl_w4.out), (by rw [hT, hL]; exact o69_0_w4.out), (by rw [hL]; exact fos_p1), (GrX.below B_w4.out)⟩
              · have hc5' : ((s.fOp : Int) != 4) = false := by rw [bne, hc5]; rfl
                have o_hc5 : s.fOp = 4 := by simpa using hc5
                go_wp2_with (first
                  | ((with_reducible refine at_dst (N := 28) rfl ?_); refine ev_ld rfl 3 _ rfl ⟨g3, 0, none⟩ rfl (.int .i64 s.fOp) (L0_g3.out.cell 0) _ Try.underlying3 rfl ?_)
                  | ((with_reducible refine at_dst (N := 62) rfl ?_); refine ev_ld rfl 9 _ rfl ⟨g3, 2, none⟩ rfl (.string s.fName) (L0_g3.out.cell 2) _ Try.underlying9 rfl ?_)
                  | (go_at_call 143; (with_reducible refine (rRemove_any gf A c ps l Bs s.fName _ L0_gf.out L0_p1.out L0_pl.out (Nat.le_trans hBs L0_B.out.size) (by first | omega | (simp; done) | (simp; omega))).mono ?_); rintro e w3 ⟨A263, c263, ps263, rfl, hp0_63, hp1_63, hp2_63, hf1_63, hb⟩
                     have o5_w3 := Lib.hid (own_grx L0_o5.out hb (fun k hk => (fun e => e.elim (fun e => own_ne L0_o5.out L0_gf.out (by decide) (e ▸ hk)) (fun e => absurd (own_ge L0_o5.out k hk) (by have := own_lt H1.out k e; omega)))))
                     have plq_w3 := Lib.hid (Pl.map L0_plq.out fun _ _ q => RepAt.ap q hb (SApart.or (SApart.blk L0_gf.out (by decide)) (SApart.own L0_p1.out (by decide))))
                     have g3_w3 := Lib.hid (L0_g3.out.grx hb (fun e => e.elim (fun e => n_gf_g3.symm e) (own_ne L0_p1.out L0_g3.out (by decide))))
                     have g4_w3 := Lib.hid (L0_g4.out.grx hb (fun e => e.elim (fun e => n_gf_g4.symm e) (own_ne L0_p1.out L0_g4.out (by decide))))
                     have B_w3 : Hid (GrX (fun k => k = gf ∨ (.slice A l.length c : Value).ownBlock = some k) w w3) := GrX.trans' (GrX.below L0_B.out) hb (fun k hk hlt => (fun e => e.elim (fun e => .inl e) (fun e => .inr (fos_p1 k e hlt))) hk)
                     have gf_w3 := Lib.hid hp0_63
                     have p1_w3 := Lib.hid hp1_63
                     have pl_w3 := Lib.hid hp2_63
                     have fos_p1 := FoS.trans fos_p1 hf1_63 L0_B.out.size
                     clear hb hp0_63 hp1_63 hp2_63 hf1_63)
                  | ((with_reducible refine at_dst (N := 68) rfl ?_); refine ev_ld rfl 216 _ rfl ⟨gf, 1, none⟩ rfl (.slice A263 (l.filter (notN s.fName)).length c263) (gf_w3.out.cell 1) _ Try.underlying216 rfl ?_)
                  | (go_at_call 142; (with_reducible refine (rTold_any A263 ((l.filter (notN s.fName)).length) c263 ps263 (l.filter (notN s.fName)) _ (own_sl1 p1_w3.out (by first | omega | (simp; omega))) pl_w3.out (by first | assumption | omega | (simp; done)) (by first | omega | (simp; done) | (simp; omega))).mono ?_); rintro e w4 ⟨A269, c269, rfl, hp0_69, hb⟩
                     have o5_w4 := Lib.hid (own_below o5_w3.out hb)
                     have plq_w4 := Lib.hid (Pl.map plq_w3.out fun _ _ q => RepAt.below q hb)
                     have g3_w4 := Lib.hid (g3_w3.out.below hb)
                     have g4_w4 := Lib.hid (g4_w3.out.below hb)
                     have gf_w4 := Lib.hid (gf_w3.out.below hb)
                     have p1_w4 := Lib.hid (own_below p1_w3.out hb)
                     have pl_w4 := Lib.hid (Pl.map pl_w3.out fun _ _ q => RepAt.below q hb)
                     have B_w4 : Hid (GrX (fun k => k = gf ∨ (.slice A l.length c : Value).ownBlock = some k) w w4) := GrX.trans B_w3.out (GrX.below hb)
                     have hp0_69 := own_mono hp0_69 B_w3.out.size
                     have o69_0_w4 := Lib.hid hp0_69
                     clear hb hp0_69)
                  | (refine ev_store rfl 58 _ _ rfl g4 _ _ rfl rfl 58 g4_w4.out tsz58 rfl rfl ?_; intro w5 hB hg hz
                     have hx := GrX.grown (S := fun k => k = g4) hg rfl
                     have o5_w5 := Lib.hid (own_grx o5_w4.out hx (fun k hk => (fun e => own_ne o5_w4.out g4_w4.out (by decide) (e ▸ hk))))
                     have plq_w5 := Lib.hid (Pl.map plq_w4.out fun _ _ q => RepAt.ap q hx (SApart.blk g4_w4.out (by decide)))
                     have g3_w5 := Lib.hid (g3_w4.out.grx hx (fun e => n_g3_g4 e))
                     have gf_w5 := Lib.hid (gf_w4.out.grx hx (fun e => n_gf_g4 e))
                     have p1_w5 := Lib.hid (own_grx p1_w4.out hx (fun k hk => (fun e => own_ne p1_w4.out g4_w4.out (by decide) (e ▸ hk))))
                     have pl_w5 := Lib.hid (Pl.map pl_w4.out fun _ _ q => RepAt.ap q hx (SApart.blk g4_w4.out (by decide)))
                     have o69_0_w5 := Lib.hid (own_grx o69_0_w4.out hx (fun k hk => (fun e => own_ne o69_0_w4.out g4_w4.out (by decide) (e ▸ hk))))
                     have B_w5 : Hid (GrX (fun k => k = gf ∨ (.slice A l.length c : Value).ownBlock = some k) w w5) := GrX.trans' B_w4.out hx (fun k hk hlt => (fun e => absurd hlt (by have := low_g4; omega)) hk)
                     clear hx
                     have g4_w5 : Hid (Blk w5 g4 58 #[.bool (l.any (sameN s.fName)), .slice A269 (((l.filter (notN s.fName)).length)) c269]) := hB
                     clear hB hg hz))
                have hL : stepL l s = l.filter (notN s.fName) := by simp [stepL, *]
                have hT : stepT l s = stepL l s := by simp [stepT, *]
                have hI : stepIs l s = l.any (sameN s.fName) := by simp [stepIs, *]
                have rl0 : (loadVar 58 ⟨g4, 0, none⟩).run Try.prog w5 = .ok (.agg #[.bool (l.any (sameN s.fName)), .slice A269 (((l.filter (notN s.fName)).length)) c269]) w5 := load_mid (P := Try.prog) _ 58 g4 0 58 _ g4_w5.out 2 (by simp) _ Try.underlying58 rfl tsz58
                (try simp only [Exit.inBlock, Exit.then])
                refine bodyPost_ret (v := .agg #[.bool (l.any (sameN s.fName)), .slice A269 (((l.filter (notN s.fName)).length)) c269]) (results1 Try.results76 ⟨_, rfl, rl0⟩) rfl ?_
                exact HQ.out _ _ ⟨A263, c263, ps263, A269, c269, (by first | (simp only [hT, hI, hL]; done) | simp [hT, hI, hL]), (by rw [hL]; exact gf_w5.out), (by rw [hL]; exact p1_w5.out), (by rw [hL]; exact pl_w5.out), (by rw [hT, hL]; exact o69_0_w5.out), (by rw [hL]; exact fos_p1), B_w5.out⟩
            · have hc4' : ((s.fOp : Int) != 3) = false := by rw [bne, hc4]; rfl
              have o_hc4 : s.fOp = 3 := by simpa using hc4
              cases hc5 : (l.any (sameN s.fName))
              · have hno := hc5
                go_wp2_with (first
                  | ((with_reducible refine at_dst (N := 28) rfl ?_); refine ev_ld rfl 3 _ rfl ⟨g3, 0, none⟩ rfl (.int .i64 s.fOp) (L0_g3.out.cell 0) _ Try.underlying3 rfl ?_)
                  | ((with_reducible refine at_dst (N := 49) rfl ?_); refine ev_ld rfl 9 _ rfl ⟨g3, 2, none⟩ rfl (.string s.fName) (L0_g3.out.cell 2) _ Try.underlying9 rfl ?_)
                  | (go_at_call 141; (with_reducible refine (rGet_none gf A c ps l Bs s.fName _ L0_gf.out L0_p1.out L0_pl.out (by assumption)).mono ?_); rintro e w3 ⟨rfl, hb⟩
                     have o5_w3 := Lib.hid (own_below L0_o5.out hb)
                     have plq_w3 := Lib.hid (Pl.map L0_plq.out fun _ _ q => RepAt.below q hb)
                     have g3_w3 := Lib.hid (L0_g3.out.below hb)
                     have g4_w3 := Lib.hid (L0_g4.out.below hb)
                     have gf_w3 := Lib.hid (L0_gf.out.below hb)
                     have p1_w3 := Lib.hid (own_below L0_p1.out hb)
                     have pl_w3 := Lib.hid (Pl.map L0_pl.out fun _ _ q => RepAt.below q hb)
                     have B_w3 := Lib.hid (below_trans L0_B.out hb)
                     clear hb)
                  | (refine ev_store rfl 58 _ _ rfl g4 _ _ rfl rfl 58 g4_w3.out tsz58 rfl rfl ?_; intro w4 hB hg hz
                     have hx := GrX.grown (S := fun k => k = g4) hg rfl
                     have o5_w4 := Lib.hid (own_grx o5_w3.out hx (fun k hk => (fun e => own_ne o5_w3.out g4_w3.out (by decide) (e ▸ hk))))
                     have plq_w4 := Lib.hid (Pl.map plq_w3.out fun _ _ q => RepAt.ap q hx (SApart.blk g4_w3.out (by decide)))
                     have g3_w4 := Lib.hid (g3_w3.out.grx hx (fun e => n_g3_g4 e))
                     have gf_w4 := Lib.hid (gf_w3.out.grx hx (fun e => n_gf_g4 e))
                     have p1_w4 := Lib.hid (own_grx p1_w3.out hx (fun k hk => (fun e => own_ne p1_w3.out g4_w3.out (by decide) (e ▸ hk))))
                     have pl_w4 := Lib.hid (Pl.map pl_w3.out fun _ _ q => RepAt.ap q hx (SApart.blk g4_w3.out (by decide)))
                     have B_w4 := Lib.hid (below_grx B_w3.out hx B_w3.out.size (fun k => (fun e => e ▸ low_g4)))
                     clear hx
                     have g4_w4 : Hid (Blk w4 g4 58 #[.bool false, .slice none 0 0]) := hB
                     clear hB hg hz))
                have hL : stepL l s = l := by simp [stepL, *]
                have hT : stepT l s = [] := by simp [stepT, *, find_none hno]
                have hI : stepIs l s = false := by simp [stepIs, *]
                have rl0 : (loadVar 58 ⟨g4, 0, none⟩).run Try.prog w4 = .ok (.agg #[.bool false, .slice none 0 0]) w4 := load_mid (P := Try.prog) _ 58 g4 0 58 _ g4_w4.out 2 (by simp) _ Try.underlying58 rfl tsz58
                (try simp only [Exit.inBlock, Exit.then])
                refine bodyPost_ret (v := .agg #[.bool false, .slice none 0 0]) (results1 Try.results76 ⟨_, rfl, rl0⟩) rfl ?_
                exact HQ.out _ _ ⟨A, c, ps, none, 0, (by first | (simp only [hT, hI]; done) | simp [hT, hI, hL]), (by rw [hL]; exact gf_w4.out), (by rw [hL]; exact p1_w4.out), (by rw [hL]; exact pl_w4.out), (by rw [hT]; exact own_nil _ _ _ _), (by rw [hL]; exact fos_p1), (GrX.below B_w4.out)⟩
              · obtain ⟨x, hno⟩ : ∃ x, l.find? (sameN s.fName) = some x := Option.isSome_iff_exists.1 (by rw [find_any, hc5])
                go_wp2_with (first
                  | ((with_reducible refine at_dst (N := 28) rfl ?_); refine ev_ld rfl 3 _ rfl ⟨g3, 0, none⟩ rfl (.int .i64 s.fOp) (L0_g3.out.cell 0) _ Try.underlying3 rfl ?_)
                  | ((with_reducible refine at_dst (N := 49) rfl ?_); refine ev_ld rfl 9 _ rfl ⟨g3, 2, none⟩ rfl (.string s.fName) (L0_g3.out.cell 2) _ Try.underlying9 rfl ?_)
                  | (go_at_call 141; (with_reducible refine (rGet_some gf A c ps l Bs s.fName x _ L0_gf.out L0_p1.out L0_pl.out (by assumption)).mono ?_); rintro e w3 ⟨gq50, rfl, hp0_50, hb⟩
                     have o5_w3 := Lib.hid (own_below L0_o5.out hb)
                     have plq_w3 := Lib.hid (Pl.map L0_plq.out fun _ _ q => RepAt.below q hb)
                     have g3_w3 := Lib.hid (L0_g3.out.below hb)
                     have g4_w3 := Lib.hid (L0_g4.out.below hb)
                     have gf_w3 := Lib.hid (L0_gf.out.below hb)
                     have p1_w3 := Lib.hid (own_below L0_p1.out hb)
                     have pl_w3 := Lib.hid (Pl.map L0_pl.out fun _ _ q => RepAt.below q hb)
                     have B_w3 := Lib.hid (below_trans L0_B.out hb)
                     have f50_0_w3 := Lib.hid hp0_50
                     clear hb hp0_50)
                  | ((with_reducible refine at_dst (N := 55) rfl ?_); refine ev_bs rfl 216 219 1 _ rfl #[.pointer (some ⟨gq50, 0, none⟩)] (by go_simp) ?_; intro g55 w4 hg hB hb
                     have nr_o5_g55 := own_fresh' o5_w3.out hg
                     have n_g3_g55 : g3 ≠ g55 := by have := g3_w3.out.lt; omega
                     have n_g4_g55 : g4 ≠ g55 := by have := g4_w3.out.lt; omega
                     have n_gf_g55 : gf ≠ g55 := by have := gf_w3.out.lt; omega
                     have nr_p1_g55 := own_fresh' p1_w3.out hg
                     have low_g55 := Nat.le_trans B_w3.out.size hg
                     have o5_w4 := Lib.hid (own_below o5_w3.out hb)
                     have plq_w4 := Lib.hid (Pl.map plq_w3.out fun _ _ q => RepAt.below q hb)
                     have g3_w4 := Lib.hid (g3_w3.out.below hb)
                     have g4_w4 := Lib.hid (g4_w3.out.below hb)
                     have gf_w4 := Lib.hid (gf_w3.out.below hb)
                     have p1_w4 := Lib.hid (own_below p1_w3.out hb)
                     have pl_w4 := Lib.hid (Pl.map pl_w3.out fun _ _ q => RepAt.below q hb)
                     have f50_0_w4 := Lib.hid (RepAt.below f50_0_w3.out hb)
                     have B_w4 := Lib.hid (below_trans B_w3.out hb)
                     have g55_w4 : Hid (Blk w4 g55 219 #[.pointer (some ⟨gq50, 0, none⟩)]) := hB
                     clear hB hb)
                  | (go_at_call 142; (with_reducible refine (rTold_any (some ⟨g55, 0, none⟩) 1 1 ([gq50]) ([x]) _ (Lib.hid (sl_one g55_w4.out)).out (Lib.hid (pl_one (At := RepAt) f50_0_w4.out)).out (by first | assumption | omega | (simp; done)) (by first | omega | (simp; done) | (simp; omega))).mono ?_); rintro e w5 ⟨A256, c256, rfl, hp0_56, hb⟩
                     have o5_w5 := Lib.hid (own_below o5_w4.out hb)
                     have plq_w5 := Lib.hid (Pl.map plq_w4.out fun _ _ q => RepAt.below q hb)
                     have g3_w5 := Lib.hid (g3_w4.out.below hb)
                     have g4_w5 := Lib.hid (g4_w4.out.below hb)
                     have gf_w5 := Lib.hid (gf_w4.out.below hb)
                     have p1_w5 := Lib.hid (own_below p1_w4.out hb)
                     have pl_w5 := Lib.hid (Pl.map pl_w4.out fun _ _ q => RepAt.below q hb)
                     have f50_0_w5 := Lib.hid (RepAt.below f50_0_w4.out hb)
                     have g55_w5 := Lib.hid (g55_w4.out.below hb)
                     have one_w5 := Lib.hid (Pl.map (Lib.hid (pl_one (At := RepAt) f50_0_w4.out)).out fun _ _ q => RepAt.below q hb)
                     have onesl_w5 := Lib.hid ((Lib.hid (sl_one g55_w4.out)).out.below hb)
                     have B_w5 := Lib.hid (below_trans B_w4.out hb)
                     have hp0_56 := own_mono hp0_56 B_w4.out.size
                     have o56_0_w5 := Lib.hid hp0_56
                     clear hb hp0_56)
                  | (refine ev_store rfl 58 _ _ rfl g4 _ _ rfl rfl 58 g4_w5.out tsz58 rfl rfl ?_; intro w6 hB hg hz
                     have hx := GrX.grown (S := fun k => k = g4) hg rfl
                     have o5_w6 := Lib.hid (own_grx o5_w5.out hx (fun k hk => (fun e => own_ne o5_w5.out g4_w5.out (by decide) (e ▸ hk))))
                     have plq_w6 := Lib.hid (Pl.map plq_w5.out fun _ _ q => RepAt.ap q hx (SApart.blk g4_w5.out (by decide)))
                     have g3_w6 := Lib.hid (g3_w5.out.grx hx (fun e => n_g3_g4 e))
                     have gf_w6 := Lib.hid (gf_w5.out.grx hx (fun e => n_gf_g4 e))
                     have p1_w6 := Lib.hid (own_grx p1_w5.out hx (fun k hk => (fun e => own_ne p1_w5.out g4_w5.out (by decide) (e ▸ hk))))
                     have pl_w6 := Lib.hid (Pl.map pl_w5.out fun _ _ q => RepAt.ap q hx (SApart.blk g4_w5.out (by decide)))
                     have f50_0_w6 := Lib.hid (RepAt.ap f50_0_w5.out hx (SApart.blk g4_w5.out (by decide)))
                     have g55_w6 := Lib.hid (g55_w5.out.grx hx (fun e => n_g4_g55.symm e))
                     have o56_0_w6 := Lib.hid (own_grx o56_0_w5.out hx (fun k hk => (fun e => own_ne o56_0_w5.out g4_w5.out (by decide) (e ▸ hk))))
                     have B_w6 := Lib.hid (below_grx B_w5.out hx B_w5.out.size (fun k => (fun e => e ▸ low_g4)))
                     clear hx
                     have g4_w6 : Hid (Blk w6 g4 58 #[.bool true, .slice A256 (1) c256]) := hB
                     clear hB hg hz))
                have hL : stepL l s = l := by simp [stepL, *]
                have hT : stepT l s = [x] := by simp [stepT, *]
                have hI : stepIs l s = true := by simp [stepIs, *]
                have rl0 : (loadVar 58 ⟨g4, 0, none⟩).run Try.prog w6 = .ok (.agg #[.bool true, .slice A256 (1) c256]) w6 := load_mid (P := Try.prog) _ 58 g4 0 58 _ g4_w6.out 2 (by simp) _ Try.underlying58 rfl tsz58
                (try simp only [Exit.inBlock, Exit.then])
                refine bodyPost_ret (v := .agg #[.bool true, .slice A256 (1) c256]) (results1 Try.results76 ⟨_, rfl, rl0⟩) rfl ?_
                exact HQ.out _ _ ⟨A, c, ps, A256, c256, (by first | (simp only [hT, hI]; done) | simp [hT, hI, hL]), (by rw [hL]; exact gf_w6.out), (by rw [hL]; exact p1_w6.out), (by rw [hL]; exact pl_w6.out), (by rw [hT]; exact o56_0_w6.out), (by rw [hL]; exact fos_p1), (GrX.below B_w6.out)⟩
          · have hc3' : ((s.fOp : Int) != 2) = false := by rw [bne, hc3]; rfl
            have o_hc3 : s.fOp = 2 := by simpa using hc3
            go_wp2_with (first
              | ((with_reducible refine at_dst (N := 28) rfl ?_); refine ev_ld rfl 3 _ rfl ⟨g3, 0, none⟩ rfl (.int .i64 s.fOp) (L0_g3.out.cell 0) _ Try.underlying3 rfl ?_)
              | ((with_reducible refine at_dst (N := 43) rfl ?_); refine ev_ld rfl 9 _ rfl ⟨g3, 2, none⟩ rfl (.string s.fName) (L0_g3.out.cell 2) _ Try.underlying9 rfl ?_)
              | (go_at_call 140; (with_reducible refine (rHas_any gf A c ps l Bs s.fName _ L0_gf.out L0_p1.out L0_pl.out).mono ?_); rintro e w3 ⟨rfl, hb⟩
                 have o5_w3 := Lib.hid (own_below L0_o5.out hb)
                 have plq_w3 := Lib.hid (Pl.map L0_plq.out fun _ _ q => RepAt.below q hb)
                 have g3_w3 := Lib.hid (L0_g3.out.below hb)
                 have g4_w3 := Lib.hid (L0_g4.out.below hb)
                 have gf_w3 := Lib.hid (L0_gf.out.below hb)
                 have p1_w3 := Lib.hid (own_below L0_p1.out hb)
                 have pl_w3 := Lib.hid (Pl.map L0_pl.out fun _ _ q => RepAt.below q hb)
                 have B_w3 := Lib.hid (below_trans L0_B.out hb)
                 clear hb)
              | ((with_reducible refine at_dst (N := 68) rfl ?_); refine ev_ld rfl 216 _ rfl ⟨gf, 1, none⟩ rfl (.slice A l.length c) (gf_w3.out.cell 1) _ Try.underlying216 rfl ?_)
              | (go_at_call 142; (with_reducible refine (rTold_any A l.length c ps l _ (own_sl1 p1_w3.out (by first | omega | (simp; omega))) pl_w3.out (by first | assumption | omega | (simp; done)) (by first | omega | (simp; done) | (simp; omega))).mono ?_); rintro e w4 ⟨A269, c269, rfl, hp0_69, hb⟩
                 have o5_w4 := Lib.hid (own_below o5_w3.out hb)
                 have plq_w4 := Lib.hid (Pl.map plq_w3.out fun _ _ q => RepAt.below q hb)
                 have g3_w4 := Lib.hid (g3_w3.out.below hb)
                 have g4_w4 := Lib.hid (g4_w3.out.below hb)
                 have gf_w4 := Lib.hid (gf_w3.out.below hb)
                 have p1_w4 := Lib.hid (own_below p1_w3.out hb)
                 have pl_w4 := Lib.hid (Pl.map pl_w3.out fun _ _ q => RepAt.below q hb)
                 have B_w4 := Lib.hid (below_trans B_w3.out hb)
                 have hp0_69 := own_mono hp0_69 B_w3.out.size
                 have o69_0_w4 := Lib.hid hp0_69
                 clear hb hp0_69)
              | (refine ev_store rfl 58 _ _ rfl g4 _ _ rfl rfl 58 g4_w4.out tsz58 rfl rfl ?_; intro w5 hB hg hz
                 have hx := GrX.grown (S := fun k => k = g4) hg rfl
                 have o5_w5 := Lib.hid (own_grx o5_w4.out hx (fun k hk => (fun e => own_ne o5_w4.out g4_w4.out (by decide) (e ▸ hk))))
                 have plq_w5 := Lib.hid (Pl.map plq_w4.out fun _ _ q => RepAt.ap q hx (SApart.blk g4_w4.out (by decide)))
                 have g3_w5 := Lib.hid (g3_w4.out.grx hx (fun e => n_g3_g4 e))
                 have gf_w5 := Lib.hid (gf_w4.out.grx hx (fun e => n_gf_g4 e))
                 have p1_w5 := Lib.hid (own_grx p1_w4.out hx (fun k hk => (fun e => own_ne p1_w4.out g4_w4.out (by decide) (e ▸ hk))))
                 have pl_w5 := Lib.hid (Pl.map pl_w4.out fun _ _ q => RepAt.ap q hx (SApart.blk g4_w4.out (by decide)))
                 have o69_0_w5 := Lib.hid (own_grx o69_0_w4.out hx (fun k hk => (fun e => own_ne o69_0_w4.out g4_w4.out (by decide) (e ▸ hk))))
                 have B_w5 := Lib.hid (below_grx B_w4.out hx B_w4.out.size (fun k => (fun e => e ▸ low_g4)))
                 clear hx
                 have g4_w5 : Hid (Blk w5 g4 58 #[.bool (l.any (sameN s.fName)), .slice A269 (l.length) c269]) := hB
                 clear hB hg hz))
            have hL : stepL l s = l := by simp [stepL, *]
            have hT : stepT l s = stepL l s := by simp [stepT, *]
            have hI : stepIs l s = l.any (sameN s.fName) := by simp [stepIs, *]
            have rl0 : (loadVar 58 ⟨g4, 0, none⟩).run Try.prog w5 = .ok (.agg #[.bool (l.any (sameN s.fName)), .slice A269 (l.length) c269]) w5 := load_mid (P := Try.prog) _ 58 g4 0 58 _ g4_w5.out 2 (by simp) _ Try.underlying58 rfl tsz58
            (try simp only [Exit.inBlock, Exit.then])
            refine bodyPost_ret (v := .agg #[.bool (l.any (sameN s.fName)), .slice A269 (l.length) c269]) (results1 Try.results76 ⟨_, rfl, rl0⟩) rfl ?_
            exact HQ.out _ _ ⟨A, c, ps, A269, c269, (by first | (simp only [hT, hI, hL]; done) | simp [hT, hI, hL]), (by rw [hL]; exact gf_w5.out), (by rw [hL]; exact p1_w5.out), (by rw [hL]; exact pl_w5.out), (by rw [hT, hL]; exact o69_0_w5.out), (by rw [hL]; exact fos_p1), (GrX.below B_w5.out)⟩
        · have hc2' : ((s.fOp : Int) != 1) = false := by rw [bne, hc2]; rfl
          have o_hc2 : s.fOp = 1 := by simpa using hc2
          go_wp2_with (first
            | ((with_reducible refine at_dst (N := 28) rfl ?_); refine ev_ld rfl 3 _ rfl ⟨g3, 0, none⟩ rfl (.int .i64 s.fOp) (L0_g3.out.cell 0) _ Try.underlying3 rfl ?_)
            | (go_at_call 139; (with_reducible refine (rUpdate_any gf A c ps l Bs A5 s.fRepos.length c5 qs s.fRepos w.heap.size _ L0_gf.out L0_p1.out L0_pl.out L0_o5.out L0_plq.out (Nat.le_trans hBs L0_B.out.size) (by first | assumption | omega | (simp; done)) (by first | omega | (simp; done) | (simp; omega)) (fun k h1 h2 => absurd (own_ge L0_o5.out k h2) (by have := own_lt H1.out k h1; omega))).mono ?_); rintro e w3 ⟨A238, c238, ps238, rfl, hp0_38, hp1_38, hp2_38, hf1_38, hb⟩
               have o5_w3 := Lib.hid (own_grx L0_o5.out hb (fun k hk => (fun e => e.elim (fun e => own_ne L0_o5.out L0_gf.out (by decide) (e ▸ hk)) (fun e => absurd (own_ge L0_o5.out k hk) (by have := own_lt H1.out k e; omega)))))
               have plq_w3 := Lib.hid (Pl.map L0_plq.out fun _ _ q => RepAt.ap q hb (SApart.or (SApart.blk L0_gf.out (by decide)) (SApart.own L0_p1.out (by decide))))
               have g3_w3 := Lib.hid (L0_g3.out.grx hb (fun e => e.elim (fun e => n_gf_g3.symm e) (own_ne L0_p1.out L0_g3.out (by decide))))
               have g4_w3 := Lib.hid (L0_g4.out.grx hb (fun e => e.elim (fun e => n_gf_g4.symm e) (own_ne L0_p1.out L0_g4.out (by decide))))
               have B_w3 : Hid (GrX (fun k => k = gf ∨ (.slice A l.length c : Value).ownBlock = some k) w w3) := GrX.trans' (GrX.below L0_B.out) hb (fun k hk hlt => (fun e => e.elim (fun e => .inl e) (fun e => .inr (fos_p1 k e hlt))) hk)
               have gf_w3 := Lib.hid hp0_38
               have p1_w3 := Lib.hid hp1_38
               have pl_w3 := Lib.hid hp2_38
               have fos_p1 := FoS.trans fos_p1 hf1_38 L0_B.out.size
               clear hb hp0_38 hp1_38 hp2_38 hf1_38)
            | ((with_reducible refine at_dst (N := 68) rfl ?_); refine ev_ld rfl 216 _ rfl ⟨gf, 1, none⟩ rfl (.slice A238 ((s.fRepos.foldl updF l).length) c238) (gf_w3.out.cell 1) _ Try.underlying216 rfl ?_)
            | (go_at_call 142; (with_reducible refine (rTold_any A238 ((s.fRepos.foldl updF l).length) c238 ps238 (s.fRepos.foldl updF l) _ (own_sl1 p1_w3.out (by first | omega | (simp; omega))) pl_w3.out (by first | assumption | omega | (simp; done)) (by first | omega | (simp; done) | (simp; omega))).mono ?_); rintro e w4 ⟨A269, c269, rfl, hp0_69, hb⟩
               have o5_w4 := Lib.hid (own_below o5_w3.out hb)
               have plq_w4 := Lib.hid (Pl.map plq_w3.out fun _ _ q => RepAt.below q hb)
               have g3_w4 := Lib.hid (g3_w3.out.below hb)
               have g4_w4 := Lib.hid (g4_w3.out.below hb)
               have gf_w4 := Lib.hid (gf_w3.out.below hb)
               have p1_w4 := Lib.hid (own_below p1_w3.out hb)
               have pl_w4 := Lib.hid (Pl.map pl_w3.out fun _ _ q => RepAt.below q hb)
               have B_w4 : Hid (GrX (fun k => k = gf ∨ (.slice A l.length c : Value).ownBlock = some k) w w4) := GrX.trans B_w3.out (GrX.below hb)
               have hp0_69 := own_mono hp0_69 B_w3.out.size
               have o69_0_w4 := Lib.hid hp0_69
               clear hb hp0_69)
            | (refine ev_store rfl 58 _ _ rfl g4 _ _ rfl rfl 58 g4_w4.out tsz58 rfl rfl ?_; intro w5 hB hg hz
               have hx := GrX.grown (S := fun k => k = g4) hg rfl
               have o5_w5 := Lib.hid (own_grx o5_w4.out hx (fun k hk => (fun e => own_ne o5_w4.out g4_w4.out (by decide) (e ▸ hk))))
               have plq_w5 := Lib.hid (Pl.map plq_w4.out fun _ _ q => RepAt.ap q hx (SApart.blk g4_w4.out (by decide)))
               have g3_w5 := Lib.hid (g3_w4.out.grx hx (fun e => n_g3_g4 e))
               have gf_w5 := Lib.hid (gf_w4.out.grx hx (fun e => n_gf_g4 e))
               have p1_w5 := Lib.hid (own_grx p1_w4.out hx (fun k hk => (fun e => own_ne p1_w4.out g4_w4.out (by decide) (e ▸ hk))))
               have pl_w5 := Lib.hid (Pl.map pl_w4.out fun _ _ q => RepAt.ap q hx (SApart.blk g4_w4.out (by decide)))
               have o69_0_w5 := Lib.hid (own_grx o69_0_w4.out hx (fun k hk => (fun e => own_ne o69_0_w4.out g4_w4.out (by decide) (e ▸ hk))))
               have B_w5 : Hid (GrX (fun k => k = gf ∨ (.slice A l.length c : Value).ownBlock = some k) w w5) := GrX.trans' B_w4.out hx (fun k hk hlt => (fun e => absurd hlt (by have := low_g4; omega)) hk)
               clear hx
               have g4_w5 : Hid (Blk w5 g4 58 #[.bool false, .slice A269 (((s.fRepos.foldl updF l).length)) c269]) := hB
               clear hB hg hz))
          have hL : stepL l s = s.fRepos.foldl updF l := by simp [stepL, *]
          have hT : stepT l s = stepL l s := by simp [stepT, *]
          have hI : stepIs l s = false := by simp [stepIs, *]
          have rl0 : (loadVar 58 ⟨g4, 0, none⟩).run Try.prog w5 = .ok (.agg #[.bool false, .slice A269 (((s.fRepos.foldl updF l).length)) c269]) w5 := load_mid (P := Try.prog) _ 58 g4 0 58 _ g4_w5.out 2 (by simp) _ Try.underlying58 rfl tsz58
          (try simp only [Exit.inBlock, Exit.then])
          refine bodyPost_ret (v := .agg #[.bool false, .slice A269 (((s.fRepos.foldl updF l).length)) c269]) (results1 Try.results76 ⟨_, rfl, rl0⟩) rfl ?_
          exact HQ.out _ _ ⟨A238, c238, ps238, A269, c269, (by first | (simp only [hT, hI, hL]; done) | simp [hT, hI, hL]), (by rw [hL]; exact gf_w5.out), (by rw [hL]; exact p1_w5.out), (by rw [hL]; exact pl_w5.out), (by rw [hT, hL]; exact o69_0_w5.out), (by rw [hL]; exact fos_p1), B_w5.out⟩
      · have hc1' : ((s.fOp : Int) != 0) = false := by rw [bne, hc1]; rfl
        have o_hc1 : s.fOp = 0 := by simpa using hc1
        go_wp2_with (first
          | ((with_reducible refine at_dst (N := 28) rfl ?_); refine ev_ld rfl 3 _ rfl ⟨g3, 0, none⟩ rfl (.int .i64 s.fOp) (L0_g3.out.cell 0) _ Try.underlying3 rfl ?_)
          | (go_at_call 138; (with_reducible refine (rAdd_any gf A c ps l Bs A5 s.fRepos.length c5 qs s.fRepos _ L0_gf.out L0_p1.out L0_pl.out (own_sl1 L0_o5.out (by first | omega | (simp; omega))) L0_plq.out (Nat.le_trans hBs L0_B.out.size) (by first | assumption | omega | (simp; done)) (by first | omega | (simp; done) | (simp; omega)) (by first | omega | (simp; done) | (simp; omega))).mono ?_); rintro e w3 ⟨A233, c233, ps233, rfl, hp0_33, hp1_33, hp2_33, hf1_33, hb⟩
             have o5_w3 := Lib.hid (own_grx L0_o5.out hb (fun k hk => (fun e => e.elim (fun e => own_ne L0_o5.out L0_gf.out (by decide) (e ▸ hk)) (fun e => absurd (own_ge L0_o5.out k hk) (by have := own_lt H1.out k e; omega)))))
             have plq_w3 := Lib.hid (Pl.map L0_plq.out fun _ _ q => RepAt.ap q hb (SApart.or (SApart.blk L0_gf.out (by decide)) (SApart.own L0_p1.out (by decide))))
             have g3_w3 := Lib.hid (L0_g3.out.grx hb (fun e => e.elim (fun e => n_gf_g3.symm e) (own_ne L0_p1.out L0_g3.out (by decide))))
             have g4_w3 := Lib.hid (L0_g4.out.grx hb (fun e => e.elim (fun e => n_gf_g4.symm e) (own_ne L0_p1.out L0_g4.out (by decide))))
             have B_w3 : Hid (GrX (fun k => k = gf ∨ (.slice A l.length c : Value).ownBlock = some k) w w3) := GrX.trans' (GrX.below L0_B.out) hb (fun k hk hlt => (fun e => e.elim (fun e => .inl e) (fun e => .inr (fos_p1 k e hlt))) hk)
             have gf_w3 := Lib.hid hp0_33
             have p1_w3 := Lib.hid hp1_33
             have pl_w3 := Lib.hid hp2_33
             have fos_p1 := FoS.trans fos_p1 hf1_33 L0_B.out.size
             clear hb hp0_33 hp1_33 hp2_33 hf1_33)
          | ((with_reducible refine at_dst (N := 68) rfl ?_); refine ev_ld rfl 216 _ rfl ⟨gf, 1, none⟩ rfl (.slice A233 (l.length + s.fRepos.length) c233) (gf_w3.out.cell 1) _ Try.underlying216 rfl ?_)
          | (go_at_call 142; (with_reducible refine (rTold_any A233 (l.length + s.fRepos.length) c233 ps233 (l ++ s.fRepos) _ (own_sl1 p1_w3.out (by first | omega | (simp; omega))) pl_w3.out (by first | assumption | omega | (simp; done)) (by first | omega | (simp; done) | (simp; omega))).mono ?_); rintro e w4 ⟨A269, c269, rfl, hp0_69, hb⟩
             have o5_w4 := Lib.hid (own_below o5_w3.out hb)
             have plq_w4 := Lib.hid (Pl.map plq_w3.out fun _ _ q => RepAt.below q hb)
             have g3_w4 := Lib.hid (g3_w3.out.below hb)
             have g4_w4 := Lib.hid (g4_w3.out.below hb)
             have gf_w4 := Lib.hid (gf_w3.out.below hb)
             have p1_w4 := Lib.hid (own_below p1_w3.out hb)
             have pl_w4 := Lib.hid (Pl.map pl_w3.out fun _ _ q => RepAt.below q hb)
             have B_w4 : Hid (GrX (fun k => k = gf ∨ (.slice A l.length c : Value).ownBlock = some k) w w4) := GrX.trans B_w3.out (GrX.below hb)
             have hp0_69 := own_mono hp0_69 B_w3.out.size
             have o69_0_w4 := Lib.hid hp0_69
             clear hb hp0_69)
          | (refine ev_store rfl 58 _ _ rfl g4 _ _ rfl rfl 58 g4_w4.out tsz58 rfl rfl ?_; intro w5 hB hg hz
             have hx := GrX.grown (S := fun k => k = g4) hg rfl
             have o5_w5 := Lib.hid (own_grx o5_w4.out hx (fun k hk => (fun e => own_ne o5_w4.out g4_w4.out (by decide) (e ▸ hk))))
             have plq_w5 := Lib.hid (Pl.map plq_w4.out fun _ _ q => RepAt.ap q hx (SApart.blk g4_w4.out (by decide)))
             have g3_w5 := Lib.hid (g3_w4.out.grx hx (fun e => n_g3_g4 e))
             have gf_w5 := Lib.hid (gf_w4.out.grx hx (fun e => n_gf_g4 e))
             have p1_w5 := Lib.hid (own_grx p1_w4.out hx (fun k hk => (fun e => own_ne p1_w4.out g4_w4.out (by decide) (e ▸ hk))))
             have pl_w5 := Lib.hid (Pl.map pl_w4.out fun _ _ q => RepAt.ap q hx (SApart.blk g4_w4.out (by decide)))
             have o69_0_w5 := Lib.hid (own_grx o69_0_w4.out hx (fun k hk => (fun e => own_ne o69_0_w4.out g4_w4.out (by decide) (e ▸ hk))))
             have B_w5 : Hid (GrX (fun k => k = gf ∨ (.slice A l.length c : Value).ownBlock = some k) w w5) := GrX.trans' B_w4.out hx (fun k hk hlt => (fun e => absurd hlt (by have := low_g4; omega)) hk)
             clear hx
             have g4_w5 : Hid (Blk w5 g4 58 #[.bool false, .slice A269 ((l.length + s.fRepos.length)) c269]) := hB
             clear hB hg hz))
        have hL : stepL l s = l ++ s.fRepos := by simp [stepL, *]
        have hT : stepT l s = stepL l s := by simp [stepT, *]
        have hI : stepIs l s = false := by simp [stepIs, *]
        have rl0 : (loadVar 58 ⟨g4, 0, none⟩).run Try.prog w5 = .ok (.agg #[.bool false, .slice A269 ((l.length + s.fRepos.length)) c269]) w5 := load_mid (P := Try.prog) _ 58 g4 0 58 _ g4_w5.out 2 (by simp) _ Try.underlying58 rfl tsz58
        (try simp only [Exit.inBlock, Exit.then])
        refine bodyPost_ret (v := .agg #[.bool false, .slice A269 ((l.length + s.fRepos.length)) c269]) (results1 Try.results76 ⟨_, rfl, rl0⟩) rfl ?_
        exact HQ.out _ _ ⟨A233, c233, ps233, A269, c269, (by first | (simp only [hT, hI, hL]; done) | simp [hT, hI, hL]), (by rw [hL, List.length_append]; exact gf_w5.out), (by rw [hL, List.length_append]; exact p1_w5.out), (by rw [hL]; exact pl_w5.out), (by rw [hT, hL, List.length_append]; exact o69_0_w5.out), (by rw [hL, List.length_append]; exact fos_p1), B_w5.out⟩
end Go.Proofs.Ytkjcedlgljeoiaa
