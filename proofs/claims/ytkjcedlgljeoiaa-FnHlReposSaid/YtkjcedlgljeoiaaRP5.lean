/- Lists of repositories: Repos. -/
import Derived.Test.YtkjcedlgljeoiaaRP4
namespace Go.Proofs.Ytkjcedlgljeoiaa
open Go.RowKit Go.Lib
set_option linter.unusedVariables false
set_option linter.unusedSimpArgs false
structure Ty58 where
  fIs : Bool
  fRepos_a : Option Addr
  fRepos_c : Nat
  fRepos : List Ty52
def Ty58.cells (x : Ty58) : List Value := [.bool x.fIs, .slice x.fRepos_a x.fRepos.length x.fRepos_c]
theorem Ty58.len (x : Ty58) : x.cells.length = 2 := rfl
theorem Ty58.one (x : Ty58) : ∀ u ∈ x.cells, u.oneCell' = true := fun u hu => by
  simp only [Ty58.cells, List.mem_cons, List.not_mem_nil, or_false] at hu
  rcases hu with rfl | rfl <;> rfl
def DonesOk (zs : List Ty58) (w : World) : Prop := ∀ z ∈ zs, TSl w z.fRepos_a 52 (flatC Ty52.cells z.fRepos)
theorem DonesOk.below {zs : List Ty58} {w w' : World} (h : DonesOk zs w) (hb : Below w.heap.size w w') : DonesOk zs w' := fun z hz => (h z hz).below hb
theorem DonesOk.ap {zs : List Ty58} {w w' : World} {S : Nat → Prop} (h : DonesOk zs w) (hx : GrX S w w') (ha : SApart w S [52]) : DonesOk zs w' := fun z hz => (h z hz).ap hx ha (by simp)
theorem DonesOk.snoc {zs : List Ty58} {z : Ty58} {w : World} (h : DonesOk zs w) (hz : TSl w z.fRepos_a 52 (flatC Ty52.cells z.fRepos)) : DonesOk (zs ++ [z]) w := fun y hy => by
  rcases List.mem_append.1 hy with h1 | h1
  · exact h y h1
  · rw [List.mem_singleton.1 h1]; exact hz
def keyD (z : Ty58) : Bool × List Ty52 := (z.fIs, z.fRepos)
def donesL : List Ty52 → List Ty50 → List (Bool × List Ty52)
  | _, [] => []
  | l, s :: ss => (stepIs l s, stepT l s) :: donesL (stepL l s) ss
theorem dones_snoc (l : List Ty52) (ss : List Ty50) (s : Ty50) : donesL l (ss ++ [s]) = donesL l ss ++ [(stepIs (ss.foldl stepL l) s, stepT (ss.foldl stepL l) s)] := by
  induction ss generalizing l with
  | nil => rfl
  | cons a t ih => simp only [List.cons_append, donesL, ih, List.foldl_cons]
theorem dones_len (l : List Ty52) (ss : List Ty50) : (donesL l ss).length = ss.length := by
  induction ss generalizing l with
  | nil => rfl
  | cons a t ih => simp only [donesL, List.length_cons, ih]
theorem state_take {l : List Ty52} {ss : List Ty50} {k : Nat} (h : k < ss.length) : (ss.take (k + 1)).foldl stepL l = stepL ((ss.take k).foldl stepL l) ss[k] := by rw [take_snoc h, List.foldl_append]; rfl
theorem dones_take {l : List Ty52} {ss : List Ty50} {k : Nat} (h : k < ss.length) : donesL l (ss.take (k + 1)) = donesL l (ss.take k) ++ [(stepIs ((ss.take k).foldl stepL l) ss[k], stepT ((ss.take k).foldl stepL l) ss[k])] := by rw [take_snoc h, dones_snoc]
theorem state_len {ss : List Ty50} (h : ∀ s ∈ ss, s.fRepos.length ≤ 20) (l : List Ty52) : (ss.foldl stepL l).length ≤ l.length + 20 * ss.length := by
  induction ss generalizing l with
  | nil => simp
  | cons s ss ih =>
    have h1 := ih (fun x hx => h x (by simp [hx])) (stepL l s)
    have h2 := stepL_len l s
    have h3 := h s (by simp)
    simp only [List.foldl_cons, List.length_cons]
    omega
theorem stepT_len (l : List Ty52) (s : Ty50) : (stepT l s).length ≤ l.length + s.fRepos.length + 1 := by
  unfold stepT
  split
  · cases l.find? (sameN s.fName) <;> simp
  · have := stepL_len l s; omega
theorem own_tslN {w : World} {B : Nat} {e : TypeId} {sz n c' : Nat} {A : Option Addr} {cs : List Value} (h : w.ownsRow B e sz (.slice A n c') n cs) (_ : 0 < sz) (hn : n * sz ≤ 9223372036854775807) : TSl w A e cs := own_tsl h hn
set_option maxRecDepth 100000 in
set_option maxHeartbeats 4000000 in
theorem repos_any (A : Option Addr) (c : Nat) (ss : List Ty50) (w : World) (h0 : Rows w (A) 3 (ss.map Ty50.cells)) (h1 : Ty50.oks ss w) (hn : ss.length ≤ 40) (hs : ∀ s ∈ ss, 0 ≤ s.fOp ∧ s.fOp ≤ 4 ∧ s.fRepos.length ≤ 6) :
    Calls Try.prog 25 #[.slice (A) (ss.length) (c)] w fun e w' => ∃ A2 : Option Addr, ∃ c2 : Nat, ∃ zs : List Ty58, e = .returned (.tuple #[.slice A2 (ss.length) c2, .int .i64 0]) ∧ World.ownsRow w' w.heap.size 58 2 (.slice A2 ss.length c2) (ss.length) (flatC Ty58.cells zs) ∧ DonesOk zs w' ∧ zs.map keyD = donesL [] ss ∧ Below w.heap.size w w' := by
  have hl_ss : ss.length ≤ 9223372036854775807 := by have := h0.1; simpa [strs, ptrs] using this
  have H0 := Lib.hid h0
  clear h0
  have H1 := Lib.hid h1
  clear h1
  have HS := Lib.hid hs
  clear hs
  have ha1 : ¬ ((200 : Int) < ↑ss.length) := by omega
  suffices hQ : ∀ Q : Ending → World → Prop, Hid (∀ (e : Ending) (w' : World), (∃ A2 : Option Addr, ∃ c2 : Nat, ∃ zs : List Ty58, e = .returned (.tuple #[.slice A2 (ss.length) c2, .int .i64 0]) ∧ World.ownsRow w' w.heap.size 58 2 (.slice A2 ss.length c2) (ss.length) (flatC Ty58.cells zs) ∧ DonesOk zs w' ∧ zs.map keyD = donesL [] ss ∧ Below w.heap.size w w') → Post1 Q e w') → Calls Try.prog 25 #[.slice (A) (ss.length) (c)] w (fun e w' => Post1 Q e w') from hQ (fun e w' => ∃ A2 : Option Addr, ∃ c2 : Nat, ∃ zs : List Ty58, e = .returned (.tuple #[.slice A2 (ss.length) c2, .int .i64 0]) ∧ World.ownsRow w' w.heap.size 58 2 (.slice A2 ss.length c2) (ss.length) (flatC Ty58.cells zs) ∧ DonesOk zs w' ∧ zs.map keyD = donesL [] ss ∧ Below w.heap.size w w') (fun _ _ h => by unfold Post1; exact h)
  intro Q HQ
  go_enter Try.func25, Try.ntmps25
  go_wp2_with (first
    | (go_at_call 75; (with_reducible refine (rNew_any  _ ).mono ?_); rintro e w2 ⟨gf10, A10, c10, rfl, hp0_10, hp1_10, hp2_10, hb⟩
       have low_gf10 := Nat.le_trans (Nat.le_refl _) hp0_10
       have B_w2 := Lib.hid (below_trans (Below.refl _ _) hb)
       have gf10_w2 := Lib.hid hp1_10
       have hp2_10 := own_mono hp2_10 (Nat.le_refl _)
       have o10_2_w2 := Lib.hid hp2_10
       clear hb hp0_10 hp1_10 hp2_10))
  go_loopw [2, 13] (fun v2 v13 wr => ∃ k : Nat, ∃ A1 : Option Addr, ∃ c1 : Nat, ∃ ps1 : List Nat, ∃ zs : List Ty58, (k ≤ ss.length) ∧ v13 = .int .i64 (↑k) ∧ Hid (World.ownsRow wr w.heap.size 58 2 v2 k (flatC Ty58.cells zs)) ∧ Hid (DonesOk zs wr) ∧ Hid (zs.map keyD = donesL [] (ss.take k)) ∧ Hid (Blk wr gf10 218 #[.string ⟨#[118, 49]⟩, .slice A1 ((ss.take k).foldl stepL []).length c1]) ∧ Hid (World.ownsRow wr w.heap.size 219 1 (.slice A1 ((ss.take k).foldl stepL []).length c1) (((ss.take k).foldl stepL []).length) (ptrs ps1)) ∧ Hid (Pl RepAt wr ps1 ((ss.take k).foldl stepL [])) ∧ Hid (Below w.heap.size w wr)) (fun v2 v13 _ => ss.length - (intOf v13).toNat)
  case atStart => exact ⟨0, A10, c10, [], [], (by omega), rfl, (own_nil _ _ _ _), (fun z hz => absurd hz (by simp)), rfl, gf10_w2, o10_2_w2, Pl.nil, B_w2⟩
  case round =>
    obtain ⟨k, A1, c1, ps1, zs, hk, rfl, L0_o2, L0_dz, L0_hz, L0_gf10, L0_p1, L0_pl, L0_B⟩ := hrel
    by_cases hlt_k : k < ss.length
    · obtain ⟨ad_k, rfl⟩ := (H0.out.below L0_B.out).addr (by simp [strs, ptrs]; omega)
      have HE := Lib.hid (Ty50.oks.at H1.out hlt_k)
      obtain ⟨hs1, hs2, hs3⟩ := HS.out _ (List.getElem_mem hlt_k)
      have hst := state_len (ss := ss.take k) (fun x hx => Nat.le_trans (HS.out x (List.mem_of_mem_take hx)).2.2 (by omega)) []
      have htk : (ss.take k).length ≤ k := List.length_take_le k ss
      simp only [List.length_nil, Nat.zero_add] at hst
      have ha3 : ¬ ((20 : Int) < ↑ss[k].fRepos.length) := by omega
      have ha4 : ¬ ((ss[k].fOp : Int) < 0) := by omega
      have ha5 : ¬ ((4 : Int) < ss[k].fOp) := by omega
      go_wp2_with (first
        | ((with_reducible refine at_dst (N := 16) rfl ?_); refine ev_loadR rfl 50 _ rfl _ rfl [.int .i64 ss[k].fOp, .slice ss[k].fRepos_a ss[k].fRepos.length ss[k].fRepos_c, .string ss[k].fName] ((H0.out.below L0_B.out).el (j := k) (row := ss[k].cells) (by simp [hlt_k])) _ Try.underlying50 rfl tsz50 ?_)
        | ((with_reducible refine at_dst (N := 6) rfl ?_); refine ev_alloc rfl 50 rfl _ _ tz50 ?_; intro g6 w6 hg hB hb
           have n_gf10_g6 : gf10 ≠ g6 := by have := L0_gf10.out.lt; omega
           have low_g6 := Nat.le_trans L0_B.out.size hg
           have p1_w6 := Lib.hid (own_below L0_p1.out hb)
           have o2_w6 := Lib.hid (own_below L0_o2.out hb)
           have dz_w6 := Lib.hid (DonesOk.below L0_dz.out hb)
           have gf10_w6 := Lib.hid (L0_gf10.out.below hb)
           have pl_w6 := Lib.hid (Pl.map L0_pl.out fun _ _ q => RepAt.below q hb)
           have B_w6 := Lib.hid (below_trans L0_B.out hb)
           have g6_w6 : Hid (Blk w6 g6 50 #[.int .i64 0, .slice none 0 0, .string ⟨#[]⟩]) := hB
           clear hB hb)
        | (refine ev_store rfl 50 _ _ rfl g6 _ _ rfl rfl 50 g6_w6.out tsz50 rfl rfl ?_; intro w7 hB hg hz
           have hx := GrX.grown (S := fun k => k = g6) hg rfl
           have p1_w7 := Lib.hid (own_grx p1_w6.out hx (fun k hk => (fun e => own_ne p1_w6.out g6_w6.out (by decide) (e ▸ hk))))
           have o2_w7 := Lib.hid (own_grx o2_w6.out hx (fun k hk => (fun e => own_ne o2_w6.out g6_w6.out (by decide) (e ▸ hk))))
           have dz_w7 := Lib.hid (DonesOk.ap dz_w6.out hx (SApart.blk g6_w6.out (by decide)))
           have gf10_w7 := Lib.hid (gf10_w6.out.grx hx (fun e => n_gf10_g6 e))
           have pl_w7 := Lib.hid (Pl.map pl_w6.out fun _ _ q => RepAt.ap q hx (SApart.blk g6_w6.out (by decide)))
           have B_w7 := Lib.hid (below_grx B_w6.out hx B_w6.out.size (fun k => (fun e => e ▸ low_g6)))
           clear hx
           have g6_w7 : Hid (Blk w7 g6 50 #[.int .i64 ss[k].fOp, .slice ss[k].fRepos_a ss[k].fRepos.length ss[k].fRepos_c, .string ss[k].fName]) := hB
           clear hB hg hz)
        | ((with_reducible refine at_dst (N := 18) rfl ?_); refine ev_ld rfl 48 _ rfl ⟨g6, 1, none⟩ rfl (.slice ss[k].fRepos_a ss[k].fRepos.length ss[k].fRepos_c) (g6_w7.out.cell 1) _ Try.underlying48 rfl ?_)
        | ((with_reducible refine at_dst (N := 23) rfl ?_); refine wl_guard rfl ?_; refine ev_ld rfl 3 _ rfl ⟨g6, 0, none⟩ rfl (.int .i64 ss[k].fOp) (g6_w7.out.cell 0) _ Try.underlying3 rfl ?_)
        | ((with_reducible refine at_dst (N := 28) rfl ?_); refine wl_guard rfl ?_; refine ev_ld rfl 3 _ rfl ⟨g6, 0, none⟩ rfl (.int .i64 ss[k].fOp) (g6_w7.out.cell 0) _ Try.underlying3 rfl ?_)
        | ((with_reducible refine at_dst (N := 33) rfl ?_); refine ev_loadB rfl 50 _ rfl g6 rfl 50 _ g6_w7.out _ Try.underlying50 rfl tsz50 ?_)
        | (go_at_call 76; (with_reducible refine (rDone_any gf10 A1 c1 ps1 ((ss.take k).foldl stepL []) w.heap.size ss[k] _ gf10_w7.out p1_w7.out pl_w7.out (Ty50.ok.below HE.out B_w7.out) B_w7.out.size (by assumption) (by first | omega | (simp; done) | (simp; omega))).mono ?_); rintro e w8 ⟨A234, c234, ps234, A334, c334, rfl, hp0_34, hp1_34, hp2_34, hp3_34, hf1_34, hb⟩
           have o2_w8 := Lib.hid (own_grx o2_w7.out hb (fun k hk => (fun e => e.elim (fun e => own_ne o2_w7.out gf10_w7.out (by decide) (e ▸ hk)) (fun e => own_apart o2_w7.out p1_w7.out (by decide) k e hk))))
           have dz_w8 := Lib.hid (DonesOk.ap dz_w7.out hb (SApart.or (SApart.blk gf10_w7.out (by decide)) (SApart.own p1_w7.out (by decide))))
           have g6_w8 := Lib.hid (g6_w7.out.grx hb (fun e => e.elim (fun e => n_gf10_g6.symm e) (own_ne p1_w7.out g6_w7.out (by decide))))
           have B_w8 := Lib.hid (below_grx B_w7.out hb B_w7.out.size (fun k => (fun e => e.elim (fun e => e ▸ low_gf10) (fun e => own_ge p1_w7.out k e))))
           have gf10_w8 := Lib.hid hp0_34
           have p1_w8 := Lib.hid hp1_34
           have pl_w8 := Lib.hid hp2_34
           have rDone_any_3_w8 := Lib.hid hp3_34
           clear hb hp0_34 hp1_34 hp2_34 hp3_34 hf1_34)
        | ((with_reducible refine at_dst (N := 35) rfl ?_); refine ev_bs rfl 53 58 1 _ rfl #[.bool (stepIs ((ss.take k).foldl stepL []) ss[k]), .slice A334 (stepT ((ss.take k).foldl stepL []) ss[k]).length c334] (by go_simp) ?_; intro g35 w9 hg hB hb
           have nr_o2_g35 := own_fresh' o2_w8.out hg
           have n_g6_g35 : g6 ≠ g35 := by have := g6_w8.out.lt; omega
           have n_gf10_g35 : gf10 ≠ g35 := by have := gf10_w8.out.lt; omega
           have low_g35 := Nat.le_trans B_w8.out.size hg
           have o2_w9 := Lib.hid (own_below o2_w8.out hb)
           have dz_w9 := Lib.hid (DonesOk.below dz_w8.out hb)
           have g6_w9 := Lib.hid (g6_w8.out.below hb)
           have gf10_w9 := Lib.hid (gf10_w8.out.below hb)
           have p1_w9 := Lib.hid (own_below p1_w8.out hb)
           have pl_w9 := Lib.hid (Pl.map pl_w8.out fun _ _ q => RepAt.below q hb)
           have rDone_any_3_w9 := Lib.hid (own_below rDone_any_3_w8.out hb)
           have B_w9 := Lib.hid (below_trans B_w8.out hb)
           have g35_w9 : Hid (Blk w9 g35 58 #[.bool (stepIs ((ss.take k).foldl stepL []) ss[k]), .slice A334 (stepT ((ss.take k).foldl stepL []) ss[k]).length c334]) := hB
           clear hB hb)
        | ((with_reducible refine at_dst (N := 36) rfl ?_); refine ev_app rfl _ _ 53 58 rfl Try.underlying53 _ 2 _ tin58 rfl (by omega) w.heap.size _ _ _ rfl o2_w9.out _ 1 _ [.bool (stepIs ((ss.take k).foldl stepL []) ss[k]), .slice A334 (stepT ((ss.take k).foldl stepL []) ss[k]).length c334] rfl (g35_w9.out.sl (by simp)) rfl (by simp [Value.oneCell']) (by omega) (by omega) B_w9.out.size ?_; intro v36_w10 w10 ho1 hg1 hat1
           have hx := GrX.row (S := fun k => (u2 : Value).ownBlock = some k) hg1 (fun g h => h)
           have dz_w10 := Lib.hid (DonesOk.ap dz_w9.out hx (SApart.own o2_w9.out (by decide)))
           have g6_w10 := Lib.hid (g6_w9.out.grx hx (own_ne o2_w9.out g6_w9.out (by decide)))
           have gf10_w10 := Lib.hid (gf10_w9.out.grx hx (own_ne o2_w9.out gf10_w9.out (by decide)))
           have p1_w10 := Lib.hid (own_grx p1_w9.out hx (fun k hk => (fun e => own_apart p1_w9.out o2_w9.out (by decide) k e hk)))
           have pl_w10 := Lib.hid (Pl.map pl_w9.out fun _ _ q => RepAt.ap q hx (SApart.own o2_w9.out (by decide)))
           have rDone_any_3_w10 := Lib.hid (own_grx rDone_any_3_w9.out hx (fun k hk => (fun e => own_apart rDone_any_3_w9.out o2_w9.out (by decide) k e hk)))
           have B_w10 := Lib.hid (below_grx B_w9.out hx B_w9.out.size (fun k => (fun e => own_ge o2_w9.out k e)))
           obtain ⟨A36_w10, c36_w10, rfl, _⟩ := own_form ho1
           have o2_w10 := Lib.hid ho1
           clear ho1 hg1 hat1 hx))
      refine ⟨⟨k + 1, A234, c234, ps234, zs ++ [⟨stepIs ((ss.take k).foldl stepL []) ss[k], A334, c334, stepT ((ss.take k).foldl stepL []) ss[k]⟩], (by omega), by go_num, (by show World.ownsRow _ _ _ _ _ _ _; rw [flatC_snoc]; exact o2_w10.out), (DonesOk.snoc dz_w10.out (own_tslN (sz := 2) rDone_any_3_w10.out (by decide) (by first | omega | (have := stepT_len ((ss.take k).foldl stepL []) ss[k]; omega)))), (by show _ = _; rw [List.map_append, L0_hz.out, dones_take hlt_k]; rfl), (by show Blk _ _ _ _; rw [state_take hlt_k]; exact gf10_w10.out), (by show World.ownsRow _ _ _ _ _ _ _; rw [state_take hlt_k]; exact p1_w10.out), (by show Pl _ _ _ _; rw [state_take hlt_k]; exact pl_w10.out), B_w10⟩, ?_⟩
      simp [intOf]; omega
    · obtain rfl : k = ss.length := by omega
      rw [List.take_length] at L0_hz
      obtain ⟨A2, c2, e2, _⟩ := own_form L0_o2.out
      subst e2
      go_wp2_with fail
      go_ret2
      exact HQ.out _ _ ⟨A2, c2, zs, rfl, L0_o2.out, L0_dz.out, L0_hz.out, L0_B.out⟩
end Go.Proofs.Ytkjcedlgljeoiaa
