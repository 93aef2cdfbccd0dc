/- Lists of repositories, the reference: HlRepos. -/
import Derived.Test.YtkjcedlgljeoiaaRP6
namespace Go.Proofs.Ytkjcedlgljeoiaa
open Go.RowKit Go.Lib
set_option linter.unusedVariables false
set_option linter.unusedSimpArgs false
def AtInv (l : List Ty52) (s : ByteArray) (i p : Int) : Prop := (p = -1 ∧ ∀ j, ∀ h : j < l.length, i < (j : Int) → sameN s l[j] = false) ∨ ∃ q, ∃ hq : q < l.length, p = (q : Int) ∧ sameN s l[q] = true ∧ ∀ j, ∀ h : j < l.length, i < (j : Int) → j < q → sameN s l[j] = false
theorem AtInv.start (l : List Ty52) (s : ByteArray) : AtInv l s ((l.length : Int) - 1) (-1) := .inl ⟨rfl, fun j h hj => by omega⟩
theorem AtInv.hit {l : List Ty52} {s : ByteArray} {q : Nat} {p : Int} (hq : q < l.length) (e : sameN s l[q] = true) : AtInv l s ((q : Int) - 1) (q : Int) := .inr ⟨q, hq, rfl, e, fun j h h1 h2 => by omega⟩
theorem AtInv.miss {l : List Ty52} {s : ByteArray} {q : Nat} {p : Int} (h : AtInv l s (q : Int) p) (hq : q < l.length) (e : sameN s l[q] = false) : AtInv l s ((q : Int) - 1) p := by
  rcases h with ⟨h1, h2⟩ | ⟨q2, hq2, h1, h2, h3⟩
  · refine .inl ⟨h1, fun j hj h4 => ?_⟩
    by_cases e2 : j = q
    · subst e2; exact e
    · exact h2 j hj (by omega)
  · refine .inr ⟨q2, hq2, h1, h2, fun j hj h4 h5 => ?_⟩
    by_cases e2 : j = q
    · subst e2; exact e
    · exact h3 j hj (by omega) h5
theorem AtInv.done {l : List Ty52} {s : ByteArray} {p : Int} (h : AtInv l s (-1) p) : (p = -1 ∧ l.any (sameN s) = false) ∨ ∃ q : Nat, ∃ hq : q < l.length, p = (q : Int) ∧ l.any (sameN s) = true ∧ l.find? (sameN s) = some l[q] := by
  rcases h with ⟨h1, h2⟩ | ⟨q, hq, h1, h2, h3⟩
  · refine .inl ⟨h1, ?_⟩
    rw [List.any_eq_false]
    intro x hx
    obtain ⟨j, hj, rfl⟩ := List.mem_iff_getElem.1 hx
    simp [h2 j hj (by omega)]
  · refine .inr ⟨q, hq, h1, any_at hq h2, find_at hq ?_ h2⟩
    rw [List.any_eq_false]
    intro x hx
    obtain ⟨j, hj, rfl⟩ := List.mem_iff_getElem.1 hx
    rw [List.length_take] at hj
    rw [List.getElem_take]
    simp [h3 j (by omega) (by omega) (by omega)]
theorem drop_take1 {α : Type} {l : List α} {q : Nat} (h : q < l.length) : (l.drop q).take 1 = [l[q]] := by rw [List.drop_eq_getElem_cons h]; rfl
set_option maxRecDepth 100000 in
set_option maxHeartbeats 16000000 in
theorem hlRepos_any (A : Option Addr) (c : Nat) (ss : List Ty50) (w : World) (h0 : Rows w (A) 3 (ss.map Ty50.cells)) (h1 : Ty50.oks ss w) (hn : ss.length ≤ 40) (hs : ∀ s ∈ ss, 0 ≤ s.fOp ∧ s.fOp ≤ 4 ∧ s.fRepos.length ≤ 6) :
    Calls Try.prog 26 #[.slice (A) (ss.length) (c)] w fun e w' => ∃ A2 : Option Addr, ∃ c2 : Nat, ∃ zs : List Ty58, e = .returned (.slice A2 (ss.length) c2) ∧ World.ownsRow w' w.heap.size 58 2 (.slice A2 ss.length c2) (ss.length) (flatC Ty58.cells zs) ∧ DonesOk zs w' ∧ zs.map keyD = donesL [] ss ∧ Below w.heap.size w w' := by
  have hl_ss : ss.length ≤ 9223372036854775807 := by have := h0.1; simpa [strs, ptrs] using this
  have H0 := Lib.hid h0
  clear h0
  have H1 := Lib.hid h1
  clear h1
  have HS := Lib.hid hs
  clear hs
  suffices hQ : ∀ Q : Ending → World → Prop, Hid (∀ (e : Ending) (w' : World), (∃ A2 : Option Addr, ∃ c2 : Nat, ∃ zs : List Ty58, e = .returned (.slice A2 (ss.length) c2) ∧ World.ownsRow w' w.heap.size 58 2 (.slice A2 ss.length c2) (ss.length) (flatC Ty58.cells zs) ∧ DonesOk zs w' ∧ zs.map keyD = donesL [] ss ∧ Below w.heap.size w w') → Post1 Q e w') → Calls Try.prog 26 #[.slice (A) (ss.length) (c)] w (fun e w' => Post1 Q e w') from hQ (fun e w' => ∃ A2 : Option Addr, ∃ c2 : Nat, ∃ zs : List Ty58, e = .returned (.slice A2 (ss.length) c2) ∧ World.ownsRow w' w.heap.size 58 2 (.slice A2 ss.length c2) (ss.length) (flatC Ty58.cells zs) ∧ DonesOk zs w' ∧ zs.map keyD = donesL [] ss ∧ Below w.heap.size w w') (fun _ _ h => by unfold Post1; exact h)
  intro Q HQ
  go_enter Try.func26, Try.ntmps26
  go_wp2_with fail
  go_loopw [3, 4, 17] (fun v3 v4 v17 wr => ∃ k : Nat, ∃ lk : List Ty52, ∃ A3 : Option Addr, ∃ c3 : Nat, ∃ zs : List Ty58, (k ≤ ss.length) ∧ (lk.length ≤ c3) ∧ v3 = .slice A3 lk.length c3 ∧ v17 = .int .i64 (↑k) ∧ Hid (TSl wr A3 52 (flatC Ty52.cells lk)) ∧ Hid (lk = ((ss.take k).foldl stepL [])) ∧ Hid (World.ownsRow wr w.heap.size 58 2 v4 k (flatC Ty58.cells zs)) ∧ Hid (DonesOk zs wr) ∧ Hid (zs.map keyD = donesL [] (ss.take k)) ∧ Hid (Below w.heap.size w wr)) (fun v3 v4 v17 _ => ss.length - (intOf v17).toNat)
  case atStart => exact ⟨0, [], none, 0, [], (by omega), (Nat.zero_le _), rfl, rfl, TSl.nil, rfl, (own_nil _ _ _ _), (fun z hz => absurd hz (by simp)), rfl, (Below.refl _ _)⟩
  case round =>
    obtain ⟨k, lk, A3, c3, zs, hk, hcl, rfl, rfl, L0_l, L0_st, L0_o4, L0_dz, L0_hz, L0_B⟩ := hrel
    by_cases hlt_k : k < ss.length
    · obtain ⟨ad_k, rfl⟩ := (H0.out.below L0_B.out).addr (by simp [strs, ptrs]; omega)
      have HE := Lib.hid (Ty50.oks.at H1.out hlt_k)
      obtain ⟨hs1, hs2, hs3⟩ := HS.out _ (List.getElem_mem hlt_k)
      have hst := state_len (ss := ss.take k) (fun x hx => Nat.le_trans (HS.out x (List.mem_of_mem_take hx)).2.2 (by omega)) []
      have htk : (ss.take k).length ≤ k := List.length_take_le k ss
      rw [← L0_st.out] at hst
      simp only [List.length_nil, Nat.zero_add] at hst
      have hlb : lk.length ≤ 800 := by omega
      obtain ⟨xa, hxa⟩ : ∃ a, ss[k].fRepos_a = a := ⟨_, rfl⟩
      have HXR := Lib.hid (show Rows w xa 2 (ss[k].fRepos.map Ty52.cells) by rw [← hxa]; exact Ty50.ok_rRepos HE.out)
      go_wp2_with (first
        | ((with_reducible refine at_dst (N := 20) rfl ?_); refine ev_loadR rfl 50 _ rfl _ rfl [.int .i64 ss[k].fOp, .slice xa ss[k].fRepos.length ss[k].fRepos_c, .string ss[k].fName] (by rw [← hxa]; exact ((H0.out.below L0_B.out).el (j := k) (row := ss[k].cells) (by simp [hlt_k]))) _ Try.underlying50 rfl tsz50 ?_)
        | ((with_reducible refine at_dst (N := 6) rfl ?_); refine ev_alloc rfl 50 rfl _ _ tz50 ?_; intro g6 w1 hg hB hb
           have low_g6 := Nat.le_trans L0_B.out.size hg
           have l_w1 := Lib.hid (L0_l.out.below hb)
           have o4_w1 := Lib.hid (own_below L0_o4.out hb)
           have dz_w1 := Lib.hid (DonesOk.below L0_dz.out hb)
           have B_w1 := Lib.hid (below_trans L0_B.out hb)
           have g6_w1 : Hid (Blk w1 g6 50 #[.int .i64 0, .slice none 0 0, .string ⟨#[]⟩]) := hB
           clear hB hb)
        | (refine ev_store rfl 50 _ _ rfl g6 _ _ rfl rfl 50 g6_w1.out tsz50 rfl rfl ?_; intro w2 hB hg hz
           have hx := GrX.grown (S := fun k => k = g6) hg rfl
           have l_w2 := Lib.hid (TSl.ap (T := [52]) l_w1.out hx (SApart.blk g6_w1.out (by decide)) (by simp))
           have o4_w2 := Lib.hid (own_grx o4_w1.out hx (fun k hk => (fun e => own_ne o4_w1.out g6_w1.out (by decide) (e ▸ hk))))
           have dz_w2 := Lib.hid (DonesOk.ap dz_w1.out hx (SApart.blk g6_w1.out (by decide)))
           have B_w2 := Lib.hid (below_grx B_w1.out hx B_w1.out.size (fun k => (fun e => e ▸ low_g6)))
           clear hx
           have g6_w2 : Hid (Blk w2 g6 50 #[.int .i64 ss[k].fOp, .slice xa ss[k].fRepos.length ss[k].fRepos_c, .string ss[k].fName]) := hB
           clear hB hg hz))
      go_loopw [7, 8] (fun v7 v8 wr => ∃ at1 : Int, ∃ i : Int, (-1 ≤ i ∧ i < (lk.length : Int)) ∧ v7 = .int .i64 at1 ∧ v8 = .int .i64 i ∧ Hid (AtInv lk ss[k].fName i at1) ∧ Hid (TSl wr A3 52 (flatC Ty52.cells lk)) ∧ Hid (lk = ((ss.take k).foldl stepL [])) ∧ Hid (World.ownsRow wr w.heap.size 58 2 u4 k (flatC Ty58.cells zs)) ∧ Hid (DonesOk zs wr) ∧ Hid (zs.map keyD = donesL [] (ss.take k)) ∧ Hid (Blk wr g6 50 #[.int .i64 ss[k].fOp, .slice xa ss[k].fRepos.length ss[k].fRepos_c, .string ss[k].fName]) ∧ Hid (Below w.heap.size w wr)) (fun v7 v8 _ => (intOf v8 + 1).toNat)
      case atStart => exact ⟨-1, ((lk.length : Int) - 1), (by omega), rfl, rfl, (AtInv.start _ _), l_w2, L0_st, o4_w2, dz_w2, L0_hz, g6_w2, B_w2⟩
      case round =>
        obtain ⟨at1, i, hi, rfl, rfl, L1_at, L1_l, L1_st, L1_o4, L1_dz, L1_hz, L1_g6, L1_B⟩ := hrel
        by_cases hge : 0 ≤ i
        · obtain ⟨q, rfl⟩ : ∃ q : Nat, i = q := ⟨i.toNat, by omega⟩
          have hql : q < lk.length := by omega
          obtain ⟨ad3, rfl⟩ := L1_l.out.sl.addr (by rw [flatC_len Ty52.len]; omega)
          go_upto_region 10 with fail
          have q32_10 : wr.cell? (ad3.add (q * 2)) = some (.string lk[q].fName) := cell0 ((TSl.rows L1_l.out (by decide) Ty52.len).el (j := q) (row := lk[q].cells) (by simp [hql])) rfl
          have q34_10 : wr.cell? ⟨g6, 2, none⟩ = some (.string ss[k].fName) := L1_g6.out.cell 2
          go_region
          clear q32_10 q34_10
          have L1_ld := Lib.hid (show TSl wr.drew (some ad3) 52 (flatC Ty52.cells lk) from L1_l.out)
          have L1_o4d := Lib.hid (show World.ownsRow wr.drew w.heap.size 58 2 u4 k (flatC Ty58.cells zs) from L1_o4.out)
          have L1_dzd := Lib.hid (show DonesOk zs wr.drew from L1_dz.out)
          have L1_g6d := Lib.hid (show Blk wr.drew g6 50 #[.int .i64 ss[k].fOp, .slice xa ss[k].fRepos.length ss[k].fRepos_c, .string ss[k].fName] from L1_g6.out)
          have L1_Bd := Lib.hid L1_B.out.drew
          cases hc1 : (lk[q].fName.toList == ss[k].fName.toList)
          · have hc1' : (lk[q].fName.toList != ss[k].fName.toList) = true := by rw [bne, hc1]; rfl
            go_wp2_with fail
            refine ⟨⟨at1, ((q : Int) - 1), (by omega), rfl, by go_num, (AtInv.miss L1_at.out hql (by simp only [sameN, hc1])), L1_ld, L1_st, L1_o4d, L1_dzd, L1_hz, L1_g6d, L1_Bd⟩, ?_⟩
            (first | (simp [intOf]; done) | (simp [intOf]; omega))
          · have hc1' : (lk[q].fName.toList != ss[k].fName.toList) = false := by rw [bne, hc1]; rfl
            go_wp2_with fail
            refine ⟨⟨(q : Int), ((q : Int) - 1), (by omega), rfl, by go_num, (AtInv.hit (p := at1) hql (by simp only [sameN, hc1])), L1_ld, L1_st, L1_o4d, L1_dzd, L1_hz, L1_g6d, L1_Bd⟩, ?_⟩
            (first | (simp [intOf]; done) | (simp [intOf]; omega))
        · obtain rfl : i = -1 := by omega
          rcases AtInv.done L1_at.out with ⟨rfl, hany⟩ | ⟨q, hq, rfl, hany, hfind⟩
          · have HANY := Lib.hid hany
            clear hany
            cases hc1 : ((ss[k].fOp : Int) == 0)
            · have hc1' : ((ss[k].fOp : Int) != 0) = true := by rw [bne, hc1]; rfl
              have o_hc1 : ¬ ss[k].fOp = 0 := by simpa using hc1
              cases hc2 : ((ss[k].fOp : Int) == 1)
              · have hc2' : ((ss[k].fOp : Int) != 1) = true := by rw [bne, hc2]; rfl
                have o_hc2 : ¬ ss[k].fOp = 1 := by simpa using hc2
                cases hc3 : ((ss[k].fOp : Int) == 2)
                · have hc3' : ((ss[k].fOp : Int) != 2) = true := by rw [bne, hc3]; rfl
                  have o_hc3 : ¬ ss[k].fOp = 2 := by simpa using hc3
                  cases hc4 : ((ss[k].fOp : Int) == 3)
                  · have hc4' : ((ss[k].fOp : Int) != 3) = true := by rw [bne, hc4]; rfl
                    have o_hc4 : ¬ ss[k].fOp = 3 := by simpa using hc4
                    cases hc5 : ((ss[k].fOp : Int) == 4)
                    · have hc5' : ((ss[k].fOp : Int) != 4) = true := by rw [bne, hc5]; rfl
                      have o_hc5 : ¬ ss[k].fOp = 4 := by simpa using hc5
                      go_wp2_with (first
                        | ((with_reducible refine at_dst (N := 9) rfl ?_); refine ev_alloc rfl 58 rfl _ _ tz58 ?_; intro g9 w3 hg hB hb
                           have nr_o4_g9 := own_fresh' L1_o4.out hg
                           have n_g6_g9 : g6 ≠ g9 := by have := L1_g6.out.lt; omega
                           have low_g9 := Nat.le_trans L1_B.out.size hg
                           have l_w3 := Lib.hid (L1_l.out.below hb)
                           have o4_w3 := Lib.hid (own_below L1_o4.out hb)
                           have dz_w3 := Lib.hid (DonesOk.below L1_dz.out hb)
                           have g6_w3 := Lib.hid (L1_g6.out.below hb)
                           have B_w3 := Lib.hid (below_trans L1_B.out hb)
                           have g9_w3 : Hid (Blk w3 g9 58 #[.bool false, .slice none 0 0]) := hB
                           clear hB hb)
                        | ((with_reducible refine at_dst (N := 38) rfl ?_); refine ev_ld rfl 3 _ rfl ⟨g6, 0, none⟩ rfl (.int .i64 ss[k].fOp) (g6_w3.out.cell 0) _ Try.underlying3 rfl ?_)
                        | (refine ev_store1 rfl 48 _ _ rfl g9 1 _ rfl (.slice A3 lk.length c3) rfl 58 g9_w3.out tsz48 (by simp) rfl rfl ?_; intro w4 hB hg hz
                           have hx := GrX.grown (S := fun k => k = g9) hg rfl
                           have l_w4 := Lib.hid (TSl.ap (T := [52]) l_w3.out hx (SApart.blk g9_w3.out (by decide)) (by simp))
                           have o4_w4 := Lib.hid (own_grx o4_w3.out hx (fun k hk => (fun e => nr_o4_g9 (e ▸ hk))))
                           have dz_w4 := Lib.hid (DonesOk.ap dz_w3.out hx (SApart.blk g9_w3.out (by decide)))
                           have g6_w4 := Lib.hid (g6_w3.out.grx hx (fun e => n_g6_g9 e))
                           have B_w4 := Lib.hid (below_grx B_w3.out hx B_w3.out.size (fun k => (fun e => e ▸ low_g9)))
                           clear hx
                           have g9_w4 : Hid (Blk w4 g9 58 #[.bool false, .slice A3 lk.length c3]) := hB
                           clear hB hg hz)
                        | ((with_reducible refine at_dst (N := 91) rfl ?_); refine ev_ld rfl 3 _ rfl ⟨g6, 0, none⟩ rfl (.int .i64 ss[k].fOp) (g6_w4.out.cell 0) _ Try.underlying3 rfl ?_)
                        | ((with_reducible refine at_dst (N := 103) rfl ?_); refine ev_loadB rfl 58 _ rfl g9 rfl 58 _ g9_w4.out _ Try.underlying58 rfl tsz58 ?_)
                        | ((with_reducible refine at_dst (N := 104) rfl ?_); refine ev_bs rfl 53 58 1 _ rfl #[.bool false, .slice A3 lk.length c3] (by go_simp) ?_; intro g104 w5 hg hB hb
                           have nr_o4_g104 := own_fresh' o4_w4.out hg
                           have n_g6_g104 : g6 ≠ g104 := by have := g6_w4.out.lt; omega
                           have n_g9_g104 : g9 ≠ g104 := by have := g9_w4.out.lt; omega
                           have low_g104 := Nat.le_trans B_w4.out.size hg
                           have l_w5 := Lib.hid (l_w4.out.below hb)
                           have o4_w5 := Lib.hid (own_below o4_w4.out hb)
                           have dz_w5 := Lib.hid (DonesOk.below dz_w4.out hb)
                           have g6_w5 := Lib.hid (g6_w4.out.below hb)
                           have g9_w5 := Lib.hid (g9_w4.out.below hb)
                           have B_w5 := Lib.hid (below_trans B_w4.out hb)
                           have g104_w5 : Hid (Blk w5 g104 58 #[.bool false, .slice A3 lk.length c3]) := hB
                           clear hB hb)
                        | ((with_reducible refine at_dst (N := 105) rfl ?_); refine ev_app rfl _ _ 53 58 rfl Try.underlying53 _ 2 _ tin58 rfl (by omega) w.heap.size _ _ _ rfl o4_w5.out _ 1 _ [.bool false, .slice A3 lk.length c3] rfl (g104_w5.out.sl (by simp)) rfl (by simp [Value.oneCell']) (by omega) (by omega) B_w5.out.size ?_; intro v105_w6 w6 ho1 hg1 hat1
                           have hx := GrX.row (S := fun k => (u4 : Value).ownBlock = some k) hg1 (fun g h => h)
                           have l_w6 := Lib.hid (TSl.ap (T := [52]) l_w5.out hx (SApart.own o4_w5.out (by decide)) (by simp))
                           have dz_w6 := Lib.hid (DonesOk.ap dz_w5.out hx (SApart.own o4_w5.out (by decide)))
                           have g6_w6 := Lib.hid (g6_w5.out.grx hx (own_ne o4_w5.out g6_w5.out (by decide)))
                           have g9_w6 := Lib.hid (g9_w5.out.grx hx nr_o4_g9)
                           have B_w6 := Lib.hid (below_grx B_w5.out hx B_w5.out.size (fun k => (fun e => own_ge o4_w5.out k e)))
                           obtain ⟨A105_w6, c105_w6, rfl, _⟩ := own_form ho1
                           have o4_w6 := Lib.hid ho1
                           have nr_o4_g9 := nr_app nr_o4_g9 hat1 g9_w5.out.lt
                           clear ho1 hg1 hat1 hx))
                      exfalso; omega
                    · have hc5' : ((ss[k].fOp : Int) != 4) = false := by rw [bne, hc5]; rfl
                      have o_hc5 : ss[k].fOp = 4 := by simpa using hc5
                      go_wp2_with (first
                        | ((with_reducible refine at_dst (N := 9) rfl ?_); refine ev_alloc rfl 58 rfl _ _ tz58 ?_; intro g9 w3 hg hB hb
                           have nr_o4_g9 := own_fresh' L1_o4.out hg
                           have n_g6_g9 : g6 ≠ g9 := by have := L1_g6.out.lt; omega
                           have low_g9 := Nat.le_trans L1_B.out.size hg
                           have l_w3 := Lib.hid (L1_l.out.below hb)
                           have o4_w3 := Lib.hid (own_below L1_o4.out hb)
                           have dz_w3 := Lib.hid (DonesOk.below L1_dz.out hb)
                           have g6_w3 := Lib.hid (L1_g6.out.below hb)
                           have B_w3 := Lib.hid (below_trans L1_B.out hb)
                           have g9_w3 : Hid (Blk w3 g9 58 #[.bool false, .slice none 0 0]) := hB
                           clear hB hb)
                        | ((with_reducible refine at_dst (N := 38) rfl ?_); refine ev_ld rfl 3 _ rfl ⟨g6, 0, none⟩ rfl (.int .i64 ss[k].fOp) (g6_w3.out.cell 0) _ Try.underlying3 rfl ?_))
                      have p0_r3 := Lib.hid (H0.out.below B_w3.out)
                      have p1_r3 := Lib.hid (Ty50.oks.below H1.out B_w3.out)
                      have xr_r3 := Lib.hid (HXR.out.below B_w3.out)
                      go_loopw [12, 70] (fun v12 v70 wr => ∃ j : Nat, (j ≤ lk.length) ∧ v70 = .int .i64 (↑j) ∧ Hid (World.ownsRow wr w3.heap.size 52 2 v12 (((lk.take j).filter (notN ss[k].fName)).length) (flatC Ty52.cells ((lk.take j).filter (notN ss[k].fName)))) ∧ Hid (Below w3.heap.size w3 wr)) (fun v12 v70 _ => lk.length - (intOf v70).toNat)
                      case atStart => exact ⟨0, (by omega), rfl, (own_nil _ _ _ _), (Below.refl _ _)⟩
                      case round =>
                        obtain ⟨j, hj, rfl, L3_o12, L3_B⟩ := hrel
                        by_cases hlt_j : j < lk.length
                        · obtain ⟨ad_j, rfl⟩ := (l_w3.out.below L3_B.out).sl.addr (by rw [flatC_len Ty52.len]; omega)
                          have hfl : ((lk.take j).filter (notN ss[k].fName)).length ≤ j := by
                            have h1 := List.length_filter_le (notN ss[k].fName) (lk.take j)
                            have h2 := List.length_take_le j lk
                            omega
                          cases hc6 : (lk[j].fName.toList == ss[k].fName.toList)
                          · have hc6' : (lk[j].fName.toList != ss[k].fName.toList) = true := by rw [bne, hc6]; rfl
                            go_wp2_with (first
                              | ((with_reducible refine at_dst (N := 73) rfl ?_); refine ev_loadR rfl 52 _ rfl _ rfl [.string lk[j].fName, .string lk[j].fURL] ((TSl.rows (l_w3.out.below L3_B.out) (by decide) Ty52.len).el (j := j) (row := lk[j].cells) (by simp [hlt_j])) _ Try.underlying52 rfl tsz52 ?_)
                              | ((with_reducible refine at_dst (N := 14) rfl ?_); refine ev_alloc rfl 52 rfl _ _ tz52 ?_; intro g14 w34 hg hB hb
                                 have nr_o12_g14 := own_fresh' L3_o12.out hg
                                 have low_g14 := Nat.le_trans L3_B.out.size hg
                                 have o12_w34 := Lib.hid (own_below L3_o12.out hb)
                                 have B_w34 := Lib.hid (below_trans L3_B.out hb)
                                 have g14_w34 : Hid (Blk w34 g14 52 #[.string ⟨#[]⟩, .string ⟨#[]⟩]) := hB
                                 clear hB hb)
                              | (refine ev_store rfl 52 _ _ rfl g14 _ _ rfl rfl 52 g14_w34.out tsz52 rfl rfl ?_; intro w35 hB hg hz
                                 have hx := GrX.grown (S := fun k => k = g14) hg rfl
                                 have o12_w35 := Lib.hid (own_grx o12_w34.out hx (fun k hk => (fun e => nr_o12_g14 (e ▸ hk))))
                                 have B_w35 := Lib.hid (below_grx B_w34.out hx B_w34.out.size (fun k => (fun e => e ▸ low_g14)))
                                 clear hx
                                 have g14_w35 : Hid (Blk w35 g14 52 #[.string lk[j].fName, .string lk[j].fURL]) := hB
                                 clear hB hg hz)
                              | ((with_reducible refine at_dst (N := 75) rfl ?_); refine ev_ld rfl 9 _ rfl ⟨g14, 0, none⟩ rfl (.string lk[j].fName) (g14_w35.out.cell 0) _ Try.underlying9 rfl ?_)
                              | ((with_reducible refine at_dst (N := 77) rfl ?_); refine ev_ld rfl 9 _ rfl ⟨g6, 2, none⟩ rfl (.string ss[k].fName) ((Lib.hid (g6_w3.out.below B_w35.out)).out.cell 2) _ Try.underlying9 rfl ?_)
                              | ((with_reducible refine at_dst (N := 80) rfl ?_); refine ev_loadB rfl 52 _ rfl g14 rfl 52 _ g14_w35.out _ Try.underlying52 rfl tsz52 ?_)
                              | ((with_reducible refine at_dst (N := 81) rfl ?_); refine ev_bs rfl 48 52 1 _ rfl #[.string lk[j].fName, .string lk[j].fURL] (by go_simp) ?_; intro g81 w36 hg hB hb
                                 have nr_o12_g81 := own_fresh' o12_w35.out hg
                                 have n_g14_g81 : g14 ≠ g81 := by have := g14_w35.out.lt; omega
                                 have low_g81 := Nat.le_trans B_w35.out.size hg
                                 have o12_w36 := Lib.hid (own_below o12_w35.out hb)
                                 have g14_w36 := Lib.hid (g14_w35.out.below hb)
                                 have B_w36 := Lib.hid (below_trans B_w35.out hb)
                                 have g81_w36 : Hid (Blk w36 g81 52 #[.string lk[j].fName, .string lk[j].fURL]) := hB
                                 clear hB hb)
                              | ((with_reducible refine at_dst (N := 82) rfl ?_); refine ev_app rfl _ _ 48 52 rfl Try.underlying48 _ 2 _ tin52 rfl (by omega) w3.heap.size _ _ _ rfl o12_w36.out _ 1 _ [.string lk[j].fName, .string lk[j].fURL] rfl (g81_w36.out.sl (by simp)) rfl (by simp [Value.oneCell']) (by omega) (by omega) B_w36.out.size ?_; intro v82_w37 w37 ho1 hg1 hat1
                                 have hx := GrX.row (S := fun k => (u12 : Value).ownBlock = some k) hg1 (fun g h => h)
                                 have g14_w37 := Lib.hid (g14_w36.out.grx hx nr_o12_g14)
                                 have B_w37 := Lib.hid (below_grx B_w36.out hx B_w36.out.size (fun k => (fun e => own_ge o12_w36.out k e)))
                                 obtain ⟨A82_w37, c82_w37, rfl, _⟩ := own_form ho1
                                 have o12_w37 := Lib.hid ho1
                                 have nr_o12_g14 := nr_app nr_o12_g14 hat1 g14_w36.out.lt
                                 clear ho1 hg1 hat1 hx))
                            have hnm : notN ss[k].fName lk[j] = true := by simp only [notN, sameN, hc6, Bool.not_false]
                            refine ⟨⟨j + 1, (by omega), by go_num, (by show World.ownsRow _ _ _ _ _ _ _; rw [filter_take hlt_j, hnm, if_pos rfl, List.length_append, flatC_snoc]; exact o12_w37.out), B_w37⟩, ?_⟩
                            simp [intOf]; omega
                          · have hc6' : (lk[j].fName.toList != ss[k].fName.toList) = false := by rw [bne, hc6]; rfl
                            go_wp2_with (first
                              | ((with_reducible refine at_dst (N := 73) rfl ?_); refine ev_loadR rfl 52 _ rfl _ rfl [.string lk[j].fName, .string lk[j].fURL] ((TSl.rows (l_w3.out.below L3_B.out) (by decide) Ty52.len).el (j := j) (row := lk[j].cells) (by simp [hlt_j])) _ Try.underlying52 rfl tsz52 ?_)
                              | ((with_reducible refine at_dst (N := 14) rfl ?_); refine ev_alloc rfl 52 rfl _ _ tz52 ?_; intro g14 w34 hg hB hb
                                 have nr_o12_g14 := own_fresh' L3_o12.out hg
                                 have low_g14 := Nat.le_trans L3_B.out.size hg
                                 have o12_w34 := Lib.hid (own_below L3_o12.out hb)
                                 have B_w34 := Lib.hid (below_trans L3_B.out hb)
                                 have g14_w34 : Hid (Blk w34 g14 52 #[.string ⟨#[]⟩, .string ⟨#[]⟩]) := hB
                                 clear hB hb)
                              | (refine ev_store rfl 52 _ _ rfl g14 _ _ rfl rfl 52 g14_w34.out tsz52 rfl rfl ?_; intro w35 hB hg hz
                                 have hx := GrX.grown (S := fun k => k = g14) hg rfl
                                 have o12_w35 := Lib.hid (own_grx o12_w34.out hx (fun k hk => (fun e => nr_o12_g14 (e ▸ hk))))
                                 have B_w35 := Lib.hid (below_grx B_w34.out hx B_w34.out.size (fun k => (fun e => e ▸ low_g14)))
                                 clear hx
                                 have g14_w35 : Hid (Blk w35 g14 52 #[.string lk[j].fName, .string lk[j].fURL]) := hB
                                 clear hB hg hz)
                              | ((with_reducible refine at_dst (N := 75) rfl ?_); refine ev_ld rfl 9 _ rfl ⟨g14, 0, none⟩ rfl (.string lk[j].fName) (g14_w35.out.cell 0) _ Try.underlying9 rfl ?_)
                              | ((with_reducible refine at_dst (N := 77) rfl ?_); refine ev_ld rfl 9 _ rfl ⟨g6, 2, none⟩ rfl (.string ss[k].fName) ((Lib.hid (g6_w3.out.below B_w35.out)).out.cell 2) _ Try.underlying9 rfl ?_))
                            have hnm : notN ss[k].fName lk[j] = false := by simp only [notN, sameN, hc6, Bool.not_true]
                            refine ⟨⟨j + 1, (by omega), by go_num, (by show World.ownsRow _ _ _ _ _ _ _; rw [filter_take hlt_j, hnm, if_neg (by decide), List.append_nil]; exact o12_w35.out), B_w35⟩, ?_⟩
                            simp [intOf]; omega
                        · obtain rfl : j = lk.length := by omega
                          have l_u3 := Lib.hid (l_w3.out.below L3_B.out)
                          have o4_u3 := Lib.hid (own_below o4_w3.out L3_B.out)
                          have dz_u3 := Lib.hid (DonesOk.below dz_w3.out L3_B.out)
                          have g6_u3 := Lib.hid (g6_w3.out.below L3_B.out)
                          have g9_u3 := Lib.hid (g9_w3.out.below L3_B.out)
                          have o12_u3 := Lib.hid (own_mono L3_o12.out B_w3.out.size)
                          have B_u3 := Lib.hid (below_trans B_w3.out L3_B.out)
                          rw [List.take_length] at o12_u3
                          obtain ⟨A12, c12, e12, _⟩ := own_form o12_u3.out
                          subst e12
                          have hfl := List.length_filter_le (notN ss[k].fName) lk
                          go_wp2_with (first
                            | (refine ev_store1 rfl 4 _ _ rfl g9 0 _ rfl (.bool false) rfl 58 g9_u3.out tsz4 (by simp) rfl rfl ?_; intro w5 hB hg hz
                               have hx := GrX.grown (S := fun k => k = g9) hg rfl
                               have l_w5 := Lib.hid (TSl.ap (T := [52]) l_u3.out hx (SApart.blk g9_u3.out (by decide)) (by simp))
                               have o4_w5 := Lib.hid (own_grx o4_u3.out hx (fun k hk => (fun e => nr_o4_g9 (e ▸ hk))))
                               have dz_w5 := Lib.hid (DonesOk.ap dz_u3.out hx (SApart.blk g9_u3.out (by decide)))
                               have g6_w5 := Lib.hid (g6_u3.out.grx hx (fun e => n_g6_g9 e))
                               have o12_w5 := Lib.hid (own_grx o12_u3.out hx (fun k hk => (fun e => own_ne o12_u3.out g9_u3.out (by decide) (e ▸ hk))))
                               have B_w5 := Lib.hid (below_grx B_u3.out hx B_u3.out.size (fun k => (fun e => e ▸ low_g9)))
                               clear hx
                               have g9_w5 : Hid (Blk w5 g9 58 #[.bool false, .slice none 0 0]) := hB
                               clear hB hg hz)
                            | (refine ev_store1 rfl 48 _ _ rfl g9 1 _ rfl (.slice A12 (lk.filter (notN ss[k].fName)).length c12) rfl 58 g9_w5.out tsz48 (by simp) rfl rfl ?_; intro w6 hB hg hz
                               have hx := GrX.grown (S := fun k => k = g9) hg rfl
                               have l_w6 := Lib.hid (TSl.ap (T := [52]) l_w5.out hx (SApart.blk g9_w5.out (by decide)) (by simp))
                               have o4_w6 := Lib.hid (own_grx o4_w5.out hx (fun k hk => (fun e => nr_o4_g9 (e ▸ hk))))
                               have dz_w6 := Lib.hid (DonesOk.ap dz_w5.out hx (SApart.blk g9_w5.out (by decide)))
                               have g6_w6 := Lib.hid (g6_w5.out.grx hx (fun e => n_g6_g9 e))
                               have o12_w6 := Lib.hid (own_grx o12_w5.out hx (fun k hk => (fun e => own_ne o12_w5.out g9_w5.out (by decide) (e ▸ hk))))
                               have B_w6 := Lib.hid (below_grx B_w5.out hx B_w5.out.size (fun k => (fun e => e ▸ low_g9)))
                               clear hx
                               have g9_w6 : Hid (Blk w6 g9 58 #[.bool false, .slice A12 (lk.filter (notN ss[k].fName)).length c12]) := hB
                               clear hB hg hz)
                            | ((with_reducible refine at_dst (N := 91) rfl ?_); refine ev_ld rfl 3 _ rfl ⟨g6, 0, none⟩ rfl (.int .i64 ss[k].fOp) (g6_w6.out.cell 0) _ Try.underlying3 rfl ?_)
                            | ((with_reducible refine at_dst (N := 103) rfl ?_); refine ev_loadB rfl 58 _ rfl g9 rfl 58 _ g9_w6.out _ Try.underlying58 rfl tsz58 ?_)
                            | ((with_reducible refine at_dst (N := 104) rfl ?_); refine ev_bs rfl 53 58 1 _ rfl #[.bool false, .slice A12 (lk.filter (notN ss[k].fName)).length c12] (by go_simp) ?_; intro g104 w7 hg hB hb
                               have nr_o4_g104 := own_fresh' o4_w6.out hg
                               have n_g6_g104 : g6 ≠ g104 := by have := g6_w6.out.lt; omega
                               have n_g9_g104 : g9 ≠ g104 := by have := g9_w6.out.lt; omega
                               have low_g104 := Nat.le_trans B_w6.out.size hg
                               have l_w7 := Lib.hid (l_w6.out.below hb)
                               have o4_w7 := Lib.hid (own_below o4_w6.out hb)
                               have dz_w7 := Lib.hid (DonesOk.below dz_w6.out hb)
                               have g6_w7 := Lib.hid (g6_w6.out.below hb)
                               have g9_w7 := Lib.hid (g9_w6.out.below hb)
                               have o12_w7 := Lib.hid (own_below o12_w6.out hb)
                               have B_w7 := Lib.hid (below_trans B_w6.out hb)
                               have g104_w7 : Hid (Blk w7 g104 58 #[.bool false, .slice A12 (lk.filter (notN ss[k].fName)).length c12]) := hB
                               clear hB hb)
                            | ((with_reducible refine at_dst (N := 105) rfl ?_); refine ev_app rfl _ _ 53 58 rfl Try.underlying53 _ 2 _ tin58 rfl (by omega) w.heap.size _ _ _ rfl o4_w7.out _ 1 _ [.bool false, .slice A12 (lk.filter (notN ss[k].fName)).length c12] rfl (g104_w7.out.sl (by simp)) rfl (by simp [Value.oneCell']) (by omega) (by omega) B_w7.out.size ?_; intro v105_w8 w8 ho1 hg1 hat1
                               have hx := GrX.row (S := fun k => (u4 : Value).ownBlock = some k) hg1 (fun g h => h)
                               have l_w8 := Lib.hid (TSl.ap (T := [52]) l_w7.out hx (SApart.own o4_w7.out (by decide)) (by simp))
                               have dz_w8 := Lib.hid (DonesOk.ap dz_w7.out hx (SApart.own o4_w7.out (by decide)))
                               have g6_w8 := Lib.hid (g6_w7.out.grx hx (own_ne o4_w7.out g6_w7.out (by decide)))
                               have g9_w8 := Lib.hid (g9_w7.out.grx hx nr_o4_g9)
                               have o12_w8 := Lib.hid (own_grx o12_w7.out hx (fun k hk => (fun e => own_apart o12_w7.out o4_w7.out (by decide) k e hk)))
                               have B_w8 := Lib.hid (below_grx B_w7.out hx B_w7.out.size (fun k => (fun e => own_ge o4_w7.out k e)))
                               obtain ⟨A105_w8, c105_w8, rfl, _⟩ := own_form ho1
                               have o4_w8 := Lib.hid ho1
                               have nr_o4_g9 := nr_app nr_o4_g9 hat1 g9_w7.out.lt
                               clear ho1 hg1 hat1 hx))
                          have hany := HANY.out
                          have hL : stepL lk ss[k] = lk.filter (notN ss[k].fName) := by simp [stepL, *]
                          have hT : stepT lk ss[k] = stepL lk ss[k] := by simp [stepT, *]
                          have hI : stepIs lk ss[k] = false := by simp [stepIs, *]
                          refine ⟨⟨k + 1, (stepL lk ss[k]), A12, c12, zs ++ [⟨stepIs lk ss[k], A12, c12, stepT lk ss[k]⟩], (by omega), (by rw [hL]; exact own_cap o12_w8.out), by rw [hL], by go_num, (by show TSl _ _ _ _; rw [hL]; exact (own_tslN (sz := 2) o12_w8.out (by decide) (by first | omega | (simp; omega)))), (by show _ = _; rw [state_take hlt_k, ← L0_st.out]), (by show World.ownsRow _ _ _ _ _ _ _; rw [flatC_snoc]; simp only [Ty58.cells, hI, hT, hL]; exact o4_w8.out), (DonesOk.snoc dz_w8.out (by rw [hT, hL]; exact (own_tslN (sz := 2) o12_w8.out (by decide) (by first | omega | (simp; omega))))), (by show _ = _; rw [List.map_append, L0_hz.out, dones_take hlt_k, ← L0_st.out]; rfl), B_w8⟩, ?_⟩
                          simp [intOf]; omega
                  · have hc4' : ((ss[k].fOp : Int) != 3) = false := by rw [bne, hc4]; rfl
                    have o_hc4 : ss[k].fOp = 3 := by simpa using hc4
                    go_wp2_with (first
                      | ((with_reducible refine at_dst (N := 9) rfl ?_); refine ev_alloc rfl 58 rfl _ _ tz58 ?_; intro g9 w3 hg hB hb
                         have nr_o4_g9 := own_fresh' L1_o4.out hg
                         have n_g6_g9 : g6 ≠ g9 := by have := L1_g6.out.lt; omega
                         have low_g9 := Nat.le_trans L1_B.out.size hg
                         have l_w3 := Lib.hid (L1_l.out.below hb)
                         have o4_w3 := Lib.hid (own_below L1_o4.out hb)
                         have dz_w3 := Lib.hid (DonesOk.below L1_dz.out hb)
                         have g6_w3 := Lib.hid (L1_g6.out.below hb)
                         have B_w3 := Lib.hid (below_trans L1_B.out hb)
                         have g9_w3 : Hid (Blk w3 g9 58 #[.bool false, .slice none 0 0]) := hB
                         clear hB hb)
                      | ((with_reducible refine at_dst (N := 38) rfl ?_); refine ev_ld rfl 3 _ rfl ⟨g6, 0, none⟩ rfl (.int .i64 ss[k].fOp) (g6_w3.out.cell 0) _ Try.underlying3 rfl ?_)
                      | (refine ev_store1 rfl 4 _ _ rfl g9 0 _ rfl (.bool false) rfl 58 g9_w3.out tsz4 (by simp) rfl rfl ?_; intro w4 hB hg hz
                         have hx := GrX.grown (S := fun k => k = g9) hg rfl
                         have l_w4 := Lib.hid (TSl.ap (T := [52]) l_w3.out hx (SApart.blk g9_w3.out (by decide)) (by simp))
                         have o4_w4 := Lib.hid (own_grx o4_w3.out hx (fun k hk => (fun e => nr_o4_g9 (e ▸ hk))))
                         have dz_w4 := Lib.hid (DonesOk.ap dz_w3.out hx (SApart.blk g9_w3.out (by decide)))
                         have g6_w4 := Lib.hid (g6_w3.out.grx hx (fun e => n_g6_g9 e))
                         have B_w4 := Lib.hid (below_grx B_w3.out hx B_w3.out.size (fun k => (fun e => e ▸ low_g9)))
                         clear hx
                         have g9_w4 : Hid (Blk w4 g9 58 #[.bool false, .slice none 0 0]) := hB
                         clear hB hg hz)
                      | (refine ev_store1 rfl 48 _ _ rfl g9 1 _ rfl (.slice A3 lk.length c3) rfl 58 g9_w4.out tsz48 (by simp) rfl rfl ?_; intro w5 hB hg hz
                         have hx := GrX.grown (S := fun k => k = g9) hg rfl
                         have l_w5 := Lib.hid (TSl.ap (T := [52]) l_w4.out hx (SApart.blk g9_w4.out (by decide)) (by simp))
                         have o4_w5 := Lib.hid (own_grx o4_w4.out hx (fun k hk => (fun e => nr_o4_g9 (e ▸ hk))))
                         have dz_w5 := Lib.hid (DonesOk.ap dz_w4.out hx (SApart.blk g9_w4.out (by decide)))
                         have g6_w5 := Lib.hid (g6_w4.out.grx hx (fun e => n_g6_g9 e))
                         have B_w5 := Lib.hid (below_grx B_w4.out hx B_w4.out.size (fun k => (fun e => e ▸ low_g9)))
                         clear hx
                         have g9_w5 : Hid (Blk w5 g9 58 #[.bool false, .slice A3 lk.length c3]) := hB
                         clear hB hg hz)
                      | ((with_reducible refine at_dst (N := 91) rfl ?_); refine ev_ld rfl 3 _ rfl ⟨g6, 0, none⟩ rfl (.int .i64 ss[k].fOp) (g6_w5.out.cell 0) _ Try.underlying3 rfl ?_)
                      | (refine ev_store1 rfl 48 _ _ rfl g9 1 _ rfl (.slice none 0 0) rfl 58 g9_w5.out tsz48 (by simp) rfl rfl ?_; intro w6 hB hg hz
                         have hx := GrX.grown (S := fun k => k = g9) hg rfl
                         have l_w6 := Lib.hid (TSl.ap (T := [52]) l_w5.out hx (SApart.blk g9_w5.out (by decide)) (by simp))
                         have o4_w6 := Lib.hid (own_grx o4_w5.out hx (fun k hk => (fun e => nr_o4_g9 (e ▸ hk))))
                         have dz_w6 := Lib.hid (DonesOk.ap dz_w5.out hx (SApart.blk g9_w5.out (by decide)))
                         have g6_w6 := Lib.hid (g6_w5.out.grx hx (fun e => n_g6_g9 e))
                         have B_w6 := Lib.hid (below_grx B_w5.out hx B_w5.out.size (fun k => (fun e => e ▸ low_g9)))
                         clear hx
                         have g9_w6 : Hid (Blk w6 g9 58 #[.bool false, .slice none 0 0]) := hB
                         clear hB hg hz)
                      | ((with_reducible refine at_dst (N := 103) rfl ?_); refine ev_loadB rfl 58 _ rfl g9 rfl 58 _ g9_w6.out _ Try.underlying58 rfl tsz58 ?_)
                      | ((with_reducible refine at_dst (N := 104) rfl ?_); refine ev_bs rfl 53 58 1 _ rfl #[.bool false, .slice none 0 0] (by go_simp) ?_; intro g104 w7 hg hB hb
                         have nr_o4_g104 := own_fresh' o4_w6.out hg
                         have n_g6_g104 : g6 ≠ g104 := by have := g6_w6.out.lt; omega
                         have n_g9_g104 : g9 ≠ g104 := by have := g9_w6.out.lt; omega
                         have low_g104 := Nat.le_trans B_w6.out.size hg
                         have l_w7 := Lib.hid (l_w6.out.below hb)
                         have o4_w7 := Lib.hid (own_below o4_w6.out hb)
                         have dz_w7 := Lib.hid (DonesOk.below dz_w6.out hb)
                         have g6_w7 := Lib.hid (g6_w6.out.below hb)
                         have g9_w7 := Lib.hid (g9_w6.out.below hb)
                         have B_w7 := Lib.hid (below_trans B_w6.out hb)
                         have g104_w7 : Hid (Blk w7 g104 58 #[.bool false, .slice none 0 0]) := hB
                         clear hB hb)
                      | ((with_reducible refine at_dst (N := 105) rfl ?_); refine ev_app rfl _ _ 53 58 rfl Try.underlying53 _ 2 _ tin58 rfl (by omega) w.heap.size _ _ _ rfl o4_w7.out _ 1 _ [.bool false, .slice none 0 0] rfl (g104_w7.out.sl (by simp)) rfl (by simp [Value.oneCell']) (by omega) (by omega) B_w7.out.size ?_; intro v105_w8 w8 ho1 hg1 hat1
                         have hx := GrX.row (S := fun k => (u4 : Value).ownBlock = some k) hg1 (fun g h => h)
                         have l_w8 := Lib.hid (TSl.ap (T := [52]) l_w7.out hx (SApart.own o4_w7.out (by decide)) (by simp))
                         have dz_w8 := Lib.hid (DonesOk.ap dz_w7.out hx (SApart.own o4_w7.out (by decide)))
                         have g6_w8 := Lib.hid (g6_w7.out.grx hx (own_ne o4_w7.out g6_w7.out (by decide)))
                         have g9_w8 := Lib.hid (g9_w7.out.grx hx nr_o4_g9)
                         have B_w8 := Lib.hid (below_grx B_w7.out hx B_w7.out.size (fun k => (fun e => own_ge o4_w7.out k e)))
                         obtain ⟨A105_w8, c105_w8, rfl, _⟩ := own_form ho1
                         have o4_w8 := Lib.hid ho1
                         have nr_o4_g9 := nr_app nr_o4_g9 hat1 g9_w7.out.lt
                         clear ho1 hg1 hat1 hx))
                    have hany := HANY.out
                    have hL : stepL lk ss[k] = lk := by simp [stepL, *]
                    have hT : stepT lk ss[k] = [] := by simp [stepT, *, find_none hany]
                    have hI : stepIs lk ss[k] = false := by simp [stepIs, *]
                    refine ⟨⟨k + 1, (stepL lk ss[k]), A3, c3, zs ++ [⟨stepIs lk ss[k], none, 0, stepT lk ss[k]⟩], (by omega), (by rw [hL]; exact hcl), by rw [hL], by go_num, (by show TSl _ _ _ _; rw [hL]; exact l_w8.out), (by show _ = _; rw [state_take hlt_k, ← L0_st.out]), (by show World.ownsRow _ _ _ _ _ _ _; rw [flatC_snoc]; simp only [Ty58.cells, hI, hT]; exact o4_w8.out), (DonesOk.snoc dz_w8.out (by rw [hT]; exact TSl.nil)), (by show _ = _; rw [List.map_append, L0_hz.out, dones_take hlt_k, ← L0_st.out]; rfl), B_w8⟩, ?_⟩
                    simp [intOf]; omega
                · have hc3' : ((ss[k].fOp : Int) != 2) = false := by rw [bne, hc3]; rfl
                  have o_hc3 : ss[k].fOp = 2 := by simpa using hc3
                  go_wp2_with (first
                    | ((with_reducible refine at_dst (N := 9) rfl ?_); refine ev_alloc rfl 58 rfl _ _ tz58 ?_; intro g9 w3 hg hB hb
                       have nr_o4_g9 := own_fresh' L1_o4.out hg
                       have n_g6_g9 : g6 ≠ g9 := by have := L1_g6.out.lt; omega
                       have low_g9 := Nat.le_trans L1_B.out.size hg
                       have l_w3 := Lib.hid (L1_l.out.below hb)
                       have o4_w3 := Lib.hid (own_below L1_o4.out hb)
                       have dz_w3 := Lib.hid (DonesOk.below L1_dz.out hb)
                       have g6_w3 := Lib.hid (L1_g6.out.below hb)
                       have B_w3 := Lib.hid (below_trans L1_B.out hb)
                       have g9_w3 : Hid (Blk w3 g9 58 #[.bool false, .slice none 0 0]) := hB
                       clear hB hb)
                    | ((with_reducible refine at_dst (N := 38) rfl ?_); refine ev_ld rfl 3 _ rfl ⟨g6, 0, none⟩ rfl (.int .i64 ss[k].fOp) (g6_w3.out.cell 0) _ Try.underlying3 rfl ?_)
                    | (refine ev_store1 rfl 4 _ _ rfl g9 0 _ rfl (.bool false) rfl 58 g9_w3.out tsz4 (by simp) rfl rfl ?_; intro w4 hB hg hz
                       have hx := GrX.grown (S := fun k => k = g9) hg rfl
                       have l_w4 := Lib.hid (TSl.ap (T := [52]) l_w3.out hx (SApart.blk g9_w3.out (by decide)) (by simp))
                       have o4_w4 := Lib.hid (own_grx o4_w3.out hx (fun k hk => (fun e => nr_o4_g9 (e ▸ hk))))
                       have dz_w4 := Lib.hid (DonesOk.ap dz_w3.out hx (SApart.blk g9_w3.out (by decide)))
                       have g6_w4 := Lib.hid (g6_w3.out.grx hx (fun e => n_g6_g9 e))
                       have B_w4 := Lib.hid (below_grx B_w3.out hx B_w3.out.size (fun k => (fun e => e ▸ low_g9)))
                       clear hx
                       have g9_w4 : Hid (Blk w4 g9 58 #[.bool false, .slice none 0 0]) := hB
                       clear hB hg hz)
                    | (refine ev_store1 rfl 48 _ _ rfl g9 1 _ rfl (.slice A3 lk.length c3) rfl 58 g9_w4.out tsz48 (by simp) rfl rfl ?_; intro w5 hB hg hz
                       have hx := GrX.grown (S := fun k => k = g9) hg rfl
                       have l_w5 := Lib.hid (TSl.ap (T := [52]) l_w4.out hx (SApart.blk g9_w4.out (by decide)) (by simp))
                       have o4_w5 := Lib.hid (own_grx o4_w4.out hx (fun k hk => (fun e => nr_o4_g9 (e ▸ hk))))
                       have dz_w5 := Lib.hid (DonesOk.ap dz_w4.out hx (SApart.blk g9_w4.out (by decide)))
                       have g6_w5 := Lib.hid (g6_w4.out.grx hx (fun e => n_g6_g9 e))
                       have B_w5 := Lib.hid (below_grx B_w4.out hx B_w4.out.size (fun k => (fun e => e ▸ low_g9)))
                       clear hx
                       have g9_w5 : Hid (Blk w5 g9 58 #[.bool false, .slice A3 lk.length c3]) := hB
                       clear hB hg hz)
                    | ((with_reducible refine at_dst (N := 91) rfl ?_); refine ev_ld rfl 3 _ rfl ⟨g6, 0, none⟩ rfl (.int .i64 ss[k].fOp) (g6_w5.out.cell 0) _ Try.underlying3 rfl ?_)
                    | ((with_reducible refine at_dst (N := 103) rfl ?_); refine ev_loadB rfl 58 _ rfl g9 rfl 58 _ g9_w5.out _ Try.underlying58 rfl tsz58 ?_)
                    | ((with_reducible refine at_dst (N := 104) rfl ?_); refine ev_bs rfl 53 58 1 _ rfl #[.bool false, .slice A3 lk.length c3] (by go_simp) ?_; intro g104 w6 hg hB hb
                       have nr_o4_g104 := own_fresh' o4_w5.out hg
                       have n_g6_g104 : g6 ≠ g104 := by have := g6_w5.out.lt; omega
                       have n_g9_g104 : g9 ≠ g104 := by have := g9_w5.out.lt; omega
                       have low_g104 := Nat.le_trans B_w5.out.size hg
                       have l_w6 := Lib.hid (l_w5.out.below hb)
                       have o4_w6 := Lib.hid (own_below o4_w5.out hb)
                       have dz_w6 := Lib.hid (DonesOk.below dz_w5.out hb)
                       have g6_w6 := Lib.hid (g6_w5.out.below hb)
                       have g9_w6 := Lib.hid (g9_w5.out.below hb)
                       have B_w6 := Lib.hid (below_trans B_w5.out hb)
                       have g104_w6 : Hid (Blk w6 g104 58 #[.bool false, .slice A3 lk.length c3]) := hB
                       clear hB hb)
                    | ((with_reducible refine at_dst (N := 105) rfl ?_); refine ev_app rfl _ _ 53 58 rfl Try.underlying53 _ 2 _ tin58 rfl (by omega) w.heap.size _ _ _ rfl o4_w6.out _ 1 _ [.bool false, .slice A3 lk.length c3] rfl (g104_w6.out.sl (by simp)) rfl (by simp [Value.oneCell']) (by omega) (by omega) B_w6.out.size ?_; intro v105_w7 w7 ho1 hg1 hat1
                       have hx := GrX.row (S := fun k => (u4 : Value).ownBlock = some k) hg1 (fun g h => h)
                       have l_w7 := Lib.hid (TSl.ap (T := [52]) l_w6.out hx (SApart.own o4_w6.out (by decide)) (by simp))
                       have dz_w7 := Lib.hid (DonesOk.ap dz_w6.out hx (SApart.own o4_w6.out (by decide)))
                       have g6_w7 := Lib.hid (g6_w6.out.grx hx (own_ne o4_w6.out g6_w6.out (by decide)))
                       have g9_w7 := Lib.hid (g9_w6.out.grx hx nr_o4_g9)
                       have B_w7 := Lib.hid (below_grx B_w6.out hx B_w6.out.size (fun k => (fun e => own_ge o4_w6.out k e)))
                       obtain ⟨A105_w7, c105_w7, rfl, _⟩ := own_form ho1
                       have o4_w7 := Lib.hid ho1
                       have nr_o4_g9 := nr_app nr_o4_g9 hat1 g9_w6.out.lt
                       clear ho1 hg1 hat1 hx))
                  have hany := HANY.out
                  have hL : stepL lk ss[k] = lk := by simp [stepL, *]
                  have hT : stepT lk ss[k] = stepL lk ss[k] := by simp [stepT, *]
                  have hI : stepIs lk ss[k] = false := by simp [stepIs, *]
                  refine ⟨⟨k + 1, (stepL lk ss[k]), A3, c3, zs ++ [⟨stepIs lk ss[k], A3, c3, stepT lk ss[k]⟩], (by omega), (by rw [hL]; exact hcl), by rw [hL], by go_num, (by show TSl _ _ _ _; rw [hL]; exact l_w7.out), (by show _ = _; rw [state_take hlt_k, ← L0_st.out]), (by show World.ownsRow _ _ _ _ _ _ _; rw [flatC_snoc]; simp only [Ty58.cells, hI, hT, hL]; exact o4_w7.out), (DonesOk.snoc dz_w7.out (by rw [hT, hL]; exact l_w7.out)), (by show _ = _; rw [List.map_append, L0_hz.out, dones_take hlt_k, ← L0_st.out]; rfl), B_w7⟩, ?_⟩
                  simp [intOf]; omega
              · have hc2' : ((ss[k].fOp : Int) != 1) = false := by rw [bne, hc2]; rfl
                have o_hc2 : ss[k].fOp = 1 := by simpa using hc2
                go_wp2_with (first
                  | ((with_reducible refine at_dst (N := 9) rfl ?_); refine ev_alloc rfl 58 rfl _ _ tz58 ?_; intro g9 w3 hg hB hb
                     have nr_o4_g9 := own_fresh' L1_o4.out hg
                     have n_g6_g9 : g6 ≠ g9 := by have := L1_g6.out.lt; omega
                     have low_g9 := Nat.le_trans L1_B.out.size hg
                     have l_w3 := Lib.hid (L1_l.out.below hb)
                     have o4_w3 := Lib.hid (own_below L1_o4.out hb)
                     have dz_w3 := Lib.hid (DonesOk.below L1_dz.out hb)
                     have g6_w3 := Lib.hid (L1_g6.out.below hb)
                     have B_w3 := Lib.hid (below_trans L1_B.out hb)
                     have g9_w3 : Hid (Blk w3 g9 58 #[.bool false, .slice none 0 0]) := hB
                     clear hB hb)
                  | ((with_reducible refine at_dst (N := 38) rfl ?_); refine ev_ld rfl 3 _ rfl ⟨g6, 0, none⟩ rfl (.int .i64 ss[k].fOp) (g6_w3.out.cell 0) _ Try.underlying3 rfl ?_)
                  | ((with_reducible refine at_dst (N := 50) rfl ?_); refine ev_ld rfl 48 _ rfl ⟨g6, 1, none⟩ rfl (.slice xa ss[k].fRepos.length ss[k].fRepos_c) (g6_w3.out.cell 1) _ Try.underlying48 rfl ?_))
                go_loopw [3, 52] (fun v3 v52 wr => ∃ j : Nat, ∃ A5 : Option Addr, ∃ c5 : Nat, (j ≤ ss[k].fRepos.length) ∧ (((ss[k].fRepos.take j).foldl updF lk).length ≤ c5) ∧ v3 = .slice A5 ((ss[k].fRepos.take j).foldl updF lk).length c5 ∧ v52 = .int .i64 (↑j) ∧ Hid (TSl wr A5 52 (flatC Ty52.cells ((ss[k].fRepos.take j).foldl updF lk))) ∧ Hid (World.ownsRow wr w.heap.size 58 2 u4 k (flatC Ty58.cells zs)) ∧ Hid (DonesOk zs wr) ∧ Hid (Blk wr g6 50 #[.int .i64 ss[k].fOp, .slice xa ss[k].fRepos.length ss[k].fRepos_c, .string ss[k].fName]) ∧ Hid (Blk wr g9 58 #[.bool false, .slice none 0 0]) ∧ Hid (TSl wr A3 52 (flatC Ty52.cells lk)) ∧ Hid (Below w.heap.size w wr)) (fun v3 v52 _ => ss[k].fRepos.length - (intOf v52).toNat)
                case atStart => exact ⟨0, A3, c3, (by omega), hcl, rfl, rfl, l_w3, o4_w3, dz_w3, g6_w3, g9_w3, l_w3, B_w3⟩
                case round =>
                  obtain ⟨j, A5, c5, hj, hcu, rfl, rfl, L2_lu, L2_o4, L2_dz, L2_g6, L2_g9, L2_l, L2_B⟩ := hrel
                  by_cases hlt_j : j < ss[k].fRepos.length
                  · obtain ⟨ad_j, rfl⟩ := (HXR.out.below L2_B.out).addr (by simp [strs, ptrs]; omega)
                    have hful := foldU_len (ss[k].fRepos.take j) lk
                    have htj : (ss[k].fRepos.take j).length ≤ j := List.length_take_le j _
                    go_wp2_with (first
                      | ((with_reducible refine at_dst (N := 55) rfl ?_); refine ev_loadR rfl 52 _ rfl _ rfl [.string (ss[k].fRepos[j].fName), .string (ss[k].fRepos[j].fURL)] ((HXR.out.below L2_B.out).el (j := j) (row := ss[k].fRepos[j].cells) (by simp [hlt_j])) _ Try.underlying52 rfl tsz52 ?_)
                      | ((with_reducible refine at_dst (N := 11) rfl ?_); refine ev_alloc rfl 52 rfl _ _ tz52 ?_; intro g11 w4 hg hB hb
                         have n_g6_g11 : g6 ≠ g11 := by have := L2_g6.out.lt; omega
                         have n_g9_g11 : g9 ≠ g11 := by have := L2_g9.out.lt; omega
                         have low_g11 := Nat.le_trans L2_B.out.size hg
                         have lo_g11 := hg
                         have bo_g11 := Lib.hid hb
                         have lu_w4 := Lib.hid (L2_lu.out.below hb)
                         have o4_w4 := Lib.hid (own_below L2_o4.out hb)
                         have dz_w4 := Lib.hid (DonesOk.below L2_dz.out hb)
                         have g6_w4 := Lib.hid (L2_g6.out.below hb)
                         have g9_w4 := Lib.hid (L2_g9.out.below hb)
                         have l_w4 := Lib.hid (L2_l.out.below hb)
                         have B_w4 := Lib.hid (below_trans L2_B.out hb)
                         have g11_w4 : Hid (Blk w4 g11 52 #[.string ⟨#[]⟩, .string ⟨#[]⟩]) := hB
                         clear hB hb)
                      | (refine ev_store rfl 52 _ _ rfl g11 _ _ rfl rfl 52 g11_w4.out tsz52 rfl rfl ?_; intro w5 hB hg hz
                         have hx := GrX.grown (S := fun k => k = g11) hg rfl
                         have bo_g11_w5 := Lib.hid (below_grown bo_g11.out hg bo_g11.out.size lo_g11)
                         have lu_w5 := Lib.hid (L2_lu.out.below bo_g11_w5.out)
                         have dz_w5 := Lib.hid (DonesOk.below L2_dz.out bo_g11_w5.out)
                         have l_w5 := Lib.hid (L2_l.out.below bo_g11_w5.out)
                         have o4_w5 := Lib.hid (own_grx o4_w4.out hx (fun k hk => (fun e => own_ne o4_w4.out g11_w4.out (by decide) (e ▸ hk))))
                         have g6_w5 := Lib.hid (g6_w4.out.grx hx (fun e => n_g6_g11 e))
                         have g9_w5 := Lib.hid (g9_w4.out.grx hx (fun e => n_g9_g11 e))
                         have B_w5 := Lib.hid (below_grx B_w4.out hx B_w4.out.size (fun k => (fun e => e ▸ low_g11)))
                         clear hx
                         have g11_w5 : Hid (Blk w5 g11 52 #[.string (ss[k].fRepos[j].fName), .string (ss[k].fRepos[j].fURL)]) := hB
                         clear hB hg hz)
                      | ((with_reducible refine at_dst (N := 57) rfl ?_); refine ev_loadB rfl 52 _ rfl g11 rfl 52 _ g11_w5.out _ Try.underlying52 rfl tsz52 ?_)
                      | (go_at_call 77; (with_reducible refine (hlUpd_any A5 c5 ((ss[k].fRepos.take j).foldl updF lk) (ss[k].fRepos[j]) _ (TSl.rows lu_w5.out (by decide) Ty52.len) (by first | omega | (simp; done) | (simp; omega))).mono ?_); rintro e w6 ⟨A258, c258, rfl, hp0_58, hb⟩
                         have lu_w6 := Lib.hid (lu_w5.out.below hb)
                         have o4_w6 := Lib.hid (own_below o4_w5.out hb)
                         have dz_w6 := Lib.hid (DonesOk.below dz_w5.out hb)
                         have g6_w6 := Lib.hid (g6_w5.out.below hb)
                         have g9_w6 := Lib.hid (g9_w5.out.below hb)
                         have l_w6 := Lib.hid (l_w5.out.below hb)
                         have g11_w6 := Lib.hid (g11_w5.out.below hb)
                         have B_w6 := Lib.hid (below_trans B_w5.out hb)
                         have hp0_58 := own_mono hp0_58 B_w5.out.size
                         have o58_0_w6 := Lib.hid hp0_58
                         clear hb hp0_58))
                    refine ⟨⟨j + 1, A258, c258, (by omega), (by rw [foldU_take hlt_j]; exact own_cap o58_0_w6.out), by rw [foldU_take hlt_j], by go_num, (by show TSl _ _ _ _; rw [foldU_take hlt_j]; exact (own_tslN (sz := 2) o58_0_w6.out (by decide) (by have := updF_len ((ss[k].fRepos.take j).foldl updF lk) ss[k].fRepos[j]; omega))), o4_w6, dz_w6, g6_w6, g9_w6, l_w6, B_w6⟩, ?_⟩
                    simp [intOf]; omega
                  · obtain rfl : j = ss[k].fRepos.length := by omega
                    rw [List.take_length] at L2_lu hcu
                    (try rw [List.take_length])
                    go_wp2_with (first
                      | (refine ev_store1 rfl 48 _ _ rfl g9 1 _ rfl (.slice A5 (ss[k].fRepos.foldl updF lk).length c5) rfl 58 L2_g9.out tsz48 (by simp) rfl rfl ?_; intro w4 hB hg hz
                         have hx := GrX.grown (S := fun k => k = g9) hg rfl
                         have lu_w4 := Lib.hid (TSl.ap (T := [52]) L2_lu.out hx (SApart.blk L2_g9.out (by decide)) (by simp))
                         have o4_w4 := Lib.hid (own_grx L2_o4.out hx (fun k hk => (fun e => nr_o4_g9 (e ▸ hk))))
                         have dz_w4 := Lib.hid (DonesOk.ap L2_dz.out hx (SApart.blk L2_g9.out (by decide)))
                         have g6_w4 := Lib.hid (L2_g6.out.grx hx (fun e => n_g6_g9 e))
                         have l_w4 := Lib.hid (TSl.ap (T := [52]) L2_l.out hx (SApart.blk L2_g9.out (by decide)) (by simp))
                         have B_w4 := Lib.hid (below_grx L2_B.out hx L2_B.out.size (fun k => (fun e => e ▸ low_g9)))
                         clear hx
                         have g9_w4 : Hid (Blk w4 g9 58 #[.bool false, .slice A5 (ss[k].fRepos.foldl updF lk).length c5]) := hB
                         clear hB hg hz)
                      | ((with_reducible refine at_dst (N := 91) rfl ?_); refine ev_ld rfl 3 _ rfl ⟨g6, 0, none⟩ rfl (.int .i64 ss[k].fOp) (g6_w4.out.cell 0) _ Try.underlying3 rfl ?_)
                      | ((with_reducible refine at_dst (N := 103) rfl ?_); refine ev_loadB rfl 58 _ rfl g9 rfl 58 _ g9_w4.out _ Try.underlying58 rfl tsz58 ?_)
                      | ((with_reducible refine at_dst (N := 104) rfl ?_); refine ev_bs rfl 53 58 1 _ rfl #[.bool false, .slice A5 (ss[k].fRepos.foldl updF lk).length c5] (by go_simp) ?_; intro g104 w5 hg hB hb
                         have nr_o4_g104 := own_fresh' o4_w4.out hg
                         have n_g6_g104 : g6 ≠ g104 := by have := g6_w4.out.lt; omega
                         have n_g9_g104 : g9 ≠ g104 := by have := g9_w4.out.lt; omega
                         have low_g104 := Nat.le_trans B_w4.out.size hg
                         have lu_w5 := Lib.hid (lu_w4.out.below hb)
                         have o4_w5 := Lib.hid (own_below o4_w4.out hb)
                         have dz_w5 := Lib.hid (DonesOk.below dz_w4.out hb)
                         have g6_w5 := Lib.hid (g6_w4.out.below hb)
                         have g9_w5 := Lib.hid (g9_w4.out.below hb)
                         have l_w5 := Lib.hid (l_w4.out.below hb)
                         have B_w5 := Lib.hid (below_trans B_w4.out hb)
                         have g104_w5 : Hid (Blk w5 g104 58 #[.bool false, .slice A5 (ss[k].fRepos.foldl updF lk).length c5]) := hB
                         clear hB hb)
                      | ((with_reducible refine at_dst (N := 105) rfl ?_); refine ev_app rfl _ _ 53 58 rfl Try.underlying53 _ 2 _ tin58 rfl (by omega) w.heap.size _ _ _ rfl o4_w5.out _ 1 _ [.bool false, .slice A5 (ss[k].fRepos.foldl updF lk).length c5] rfl (g104_w5.out.sl (by simp)) rfl (by simp [Value.oneCell']) (by omega) (by omega) B_w5.out.size ?_; intro v105_w6 w6 ho1 hg1 hat1
                         have hx := GrX.row (S := fun k => (u4 : Value).ownBlock = some k) hg1 (fun g h => h)
                         have lu_w6 := Lib.hid (TSl.ap (T := [52]) lu_w5.out hx (SApart.own o4_w5.out (by decide)) (by simp))
                         have dz_w6 := Lib.hid (DonesOk.ap dz_w5.out hx (SApart.own o4_w5.out (by decide)))
                         have g6_w6 := Lib.hid (g6_w5.out.grx hx (own_ne o4_w5.out g6_w5.out (by decide)))
                         have g9_w6 := Lib.hid (g9_w5.out.grx hx nr_o4_g9)
                         have l_w6 := Lib.hid (TSl.ap (T := [52]) l_w5.out hx (SApart.own o4_w5.out (by decide)) (by simp))
                         have B_w6 := Lib.hid (below_grx B_w5.out hx B_w5.out.size (fun k => (fun e => own_ge o4_w5.out k e)))
                         obtain ⟨A105_w6, c105_w6, rfl, _⟩ := own_form ho1
                         have o4_w6 := Lib.hid ho1
                         have nr_o4_g9 := nr_app nr_o4_g9 hat1 g9_w5.out.lt
                         clear ho1 hg1 hat1 hx))
                    have hany := HANY.out
                    have hL : stepL lk ss[k] = ss[k].fRepos.foldl updF lk := by simp [stepL, *]
                    have hT : stepT lk ss[k] = stepL lk ss[k] := by simp [stepT, *]
                    have hI : stepIs lk ss[k] = false := by simp [stepIs, *]
                    refine ⟨⟨k + 1, (stepL lk ss[k]), A5, c5, zs ++ [⟨stepIs lk ss[k], A5, c5, stepT lk ss[k]⟩], (by omega), (by rw [hL]; exact hcu), by rw [hL], by go_num, (by show TSl _ _ _ _; rw [hL]; exact lu_w6.out), (by show _ = _; rw [state_take hlt_k, ← L0_st.out]), (by show World.ownsRow _ _ _ _ _ _ _; rw [flatC_snoc]; simp only [Ty58.cells, hI, hT, hL]; exact o4_w6.out), (DonesOk.snoc dz_w6.out (by rw [hT, hL]; exact lu_w6.out)), (by show _ = _; rw [List.map_append, L0_hz.out, dones_take hlt_k, ← L0_st.out]; rfl), B_w6⟩, ?_⟩
                    simp [intOf]; omega
            · have hc1' : ((ss[k].fOp : Int) != 0) = false := by rw [bne, hc1]; rfl
              have o_hc1 : ss[k].fOp = 0 := by simpa using hc1
              go_upto_region 15 with (first
                | ((with_reducible refine at_dst (N := 9) rfl ?_); refine ev_alloc rfl 58 rfl _ _ tz58 ?_; intro g9 w3 hg hB hb
                   have nr_o4_g9 := own_fresh' L1_o4.out hg
                   have n_g6_g9 : g6 ≠ g9 := by have := L1_g6.out.lt; omega
                   have low_g9 := Nat.le_trans L1_B.out.size hg
                   have l_w3 := Lib.hid (L1_l.out.below hb)
                   have o4_w3 := Lib.hid (own_below L1_o4.out hb)
                   have dz_w3 := Lib.hid (DonesOk.below L1_dz.out hb)
                   have g6_w3 := Lib.hid (L1_g6.out.below hb)
                   have B_w3 := Lib.hid (below_trans L1_B.out hb)
                   have g9_w3 : Hid (Blk w3 g9 58 #[.bool false, .slice none 0 0]) := hB
                   clear hB hb)
                | ((with_reducible refine at_dst (N := 38) rfl ?_); refine ev_ld rfl 3 _ rfl ⟨g6, 0, none⟩ rfl (.int .i64 ss[k].fOp) (g6_w3.out.cell 0) _ Try.underlying3 rfl ?_))
              refine wp_region_grow [some [], some [], some [(0, 41), (1, 42)], some [], some [(3, 44)], none, none]
                  [fun v w' => ∃ g, v = .slice (some ⟨g, 0, none⟩) 0 0 ∧ w3.heap.size ≤ g ∧ Blk w' g 52 #[],
                   fun vv _ => vv = .slice A3 lk.length c3,
                   fun v w' => w'.ownsRow w3.heap.size 52 2 v (lk.length) (flatC Ty52.cells lk),
                   fun vv _ => vv = .pointer (some ⟨g6, 1, none⟩),
                   fun vv _ => vv = .slice xa ss[k].fRepos.length ss[k].fRepos_c,
                   fun _ _ => True,
                   fun _ _ => True] 108 (by kernel_rfl) rfl rfl (by kernel_rfl) ?_ ?_ ?_
              · intro p hp
                simp only [List.mem_cons, List.not_mem_nil, or_false] at hp
                rcases hp with rfl | rfl | rfl | rfl | rfl | rfl | rfl
                · exact stab_blk (F := fun g => .slice (some ⟨g, 0, none⟩) 0 0)
                · exact stab_eq _
                · exact stab_own
                · exact stab_eq _
                · exact stab_eq _
                · exact stab_true
                · exact stab_true
              · simp only [oblGo, obl1, withDeps, oblK, postAt, List.getD_cons_zero, List.getD_cons_succ, forall_eq]
                refine ⟨?_, ?_, ?_, ?_, ?_, trivial⟩
                · intro wg hg
                  exact gr_bs 52 0 #[] (by go_simp) fun g w1 hg1 hB hb => ⟨g, rfl, Nat.le_trans hg.bel.size hg1, hB⟩
                · intro wg hg
                  go_simp
                · intro wg hg; rintro _ ⟨g41, rfl, lo_g41, hB_g41⟩
                  exact gr_app _ _ 48 52 rfl Try.underlying48 _ 2 _ tin52 rfl (by omega) g41 #[] rfl hB_g41 _ _ _ (flatC Ty52.cells lk) rfl (l_w3.out.below hg).sl (flatC_len Ty52.len) (flatC_one Ty52.one) (by omega) (by omega) w3.heap.size lo_g41 fun v' w' ho hg' => ho
                · intro wg hg
                  go_simp
                · intro wg hg
                  exact gr_ld 48 _ rfl ⟨g6, 1, none⟩ rfl (.slice xa ss[k].fRepos.length ss[k].fRepos_c) ((g6_w3.out.below hg).cell 1) _ Try.underlying48 rfl rfl
              simp only [headDs, withDeps, postAt, List.getD_cons_zero, List.getD_cons_succ, forall_eq, tailOps]
              intro w4 hgr
              rintro _ ⟨g41, rfl, lo_g41, hB_g41⟩
              rintro v43 ho43
              simp only [Act.put, List.setIfInBounds_toArray, List.set_cons_succ, List.set_cons_zero]
              have l_w4 := Lib.hid (l_w3.out.below (show Below _ _ _ from hgr))
              have o4_w4 := Lib.hid (own_below o4_w3.out (show Below _ _ _ from hgr))
              have dz_w4 := Lib.hid (DonesOk.below dz_w3.out (show Below _ _ _ from hgr))
              have g6_w4 := Lib.hid (g6_w3.out.below (show Below _ _ _ from hgr))
              have g9_w4 := Lib.hid (g9_w3.out.below (show Below _ _ _ from hgr))
              have B_w4 := Lib.hid (below_trans B_w3.out (show Below _ _ _ from hgr))
              obtain ⟨A43, c43, rfl, _⟩ := own_form ho43
              have bo_o43 := Lib.hid (show Below _ _ _ from hgr)
              have go_o43 := Lib.hid (own_ge ho43)
              have o43_w4 := Lib.hid (own_mono ho43 B_w3.out.size)
              clear ho43
              clear hgr
              go_wp2_with (first
                | ((with_reducible refine at_dst (N := 46) rfl ?_); refine ev_app rfl _ _ 48 52 rfl Try.underlying48 _ 2 _ tin52 rfl (by omega) w.heap.size _ _ _ rfl o43_w4.out _ ss[k].fRepos.length _ (flatC Ty52.cells ss[k].fRepos) rfl (Rows.flat (HXR.out.below B_w4.out) (by decide) Ty52.len (by omega)) (flatC_len Ty52.len) (flatC_one Ty52.one) (by omega) (by omega) B_w4.out.size ?_; intro v46_w5 w5 ho1 hg1 hat1
                   have hx := GrX.row (S := fun k => (.slice A43 lk.length c43 : Value).ownBlock = some k) hg1 (fun g h => h)
                   have nb_o43_w5 := Lib.hid (below_row bo_o43.out hg1 bo_o43.out.size go_o43.out)
                   have l_w5 := Lib.hid (l_w3.out.below nb_o43_w5.out)
                   have dz_w5 := Lib.hid (DonesOk.below dz_w3.out nb_o43_w5.out)
                   have o4_w5 := Lib.hid (own_grx o4_w4.out hx (fun k hk => (fun e => own_apart o4_w4.out o43_w4.out (by decide) k e hk)))
                   have g6_w5 := Lib.hid (g6_w4.out.grx hx (own_ne o43_w4.out g6_w4.out (by decide)))
                   have g9_w5 := Lib.hid (g9_w4.out.grx hx (own_ne o43_w4.out g9_w4.out (by decide)))
                   have B_w5 := Lib.hid (below_grx B_w4.out hx B_w4.out.size (fun k => (fun e => own_ge o43_w4.out k e)))
                   obtain ⟨A46_w5, c46_w5, rfl, _⟩ := own_form ho1
                   have o43_w5 := Lib.hid ho1
                   clear ho1 hg1 hat1 hx)
                | (refine ev_store1 rfl 48 _ _ rfl g9 1 _ rfl (.slice A46_w5 (lk.length + ss[k].fRepos.length) c46_w5) rfl 58 g9_w5.out tsz48 (by simp) rfl rfl ?_; intro w6 hB hg hz
                   have hx := GrX.grown (S := fun k => k = g9) hg rfl
                   have l_w6 := Lib.hid (TSl.ap (T := [52]) l_w5.out hx (SApart.blk g9_w5.out (by decide)) (by simp))
                   have o4_w6 := Lib.hid (own_grx o4_w5.out hx (fun k hk => (fun e => nr_o4_g9 (e ▸ hk))))
                   have dz_w6 := Lib.hid (DonesOk.ap dz_w5.out hx (SApart.blk g9_w5.out (by decide)))
                   have g6_w6 := Lib.hid (g6_w5.out.grx hx (fun e => n_g6_g9 e))
                   have o43_w6 := Lib.hid (own_grx o43_w5.out hx (fun k hk => (fun e => own_ne o43_w5.out g9_w5.out (by decide) (e ▸ hk))))
                   have B_w6 := Lib.hid (below_grx B_w5.out hx B_w5.out.size (fun k => (fun e => e ▸ low_g9)))
                   clear hx
                   have g9_w6 : Hid (Blk w6 g9 58 #[.bool false, .slice A46_w5 (lk.length + ss[k].fRepos.length) c46_w5]) := hB
                   clear hB hg hz)
                | ((with_reducible refine at_dst (N := 91) rfl ?_); refine ev_ld rfl 3 _ rfl ⟨g6, 0, none⟩ rfl (.int .i64 ss[k].fOp) (g6_w6.out.cell 0) _ Try.underlying3 rfl ?_)
                | ((with_reducible refine at_dst (N := 103) rfl ?_); refine ev_loadB rfl 58 _ rfl g9 rfl 58 _ g9_w6.out _ Try.underlying58 rfl tsz58 ?_)
                | ((with_reducible refine at_dst (N := 104) rfl ?_); refine ev_bs rfl 53 58 1 _ rfl #[.bool false, .slice A46_w5 (lk.length + ss[k].fRepos.length) c46_w5] (by go_simp) ?_; intro g104 w7 hg hB hb
                   have nr_o4_g104 := own_fresh' o4_w6.out hg
                   have n_g6_g104 : g6 ≠ g104 := by have := g6_w6.out.lt; omega
                   have n_g9_g104 : g9 ≠ g104 := by have := g9_w6.out.lt; omega
                   have low_g104 := Nat.le_trans B_w6.out.size hg
                   have l_w7 := Lib.hid (l_w6.out.below hb)
                   have o4_w7 := Lib.hid (own_below o4_w6.out hb)
                   have dz_w7 := Lib.hid (DonesOk.below dz_w6.out hb)
                   have g6_w7 := Lib.hid (g6_w6.out.below hb)
                   have g9_w7 := Lib.hid (g9_w6.out.below hb)
                   have o43_w7 := Lib.hid (own_below o43_w6.out hb)
                   have B_w7 := Lib.hid (below_trans B_w6.out hb)
                   have g104_w7 : Hid (Blk w7 g104 58 #[.bool false, .slice A46_w5 (lk.length + ss[k].fRepos.length) c46_w5]) := hB
                   clear hB hb)
                | ((with_reducible refine at_dst (N := 105) rfl ?_); refine ev_app rfl _ _ 53 58 rfl Try.underlying53 _ 2 _ tin58 rfl (by omega) w.heap.size _ _ _ rfl o4_w7.out _ 1 _ [.bool false, .slice A46_w5 (lk.length + ss[k].fRepos.length) c46_w5] rfl (g104_w7.out.sl (by simp)) rfl (by simp [Value.oneCell']) (by omega) (by omega) B_w7.out.size ?_; intro v105_w8 w8 ho1 hg1 hat1
                   have hx := GrX.row (S := fun k => (u4 : Value).ownBlock = some k) hg1 (fun g h => h)
                   have l_w8 := Lib.hid (TSl.ap (T := [52]) l_w7.out hx (SApart.own o4_w7.out (by decide)) (by simp))
                   have dz_w8 := Lib.hid (DonesOk.ap dz_w7.out hx (SApart.own o4_w7.out (by decide)))
                   have g6_w8 := Lib.hid (g6_w7.out.grx hx (own_ne o4_w7.out g6_w7.out (by decide)))
                   have g9_w8 := Lib.hid (g9_w7.out.grx hx nr_o4_g9)
                   have o43_w8 := Lib.hid (own_grx o43_w7.out hx (fun k hk => (fun e => own_apart o43_w7.out o4_w7.out (by decide) k e hk)))
                   have B_w8 := Lib.hid (below_grx B_w7.out hx B_w7.out.size (fun k => (fun e => own_ge o4_w7.out k e)))
                   obtain ⟨A105_w8, c105_w8, rfl, _⟩ := own_form ho1
                   have o4_w8 := Lib.hid ho1
                   have nr_o4_g9 := nr_app nr_o4_g9 hat1 g9_w7.out.lt
                   clear ho1 hg1 hat1 hx))
              have hany := HANY.out
              have hL : stepL lk ss[k] = lk ++ ss[k].fRepos := by simp [stepL, *]
              have hT : stepT lk ss[k] = stepL lk ss[k] := by simp [stepT, *]
              have hI : stepIs lk ss[k] = false := by simp [stepIs, *]
              refine ⟨⟨k + 1, (stepL lk ss[k]), A46_w5, c46_w5, zs ++ [⟨stepIs lk ss[k], A46_w5, c46_w5, stepT lk ss[k]⟩], (by omega), (by rw [hL, List.length_append]; exact own_cap o43_w8.out), by rw [hL, List.length_append], by go_num, (by show TSl _ _ _ _; rw [hL]; exact (by rw [flatC_app]; exact (own_tslN (sz := 2) o43_w8.out (by decide) (by first | omega | (simp; omega))))), (by show _ = _; rw [state_take hlt_k, ← L0_st.out]), (by show World.ownsRow _ _ _ _ _ _ _; rw [flatC_snoc]; simp only [Ty58.cells, hI, hT, hL, List.length_append]; exact o4_w8.out), (DonesOk.snoc dz_w8.out (by rw [hT, hL]; exact (by rw [flatC_app]; exact (own_tslN (sz := 2) o43_w8.out (by decide) (by first | omega | (simp; omega)))))), (by show _ = _; rw [List.map_append, L0_hz.out, dones_take hlt_k, ← L0_st.out]; rfl), B_w8⟩, ?_⟩
              simp [intOf]; omega
          · have HANY := Lib.hid hany
            have HFIND := Lib.hid hfind
            clear hany hfind
            cases hc1 : ((ss[k].fOp : Int) == 0)
            · have hc1' : ((ss[k].fOp : Int) != 0) = true := by rw [bne, hc1]; rfl
              have o_hc1 : ¬ ss[k].fOp = 0 := by simpa using hc1
              cases hc2 : ((ss[k].fOp : Int) == 1)
              · have hc2' : ((ss[k].fOp : Int) != 1) = true := by rw [bne, hc2]; rfl
                have o_hc2 : ¬ ss[k].fOp = 1 := by simpa using hc2
                cases hc3 : ((ss[k].fOp : Int) == 2)
                · have hc3' : ((ss[k].fOp : Int) != 2) = true := by rw [bne, hc3]; rfl
                  have o_hc3 : ¬ ss[k].fOp = 2 := by simpa using hc3
                  cases hc4 : ((ss[k].fOp : Int) == 3)
                  · have hc4' : ((ss[k].fOp : Int) != 3) = true := by rw [bne, hc4]; rfl
                    have o_hc4 : ¬ ss[k].fOp = 3 := by simpa using hc4
                    cases hc5 : ((ss[k].fOp : Int) == 4)
                    · have hc5' : ((ss[k].fOp : Int) != 4) = true := by rw [bne, hc5]; rfl
                      have o_hc5 : ¬ ss[k].fOp = 4 := by simpa using hc5
                      go_wp2_with (first
                        | ((with_reducible refine at_dst (N := 9) rfl ?_); refine ev_alloc rfl 58 rfl _ _ tz58 ?_; intro g9 w3 hg hB hb
                           have nr_o4_g9 := own_fresh' L1_o4.out hg
                           have n_g6_g9 : g6 ≠ g9 := by have := L1_g6.out.lt; omega
                           have low_g9 := Nat.le_trans L1_B.out.size hg
                           have l_w3 := Lib.hid (L1_l.out.below hb)
                           have o4_w3 := Lib.hid (own_below L1_o4.out hb)
                           have dz_w3 := Lib.hid (DonesOk.below L1_dz.out hb)
                           have g6_w3 := Lib.hid (L1_g6.out.below hb)
                           have B_w3 := Lib.hid (below_trans L1_B.out hb)
                           have g9_w3 : Hid (Blk w3 g9 58 #[.bool false, .slice none 0 0]) := hB
                           clear hB hb)
                        | ((with_reducible refine at_dst (N := 38) rfl ?_); refine ev_ld rfl 3 _ rfl ⟨g6, 0, none⟩ rfl (.int .i64 ss[k].fOp) (g6_w3.out.cell 0) _ Try.underlying3 rfl ?_)
                        | (refine ev_store1 rfl 48 _ _ rfl g9 1 _ rfl (.slice A3 lk.length c3) rfl 58 g9_w3.out tsz48 (by simp) rfl rfl ?_; intro w4 hB hg hz
                           have hx := GrX.grown (S := fun k => k = g9) hg rfl
                           have l_w4 := Lib.hid (TSl.ap (T := [52]) l_w3.out hx (SApart.blk g9_w3.out (by decide)) (by simp))
                           have o4_w4 := Lib.hid (own_grx o4_w3.out hx (fun k hk => (fun e => nr_o4_g9 (e ▸ hk))))
                           have dz_w4 := Lib.hid (DonesOk.ap dz_w3.out hx (SApart.blk g9_w3.out (by decide)))
                           have g6_w4 := Lib.hid (g6_w3.out.grx hx (fun e => n_g6_g9 e))
                           have B_w4 := Lib.hid (below_grx B_w3.out hx B_w3.out.size (fun k => (fun e => e ▸ low_g9)))
                           clear hx
                           have g9_w4 : Hid (Blk w4 g9 58 #[.bool false, .slice A3 lk.length c3]) := hB
                           clear hB hg hz)
                        | ((with_reducible refine at_dst (N := 91) rfl ?_); refine ev_ld rfl 3 _ rfl ⟨g6, 0, none⟩ rfl (.int .i64 ss[k].fOp) (g6_w4.out.cell 0) _ Try.underlying3 rfl ?_)
                        | ((with_reducible refine at_dst (N := 103) rfl ?_); refine ev_loadB rfl 58 _ rfl g9 rfl 58 _ g9_w4.out _ Try.underlying58 rfl tsz58 ?_)
                        | ((with_reducible refine at_dst (N := 104) rfl ?_); refine ev_bs rfl 53 58 1 _ rfl #[.bool false, .slice A3 lk.length c3] (by go_simp) ?_; intro g104 w5 hg hB hb
                           have nr_o4_g104 := own_fresh' o4_w4.out hg
                           have n_g6_g104 : g6 ≠ g104 := by have := g6_w4.out.lt; omega
                           have n_g9_g104 : g9 ≠ g104 := by have := g9_w4.out.lt; omega
                           have low_g104 := Nat.le_trans B_w4.out.size hg
                           have l_w5 := Lib.hid (l_w4.out.below hb)
                           have o4_w5 := Lib.hid (own_below o4_w4.out hb)
                           have dz_w5 := Lib.hid (DonesOk.below dz_w4.out hb)
                           have g6_w5 := Lib.hid (g6_w4.out.below hb)
                           have g9_w5 := Lib.hid (g9_w4.out.below hb)
                           have B_w5 := Lib.hid (below_trans B_w4.out hb)
                           have g104_w5 : Hid (Blk w5 g104 58 #[.bool false, .slice A3 lk.length c3]) := hB
                           clear hB hb)
                        | ((with_reducible refine at_dst (N := 105) rfl ?_); refine ev_app rfl _ _ 53 58 rfl Try.underlying53 _ 2 _ tin58 rfl (by omega) w.heap.size _ _ _ rfl o4_w5.out _ 1 _ [.bool false, .slice A3 lk.length c3] rfl (g104_w5.out.sl (by simp)) rfl (by simp [Value.oneCell']) (by omega) (by omega) B_w5.out.size ?_; intro v105_w6 w6 ho1 hg1 hat1
                           have hx := GrX.row (S := fun k => (u4 : Value).ownBlock = some k) hg1 (fun g h => h)
                           have l_w6 := Lib.hid (TSl.ap (T := [52]) l_w5.out hx (SApart.own o4_w5.out (by decide)) (by simp))
                           have dz_w6 := Lib.hid (DonesOk.ap dz_w5.out hx (SApart.own o4_w5.out (by decide)))
                           have g6_w6 := Lib.hid (g6_w5.out.grx hx (own_ne o4_w5.out g6_w5.out (by decide)))
                           have g9_w6 := Lib.hid (g9_w5.out.grx hx nr_o4_g9)
                           have B_w6 := Lib.hid (below_grx B_w5.out hx B_w5.out.size (fun k => (fun e => own_ge o4_w5.out k e)))
                           obtain ⟨A105_w6, c105_w6, rfl, _⟩ := own_form ho1
                           have o4_w6 := Lib.hid ho1
                           have nr_o4_g9 := nr_app nr_o4_g9 hat1 g9_w5.out.lt
                           clear ho1 hg1 hat1 hx))
                      exfalso; omega
                    · have hc5' : ((ss[k].fOp : Int) != 4) = false := by rw [bne, hc5]; rfl
                      have o_hc5 : ss[k].fOp = 4 := by simpa using hc5
                      go_wp2_with (first
                        | ((with_reducible refine at_dst (N := 9) rfl ?_); refine ev_alloc rfl 58 rfl _ _ tz58 ?_; intro g9 w3 hg hB hb
                           have nr_o4_g9 := own_fresh' L1_o4.out hg
                           have n_g6_g9 : g6 ≠ g9 := by have := L1_g6.out.lt; omega
                           have low_g9 := Nat.le_trans L1_B.out.size hg
                           have l_w3 := Lib.hid (L1_l.out.below hb)
                           have o4_w3 := Lib.hid (own_below L1_o4.out hb)
                           have dz_w3 := Lib.hid (DonesOk.below L1_dz.out hb)
                           have g6_w3 := Lib.hid (L1_g6.out.below hb)
                           have B_w3 := Lib.hid (below_trans L1_B.out hb)
                           have g9_w3 : Hid (Blk w3 g9 58 #[.bool false, .slice none 0 0]) := hB
                           clear hB hb)
                        | ((with_reducible refine at_dst (N := 38) rfl ?_); refine ev_ld rfl 3 _ rfl ⟨g6, 0, none⟩ rfl (.int .i64 ss[k].fOp) (g6_w3.out.cell 0) _ Try.underlying3 rfl ?_))
                      have p0_r3 := Lib.hid (H0.out.below B_w3.out)
                      have p1_r3 := Lib.hid (Ty50.oks.below H1.out B_w3.out)
                      have xr_r3 := Lib.hid (HXR.out.below B_w3.out)
                      go_loopw [12, 70] (fun v12 v70 wr => ∃ j : Nat, (j ≤ lk.length) ∧ v70 = .int .i64 (↑j) ∧ Hid (World.ownsRow wr w3.heap.size 52 2 v12 (((lk.take j).filter (notN ss[k].fName)).length) (flatC Ty52.cells ((lk.take j).filter (notN ss[k].fName)))) ∧ Hid (Below w3.heap.size w3 wr)) (fun v12 v70 _ => lk.length - (intOf v70).toNat)
                      case atStart => exact ⟨0, (by omega), rfl, (own_nil _ _ _ _), (Below.refl _ _)⟩
                      case round =>
                        obtain ⟨j, hj, rfl, L3_o12, L3_B⟩ := hrel
                        by_cases hlt_j : j < lk.length
                        · obtain ⟨ad_j, rfl⟩ := (l_w3.out.below L3_B.out).sl.addr (by rw [flatC_len Ty52.len]; omega)
                          have hfl : ((lk.take j).filter (notN ss[k].fName)).length ≤ j := by
                            have h1 := List.length_filter_le (notN ss[k].fName) (lk.take j)
                            have h2 := List.length_take_le j lk
                            omega
                          cases hc6 : (lk[j].fName.toList == ss[k].fName.toList)
                          · have hc6' : (lk[j].fName.toList != ss[k].fName.toList) = true := by rw [bne, hc6]; rfl
                            go_wp2_with (first
                              | ((with_reducible refine at_dst (N := 73) rfl ?_); refine ev_loadR rfl 52 _ rfl _ rfl [.string lk[j].fName, .string lk[j].fURL] ((TSl.rows (l_w3.out.below L3_B.out) (by decide) Ty52.len).el (j := j) (row := lk[j].cells) (by simp [hlt_j])) _ Try.underlying52 rfl tsz52 ?_)
                              | ((with_reducible refine at_dst (N := 14) rfl ?_); refine ev_alloc rfl 52 rfl _ _ tz52 ?_; intro g14 w34 hg hB hb
                                 have nr_o12_g14 := own_fresh' L3_o12.out hg
                                 have low_g14 := Nat.le_trans L3_B.out.size hg
                                 have o12_w34 := Lib.hid (own_below L3_o12.out hb)
                                 have B_w34 := Lib.hid (below_trans L3_B.out hb)
                                 have g14_w34 : Hid (Blk w34 g14 52 #[.string ⟨#[]⟩, .string ⟨#[]⟩]) := hB
                                 clear hB hb)
                              | (refine ev_store rfl 52 _ _ rfl g14 _ _ rfl rfl 52 g14_w34.out tsz52 rfl rfl ?_; intro w35 hB hg hz
                                 have hx := GrX.grown (S := fun k => k = g14) hg rfl
                                 have o12_w35 := Lib.hid (own_grx o12_w34.out hx (fun k hk => (fun e => nr_o12_g14 (e ▸ hk))))
                                 have B_w35 := Lib.hid (below_grx B_w34.out hx B_w34.out.size (fun k => (fun e => e ▸ low_g14)))
                                 clear hx
                                 have g14_w35 : Hid (Blk w35 g14 52 #[.string lk[j].fName, .string lk[j].fURL]) := hB
                                 clear hB hg hz)
                              | ((with_reducible refine at_dst (N := 75) rfl ?_); refine ev_ld rfl 9 _ rfl ⟨g14, 0, none⟩ rfl (.string lk[j].fName) (g14_w35.out.cell 0) _ Try.underlying9 rfl ?_)
                              | ((with_reducible refine at_dst (N := 77) rfl ?_); refine ev_ld rfl 9 _ rfl ⟨g6, 2, none⟩ rfl (.string ss[k].fName) ((Lib.hid (g6_w3.out.below B_w35.out)).out.cell 2) _ Try.underlying9 rfl ?_)
                              | ((with_reducible refine at_dst (N := 80) rfl ?_); refine ev_loadB rfl 52 _ rfl g14 rfl 52 _ g14_w35.out _ Try.underlying52 rfl tsz52 ?_)
                              | ((with_reducible refine at_dst (N := 81) rfl ?_); refine ev_bs rfl 48 52 1 _ rfl #[.string lk[j].fName, .string lk[j].fURL] (by go_simp) ?_; intro g81 w36 hg hB hb
                                 have nr_o12_g81 := own_fresh' o12_w35.out hg
                                 have n_g14_g81 : g14 ≠ g81 := by have := g14_w35.out.lt; omega
                                 have low_g81 := Nat.le_trans B_w35.out.size hg
                                 have o12_w36 := Lib.hid (own_below o12_w35.out hb)
                                 have g14_w36 := Lib.hid (g14_w35.out.below hb)
                                 have B_w36 := Lib.hid (below_trans B_w35.out hb)
                                 have g81_w36 : Hid (Blk w36 g81 52 #[.string lk[j].fName, .string lk[j].fURL]) := hB
                                 clear hB hb)
                              | ((with_reducible refine at_dst (N := 82) rfl ?_); refine ev_app rfl _ _ 48 52 rfl Try.underlying48 _ 2 _ tin52 rfl (by omega) w3.heap.size _ _ _ rfl o12_w36.out _ 1 _ [.string lk[j].fName, .string lk[j].fURL] rfl (g81_w36.out.sl (by simp)) rfl (by simp [Value.oneCell']) (by omega) (by omega) B_w36.out.size ?_; intro v82_w37 w37 ho1 hg1 hat1
                                 have hx := GrX.row (S := fun k => (u12 : Value).ownBlock = some k) hg1 (fun g h => h)
                                 have g14_w37 := Lib.hid (g14_w36.out.grx hx nr_o12_g14)
                                 have B_w37 := Lib.hid (below_grx B_w36.out hx B_w36.out.size (fun k => (fun e => own_ge o12_w36.out k e)))
                                 obtain ⟨A82_w37, c82_w37, rfl, _⟩ := own_form ho1
                                 have o12_w37 := Lib.hid ho1
                                 have nr_o12_g14 := nr_app nr_o12_g14 hat1 g14_w36.out.lt
                                 clear ho1 hg1 hat1 hx))
                            have hnm : notN ss[k].fName lk[j] = true := by simp only [notN, sameN, hc6, Bool.not_false]
                            refine ⟨⟨j + 1, (by omega), by go_num, (by show World.ownsRow _ _ _ _ _ _ _; rw [filter_take hlt_j, hnm, if_pos rfl, List.length_append, flatC_snoc]; exact o12_w37.out), B_w37⟩, ?_⟩
                            simp [intOf]; omega
                          · have hc6' : (lk[j].fName.toList != ss[k].fName.toList) = false := by rw [bne, hc6]; rfl
                            go_wp2_with (first
                              | ((with_reducible refine at_dst (N := 73) rfl ?_); refine ev_loadR rfl 52 _ rfl _ rfl [.string lk[j].fName, .string lk[j].fURL] ((TSl.rows (l_w3.out.below L3_B.out) (by decide) Ty52.len).el (j := j) (row := lk[j].cells) (by simp [hlt_j])) _ Try.underlying52 rfl tsz52 ?_)
                              | ((with_reducible refine at_dst (N := 14) rfl ?_); refine ev_alloc rfl 52 rfl _ _ tz52 ?_; intro g14 w34 hg hB hb
                                 have nr_o12_g14 := own_fresh' L3_o12.out hg
                                 have low_g14 := Nat.le_trans L3_B.out.size hg
                                 have o12_w34 := Lib.hid (own_below L3_o12.out hb)
                                 have B_w34 := Lib.hid (below_trans L3_B.out hb)
                                 have g14_w34 : Hid (Blk w34 g14 52 #[.string ⟨#[]⟩, .string ⟨#[]⟩]) := hB
                                 clear hB hb)
                              | (refine ev_store rfl 52 _ _ rfl g14 _ _ rfl rfl 52 g14_w34.out tsz52 rfl rfl ?_; intro w35 hB hg hz
                                 have hx := GrX.grown (S := fun k => k = g14) hg rfl
                                 have o12_w35 := Lib.hid (own_grx o12_w34.out hx (fun k hk => (fun e => nr_o12_g14 (e ▸ hk))))
                                 have B_w35 := Lib.hid (below_grx B_w34.out hx B_w34.out.size (fun k => (fun e => e ▸ low_g14)))
                                 clear hx
                                 have g14_w35 : Hid (Blk w35 g14 52 #[.string lk[j].fName, .string lk[j].fURL]) := hB
                                 clear hB hg hz)
                              | ((with_reducible refine at_dst (N := 75) rfl ?_); refine ev_ld rfl 9 _ rfl ⟨g14, 0, none⟩ rfl (.string lk[j].fName) (g14_w35.out.cell 0) _ Try.underlying9 rfl ?_)
                              | ((with_reducible refine at_dst (N := 77) rfl ?_); refine ev_ld rfl 9 _ rfl ⟨g6, 2, none⟩ rfl (.string ss[k].fName) ((Lib.hid (g6_w3.out.below B_w35.out)).out.cell 2) _ Try.underlying9 rfl ?_))
                            have hnm : notN ss[k].fName lk[j] = false := by simp only [notN, sameN, hc6, Bool.not_true]
                            refine ⟨⟨j + 1, (by omega), by go_num, (by show World.ownsRow _ _ _ _ _ _ _; rw [filter_take hlt_j, hnm, if_neg (by decide), List.append_nil]; exact o12_w35.out), B_w35⟩, ?_⟩
                            simp [intOf]; omega
                        · obtain rfl : j = lk.length := by omega
                          have l_u3 := Lib.hid (l_w3.out.below L3_B.out)
                          have o4_u3 := Lib.hid (own_below o4_w3.out L3_B.out)
                          have dz_u3 := Lib.hid (DonesOk.below dz_w3.out L3_B.out)
                          have g6_u3 := Lib.hid (g6_w3.out.below L3_B.out)
                          have g9_u3 := Lib.hid (g9_w3.out.below L3_B.out)
                          have o12_u3 := Lib.hid (own_mono L3_o12.out B_w3.out.size)
                          have B_u3 := Lib.hid (below_trans B_w3.out L3_B.out)
                          rw [List.take_length] at o12_u3
                          obtain ⟨A12, c12, e12, _⟩ := own_form o12_u3.out
                          subst e12
                          have hfl := List.length_filter_le (notN ss[k].fName) lk
                          go_wp2_with (first
                            | (refine ev_store1 rfl 4 _ _ rfl g9 0 _ rfl (.bool true) rfl 58 g9_u3.out tsz4 (by simp) rfl rfl ?_; intro w5 hB hg hz
                               have hx := GrX.grown (S := fun k => k = g9) hg rfl
                               have l_w5 := Lib.hid (TSl.ap (T := [52]) l_u3.out hx (SApart.blk g9_u3.out (by decide)) (by simp))
                               have o4_w5 := Lib.hid (own_grx o4_u3.out hx (fun k hk => (fun e => nr_o4_g9 (e ▸ hk))))
                               have dz_w5 := Lib.hid (DonesOk.ap dz_u3.out hx (SApart.blk g9_u3.out (by decide)))
                               have g6_w5 := Lib.hid (g6_u3.out.grx hx (fun e => n_g6_g9 e))
                               have o12_w5 := Lib.hid (own_grx o12_u3.out hx (fun k hk => (fun e => own_ne o12_u3.out g9_u3.out (by decide) (e ▸ hk))))
                               have B_w5 := Lib.hid (below_grx B_u3.out hx B_u3.out.size (fun k => (fun e => e ▸ low_g9)))
                               clear hx
                               have g9_w5 : Hid (Blk w5 g9 58 #[.bool true, .slice none 0 0]) := hB
                               clear hB hg hz)
                            | (refine ev_store1 rfl 48 _ _ rfl g9 1 _ rfl (.slice A12 (lk.filter (notN ss[k].fName)).length c12) rfl 58 g9_w5.out tsz48 (by simp) rfl rfl ?_; intro w6 hB hg hz
                               have hx := GrX.grown (S := fun k => k = g9) hg rfl
                               have l_w6 := Lib.hid (TSl.ap (T := [52]) l_w5.out hx (SApart.blk g9_w5.out (by decide)) (by simp))
                               have o4_w6 := Lib.hid (own_grx o4_w5.out hx (fun k hk => (fun e => nr_o4_g9 (e ▸ hk))))
                               have dz_w6 := Lib.hid (DonesOk.ap dz_w5.out hx (SApart.blk g9_w5.out (by decide)))
                               have g6_w6 := Lib.hid (g6_w5.out.grx hx (fun e => n_g6_g9 e))
                               have o12_w6 := Lib.hid (own_grx o12_w5.out hx (fun k hk => (fun e => own_ne o12_w5.out g9_w5.out (by decide) (e ▸ hk))))
                               have B_w6 := Lib.hid (below_grx B_w5.out hx B_w5.out.size (fun k => (fun e => e ▸ low_g9)))
                               clear hx
                               have g9_w6 : Hid (Blk w6 g9 58 #[.bool true, .slice A12 (lk.filter (notN ss[k].fName)).length c12]) := hB
                               clear hB hg hz)
                            | ((with_reducible refine at_dst (N := 91) rfl ?_); refine ev_ld rfl 3 _ rfl ⟨g6, 0, none⟩ rfl (.int .i64 ss[k].fOp) (g6_w6.out.cell 0) _ Try.underlying3 rfl ?_)
                            | ((with_reducible refine at_dst (N := 103) rfl ?_); refine ev_loadB rfl 58 _ rfl g9 rfl 58 _ g9_w6.out _ Try.underlying58 rfl tsz58 ?_)
                            | ((with_reducible refine at_dst (N := 104) rfl ?_); refine ev_bs rfl 53 58 1 _ rfl #[.bool true, .slice A12 (lk.filter (notN ss[k].fName)).length c12] (by go_simp) ?_; intro g104 w7 hg hB hb
                               have nr_o4_g104 := own_fresh' o4_w6.out hg
                               have n_g6_g104 : g6 ≠ g104 := by have := g6_w6.out.lt; omega
                               have n_g9_g104 : g9 ≠ g104 := by have := g9_w6.out.lt; omega
                               have low_g104 := Nat.le_trans B_w6.out.size hg
                               have l_w7 := Lib.hid (l_w6.out.below hb)
                               have o4_w7 := Lib.hid (own_below o4_w6.out hb)
                               have dz_w7 := Lib.hid (DonesOk.below dz_w6.out hb)
                               have g6_w7 := Lib.hid (g6_w6.out.below hb)
                               have g9_w7 := Lib.hid (g9_w6.out.below hb)
                               have o12_w7 := Lib.hid (own_below o12_w6.out hb)
                               have B_w7 := Lib.hid (below_trans B_w6.out hb)
                               have g104_w7 : Hid (Blk w7 g104 58 #[.bool true, .slice A12 (lk.filter (notN ss[k].fName)).length c12]) := hB
                               clear hB hb)
                            | ((with_reducible refine at_dst (N := 105) rfl ?_); refine ev_app rfl _ _ 53 58 rfl Try.underlying53 _ 2 _ tin58 rfl (by omega) w.heap.size _ _ _ rfl o4_w7.out _ 1 _ [.bool true, .slice A12 (lk.filter (notN ss[k].fName)).length c12] rfl (g104_w7.out.sl (by simp)) rfl (by simp [Value.oneCell']) (by omega) (by omega) B_w7.out.size ?_; intro v105_w8 w8 ho1 hg1 hat1
                               have hx := GrX.row (S := fun k => (u4 : Value).ownBlock = some k) hg1 (fun g h => h)
                               have l_w8 := Lib.hid (TSl.ap (T := [52]) l_w7.out hx (SApart.own o4_w7.out (by decide)) (by simp))
                               have dz_w8 := Lib.hid (DonesOk.ap dz_w7.out hx (SApart.own o4_w7.out (by decide)))
                               have g6_w8 := Lib.hid (g6_w7.out.grx hx (own_ne o4_w7.out g6_w7.out (by decide)))
                               have g9_w8 := Lib.hid (g9_w7.out.grx hx nr_o4_g9)
                               have o12_w8 := Lib.hid (own_grx o12_w7.out hx (fun k hk => (fun e => own_apart o12_w7.out o4_w7.out (by decide) k e hk)))
                               have B_w8 := Lib.hid (below_grx B_w7.out hx B_w7.out.size (fun k => (fun e => own_ge o4_w7.out k e)))
                               obtain ⟨A105_w8, c105_w8, rfl, _⟩ := own_form ho1
                               have o4_w8 := Lib.hid ho1
                               have nr_o4_g9 := nr_app nr_o4_g9 hat1 g9_w7.out.lt
                               clear ho1 hg1 hat1 hx))
                          have hany := HANY.out
                          have hfind := HFIND.out
                          have hL : stepL lk ss[k] = lk.filter (notN ss[k].fName) := by simp [stepL, *]
                          have hT : stepT lk ss[k] = stepL lk ss[k] := by simp [stepT, *]
                          have hI : stepIs lk ss[k] = true := by simp [stepIs, *]
                          refine ⟨⟨k + 1, (stepL lk ss[k]), A12, c12, zs ++ [⟨stepIs lk ss[k], A12, c12, stepT lk ss[k]⟩], (by omega), (by rw [hL]; exact own_cap o12_w8.out), by rw [hL], by go_num, (by show TSl _ _ _ _; rw [hL]; exact (own_tslN (sz := 2) o12_w8.out (by decide) (by first | omega | (simp; omega)))), (by show _ = _; rw [state_take hlt_k, ← L0_st.out]), (by show World.ownsRow _ _ _ _ _ _ _; rw [flatC_snoc]; simp only [Ty58.cells, hI, hT, hL]; exact o4_w8.out), (DonesOk.snoc dz_w8.out (by rw [hT, hL]; exact (own_tslN (sz := 2) o12_w8.out (by decide) (by first | omega | (simp; omega))))), (by show _ = _; rw [List.map_append, L0_hz.out, dones_take hlt_k, ← L0_st.out]; rfl), B_w8⟩, ?_⟩
                          simp [intOf]; omega
                  · have hc4' : ((ss[k].fOp : Int) != 3) = false := by rw [bne, hc4]; rfl
                    have o_hc4 : ss[k].fOp = 3 := by simpa using hc4
                    go_wp2_with (first
                      | ((with_reducible refine at_dst (N := 9) rfl ?_); refine ev_alloc rfl 58 rfl _ _ tz58 ?_; intro g9 w3 hg hB hb
                         have nr_o4_g9 := own_fresh' L1_o4.out hg
                         have n_g6_g9 : g6 ≠ g9 := by have := L1_g6.out.lt; omega
                         have low_g9 := Nat.le_trans L1_B.out.size hg
                         have l_w3 := Lib.hid (L1_l.out.below hb)
                         have o4_w3 := Lib.hid (own_below L1_o4.out hb)
                         have dz_w3 := Lib.hid (DonesOk.below L1_dz.out hb)
                         have g6_w3 := Lib.hid (L1_g6.out.below hb)
                         have B_w3 := Lib.hid (below_trans L1_B.out hb)
                         have g9_w3 : Hid (Blk w3 g9 58 #[.bool false, .slice none 0 0]) := hB
                         clear hB hb)
                      | ((with_reducible refine at_dst (N := 38) rfl ?_); refine ev_ld rfl 3 _ rfl ⟨g6, 0, none⟩ rfl (.int .i64 ss[k].fOp) (g6_w3.out.cell 0) _ Try.underlying3 rfl ?_)
                      | (refine ev_store1 rfl 4 _ _ rfl g9 0 _ rfl (.bool true) rfl 58 g9_w3.out tsz4 (by simp) rfl rfl ?_; intro w4 hB hg hz
                         have hx := GrX.grown (S := fun k => k = g9) hg rfl
                         have l_w4 := Lib.hid (TSl.ap (T := [52]) l_w3.out hx (SApart.blk g9_w3.out (by decide)) (by simp))
                         have o4_w4 := Lib.hid (own_grx o4_w3.out hx (fun k hk => (fun e => nr_o4_g9 (e ▸ hk))))
                         have dz_w4 := Lib.hid (DonesOk.ap dz_w3.out hx (SApart.blk g9_w3.out (by decide)))
                         have g6_w4 := Lib.hid (g6_w3.out.grx hx (fun e => n_g6_g9 e))
                         have B_w4 := Lib.hid (below_grx B_w3.out hx B_w3.out.size (fun k => (fun e => e ▸ low_g9)))
                         clear hx
                         have g9_w4 : Hid (Blk w4 g9 58 #[.bool true, .slice none 0 0]) := hB
                         clear hB hg hz)
                      | (refine ev_store1 rfl 48 _ _ rfl g9 1 _ rfl (.slice A3 lk.length c3) rfl 58 g9_w4.out tsz48 (by simp) rfl rfl ?_; intro w5 hB hg hz
                         have hx := GrX.grown (S := fun k => k = g9) hg rfl
                         have l_w5 := Lib.hid (TSl.ap (T := [52]) l_w4.out hx (SApart.blk g9_w4.out (by decide)) (by simp))
                         have o4_w5 := Lib.hid (own_grx o4_w4.out hx (fun k hk => (fun e => nr_o4_g9 (e ▸ hk))))
                         have dz_w5 := Lib.hid (DonesOk.ap dz_w4.out hx (SApart.blk g9_w4.out (by decide)))
                         have g6_w5 := Lib.hid (g6_w4.out.grx hx (fun e => n_g6_g9 e))
                         have B_w5 := Lib.hid (below_grx B_w4.out hx B_w4.out.size (fun k => (fun e => e ▸ low_g9)))
                         clear hx
                         have g9_w5 : Hid (Blk w5 g9 58 #[.bool true, .slice A3 lk.length c3]) := hB
                         clear hB hg hz)
                      | ((with_reducible refine at_dst (N := 91) rfl ?_); refine ev_ld rfl 3 _ rfl ⟨g6, 0, none⟩ rfl (.int .i64 ss[k].fOp) (g6_w5.out.cell 0) _ Try.underlying3 rfl ?_)
                      | (refine ev_store1 rfl 48 _ _ rfl g9 1 _ rfl (.slice none 0 0) rfl 58 g9_w5.out tsz48 (by simp) rfl rfl ?_; intro w6 hB hg hz
                         have hx := GrX.grown (S := fun k => k = g9) hg rfl
                         have l_w6 := Lib.hid (TSl.ap (T := [52]) l_w5.out hx (SApart.blk g9_w5.out (by decide)) (by simp))
                         have o4_w6 := Lib.hid (own_grx o4_w5.out hx (fun k hk => (fun e => nr_o4_g9 (e ▸ hk))))
                         have dz_w6 := Lib.hid (DonesOk.ap dz_w5.out hx (SApart.blk g9_w5.out (by decide)))
                         have g6_w6 := Lib.hid (g6_w5.out.grx hx (fun e => n_g6_g9 e))
                         have B_w6 := Lib.hid (below_grx B_w5.out hx B_w5.out.size (fun k => (fun e => e ▸ low_g9)))
                         clear hx
                         have g9_w6 : Hid (Blk w6 g9 58 #[.bool true, .slice none 0 0]) := hB
                         clear hB hg hz)
                      | ((with_reducible refine at_dst (N := 100) rfl ?_); refine ev_slice_lh rfl 48 52 _ _ _ rfl Try.underlying48 2 tsz52 A3 lk.length c3 q (q + 1) rfl rfl (by first | rfl | go_num) (by omega) (by omega) 1 (by omega) ?_)
                      | (refine ev_store1 rfl 48 _ _ rfl g9 1 _ rfl (.slice (subA A3 q 2 c3) 1 (c3 - q)) rfl 58 g9_w6.out tsz48 (by simp) rfl rfl ?_; intro w7 hB hg hz
                         have hx := GrX.grown (S := fun k => k = g9) hg rfl
                         have l_w7 := Lib.hid (TSl.ap (T := [52]) l_w6.out hx (SApart.blk g9_w6.out (by decide)) (by simp))
                         have o4_w7 := Lib.hid (own_grx o4_w6.out hx (fun k hk => (fun e => nr_o4_g9 (e ▸ hk))))
                         have dz_w7 := Lib.hid (DonesOk.ap dz_w6.out hx (SApart.blk g9_w6.out (by decide)))
                         have g6_w7 := Lib.hid (g6_w6.out.grx hx (fun e => n_g6_g9 e))
                         have B_w7 := Lib.hid (below_grx B_w6.out hx B_w6.out.size (fun k => (fun e => e ▸ low_g9)))
                         clear hx
                         have g9_w7 : Hid (Blk w7 g9 58 #[.bool true, .slice (subA A3 q 2 c3) 1 (c3 - q)]) := hB
                         clear hB hg hz)
                      | ((with_reducible refine at_dst (N := 103) rfl ?_); refine ev_loadB rfl 58 _ rfl g9 rfl 58 _ g9_w7.out _ Try.underlying58 rfl tsz58 ?_)
                      | ((with_reducible refine at_dst (N := 104) rfl ?_); refine ev_bs rfl 53 58 1 _ rfl #[.bool true, .slice (subA A3 q 2 c3) 1 (c3 - q)] (by go_simp) ?_; intro g104 w8 hg hB hb
                         have nr_o4_g104 := own_fresh' o4_w7.out hg
                         have n_g6_g104 : g6 ≠ g104 := by have := g6_w7.out.lt; omega
                         have n_g9_g104 : g9 ≠ g104 := by have := g9_w7.out.lt; omega
                         have low_g104 := Nat.le_trans B_w7.out.size hg
                         have l_w8 := Lib.hid (l_w7.out.below hb)
                         have o4_w8 := Lib.hid (own_below o4_w7.out hb)
                         have dz_w8 := Lib.hid (DonesOk.below dz_w7.out hb)
                         have g6_w8 := Lib.hid (g6_w7.out.below hb)
                         have g9_w8 := Lib.hid (g9_w7.out.below hb)
                         have B_w8 := Lib.hid (below_trans B_w7.out hb)
                         have g104_w8 : Hid (Blk w8 g104 58 #[.bool true, .slice (subA A3 q 2 c3) 1 (c3 - q)]) := hB
                         clear hB hb)
                      | ((with_reducible refine at_dst (N := 105) rfl ?_); refine ev_app rfl _ _ 53 58 rfl Try.underlying53 _ 2 _ tin58 rfl (by omega) w.heap.size _ _ _ rfl o4_w8.out _ 1 _ [.bool true, .slice (subA A3 q 2 c3) 1 (c3 - q)] rfl (g104_w8.out.sl (by simp)) rfl (by simp [Value.oneCell']) (by omega) (by omega) B_w8.out.size ?_; intro v105_w9 w9 ho1 hg1 hat1
                         have hx := GrX.row (S := fun k => (u4 : Value).ownBlock = some k) hg1 (fun g h => h)
                         have l_w9 := Lib.hid (TSl.ap (T := [52]) l_w8.out hx (SApart.own o4_w8.out (by decide)) (by simp))
                         have dz_w9 := Lib.hid (DonesOk.ap dz_w8.out hx (SApart.own o4_w8.out (by decide)))
                         have g6_w9 := Lib.hid (g6_w8.out.grx hx (own_ne o4_w8.out g6_w8.out (by decide)))
                         have g9_w9 := Lib.hid (g9_w8.out.grx hx nr_o4_g9)
                         have B_w9 := Lib.hid (below_grx B_w8.out hx B_w8.out.size (fun k => (fun e => own_ge o4_w8.out k e)))
                         obtain ⟨A105_w9, c105_w9, rfl, _⟩ := own_form ho1
                         have o4_w9 := Lib.hid ho1
                         have nr_o4_g9 := nr_app nr_o4_g9 hat1 g9_w8.out.lt
                         clear ho1 hg1 hat1 hx))
                    have hany := HANY.out
                    have hfind := HFIND.out
                    have hL : stepL lk ss[k] = lk := by simp [stepL, *]
                    have hT : stepT lk ss[k] = [lk[q]] := by simp [stepT, *]
                    have hI : stepIs lk ss[k] = true := by simp [stepIs, *]
                    have SUBT : TSl w9 (subA A3 q 2 c3) 52 (flatC Ty52.cells [lk[q]]) := by have h0 := TSl.subT (c := c3) (p := q) (m := 1) l_w9.out Ty52.len (.inr (by omega)); rwa [drop_take1 hq] at h0
                    refine ⟨⟨k + 1, (stepL lk ss[k]), A3, c3, zs ++ [⟨stepIs lk ss[k], (subA A3 q 2 c3), (c3 - q), stepT lk ss[k]⟩], (by omega), (by rw [hL]; exact hcl), by rw [hL], by go_num, (by show TSl _ _ _ _; rw [hL]; exact l_w9.out), (by show _ = _; rw [state_take hlt_k, ← L0_st.out]), (by show World.ownsRow _ _ _ _ _ _ _; rw [flatC_snoc]; simp only [Ty58.cells, hI, hT]; exact o4_w9.out), (DonesOk.snoc dz_w9.out (by rw [hT]; exact SUBT)), (by show _ = _; rw [List.map_append, L0_hz.out, dones_take hlt_k, ← L0_st.out]; rfl), B_w9⟩, ?_⟩
                    simp [intOf]; omega
                · have hc3' : ((ss[k].fOp : Int) != 2) = false := by rw [bne, hc3]; rfl
                  have o_hc3 : ss[k].fOp = 2 := by simpa using hc3
                  go_wp2_with (first
                    | ((with_reducible refine at_dst (N := 9) rfl ?_); refine ev_alloc rfl 58 rfl _ _ tz58 ?_; intro g9 w3 hg hB hb
                       have nr_o4_g9 := own_fresh' L1_o4.out hg
                       have n_g6_g9 : g6 ≠ g9 := by have := L1_g6.out.lt; omega
                       have low_g9 := Nat.le_trans L1_B.out.size hg
                       have l_w3 := Lib.hid (L1_l.out.below hb)
                       have o4_w3 := Lib.hid (own_below L1_o4.out hb)
                       have dz_w3 := Lib.hid (DonesOk.below L1_dz.out hb)
                       have g6_w3 := Lib.hid (L1_g6.out.below hb)
                       have B_w3 := Lib.hid (below_trans L1_B.out hb)
                       have g9_w3 : Hid (Blk w3 g9 58 #[.bool false, .slice none 0 0]) := hB
                       clear hB hb)
                    | ((with_reducible refine at_dst (N := 38) rfl ?_); refine ev_ld rfl 3 _ rfl ⟨g6, 0, none⟩ rfl (.int .i64 ss[k].fOp) (g6_w3.out.cell 0) _ Try.underlying3 rfl ?_)
                    | (refine ev_store1 rfl 4 _ _ rfl g9 0 _ rfl (.bool true) rfl 58 g9_w3.out tsz4 (by simp) rfl rfl ?_; intro w4 hB hg hz
                       have hx := GrX.grown (S := fun k => k = g9) hg rfl
                       have l_w4 := Lib.hid (TSl.ap (T := [52]) l_w3.out hx (SApart.blk g9_w3.out (by decide)) (by simp))
                       have o4_w4 := Lib.hid (own_grx o4_w3.out hx (fun k hk => (fun e => nr_o4_g9 (e ▸ hk))))
                       have dz_w4 := Lib.hid (DonesOk.ap dz_w3.out hx (SApart.blk g9_w3.out (by decide)))
                       have g6_w4 := Lib.hid (g6_w3.out.grx hx (fun e => n_g6_g9 e))
                       have B_w4 := Lib.hid (below_grx B_w3.out hx B_w3.out.size (fun k => (fun e => e ▸ low_g9)))
                       clear hx
                       have g9_w4 : Hid (Blk w4 g9 58 #[.bool true, .slice none 0 0]) := hB
                       clear hB hg hz)
                    | (refine ev_store1 rfl 48 _ _ rfl g9 1 _ rfl (.slice A3 lk.length c3) rfl 58 g9_w4.out tsz48 (by simp) rfl rfl ?_; intro w5 hB hg hz
                       have hx := GrX.grown (S := fun k => k = g9) hg rfl
                       have l_w5 := Lib.hid (TSl.ap (T := [52]) l_w4.out hx (SApart.blk g9_w4.out (by decide)) (by simp))
                       have o4_w5 := Lib.hid (own_grx o4_w4.out hx (fun k hk => (fun e => nr_o4_g9 (e ▸ hk))))
                       have dz_w5 := Lib.hid (DonesOk.ap dz_w4.out hx (SApart.blk g9_w4.out (by decide)))
                       have g6_w5 := Lib.hid (g6_w4.out.grx hx (fun e => n_g6_g9 e))
                       have B_w5 := Lib.hid (below_grx B_w4.out hx B_w4.out.size (fun k => (fun e => e ▸ low_g9)))
                       clear hx
                       have g9_w5 : Hid (Blk w5 g9 58 #[.bool true, .slice A3 lk.length c3]) := hB
                       clear hB hg hz)
                    | ((with_reducible refine at_dst (N := 91) rfl ?_); refine ev_ld rfl 3 _ rfl ⟨g6, 0, none⟩ rfl (.int .i64 ss[k].fOp) (g6_w5.out.cell 0) _ Try.underlying3 rfl ?_)
                    | ((with_reducible refine at_dst (N := 103) rfl ?_); refine ev_loadB rfl 58 _ rfl g9 rfl 58 _ g9_w5.out _ Try.underlying58 rfl tsz58 ?_)
                    | ((with_reducible refine at_dst (N := 104) rfl ?_); refine ev_bs rfl 53 58 1 _ rfl #[.bool true, .slice A3 lk.length c3] (by go_simp) ?_; intro g104 w6 hg hB hb
                       have nr_o4_g104 := own_fresh' o4_w5.out hg
                       have n_g6_g104 : g6 ≠ g104 := by have := g6_w5.out.lt; omega
                       have n_g9_g104 : g9 ≠ g104 := by have := g9_w5.out.lt; omega
                       have low_g104 := Nat.le_trans B_w5.out.size hg
                       have l_w6 := Lib.hid (l_w5.out.below hb)
                       have o4_w6 := Lib.hid (own_below o4_w5.out hb)
                       have dz_w6 := Lib.hid (DonesOk.below dz_w5.out hb)
                       have g6_w6 := Lib.hid (g6_w5.out.below hb)
                       have g9_w6 := Lib.hid (g9_w5.out.below hb)
                       have B_w6 := Lib.hid (below_trans B_w5.out hb)
                       have g104_w6 : Hid (Blk w6 g104 58 #[.bool true, .slice A3 lk.length c3]) := hB
                       clear hB hb)
                    | ((with_reducible refine at_dst (N := 105) rfl ?_); refine ev_app rfl _ _ 53 58 rfl Try.underlying53 _ 2 _ tin58 rfl (by omega) w.heap.size _ _ _ rfl o4_w6.out _ 1 _ [.bool true, .slice A3 lk.length c3] rfl (g104_w6.out.sl (by simp)) rfl (by simp [Value.oneCell']) (by omega) (by omega) B_w6.out.size ?_; intro v105_w7 w7 ho1 hg1 hat1
                       have hx := GrX.row (S := fun k => (u4 : Value).ownBlock = some k) hg1 (fun g h => h)
                       have l_w7 := Lib.hid (TSl.ap (T := [52]) l_w6.out hx (SApart.own o4_w6.out (by decide)) (by simp))
                       have dz_w7 := Lib.hid (DonesOk.ap dz_w6.out hx (SApart.own o4_w6.out (by decide)))
                       have g6_w7 := Lib.hid (g6_w6.out.grx hx (own_ne o4_w6.out g6_w6.out (by decide)))
                       have g9_w7 := Lib.hid (g9_w6.out.grx hx nr_o4_g9)
                       have B_w7 := Lib.hid (below_grx B_w6.out hx B_w6.out.size (fun k => (fun e => own_ge o4_w6.out k e)))
                       obtain ⟨A105_w7, c105_w7, rfl, _⟩ := own_form ho1
                       have o4_w7 := Lib.hid ho1
                       have nr_o4_g9 := nr_app nr_o4_g9 hat1 g9_w6.out.lt
                       clear ho1 hg1 hat1 hx))
                  have hany := HANY.out
                  have hfind := HFIND.out
                  have hL : stepL lk ss[k] = lk := by simp [stepL, *]
                  have hT : stepT lk ss[k] = stepL lk ss[k] := by simp [stepT, *]
                  have hI : stepIs lk ss[k] = true := by simp [stepIs, *]
                  refine ⟨⟨k + 1, (stepL lk ss[k]), A3, c3, zs ++ [⟨stepIs lk ss[k], A3, c3, stepT lk ss[k]⟩], (by omega), (by rw [hL]; exact hcl), by rw [hL], by go_num, (by show TSl _ _ _ _; rw [hL]; exact l_w7.out), (by show _ = _; rw [state_take hlt_k, ← L0_st.out]), (by show World.ownsRow _ _ _ _ _ _ _; rw [flatC_snoc]; simp only [Ty58.cells, hI, hT, hL]; exact o4_w7.out), (DonesOk.snoc dz_w7.out (by rw [hT, hL]; exact l_w7.out)), (by show _ = _; rw [List.map_append, L0_hz.out, dones_take hlt_k, ← L0_st.out]; rfl), B_w7⟩, ?_⟩
                  simp [intOf]; omega
              · have hc2' : ((ss[k].fOp : Int) != 1) = false := by rw [bne, hc2]; rfl
                have o_hc2 : ss[k].fOp = 1 := by simpa using hc2
                go_wp2_with (first
                  | ((with_reducible refine at_dst (N := 9) rfl ?_); refine ev_alloc rfl 58 rfl _ _ tz58 ?_; intro g9 w3 hg hB hb
                     have nr_o4_g9 := own_fresh' L1_o4.out hg
                     have n_g6_g9 : g6 ≠ g9 := by have := L1_g6.out.lt; omega
                     have low_g9 := Nat.le_trans L1_B.out.size hg
                     have l_w3 := Lib.hid (L1_l.out.below hb)
                     have o4_w3 := Lib.hid (own_below L1_o4.out hb)
                     have dz_w3 := Lib.hid (DonesOk.below L1_dz.out hb)
                     have g6_w3 := Lib.hid (L1_g6.out.below hb)
                     have B_w3 := Lib.hid (below_trans L1_B.out hb)
                     have g9_w3 : Hid (Blk w3 g9 58 #[.bool false, .slice none 0 0]) := hB
                     clear hB hb)
                  | ((with_reducible refine at_dst (N := 38) rfl ?_); refine ev_ld rfl 3 _ rfl ⟨g6, 0, none⟩ rfl (.int .i64 ss[k].fOp) (g6_w3.out.cell 0) _ Try.underlying3 rfl ?_)
                  | ((with_reducible refine at_dst (N := 50) rfl ?_); refine ev_ld rfl 48 _ rfl ⟨g6, 1, none⟩ rfl (.slice xa ss[k].fRepos.length ss[k].fRepos_c) (g6_w3.out.cell 1) _ Try.underlying48 rfl ?_))
                go_loopw [3, 52] (fun v3 v52 wr => ∃ j : Nat, ∃ A5 : Option Addr, ∃ c5 : Nat, (j ≤ ss[k].fRepos.length) ∧ (((ss[k].fRepos.take j).foldl updF lk).length ≤ c5) ∧ v3 = .slice A5 ((ss[k].fRepos.take j).foldl updF lk).length c5 ∧ v52 = .int .i64 (↑j) ∧ Hid (TSl wr A5 52 (flatC Ty52.cells ((ss[k].fRepos.take j).foldl updF lk))) ∧ Hid (World.ownsRow wr w.heap.size 58 2 u4 k (flatC Ty58.cells zs)) ∧ Hid (DonesOk zs wr) ∧ Hid (Blk wr g6 50 #[.int .i64 ss[k].fOp, .slice xa ss[k].fRepos.length ss[k].fRepos_c, .string ss[k].fName]) ∧ Hid (Blk wr g9 58 #[.bool false, .slice none 0 0]) ∧ Hid (TSl wr A3 52 (flatC Ty52.cells lk)) ∧ Hid (Below w.heap.size w wr)) (fun v3 v52 _ => ss[k].fRepos.length - (intOf v52).toNat)
                case atStart => exact ⟨0, A3, c3, (by omega), hcl, rfl, rfl, l_w3, o4_w3, dz_w3, g6_w3, g9_w3, l_w3, B_w3⟩
                case round =>
                  obtain ⟨j, A5, c5, hj, hcu, rfl, rfl, L2_lu, L2_o4, L2_dz, L2_g6, L2_g9, L2_l, L2_B⟩ := hrel
                  by_cases hlt_j : j < ss[k].fRepos.length
                  · obtain ⟨ad_j, rfl⟩ := (HXR.out.below L2_B.out).addr (by simp [strs, ptrs]; omega)
                    have hful := foldU_len (ss[k].fRepos.take j) lk
                    have htj : (ss[k].fRepos.take j).length ≤ j := List.length_take_le j _
                    go_wp2_with (first
                      | ((with_reducible refine at_dst (N := 55) rfl ?_); refine ev_loadR rfl 52 _ rfl _ rfl [.string (ss[k].fRepos[j].fName), .string (ss[k].fRepos[j].fURL)] ((HXR.out.below L2_B.out).el (j := j) (row := ss[k].fRepos[j].cells) (by simp [hlt_j])) _ Try.underlying52 rfl tsz52 ?_)
                      | ((with_reducible refine at_dst (N := 11) rfl ?_); refine ev_alloc rfl 52 rfl _ _ tz52 ?_; intro g11 w4 hg hB hb
                         have n_g6_g11 : g6 ≠ g11 := by have := L2_g6.out.lt; omega
                         have n_g9_g11 : g9 ≠ g11 := by have := L2_g9.out.lt; omega
                         have low_g11 := Nat.le_trans L2_B.out.size hg
                         have lo_g11 := hg
                         have bo_g11 := Lib.hid hb
                         have lu_w4 := Lib.hid (L2_lu.out.below hb)
                         have o4_w4 := Lib.hid (own_below L2_o4.out hb)
                         have dz_w4 := Lib.hid (DonesOk.below L2_dz.out hb)
                         have g6_w4 := Lib.hid (L2_g6.out.below hb)
                         have g9_w4 := Lib.hid (L2_g9.out.below hb)
                         have l_w4 := Lib.hid (L2_l.out.below hb)
                         have B_w4 := Lib.hid (below_trans L2_B.out hb)
                         have g11_w4 : Hid (Blk w4 g11 52 #[.string ⟨#[]⟩, .string ⟨#[]⟩]) := hB
                         clear hB hb)
                      | (refine ev_store rfl 52 _ _ rfl g11 _ _ rfl rfl 52 g11_w4.out tsz52 rfl rfl ?_; intro w5 hB hg hz
                         have hx := GrX.grown (S := fun k => k = g11) hg rfl
                         have bo_g11_w5 := Lib.hid (below_grown bo_g11.out hg bo_g11.out.size lo_g11)
                         have lu_w5 := Lib.hid (L2_lu.out.below bo_g11_w5.out)
                         have dz_w5 := Lib.hid (DonesOk.below L2_dz.out bo_g11_w5.out)
                         have l_w5 := Lib.hid (L2_l.out.below bo_g11_w5.out)
                         have o4_w5 := Lib.hid (own_grx o4_w4.out hx (fun k hk => (fun e => own_ne o4_w4.out g11_w4.out (by decide) (e ▸ hk))))
                         have g6_w5 := Lib.hid (g6_w4.out.grx hx (fun e => n_g6_g11 e))
                         have g9_w5 := Lib.hid (g9_w4.out.grx hx (fun e => n_g9_g11 e))
                         have B_w5 := Lib.hid (below_grx B_w4.out hx B_w4.out.size (fun k => (fun e => e ▸ low_g11)))
                         clear hx
                         have g11_w5 : Hid (Blk w5 g11 52 #[.string (ss[k].fRepos[j].fName), .string (ss[k].fRepos[j].fURL)]) := hB
                         clear hB hg hz)
                      | ((with_reducible refine at_dst (N := 57) rfl ?_); refine ev_loadB rfl 52 _ rfl g11 rfl 52 _ g11_w5.out _ Try.underlying52 rfl tsz52 ?_)
                      | (go_at_call 77; (with_reducible refine (hlUpd_any A5 c5 ((ss[k].fRepos.take j).foldl updF lk) (ss[k].fRepos[j]) _ (TSl.rows lu_w5.out (by decide) Ty52.len) (by first | omega | (simp; done) | (simp; omega))).mono ?_); rintro e w6 ⟨A258, c258, rfl, hp0_58, hb⟩
                         have lu_w6 := Lib.hid (lu_w5.out.below hb)
                         have o4_w6 := Lib.hid (own_below o4_w5.out hb)
                         have dz_w6 := Lib.hid (DonesOk.below dz_w5.out hb)
                         have g6_w6 := Lib.hid (g6_w5.out.below hb)
                         have g9_w6 := Lib.hid (g9_w5.out.below hb)
                         have l_w6 := Lib.hid (l_w5.out.below hb)
                         have g11_w6 := Lib.hid (g11_w5.out.below hb)
                         have B_w6 := Lib.hid (below_trans B_w5.out hb)
                         have hp0_58 := own_mono hp0_58 B_w5.out.size
                         have o58_0_w6 := Lib.hid hp0_58
                         clear hb hp0_58))
                    refine ⟨⟨j + 1, A258, c258, (by omega), (by rw [foldU_take hlt_j]; exact own_cap o58_0_w6.out), by rw [foldU_take hlt_j], by go_num, (by show TSl _ _ _ _; rw [foldU_take hlt_j]; exact (own_tslN (sz := 2) o58_0_w6.out (by decide) (by have := updF_len ((ss[k].fRepos.take j).foldl updF lk) ss[k].fRepos[j]; omega))), o4_w6, dz_w6, g6_w6, g9_w6, l_w6, B_w6⟩, ?_⟩
                    simp [intOf]; omega
                  · obtain rfl : j = ss[k].fRepos.length := by omega
                    rw [List.take_length] at L2_lu hcu
                    (try rw [List.take_length])
                    go_wp2_with (first
                      | (refine ev_store1 rfl 48 _ _ rfl g9 1 _ rfl (.slice A5 (ss[k].fRepos.foldl updF lk).length c5) rfl 58 L2_g9.out tsz48 (by simp) rfl rfl ?_; intro w4 hB hg hz
                         have hx := GrX.grown (S := fun k => k = g9) hg rfl
                         have lu_w4 := Lib.hid (TSl.ap (T := [52]) L2_lu.out hx (SApart.blk L2_g9.out (by decide)) (by simp))
                         have o4_w4 := Lib.hid (own_grx L2_o4.out hx (fun k hk => (fun e => nr_o4_g9 (e ▸ hk))))
                         have dz_w4 := Lib.hid (DonesOk.ap L2_dz.out hx (SApart.blk L2_g9.out (by decide)))
                         have g6_w4 := Lib.hid (L2_g6.out.grx hx (fun e => n_g6_g9 e))
                         have l_w4 := Lib.hid (TSl.ap (T := [52]) L2_l.out hx (SApart.blk L2_g9.out (by decide)) (by simp))
                         have B_w4 := Lib.hid (below_grx L2_B.out hx L2_B.out.size (fun k => (fun e => e ▸ low_g9)))
                         clear hx
                         have g9_w4 : Hid (Blk w4 g9 58 #[.bool false, .slice A5 (ss[k].fRepos.foldl updF lk).length c5]) := hB
                         clear hB hg hz)
                      | ((with_reducible refine at_dst (N := 91) rfl ?_); refine ev_ld rfl 3 _ rfl ⟨g6, 0, none⟩ rfl (.int .i64 ss[k].fOp) (g6_w4.out.cell 0) _ Try.underlying3 rfl ?_)
                      | ((with_reducible refine at_dst (N := 103) rfl ?_); refine ev_loadB rfl 58 _ rfl g9 rfl 58 _ g9_w4.out _ Try.underlying58 rfl tsz58 ?_)
                      | ((with_reducible refine at_dst (N := 104) rfl ?_); refine ev_bs rfl 53 58 1 _ rfl #[.bool false, .slice A5 (ss[k].fRepos.foldl updF lk).length c5] (by go_simp) ?_; intro g104 w5 hg hB hb
                         have nr_o4_g104 := own_fresh' o4_w4.out hg
                         have n_g6_g104 : g6 ≠ g104 := by have := g6_w4.out.lt; omega
                         have n_g9_g104 : g9 ≠ g104 := by have := g9_w4.out.lt; omega
                         have low_g104 := Nat.le_trans B_w4.out.size hg
                         have lu_w5 := Lib.hid (lu_w4.out.below hb)
                         have o4_w5 := Lib.hid (own_below o4_w4.out hb)
                         have dz_w5 := Lib.hid (DonesOk.below dz_w4.out hb)
                         have g6_w5 := Lib.hid (g6_w4.out.below hb)
                         have g9_w5 := Lib.hid (g9_w4.out.below hb)
                         have l_w5 := Lib.hid (l_w4.out.below hb)
                         have B_w5 := Lib.hid (below_trans B_w4.out hb)
                         have g104_w5 : Hid (Blk w5 g104 58 #[.bool false, .slice A5 (ss[k].fRepos.foldl updF lk).length c5]) := hB
                         clear hB hb)
                      | ((with_reducible refine at_dst (N := 105) rfl ?_); refine ev_app rfl _ _ 53 58 rfl Try.underlying53 _ 2 _ tin58 rfl (by omega) w.heap.size _ _ _ rfl o4_w5.out _ 1 _ [.bool false, .slice A5 (ss[k].fRepos.foldl updF lk).length c5] rfl (g104_w5.out.sl (by simp)) rfl (by simp [Value.oneCell']) (by omega) (by omega) B_w5.out.size ?_; intro v105_w6 w6 ho1 hg1 hat1
                         have hx := GrX.row (S := fun k => (u4 : Value).ownBlock = some k) hg1 (fun g h => h)
                         have lu_w6 := Lib.hid (TSl.ap (T := [52]) lu_w5.out hx (SApart.own o4_w5.out (by decide)) (by simp))
                         have dz_w6 := Lib.hid (DonesOk.ap dz_w5.out hx (SApart.own o4_w5.out (by decide)))
                         have g6_w6 := Lib.hid (g6_w5.out.grx hx (own_ne o4_w5.out g6_w5.out (by decide)))
                         have g9_w6 := Lib.hid (g9_w5.out.grx hx nr_o4_g9)
                         have l_w6 := Lib.hid (TSl.ap (T := [52]) l_w5.out hx (SApart.own o4_w5.out (by decide)) (by simp))
                         have B_w6 := Lib.hid (below_grx B_w5.out hx B_w5.out.size (fun k => (fun e => own_ge o4_w5.out k e)))
                         obtain ⟨A105_w6, c105_w6, rfl, _⟩ := own_form ho1
                         have o4_w6 := Lib.hid ho1
                         have nr_o4_g9 := nr_app nr_o4_g9 hat1 g9_w5.out.lt
                         clear ho1 hg1 hat1 hx))
                    have hany := HANY.out
                    have hfind := HFIND.out
                    have hL : stepL lk ss[k] = ss[k].fRepos.foldl updF lk := by simp [stepL, *]
                    have hT : stepT lk ss[k] = stepL lk ss[k] := by simp [stepT, *]
                    have hI : stepIs lk ss[k] = false := by simp [stepIs, *]
                    refine ⟨⟨k + 1, (stepL lk ss[k]), A5, c5, zs ++ [⟨stepIs lk ss[k], A5, c5, stepT lk ss[k]⟩], (by omega), (by rw [hL]; exact hcu), by rw [hL], by go_num, (by show TSl _ _ _ _; rw [hL]; exact lu_w6.out), (by show _ = _; rw [state_take hlt_k, ← L0_st.out]), (by show World.ownsRow _ _ _ _ _ _ _; rw [flatC_snoc]; simp only [Ty58.cells, hI, hT, hL]; exact o4_w6.out), (DonesOk.snoc dz_w6.out (by rw [hT, hL]; exact lu_w6.out)), (by show _ = _; rw [List.map_append, L0_hz.out, dones_take hlt_k, ← L0_st.out]; rfl), B_w6⟩, ?_⟩
                    simp [intOf]; omega
            · have hc1' : ((ss[k].fOp : Int) != 0) = false := by rw [bne, hc1]; rfl
              have o_hc1 : ss[k].fOp = 0 := by simpa using hc1
              go_upto_region 15 with (first
                | ((with_reducible refine at_dst (N := 9) rfl ?_); refine ev_alloc rfl 58 rfl _ _ tz58 ?_; intro g9 w3 hg hB hb
                   have nr_o4_g9 := own_fresh' L1_o4.out hg
                   have n_g6_g9 : g6 ≠ g9 := by have := L1_g6.out.lt; omega
                   have low_g9 := Nat.le_trans L1_B.out.size hg
                   have l_w3 := Lib.hid (L1_l.out.below hb)
                   have o4_w3 := Lib.hid (own_below L1_o4.out hb)
                   have dz_w3 := Lib.hid (DonesOk.below L1_dz.out hb)
                   have g6_w3 := Lib.hid (L1_g6.out.below hb)
                   have B_w3 := Lib.hid (below_trans L1_B.out hb)
                   have g9_w3 : Hid (Blk w3 g9 58 #[.bool false, .slice none 0 0]) := hB
                   clear hB hb)
                | ((with_reducible refine at_dst (N := 38) rfl ?_); refine ev_ld rfl 3 _ rfl ⟨g6, 0, none⟩ rfl (.int .i64 ss[k].fOp) (g6_w3.out.cell 0) _ Try.underlying3 rfl ?_))
              refine wp_region_grow [some [], some [], some [(0, 41), (1, 42)], some [], some [(3, 44)], none, none]
                  [fun v w' => ∃ g, v = .slice (some ⟨g, 0, none⟩) 0 0 ∧ w3.heap.size ≤ g ∧ Blk w' g 52 #[],
                   fun vv _ => vv = .slice A3 lk.length c3,
                   fun v w' => w'.ownsRow w3.heap.size 52 2 v (lk.length) (flatC Ty52.cells lk),
                   fun vv _ => vv = .pointer (some ⟨g6, 1, none⟩),
                   fun vv _ => vv = .slice xa ss[k].fRepos.length ss[k].fRepos_c,
                   fun _ _ => True,
                   fun _ _ => True] 108 (by kernel_rfl) rfl rfl (by kernel_rfl) ?_ ?_ ?_
              · intro p hp
                simp only [List.mem_cons, List.not_mem_nil, or_false] at hp
                rcases hp with rfl | rfl | rfl | rfl | rfl | rfl | rfl
                · exact stab_blk (F := fun g => .slice (some ⟨g, 0, none⟩) 0 0)
                · exact stab_eq _
                · exact stab_own
                · exact stab_eq _
                · exact stab_eq _
                · exact stab_true
                · exact stab_true
              · simp only [oblGo, obl1, withDeps, oblK, postAt, List.getD_cons_zero, List.getD_cons_succ, forall_eq]
                refine ⟨?_, ?_, ?_, ?_, ?_, trivial⟩
                · intro wg hg
                  exact gr_bs 52 0 #[] (by go_simp) fun g w1 hg1 hB hb => ⟨g, rfl, Nat.le_trans hg.bel.size hg1, hB⟩
                · intro wg hg
                  go_simp
                · intro wg hg; rintro _ ⟨g41, rfl, lo_g41, hB_g41⟩
                  exact gr_app _ _ 48 52 rfl Try.underlying48 _ 2 _ tin52 rfl (by omega) g41 #[] rfl hB_g41 _ _ _ (flatC Ty52.cells lk) rfl (l_w3.out.below hg).sl (flatC_len Ty52.len) (flatC_one Ty52.one) (by omega) (by omega) w3.heap.size lo_g41 fun v' w' ho hg' => ho
                · intro wg hg
                  go_simp
                · intro wg hg
                  exact gr_ld 48 _ rfl ⟨g6, 1, none⟩ rfl (.slice xa ss[k].fRepos.length ss[k].fRepos_c) ((g6_w3.out.below hg).cell 1) _ Try.underlying48 rfl rfl
              simp only [headDs, withDeps, postAt, List.getD_cons_zero, List.getD_cons_succ, forall_eq, tailOps]
              intro w4 hgr
              rintro _ ⟨g41, rfl, lo_g41, hB_g41⟩
              rintro v43 ho43
              simp only [Act.put, List.setIfInBounds_toArray, List.set_cons_succ, List.set_cons_zero]
              have l_w4 := Lib.hid (l_w3.out.below (show Below _ _ _ from hgr))
              have o4_w4 := Lib.hid (own_below o4_w3.out (show Below _ _ _ from hgr))
              have dz_w4 := Lib.hid (DonesOk.below dz_w3.out (show Below _ _ _ from hgr))
              have g6_w4 := Lib.hid (g6_w3.out.below (show Below _ _ _ from hgr))
              have g9_w4 := Lib.hid (g9_w3.out.below (show Below _ _ _ from hgr))
              have B_w4 := Lib.hid (below_trans B_w3.out (show Below _ _ _ from hgr))
              obtain ⟨A43, c43, rfl, _⟩ := own_form ho43
              have bo_o43 := Lib.hid (show Below _ _ _ from hgr)
              have go_o43 := Lib.hid (own_ge ho43)
              have o43_w4 := Lib.hid (own_mono ho43 B_w3.out.size)
              clear ho43
              clear hgr
              go_wp2_with (first
                | ((with_reducible refine at_dst (N := 46) rfl ?_); refine ev_app rfl _ _ 48 52 rfl Try.underlying48 _ 2 _ tin52 rfl (by omega) w.heap.size _ _ _ rfl o43_w4.out _ ss[k].fRepos.length _ (flatC Ty52.cells ss[k].fRepos) rfl (Rows.flat (HXR.out.below B_w4.out) (by decide) Ty52.len (by omega)) (flatC_len Ty52.len) (flatC_one Ty52.one) (by omega) (by omega) B_w4.out.size ?_; intro v46_w5 w5 ho1 hg1 hat1
                   have hx := GrX.row (S := fun k => (.slice A43 lk.length c43 : Value).ownBlock = some k) hg1 (fun g h => h)
                   have nb_o43_w5 := Lib.hid (below_row bo_o43.out hg1 bo_o43.out.size go_o43.out)
                   have l_w5 := Lib.hid (l_w3.out.below nb_o43_w5.out)
                   have dz_w5 := Lib.hid (DonesOk.below dz_w3.out nb_o43_w5.out)
                   have o4_w5 := Lib.hid (own_grx o4_w4.out hx (fun k hk => (fun e => own_apart o4_w4.out o43_w4.out (by decide) k e hk)))
                   have g6_w5 := Lib.hid (g6_w4.out.grx hx (own_ne o43_w4.out g6_w4.out (by decide)))
                   have g9_w5 := Lib.hid (g9_w4.out.grx hx (own_ne o43_w4.out g9_w4.out (by decide)))
                   have B_w5 := Lib.hid (below_grx B_w4.out hx B_w4.out.size (fun k => (fun e => own_ge o43_w4.out k e)))
                   obtain ⟨A46_w5, c46_w5, rfl, _⟩ := own_form ho1
                   have o43_w5 := Lib.hid ho1
                   clear ho1 hg1 hat1 hx)
                | (refine ev_store1 rfl 48 _ _ rfl g9 1 _ rfl (.slice A46_w5 (lk.length + ss[k].fRepos.length) c46_w5) rfl 58 g9_w5.out tsz48 (by simp) rfl rfl ?_; intro w6 hB hg hz
                   have hx := GrX.grown (S := fun k => k = g9) hg rfl
                   have l_w6 := Lib.hid (TSl.ap (T := [52]) l_w5.out hx (SApart.blk g9_w5.out (by decide)) (by simp))
                   have o4_w6 := Lib.hid (own_grx o4_w5.out hx (fun k hk => (fun e => nr_o4_g9 (e ▸ hk))))
                   have dz_w6 := Lib.hid (DonesOk.ap dz_w5.out hx (SApart.blk g9_w5.out (by decide)))
                   have g6_w6 := Lib.hid (g6_w5.out.grx hx (fun e => n_g6_g9 e))
                   have o43_w6 := Lib.hid (own_grx o43_w5.out hx (fun k hk => (fun e => own_ne o43_w5.out g9_w5.out (by decide) (e ▸ hk))))
                   have B_w6 := Lib.hid (below_grx B_w5.out hx B_w5.out.size (fun k => (fun e => e ▸ low_g9)))
                   clear hx
                   have g9_w6 : Hid (Blk w6 g9 58 #[.bool false, .slice A46_w5 (lk.length + ss[k].fRepos.length) c46_w5]) := hB
                   clear hB hg hz)
                | ((with_reducible refine at_dst (N := 91) rfl ?_); refine ev_ld rfl 3 _ rfl ⟨g6, 0, none⟩ rfl (.int .i64 ss[k].fOp) (g6_w6.out.cell 0) _ Try.underlying3 rfl ?_)
                | ((with_reducible refine at_dst (N := 103) rfl ?_); refine ev_loadB rfl 58 _ rfl g9 rfl 58 _ g9_w6.out _ Try.underlying58 rfl tsz58 ?_)
                | ((with_reducible refine at_dst (N := 104) rfl ?_); refine ev_bs rfl 53 58 1 _ rfl #[.bool false, .slice A46_w5 (lk.length + ss[k].fRepos.length) c46_w5] (by go_simp) ?_; intro g104 w7 hg hB hb
                   have nr_o4_g104 := own_fresh' o4_w6.out hg
                   have n_g6_g104 : g6 ≠ g104 := by have := g6_w6.out.lt; omega
                   have n_g9_g104 : g9 ≠ g104 := by have := g9_w6.out.lt; omega
                   have low_g104 := Nat.le_trans B_w6.out.size hg
                   have l_w7 := Lib.hid (l_w6.out.below hb)
                   have o4_w7 := Lib.hid (own_below o4_w6.out hb)
                   have dz_w7 := Lib.hid (DonesOk.below dz_w6.out hb)
                   have g6_w7 := Lib.hid (g6_w6.out.below hb)
                   have g9_w7 := Lib.hid (g9_w6.out.below hb)
                   have o43_w7 := Lib.hid (own_below o43_w6.out hb)
                   have B_w7 := Lib.hid (below_trans B_w6.out hb)
                   have g104_w7 : Hid (Blk w7 g104 58 #[.bool false, .slice A46_w5 (lk.length + ss[k].fRepos.length) c46_w5]) := hB
                   clear hB hb)
                | ((with_reducible refine at_dst (N := 105) rfl ?_); refine ev_app rfl _ _ 53 58 rfl Try.underlying53 _ 2 _ tin58 rfl (by omega) w.heap.size _ _ _ rfl o4_w7.out _ 1 _ [.bool false, .slice A46_w5 (lk.length + ss[k].fRepos.length) c46_w5] rfl (g104_w7.out.sl (by simp)) rfl (by simp [Value.oneCell']) (by omega) (by omega) B_w7.out.size ?_; intro v105_w8 w8 ho1 hg1 hat1
                   have hx := GrX.row (S := fun k => (u4 : Value).ownBlock = some k) hg1 (fun g h => h)
                   have l_w8 := Lib.hid (TSl.ap (T := [52]) l_w7.out hx (SApart.own o4_w7.out (by decide)) (by simp))
                   have dz_w8 := Lib.hid (DonesOk.ap dz_w7.out hx (SApart.own o4_w7.out (by decide)))
                   have g6_w8 := Lib.hid (g6_w7.out.grx hx (own_ne o4_w7.out g6_w7.out (by decide)))
                   have g9_w8 := Lib.hid (g9_w7.out.grx hx nr_o4_g9)
                   have o43_w8 := Lib.hid (own_grx o43_w7.out hx (fun k hk => (fun e => own_apart o43_w7.out o4_w7.out (by decide) k e hk)))
                   have B_w8 := Lib.hid (below_grx B_w7.out hx B_w7.out.size (fun k => (fun e => own_ge o4_w7.out k e)))
                   obtain ⟨A105_w8, c105_w8, rfl, _⟩ := own_form ho1
                   have o4_w8 := Lib.hid ho1
                   have nr_o4_g9 := nr_app nr_o4_g9 hat1 g9_w7.out.lt
                   clear ho1 hg1 hat1 hx))
              have hany := HANY.out
              have hfind := HFIND.out
              have hL : stepL lk ss[k] = lk ++ ss[k].fRepos := by simp [stepL, *]
              have hT : stepT lk ss[k] = stepL lk ss[k] := by simp [stepT, *]
              have hI : stepIs lk ss[k] = false := by simp [stepIs, *]
              refine ⟨⟨k + 1, (stepL lk ss[k]), A46_w5, c46_w5, zs ++ [⟨stepIs lk ss[k], A46_w5, c46_w5, stepT lk ss[k]⟩], (by omega), (by rw [hL, List.length_append]; exact own_cap o43_w8.out), by rw [hL, List.length_append], by go_num, (by show TSl _ _ _ _; rw [hL]; exact (by rw [flatC_app]; exact (own_tslN (sz := 2) o43_w8.out (by decide) (by first | omega | (simp; omega))))), (by show _ = _; rw [state_take hlt_k, ← L0_st.out]), (by show World.ownsRow _ _ _ _ _ _ _; rw [flatC_snoc]; simp only [Ty58.cells, hI, hT, hL, List.length_append]; exact o4_w8.out), (DonesOk.snoc dz_w8.out (by rw [hT, hL]; exact (by rw [flatC_app]; exact (own_tslN (sz := 2) o43_w8.out (by decide) (by first | omega | (simp; omega)))))), (by show _ = _; rw [List.map_append, L0_hz.out, dones_take hlt_k, ← L0_st.out]; rfl), B_w8⟩, ?_⟩
              simp [intOf]; omega
    · obtain rfl : k = ss.length := by omega
      rw [List.take_length] at L0_hz
      obtain ⟨A2, c2, e2, _⟩ := own_form L0_o4.out
      subst e2
      go_wp2_with fail
      go_ret
      exact HQ.out _ _ ⟨A2, c2, zs, rfl, L0_o4.out, L0_dz.out, L0_hz.out, L0_B.out⟩
end Go.Proofs.Ytkjcedlgljeoiaa
