/- Contracts: ValidateDependency, ChSameDependency of the same. -/
import Derived.Test.YtdgblfldbikneaaA10
import Derived.Test.YtdgblfldbikneaaGx
namespace Go.Proofs.Ytdgblfldbikneaa
open Go.RowKit Go.Lib
set_option linter.unusedVariables false
set_option linter.unusedSimpArgs false
theorem catch94 (x0 x1 x2 : Nat) (w : World) :
    CallsD Try.prog 94 #[.pointer (some ⟨x0, 0, none⟩), .pointer (some ⟨x1, 0, none⟩), .pointer (some ⟨x2, 0, none⟩)] .returning w fun e u' w' => e = .returned (.tuple #[]) ∧ u' = .returning ∧ w' = w := by
  refine callsD_of_wpS Try.func94 rfl fun c₀ cs hu => ?_
  apply wpS_seq
  apply wpS_region
  simp [wpOpsS, go_sem, recoverD, hu, Try.ntmps94, Exit.thenS]
  refine wpS_cond (t := false) (by simp [Act.eval, Array.replicate]) ?_
  simp only [Bool.false_eq_true, if_false]
  refine wpS_of_wp (wp_skip ?_)
  cases c₀
  simp_all [bodyPostS, results, Try.results94]
theorem cleansF_len (xs : List ByteArray) : (cleansF xs).length = xs.length := by simp [cleansF]
set_option maxRecDepth 100000 in
set_option maxHeartbeats 4000000 in
theorem valDep_ok (a b r d al : ByteArray) (A : Option Addr) (c : Nat) (tags : List ByteArray) (w : World) (h : Sl w A (strs tags)) (ha : a.size ≤ 1000000) (hb0 : b.size ≤ 1000000) (hr : r.size ≤ 1000000) (hd : d.size ≤ 1000000) (hal : al.size ≤ 1000000) (ht : ∀ x ∈ tags, x.size ≤ 1000000) (hta : ∀ x ∈ tags, asciiB x)
    (aa : asciiB a) (ab : asciiB b) (ar : asciiB r) (ad : asciiB d) (hn : tags.length ≤ 1000000) (hal0 : aliasF al = true) :
    Calls Try.prog 46 #[.agg #[.bool false, .string a, .string b, .string r, .string d, .slice A tags.length c, .string al]] w fun e w' => ∃ A' c', e = .returned (.tuple #[.agg #[.bool false, .string (cleanF a), .string (cleanF b), .string (cleanF r), .string (cleanF d), .slice A' tags.length c', .string al], .bool false, .int .i64 0]) ∧ w'.ownsRow w.heap.size 9 1 (.slice A' tags.length c') tags.length (strs (cleansF tags)) ∧ Below w.heap.size w w' := by
  have La := ha
  have Lb := hb0
  have Lr := hr
  have Ld := hd
  have Lal := hal
  have HT := Lib.hid ht
  have HTA := Lib.hid hta
  have HS := Lib.hid h
  have Aa := Lib.hid aa
  have Ab := Lib.hid ab
  have Ar := Lib.hid ar
  have Ad := Lib.hid ad
  have HAL := Lib.hid hal0
  clear ha hb0 hr hd hal ht hta h aa ab ar ad hal0
  have hmf : ∀ (fn : Fn) (first cap : Array Value) (w : World), (Instr.makeFunc fn first cap).run Try.prog w = .ok (.func fn first cap) w := fun _ _ _ _ => rfl
  go_enter_defers Try.func46, Try.ntmps46
  go_upto_region 4 with (first
    | ((with_reducible refine at_dst (N := 1) rfl ?_); refine ev_box rfl 79 _ rfl _ rfl ?_; intro g1 w1 hg hB hb
       have low_g1 := Nat.le_trans (Nat.le_refl _) hg
       have B_w1 := Lib.hid (below_trans (Below.refl _ _) hb)
       have g1_w1 : Hid (Blk w1 g1 79 #[.bool false, .string a, .string b, .string r, .string d, .slice A tags.length c, .string al]) := hB
       clear hB hb)
    | ((with_reducible refine at_dst (N := 2) rfl ?_); refine ev_alloc rfl 79 rfl _ _ tz79 ?_; intro g2 w2 hg hB hb
       have n_g1_g2 : g1 ≠ g2 := by have := g1_w1.out.lt; omega
       have low_g2 := Nat.le_trans B_w1.out.size hg
       have g1_w2 := Lib.hid (g1_w1.out.below hb)
       have B_w2 := Lib.hid (below_trans B_w1.out hb)
       have g2_w2 : Hid (Blk w2 g2 79 #[.bool false, .string ⟨#[]⟩, .string ⟨#[]⟩, .string ⟨#[]⟩, .string ⟨#[]⟩, .slice none 0 0, .string ⟨#[]⟩]) := hB
       clear hB hb)
    | ((with_reducible refine at_dst (N := 3) rfl ?_); refine ev_alloc rfl 4 rfl _ _ tz4 ?_; intro g3 w3 hg hB hb
       have n_g1_g3 : g1 ≠ g3 := by have := g1_w2.out.lt; omega
       have n_g2_g3 : g2 ≠ g3 := by have := g2_w2.out.lt; omega
       have low_g3 := Nat.le_trans B_w2.out.size hg
       have g1_w3 := Lib.hid (g1_w2.out.below hb)
       have g2_w3 := Lib.hid (g2_w2.out.below hb)
       have B_w3 := Lib.hid (below_trans B_w2.out hb)
       have g3_w3 : Hid (Blk w3 g3 4 #[.bool false]) := hB
       clear hB hb)
    | ((with_reducible refine at_dst (N := 4) rfl ?_); refine ev_alloc rfl 3 rfl _ _ tz3 ?_; intro g4 w4 hg hB hb
       have n_g1_g4 : g1 ≠ g4 := by have := g1_w3.out.lt; omega
       have n_g2_g4 : g2 ≠ g4 := by have := g2_w3.out.lt; omega
       have n_g3_g4 : g3 ≠ g4 := by have := g3_w3.out.lt; omega
       have low_g4 := Nat.le_trans B_w3.out.size hg
       have g1_w4 := Lib.hid (g1_w3.out.below hb)
       have g2_w4 := Lib.hid (g2_w3.out.below hb)
       have g3_w4 := Lib.hid (g3_w3.out.below hb)
       have B_w4 := Lib.hid (below_trans B_w3.out hb)
       have g4_w4 : Hid (Blk w4 g4 3 #[.int .i64 0]) := hB
       clear hB hb)
    | ((with_reducible refine at_dst (N := 7) rfl ?_); refine ev_loadB rfl 79 _ rfl g1 rfl 79 _ g1_w4.out _ Try.underlying79 rfl tsz79 ?_)
    | (go_at_call 95; (with_reducible refine (depOf_some a b r d al A c tags _ (HS.out.below B_w4.out) hn).mono ?_); rintro e w5 ⟨g, A8, c8, rfl, hlo, hbg, ho8, hb⟩
       have n_g1_g : g1 ≠ g := by have := g1_w4.out.lt; omega
       have n_g2_g : g2 ≠ g := by have := g2_w4.out.lt; omega
       have n_g3_g : g3 ≠ g := by have := g3_w4.out.lt; omega
       have n_g4_g : g4 ≠ g := by have := g4_w4.out.lt; omega
       have low_g := Nat.le_trans B_w4.out.size hlo
       have g1_w5 := Lib.hid (g1_w4.out.below hb)
       have g2_w5 := Lib.hid (g2_w4.out.below hb)
       have g3_w5 := Lib.hid (g3_w4.out.below hb)
       have g4_w5 := Lib.hid (g4_w4.out.below hb)
       have B_w5 := Lib.hid (below_trans B_w4.out hb)
       have HG := Lib.hid hbg
       have HO := Lib.hid (own_mono ho8 B_w4.out.size)
       clear hbg ho8 hlo
       clear hb)
    | (go_at_call 96; (with_reducible refine (depVal_ok g _ a b r d al A8 c8 tags _ HG.out HO.out La Lb Lr Ld Lal HT.out HTA.out Aa.out Ab.out Ar.out Ad.out hn HAL.out).mono ?_); rintro e w6 ⟨rfl, hbg, ho8, hx⟩
       have g1_w6 := Lib.hid (g1_w5.out.grx hx (fun h => h.elim (fun h => n_g1_g h) (fun ⟨ad, h1, h2⟩ => own_ne HO.out g1_w5.out (by decide) (by rw [h1, h2]; rfl))))
       have g2_w6 := Lib.hid (g2_w5.out.grx hx (fun h => h.elim (fun h => n_g2_g h) (fun ⟨ad, h1, h2⟩ => own_ne HO.out g2_w5.out (by decide) (by rw [h1, h2]; rfl))))
       have g3_w6 := Lib.hid (g3_w5.out.grx hx (fun h => h.elim (fun h => n_g3_g h) (fun ⟨ad, h1, h2⟩ => own_ne HO.out g3_w5.out (by decide) (by rw [h1, h2]; rfl))))
       have g4_w6 := Lib.hid (g4_w5.out.grx hx (fun h => h.elim (fun h => n_g4_g h) (fun ⟨ad, h1, h2⟩ => own_ne HO.out g4_w5.out (by decide) (by rw [h1, h2]; rfl))))
       have B_w6 := Lib.hid (below_grx B_w5.out hx B_w5.out.size (fun k h => h.elim (fun h => h ▸ low_g) (fun ⟨ad, h1, h2⟩ => h2 ▸ own_ge HO.out _ (by rw [h1]; rfl))))
       have HG2 := Lib.hid hbg
       have HO2 := Lib.hid ho8
       clear hbg ho8
       clear hx)
    | (refine ev_store1 rfl 4 _ _ rfl g3 0 _ rfl (.bool false) rfl 4 g3_w6.out tsz4 (by simp) rfl rfl ?_; intro w7 hB hg hz
       have g1_w7 := Lib.hid (g1_w6.out.grown hg n_g1_g3)
       have g2_w7 := Lib.hid (g2_w6.out.grown hg n_g2_g3)
       have g4_w7 := Lib.hid (g4_w6.out.grown hg n_g3_g4.symm)
       have g_w7 := Lib.hid (HG2.out.grown hg n_g3_g.symm)
       have own_w7 := Lib.hid (own_grown HO2.out hg (own_ne HO2.out g3_w6.out (by decide)))
       have B_w7 := Lib.hid (below_grown B_w6.out hg B_w6.out.size low_g3)
       have g3_w7 : Hid (Blk w7 g3 4 #[.bool false]) := hB
       clear hB hg hz))
  refine wp_region_growX (fun i k => i = 3 ∧ k = g2) [some [], some [(0, 12)], some [], some [(1, 13)], none, none]
      [fun v _ => v = .pointer (some ⟨g, 0, none⟩),
       fun v w' => ∃ A' c', v = .agg #[.bool false, .string (cleanF a), .string (cleanF b), .string (cleanF r), .string (cleanF d), .slice A' tags.length c', .string al] ∧ w'.ownsRow w7.heap.size 9 1 (.slice A' tags.length c') tags.length (strs (cleansF tags)),
       fun v _ => v = .bool false,
       fun _ w' => ∃ A' c', Blk w' g2 79 #[.bool false, .string (cleanF a), .string (cleanF b), .string (cleanF r), .string (cleanF d), .slice A' tags.length c', .string al] ∧ w'.ownsRow w7.heap.size 9 1 (.slice A' tags.length c') tags.length (strs (cleansF tags)),
       fun _ _ => True,
       fun _ _ => True] 15 (by kernel_rfl) rfl rfl (by kernel_rfl) ?_ ?_ ?_ ?_
  · intro j hj
    rcases (by simpa using hj : j < 6) |> fun h : j < 6 => (by omega : j = 0 ∨ j = 1 ∨ j = 2 ∨ j = 3 ∨ j = 4 ∨ j = 5) with rfl | rfl | rfl | rfl | rfl | rfl
    · exact stabx_eq _
    · exact fun _ _ _ ⟨A', c', e, h⟩ hg => ⟨A', c', e, own_grx h hg (fun k hk ⟨_, h1, h2, h3⟩ => by have := own_ge h k hk; have := g2_w7.out.lt; omega)⟩
    · exact stabx_eq _
    · exact fun _ _ _ ⟨A', c', h, ho⟩ hg => ⟨A', c', h.grx hg (fun ⟨_, h1, h2, _⟩ => h1 h2), own_grx ho hg (fun k hk ⟨_, h1, h2, h3⟩ => by have := own_ge ho k hk; have := g2_w7.out.lt; omega)⟩
    · exact stabx_true
    · exact stabx_true
  · intro j hj
    rcases (by simpa using hj : j < 6) |> fun h : j < 6 => (by omega : j = 0 ∨ j = 1 ∨ j = 2 ∨ j = 3 ∨ j = 4 ∨ j = 5) with rfl | rfl | rfl | rfl | rfl | rfl
    all_goals first | (intro h; cases h; done) | (intro _ v w h; exact h)
  · simp only [oblGoX, obl1X, withDeps, oblX, postAt, List.getD_cons_zero, List.getD_cons_succ, forall_eq]
    refine ⟨?_, ?_, ?_, ?_, trivial⟩
    · intro wg hg
      refine x_of_gr ?_
      go_simp
    · intro wg hg
      refine x_of_gr ?_
      go_simp
      exact (depTold_some g (cleanF a) (cleanF b) (cleanF r) (cleanF d) al A8 tags.length c8 (cleansF tags) _ (own_sl1 (own_grx own_w7.out hg (fun k hk ⟨_, h1, h2, h3⟩ => own_ne own_w7.out g2_w7.out (by decide) (h3 ▸ hk))) (by omega)) ((g_w7.out.grx hg (fun ⟨_, h1, h2, h3⟩ => n_g2_g.symm h3))) (cleansF_len _) hn).mono fun e w' ⟨A', c', h1, h2, h3⟩ => ⟨_, h1, h3, A', c', rfl, own_mono h2 hg.size⟩
    · intro wg hg
      refine x_of_gr ?_
      exact gr_ld 4 _ rfl ⟨g3, 0, none⟩ rfl (.bool false) ((g3_w7.out.grx hg (fun ⟨_, h1, h2, h3⟩ => n_g2_g3.symm h3)).cell 0) _ Try.underlying4 rfl rfl
    · intro wg hg; rintro _ ⟨A13, c13, rfl, ho13⟩
      refine x_store 79 _ _ rfl g2 _ #[.bool false, .string (cleanF a), .string (cleanF b), .string (cleanF r), .string (cleanF d), .slice A13 tags.length c13, .string al] rfl rfl 79 (g2_w7.out.grx hg (fun ⟨_, h1, h2, h3⟩ => h1 h2)) tsz79 rfl rfl ?_ ?_
      · exact ⟨by simp, rfl⟩
      · exact fun w1 hB hw => ⟨_, _, hB, own_grown ho13 hw (fun e => by have := own_ge ho13 _ e; have := g2_w7.out.lt; omega)⟩
  simp only [headDsX, withDepsX, postAt, List.getD_cons_zero, List.getD_cons_succ, forall_eq, tailOps]
  intro w8 hgx
  rintro _ ⟨A13, c13, rfl, ho13⟩
  rintro ⟨A13x, c13x, hBg2, ho13x⟩
  simp only [Act.put, List.setIfInBounds_toArray, List.set_cons_succ, List.set_cons_zero]
  have g1_w8 := Lib.hid (g1_w7.out.grx hgx (fun ⟨_, _, h2, h3⟩ => n_g1_g2 h3))
  have g3_w8 := Lib.hid (g3_w7.out.grx hgx (fun ⟨_, _, h2, h3⟩ => n_g2_g3.symm h3))
  have g4_w8 := Lib.hid (g4_w7.out.grx hgx (fun ⟨_, _, h2, h3⟩ => n_g2_g4.symm h3))
  have g_w8 := Lib.hid (g_w7.out.grx hgx (fun ⟨_, _, h2, h3⟩ => n_g2_g.symm h3))
  have own_w8 := Lib.hid (own_grx own_w7.out hgx (fun k hk ⟨_, _, h2, h3⟩ => own_ne own_w7.out g2_w7.out (by decide) (h3 ▸ hk)))
  have B_w8 := Lib.hid (below_grx B_w7.out hgx B_w7.out.size (fun k ⟨_, _, h2, h3⟩ => h3 ▸ low_g2))
  have g2_r : Hid (Blk w8 g2 79 #[.bool false, .string (cleanF a), .string (cleanF b), .string (cleanF r), .string (cleanF d), .slice A13x tags.length c13x, .string al]) := hBg2
  clear hBg2
  have own13 := Lib.hid (own_mono ho13x B_w7.out.size)
  clear hgx
  go_wp2_with (first
    | (refine ev_store1 rfl 4 _ _ rfl g3 0 _ rfl (.bool false) rfl 4 g3_w8.out tsz4 (by simp) rfl rfl ?_; intro w9 hB hg hz
       have g1_w9 := Lib.hid (g1_w8.out.grown hg n_g1_g3)
       have g2_w9 := Lib.hid (g2_r.out.grown hg n_g2_g3)
       have g4_w9 := Lib.hid (g4_w8.out.grown hg n_g3_g4.symm)
       have g_w9 := Lib.hid (g_w8.out.grown hg n_g3_g.symm)
       have own_w9 := Lib.hid (own_grown own_w8.out hg (own_ne own_w8.out g3_w8.out (by decide)))
       have own13_w9 := Lib.hid (own_grown own13.out hg (own_ne own13.out g3_w8.out (by decide)))
       have B_w9 := Lib.hid (below_grown B_w8.out hg B_w8.out.size low_g3)
       have g3_w9 : Hid (Blk w9 g3 4 #[.bool false]) := hB
       clear hB hg hz)
    | (refine ev_store1 rfl 3 _ _ rfl g4 0 _ rfl (.int .i64 0) rfl 3 g4_w9.out tsz3 (by simp) rfl rfl ?_; intro w10 hB hg hz
       have g1_w10 := Lib.hid (g1_w9.out.grown hg n_g1_g4)
       have g2_w10 := Lib.hid (g2_w9.out.grown hg n_g2_g4)
       have g3_w10 := Lib.hid (g3_w9.out.grown hg n_g3_g4)
       have g_w10 := Lib.hid (g_w9.out.grown hg n_g4_g.symm)
       have own_w10 := Lib.hid (own_grown own_w9.out hg (own_ne own_w9.out g4_w9.out (by decide)))
       have own13_w10 := Lib.hid (own_grown own13_w9.out hg (own_ne own13_w9.out g4_w9.out (by decide)))
       have B_w10 := Lib.hid (below_grown B_w9.out hg B_w9.out.size low_g4)
       have g4_w10 : Hid (Blk w10 g4 3 #[.int .i64 0]) := hB
       clear hB hg hz))
  have rl0 : (loadVar 79 ⟨g2, 0, none⟩).run Try.prog w10 = .ok (.agg #[.bool false, .string (cleanF a), .string (cleanF b), .string (cleanF r), .string (cleanF d), .slice A13x tags.length c13x, .string al]) w10 := load_mid (P := Try.prog) _ 79 g2 0 79 _ g2_w10.out 7 (by simp) _ Try.underlying79 rfl tsz79
  have rl1 : (loadVar 4 ⟨g3, 0, none⟩).run Try.prog w10 = .ok (.bool false) w10 := load_one (P := Try.prog) _ 4 ⟨g3, 0, none⟩ (.bool false) (g3_w10.out.cell 0) _ Try.underlying4 rfl
  have rl2 : (loadVar 3 ⟨g4, 0, none⟩).run Try.prog w10 = .ok (.int .i64 0) w10 := load_one (P := Try.prog) _ 3 ⟨g4, 0, none⟩ (.int .i64 0) (g4_w10.out.cell 0) _ Try.underlying3 rfl
  refine leaves_catch (f := 94) (args := #[.pointer (some ⟨g2, 0, none⟩), .pointer (some ⟨g3, 0, none⟩), .pointer (some ⟨g4, 0, none⟩)]) (v := .tuple #[.agg #[.bool false, .string (cleanF a), .string (cleanF b), .string (cleanF r), .string (cleanF d), .slice A13x tags.length c13x, .string al], .bool false, .int .i64 0]) (by simp [go_sem]) (catch94 g2 g3 g4 _) (results3 Try.results46 ⟨_, rfl, rl0⟩ ⟨_, rfl, rl1⟩ ⟨_, rfl, rl2⟩) ?_
  exact ⟨_, _, rfl, own13_w10.out, B_w10.out⟩
set_option maxRecDepth 100000 in
set_option maxHeartbeats 4000000 in
theorem valDep_bad (a b r d al : ByteArray) (A : Option Addr) (c : Nat) (tags : List ByteArray) (w : World) (h : Sl w A (strs tags)) (ha : a.size ≤ 1000000) (hb0 : b.size ≤ 1000000) (hr : r.size ≤ 1000000) (hd : d.size ≤ 1000000) (hal : al.size ≤ 1000000) (ht : ∀ x ∈ tags, x.size ≤ 1000000) (hta : ∀ x ∈ tags, asciiB x)
    (aa : asciiB a) (ab : asciiB b) (ar : asciiB r) (ad : asciiB d) (hn : tags.length ≤ 1000000) (hal0 : aliasF al = false) :
    Calls Try.prog 46 #[.agg #[.bool false, .string a, .string b, .string r, .string d, .slice A tags.length c, .string al]] w fun e w' => ∃ A' c', e = .returned (.tuple #[.agg #[.bool false, .string (cleanF a), .string (cleanF b), .string (cleanF r), .string (cleanF d), .slice A' tags.length c', .string al], .bool true, .int .i64 0]) ∧ w'.ownsRow w.heap.size 9 1 (.slice A' tags.length c') tags.length (strs (cleansF tags)) ∧ Below w.heap.size w w' := by
  have La := ha
  have Lb := hb0
  have Lr := hr
  have Ld := hd
  have Lal := hal
  have HT := Lib.hid ht
  have HTA := Lib.hid hta
  have HS := Lib.hid h
  have Aa := Lib.hid aa
  have Ab := Lib.hid ab
  have Ar := Lib.hid ar
  have Ad := Lib.hid ad
  have HAL := Lib.hid hal0
  clear ha hb0 hr hd hal ht hta h aa ab ar ad hal0
  have hmf : ∀ (fn : Fn) (first cap : Array Value) (w : World), (Instr.makeFunc fn first cap).run Try.prog w = .ok (.func fn first cap) w := fun _ _ _ _ => rfl
  go_enter_defers Try.func46, Try.ntmps46
  go_upto_region 4 with (first
    | ((with_reducible refine at_dst (N := 1) rfl ?_); refine ev_box rfl 79 _ rfl _ rfl ?_; intro g1 w1 hg hB hb
       have low_g1 := Nat.le_trans (Nat.le_refl _) hg
       have B_w1 := Lib.hid (below_trans (Below.refl _ _) hb)
       have g1_w1 : Hid (Blk w1 g1 79 #[.bool false, .string a, .string b, .string r, .string d, .slice A tags.length c, .string al]) := hB
       clear hB hb)
    | ((with_reducible refine at_dst (N := 2) rfl ?_); refine ev_alloc rfl 79 rfl _ _ tz79 ?_; intro g2 w2 hg hB hb
       have n_g1_g2 : g1 ≠ g2 := by have := g1_w1.out.lt; omega
       have low_g2 := Nat.le_trans B_w1.out.size hg
       have g1_w2 := Lib.hid (g1_w1.out.below hb)
       have B_w2 := Lib.hid (below_trans B_w1.out hb)
       have g2_w2 : Hid (Blk w2 g2 79 #[.bool false, .string ⟨#[]⟩, .string ⟨#[]⟩, .string ⟨#[]⟩, .string ⟨#[]⟩, .slice none 0 0, .string ⟨#[]⟩]) := hB
       clear hB hb)
    | ((with_reducible refine at_dst (N := 3) rfl ?_); refine ev_alloc rfl 4 rfl _ _ tz4 ?_; intro g3 w3 hg hB hb
       have n_g1_g3 : g1 ≠ g3 := by have := g1_w2.out.lt; omega
       have n_g2_g3 : g2 ≠ g3 := by have := g2_w2.out.lt; omega
       have low_g3 := Nat.le_trans B_w2.out.size hg
       have g1_w3 := Lib.hid (g1_w2.out.below hb)
       have g2_w3 := Lib.hid (g2_w2.out.below hb)
       have B_w3 := Lib.hid (below_trans B_w2.out hb)
       have g3_w3 : Hid (Blk w3 g3 4 #[.bool false]) := hB
       clear hB hb)
    | ((with_reducible refine at_dst (N := 4) rfl ?_); refine ev_alloc rfl 3 rfl _ _ tz3 ?_; intro g4 w4 hg hB hb
       have n_g1_g4 : g1 ≠ g4 := by have := g1_w3.out.lt; omega
       have n_g2_g4 : g2 ≠ g4 := by have := g2_w3.out.lt; omega
       have n_g3_g4 : g3 ≠ g4 := by have := g3_w3.out.lt; omega
       have low_g4 := Nat.le_trans B_w3.out.size hg
       have g1_w4 := Lib.hid (g1_w3.out.below hb)
       have g2_w4 := Lib.hid (g2_w3.out.below hb)
       have g3_w4 := Lib.hid (g3_w3.out.below hb)
       have B_w4 := Lib.hid (below_trans B_w3.out hb)
       have g4_w4 : Hid (Blk w4 g4 3 #[.int .i64 0]) := hB
       clear hB hb)
    | ((with_reducible refine at_dst (N := 7) rfl ?_); refine ev_loadB rfl 79 _ rfl g1 rfl 79 _ g1_w4.out _ Try.underlying79 rfl tsz79 ?_)
    | (go_at_call 95; (with_reducible refine (depOf_some a b r d al A c tags _ (HS.out.below B_w4.out) hn).mono ?_); rintro e w5 ⟨g, A8, c8, rfl, hlo, hbg, ho8, hb⟩
       have n_g1_g : g1 ≠ g := by have := g1_w4.out.lt; omega
       have n_g2_g : g2 ≠ g := by have := g2_w4.out.lt; omega
       have n_g3_g : g3 ≠ g := by have := g3_w4.out.lt; omega
       have n_g4_g : g4 ≠ g := by have := g4_w4.out.lt; omega
       have low_g := Nat.le_trans B_w4.out.size hlo
       have g1_w5 := Lib.hid (g1_w4.out.below hb)
       have g2_w5 := Lib.hid (g2_w4.out.below hb)
       have g3_w5 := Lib.hid (g3_w4.out.below hb)
       have g4_w5 := Lib.hid (g4_w4.out.below hb)
       have B_w5 := Lib.hid (below_trans B_w4.out hb)
       have HG := Lib.hid hbg
       have HO := Lib.hid (own_mono ho8 B_w4.out.size)
       clear hbg ho8 hlo
       clear hb)
    | (go_at_call 96; (with_reducible refine (depVal_bad g _ a b r d al A8 c8 tags _ HG.out HO.out La Lb Lr Ld Lal HT.out HTA.out Aa.out Ab.out Ar.out Ad.out hn HAL.out).mono ?_); rintro e w6 ⟨⟨m, rfl⟩, hbg, ho8, hx⟩
       have g1_w6 := Lib.hid (g1_w5.out.grx hx (fun h => h.elim (fun h => n_g1_g h) (fun ⟨ad, h1, h2⟩ => own_ne HO.out g1_w5.out (by decide) (by rw [h1, h2]; rfl))))
       have g2_w6 := Lib.hid (g2_w5.out.grx hx (fun h => h.elim (fun h => n_g2_g h) (fun ⟨ad, h1, h2⟩ => own_ne HO.out g2_w5.out (by decide) (by rw [h1, h2]; rfl))))
       have g3_w6 := Lib.hid (g3_w5.out.grx hx (fun h => h.elim (fun h => n_g3_g h) (fun ⟨ad, h1, h2⟩ => own_ne HO.out g3_w5.out (by decide) (by rw [h1, h2]; rfl))))
       have g4_w6 := Lib.hid (g4_w5.out.grx hx (fun h => h.elim (fun h => n_g4_g h) (fun ⟨ad, h1, h2⟩ => own_ne HO.out g4_w5.out (by decide) (by rw [h1, h2]; rfl))))
       have B_w6 := Lib.hid (below_grx B_w5.out hx B_w5.out.size (fun k h => h.elim (fun h => h ▸ low_g) (fun ⟨ad, h1, h2⟩ => h2 ▸ own_ge HO.out _ (by rw [h1]; rfl))))
       have HG2 := Lib.hid hbg
       have HO2 := Lib.hid ho8
       clear hbg ho8
       clear hx)
    | (refine ev_store1 rfl 4 _ _ rfl g3 0 _ rfl (.bool true) rfl 4 g3_w6.out tsz4 (by simp) rfl rfl ?_; intro w7 hB hg hz
       have g1_w7 := Lib.hid (g1_w6.out.grown hg n_g1_g3)
       have g2_w7 := Lib.hid (g2_w6.out.grown hg n_g2_g3)
       have g4_w7 := Lib.hid (g4_w6.out.grown hg n_g3_g4.symm)
       have g_w7 := Lib.hid (HG2.out.grown hg n_g3_g.symm)
       have own_w7 := Lib.hid (own_grown HO2.out hg (own_ne HO2.out g3_w6.out (by decide)))
       have B_w7 := Lib.hid (below_grown B_w6.out hg B_w6.out.size low_g3)
       have g3_w7 : Hid (Blk w7 g3 4 #[.bool true]) := hB
       clear hB hg hz))
  refine wp_region_growX (fun i k => i = 3 ∧ k = g2) [some [], some [(0, 12)], some [], some [(1, 13)], none, none]
      [fun v _ => v = .pointer (some ⟨g, 0, none⟩),
       fun v w' => ∃ A' c', v = .agg #[.bool false, .string (cleanF a), .string (cleanF b), .string (cleanF r), .string (cleanF d), .slice A' tags.length c', .string al] ∧ w'.ownsRow w7.heap.size 9 1 (.slice A' tags.length c') tags.length (strs (cleansF tags)),
       fun v _ => v = .bool true,
       fun _ w' => ∃ A' c', Blk w' g2 79 #[.bool false, .string (cleanF a), .string (cleanF b), .string (cleanF r), .string (cleanF d), .slice A' tags.length c', .string al] ∧ w'.ownsRow w7.heap.size 9 1 (.slice A' tags.length c') tags.length (strs (cleansF tags)),
       fun _ _ => True,
       fun _ _ => True] 15 (by kernel_rfl) rfl rfl (by kernel_rfl) ?_ ?_ ?_ ?_
  · intro j hj
    rcases (by simpa using hj : j < 6) |> fun h : j < 6 => (by omega : j = 0 ∨ j = 1 ∨ j = 2 ∨ j = 3 ∨ j = 4 ∨ j = 5) with rfl | rfl | rfl | rfl | rfl | rfl
    · exact stabx_eq _
    · exact fun _ _ _ ⟨A', c', e, h⟩ hg => ⟨A', c', e, own_grx h hg (fun k hk ⟨_, h1, h2, h3⟩ => by have := own_ge h k hk; have := g2_w7.out.lt; omega)⟩
    · exact stabx_eq _
    · exact fun _ _ _ ⟨A', c', h, ho⟩ hg => ⟨A', c', h.grx hg (fun ⟨_, h1, h2, _⟩ => h1 h2), own_grx ho hg (fun k hk ⟨_, h1, h2, h3⟩ => by have := own_ge ho k hk; have := g2_w7.out.lt; omega)⟩
    · exact stabx_true
    · exact stabx_true
  · intro j hj
    rcases (by simpa using hj : j < 6) |> fun h : j < 6 => (by omega : j = 0 ∨ j = 1 ∨ j = 2 ∨ j = 3 ∨ j = 4 ∨ j = 5) with rfl | rfl | rfl | rfl | rfl | rfl
    all_goals first | (intro h; cases h; done) | (intro _ v w h; exact h)
  · simp only [oblGoX, obl1X, withDeps, oblX, postAt, List.getD_cons_zero, List.getD_cons_succ, forall_eq]
    refine ⟨?_, ?_, ?_, ?_, trivial⟩
    · intro wg hg
      refine x_of_gr ?_
      go_simp
    · intro wg hg
      refine x_of_gr ?_
      go_simp
      exact (depTold_some g (cleanF a) (cleanF b) (cleanF r) (cleanF d) al A8 tags.length c8 (cleansF tags) _ (own_sl1 (own_grx own_w7.out hg (fun k hk ⟨_, h1, h2, h3⟩ => own_ne own_w7.out g2_w7.out (by decide) (h3 ▸ hk))) (by omega)) ((g_w7.out.grx hg (fun ⟨_, h1, h2, h3⟩ => n_g2_g.symm h3))) (cleansF_len _) hn).mono fun e w' ⟨A', c', h1, h2, h3⟩ => ⟨_, h1, h3, A', c', rfl, own_mono h2 hg.size⟩
    · intro wg hg
      refine x_of_gr ?_
      exact gr_ld 4 _ rfl ⟨g3, 0, none⟩ rfl (.bool true) ((g3_w7.out.grx hg (fun ⟨_, h1, h2, h3⟩ => n_g2_g3.symm h3)).cell 0) _ Try.underlying4 rfl rfl
    · intro wg hg; rintro _ ⟨A13, c13, rfl, ho13⟩
      refine x_store 79 _ _ rfl g2 _ #[.bool false, .string (cleanF a), .string (cleanF b), .string (cleanF r), .string (cleanF d), .slice A13 tags.length c13, .string al] rfl rfl 79 (g2_w7.out.grx hg (fun ⟨_, h1, h2, h3⟩ => h1 h2)) tsz79 rfl rfl ?_ ?_
      · exact ⟨by simp, rfl⟩
      · exact fun w1 hB hw => ⟨_, _, hB, own_grown ho13 hw (fun e => by have := own_ge ho13 _ e; have := g2_w7.out.lt; omega)⟩
  simp only [headDsX, withDepsX, postAt, List.getD_cons_zero, List.getD_cons_succ, forall_eq, tailOps]
  intro w8 hgx
  rintro _ ⟨A13, c13, rfl, ho13⟩
  rintro ⟨A13x, c13x, hBg2, ho13x⟩
  simp only [Act.put, List.setIfInBounds_toArray, List.set_cons_succ, List.set_cons_zero]
  have g1_w8 := Lib.hid (g1_w7.out.grx hgx (fun ⟨_, _, h2, h3⟩ => n_g1_g2 h3))
  have g3_w8 := Lib.hid (g3_w7.out.grx hgx (fun ⟨_, _, h2, h3⟩ => n_g2_g3.symm h3))
  have g4_w8 := Lib.hid (g4_w7.out.grx hgx (fun ⟨_, _, h2, h3⟩ => n_g2_g4.symm h3))
  have g_w8 := Lib.hid (g_w7.out.grx hgx (fun ⟨_, _, h2, h3⟩ => n_g2_g.symm h3))
  have own_w8 := Lib.hid (own_grx own_w7.out hgx (fun k hk ⟨_, _, h2, h3⟩ => own_ne own_w7.out g2_w7.out (by decide) (h3 ▸ hk)))
  have B_w8 := Lib.hid (below_grx B_w7.out hgx B_w7.out.size (fun k ⟨_, _, h2, h3⟩ => h3 ▸ low_g2))
  have g2_r : Hid (Blk w8 g2 79 #[.bool false, .string (cleanF a), .string (cleanF b), .string (cleanF r), .string (cleanF d), .slice A13x tags.length c13x, .string al]) := hBg2
  clear hBg2
  have own13 := Lib.hid (own_mono ho13x B_w7.out.size)
  clear hgx
  go_wp2_with (first
    | (refine ev_store1 rfl 4 _ _ rfl g3 0 _ rfl (.bool true) rfl 4 g3_w8.out tsz4 (by simp) rfl rfl ?_; intro w9 hB hg hz
       have g1_w9 := Lib.hid (g1_w8.out.grown hg n_g1_g3)
       have g2_w9 := Lib.hid (g2_r.out.grown hg n_g2_g3)
       have g4_w9 := Lib.hid (g4_w8.out.grown hg n_g3_g4.symm)
       have g_w9 := Lib.hid (g_w8.out.grown hg n_g3_g.symm)
       have own_w9 := Lib.hid (own_grown own_w8.out hg (own_ne own_w8.out g3_w8.out (by decide)))
       have own13_w9 := Lib.hid (own_grown own13.out hg (own_ne own13.out g3_w8.out (by decide)))
       have B_w9 := Lib.hid (below_grown B_w8.out hg B_w8.out.size low_g3)
       have g3_w9 : Hid (Blk w9 g3 4 #[.bool true]) := hB
       clear hB hg hz)
    | (refine ev_store1 rfl 3 _ _ rfl g4 0 _ rfl (.int .i64 0) rfl 3 g4_w9.out tsz3 (by simp) rfl rfl ?_; intro w10 hB hg hz
       have g1_w10 := Lib.hid (g1_w9.out.grown hg n_g1_g4)
       have g2_w10 := Lib.hid (g2_w9.out.grown hg n_g2_g4)
       have g3_w10 := Lib.hid (g3_w9.out.grown hg n_g3_g4)
       have g_w10 := Lib.hid (g_w9.out.grown hg n_g4_g.symm)
       have own_w10 := Lib.hid (own_grown own_w9.out hg (own_ne own_w9.out g4_w9.out (by decide)))
       have own13_w10 := Lib.hid (own_grown own13_w9.out hg (own_ne own13_w9.out g4_w9.out (by decide)))
       have B_w10 := Lib.hid (below_grown B_w9.out hg B_w9.out.size low_g4)
       have g4_w10 : Hid (Blk w10 g4 3 #[.int .i64 0]) := hB
       clear hB hg hz))
  have rl0 : (loadVar 79 ⟨g2, 0, none⟩).run Try.prog w10 = .ok (.agg #[.bool false, .string (cleanF a), .string (cleanF b), .string (cleanF r), .string (cleanF d), .slice A13x tags.length c13x, .string al]) w10 := load_mid (P := Try.prog) _ 79 g2 0 79 _ g2_w10.out 7 (by simp) _ Try.underlying79 rfl tsz79
  have rl1 : (loadVar 4 ⟨g3, 0, none⟩).run Try.prog w10 = .ok (.bool true) w10 := load_one (P := Try.prog) _ 4 ⟨g3, 0, none⟩ (.bool true) (g3_w10.out.cell 0) _ Try.underlying4 rfl
  have rl2 : (loadVar 3 ⟨g4, 0, none⟩).run Try.prog w10 = .ok (.int .i64 0) w10 := load_one (P := Try.prog) _ 3 ⟨g4, 0, none⟩ (.int .i64 0) (g4_w10.out.cell 0) _ Try.underlying3 rfl
  refine leaves_catch (f := 94) (args := #[.pointer (some ⟨g2, 0, none⟩), .pointer (some ⟨g3, 0, none⟩), .pointer (some ⟨g4, 0, none⟩)]) (v := .tuple #[.agg #[.bool false, .string (cleanF a), .string (cleanF b), .string (cleanF r), .string (cleanF d), .slice A13x tags.length c13x, .string al], .bool true, .int .i64 0]) (by simp [go_sem]) (catch94 g2 g3 g4 _) (results3 Try.results46 ⟨_, rfl, rl0⟩ ⟨_, rfl, rl1⟩ ⟨_, rfl, rl2⟩) ?_
  exact ⟨_, _, rfl, own13_w10.out, B_w10.out⟩
set_option maxRecDepth 100000 in
set_option maxHeartbeats 4000000 in
theorem valDep_nil (a b r d al : ByteArray) (A : Option Addr) (c : Nat) (tags : List ByteArray) (w : World) :
    Calls Try.prog 46 #[.agg #[.bool true, .string a, .string b, .string r, .string d, .slice A tags.length c, .string al]] w fun e w' => e = .returned (.tuple #[.agg #[.bool true, .string ⟨#[]⟩, .string ⟨#[]⟩, .string ⟨#[]⟩, .string ⟨#[]⟩, .slice none 0 0, .string ⟨#[]⟩], .bool true, .int .i64 0]) ∧ Below w.heap.size w w' := by
  have hmf : ∀ (fn : Fn) (first cap : Array Value) (w : World), (Instr.makeFunc fn first cap).run Try.prog w = .ok (.func fn first cap) w := fun _ _ _ _ => rfl
  go_enter_defers Try.func46, Try.ntmps46
  go_upto_region 4 with (first
    | ((with_reducible refine at_dst (N := 1) rfl ?_); refine ev_box rfl 79 _ rfl _ rfl ?_; intro g1 w1 hg hB hb
       have low_g1 := Nat.le_trans (Nat.le_refl _) hg
       have B_w1 := Lib.hid (below_trans (Below.refl _ _) hb)
       have g1_w1 : Hid (Blk w1 g1 79 #[.bool true, .string a, .string b, .string r, .string d, .slice A tags.length c, .string al]) := hB
       clear hB hb)
    | ((with_reducible refine at_dst (N := 2) rfl ?_); refine ev_alloc rfl 79 rfl _ _ tz79 ?_; intro g2 w2 hg hB hb
       have n_g1_g2 : g1 ≠ g2 := by have := g1_w1.out.lt; omega
       have low_g2 := Nat.le_trans B_w1.out.size hg
       have g1_w2 := Lib.hid (g1_w1.out.below hb)
       have B_w2 := Lib.hid (below_trans B_w1.out hb)
       have g2_w2 : Hid (Blk w2 g2 79 #[.bool false, .string ⟨#[]⟩, .string ⟨#[]⟩, .string ⟨#[]⟩, .string ⟨#[]⟩, .slice none 0 0, .string ⟨#[]⟩]) := hB
       clear hB hb)
    | ((with_reducible refine at_dst (N := 3) rfl ?_); refine ev_alloc rfl 4 rfl _ _ tz4 ?_; intro g3 w3 hg hB hb
       have n_g1_g3 : g1 ≠ g3 := by have := g1_w2.out.lt; omega
       have n_g2_g3 : g2 ≠ g3 := by have := g2_w2.out.lt; omega
       have low_g3 := Nat.le_trans B_w2.out.size hg
       have g1_w3 := Lib.hid (g1_w2.out.below hb)
       have g2_w3 := Lib.hid (g2_w2.out.below hb)
       have B_w3 := Lib.hid (below_trans B_w2.out hb)
       have g3_w3 : Hid (Blk w3 g3 4 #[.bool false]) := hB
       clear hB hb)
    | ((with_reducible refine at_dst (N := 4) rfl ?_); refine ev_alloc rfl 3 rfl _ _ tz3 ?_; intro g4 w4 hg hB hb
       have n_g1_g4 : g1 ≠ g4 := by have := g1_w3.out.lt; omega
       have n_g2_g4 : g2 ≠ g4 := by have := g2_w3.out.lt; omega
       have n_g3_g4 : g3 ≠ g4 := by have := g3_w3.out.lt; omega
       have low_g4 := Nat.le_trans B_w3.out.size hg
       have g1_w4 := Lib.hid (g1_w3.out.below hb)
       have g2_w4 := Lib.hid (g2_w3.out.below hb)
       have g3_w4 := Lib.hid (g3_w3.out.below hb)
       have B_w4 := Lib.hid (below_trans B_w3.out hb)
       have g4_w4 : Hid (Blk w4 g4 3 #[.int .i64 0]) := hB
       clear hB hb)
    | ((with_reducible refine at_dst (N := 7) rfl ?_); refine ev_loadB rfl 79 _ rfl g1 rfl 79 _ g1_w4.out _ Try.underlying79 rfl tsz79 ?_)
    | (go_at_call 95; (with_reducible refine (depOf_nil a b r d al A c tags _).mono ?_); rintro e w5 ⟨rfl, hb⟩
       have g1_w5 := Lib.hid (g1_w4.out.below hb)
       have g2_w5 := Lib.hid (g2_w4.out.below hb)
       have g3_w5 := Lib.hid (g3_w4.out.below hb)
       have g4_w5 := Lib.hid (g4_w4.out.below hb)
       have B_w5 := Lib.hid (below_trans B_w4.out hb)
       clear hb)
    | (go_at_call 96; (with_reducible refine (depVal_nil _).mono ?_); rintro e wq ⟨⟨m, rfl⟩, rfl⟩)
    | (refine ev_store1 rfl 4 _ _ rfl g3 0 _ rfl (.bool true) rfl 4 g3_w5.out tsz4 (by simp) rfl rfl ?_; intro w7 hB hg hz
       have g1_w7 := Lib.hid (g1_w5.out.grown hg n_g1_g3)
       have g2_w7 := Lib.hid (g2_w5.out.grown hg n_g2_g3)
       have g4_w7 := Lib.hid (g4_w5.out.grown hg n_g3_g4.symm)
       have B_w7 := Lib.hid (below_grown B_w5.out hg B_w5.out.size low_g3)
       have g3_w7 : Hid (Blk w7 g3 4 #[.bool true]) := hB
       clear hB hg hz))
  refine wp_region_growX (fun i k => i = 3 ∧ k = g2) [some [], some [(0, 12)], some [], some [(1, 13)], none, none]
      [fun v _ => v = .pointer none,
       fun v _ => v = .agg #[.bool true, .string ⟨#[]⟩, .string ⟨#[]⟩, .string ⟨#[]⟩, .string ⟨#[]⟩, .slice none 0 0, .string ⟨#[]⟩],
       fun v _ => v = .bool true,
       fun _ w' => Blk w' g2 79 #[.bool true, .string ⟨#[]⟩, .string ⟨#[]⟩, .string ⟨#[]⟩, .string ⟨#[]⟩, .slice none 0 0, .string ⟨#[]⟩],
       fun _ _ => True,
       fun _ _ => True] 15 (by kernel_rfl) rfl rfl (by kernel_rfl) ?_ ?_ ?_ ?_
  · intro j hj
    rcases (by simpa using hj : j < 6) |> fun h : j < 6 => (by omega : j = 0 ∨ j = 1 ∨ j = 2 ∨ j = 3 ∨ j = 4 ∨ j = 5) with rfl | rfl | rfl | rfl | rfl | rfl
    · exact stabx_eq _
    · exact stabx_eq _
    · exact stabx_eq _
    · exact fun _ _ _ h hg => h.grx hg (fun ⟨_, h1, h2, _⟩ => h1 h2)
    · exact stabx_true
    · exact stabx_true
  · intro j hj
    rcases (by simpa using hj : j < 6) |> fun h : j < 6 => (by omega : j = 0 ∨ j = 1 ∨ j = 2 ∨ j = 3 ∨ j = 4 ∨ j = 5) with rfl | rfl | rfl | rfl | rfl | rfl
    all_goals first | (intro h; cases h; done) | (intro _ v w h; exact h)
  · simp only [oblGoX, obl1X, withDeps, oblX, postAt, List.getD_cons_zero, List.getD_cons_succ, forall_eq]
    refine ⟨?_, ?_, ?_, ?_, trivial⟩
    · intro wg hg
      refine x_of_gr ?_
      go_simp
    · intro wg hg
      refine x_of_gr ?_
      go_simp
      exact (depTold_nil _).mono fun _ _ h => h
    · intro wg hg
      refine x_of_gr ?_
      exact gr_ld 4 _ rfl ⟨g3, 0, none⟩ rfl (.bool true) ((g3_w7.out.grx hg (fun ⟨_, h1, h2, h3⟩ => n_g2_g3.symm h3)).cell 0) _ Try.underlying4 rfl rfl
    · intro wg hg
      refine x_store 79 _ _ rfl g2 _ #[.bool true, .string ⟨#[]⟩, .string ⟨#[]⟩, .string ⟨#[]⟩, .string ⟨#[]⟩, .slice none 0 0, .string ⟨#[]⟩] rfl rfl 79 (g2_w7.out.grx hg (fun ⟨_, h1, h2, h3⟩ => h1 h2)) tsz79 rfl rfl ?_ ?_
      · exact ⟨by simp, rfl⟩
      · exact fun w1 hB hw => hB
  simp only [headDsX, withDepsX, postAt, List.getD_cons_zero, List.getD_cons_succ, forall_eq, tailOps]
  intro w8 hgx
  rintro hBg2
  simp only [Act.put, List.setIfInBounds_toArray, List.set_cons_succ, List.set_cons_zero]
  have g1_w8 := Lib.hid (g1_w7.out.grx hgx (fun ⟨_, _, h2, h3⟩ => n_g1_g2 h3))
  have g3_w8 := Lib.hid (g3_w7.out.grx hgx (fun ⟨_, _, h2, h3⟩ => n_g2_g3.symm h3))
  have g4_w8 := Lib.hid (g4_w7.out.grx hgx (fun ⟨_, _, h2, h3⟩ => n_g2_g4.symm h3))
  have B_w8 := Lib.hid (below_grx B_w7.out hgx B_w7.out.size (fun k ⟨_, _, h2, h3⟩ => h3 ▸ low_g2))
  have g2_r : Hid (Blk w8 g2 79 #[.bool true, .string ⟨#[]⟩, .string ⟨#[]⟩, .string ⟨#[]⟩, .string ⟨#[]⟩, .slice none 0 0, .string ⟨#[]⟩]) := hBg2
  clear hBg2
  clear hgx
  go_wp2_with (first
    | (refine ev_store1 rfl 4 _ _ rfl g3 0 _ rfl (.bool true) rfl 4 g3_w8.out tsz4 (by simp) rfl rfl ?_; intro w9 hB hg hz
       have g1_w9 := Lib.hid (g1_w8.out.grown hg n_g1_g3)
       have g2_w9 := Lib.hid (g2_r.out.grown hg n_g2_g3)
       have g4_w9 := Lib.hid (g4_w8.out.grown hg n_g3_g4.symm)
       have B_w9 := Lib.hid (below_grown B_w8.out hg B_w8.out.size low_g3)
       have g3_w9 : Hid (Blk w9 g3 4 #[.bool true]) := hB
       clear hB hg hz)
    | (refine ev_store1 rfl 3 _ _ rfl g4 0 _ rfl (.int .i64 0) rfl 3 g4_w9.out tsz3 (by simp) rfl rfl ?_; intro w10 hB hg hz
       have g1_w10 := Lib.hid (g1_w9.out.grown hg n_g1_g4)
       have g2_w10 := Lib.hid (g2_w9.out.grown hg n_g2_g4)
       have g3_w10 := Lib.hid (g3_w9.out.grown hg n_g3_g4)
       have B_w10 := Lib.hid (below_grown B_w9.out hg B_w9.out.size low_g4)
       have g4_w10 : Hid (Blk w10 g4 3 #[.int .i64 0]) := hB
       clear hB hg hz))
  have rl0 : (loadVar 79 ⟨g2, 0, none⟩).run Try.prog w10 = .ok (.agg #[.bool true, .string ⟨#[]⟩, .string ⟨#[]⟩, .string ⟨#[]⟩, .string ⟨#[]⟩, .slice none 0 0, .string ⟨#[]⟩]) w10 := load_mid (P := Try.prog) _ 79 g2 0 79 _ g2_w10.out 7 (by simp) _ Try.underlying79 rfl tsz79
  have rl1 : (loadVar 4 ⟨g3, 0, none⟩).run Try.prog w10 = .ok (.bool true) w10 := load_one (P := Try.prog) _ 4 ⟨g3, 0, none⟩ (.bool true) (g3_w10.out.cell 0) _ Try.underlying4 rfl
  have rl2 : (loadVar 3 ⟨g4, 0, none⟩).run Try.prog w10 = .ok (.int .i64 0) w10 := load_one (P := Try.prog) _ 3 ⟨g4, 0, none⟩ (.int .i64 0) (g4_w10.out.cell 0) _ Try.underlying3 rfl
  refine leaves_catch (f := 94) (args := #[.pointer (some ⟨g2, 0, none⟩), .pointer (some ⟨g3, 0, none⟩), .pointer (some ⟨g4, 0, none⟩)]) (v := .tuple #[.agg #[.bool true, .string ⟨#[]⟩, .string ⟨#[]⟩, .string ⟨#[]⟩, .string ⟨#[]⟩, .slice none 0 0, .string ⟨#[]⟩], .bool true, .int .i64 0]) (by simp [go_sem]) (catch94 g2 g3 g4 _) (results3 Try.results46 ⟨_, rfl, rl0⟩ ⟨_, rfl, rl1⟩ ⟨_, rfl, rl2⟩) ?_
  exact ⟨rfl, B_w10.out⟩
theorem chTexts_same (A : Option Addr) (n c : Nat) (xs : List ByteArray) (A2 : Option Addr) (c2 : Nat) (n2 : Nat) (w : World) (h : Sl w A (strs xs)) (h2 : Sl w A2 (strs xs)) (hl : xs.length = n) (hl2 : xs.length = n2) :
    Calls Try.prog 100 #[.slice A n c, .slice A2 n2 c2] w fun e w' => e = .returned (.bool true) ∧ Below w.heap.size w w' := by
  subst hl
  subst hl2
  have := chTexts_any A c xs A2 c2 xs w h h2
  simpa using this
set_option maxRecDepth 100000 in
set_option maxHeartbeats 4000000 in
theorem chSameDep_eq (a b r d al : ByteArray) (A : Option Addr) (n c : Nat) (xs : List ByteArray) (A2 : Option Addr) (n2 c2 : Nat) (w : World) (h : Sl w A (strs xs)) (h2 : Sl w A2 (strs xs)) (hl : xs.length = n) (hl2 : xs.length = n2) :
    Calls Try.prog 48 #[.agg #[.bool false, .string a, .string b, .string r, .string d, .slice A n c, .string al], .agg #[.bool false, .string a, .string b, .string r, .string d, .slice A2 n2 c2, .string al]] w fun e w' => e = .returned (.bool true) ∧ Below w.heap.size w w' := by
  have H1 := Lib.hid h
  have H2 := Lib.hid h2
  clear h h2
  go_enter Try.func48, Try.ntmps48
  go_wp2_with (first
    | ((with_reducible refine at_dst (N := 2) rfl ?_); refine ev_box rfl 79 _ rfl _ rfl ?_; intro g2 w1 hg hB hb
       have low_g2 := Nat.le_trans (Nat.le_refl _) hg
       have B_w1 := Lib.hid (below_trans (Below.refl _ _) hb)
       have g2_w1 : Hid (Blk w1 g2 79 #[.bool false, .string a, .string b, .string r, .string d, .slice A n c, .string al]) := hB
       clear hB hb)
    | ((with_reducible refine at_dst (N := 3) rfl ?_); refine ev_box rfl 79 _ rfl _ rfl ?_; intro g3 w2 hg hB hb
       have n_g2_g3 : g2 ≠ g3 := by have := g2_w1.out.lt; omega
       have low_g3 := Nat.le_trans B_w1.out.size hg
       have g2_w2 := Lib.hid (g2_w1.out.below hb)
       have B_w2 := Lib.hid (below_trans B_w1.out hb)
       have g3_w2 : Hid (Blk w2 g3 79 #[.bool false, .string a, .string b, .string r, .string d, .slice A2 n2 c2, .string al]) := hB
       clear hB hb)
    | ((with_reducible refine at_dst (N := 6) rfl ?_); refine ev_ld rfl 4 _ rfl ⟨g2, 0, none⟩ rfl (.bool false) (g2_w2.out.cell 0) _ Try.underlying4 rfl ?_)
    | ((with_reducible refine at_dst (N := 8) rfl ?_); refine ev_ld rfl 4 _ rfl ⟨g3, 0, none⟩ rfl (.bool false) (g3_w2.out.cell 0) _ Try.underlying4 rfl ?_)
    | ((with_reducible refine at_dst (N := 12) rfl ?_); refine wl_guard rfl ?_; refine ev_ld rfl 9 _ rfl ⟨g2, 1, none⟩ rfl (.string a) (g2_w2.out.cell 1) _ Try.underlying9 rfl ?_)
    | ((with_reducible refine at_dst (N := 14) rfl ?_); refine wl_guard rfl ?_; refine ev_ld rfl 9 _ rfl ⟨g3, 1, none⟩ rfl (.string a) (g3_w2.out.cell 1) _ Try.underlying9 rfl ?_)
    | ((with_reducible refine at_dst (N := 19) rfl ?_); refine wl_guard rfl ?_; refine ev_ld rfl 9 _ rfl ⟨g2, 2, none⟩ rfl (.string b) (g2_w2.out.cell 2) _ Try.underlying9 rfl ?_)
    | ((with_reducible refine at_dst (N := 21) rfl ?_); refine wl_guard rfl ?_; refine ev_ld rfl 9 _ rfl ⟨g3, 2, none⟩ rfl (.string b) (g3_w2.out.cell 2) _ Try.underlying9 rfl ?_)
    | ((with_reducible refine at_dst (N := 26) rfl ?_); refine wl_guard rfl ?_; refine ev_ld rfl 9 _ rfl ⟨g2, 3, none⟩ rfl (.string r) (g2_w2.out.cell 3) _ Try.underlying9 rfl ?_)
    | ((with_reducible refine at_dst (N := 28) rfl ?_); refine wl_guard rfl ?_; refine ev_ld rfl 9 _ rfl ⟨g3, 3, none⟩ rfl (.string r) (g3_w2.out.cell 3) _ Try.underlying9 rfl ?_)
    | ((with_reducible refine at_dst (N := 33) rfl ?_); refine wl_guard rfl ?_; refine ev_ld rfl 9 _ rfl ⟨g2, 4, none⟩ rfl (.string d) (g2_w2.out.cell 4) _ Try.underlying9 rfl ?_)
    | ((with_reducible refine at_dst (N := 35) rfl ?_); refine wl_guard rfl ?_; refine ev_ld rfl 9 _ rfl ⟨g3, 4, none⟩ rfl (.string d) (g3_w2.out.cell 4) _ Try.underlying9 rfl ?_)
    | ((with_reducible refine at_dst (N := 40) rfl ?_); refine wl_guard rfl ?_; refine ev_ld rfl 9 _ rfl ⟨g2, 6, none⟩ rfl (.string al) (g2_w2.out.cell 6) _ Try.underlying9 rfl ?_)
    | ((with_reducible refine at_dst (N := 42) rfl ?_); refine wl_guard rfl ?_; refine ev_ld rfl 9 _ rfl ⟨g3, 6, none⟩ rfl (.string al) (g3_w2.out.cell 6) _ Try.underlying9 rfl ?_)
    | ((with_reducible refine at_dst (N := 47) rfl ?_); refine wl_guard rfl ?_; refine ev_ld rfl 22 _ rfl ⟨g2, 5, none⟩ rfl (.slice A n c) (g2_w2.out.cell 5) _ Try.underlying22 rfl ?_)
    | ((with_reducible refine at_dst (N := 49) rfl ?_); refine wl_guard rfl ?_; refine ev_ld rfl 22 _ rfl ⟨g3, 5, none⟩ rfl (.slice A2 n2 c2) (g3_w2.out.cell 5) _ Try.underlying22 rfl ?_)
    | (go_at_call 100; (with_reducible refine (chTexts_same A n c xs A2 c2 n2 _ (H1.out.below B_w2.out) (H2.out.below B_w2.out) hl hl2).mono ?_); rintro e w3 ⟨rfl, hb⟩
       have g2_w3 := Lib.hid (g2_w2.out.below hb)
       have g3_w3 := Lib.hid (g3_w2.out.below hb)
       have B_w3 := Lib.hid (below_trans B_w2.out hb)
       clear hb))
  (try simp only [Exit.inBlock, Exit.then])
  refine bodyPost_ret (v := .bool true) (results1 Try.results48 rfl) rfl ?_
  exact ⟨rfl, B_w3.out⟩
end Go.Proofs.Ytdgblfldbikneaa
