/- Lists of repositories: told, NewFile, reposDone. -/
import Derived.Test.YtkjcedlgljeoiaaRP2
namespace Go.Proofs.Ytkjcedlgljeoiaa
open Go.RowKit Go.Lib
set_option linter.unusedVariables false
set_option linter.unusedSimpArgs false
set_option maxRecDepth 100000 in
set_option maxHeartbeats 4000000 in
theorem rTold_any (A : Option Addr) (m : Nat) (c : Nat) (ps : List Nat) (l : List Ty52) (w : World) (h0 : Sl w (A) (ptrs ps)) (h1 : Pl RepAt w (ps) (l)) (hml : l.length = m) (hn : m ≤ 1000000) :
    Calls Try.prog 142 #[.slice (A) (m) (c)] w fun e w' => ∃ A2 : Option Addr, ∃ c2 : Nat, e = .returned (.slice A2 (m) c2) ∧ World.ownsRow w' w.heap.size 52 2 (.slice A2 m c2) (m) (flatC Ty52.cells l) ∧ Below w.heap.size w w' := by
  have hl_ps : ps.length ≤ 9223372036854775807 := by have := h0.1; simpa [strs, ptrs] using this
  have hlp_1 := h1.1
  have H0 := Lib.hid h0
  clear h0
  have H1 := Lib.hid h1
  clear h1
  suffices hQ : ∀ Q : Ending → World → Prop, Hid (∀ (e : Ending) (w' : World), (∃ A2 : Option Addr, ∃ c2 : Nat, e = .returned (.slice A2 (m) c2) ∧ World.ownsRow w' w.heap.size 52 2 (.slice A2 m c2) (m) (flatC Ty52.cells l) ∧ Below w.heap.size w w') → Post1 Q e w') → Calls Try.prog 142 #[.slice (A) (m) (c)] w (fun e w' => Post1 Q e w') from hQ (fun e w' => ∃ A2 : Option Addr, ∃ c2 : Nat, e = .returned (.slice A2 (m) c2) ∧ World.ownsRow w' w.heap.size 52 2 (.slice A2 m c2) (m) (flatC Ty52.cells l) ∧ Below w.heap.size w w') (fun _ _ h => by unfold Post1; exact h)
  intro Q HQ
  go_enter Try.func142, Try.ntmps142
  go_wp2_with fail
  go_loopw [3, 8] (fun v3 v8 wr => ∃ k : Nat, (k ≤ m) ∧ v8 = .int .i64 (↑k) ∧ Hid (World.ownsRow wr w.heap.size 52 2 v3 k (flatC Ty52.cells (l.take k))) ∧ Hid (Below w.heap.size w wr)) (fun v3 v8 _ => m - (intOf v8).toNat)
  case atStart => exact ⟨0, (by omega), rfl, (own_nil _ _ _ _), (Below.refl _ _)⟩
  case round =>
    obtain ⟨k, hk, rfl, L0_o3, L0_B⟩ := hrel
    by_cases hlt_k : k < m
    · obtain ⟨ad_k, rfl⟩ := (H0.out.below L0_B.out).addr (by simp [strs, ptrs]; omega)
      have hkl : k < l.length := by omega
      obtain ⟨hkp, hR⟩ := Pl.get (Pl.map H1.out fun _ _ q => RepAt.below q L0_B.out) hkl
      have hG := Lib.hid (show Blk wr ps[k] 221 #[.string l[k].fName, .string l[k].fURL] from hR)
      clear hR
      go_upto_region 5 with (first
        | ((with_reducible refine at_dst (N := 11) rfl ?_); refine ev_ld rfl 219 _ rfl _ rfl (.pointer (some ⟨ps[k], 0, none⟩)) ((H0.out.below L0_B.out).el (j := k) (ptrs_get hkp)) _ Try.underlying219 rfl ?_))
      refine wp_region_grow [some [], some [], some [(1, 13)], some [(2, 14)], some [(3, 15)], some [], some [(5, 17)], some [(6, 18)], some [(7, 19)], some [(4, 16), (8, 20)], some [(9, 21)], none, none]
          [fun vv _ => vv = u3,
           fun vv _ => vv = .pointer (some ⟨ps[k], 0, none⟩),
           fun vv _ => vv = .pointer (some ⟨ps[k], 0, none⟩),
           fun vv _ => vv = .pointer (some ⟨ps[k], 0, none⟩),
           fun vv _ => vv = .string l[k].fName,
           fun vv _ => vv = .pointer (some ⟨ps[k], 0, none⟩),
           fun vv _ => vv = .pointer (some ⟨ps[k], 0, none⟩),
           fun vv _ => vv = .pointer (some ⟨ps[k], 1, none⟩),
           fun vv _ => vv = .string l[k].fURL,
           fun vv _ => vv = .agg #[.string l[k].fName, .string l[k].fURL],
           fun v w' => ∃ g, v = .slice (some ⟨g, 0, none⟩) 1 1 ∧ wr.heap.size ≤ g ∧ Blk w' g 52 #[.string l[k].fName, .string l[k].fURL],
           fun _ _ => True,
           fun _ _ => True] 26 (by kernel_rfl) rfl rfl (by kernel_rfl) ?_ ?_ ?_
      · intro p hp
        simp only [List.mem_cons, List.not_mem_nil, or_false] at hp
        rcases hp with rfl | rfl | rfl | rfl | rfl | rfl | rfl | rfl | rfl | rfl | rfl | rfl | rfl
        · exact stab_eq _
        · exact stab_eq _
        · exact stab_eq _
        · exact stab_eq _
        · exact stab_eq _
        · exact stab_eq _
        · exact stab_eq _
        · exact stab_eq _
        · exact stab_eq _
        · exact stab_eq _
        · exact stab_blk (F := fun g => .slice (some ⟨g, 0, none⟩) 1 1)
        · exact stab_true
        · exact stab_true
      · simp only [oblGo, obl1, withDeps, oblK, postAt, List.getD_cons_zero, List.getD_cons_succ, forall_eq]
        refine ⟨?_, ?_, ?_, ?_, ?_, ?_, ?_, ?_, ?_, ?_, ?_, trivial⟩
        · intro wg hg
          go_simp
        · intro wg hg
          go_simp
        · intro wg hg
          go_simp
        · intro wg hg
          go_simp
        · intro wg hg
          exact gr_ld 9 _ rfl ⟨ps[k], 0, none⟩ rfl (.string l[k].fName) ((hG.out.below hg).cell 0) _ Try.underlying9 rfl rfl
        · intro wg hg
          go_simp
        · intro wg hg
          go_simp
        · intro wg hg
          go_simp
        · intro wg hg
          exact gr_ld 9 _ rfl ⟨ps[k], 1, none⟩ rfl (.string l[k].fURL) ((hG.out.below hg).cell 1) _ Try.underlying9 rfl rfl
        · intro wg hg
          go_simp
        · intro wg hg
          exact gr_bs 52 1 #[.string l[k].fName, .string l[k].fURL] (by go_simp) fun g w1 hg1 hB hb => ⟨g, rfl, Nat.le_trans hg.bel.size hg1, hB⟩
      simp only [headDs, withDeps, postAt, List.getD_cons_zero, List.getD_cons_succ, forall_eq, tailOps]
      intro w1 hgr
      rintro _ ⟨g22, rfl, lo_g22, hB_g22⟩
      simp only [Act.put, List.setIfInBounds_toArray, List.set_cons_succ, List.set_cons_zero]
      have nr_o3_g22 := own_fresh' L0_o3.out lo_g22
      have n_ps_k__g22 : ps[k] ≠ g22 := by have := hG.out.lt; omega
      have low_g22 := Nat.le_trans L0_B.out.size lo_g22
      have o3_w1 := Lib.hid (own_below L0_o3.out (show Below _ _ _ from hgr))
      have ps_k__w1 := Lib.hid (hG.out.below (show Below _ _ _ from hgr))
      have B_w1 := Lib.hid (below_trans L0_B.out (show Below _ _ _ from hgr))
      have g22_w1 : Hid (Blk w1 g22 52 #[.string l[k].fName, .string l[k].fURL]) := hB_g22
      clear hB_g22 lo_g22
      clear hgr
      go_wp2_with (first
        | ((with_reducible refine at_dst (N := 23) rfl ?_); refine ev_app rfl _ _ 48 52 rfl Try.underlying48 _ 2 _ tin52 rfl (by omega) w.heap.size _ _ _ rfl o3_w1.out _ 1 _ [.string l[k].fName, .string l[k].fURL] rfl (g22_w1.out.sl (by simp)) rfl (by simp [Value.oneCell']) (by omega) (by omega) B_w1.out.size ?_; intro v23_w2 w2 ho1 hg1 hat1
           have hx := GrX.row (S := fun k => (u3 : Value).ownBlock = some k) hg1 (fun g h => h)
           have ps_k__w2 := Lib.hid (ps_k__w1.out.grx hx (own_ne o3_w1.out ps_k__w1.out (by decide)))
           have B_w2 := Lib.hid (below_grx B_w1.out hx B_w1.out.size (fun k => (fun e => own_ge o3_w1.out k e)))
           obtain ⟨A23_w2, c23_w2, rfl, _⟩ := own_form ho1
           have o3_w2 := Lib.hid ho1
           clear ho1 hg1 hat1 hx))
      refine ⟨⟨k + 1, (by omega), by go_num, by show World.ownsRow _ _ _ _ _ _ _; rw [take_snoc hkl, flatC_snoc]; exact o3_w2.out, B_w2⟩, ?_⟩
      simp [intOf]; omega
    · obtain rfl : m = k := by omega
      have hall : l.take m = l := List.take_of_length_le (by omega)
      rw [hall] at L0_o3
      obtain ⟨A2, c2, e2, _⟩ := own_form L0_o3.out
      subst e2
      go_wp2_with fail
      go_ret
      exact HQ.out _ _ ⟨A2, c2, rfl, L0_o3.out, L0_B.out⟩
set_option maxRecDepth 100000 in
set_option maxHeartbeats 4000000 in
theorem rNew_any  (w : World)   :
    Calls Try.prog 75 #[] w fun e w' => ∃ gf : Nat, ∃ A : Option Addr, ∃ c : Nat, e = .returned (.pointer (some ⟨gf, 0, none⟩)) ∧ w.heap.size ≤ gf ∧ Blk w' gf 218 #[.string ⟨#[118, 49]⟩, .slice A ([] : List Ty52).length c] ∧ World.ownsRow w' w.heap.size 219 1 (.slice A ([] : List Ty52).length c) (([] : List Ty52).length) (ptrs []) ∧ Below w.heap.size w w' := by
  suffices hQ : ∀ Q : Ending → World → Prop, Hid (∀ (e : Ending) (w' : World), (∃ gf : Nat, ∃ A : Option Addr, ∃ c : Nat, e = .returned (.pointer (some ⟨gf, 0, none⟩)) ∧ w.heap.size ≤ gf ∧ Blk w' gf 218 #[.string ⟨#[118, 49]⟩, .slice A ([] : List Ty52).length c] ∧ World.ownsRow w' w.heap.size 219 1 (.slice A ([] : List Ty52).length c) (([] : List Ty52).length) (ptrs []) ∧ Below w.heap.size w w') → Post1 Q e w') → Calls Try.prog 75 #[] w (fun e w' => Post1 Q e w') from hQ (fun e w' => ∃ gf : Nat, ∃ A : Option Addr, ∃ c : Nat, e = .returned (.pointer (some ⟨gf, 0, none⟩)) ∧ w.heap.size ≤ gf ∧ Blk w' gf 218 #[.string ⟨#[118, 49]⟩, .slice A ([] : List Ty52).length c] ∧ World.ownsRow w' w.heap.size 219 1 (.slice A ([] : List Ty52).length c) (([] : List Ty52).length) (ptrs []) ∧ Below w.heap.size w w') (fun _ _ h => by unfold Post1; exact h)
  intro Q HQ
  go_enter Try.func75, Try.ntmps75
  go_wp2_with (first
    | ((with_reducible refine at_dst (N := 1) rfl ?_); refine ev_bs rfl 216 219 0 _ rfl #[] (by go_simp) ?_; intro g1 w1 hg hB hb
       have low_g1 := Nat.le_trans (Nat.le_refl _) hg
       have B_w1 := Lib.hid (below_trans (Below.refl _ _) hb)
       have g1_w1 : Hid (Blk w1 g1 219 #[]) := hB
       clear hB hb)
    | ((with_reducible refine at_dst (N := 3) rfl ?_); refine ev_box rfl 218 _ rfl _ rfl ?_; intro g3 w2 hg hB hb
       have n_g1_g3 : g1 ≠ g3 := by have := g1_w1.out.lt; omega
       have low_g3 := Nat.le_trans B_w1.out.size hg
       have g1_w2 := Lib.hid (g1_w1.out.below hb)
       have B_w2 := Lib.hid (below_trans B_w1.out hb)
       have g3_w2 : Hid (Blk w2 g3 218 #[.string ⟨#[118, 49]⟩, .slice (some ⟨g1, 0, none⟩) 0 0]) := hB
       clear hB hb))
  go_ret
  exact HQ.out _ _ ⟨_, _, _, rfl, low_g3, g3_w2.out, own_of_blk (sz := 1) (n := 0) g1_w2.out low_g1 rfl (by omega), B_w2.out⟩
end Go.Proofs.Ytkjcedlgljeoiaa
