/- Contracts: spec.ChPerson, chPerson of none. -/
import Derived.Test.YtdgblfldbikneaaA5
import Derived.Test.YtdgblfldbikneaaWk
import Derived.Test.YtdgblfldbikneaaTz
namespace Go.Proofs.Ytdgblfldbikneaa
open Go.RowKit Go.Lib
set_option linter.unusedVariables false
set_option linter.unusedSimpArgs false
set_option maxRecDepth 100000 in
theorem specPers_some (a b c : ByteArray) (w : World) (ha : a.size ≤ 1000000) (hb0 : b.size ≤ 1000000) (hc : c.size ≤ 1000000) :
    Calls Try.prog 23 #[.agg #[.bool false, .string a, .string b, .string c]] w fun e w' => e = .returned (.tuple #[.agg #[.bool false, .string (cleanF a), .string (cleanF b), .string (cleanF c)], .bool true]) ∧ Below w.heap.size w w' := by
  have La := ha
  have Lb := hb0
  have Lc := hc
  clear ha hb0 hc
  go_enter Try.func23, Try.ntmps23
  go_upto_region 3 with (first
    | ((with_reducible refine at_dst (N := 1) rfl ?_); refine ev_box rfl 35 _ rfl _ rfl ?_; intro g1 w1 hg hB hb
       have low_g1 := Nat.le_trans (Nat.le_refl _) hg
       have B_w1 := Lib.hid (below_trans (Below.refl _ _) hb)
       have g1_w1 : Hid (Blk w1 g1 35 #[.bool false, .string a, .string b, .string c]) := hB
       clear hB hb)
    | ((with_reducible refine at_dst (N := 2) rfl ?_); refine ev_alloc rfl 35 rfl _ _ tz35 ?_; intro g2 w2 hg hB hb
       have n_g1_g2 : g1 ≠ g2 := by have := g1_w1.out.lt; omega
       have low_g2 := Nat.le_trans B_w1.out.size hg
       have g1_w2 := Lib.hid (g1_w1.out.below hb)
       have B_w2 := Lib.hid (below_trans B_w1.out hb)
       have g2_w2 : Hid (Blk w2 g2 35 #[.bool false, .string ⟨#[]⟩, .string ⟨#[]⟩, .string ⟨#[]⟩]) := hB
       clear hB hb)
    | ((with_reducible refine at_dst (N := 5) rfl ?_); refine ev_ld rfl 4 _ rfl ⟨g1, 0, none⟩ rfl (.bool false) (g1_w2.out.cell 0) _ Try.underlying4 rfl ?_))
  refine wp_region_grow [some [], some [(0, 7)], some [(1, 8)], some [], some [(3, 10)], some [(4, 11)], some [], some [(6, 13)], some [(7, 14)], some [], none, none, none, none, none]
      [fun v _ => v = .pointer (some ⟨g1, 1, none⟩),
       fun v _ => v = .string a,
       fun v _ => v = .string (cleanF a),
       fun v _ => v = .pointer (some ⟨g1, 2, none⟩),
       fun v _ => v = .string b,
       fun v _ => v = .string (cleanF b),
       fun v _ => v = .pointer (some ⟨g1, 3, none⟩),
       fun v _ => v = .string c,
       fun v _ => v = .string (cleanF c),
       fun v _ => v = .pointer (some ⟨g1, 1, none⟩),
       fun _ _ => True,
       fun _ _ => True,
       fun _ _ => True,
       fun _ _ => True,
       fun _ _ => True] 20 (by kernel_rfl) rfl rfl (by kernel_rfl) ?_ ?_ ?_
  · intro p hp
    simp only [List.mem_cons, List.not_mem_nil, or_false] at hp
    rcases hp with rfl | rfl | rfl | rfl | rfl | rfl | rfl | rfl | rfl | rfl | rfl | rfl | rfl | rfl | rfl
    · exact stab_eq _
    · exact stab_eq _
    · exact stab_eq _
    · exact stab_eq _
    · exact stab_eq _
    · exact stab_eq _
    · exact stab_eq _
    · exact stab_eq _
    · exact stab_eq _
    · exact stab_eq _
    · exact stab_true
    · exact stab_true
    · exact stab_true
    · exact stab_true
    · exact stab_true
  · simp only [oblGo, obl1, withDeps, oblK, postAt, List.getD_cons_zero, List.getD_cons_succ, forall_eq]
    refine ⟨?_, ?_, ?_, ?_, ?_, ?_, ?_, ?_, ?_, ?_, trivial⟩
    · intro wg hg
      go_simp
    · intro wg hg
      exact gr_ld 9 _ rfl ⟨g1, 1, none⟩ rfl (.string a) ((g1_w2.out.below hg).cell 1) _ Try.underlying9 rfl rfl
    · intro wg hg
      go_simp
      exact (chClean_any a _ La).mono fun _ _ h => h
    · intro wg hg
      go_simp
    · intro wg hg
      exact gr_ld 9 _ rfl ⟨g1, 2, none⟩ rfl (.string b) ((g1_w2.out.below hg).cell 2) _ Try.underlying9 rfl rfl
    · intro wg hg
      go_simp
      exact (chClean_any b _ Lb).mono fun _ _ h => h
    · intro wg hg
      go_simp
    · intro wg hg
      exact gr_ld 9 _ rfl ⟨g1, 3, none⟩ rfl (.string c) ((g1_w2.out.below hg).cell 3) _ Try.underlying9 rfl rfl
    · intro wg hg
      go_simp
      exact (chClean_any c _ Lc).mono fun _ _ h => h
    · intro wg hg
      go_simp
  simp only [headDs, withDeps, postAt, List.getD_cons_zero, List.getD_cons_succ, forall_eq, tailOps]
  intro w3 hgr
  simp only [Act.put, List.setIfInBounds_toArray, List.set_cons_succ, List.set_cons_zero]
  have g1_w3 := Lib.hid (g1_w2.out.below (show Below _ _ _ from hgr))
  have g2_w3 := Lib.hid (g2_w2.out.below (show Below _ _ _ from hgr))
  have B_w3 := Lib.hid (below_trans B_w2.out (show Below _ _ _ from hgr))
  clear hgr
  go_wp2_with (first
    | (refine ev_store1 rfl 9 _ _ rfl g1 1 _ rfl (.string (cleanF a)) rfl 35 g1_w3.out tsz9 (by simp) rfl rfl ?_; intro w4 hB hg hz
       have g2_w4 := Lib.hid (g2_w3.out.grown hg n_g1_g2.symm)
       have B_w4 := Lib.hid (below_grown B_w3.out hg B_w3.out.size low_g1)
       have g1_w4 : Hid (Blk w4 g1 35 #[.bool false, .string (cleanF a), .string b, .string c]) := hB
       clear hB hg hz)
    | (refine ev_store1 rfl 9 _ _ rfl g1 2 _ rfl (.string (cleanF b)) rfl 35 g1_w4.out tsz9 (by simp) rfl rfl ?_; intro w5 hB hg hz
       have g2_w5 := Lib.hid (g2_w4.out.grown hg n_g1_g2.symm)
       have B_w5 := Lib.hid (below_grown B_w4.out hg B_w4.out.size low_g1)
       have g1_w5 : Hid (Blk w5 g1 35 #[.bool false, .string (cleanF a), .string (cleanF b), .string c]) := hB
       clear hB hg hz)
    | (refine ev_store1 rfl 9 _ _ rfl g1 3 _ rfl (.string (cleanF c)) rfl 35 g1_w5.out tsz9 (by simp) rfl rfl ?_; intro w6 hB hg hz
       have g2_w6 := Lib.hid (g2_w5.out.grown hg n_g1_g2.symm)
       have B_w6 := Lib.hid (below_grown B_w5.out hg B_w5.out.size low_g1)
       have g1_w6 : Hid (Blk w6 g1 35 #[.bool false, .string (cleanF a), .string (cleanF b), .string (cleanF c)]) := hB
       clear hB hg hz)
    | ((with_reducible refine at_dst (N := 19) rfl ?_); refine ev_loadB rfl 35 _ rfl g1 rfl 35 _ g1_w6.out _ Try.underlying35 rfl tsz35 ?_)
    | (refine ev_store rfl 35 _ _ rfl g2 _ _ rfl rfl 35 g2_w6.out tsz35 rfl rfl ?_; intro w7 hB hg hz
       have g1_w7 := Lib.hid (g1_w6.out.grown hg n_g1_g2)
       have B_w7 := Lib.hid (below_grown B_w6.out hg B_w6.out.size low_g2)
       have g2_w7 : Hid (Blk w7 g2 35 #[.bool false, .string (cleanF a), .string (cleanF b), .string (cleanF c)]) := hB
       clear hB hg hz))
  have rl0 : (loadVar 35 ⟨g2, 0, none⟩).run Try.prog w7 = .ok (.agg #[.bool false, .string (cleanF a), .string (cleanF b), .string (cleanF c)]) w7 := load_mid (P := Try.prog) _ 35 g2 0 35 _ g2_w7.out 4 (by simp) _ Try.underlying35 rfl tsz35
  (try simp only [Exit.inBlock, Exit.then])
  refine bodyPost_ret (v := .tuple #[.agg #[.bool false, .string (cleanF a), .string (cleanF b), .string (cleanF c)], .bool true]) (results2 Try.results23 ⟨_, rfl, rl0⟩ rfl) rfl ?_
  exact ⟨rfl, B_w7.out⟩
set_option maxRecDepth 100000 in
theorem specPers_nil (a b c : ByteArray) (w : World) :
    Calls Try.prog 23 #[.agg #[.bool true, .string a, .string b, .string c]] w fun e w' => e = .returned (.tuple #[.agg #[.bool true, .string a, .string b, .string c], .bool false]) ∧ Below w.heap.size w w' := by
  go_enter Try.func23, Try.ntmps23
  go_wp2_with (first
    | ((with_reducible refine at_dst (N := 1) rfl ?_); refine ev_box rfl 35 _ rfl _ rfl ?_; intro g1 w1 hg hB hb
       have low_g1 := Nat.le_trans (Nat.le_refl _) hg
       have B_w1 := Lib.hid (below_trans (Below.refl _ _) hb)
       have g1_w1 : Hid (Blk w1 g1 35 #[.bool true, .string a, .string b, .string c]) := hB
       clear hB hb)
    | ((with_reducible refine at_dst (N := 2) rfl ?_); refine ev_alloc rfl 35 rfl _ _ tz35 ?_; intro g2 w2 hg hB hb
       have n_g1_g2 : g1 ≠ g2 := by have := g1_w1.out.lt; omega
       have low_g2 := Nat.le_trans B_w1.out.size hg
       have g1_w2 := Lib.hid (g1_w1.out.below hb)
       have B_w2 := Lib.hid (below_trans B_w1.out hb)
       have g2_w2 : Hid (Blk w2 g2 35 #[.bool false, .string ⟨#[]⟩, .string ⟨#[]⟩, .string ⟨#[]⟩]) := hB
       clear hB hb)
    | ((with_reducible refine at_dst (N := 5) rfl ?_); refine ev_ld rfl 4 _ rfl ⟨g1, 0, none⟩ rfl (.bool true) (g1_w2.out.cell 0) _ Try.underlying4 rfl ?_)
    | ((with_reducible refine at_dst (N := 6) rfl ?_); refine ev_loadB rfl 35 _ rfl g1 rfl 35 _ g1_w2.out _ Try.underlying35 rfl tsz35 ?_)
    | (refine ev_store rfl 35 _ _ rfl g2 _ _ rfl rfl 35 g2_w2.out tsz35 rfl rfl ?_; intro w3 hB hg hz
       have g1_w3 := Lib.hid (g1_w2.out.grown hg n_g1_g2)
       have B_w3 := Lib.hid (below_grown B_w2.out hg B_w2.out.size low_g2)
       have g2_w3 : Hid (Blk w3 g2 35 #[.bool true, .string a, .string b, .string c]) := hB
       clear hB hg hz))
  have rl0 : (loadVar 35 ⟨g2, 0, none⟩).run Try.prog w3 = .ok (.agg #[.bool true, .string a, .string b, .string c]) w3 := load_mid (P := Try.prog) _ 35 g2 0 35 _ g2_w3.out 4 (by simp) _ Try.underlying35 rfl tsz35
  (try simp only [Exit.inBlock, Exit.then])
  refine bodyPost_ret (v := .tuple #[.agg #[.bool true, .string a, .string b, .string c], .bool false]) (results2 Try.results23 ⟨_, rfl, rl0⟩ rfl) rfl ?_
  exact ⟨rfl, B_w3.out⟩
set_option maxRecDepth 100000 in
theorem chPers_nil (a b c : ByteArray) (w : World) :
    Calls Try.prog 21 #[.agg #[.bool true, .string a, .string b, .string c]] w fun e w' => e = .returned (.agg #[.bool true, .string ⟨#[]⟩, .string ⟨#[]⟩, .string ⟨#[]⟩]) ∧ Below w.heap.size w w' := by
  go_enter Try.func21, Try.ntmps21
  go_wp2_with (first
    | ((with_reducible refine at_dst (N := 1) rfl ?_); refine ev_box rfl 35 _ rfl _ rfl ?_; intro g1 w1 hg hB hb
       have low_g1 := Nat.le_trans (Nat.le_refl _) hg
       have B_w1 := Lib.hid (below_trans (Below.refl _ _) hb)
       have g1_w1 : Hid (Blk w1 g1 35 #[.bool true, .string a, .string b, .string c]) := hB
       clear hB hb)
    | ((with_reducible refine at_dst (N := 2) rfl ?_); refine ev_alloc rfl 35 rfl _ _ tz35 ?_; intro g2 w2 hg hB hb
       have n_g1_g2 : g1 ≠ g2 := by have := g1_w1.out.lt; omega
       have low_g2 := Nat.le_trans B_w1.out.size hg
       have g1_w2 := Lib.hid (g1_w1.out.below hb)
       have B_w2 := Lib.hid (below_trans B_w1.out hb)
       have g2_w2 : Hid (Blk w2 g2 35 #[.bool false, .string ⟨#[]⟩, .string ⟨#[]⟩, .string ⟨#[]⟩]) := hB
       clear hB hb)
    | ((with_reducible refine at_dst (N := 4) rfl ?_); refine ev_ld rfl 4 _ rfl ⟨g1, 0, none⟩ rfl (.bool true) (g1_w2.out.cell 0) _ Try.underlying4 rfl ?_)
    | (refine ev_store rfl 35 _ _ rfl g2 _ _ rfl rfl 35 g2_w2.out tsz35 rfl rfl ?_; intro w3 hB hg hz
       have g1_w3 := Lib.hid (g1_w2.out.grown hg n_g1_g2)
       have B_w3 := Lib.hid (below_grown B_w2.out hg B_w2.out.size low_g2)
       have g2_w3 : Hid (Blk w3 g2 35 #[.bool true, .string ⟨#[]⟩, .string ⟨#[]⟩, .string ⟨#[]⟩]) := hB
       clear hB hg hz))
  have rl0 : (loadVar 35 ⟨g2, 0, none⟩).run Try.prog w3 = .ok (.agg #[.bool true, .string ⟨#[]⟩, .string ⟨#[]⟩, .string ⟨#[]⟩]) w3 := load_mid (P := Try.prog) _ 35 g2 0 35 _ g2_w3.out 4 (by simp) _ Try.underlying35 rfl tsz35
  (try simp only [Exit.inBlock, Exit.then])
  refine bodyPost_ret (v := .agg #[.bool true, .string ⟨#[]⟩, .string ⟨#[]⟩, .string ⟨#[]⟩]) (results1 Try.results21 ⟨_, rfl, rl0⟩) rfl ?_
  exact ⟨rfl, B_w3.out⟩
end Go.Proofs.Ytdgblfldbikneaa
