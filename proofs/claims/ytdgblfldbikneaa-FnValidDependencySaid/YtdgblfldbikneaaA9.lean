/- Contracts: chDependency, ChDependency, dependencyOf, dependencyTold. -/
import Derived.Test.YtdgblfldbikneaaA8
import Derived.Test.YtdgblfldbikneaaW2
namespace Go.Proofs.Ytdgblfldbikneaa
open Go.RowKit Go.Lib
set_option linter.unusedVariables false
set_option linter.unusedSimpArgs false
set_option maxRecDepth 100000 in
set_option maxHeartbeats 2000000 in
theorem chDep_some (a b r d al : ByteArray) (A : Option Addr) (c : Nat) (tags : List ByteArray) (w : World) (ha : a.size ≤ 9223372036854775807) (hb0 : b.size ≤ 9223372036854775807) (hr : r.size ≤ 9223372036854775807) (hd : d.size ≤ 9223372036854775807) (hal : al.size ≤ 9223372036854775807) (ht : ∀ x ∈ tags, x.size ≤ 9223372036854775807) (h : Sl w A (strs tags)) :
    Calls Try.prog 45 #[.agg #[.bool false, .string a, .string b, .string r, .string d, .slice A tags.length c, .string al]] w fun e w' => ∃ A' c', e = .returned (.agg #[.bool false, .string (ascF a), .string (ascF b), .string (ascF r), .string (ascF d), .slice A' ((someF tags).length) c', .string (ascF al)]) ∧ w'.ownsRow w.heap.size 9 1 (.slice A' (someF tags).length c') (someF tags).length (strs (someF tags)) ∧ Below w.heap.size w w' := by
  have La := ha
  have Lb := hb0
  have Lr := hr
  have Ld := hd
  have Lal := hal
  have HT := Lib.hid ht
  have HS := Lib.hid h
  clear ha hb0 hr hd hal ht h
  go_enter Try.func45, Try.ntmps45
  go_upto_region 3 with (first
    | ((with_reducible refine at_dst (N := 1) rfl ?_); refine ev_box rfl 79 _ rfl _ rfl ?_; intro g1 w1 hg hB hb
       have low_g1 := Nat.le_trans (Nat.le_refl _) hg
       have B_w1 := Lib.hid (below_trans (Below.refl _ _) hb)
       have g1_w1 : Hid (Blk w1 g1 79 #[.bool false, .string a, .string b, .string r, .string d, .slice A tags.length c, .string al]) := hB
       clear hB hb)
    | ((with_reducible refine at_dst (N := 2) rfl ?_); refine ev_alloc rfl 79 rfl _ _ tz79 ?_; intro g2 w2 hg hB hb
       have n_g1_g2 : g1 ≠ g2 := by have := g1_w1.out.lt; omega
       have low_g2 := Nat.le_trans B_w1.out.size hg
       have g1_w2 := Lib.hid (g1_w1.out.below hb)
       have B_w2 := Lib.hid (below_trans B_w1.out hb)
       have g2_w2 : Hid (Blk w2 g2 79 #[.bool false, .string ⟨#[]⟩, .string ⟨#[]⟩, .string ⟨#[]⟩, .string ⟨#[]⟩, .slice none 0 0, .string ⟨#[]⟩]) := hB
       clear hB hb)
    | ((with_reducible refine at_dst (N := 4) rfl ?_); refine ev_ld rfl 4 _ rfl ⟨g1, 0, none⟩ rfl (.bool false) (g1_w2.out.cell 0) _ Try.underlying4 rfl ?_))
  refine wp_region_grow [some [], some [(0, 6)], some [(1, 7)], some [], some [(3, 9)], some [(4, 10)], some [], some [(6, 12)], some [(7, 13)], some [], some [(9, 15)], some [(10, 16)], some [], some [(12, 18)], some [(13, 19)], some [], some [(15, 21)], none, none, none]
      [fun v _ => v = .pointer (some ⟨g1, 1, none⟩),
       fun v _ => v = .string a,
       fun v _ => v = .string (ascF a),
       fun v _ => v = .pointer (some ⟨g1, 2, none⟩),
       fun v _ => v = .string b,
       fun v _ => v = .string (ascF b),
       fun v _ => v = .pointer (some ⟨g1, 3, none⟩),
       fun v _ => v = .string r,
       fun v _ => v = .string (ascF r),
       fun v _ => v = .pointer (some ⟨g1, 4, none⟩),
       fun v _ => v = .string d,
       fun v _ => v = .string (ascF d),
       fun v _ => v = .pointer (some ⟨g1, 5, none⟩),
       fun v _ => v = .slice A tags.length c,
       fun v w' => w'.ownsRow w.heap.size 9 1 v (someF tags).length (strs (someF tags)),
       fun v _ => v = .pointer (some ⟨g1, 6, none⟩),
       fun v _ => v = .string al,
       fun _ _ => True,
       fun _ _ => True,
       fun _ _ => True] 25 (by kernel_rfl) rfl rfl (by kernel_rfl) ?_ ?_ ?_
  · intro p hp
    simp only [List.mem_cons, List.not_mem_nil, or_false] at hp
    rcases hp with rfl | rfl | rfl | rfl | rfl | rfl | rfl | rfl | rfl | rfl | rfl | rfl | rfl | rfl | rfl | rfl | rfl | rfl | rfl | rfl
    · exact stab_eq _
    · exact stab_eq _
    · exact stab_eq _
    · exact stab_eq _
    · exact stab_eq _
    · exact stab_eq _
    · exact stab_eq _
    · exact stab_eq _
    · exact stab_eq _
    · exact stab_eq _
    · exact stab_eq _
    · exact stab_eq _
    · exact stab_eq _
    · exact stab_eq _
    · exact stab_own
    · exact stab_eq _
    · exact stab_eq _
    · exact stab_true
    · exact stab_true
    · exact stab_true
  · simp only [oblGo, obl1, withDeps, oblK, postAt, List.getD_cons_zero, List.getD_cons_succ, forall_eq]
    refine ⟨?_, ?_, ?_, ?_, ?_, ?_, ?_, ?_, ?_, ?_, ?_, ?_, ?_, ?_, ?_, ?_, ?_, trivial⟩
    · intro wg hg
      go_simp
    · intro wg hg
      exact gr_ld 9 _ rfl ⟨g1, 1, none⟩ rfl (.string a) ((g1_w2.out.below hg).cell 1) _ Try.underlying9 rfl rfl
    · intro wg hg
      go_simp
      exact (chAscii_any a _ La).mono fun _ _ h => h
    · intro wg hg
      go_simp
    · intro wg hg
      exact gr_ld 9 _ rfl ⟨g1, 2, none⟩ rfl (.string b) ((g1_w2.out.below hg).cell 2) _ Try.underlying9 rfl rfl
    · intro wg hg
      go_simp
      exact (chAscii_any b _ Lb).mono fun _ _ h => h
    · intro wg hg
      go_simp
    · intro wg hg
      exact gr_ld 9 _ rfl ⟨g1, 3, none⟩ rfl (.string r) ((g1_w2.out.below hg).cell 3) _ Try.underlying9 rfl rfl
    · intro wg hg
      go_simp
      exact (chAscii_any r _ Lr).mono fun _ _ h => h
    · intro wg hg
      go_simp
    · intro wg hg
      exact gr_ld 9 _ rfl ⟨g1, 4, none⟩ rfl (.string d) ((g1_w2.out.below hg).cell 4) _ Try.underlying9 rfl rfl
    · intro wg hg
      go_simp
      exact (chAscii_any d _ Ld).mono fun _ _ h => h
    · intro wg hg
      go_simp
    · intro wg hg
      exact gr_ld 22 _ rfl ⟨g1, 5, none⟩ rfl (.slice A tags.length c) ((g1_w2.out.below hg).cell 5) _ Try.underlying22 rfl rfl
    · intro wg hg
      go_simp
      exact (chSome_any A c tags _ ((HS.out.below B_w2.out).below hg) HT.out).mono fun e w' ⟨v, h1, h2, h3⟩ => ⟨v, h1, h3, own_mono h2 (below_trans B_w2.out hg).size⟩
    · intro wg hg
      go_simp
    · intro wg hg
      exact gr_ld 9 _ rfl ⟨g1, 6, none⟩ rfl (.string al) ((g1_w2.out.below hg).cell 6) _ Try.underlying9 rfl rfl
  simp only [headDs, withDeps, postAt, List.getD_cons_zero, List.getD_cons_succ, forall_eq, tailOps]
  intro w3 hgr
  rintro v20 ho20
  simp only [Act.put, List.setIfInBounds_toArray, List.set_cons_succ, List.set_cons_zero]
  have g1_w3 := Lib.hid (g1_w2.out.below (show Below _ _ _ from hgr))
  have g2_w3 := Lib.hid (g2_w2.out.below (show Below _ _ _ from hgr))
  have B_w3 := Lib.hid (below_trans B_w2.out (show Below _ _ _ from hgr))
  obtain ⟨A20, c20, rfl, hA20⟩ := own_form ho20
  have own20 := Lib.hid ho20
  clear ho20
  clear hgr
  go_wp2_with (first
    | (go_at_call 25; (with_reducible refine (chAscii_any al _ Lal).mono ?_); rintro e w4 ⟨rfl, hb⟩
       have g1_w4 := Lib.hid (g1_w3.out.below hb)
       have g2_w4 := Lib.hid (g2_w3.out.below hb)
       have own20_w4 := Lib.hid (own_below own20.out hb)
       have B_w4 := Lib.hid (below_trans B_w3.out hb)
       clear hb)
    | (refine ev_store rfl 79 _ _ rfl g2 _ _ rfl rfl 79 g2_w4.out tsz79 rfl rfl ?_; intro w5 hB hg hz
       have g1_w5 := Lib.hid (g1_w4.out.grown hg n_g1_g2)
       have own20_w5 := Lib.hid (own_grown own20_w4.out hg (own_ne own20_w4.out g2_w4.out (by decide)))
       have B_w5 := Lib.hid (below_grown B_w4.out hg B_w4.out.size low_g2)
       have g2_w5 : Hid (Blk w5 g2 79 #[.bool false, .string (ascF a), .string (ascF b), .string (ascF r), .string (ascF d), .slice A20 ((someF tags).length) c20, .string (ascF al)]) := hB
       clear hB hg hz))
  have rl0 : (loadVar 79 ⟨g2, 0, none⟩).run Try.prog w5 = .ok (.agg #[.bool false, .string (ascF a), .string (ascF b), .string (ascF r), .string (ascF d), .slice A20 ((someF tags).length) c20, .string (ascF al)]) w5 := load_mid (P := Try.prog) _ 79 g2 0 79 _ g2_w5.out 7 (by simp) _ Try.underlying79 rfl tsz79
  (try simp only [Exit.inBlock, Exit.then])
  refine bodyPost_ret (v := .agg #[.bool false, .string (ascF a), .string (ascF b), .string (ascF r), .string (ascF d), .slice A20 ((someF tags).length) c20, .string (ascF al)]) (results1 Try.results45 ⟨_, rfl, rl0⟩) rfl ?_
  exact ⟨_, _, rfl, own20_w5.out, B_w5.out⟩
set_option maxRecDepth 100000 in
set_option maxHeartbeats 2000000 in
theorem chDep_nil (a b r d al : ByteArray) (A : Option Addr) (c : Nat) (tags : List ByteArray) (w : World) :
    Calls Try.prog 45 #[.agg #[.bool true, .string a, .string b, .string r, .string d, .slice A tags.length c, .string al]] w fun e w' => e = .returned (.agg #[.bool true, .string ⟨#[]⟩, .string ⟨#[]⟩, .string ⟨#[]⟩, .string ⟨#[]⟩, .slice none 0 0, .string ⟨#[]⟩]) ∧ Below w.heap.size w w' := by
  go_enter Try.func45, Try.ntmps45
  go_wp2_with (first
    | ((with_reducible refine at_dst (N := 1) rfl ?_); refine ev_box rfl 79 _ rfl _ rfl ?_; intro g1 w1 hg hB hb
       have low_g1 := Nat.le_trans (Nat.le_refl _) hg
       have B_w1 := Lib.hid (below_trans (Below.refl _ _) hb)
       have g1_w1 : Hid (Blk w1 g1 79 #[.bool true, .string a, .string b, .string r, .string d, .slice A tags.length c, .string al]) := hB
       clear hB hb)
    | ((with_reducible refine at_dst (N := 2) rfl ?_); refine ev_alloc rfl 79 rfl _ _ tz79 ?_; intro g2 w2 hg hB hb
       have n_g1_g2 : g1 ≠ g2 := by have := g1_w1.out.lt; omega
       have low_g2 := Nat.le_trans B_w1.out.size hg
       have g1_w2 := Lib.hid (g1_w1.out.below hb)
       have B_w2 := Lib.hid (below_trans B_w1.out hb)
       have g2_w2 : Hid (Blk w2 g2 79 #[.bool false, .string ⟨#[]⟩, .string ⟨#[]⟩, .string ⟨#[]⟩, .string ⟨#[]⟩, .slice none 0 0, .string ⟨#[]⟩]) := hB
       clear hB hb)
    | ((with_reducible refine at_dst (N := 4) rfl ?_); refine ev_ld rfl 4 _ rfl ⟨g1, 0, none⟩ rfl (.bool true) (g1_w2.out.cell 0) _ Try.underlying4 rfl ?_)
    | (refine ev_store rfl 79 _ _ rfl g2 _ _ rfl rfl 79 g2_w2.out tsz79 rfl rfl ?_; intro w3 hB hg hz
       have g1_w3 := Lib.hid (g1_w2.out.grown hg n_g1_g2)
       have B_w3 := Lib.hid (below_grown B_w2.out hg B_w2.out.size low_g2)
       have g2_w3 : Hid (Blk w3 g2 79 #[.bool true, .string ⟨#[]⟩, .string ⟨#[]⟩, .string ⟨#[]⟩, .string ⟨#[]⟩, .slice none 0 0, .string ⟨#[]⟩]) := hB
       clear hB hg hz))
  have rl0 : (loadVar 79 ⟨g2, 0, none⟩).run Try.prog w3 = .ok (.agg #[.bool true, .string ⟨#[]⟩, .string ⟨#[]⟩, .string ⟨#[]⟩, .string ⟨#[]⟩, .slice none 0 0, .string ⟨#[]⟩]) w3 := load_mid (P := Try.prog) _ 79 g2 0 79 _ g2_w3.out 7 (by simp) _ Try.underlying79 rfl tsz79
  (try simp only [Exit.inBlock, Exit.then])
  refine bodyPost_ret (v := .agg #[.bool true, .string ⟨#[]⟩, .string ⟨#[]⟩, .string ⟨#[]⟩, .string ⟨#[]⟩, .slice none 0 0, .string ⟨#[]⟩]) (results1 Try.results45 ⟨_, rfl, rl0⟩) rfl ?_
  exact ⟨rfl, B_w3.out⟩
set_option maxRecDepth 100000 in
set_option maxHeartbeats 2000000 in
theorem specDep_some (a b r d al : ByteArray) (A : Option Addr) (c : Nat) (tags : List ByteArray) (w : World) (ha : a.size ≤ 1000000) (hb0 : b.size ≤ 1000000) (hr : r.size ≤ 1000000) (hd : d.size ≤ 1000000) (hal : al.size ≤ 1000000) (ht : ∀ x ∈ tags, x.size ≤ 1000000) (h : Sl w A (strs tags)) (hn : tags.length ≤ 1000000) :
    Calls Try.prog 47 #[.agg #[.bool false, .string a, .string b, .string r, .string d, .slice A tags.length c, .string al]] w fun e w' => ∃ A' c', e = .returned (.tuple #[.agg #[.bool false, .string (cleanF a), .string (cleanF b), .string (cleanF r), .string (cleanF d), .slice A' ((cleansF tags).length) c', .string al], .bool (aliasF al)]) ∧ w'.ownsRow w.heap.size 9 1 (.slice A' (cleansF tags).length c') (cleansF tags).length (strs (cleansF tags)) ∧ Below w.heap.size w w' := by
  have La := ha
  have Lb := hb0
  have Lr := hr
  have Ld := hd
  have Lal := hal
  have HT := Lib.hid ht
  have HS := Lib.hid h
  clear ha hb0 hr hd hal ht h
  go_enter Try.func47, Try.ntmps47
  go_upto_region 3 with (first
    | ((with_reducible refine at_dst (N := 1) rfl ?_); refine ev_box rfl 79 _ rfl _ rfl ?_; intro g1 w1 hg hB hb
       have low_g1 := Nat.le_trans (Nat.le_refl _) hg
       have B_w1 := Lib.hid (below_trans (Below.refl _ _) hb)
       have g1_w1 : Hid (Blk w1 g1 79 #[.bool false, .string a, .string b, .string r, .string d, .slice A tags.length c, .string al]) := hB
       clear hB hb)
    | ((with_reducible refine at_dst (N := 2) rfl ?_); refine ev_alloc rfl 79 rfl _ _ tz79 ?_; intro g2 w2 hg hB hb
       have n_g1_g2 : g1 ≠ g2 := by have := g1_w1.out.lt; omega
       have low_g2 := Nat.le_trans B_w1.out.size hg
       have g1_w2 := Lib.hid (g1_w1.out.below hb)
       have B_w2 := Lib.hid (below_trans B_w1.out hb)
       have g2_w2 : Hid (Blk w2 g2 79 #[.bool false, .string ⟨#[]⟩, .string ⟨#[]⟩, .string ⟨#[]⟩, .string ⟨#[]⟩, .slice none 0 0, .string ⟨#[]⟩]) := hB
       clear hB hb)
    | ((with_reducible refine at_dst (N := 5) rfl ?_); refine ev_ld rfl 4 _ rfl ⟨g1, 0, none⟩ rfl (.bool false) (g1_w2.out.cell 0) _ Try.underlying4 rfl ?_))
  refine wp_region_grow [some [], some [(0, 7)], some [(1, 8)], some [], some [(3, 10)], some [(4, 11)], some [], some [(6, 13)], some [(7, 14)], some [], some [(9, 16)], some [(10, 17)], some [], some [(12, 19)], some [(13, 20)], some [], none, none, none, none, none, none, none, none, none]
      [fun v _ => v = .pointer (some ⟨g1, 1, none⟩),
       fun v _ => v = .string a,
       fun v _ => v = .string (cleanF a),
       fun v _ => v = .pointer (some ⟨g1, 2, none⟩),
       fun v _ => v = .string b,
       fun v _ => v = .string (cleanF b),
       fun v _ => v = .pointer (some ⟨g1, 3, none⟩),
       fun v _ => v = .string r,
       fun v _ => v = .string (cleanF r),
       fun v _ => v = .pointer (some ⟨g1, 4, none⟩),
       fun v _ => v = .string d,
       fun v _ => v = .string (cleanF d),
       fun v _ => v = .pointer (some ⟨g1, 5, none⟩),
       fun v _ => v = .slice A tags.length c,
       fun v w' => w'.ownsRow w.heap.size 9 1 v (cleansF tags).length (strs (cleansF tags)),
       fun v _ => v = .pointer (some ⟨g1, 1, none⟩),
       fun _ _ => True,
       fun _ _ => True,
       fun _ _ => True,
       fun _ _ => True,
       fun _ _ => True,
       fun _ _ => True,
       fun _ _ => True,
       fun _ _ => True,
       fun _ _ => True] 31 (by kernel_rfl) rfl rfl (by kernel_rfl) ?_ ?_ ?_
  · intro p hp
    simp only [List.mem_cons, List.not_mem_nil, or_false] at hp
    rcases hp with rfl | rfl | rfl | rfl | rfl | rfl | rfl | rfl | rfl | rfl | rfl | rfl | rfl | rfl | rfl | rfl | rfl | rfl | rfl | rfl | rfl | rfl | rfl | rfl | rfl
    · exact stab_eq _
    · exact stab_eq _
    · exact stab_eq _
    · exact stab_eq _
    · exact stab_eq _
    · exact stab_eq _
    · exact stab_eq _
    · exact stab_eq _
    · exact stab_eq _
    · exact stab_eq _
    · exact stab_eq _
    · exact stab_eq _
    · exact stab_eq _
    · exact stab_eq _
    · exact stab_own
    · exact stab_eq _
    · exact stab_true
    · exact stab_true
    · exact stab_true
    · exact stab_true
    · exact stab_true
    · exact stab_true
    · exact stab_true
    · exact stab_true
    · exact stab_true
  · simp only [oblGo, obl1, withDeps, oblK, postAt, List.getD_cons_zero, List.getD_cons_succ, forall_eq]
    refine ⟨?_, ?_, ?_, ?_, ?_, ?_, ?_, ?_, ?_, ?_, ?_, ?_, ?_, ?_, ?_, ?_, trivial⟩
    · intro wg hg
      go_simp
    · intro wg hg
      exact gr_ld 9 _ rfl ⟨g1, 1, none⟩ rfl (.string a) ((g1_w2.out.below hg).cell 1) _ Try.underlying9 rfl rfl
    · intro wg hg
      go_simp
      exact (chClean_any a _ La).mono fun _ _ h => h
    · intro wg hg
      go_simp
    · intro wg hg
      exact gr_ld 9 _ rfl ⟨g1, 2, none⟩ rfl (.string b) ((g1_w2.out.below hg).cell 2) _ Try.underlying9 rfl rfl
    · intro wg hg
      go_simp
      exact (chClean_any b _ Lb).mono fun _ _ h => h
    · intro wg hg
      go_simp
    · intro wg hg
      exact gr_ld 9 _ rfl ⟨g1, 3, none⟩ rfl (.string r) ((g1_w2.out.below hg).cell 3) _ Try.underlying9 rfl rfl
    · intro wg hg
      go_simp
      exact (chClean_any r _ Lr).mono fun _ _ h => h
    · intro wg hg
      go_simp
    · intro wg hg
      exact gr_ld 9 _ rfl ⟨g1, 4, none⟩ rfl (.string d) ((g1_w2.out.below hg).cell 4) _ Try.underlying9 rfl rfl
    · intro wg hg
      go_simp
      exact (chClean_any d _ Ld).mono fun _ _ h => h
    · intro wg hg
      go_simp
    · intro wg hg
      exact gr_ld 22 _ rfl ⟨g1, 5, none⟩ rfl (.slice A tags.length c) ((g1_w2.out.below hg).cell 5) _ Try.underlying22 rfl rfl
    · intro wg hg
      go_simp
      exact (chCleaned_any A c tags _ ((HS.out.below B_w2.out).below hg) HT.out hn).mono fun e w' ⟨v, h1, h2, h3⟩ => ⟨v, h1, h3, own_mono h2 (below_trans B_w2.out hg).size⟩
    · intro wg hg
      go_simp
  simp only [headDs, withDeps, postAt, List.getD_cons_zero, List.getD_cons_succ, forall_eq, tailOps]
  intro w3 hgr
  rintro v21 ho21
  simp only [Act.put, List.setIfInBounds_toArray, List.set_cons_succ, List.set_cons_zero]
  have g1_w3 := Lib.hid (g1_w2.out.below (show Below _ _ _ from hgr))
  have g2_w3 := Lib.hid (g2_w2.out.below (show Below _ _ _ from hgr))
  have B_w3 := Lib.hid (below_trans B_w2.out (show Below _ _ _ from hgr))
  obtain ⟨A21, c21, rfl, hA21⟩ := own_form ho21
  have own21 := Lib.hid ho21
  clear ho21
  clear hgr
  go_upto_region 4 with (first
    | (refine ev_store1 rfl 9 _ _ rfl g1 1 _ rfl (.string (cleanF a)) rfl 79 g1_w3.out tsz9 (by simp) rfl rfl ?_; intro w4 hB hg hz
       have g2_w4 := Lib.hid (g2_w3.out.grown hg n_g1_g2.symm)
       have own21_w4 := Lib.hid (own_grown own21.out hg (own_ne own21.out g1_w3.out (by decide)))
       have B_w4 := Lib.hid (below_grown B_w3.out hg B_w3.out.size low_g1)
       have g1_w4 : Hid (Blk w4 g1 79 #[.bool false, .string (cleanF a), .string b, .string r, .string d, .slice A tags.length c, .string al]) := hB
       clear hB hg hz)
    | (refine ev_store1 rfl 9 _ _ rfl g1 2 _ rfl (.string (cleanF b)) rfl 79 g1_w4.out tsz9 (by simp) rfl rfl ?_; intro w5 hB hg hz
       have g2_w5 := Lib.hid (g2_w4.out.grown hg n_g1_g2.symm)
       have own21_w5 := Lib.hid (own_grown own21_w4.out hg (own_ne own21_w4.out g1_w4.out (by decide)))
       have B_w5 := Lib.hid (below_grown B_w4.out hg B_w4.out.size low_g1)
       have g1_w5 : Hid (Blk w5 g1 79 #[.bool false, .string (cleanF a), .string (cleanF b), .string r, .string d, .slice A tags.length c, .string al]) := hB
       clear hB hg hz)
    | (refine ev_store1 rfl 9 _ _ rfl g1 3 _ rfl (.string (cleanF r)) rfl 79 g1_w5.out tsz9 (by simp) rfl rfl ?_; intro w6 hB hg hz
       have g2_w6 := Lib.hid (g2_w5.out.grown hg n_g1_g2.symm)
       have own21_w6 := Lib.hid (own_grown own21_w5.out hg (own_ne own21_w5.out g1_w5.out (by decide)))
       have B_w6 := Lib.hid (below_grown B_w5.out hg B_w5.out.size low_g1)
       have g1_w6 : Hid (Blk w6 g1 79 #[.bool false, .string (cleanF a), .string (cleanF b), .string (cleanF r), .string d, .slice A tags.length c, .string al]) := hB
       clear hB hg hz)
    | (refine ev_store1 rfl 9 _ _ rfl g1 4 _ rfl (.string (cleanF d)) rfl 79 g1_w6.out tsz9 (by simp) rfl rfl ?_; intro w7 hB hg hz
       have g2_w7 := Lib.hid (g2_w6.out.grown hg n_g1_g2.symm)
       have own21_w7 := Lib.hid (own_grown own21_w6.out hg (own_ne own21_w6.out g1_w6.out (by decide)))
       have B_w7 := Lib.hid (below_grown B_w6.out hg B_w6.out.size low_g1)
       have g1_w7 : Hid (Blk w7 g1 79 #[.bool false, .string (cleanF a), .string (cleanF b), .string (cleanF r), .string (cleanF d), .slice A tags.length c, .string al]) := hB
       clear hB hg hz)
    | (refine ev_store1 rfl 22 _ _ rfl g1 5 _ rfl (.slice A21 ((cleansF tags).length) c21) rfl 79 g1_w7.out tsz22 (by simp) rfl rfl ?_; intro w8 hB hg hz
       have g2_w8 := Lib.hid (g2_w7.out.grown hg n_g1_g2.symm)
       have own21_w8 := Lib.hid (own_grown own21_w7.out hg (own_ne own21_w7.out g1_w7.out (by decide)))
       have B_w8 := Lib.hid (below_grown B_w7.out hg B_w7.out.size low_g1)
       have g1_w8 : Hid (Blk w8 g1 79 #[.bool false, .string (cleanF a), .string (cleanF b), .string (cleanF r), .string (cleanF d), .slice A21 ((cleansF tags).length) c21, .string al]) := hB
       clear hB hg hz))
  refine wp_region_grow [some [], some [], some [(1, 28)], some [(2, 29)], none, none]
      [fun v _ => v = .agg #[.bool false, .string (cleanF a), .string (cleanF b), .string (cleanF r), .string (cleanF d), .slice A21 ((cleansF tags).length) c21, .string al],
       fun v _ => v = .pointer (some ⟨g1, 6, none⟩),
       fun v _ => v = .string al,
       fun v _ => v = .bool (aliasF al),
       fun _ _ => True,
       fun _ _ => True] 31 (by kernel_rfl) rfl rfl (by kernel_rfl) ?_ ?_ ?_
  · intro p hp
    simp only [List.mem_cons, List.not_mem_nil, or_false] at hp
    rcases hp with rfl | rfl | rfl | rfl | rfl | rfl
    · exact stab_eq _
    · exact stab_eq _
    · exact stab_eq _
    · exact stab_eq _
    · exact stab_true
    · exact stab_true
  · simp only [oblGo, obl1, withDeps, oblK, postAt, List.getD_cons_zero, List.getD_cons_succ, forall_eq]
    refine ⟨?_, ?_, ?_, ?_, trivial⟩
    · intro wg hg
      exact gr_ldm 79 _ rfl g1 0 rfl 79 _ (g1_w8.out.below hg) 7 (by simp) _ Try.underlying79 rfl tsz79 rfl
    · intro wg hg
      go_simp
    · intro wg hg
      exact gr_ld 9 _ rfl ⟨g1, 6, none⟩ rfl (.string al) ((g1_w8.out.below hg).cell 6) _ Try.underlying9 rfl rfl
    · intro wg hg
      go_simp
      exact (chAlias_any al _ (by omega)).mono fun _ _ h => ⟨h.1, h.2 ▸ Gr.refl _⟩
  simp only [headDs, withDeps, postAt, List.getD_cons_zero, List.getD_cons_succ, forall_eq, tailOps]
  intro w9 hgr
  simp only [Act.put, List.setIfInBounds_toArray, List.set_cons_succ, List.set_cons_zero]
  have g1_w9 := Lib.hid (g1_w8.out.below (show Below _ _ _ from hgr))
  have g2_w9 := Lib.hid (g2_w8.out.below (show Below _ _ _ from hgr))
  have own21_w9 := Lib.hid (own_below own21_w8.out (show Below _ _ _ from hgr))
  have B_w9 := Lib.hid (below_trans B_w8.out (show Below _ _ _ from hgr))
  clear hgr
  go_wp2_with (first
    | (refine ev_store rfl 79 _ _ rfl g2 _ _ rfl rfl 79 g2_w9.out tsz79 rfl rfl ?_; intro w10 hB hg hz
       have g1_w10 := Lib.hid (g1_w9.out.grown hg n_g1_g2)
       have own21_w10 := Lib.hid (own_grown own21_w9.out hg (own_ne own21_w9.out g2_w9.out (by decide)))
       have B_w10 := Lib.hid (below_grown B_w9.out hg B_w9.out.size low_g2)
       have g2_w10 : Hid (Blk w10 g2 79 #[.bool false, .string (cleanF a), .string (cleanF b), .string (cleanF r), .string (cleanF d), .slice A21 ((cleansF tags).length) c21, .string al]) := hB
       clear hB hg hz))
  have rl0 : (loadVar 79 ⟨g2, 0, none⟩).run Try.prog w10 = .ok (.agg #[.bool false, .string (cleanF a), .string (cleanF b), .string (cleanF r), .string (cleanF d), .slice A21 ((cleansF tags).length) c21, .string al]) w10 := load_mid (P := Try.prog) _ 79 g2 0 79 _ g2_w10.out 7 (by simp) _ Try.underlying79 rfl tsz79
  (try simp only [Exit.inBlock, Exit.then])
  refine bodyPost_ret (v := .tuple #[.agg #[.bool false, .string (cleanF a), .string (cleanF b), .string (cleanF r), .string (cleanF d), .slice A21 ((cleansF tags).length) c21, .string al], .bool (aliasF al)]) (results2 Try.results47 ⟨_, rfl, rl0⟩ rfl) rfl ?_
  exact ⟨_, _, rfl, own21_w10.out, B_w10.out⟩
set_option maxRecDepth 100000 in
set_option maxHeartbeats 2000000 in
theorem specDep_nil (a b r d al : ByteArray) (A : Option Addr) (c : Nat) (tags : List ByteArray) (w : World) :
    Calls Try.prog 47 #[.agg #[.bool true, .string a, .string b, .string r, .string d, .slice A tags.length c, .string al]] w fun e w' => e = .returned (.tuple #[.agg #[.bool true, .string a, .string b, .string r, .string d, .slice A tags.length c, .string al], .bool false]) ∧ Below w.heap.size w w' := by
  go_enter Try.func47, Try.ntmps47
  go_wp2_with (first
    | ((with_reducible refine at_dst (N := 1) rfl ?_); refine ev_box rfl 79 _ rfl _ rfl ?_; intro g1 w1 hg hB hb
       have low_g1 := Nat.le_trans (Nat.le_refl _) hg
       have B_w1 := Lib.hid (below_trans (Below.refl _ _) hb)
       have g1_w1 : Hid (Blk w1 g1 79 #[.bool true, .string a, .string b, .string r, .string d, .slice A tags.length c, .string al]) := hB
       clear hB hb)
    | ((with_reducible refine at_dst (N := 2) rfl ?_); refine ev_alloc rfl 79 rfl _ _ tz79 ?_; intro g2 w2 hg hB hb
       have n_g1_g2 : g1 ≠ g2 := by have := g1_w1.out.lt; omega
       have low_g2 := Nat.le_trans B_w1.out.size hg
       have g1_w2 := Lib.hid (g1_w1.out.below hb)
       have B_w2 := Lib.hid (below_trans B_w1.out hb)
       have g2_w2 : Hid (Blk w2 g2 79 #[.bool false, .string ⟨#[]⟩, .string ⟨#[]⟩, .string ⟨#[]⟩, .string ⟨#[]⟩, .slice none 0 0, .string ⟨#[]⟩]) := hB
       clear hB hb)
    | ((with_reducible refine at_dst (N := 5) rfl ?_); refine ev_ld rfl 4 _ rfl ⟨g1, 0, none⟩ rfl (.bool true) (g1_w2.out.cell 0) _ Try.underlying4 rfl ?_)
    | ((with_reducible refine at_dst (N := 6) rfl ?_); refine ev_loadB rfl 79 _ rfl g1 rfl 79 _ g1_w2.out _ Try.underlying79 rfl tsz79 ?_)
    | (refine ev_store rfl 79 _ _ rfl g2 _ _ rfl rfl 79 g2_w2.out tsz79 rfl rfl ?_; intro w3 hB hg hz
       have g1_w3 := Lib.hid (g1_w2.out.grown hg n_g1_g2)
       have B_w3 := Lib.hid (below_grown B_w2.out hg B_w2.out.size low_g2)
       have g2_w3 : Hid (Blk w3 g2 79 #[.bool true, .string a, .string b, .string r, .string d, .slice A tags.length c, .string al]) := hB
       clear hB hg hz))
  have rl0 : (loadVar 79 ⟨g2, 0, none⟩).run Try.prog w3 = .ok (.agg #[.bool true, .string a, .string b, .string r, .string d, .slice A tags.length c, .string al]) w3 := load_mid (P := Try.prog) _ 79 g2 0 79 _ g2_w3.out 7 (by simp) _ Try.underlying79 rfl tsz79
  (try simp only [Exit.inBlock, Exit.then])
  refine bodyPost_ret (v := .tuple #[.agg #[.bool true, .string a, .string b, .string r, .string d, .slice A tags.length c, .string al], .bool false]) (results2 Try.results47 ⟨_, rfl, rl0⟩ rfl) rfl ?_
  exact ⟨rfl, B_w3.out⟩
set_option maxRecDepth 100000 in
set_option maxHeartbeats 2000000 in
theorem depOf_nil (a b r d al : ByteArray) (A : Option Addr) (c : Nat) (tags : List ByteArray) (w : World) :
    Calls Try.prog 95 #[.agg #[.bool true, .string a, .string b, .string r, .string d, .slice A tags.length c, .string al]] w fun e w' => e = .returned (.pointer none) ∧ Below w.heap.size w w' := by
  go_enter Try.func95, Try.ntmps95
  go_wp2_with (first
    | ((with_reducible refine at_dst (N := 1) rfl ?_); refine ev_box rfl 79 _ rfl _ rfl ?_; intro g1 w1 hg hB hb
       have low_g1 := Nat.le_trans (Nat.le_refl _) hg
       have B_w1 := Lib.hid (below_trans (Below.refl _ _) hb)
       have g1_w1 : Hid (Blk w1 g1 79 #[.bool true, .string a, .string b, .string r, .string d, .slice A tags.length c, .string al]) := hB
       clear hB hb)
    | ((with_reducible refine at_dst (N := 4) rfl ?_); refine ev_ld rfl 4 _ rfl ⟨g1, 0, none⟩ rfl (.bool true) (g1_w1.out.cell 0) _ Try.underlying4 rfl ?_))
  (try simp only [Exit.inBlock, Exit.then])
  refine bodyPost_ret (v := .pointer none) (results1 Try.results95 rfl) rfl ?_
  exact ⟨rfl, B_w1.out⟩
set_option maxRecDepth 100000 in
set_option maxHeartbeats 2000000 in
theorem depOf_some (a b r d al : ByteArray) (A : Option Addr) (c : Nat) (tags : List ByteArray) (w : World) (h : Sl w A (strs tags)) (hn : tags.length ≤ 1000000) :
    Calls Try.prog 95 #[.agg #[.bool false, .string a, .string b, .string r, .string d, .slice A tags.length c, .string al]] w fun e w' => ∃ g A' c', e = .returned (.pointer (some ⟨g, 0, none⟩)) ∧ w.heap.size ≤ g ∧ Blk w' g 211 #[.string a, .string b, .string r, .string d, .slice A' tags.length c', .bool false, .slice none 0 0, .string al] ∧ w'.ownsRow w.heap.size 9 1 (.slice A' tags.length c') tags.length (strs tags) ∧ Below w.heap.size w w' := by
  have HS := Lib.hid h
  clear h
  go_enter Try.func95, Try.ntmps95
  go_upto_region 3 with (first
    | ((with_reducible refine at_dst (N := 1) rfl ?_); refine ev_box rfl 79 _ rfl _ rfl ?_; intro g1 w1 hg hB hb
       have low_g1 := Nat.le_trans (Nat.le_refl _) hg
       have B_w1 := Lib.hid (below_trans (Below.refl _ _) hb)
       have g1_w1 : Hid (Blk w1 g1 79 #[.bool false, .string a, .string b, .string r, .string d, .slice A tags.length c, .string al]) := hB
       clear hB hb)
    | ((with_reducible refine at_dst (N := 4) rfl ?_); refine ev_ld rfl 4 _ rfl ⟨g1, 0, none⟩ rfl (.bool false) (g1_w1.out.cell 0) _ Try.underlying4 rfl ?_))
  refine wp_region_grow [some [], some [(0, 5)], some [], some [(2, 7)], some [], some [(4, 9)], some [], some [(6, 11)], some [], some [], some [(9, 14)], some [(8, 13), (10, 15)], some [], some [(12, 17)], none, none, none]
      [fun v _ => v = .pointer (some ⟨g1, 1, none⟩),
       fun v _ => v = .string a,
       fun v _ => v = .pointer (some ⟨g1, 2, none⟩),
       fun v _ => v = .string b,
       fun v _ => v = .pointer (some ⟨g1, 3, none⟩),
       fun v _ => v = .string r,
       fun v _ => v = .pointer (some ⟨g1, 4, none⟩),
       fun v _ => v = .string d,
       fun v w' => ∃ g, v = .slice (some ⟨g, 0, none⟩) 0 0 ∧ w.heap.size ≤ g ∧ Blk w' g 9 #[],
       fun v _ => v = .pointer (some ⟨g1, 5, none⟩),
       fun v _ => v = .slice A tags.length c,
       fun v w' => w'.ownsRow w.heap.size 9 1 v (tags.length) (strs tags),
       fun v _ => v = .pointer (some ⟨g1, 6, none⟩),
       fun v _ => v = .string al,
       fun _ _ => True,
       fun _ _ => True,
       fun _ _ => True] 21 (by kernel_rfl) rfl rfl (by kernel_rfl) ?_ ?_ ?_
  · intro p hp
    simp only [List.mem_cons, List.not_mem_nil, or_false] at hp
    rcases hp with rfl | rfl | rfl | rfl | rfl | rfl | rfl | rfl | rfl | rfl | rfl | rfl | rfl | rfl | rfl | rfl | rfl
    · exact stab_eq _
    · exact stab_eq _
    · exact stab_eq _
    · exact stab_eq _
    · exact stab_eq _
    · exact stab_eq _
    · exact stab_eq _
    · exact stab_eq _
    · exact stab_blk (F := fun g => .slice (some ⟨g, 0, none⟩) 0 0)
    · exact stab_eq _
    · exact stab_eq _
    · exact stab_own
    · exact stab_eq _
    · exact stab_eq _
    · exact stab_true
    · exact stab_true
    · exact stab_true
  · simp only [oblGo, obl1, withDeps, oblK, postAt, List.getD_cons_zero, List.getD_cons_succ, forall_eq]
    refine ⟨?_, ?_, ?_, ?_, ?_, ?_, ?_, ?_, ?_, ?_, ?_, ?_, ?_, ?_, trivial⟩
    · intro wg hg
      go_simp
    · intro wg hg
      exact gr_ld 9 _ rfl ⟨g1, 1, none⟩ rfl (.string a) ((g1_w1.out.below hg).cell 1) _ Try.underlying9 rfl rfl
    · intro wg hg
      go_simp
    · intro wg hg
      exact gr_ld 9 _ rfl ⟨g1, 2, none⟩ rfl (.string b) ((g1_w1.out.below hg).cell 2) _ Try.underlying9 rfl rfl
    · intro wg hg
      go_simp
    · intro wg hg
      exact gr_ld 9 _ rfl ⟨g1, 3, none⟩ rfl (.string r) ((g1_w1.out.below hg).cell 3) _ Try.underlying9 rfl rfl
    · intro wg hg
      go_simp
    · intro wg hg
      exact gr_ld 9 _ rfl ⟨g1, 4, none⟩ rfl (.string d) ((g1_w1.out.below hg).cell 4) _ Try.underlying9 rfl rfl
    · intro wg hg
      exact gr_bs 9 0 #[] (by go_simp) fun g w1 hg1 hB hb => ⟨g, rfl, Nat.le_trans (Nat.le_trans B_w1.out.size hg.bel.size) hg1, hB⟩
    · intro wg hg
      go_simp
    · intro wg hg
      exact gr_ld 22 _ rfl ⟨g1, 5, none⟩ rfl (.slice A tags.length c) ((g1_w1.out.below hg).cell 5) _ Try.underlying22 rfl rfl
    · intro wg hg; rintro _ ⟨g13, rfl, lo_g13, hB_g13⟩
      exact gr_app _ _ 22 9 rfl Try.underlying22 _ 1 _ tin9 rfl (by omega) g13 #[] rfl hB_g13 _ _ _ (strs tags) rfl ((HS.out.below B_w1.out).below hg) (by simp [strs]) (by simp [strs, Value.oneCell']) (by omega) (by omega) w.heap.size lo_g13 fun v' w' ho hg' => ho
    · intro wg hg
      go_simp
    · intro wg hg
      exact gr_ld 9 _ rfl ⟨g1, 6, none⟩ rfl (.string al) ((g1_w1.out.below hg).cell 6) _ Try.underlying9 rfl rfl
  simp only [headDs, withDeps, postAt, List.getD_cons_zero, List.getD_cons_succ, forall_eq, tailOps]
  intro w2 hgr
  rintro _ ⟨g13, rfl, lo_g13, hB_g13⟩
  rintro v16 ho16
  simp only [Act.put, List.setIfInBounds_toArray, List.set_cons_succ, List.set_cons_zero]
  have g1_w2 := Lib.hid (g1_w1.out.below (show Below _ _ _ from hgr))
  have B_w2 := Lib.hid (below_trans B_w1.out (show Below _ _ _ from hgr))
  obtain ⟨A16, c16, rfl, hA16⟩ := own_form ho16
  have own16 := Lib.hid ho16
  clear ho16
  clear hgr
  go_wp2_with (first
    | ((with_reducible refine at_dst (N := 20) rfl ?_); refine ev_box rfl 211 _ rfl _ rfl ?_; intro g20 w3 hg hB hb
       have n_g1_g20 : g1 ≠ g20 := by have := g1_w2.out.lt; omega
       have low_g20 := Nat.le_trans B_w2.out.size hg
       have g1_w3 := Lib.hid (g1_w2.out.below hb)
       have own16_w3 := Lib.hid (own_below own16.out hb)
       have B_w3 := Lib.hid (below_trans B_w2.out hb)
       have g20_w3 : Hid (Blk w3 g20 211 #[.string a, .string b, .string r, .string d, .slice A16 tags.length c16, .bool false, .slice none 0 0, .string al]) := hB
       clear hB hb))
  (try simp only [Exit.inBlock, Exit.then])
  refine bodyPost_ret (v := .pointer (some ⟨g20, 0, none⟩)) (results1 Try.results95 rfl) rfl ?_
  exact ⟨_, _, _, rfl, low_g20, g20_w3.out, own16_w3.out, B_w3.out⟩
set_option maxRecDepth 100000 in
set_option maxHeartbeats 2000000 in
theorem depTold_nil (w : World) :
    Calls Try.prog 97 #[.pointer none] w fun e w' => e = .returned (.agg #[.bool true, .string ⟨#[]⟩, .string ⟨#[]⟩, .string ⟨#[]⟩, .string ⟨#[]⟩, .slice none 0 0, .string ⟨#[]⟩]) ∧ Below w.heap.size w w' := by
  go_enter Try.func97, Try.ntmps97
  go_wp2_with (first
    | ((with_reducible refine at_dst (N := 2) rfl ?_); refine ev_alloc rfl 79 rfl _ _ tz79 ?_; intro g2 w1 hg hB hb
       have low_g2 := Nat.le_trans (Nat.le_refl _) hg
       have B_w1 := Lib.hid (below_trans (Below.refl _ _) hb)
       have g2_w1 : Hid (Blk w1 g2 79 #[.bool false, .string ⟨#[]⟩, .string ⟨#[]⟩, .string ⟨#[]⟩, .string ⟨#[]⟩, .slice none 0 0, .string ⟨#[]⟩]) := hB
       clear hB hb)
    | (refine ev_store rfl 79 _ _ rfl g2 _ _ rfl rfl 79 g2_w1.out tsz79 rfl rfl ?_; intro w2 hB hg hz
       have B_w2 := Lib.hid (below_grown B_w1.out hg B_w1.out.size low_g2)
       have g2_w2 : Hid (Blk w2 g2 79 #[.bool true, .string ⟨#[]⟩, .string ⟨#[]⟩, .string ⟨#[]⟩, .string ⟨#[]⟩, .slice none 0 0, .string ⟨#[]⟩]) := hB
       clear hB hg hz))
  have rl0 : (loadVar 79 ⟨g2, 0, none⟩).run Try.prog w2 = .ok (.agg #[.bool true, .string ⟨#[]⟩, .string ⟨#[]⟩, .string ⟨#[]⟩, .string ⟨#[]⟩, .slice none 0 0, .string ⟨#[]⟩]) w2 := load_mid (P := Try.prog) _ 79 g2 0 79 _ g2_w2.out 7 (by simp) _ Try.underlying79 rfl tsz79
  (try simp only [Exit.inBlock, Exit.then])
  refine bodyPost_ret (v := .agg #[.bool true, .string ⟨#[]⟩, .string ⟨#[]⟩, .string ⟨#[]⟩, .string ⟨#[]⟩, .slice none 0 0, .string ⟨#[]⟩]) (results1 Try.results97 ⟨_, rfl, rl0⟩) rfl ?_
  exact ⟨rfl, B_w2.out⟩
set_option maxRecDepth 100000 in
set_option maxHeartbeats 2000000 in
theorem depTold_some (g : Nat) (a b r d al : ByteArray) (A : Option Addr) (n c : Nat) (tags : List ByteArray) (w : World) (h : Sl w A (strs tags)) (hg0 : Blk w g 211 #[.string a, .string b, .string r, .string d, .slice A n c, .bool false, .slice none 0 0, .string al]) (hl : tags.length = n) (hn : n ≤ 1000000) :
    Calls Try.prog 97 #[.pointer (some ⟨g, 0, none⟩)] w fun e w' => ∃ A' c', e = .returned (.agg #[.bool false, .string a, .string b, .string r, .string d, .slice A' n c', .string al]) ∧ w'.ownsRow w.heap.size 9 1 (.slice A' n c') n (strs tags) ∧ Below w.heap.size w w' := by
  have HS := Lib.hid h
  have HG := Lib.hid hg0
  clear h hg0
  go_enter Try.func97, Try.ntmps97
  go_upto_region 3 with (first
    | ((with_reducible refine at_dst (N := 2) rfl ?_); refine ev_alloc rfl 79 rfl _ _ tz79 ?_; intro g2 w1 hg hB hb
       have n_g_g2 : g ≠ g2 := by have := HG.out.lt; omega
       have low_g2 := Nat.le_trans (Nat.le_refl _) hg
       have g_w1 := Lib.hid (HG.out.below hb)
       have B_w1 := Lib.hid (below_trans (Below.refl _ _) hb)
       have g2_w1 : Hid (Blk w1 g2 79 #[.bool false, .string ⟨#[]⟩, .string ⟨#[]⟩, .string ⟨#[]⟩, .string ⟨#[]⟩, .slice none 0 0, .string ⟨#[]⟩]) := hB
       clear hB hb))
  refine wp_region_grow [some [], some [(0, 6)], some [(1, 7)], some [(2, 8)], some [], some [(4, 10)], some [(5, 11)], some [(6, 12)], some [], some [(8, 14)], some [(9, 15)], some [(10, 16)], some [], some [(12, 18)], some [(13, 19)], some [(14, 20)], some [], some [], some [(17, 23)], some [(18, 24)], some [(19, 25)], some [(16, 22), (20, 26)], some [], some [(22, 28)], some [(23, 29)], some [(24, 30)], none, none]
      [fun v _ => v = .pointer (some ⟨g, 0, none⟩),
       fun v _ => v = .pointer (some ⟨g, 0, none⟩),
       fun v _ => v = .pointer (some ⟨g, 0, none⟩),
       fun v _ => v = .string a,
       fun v _ => v = .pointer (some ⟨g, 0, none⟩),
       fun v _ => v = .pointer (some ⟨g, 0, none⟩),
       fun v _ => v = .pointer (some ⟨g, 1, none⟩),
       fun v _ => v = .string b,
       fun v _ => v = .pointer (some ⟨g, 0, none⟩),
       fun v _ => v = .pointer (some ⟨g, 0, none⟩),
       fun v _ => v = .pointer (some ⟨g, 2, none⟩),
       fun v _ => v = .string r,
       fun v _ => v = .pointer (some ⟨g, 0, none⟩),
       fun v _ => v = .pointer (some ⟨g, 0, none⟩),
       fun v _ => v = .pointer (some ⟨g, 3, none⟩),
       fun v _ => v = .string d,
       fun v w' => ∃ g, v = .slice (some ⟨g, 0, none⟩) 0 0 ∧ w.heap.size ≤ g ∧ Blk w' g 9 #[],
       fun v _ => v = .pointer (some ⟨g, 0, none⟩),
       fun v _ => v = .pointer (some ⟨g, 0, none⟩),
       fun v _ => v = .pointer (some ⟨g, 4, none⟩),
       fun v _ => v = .slice A n c,
       fun v w' => w'.ownsRow w.heap.size 9 1 v (n) (strs tags),
       fun v _ => v = .pointer (some ⟨g, 0, none⟩),
       fun v _ => v = .pointer (some ⟨g, 0, none⟩),
       fun v _ => v = .pointer (some ⟨g, 7, none⟩),
       fun v _ => v = .string al,
       fun _ _ => True,
       fun _ _ => True] 33 (by kernel_rfl) rfl rfl (by kernel_rfl) ?_ ?_ ?_
  · intro p hp
    simp only [List.mem_cons, List.not_mem_nil, or_false] at hp
    rcases hp with rfl | rfl | rfl | rfl | rfl | rfl | rfl | rfl | rfl | rfl | rfl | rfl | rfl | rfl | rfl | rfl | rfl | rfl | rfl | rfl | rfl | rfl | rfl | rfl | rfl | rfl | rfl | rfl
    · exact stab_eq _
    · exact stab_eq _
    · exact stab_eq _
    · exact stab_eq _
    · exact stab_eq _
    · exact stab_eq _
    · exact stab_eq _
    · exact stab_eq _
    · exact stab_eq _
    · exact stab_eq _
    · exact stab_eq _
    · exact stab_eq _
    · exact stab_eq _
    · exact stab_eq _
    · exact stab_eq _
    · exact stab_eq _
    · exact stab_blk (F := fun g => .slice (some ⟨g, 0, none⟩) 0 0)
    · exact stab_eq _
    · exact stab_eq _
    · exact stab_eq _
    · exact stab_eq _
    · exact stab_own
    · exact stab_eq _
    · exact stab_eq _
    · exact stab_eq _
    · exact stab_eq _
    · exact stab_true
    · exact stab_true
  · simp only [oblGo, obl1, withDeps, oblK, postAt, List.getD_cons_zero, List.getD_cons_succ, forall_eq]
    refine ⟨?_, ?_, ?_, ?_, ?_, ?_, ?_, ?_, ?_, ?_, ?_, ?_, ?_, ?_, ?_, ?_, ?_, ?_, ?_, ?_, ?_, ?_, ?_, ?_, ?_, ?_, trivial⟩
    · intro wg hg
      go_simp
    · intro wg hg
      go_simp
    · intro wg hg
      go_simp
    · intro wg hg
      exact gr_ld 9 _ rfl ⟨g, 0, none⟩ rfl (.string a) ((g_w1.out.below hg).cell 0) _ Try.underlying9 rfl rfl
    · intro wg hg
      go_simp
    · intro wg hg
      go_simp
    · intro wg hg
      go_simp
    · intro wg hg
      exact gr_ld 9 _ rfl ⟨g, 1, none⟩ rfl (.string b) ((g_w1.out.below hg).cell 1) _ Try.underlying9 rfl rfl
    · intro wg hg
      go_simp
    · intro wg hg
      go_simp
    · intro wg hg
      go_simp
    · intro wg hg
      exact gr_ld 9 _ rfl ⟨g, 2, none⟩ rfl (.string r) ((g_w1.out.below hg).cell 2) _ Try.underlying9 rfl rfl
    · intro wg hg
      go_simp
    · intro wg hg
      go_simp
    · intro wg hg
      go_simp
    · intro wg hg
      exact gr_ld 9 _ rfl ⟨g, 3, none⟩ rfl (.string d) ((g_w1.out.below hg).cell 3) _ Try.underlying9 rfl rfl
    · intro wg hg
      exact gr_bs 9 0 #[] (by go_simp) fun g w1 hg1 hB hb => ⟨g, rfl, Nat.le_trans (Nat.le_trans B_w1.out.size hg.bel.size) hg1, hB⟩
    · intro wg hg
      go_simp
    · intro wg hg
      go_simp
    · intro wg hg
      go_simp
    · intro wg hg
      exact gr_ld 22 _ rfl ⟨g, 4, none⟩ rfl (.slice A n c) ((g_w1.out.below hg).cell 4) _ Try.underlying22 rfl rfl
    · intro wg hg; rintro _ ⟨g22, rfl, lo_g22, hB_g22⟩
      exact gr_app _ _ 22 9 rfl Try.underlying22 _ 1 _ tin9 rfl (by omega) g22 #[] rfl hB_g22 _ _ _ (strs tags) rfl ((HS.out.below B_w1.out).below hg) (by simp [strs, hl]) (by simp [strs, Value.oneCell']) (by omega) (by omega) w.heap.size lo_g22 fun v' w' ho hg' => ho
    · intro wg hg
      go_simp
    · intro wg hg
      go_simp
    · intro wg hg
      go_simp
    · intro wg hg
      exact gr_ld 9 _ rfl ⟨g, 7, none⟩ rfl (.string al) ((g_w1.out.below hg).cell 7) _ Try.underlying9 rfl rfl
  simp only [headDs, withDeps, postAt, List.getD_cons_zero, List.getD_cons_succ, forall_eq, tailOps]
  intro w2 hgr
  rintro _ ⟨g22, rfl, lo_g22, hB_g22⟩
  rintro v27 ho27
  simp only [Act.put, List.setIfInBounds_toArray, List.set_cons_succ, List.set_cons_zero]
  have g_w2 := Lib.hid (g_w1.out.below (show Below _ _ _ from hgr))
  have g2_w2 := Lib.hid (g2_w1.out.below (show Below _ _ _ from hgr))
  have B_w2 := Lib.hid (below_trans B_w1.out (show Below _ _ _ from hgr))
  obtain ⟨A27, c27, rfl, hA27⟩ := own_form ho27
  have own27 := Lib.hid ho27
  clear ho27
  clear hgr
  go_wp2_with (first
    | (refine ev_store rfl 79 _ _ rfl g2 _ _ rfl rfl 79 g2_w2.out tsz79 rfl rfl ?_; intro w3 hB hg hz
       have g_w3 := Lib.hid (g_w2.out.grown hg n_g_g2)
       have own27_w3 := Lib.hid (own_grown own27.out hg (own_ne own27.out g2_w2.out (by decide)))
       have B_w3 := Lib.hid (below_grown B_w2.out hg B_w2.out.size low_g2)
       have g2_w3 : Hid (Blk w3 g2 79 #[.bool false, .string a, .string b, .string r, .string d, .slice A27 n c27, .string al]) := hB
       clear hB hg hz))
  have rl0 : (loadVar 79 ⟨g2, 0, none⟩).run Try.prog w3 = .ok (.agg #[.bool false, .string a, .string b, .string r, .string d, .slice A27 n c27, .string al]) w3 := load_mid (P := Try.prog) _ 79 g2 0 79 _ g2_w3.out 7 (by simp) _ Try.underlying79 rfl tsz79
  (try simp only [Exit.inBlock, Exit.then])
  refine bodyPost_ret (v := .agg #[.bool false, .string a, .string b, .string r, .string d, .slice A27 n c27, .string al]) (results1 Try.results97 ⟨_, rfl, rl0⟩) rfl ?_
  exact ⟨_, _, rfl, own27_w3.out, B_w3.out⟩
end Go.Proofs.Ytdgblfldbikneaa
