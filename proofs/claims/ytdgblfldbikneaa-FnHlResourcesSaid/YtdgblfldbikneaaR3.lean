/- FnHlResources: the walk. -/
import Derived.Test.YtdgblfldbikneaaR2
import Derived.Test.YtdgblfldbikneaaFz
import Derived.Test.YtdgblfldbikneaaP2
namespace Go.Proofs.Ytdgblfldbikneaa
open Go.RowKit Go.Lib
set_option linter.unusedVariables false
set_option linter.unusedSimpArgs false
theorem eqlT92 (x0 y0 : ByteArray) (x1 y1 : ByteArray) (x2 y2 : ByteArray) (x3 y3 : ByteArray) (w : World) : (binOp .eql 92 (.agg #[.string x0, .string x1, .string x2, .string x3]) (.agg #[.string y0, .string y1, .string y2, .string y3])).run Try.prog w = .ok (.bool ((x0.toList == y0.toList) && (x1.toList == y1.toList) && (x2.toList == y2.toList) && (x3.toList == y3.toList))) w := by
  have u9 := Try.underlying9
  have a9 : (isAgg 9).run Try.prog w = .ok false w := by unfold isAgg; rw [Sem.run_bind, run_underlying u9 w]; rfl
  have z9 : (sizeOf 9).run Try.prog w = .ok 1 w := by kernel_rfl
  have hS : Try.prog.underlying 92 = some (.struct (Try.prog.fieldsOf 92)) := by kernel_rfl
  have hp : Try.prog.stoodInHeld 92 = false := by kernel_rfl
  rw [run_eql_struct, show (10000 : Nat) = 9999 + 1 from rfl, run_equalIn_agg w 9999 92 _ _ hS hp]
  simp only [Program.fieldsOf, Try.underlying92]
  go_simp
  cases h0 : (x0.toList == y0.toList) <;> cases h1 : (x1.toList == y1.toList) <;> cases h2 : (x2.toList == y2.toList) <;> cases h3 : (x3.toList == y3.toList) <;> simp_all
theorem neqT92 (x0 y0 : ByteArray) (x1 y1 : ByteArray) (x2 y2 : ByteArray) (x3 y3 : ByteArray) (w : World) : (binOp .neq 92 (.agg #[.string x0, .string x1, .string x2, .string x3]) (.agg #[.string y0, .string y1, .string y2, .string y3])).run Try.prog w = .ok (.bool (!((x0.toList == y0.toList) && (x1.toList == y1.toList) && (x2.toList == y2.toList) && (x3.toList == y3.toList)))) w := by
  have u9 := Try.underlying9
  have a9 : (isAgg 9).run Try.prog w = .ok false w := by unfold isAgg; rw [Sem.run_bind, run_underlying u9 w]; rfl
  have z9 : (sizeOf 9).run Try.prog w = .ok 1 w := by kernel_rfl
  have hS : Try.prog.underlying 92 = some (.struct (Try.prog.fieldsOf 92)) := by kernel_rfl
  have hp : Try.prog.stoodInHeld 92 = false := by kernel_rfl
  rw [run_neq_struct, show (10000 : Nat) = 9999 + 1 from rfl, run_equalIn_agg w 9999 92 _ _ hS hp]
  simp only [Program.fieldsOf, Try.underlying92]
  go_simp
  cases h0 : (x0.toList == y0.toList) <;> cases h1 : (x1.toList == y1.toList) <;> cases h2 : (x2.toList == y2.toList) <;> cases h3 : (x3.toList == y3.toList) <;> simp_all
theorem Ty92.len (x : Ty92) : x.cells.length = 4 := rfl
theorem Ty92.one (x : Ty92) : ∀ u ∈ x.cells, u.oneCell' = true := fun u hu => by
  simp only [Ty92.cells, List.mem_cons, List.not_mem_nil, or_false] at hu
  rcases hu with rfl | rfl | rfl | rfl <;> rfl
theorem match_sym (x y : Ty92) : ((y.fName.toList == x.fName.toList) && (y.fNamespace.toList == x.fNamespace.toList) && (y.fKind.toList == x.fKind.toList) && (y.fGroup.toList == x.fGroup.toList)) = matchF x y := by
  simp only [matchF, Bool.beq_comm (a := y.fName.toList), Bool.beq_comm (a := y.fNamespace.toList), Bool.beq_comm (a := y.fKind.toList), Bool.beq_comm (a := y.fGroup.toList)]
set_option maxRecDepth 100000 in
set_option maxHeartbeats 4000000 in
theorem lawIn_any (A : Option Addr) (c : Nat) (xs : List Ty92) (y : Ty92) (w : World) (h0 : Rows w (A) 4 (xs.map Ty92.cells))  :
    Calls Try.prog 55 #[.slice (A) (xs.length) (c), .agg #[.string y.fName, .string y.fNamespace, .string y.fKind, .string y.fGroup]] w fun e w' => e = .returned (.bool (anyM xs y)) ∧ Below w.heap.size w w' := by
  have hl_xs : xs.length ≤ 9223372036854775807 := by have := h0.1; simpa [strs, ptrs] using this
  have H0 := Lib.hid h0
  clear h0
  suffices hQ : ∀ Q : Ending → World → Prop, Hid (∀ (e : Ending) (w' : World), (e = .returned (.bool (anyM xs y)) ∧ Below w.heap.size w w') → Post1 Q e w') → Calls Try.prog 55 #[.slice (A) (xs.length) (c), .agg #[.string y.fName, .string y.fNamespace, .string y.fKind, .string y.fGroup]] w (fun e w' => Post1 Q e w') from hQ (fun e w' => e = .returned (.bool (anyM xs y)) ∧ Below w.heap.size w w') (fun _ _ h => by unfold Post1; exact h)
  intro Q HQ
  go_enter Try.func55, Try.ntmps55
  go_wp2_with (first
    | ((with_reducible refine at_dst (N := 3) rfl ?_); refine ev_box rfl 92 _ rfl _ rfl ?_; intro g3 w1 hg hB hb
       have low_g3 := Nat.le_trans (Nat.le_refl _) hg
       have B_w1 := Lib.hid (below_trans (Below.refl _ _) hb)
       have g3_w1 : Hid (Blk w1 g3 92 #[.string y.fName, .string y.fNamespace, .string y.fKind, .string y.fGroup]) := hB
       clear hB hb))
  go_loopw [9] (fun v9 wr => ∃ k : Nat, k ≤ xs.length ∧ v9 = .int .i64 (↑k) ∧ Hid (Blk wr g3 92 #[.string y.fName, .string y.fNamespace, .string y.fKind, .string y.fGroup]) ∧ Hid (anyM (xs.take k) y = false) ∧ Hid (Below w.heap.size w wr)) (fun v9 _ => xs.length - (intOf v9).toNat)
  case atStart => exact ⟨0, (by omega), rfl, g3_w1, rfl, B_w1⟩
  case round =>
    obtain ⟨k, hk, rfl, L0_g3, L0_none, L0_B⟩ := hrel
    by_cases hlt_k : k < xs.length
    · obtain ⟨ad_k, rfl⟩ := (H0.out.below L0_B.out).addr (by simp [strs, ptrs]; omega)
      cases hc1 : (matchF xs[k] y)
      · go_wp2_with (first
          | ((with_reducible refine at_dst (N := 12) rfl ?_); refine ev_loadR rfl 92 _ rfl _ rfl [.string xs[k].fName, .string xs[k].fNamespace, .string xs[k].fKind, .string xs[k].fGroup] ((H0.out.below L0_B.out).el (j := k) (row := xs[k].cells) (by simp [hlt_k])) _ Try.underlying92 rfl tsz92 ?_)
          | ((with_reducible refine at_dst (N := 6) rfl ?_); refine ev_alloc rfl 92 rfl _ _ tz92 ?_; intro g6 w2 hg hB hb
             have n_g3_g6 : g3 ≠ g6 := by have := L0_g3.out.lt; omega
             have low_g6 := Nat.le_trans L0_B.out.size hg
             have g3_w2 := Lib.hid (L0_g3.out.below hb)
             have B_w2 := Lib.hid (below_trans L0_B.out hb)
             have g6_w2 : Hid (Blk w2 g6 92 #[.string ⟨#[]⟩, .string ⟨#[]⟩, .string ⟨#[]⟩, .string ⟨#[]⟩]) := hB
             clear hB hb)
          | (refine ev_store rfl 92 _ _ rfl g6 _ _ rfl rfl 92 g6_w2.out tsz92 rfl rfl ?_; intro w3 hB hg hz
             have hx := GrX.grown (S := fun k => k = g6) hg rfl
             have g3_w3 := Lib.hid (g3_w2.out.grx hx (fun e => n_g3_g6 e))
             have B_w3 := Lib.hid (below_grx B_w2.out hx B_w2.out.size (fun k => (fun e => e ▸ low_g6)))
             clear hx
             have g6_w3 : Hid (Blk w3 g6 92 #[.string xs[k].fName, .string xs[k].fNamespace, .string xs[k].fKind, .string xs[k].fGroup]) := hB
             clear hB hg hz)
          | ((with_reducible refine at_dst (N := 13) rfl ?_); refine ev_loadB rfl 92 _ rfl g3 rfl 92 _ g3_w3.out _ Try.underlying92 rfl tsz92 ?_)
          | ((with_reducible refine at_dst (N := 14) rfl ?_); refine ev_loadB rfl 92 _ rfl g6 rfl 92 _ g6_w3.out _ Try.underlying92 rfl tsz92 ?_)
          | ((with_reducible refine at_dst (N := 15) rfl ?_); refine ev_eql rfl 92 _ _ _ rfl _ _ rfl rfl (by kernel_rfl) _ ((eqlT92 y.fName xs[k].fName y.fNamespace xs[k].fNamespace y.fKind xs[k].fKind y.fGroup xs[k].fGroup _).trans (by rw [match_sym])) ?_; rw [hc1]))
        refine ⟨⟨k + 1, (by omega), by go_num, g3_w3, by show _ = _; unfold anyM; rw [any_take hlt_k, hc1, Bool.or_false]; exact L0_none.out, B_w3⟩, ?_⟩
        simp [intOf]; omega
      · go_wp2_with (first
          | ((with_reducible refine at_dst (N := 12) rfl ?_); refine ev_loadR rfl 92 _ rfl _ rfl [.string xs[k].fName, .string xs[k].fNamespace, .string xs[k].fKind, .string xs[k].fGroup] ((H0.out.below L0_B.out).el (j := k) (row := xs[k].cells) (by simp [hlt_k])) _ Try.underlying92 rfl tsz92 ?_)
          | ((with_reducible refine at_dst (N := 6) rfl ?_); refine ev_alloc rfl 92 rfl _ _ tz92 ?_; intro g6 w2 hg hB hb
             have n_g3_g6 : g3 ≠ g6 := by have := L0_g3.out.lt; omega
             have low_g6 := Nat.le_trans L0_B.out.size hg
             have g3_w2 := Lib.hid (L0_g3.out.below hb)
             have B_w2 := Lib.hid (below_trans L0_B.out hb)
             have g6_w2 : Hid (Blk w2 g6 92 #[.string ⟨#[]⟩, .string ⟨#[]⟩, .string ⟨#[]⟩, .string ⟨#[]⟩]) := hB
             clear hB hb)
          | (refine ev_store rfl 92 _ _ rfl g6 _ _ rfl rfl 92 g6_w2.out tsz92 rfl rfl ?_; intro w3 hB hg hz
             have hx := GrX.grown (S := fun k => k = g6) hg rfl
             have g3_w3 := Lib.hid (g3_w2.out.grx hx (fun e => n_g3_g6 e))
             have B_w3 := Lib.hid (below_grx B_w2.out hx B_w2.out.size (fun k => (fun e => e ▸ low_g6)))
             clear hx
             have g6_w3 : Hid (Blk w3 g6 92 #[.string xs[k].fName, .string xs[k].fNamespace, .string xs[k].fKind, .string xs[k].fGroup]) := hB
             clear hB hg hz)
          | ((with_reducible refine at_dst (N := 13) rfl ?_); refine ev_loadB rfl 92 _ rfl g3 rfl 92 _ g3_w3.out _ Try.underlying92 rfl tsz92 ?_)
          | ((with_reducible refine at_dst (N := 14) rfl ?_); refine ev_loadB rfl 92 _ rfl g6 rfl 92 _ g6_w3.out _ Try.underlying92 rfl tsz92 ?_)
          | ((with_reducible refine at_dst (N := 15) rfl ?_); refine ev_eql rfl 92 _ _ _ rfl _ _ rfl rfl (by kernel_rfl) _ ((eqlT92 y.fName xs[k].fName y.fNamespace xs[k].fNamespace y.fKind xs[k].fKind y.fGroup xs[k].fGroup _).trans (by rw [match_sym])) ?_; rw [hc1]))
        go_ret
        exact HQ.out _ _ ⟨ret_bool (by unfold anyM; rw [any_at hlt_k hc1]), B_w3.out⟩
    · obtain rfl : k = xs.length := by omega
      rw [List.take_length] at L0_none
      go_wp2_with fail
      go_ret
      exact HQ.out _ _ ⟨ret_bool L0_none.out.symm, L0_B.out⟩
set_option maxRecDepth 100000 in
set_option maxHeartbeats 4000000 in
theorem lawSame_any (A : Option Addr) (c : Nat) (B : Option Addr) (d : Nat) (xs : List Ty92) (w : World) (h0 : Rows w (A) 4 (xs.map Ty92.cells)) (h1 : Rows w (B) 4 (xs.map Ty92.cells))  :
    Calls Try.prog 58 #[.slice (A) (xs.length) (c), .slice (B) (xs.length) (d)] w fun e w' => e = .returned (.bool true) ∧ Below w.heap.size w w' := by
  have hl_xs : xs.length ≤ 9223372036854775807 := by have := h0.1; simpa [strs, ptrs] using this
  have hl_xs : xs.length ≤ 9223372036854775807 := by have := h1.1; simpa [strs, ptrs] using this
  have H0 := Lib.hid h0
  clear h0
  have H1 := Lib.hid h1
  clear h1
  suffices hQ : ∀ Q : Ending → World → Prop, Hid (∀ (e : Ending) (w' : World), (e = .returned (.bool true) ∧ Below w.heap.size w w') → Post1 Q e w') → Calls Try.prog 58 #[.slice (A) (xs.length) (c), .slice (B) (xs.length) (d)] w (fun e w' => Post1 Q e w') from hQ (fun e w' => e = .returned (.bool true) ∧ Below w.heap.size w w') (fun _ _ h => by unfold Post1; exact h)
  intro Q HQ
  go_enter Try.func58, Try.ntmps58
  go_wp2_with fail
  go_loopw [8] (fun v8 wr => ∃ k : Nat, k ≤ xs.length ∧ v8 = .int .i64 (↑k) ∧ Hid (Below w.heap.size w wr)) (fun v8 _ => xs.length - (intOf v8).toNat)
  case atStart => exact ⟨0, (by omega), rfl, (Below.refl _ _)⟩
  case round =>
    obtain ⟨k, hk, rfl, L0_B⟩ := hrel
    by_cases hlt_k : k < xs.length
    · obtain ⟨ad_k, rfl⟩ := (H0.out.below L0_B.out).addr (by simp [strs, ptrs]; omega)
      obtain ⟨ad2, rfl⟩ := (H1.out.below L0_B.out).addr (by simp; omega)
      go_upto_region 4 with fail
      refine wp_region_grow [some [], some [], some [(1, 12)], some [(0, 11), (2, 13)], some [(3, 14)], some [(4, 15)], some [(4, 15)], some [(4, 15), (5, 16), (6, 17)], some [(4, 15), (7, 18)], some [(4, 15)], some [(4, 15)], some [(4, 15), (9, 20), (10, 21)], some [(4, 15), (11, 22)], none, none]
          [fun vv _ => vv = .int .i64 (↑k),
           fun vv _ => vv = .slice (some ad2) xs.length d,
           fun vv _ => vv = .int .i64 (↑xs.length),
           fun vv _ => vv = .bool false,
           fun vv _ => vv = .bool false,
           fun vv _ => vv = .slice (some ad_k) xs.length c,
           fun vv _ => vv = .int .i64 (↑k),
           fun vv _ => vv = .pointer (some (ad_k.add (k * 4))),
           fun vv _ => vv = .agg #[.string xs[k].fName, .string xs[k].fNamespace, .string xs[k].fKind, .string xs[k].fGroup],
           fun vv _ => vv = .slice (some ad2) xs.length d,
           fun vv _ => vv = .int .i64 (↑k),
           fun vv _ => vv = .pointer (some (ad2.add (k * 4))),
           fun vv _ => vv = .agg #[.string xs[k].fName, .string xs[k].fNamespace, .string xs[k].fKind, .string xs[k].fGroup],
           fun _ _ => True,
           fun _ _ => True] 32 (by kernel_rfl) rfl rfl (by kernel_rfl) ?_ ?_ ?_
      · intro p hp
        simp only [List.mem_cons, List.not_mem_nil, or_false] at hp
        rcases hp with rfl | rfl | rfl | rfl | rfl | rfl | rfl | rfl | rfl | rfl | rfl | rfl | rfl | rfl | rfl
        · exact stab_eq _
        · exact stab_eq _
        · exact stab_eq _
        · exact stab_eq _
        · exact stab_eq _
        · exact stab_eq _
        · exact stab_eq _
        · exact stab_eq _
        · exact stab_eq _
        · exact stab_eq _
        · exact stab_eq _
        · exact stab_eq _
        · exact stab_eq _
        · exact stab_true
        · exact stab_true
      · simp only [oblGo, obl1, withDeps, oblK, postAt, List.getD_cons_zero, List.getD_cons_succ, forall_eq]
        refine ⟨?_, ?_, ?_, ?_, ?_, ?_, ?_, ?_, ?_, ?_, ?_, ?_, ?_, trivial⟩
        · intro wg hg
          go_simp
        · intro wg hg
          go_simp
        · intro wg hg
          go_simp
        · intro wg hg
          go_simp
          first | done | (simp; omega) | omega
        · intro wg hg
          go_simp
        · intro wg hg
          rw [if_pos (by rfl)]
          go_simp
        · intro wg hg
          rw [if_pos (by rfl)]
          go_simp
        · intro wg hg
          rw [if_pos (by rfl)]
          go_simp
        · intro wg hg
          rw [if_pos (by rfl)]
          exact gr_ldr 92 _ rfl _ rfl [.string xs[k].fName, .string xs[k].fNamespace, .string xs[k].fKind, .string xs[k].fGroup] (fun i u hu => hg.cell (((H0.out.below L0_B.out).el (j := k) (row := xs[k].cells) (by simp [hlt_k])) i u hu)) _ Try.underlying92 rfl tsz92 rfl
        · intro wg hg
          rw [if_pos (by rfl)]
          go_simp
        · intro wg hg
          rw [if_pos (by rfl)]
          go_simp
        · intro wg hg
          rw [if_pos (by rfl)]
          go_simp
        · intro wg hg
          rw [if_pos (by rfl)]
          exact gr_ldr 92 _ rfl _ rfl [.string xs[k].fName, .string xs[k].fNamespace, .string xs[k].fKind, .string xs[k].fGroup] (fun i u hu => hg.cell (((H1.out.below L0_B.out).el (j := k) (row := xs[k].cells) (by simp [hlt_k])) i u hu)) _ Try.underlying92 rfl tsz92 rfl
      simp only [headDs, withDeps, postAt, List.getD_cons_zero, List.getD_cons_succ, forall_eq, tailOps]
      intro w1 hgr
      simp only [Act.put, List.setIfInBounds_toArray, List.set_cons_succ, List.set_cons_zero]
      have B_w1 := Lib.hid (below_trans L0_B.out (show Below _ _ _ from hgr))
      clear hgr
      go_wp2_with (first
        | ((with_reducible refine at_dst (N := 24) rfl ?_); refine wl_guard rfl ?_; refine ev_neq rfl 92 _ _ _ rfl _ _ rfl rfl (by kernel_rfl) _ ((neqT92 xs[k].fName xs[k].fName xs[k].fNamespace xs[k].fNamespace xs[k].fKind xs[k].fKind xs[k].fGroup xs[k].fGroup _).trans (by simp)) ?_))
      refine ⟨⟨k + 1, (by omega), by go_num, B_w1⟩, ?_⟩
      simp [intOf]; omega
    · obtain rfl : k = xs.length := by omega
      go_wp2_with fail
      go_ret
      exact HQ.out _ _ ⟨rfl, L0_B.out⟩
end Go.Proofs.Ytdgblfldbikneaa
