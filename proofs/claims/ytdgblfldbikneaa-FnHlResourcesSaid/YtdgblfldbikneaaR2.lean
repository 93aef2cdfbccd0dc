/- Resources: Filter, Difference, Intersect, ResourceGet, ResourceSets. -/
import Derived.Test.YtdgblfldbikneaaR1
namespace Go.Proofs.Ytdgblfldbikneaa
open Go.RowKit Go.Lib
set_option linter.unusedVariables false
set_option linter.unusedSimpArgs false
def notM (ys : List Ty92) (x : Ty92) : Bool := !anyM ys x
set_option maxRecDepth 100000 in
set_option maxHeartbeats 4000000 in
theorem dclo_any (B : Option Addr) (d : Nat) (qs : List Nat) (ys : List Ty92) (x : Ty92) (g : Nat) (gb : Nat) (w : World) (h0 : Sl w (B) (ptrs qs)) (h1 : Pl InfoAt w (qs) (ys)) (h2 : InfoAt x g w) (h3 : Blk w (gb) 167 #[.slice (B) (ys.length) (d)])  :
    Calls Try.prog 136 #[.pointer (some ⟨g, 0, none⟩), .pointer (some ⟨gb, 0, none⟩)] w fun e w' => e = .returned (.bool (notM ys x)) ∧ Below w.heap.size w w' := by
  have hl_qs : qs.length ≤ 9223372036854775807 := by have := h0.1; simpa [strs, ptrs] using this
  have hlp_1 := h1.1
  have H0 := Lib.hid h0
  clear h0
  have H1 := Lib.hid h1
  clear h1
  have H2 := Lib.hid h2
  clear h2
  have H3 := Lib.hid h3
  clear h3
  suffices hQ : ∀ Q : Ending → World → Prop, Hid (∀ (e : Ending) (w' : World), (e = .returned (.bool (notM ys x)) ∧ Below w.heap.size w w') → Post1 Q e w') → Calls Try.prog 136 #[.pointer (some ⟨g, 0, none⟩), .pointer (some ⟨gb, 0, none⟩)] w (fun e w' => Post1 Q e w') from hQ (fun e w' => e = .returned (.bool (notM ys x)) ∧ Below w.heap.size w w') (fun _ _ h => by unfold Post1; exact h)
  intro Q HQ
  go_enter Try.func136, Try.ntmps136
  cases hc1 : (anyM ys x)
  · go_wp2_with (first
      | ((with_reducible refine at_dst (N := 4) rfl ?_); refine ev_ld rfl 167 _ rfl ⟨gb, 0, none⟩ rfl (.slice (B) (ys.length) (d)) (H3.out.cell 0) _ Try.underlying167 rfl ?_)
      | (go_at_call 107; (with_reducible refine (rlContains_any B d qs ys x g _ H0.out H1.out H2.out).mono ?_); rintro e w1 ⟨rfl, hb⟩; rw [hc1]
         have B_w1 := Lib.hid (below_trans (Below.refl _ _) hb)
         clear hb))
    go_ret
    exact HQ.out _ _ ⟨ret_bool (by simp [notM, *]), B_w1.out⟩
  · go_wp2_with (first
      | ((with_reducible refine at_dst (N := 4) rfl ?_); refine ev_ld rfl 167 _ rfl ⟨gb, 0, none⟩ rfl (.slice (B) (ys.length) (d)) (H3.out.cell 0) _ Try.underlying167 rfl ?_)
      | (go_at_call 107; (with_reducible refine (rlContains_any B d qs ys x g _ H0.out H1.out H2.out).mono ?_); rintro e w1 ⟨rfl, hb⟩; rw [hc1]
         have B_w1 := Lib.hid (below_trans (Below.refl _ _) hb)
         clear hb))
    go_ret
    exact HQ.out _ _ ⟨ret_bool (by simp [notM, *]), B_w1.out⟩
set_option maxRecDepth 100000 in
set_option maxHeartbeats 4000000 in
theorem filterD_any (A : Option Addr) (c : Nat) (ps : List Nat) (xs : List Ty92) (B : Option Addr) (d : Nat) (qs : List Nat) (ys : List Ty92) (gb : Nat) (w : World) (h0 : Sl w (A) (ptrs ps)) (h1 : Pl InfoAt w (ps) (xs)) (h2 : Sl w (B) (ptrs qs)) (h3 : Pl InfoAt w (qs) (ys)) (h4 : Blk w (gb) 167 #[.slice (B) (ys.length) (d)]) (hn : xs.length ≤ 1000000) :
    Calls Try.prog 135 #[.slice (A) (xs.length) (c), .func (.func 136) #[] #[.pointer (some ⟨gb, 0, none⟩)]] w fun e w' => ∃ A2 : Option Addr, ∃ c2 : Nat, ∃ rs : List Nat, e = .returned (.slice A2 ((xs.filter (notM ys)).length) c2) ∧ World.ownsRow w' w.heap.size 170 1 (.slice A2 (xs.filter (notM ys)).length c2) ((xs.filter (notM ys)).length) (ptrs rs) ∧ Pl InfoAt w' rs (xs.filter (notM ys)) ∧ Below w.heap.size w w' := by
  have hl_ps : ps.length ≤ 9223372036854775807 := by have := h0.1; simpa [strs, ptrs] using this
  have hlp_1 := h1.1
  have hl_qs : qs.length ≤ 9223372036854775807 := by have := h2.1; simpa [strs, ptrs] using this
  have hlp_3 := h3.1
  have H0 := Lib.hid h0
  clear h0
  have H1 := Lib.hid h1
  clear h1
  have H2 := Lib.hid h2
  clear h2
  have H3 := Lib.hid h3
  clear h3
  have H4 := Lib.hid h4
  clear h4
  suffices hQ : ∀ Q : Ending → World → Prop, Hid (∀ (e : Ending) (w' : World), (∃ A2 : Option Addr, ∃ c2 : Nat, ∃ rs : List Nat, e = .returned (.slice A2 ((xs.filter (notM ys)).length) c2) ∧ World.ownsRow w' w.heap.size 170 1 (.slice A2 (xs.filter (notM ys)).length c2) ((xs.filter (notM ys)).length) (ptrs rs) ∧ Pl InfoAt w' rs (xs.filter (notM ys)) ∧ Below w.heap.size w w') → Post1 Q e w') → Calls Try.prog 135 #[.slice (A) (xs.length) (c), .func (.func 136) #[] #[.pointer (some ⟨gb, 0, none⟩)]] w (fun e w' => Post1 Q e w') from hQ (fun e w' => ∃ A2 : Option Addr, ∃ c2 : Nat, ∃ rs : List Nat, e = .returned (.slice A2 ((xs.filter (notM ys)).length) c2) ∧ World.ownsRow w' w.heap.size 170 1 (.slice A2 (xs.filter (notM ys)).length c2) ((xs.filter (notM ys)).length) (ptrs rs) ∧ Pl InfoAt w' rs (xs.filter (notM ys)) ∧ Below w.heap.size w w') (fun _ _ h => by unfold Post1; exact h)
  intro Q HQ
  go_enter Try.func135, Try.ntmps135
  go_wp2_with (first
    | ((with_reducible refine at_dst (N := 5) rfl ?_); refine ev_alloc rfl 167 rfl _ _ tz167 ?_; intro g5 w1 hg hB hb
       have low_g5 := Nat.le_trans (Nat.le_refl _) hg
       have B_w1 := Lib.hid (below_trans (Below.refl _ _) hb)
       have g5_w1 : Hid (Blk w1 g5 167 #[.slice none 0 0]) := hB
       clear hB hb))
  go_loopw [10] (fun v10 wr => ∃ k : Nat, ∃ M : Value, ∃ rs : List Nat, (k ≤ xs.length) ∧ v10 = .int .i64 (↑k) ∧ Hid (Blk wr g5 167 #[M]) ∧ Hid (World.ownsRow wr w.heap.size 170 1 M (((xs.take k).filter (notM ys)).length) (ptrs rs)) ∧ Hid (Pl InfoAt wr rs ((xs.take k).filter (notM ys))) ∧ Hid (Below w.heap.size w wr)) (fun v10 _ => xs.length - (intOf v10).toNat)
  case atStart => exact ⟨0, .slice none 0 0, [], (by omega), rfl, g5_w1, (own_nil _ _ _ _), Pl.nil, B_w1⟩
  case round =>
    obtain ⟨k, M, rs, hk, rfl, L0_g5, L0_own, L0_pl, L0_B⟩ := hrel
    by_cases hlt_k : k < xs.length
    · obtain ⟨ad_k, rfl⟩ := (H0.out.below L0_B.out).addr (by simp [strs, ptrs]; omega)
      obtain ⟨hkp, hR⟩ := Pl.get (Pl.map H1.out fun _ _ q => InfoAt.below q L0_B.out) hlt_k
      have hR' := Lib.hid hR
      clear hR
      have hfl : ((xs.take k).filter (notM ys)).length ≤ k := by
        have h1 := List.length_filter_le (notM ys) (xs.take k)
        have h2 := List.length_take_le k xs
        omega
      cases hc1 : (notM ys xs[k])
      · go_wp2_with (first
          | ((with_reducible refine at_dst (N := 13) rfl ?_); refine ev_ld rfl 170 _ rfl _ rfl (.pointer (some ⟨ps[k], 0, none⟩)) ((H0.out.below L0_B.out).el (j := k) (ptrs_get hkp)) _ Try.underlying170 rfl ?_)
          | (go_at_call 136; (with_reducible refine (dclo_any B d qs ys xs[k] ps[k] gb _ (H2.out.below L0_B.out) (Pl.map H3.out fun _ _ q => InfoAt.below q L0_B.out) hR'.out (H4.out.below L0_B.out)).mono ?_); rintro e w2 ⟨rfl, hb⟩; rw [hc1]
             have g5_w2 := Lib.hid (L0_g5.out.below hb)
             have own_w2 := Lib.hid (own_below L0_own.out hb)
             have pl_w2 := Lib.hid (Pl.map L0_pl.out fun _ _ q => InfoAt.below q hb)
             have el_w2 := Lib.hid (InfoAt.below hR'.out hb)
             have B_w2 := Lib.hid (below_trans L0_B.out hb)
             clear hb))
        refine ⟨⟨k + 1, _, rs, (by omega), by go_num, g5_w2, by show World.ownsRow _ _ _ _ _ _ _; rw [filter_take hlt_k, hc1, if_neg (by decide), List.append_nil]; exact own_w2.out, by show Pl _ _ _ _; rw [filter_take hlt_k, hc1, if_neg (by decide), List.append_nil]; exact pl_w2.out, B_w2⟩, ?_⟩
        simp [intOf]; omega
      · go_wp2_with (first
          | ((with_reducible refine at_dst (N := 13) rfl ?_); refine ev_ld rfl 170 _ rfl _ rfl (.pointer (some ⟨ps[k], 0, none⟩)) ((H0.out.below L0_B.out).el (j := k) (ptrs_get hkp)) _ Try.underlying170 rfl ?_)
          | (go_at_call 136; (with_reducible refine (dclo_any B d qs ys xs[k] ps[k] gb _ (H2.out.below L0_B.out) (Pl.map H3.out fun _ _ q => InfoAt.below q L0_B.out) hR'.out (H4.out.below L0_B.out)).mono ?_); rintro e w2 ⟨rfl, hb⟩; rw [hc1]
             have g5_w2 := Lib.hid (L0_g5.out.below hb)
             have own_w2 := Lib.hid (own_below L0_own.out hb)
             have pl_w2 := Lib.hid (Pl.map L0_pl.out fun _ _ q => InfoAt.below q hb)
             have el_w2 := Lib.hid (InfoAt.below hR'.out hb)
             have B_w2 := Lib.hid (below_trans L0_B.out hb)
             clear hb)
          | (go_at_call 133; (with_reducible refine (rlAppend_any g5 ps[k] M (((xs.take k).filter (notM ys)).length) (ptrs rs) w.heap.size _ g5_w2.out own_w2.out (by omega) B_w2.out.size).mono ?_); rintro e w3 ⟨M218, rfl, hp0_18, hp1_18, hb⟩
             have pl_w3 := Lib.hid (Pl.map pl_w2.out fun _ _ q => InfoAt.ap q hb (SApart.or (SApart.blk g5_w2.out (by decide)) (SApart.own own_w2.out (by decide))))
             have el_w3 := Lib.hid (InfoAt.ap el_w2.out hb (SApart.or (SApart.blk g5_w2.out (by decide)) (SApart.own own_w2.out (by decide))))
             have B_w3 := Lib.hid (below_grx B_w2.out hb B_w2.out.size (fun k => (fun e => e.elim (fun e => e ▸ low_g5) (fun e => own_ge own_w2.out k e))))
             have g5_w3 := Lib.hid hp0_18
             have own_w3 := Lib.hid hp1_18
             clear hb hp0_18 hp1_18))
        refine ⟨⟨k + 1, _, rs ++ [ps[k]], (by omega), by go_num, g5_w3, by show World.ownsRow _ _ _ _ _ _ _; rw [filter_take hlt_k, hc1, if_pos rfl, List.length_append, ptrs_snoc]; exact own_w3.out, by show Pl _ _ _ _; rw [filter_take hlt_k, hc1, if_pos rfl]; exact pl_w3.out.snoc el_w3.out, B_w3⟩, ?_⟩
        simp [intOf]; omega
    · obtain rfl : k = xs.length := by omega
      rw [List.take_length] at L0_own L0_pl
      obtain ⟨A2, c2, rfl, _⟩ := own_form L0_own.out
      go_wp2_with (first
        | ((with_reducible refine at_dst (N := 20) rfl ?_); refine ev_ld rfl 167 _ rfl ⟨g5, 0, none⟩ rfl (.slice A2 (xs.filter (notM ys)).length c2) (L0_g5.out.cell 0) _ Try.underlying167 rfl ?_))
      go_ret
      exact HQ.out _ _ ⟨A2, c2, _, rfl, L0_own.out, L0_pl.out, L0_B.out⟩
set_option maxRecDepth 100000 in
set_option maxHeartbeats 4000000 in
theorem filterI_any (A : Option Addr) (c : Nat) (ps : List Nat) (xs : List Ty92) (B : Option Addr) (d : Nat) (qs : List Nat) (ys : List Ty92) (w : World) (h0 : Sl w (A) (ptrs ps)) (h1 : Pl InfoAt w (ps) (xs)) (h2 : Sl w (B) (ptrs qs)) (h3 : Pl InfoAt w (qs) (ys)) (hn : xs.length ≤ 1000000) :
    Calls Try.prog 135 #[.slice (A) (xs.length) (c), .func (.func 107) #[.slice (B) (ys.length) (d)] #[]] w fun e w' => ∃ A2 : Option Addr, ∃ c2 : Nat, ∃ rs : List Nat, e = .returned (.slice A2 ((xs.filter (anyM ys)).length) c2) ∧ World.ownsRow w' w.heap.size 170 1 (.slice A2 (xs.filter (anyM ys)).length c2) ((xs.filter (anyM ys)).length) (ptrs rs) ∧ Pl InfoAt w' rs (xs.filter (anyM ys)) ∧ Below w.heap.size w w' := by
  have hl_ps : ps.length ≤ 9223372036854775807 := by have := h0.1; simpa [strs, ptrs] using this
  have hlp_1 := h1.1
  have hl_qs : qs.length ≤ 9223372036854775807 := by have := h2.1; simpa [strs, ptrs] using this
  have hlp_3 := h3.1
  have H0 := Lib.hid h0
  clear h0
  have H1 := Lib.hid h1
  clear h1
  have H2 := Lib.hid h2
  clear h2
  have H3 := Lib.hid h3
  clear h3
  suffices hQ : ∀ Q : Ending → World → Prop, Hid (∀ (e : Ending) (w' : World), (∃ A2 : Option Addr, ∃ c2 : Nat, ∃ rs : List Nat, e = .returned (.slice A2 ((xs.filter (anyM ys)).length) c2) ∧ World.ownsRow w' w.heap.size 170 1 (.slice A2 (xs.filter (anyM ys)).length c2) ((xs.filter (anyM ys)).length) (ptrs rs) ∧ Pl InfoAt w' rs (xs.filter (anyM ys)) ∧ Below w.heap.size w w') → Post1 Q e w') → Calls Try.prog 135 #[.slice (A) (xs.length) (c), .func (.func 107) #[.slice (B) (ys.length) (d)] #[]] w (fun e w' => Post1 Q e w') from hQ (fun e w' => ∃ A2 : Option Addr, ∃ c2 : Nat, ∃ rs : List Nat, e = .returned (.slice A2 ((xs.filter (anyM ys)).length) c2) ∧ World.ownsRow w' w.heap.size 170 1 (.slice A2 (xs.filter (anyM ys)).length c2) ((xs.filter (anyM ys)).length) (ptrs rs) ∧ Pl InfoAt w' rs (xs.filter (anyM ys)) ∧ Below w.heap.size w w') (fun _ _ h => by unfold Post1; exact h)
  intro Q HQ
  go_enter Try.func135, Try.ntmps135
  go_wp2_with (first
    | ((with_reducible refine at_dst (N := 5) rfl ?_); refine ev_alloc rfl 167 rfl _ _ tz167 ?_; intro g5 w1 hg hB hb
       have low_g5 := Nat.le_trans (Nat.le_refl _) hg
       have B_w1 := Lib.hid (below_trans (Below.refl _ _) hb)
       have g5_w1 : Hid (Blk w1 g5 167 #[.slice none 0 0]) := hB
       clear hB hb))
  go_loopw [10] (fun v10 wr => ∃ k : Nat, ∃ M : Value, ∃ rs : List Nat, (k ≤ xs.length) ∧ v10 = .int .i64 (↑k) ∧ Hid (Blk wr g5 167 #[M]) ∧ Hid (World.ownsRow wr w.heap.size 170 1 M (((xs.take k).filter (anyM ys)).length) (ptrs rs)) ∧ Hid (Pl InfoAt wr rs ((xs.take k).filter (anyM ys))) ∧ Hid (Below w.heap.size w wr)) (fun v10 _ => xs.length - (intOf v10).toNat)
  case atStart => exact ⟨0, .slice none 0 0, [], (by omega), rfl, g5_w1, (own_nil _ _ _ _), Pl.nil, B_w1⟩
  case round =>
    obtain ⟨k, M, rs, hk, rfl, L0_g5, L0_own, L0_pl, L0_B⟩ := hrel
    by_cases hlt_k : k < xs.length
    · obtain ⟨ad_k, rfl⟩ := (H0.out.below L0_B.out).addr (by simp [strs, ptrs]; omega)
      obtain ⟨hkp, hR⟩ := Pl.get (Pl.map H1.out fun _ _ q => InfoAt.below q L0_B.out) hlt_k
      have hR' := Lib.hid hR
      clear hR
      have hfl : ((xs.take k).filter (anyM ys)).length ≤ k := by
        have h1 := List.length_filter_le (anyM ys) (xs.take k)
        have h2 := List.length_take_le k xs
        omega
      cases hc1 : (anyM ys xs[k])
      · go_wp2_with (first
          | ((with_reducible refine at_dst (N := 13) rfl ?_); refine ev_ld rfl 170 _ rfl _ rfl (.pointer (some ⟨ps[k], 0, none⟩)) ((H0.out.below L0_B.out).el (j := k) (ptrs_get hkp)) _ Try.underlying170 rfl ?_)
          | (go_at_call 107; (with_reducible refine (rlContains_any B d qs ys xs[k] ps[k] _ (H2.out.below L0_B.out) (Pl.map H3.out fun _ _ q => InfoAt.below q L0_B.out) hR'.out).mono ?_); rintro e w2 ⟨rfl, hb⟩; rw [hc1]
             have g5_w2 := Lib.hid (L0_g5.out.below hb)
             have own_w2 := Lib.hid (own_below L0_own.out hb)
             have pl_w2 := Lib.hid (Pl.map L0_pl.out fun _ _ q => InfoAt.below q hb)
             have el_w2 := Lib.hid (InfoAt.below hR'.out hb)
             have B_w2 := Lib.hid (below_trans L0_B.out hb)
             clear hb))
        refine ⟨⟨k + 1, _, rs, (by omega), by go_num, g5_w2, by show World.ownsRow _ _ _ _ _ _ _; rw [filter_take hlt_k, hc1, if_neg (by decide), List.append_nil]; exact own_w2.out, by show Pl _ _ _ _; rw [filter_take hlt_k, hc1, if_neg (by decide), List.append_nil]; exact pl_w2.out, B_w2⟩, ?_⟩
        simp [intOf]; omega
      · go_wp2_with (first
          | ((with_reducible refine at_dst (N := 13) rfl ?_); refine ev_ld rfl 170 _ rfl _ rfl (.pointer (some ⟨ps[k], 0, none⟩)) ((H0.out.below L0_B.out).el (j := k) (ptrs_get hkp)) _ Try.underlying170 rfl ?_)
          | (go_at_call 107; (with_reducible refine (rlContains_any B d qs ys xs[k] ps[k] _ (H2.out.below L0_B.out) (Pl.map H3.out fun _ _ q => InfoAt.below q L0_B.out) hR'.out).mono ?_); rintro e w2 ⟨rfl, hb⟩; rw [hc1]
             have g5_w2 := Lib.hid (L0_g5.out.below hb)
             have own_w2 := Lib.hid (own_below L0_own.out hb)
             have pl_w2 := Lib.hid (Pl.map L0_pl.out fun _ _ q => InfoAt.below q hb)
             have el_w2 := Lib.hid (InfoAt.below hR'.out hb)
             have B_w2 := Lib.hid (below_trans L0_B.out hb)
             clear hb)
          | (go_at_call 133; (with_reducible refine (rlAppend_any g5 ps[k] M (((xs.take k).filter (anyM ys)).length) (ptrs rs) w.heap.size _ g5_w2.out own_w2.out (by omega) B_w2.out.size).mono ?_); rintro e w3 ⟨M218, rfl, hp0_18, hp1_18, hb⟩
             have pl_w3 := Lib.hid (Pl.map pl_w2.out fun _ _ q => InfoAt.ap q hb (SApart.or (SApart.blk g5_w2.out (by decide)) (SApart.own own_w2.out (by decide))))
             have el_w3 := Lib.hid (InfoAt.ap el_w2.out hb (SApart.or (SApart.blk g5_w2.out (by decide)) (SApart.own own_w2.out (by decide))))
             have B_w3 := Lib.hid (below_grx B_w2.out hb B_w2.out.size (fun k => (fun e => e.elim (fun e => e ▸ low_g5) (fun e => own_ge own_w2.out k e))))
             have g5_w3 := Lib.hid hp0_18
             have own_w3 := Lib.hid hp1_18
             clear hb hp0_18 hp1_18))
        refine ⟨⟨k + 1, _, rs ++ [ps[k]], (by omega), by go_num, g5_w3, by show World.ownsRow _ _ _ _ _ _ _; rw [filter_take hlt_k, hc1, if_pos rfl, List.length_append, ptrs_snoc]; exact own_w3.out, by show Pl _ _ _ _; rw [filter_take hlt_k, hc1, if_pos rfl]; exact pl_w3.out.snoc el_w3.out, B_w3⟩, ?_⟩
        simp [intOf]; omega
    · obtain rfl : k = xs.length := by omega
      rw [List.take_length] at L0_own L0_pl
      obtain ⟨A2, c2, rfl, _⟩ := own_form L0_own.out
      go_wp2_with (first
        | ((with_reducible refine at_dst (N := 20) rfl ?_); refine ev_ld rfl 167 _ rfl ⟨g5, 0, none⟩ rfl (.slice A2 (xs.filter (anyM ys)).length c2) (L0_g5.out.cell 0) _ Try.underlying167 rfl ?_))
      go_ret
      exact HQ.out _ _ ⟨A2, c2, _, rfl, L0_own.out, L0_pl.out, L0_B.out⟩
set_option maxRecDepth 100000 in
set_option maxHeartbeats 4000000 in
theorem diff_any (A : Option Addr) (c : Nat) (ps : List Nat) (xs : List Ty92) (B : Option Addr) (d : Nat) (qs : List Nat) (ys : List Ty92) (w : World) (h0 : Sl w (A) (ptrs ps)) (h1 : Pl InfoAt w (ps) (xs)) (h2 : Sl w (B) (ptrs qs)) (h3 : Pl InfoAt w (qs) (ys)) (hn : xs.length ≤ 1000000) :
    Calls Try.prog 109 #[.slice (A) (xs.length) (c), .slice (B) (ys.length) (d)] w fun e w' => ∃ A2 : Option Addr, ∃ c2 : Nat, ∃ rs : List Nat, e = .returned (.slice A2 ((xs.filter (notM ys)).length) c2) ∧ World.ownsRow w' w.heap.size 170 1 (.slice A2 (xs.filter (notM ys)).length c2) ((xs.filter (notM ys)).length) (ptrs rs) ∧ Pl InfoAt w' rs (xs.filter (notM ys)) ∧ Below w.heap.size w w' := by
  have hl_ps : ps.length ≤ 9223372036854775807 := by have := h0.1; simpa [strs, ptrs] using this
  have hlp_1 := h1.1
  have hl_qs : qs.length ≤ 9223372036854775807 := by have := h2.1; simpa [strs, ptrs] using this
  have hlp_3 := h3.1
  have H0 := Lib.hid h0
  clear h0
  have H1 := Lib.hid h1
  clear h1
  have H2 := Lib.hid h2
  clear h2
  have H3 := Lib.hid h3
  clear h3
  suffices hQ : ∀ Q : Ending → World → Prop, Hid (∀ (e : Ending) (w' : World), (∃ A2 : Option Addr, ∃ c2 : Nat, ∃ rs : List Nat, e = .returned (.slice A2 ((xs.filter (notM ys)).length) c2) ∧ World.ownsRow w' w.heap.size 170 1 (.slice A2 (xs.filter (notM ys)).length c2) ((xs.filter (notM ys)).length) (ptrs rs) ∧ Pl InfoAt w' rs (xs.filter (notM ys)) ∧ Below w.heap.size w w') → Post1 Q e w') → Calls Try.prog 109 #[.slice (A) (xs.length) (c), .slice (B) (ys.length) (d)] w (fun e w' => Post1 Q e w') from hQ (fun e w' => ∃ A2 : Option Addr, ∃ c2 : Nat, ∃ rs : List Nat, e = .returned (.slice A2 ((xs.filter (notM ys)).length) c2) ∧ World.ownsRow w' w.heap.size 170 1 (.slice A2 (xs.filter (notM ys)).length c2) ((xs.filter (notM ys)).length) (ptrs rs) ∧ Pl InfoAt w' rs (xs.filter (notM ys)) ∧ Below w.heap.size w w') (fun _ _ h => by unfold Post1; exact h)
  intro Q HQ
  have hmf : ∀ (fn : Fn) (first cap : Array Value) (w : World), (Instr.makeFunc fn first cap).run Try.prog w = .ok (.func fn first cap) w := fun _ _ _ _ => rfl
  go_enter Try.func109, Try.ntmps109
  go_wp2_with (first
    | ((with_reducible refine at_dst (N := 3) rfl ?_); refine ev_box rfl 167 _ rfl _ rfl ?_; intro g3 w1 hg hB hb
       have low_g3 := Nat.le_trans (Nat.le_refl _) hg
       have B_w1 := Lib.hid (below_trans (Below.refl _ _) hb)
       have g3_w1 : Hid (Blk w1 g3 167 #[.slice (B) (ys.length) (d)]) := hB
       clear hB hb)
    | (go_at_call 135; (with_reducible refine (filterD_any A c ps xs B d qs ys g3 _ (H0.out.below B_w1.out) (Pl.map H1.out fun _ _ q => InfoAt.below q B_w1.out) (H2.out.below B_w1.out) (Pl.map H3.out fun _ _ q => InfoAt.below q B_w1.out) g3_w1.out (by omega)).mono ?_); rintro e w2 ⟨A27, c27, rs7, rfl, hp0_7, hp1_7, hb⟩
       have g3_w2 := Lib.hid (g3_w1.out.below hb)
       have B_w2 := Lib.hid (below_trans B_w1.out hb)
       have hp0_7 := own_mono hp0_7 B_w1.out.size
       have o7_0_w2 := Lib.hid hp0_7
       have f7_1_w2 := Lib.hid hp1_7
       clear hb hp0_7 hp1_7))
  go_ret
  exact HQ.out _ _ ⟨A27, c27, _, rfl, o7_0_w2.out, f7_1_w2.out, B_w2.out⟩
set_option maxRecDepth 100000 in
set_option maxHeartbeats 4000000 in
theorem inter_any (A : Option Addr) (c : Nat) (ps : List Nat) (xs : List Ty92) (B : Option Addr) (d : Nat) (qs : List Nat) (ys : List Ty92) (w : World) (h0 : Sl w (A) (ptrs ps)) (h1 : Pl InfoAt w (ps) (xs)) (h2 : Sl w (B) (ptrs qs)) (h3 : Pl InfoAt w (qs) (ys)) (hn : xs.length ≤ 1000000) :
    Calls Try.prog 110 #[.slice (A) (xs.length) (c), .slice (B) (ys.length) (d)] w fun e w' => ∃ A2 : Option Addr, ∃ c2 : Nat, ∃ rs : List Nat, e = .returned (.slice A2 ((xs.filter (anyM ys)).length) c2) ∧ World.ownsRow w' w.heap.size 170 1 (.slice A2 (xs.filter (anyM ys)).length c2) ((xs.filter (anyM ys)).length) (ptrs rs) ∧ Pl InfoAt w' rs (xs.filter (anyM ys)) ∧ Below w.heap.size w w' := by
  have hl_ps : ps.length ≤ 9223372036854775807 := by have := h0.1; simpa [strs, ptrs] using this
  have hlp_1 := h1.1
  have hl_qs : qs.length ≤ 9223372036854775807 := by have := h2.1; simpa [strs, ptrs] using this
  have hlp_3 := h3.1
  have H0 := Lib.hid h0
  clear h0
  have H1 := Lib.hid h1
  clear h1
  have H2 := Lib.hid h2
  clear h2
  have H3 := Lib.hid h3
  clear h3
  suffices hQ : ∀ Q : Ending → World → Prop, Hid (∀ (e : Ending) (w' : World), (∃ A2 : Option Addr, ∃ c2 : Nat, ∃ rs : List Nat, e = .returned (.slice A2 ((xs.filter (anyM ys)).length) c2) ∧ World.ownsRow w' w.heap.size 170 1 (.slice A2 (xs.filter (anyM ys)).length c2) ((xs.filter (anyM ys)).length) (ptrs rs) ∧ Pl InfoAt w' rs (xs.filter (anyM ys)) ∧ Below w.heap.size w w') → Post1 Q e w') → Calls Try.prog 110 #[.slice (A) (xs.length) (c), .slice (B) (ys.length) (d)] w (fun e w' => Post1 Q e w') from hQ (fun e w' => ∃ A2 : Option Addr, ∃ c2 : Nat, ∃ rs : List Nat, e = .returned (.slice A2 ((xs.filter (anyM ys)).length) c2) ∧ World.ownsRow w' w.heap.size 170 1 (.slice A2 (xs.filter (anyM ys)).length c2) ((xs.filter (anyM ys)).length) (ptrs rs) ∧ Pl InfoAt w' rs (xs.filter (anyM ys)) ∧ Below w.heap.size w w') (fun _ _ h => by unfold Post1; exact h)
  intro Q HQ
  have hmf : ∀ (fn : Fn) (first cap : Array Value) (w : World), (Instr.makeFunc fn first cap).run Try.prog w = .ok (.func fn first cap) w := fun _ _ _ _ => rfl
  go_enter Try.func110, Try.ntmps110
  go_wp2_with (first
    | (go_at_call 135; (with_reducible refine (filterI_any A c ps xs B d qs ys _ H0.out H1.out H2.out H3.out (by omega)).mono ?_); rintro e w1 ⟨A28, c28, rs8, rfl, hp0_8, hp1_8, hb⟩
       have B_w1 := Lib.hid (below_trans (Below.refl _ _) hb)
       have hp0_8 := own_mono hp0_8 (Nat.le_refl _)
       have o8_0_w1 := Lib.hid hp0_8
       have f8_1_w1 := Lib.hid hp1_8
       clear hb hp0_8 hp1_8))
  go_ret
  exact HQ.out _ _ ⟨A28, c28, _, rfl, o8_0_w1.out, f8_1_w1.out, B_w1.out⟩
set_option maxRecDepth 100000 in
set_option maxHeartbeats 4000000 in
theorem sets_any (A : Option Addr) (c : Nat) (xs : List Ty92) (B : Option Addr) (d : Nat) (ys : List Ty92) (w : World) (h0 : Rows w (A) 4 (xs.map Ty92.cells)) (h1 : Rows w (B) 4 (ys.map Ty92.cells)) (hn : xs.length ≤ 1000000) (hn2 : ys.length ≤ 1000000) :
    Calls Try.prog 57 #[.slice (A) (xs.length) (c), .slice (B) (ys.length) (d)] w fun e w' => ∃ A2 : Option Addr, ∃ c2 : Nat, ∃ A3 : Option Addr, ∃ c3 : Nat, e = .returned (.tuple #[.slice A2 ((xs.filter (notM ys)).length) c2, .slice A3 ((xs.filter (anyM ys)).length) c3]) ∧ World.ownsRow w' w.heap.size 92 4 (.slice A2 (xs.filter (notM ys)).length c2) ((xs.filter (notM ys)).length) (flatC Ty92.cells (xs.filter (notM ys))) ∧ World.ownsRow w' w.heap.size 92 4 (.slice A3 (xs.filter (anyM ys)).length c3) ((xs.filter (anyM ys)).length) (flatC Ty92.cells (xs.filter (anyM ys))) ∧ Below w.heap.size w w' := by
  have hl_xs : xs.length ≤ 9223372036854775807 := by have := h0.1; simpa [strs, ptrs] using this
  have hl_ys : ys.length ≤ 9223372036854775807 := by have := h1.1; simpa [strs, ptrs] using this
  have H0 := Lib.hid h0
  clear h0
  have H1 := Lib.hid h1
  clear h1
  have hf1 := List.length_filter_le (notM ys) xs
  have hf2 := List.length_filter_le (anyM ys) xs
  suffices hQ : ∀ Q : Ending → World → Prop, Hid (∀ (e : Ending) (w' : World), (∃ A2 : Option Addr, ∃ c2 : Nat, ∃ A3 : Option Addr, ∃ c3 : Nat, e = .returned (.tuple #[.slice A2 ((xs.filter (notM ys)).length) c2, .slice A3 ((xs.filter (anyM ys)).length) c3]) ∧ World.ownsRow w' w.heap.size 92 4 (.slice A2 (xs.filter (notM ys)).length c2) ((xs.filter (notM ys)).length) (flatC Ty92.cells (xs.filter (notM ys))) ∧ World.ownsRow w' w.heap.size 92 4 (.slice A3 (xs.filter (anyM ys)).length c3) ((xs.filter (anyM ys)).length) (flatC Ty92.cells (xs.filter (anyM ys))) ∧ Below w.heap.size w w') → Post1 Q e w') → Calls Try.prog 57 #[.slice (A) (xs.length) (c), .slice (B) (ys.length) (d)] w (fun e w' => Post1 Q e w') from hQ (fun e w' => ∃ A2 : Option Addr, ∃ c2 : Nat, ∃ A3 : Option Addr, ∃ c3 : Nat, e = .returned (.tuple #[.slice A2 ((xs.filter (notM ys)).length) c2, .slice A3 ((xs.filter (anyM ys)).length) c3]) ∧ World.ownsRow w' w.heap.size 92 4 (.slice A2 (xs.filter (notM ys)).length c2) ((xs.filter (notM ys)).length) (flatC Ty92.cells (xs.filter (notM ys))) ∧ World.ownsRow w' w.heap.size 92 4 (.slice A3 (xs.filter (anyM ys)).length c3) ((xs.filter (anyM ys)).length) (flatC Ty92.cells (xs.filter (anyM ys))) ∧ Below w.heap.size w w') (fun _ _ h => by unfold Post1; exact h)
  intro Q HQ
  go_enter Try.func57, Try.ntmps57
  go_wp2_with (first
    | (go_at_call 105; (with_reducible refine (resources_any A c xs _ H0.out (by omega)).mono ?_); rintro e w1 ⟨A29, c29, ps9, rfl, hp0_9, hp1_9, hb⟩
       have B_w1 := Lib.hid (below_trans (Below.refl _ _) hb)
       have hp0_9 := own_mono hp0_9 (Nat.le_refl _)
       have o9_0_w1 := Lib.hid hp0_9
       have f9_1_w1 := Lib.hid hp1_9
       clear hb hp0_9 hp1_9)
    | (go_at_call 105; (with_reducible refine (resources_any B d ys _ (H1.out.below B_w1.out) (by omega)).mono ?_); rintro e w2 ⟨A211, c211, ps11, rfl, hp0_11, hp1_11, hb⟩
       have o9_0_w2 := Lib.hid (own_below o9_0_w1.out hb)
       have f9_1_w2 := Lib.hid (Pl.map f9_1_w1.out fun _ _ q => InfoAt.below q hb)
       have B_w2 := Lib.hid (below_trans B_w1.out hb)
       have hp0_11 := own_mono hp0_11 B_w1.out.size
       have o11_0_w2 := Lib.hid hp0_11
       have f11_1_w2 := Lib.hid hp1_11
       clear hb hp0_11 hp1_11)
    | (go_at_call 109; (with_reducible refine (diff_any A29 c29 ps9 xs A211 c211 ps11 ys _ (own_sl1 o9_0_w2.out (by omega)) f9_1_w2.out (own_sl1 o11_0_w2.out (by omega)) f11_1_w2.out (by omega)).mono ?_); rintro e w3 ⟨A214, c214, rs14, rfl, hp0_14, hp1_14, hb⟩
       have o9_0_w3 := Lib.hid (own_below o9_0_w2.out hb)
       have f9_1_w3 := Lib.hid (Pl.map f9_1_w2.out fun _ _ q => InfoAt.below q hb)
       have o11_0_w3 := Lib.hid (own_below o11_0_w2.out hb)
       have f11_1_w3 := Lib.hid (Pl.map f11_1_w2.out fun _ _ q => InfoAt.below q hb)
       have B_w3 := Lib.hid (below_trans B_w2.out hb)
       have hp0_14 := own_mono hp0_14 B_w2.out.size
       have o14_0_w3 := Lib.hid hp0_14
       have f14_1_w3 := Lib.hid hp1_14
       clear hb hp0_14 hp1_14)
    | (go_at_call 108; (with_reducible refine (told_any A214 c214 rs14 (xs.filter (notM ys)) _ (own_sl1 o14_0_w3.out (by omega)) f14_1_w3.out (by omega)).mono ?_); rintro e w4 ⟨A215, c215, rfl, hp0_15, hb⟩
       have o9_0_w4 := Lib.hid (own_below o9_0_w3.out hb)
       have f9_1_w4 := Lib.hid (Pl.map f9_1_w3.out fun _ _ q => InfoAt.below q hb)
       have o11_0_w4 := Lib.hid (own_below o11_0_w3.out hb)
       have f11_1_w4 := Lib.hid (Pl.map f11_1_w3.out fun _ _ q => InfoAt.below q hb)
       have o14_0_w4 := Lib.hid (own_below o14_0_w3.out hb)
       have f14_1_w4 := Lib.hid (Pl.map f14_1_w3.out fun _ _ q => InfoAt.below q hb)
       have B_w4 := Lib.hid (below_trans B_w3.out hb)
       have hp0_15 := own_mono hp0_15 B_w3.out.size
       have o15_0_w4 := Lib.hid hp0_15
       clear hb hp0_15)
    | (go_at_call 110; (with_reducible refine (inter_any A29 c29 ps9 xs A211 c211 ps11 ys _ (own_sl1 o9_0_w4.out (by omega)) f9_1_w4.out (own_sl1 o11_0_w4.out (by omega)) f11_1_w4.out (by omega)).mono ?_); rintro e w5 ⟨A218, c218, rs18, rfl, hp0_18, hp1_18, hb⟩
       have o9_0_w5 := Lib.hid (own_below o9_0_w4.out hb)
       have f9_1_w5 := Lib.hid (Pl.map f9_1_w4.out fun _ _ q => InfoAt.below q hb)
       have o11_0_w5 := Lib.hid (own_below o11_0_w4.out hb)
       have f11_1_w5 := Lib.hid (Pl.map f11_1_w4.out fun _ _ q => InfoAt.below q hb)
       have o14_0_w5 := Lib.hid (own_below o14_0_w4.out hb)
       have f14_1_w5 := Lib.hid (Pl.map f14_1_w4.out fun _ _ q => InfoAt.below q hb)
       have o15_0_w5 := Lib.hid (own_below o15_0_w4.out hb)
       have B_w5 := Lib.hid (below_trans B_w4.out hb)
       have hp0_18 := own_mono hp0_18 B_w4.out.size
       have o18_0_w5 := Lib.hid hp0_18
       have f18_1_w5 := Lib.hid hp1_18
       clear hb hp0_18 hp1_18)
    | (go_at_call 108; (with_reducible refine (told_any A218 c218 rs18 (xs.filter (anyM ys)) _ (own_sl1 o18_0_w5.out (by omega)) f18_1_w5.out (by omega)).mono ?_); rintro e w6 ⟨A219, c219, rfl, hp0_19, hb⟩
       have o9_0_w6 := Lib.hid (own_below o9_0_w5.out hb)
       have f9_1_w6 := Lib.hid (Pl.map f9_1_w5.out fun _ _ q => InfoAt.below q hb)
       have o11_0_w6 := Lib.hid (own_below o11_0_w5.out hb)
       have f11_1_w6 := Lib.hid (Pl.map f11_1_w5.out fun _ _ q => InfoAt.below q hb)
       have o14_0_w6 := Lib.hid (own_below o14_0_w5.out hb)
       have f14_1_w6 := Lib.hid (Pl.map f14_1_w5.out fun _ _ q => InfoAt.below q hb)
       have o15_0_w6 := Lib.hid (own_below o15_0_w5.out hb)
       have o18_0_w6 := Lib.hid (own_below o18_0_w5.out hb)
       have f18_1_w6 := Lib.hid (Pl.map f18_1_w5.out fun _ _ q => InfoAt.below q hb)
       have B_w6 := Lib.hid (below_trans B_w5.out hb)
       have hp0_19 := own_mono hp0_19 B_w5.out.size
       have o19_0_w6 := Lib.hid hp0_19
       clear hb hp0_19))
  go_ret2
  exact HQ.out _ _ ⟨A215, c215, A219, c219, rfl, o15_0_w6.out, o19_0_w6.out, B_w6.out⟩
set_option maxRecDepth 100000 in
set_option maxHeartbeats 4000000 in
theorem rget_none (A : Option Addr) (c : Nat) (xs : List Ty92) (y : Ty92) (w : World) (h0 : Rows w (A) 4 (xs.map Ty92.cells)) (hn : xs.length ≤ 1000000) (hno : anyM xs y = false) :
    Calls Try.prog 56 #[.slice (A) (xs.length) (c), .agg #[.string y.fName, .string y.fNamespace, .string y.fKind, .string y.fGroup]] w fun e w' => e = .returned (.tuple #[.agg #[.string ⟨#[]⟩, .string ⟨#[]⟩, .string ⟨#[]⟩, .string ⟨#[]⟩], .bool false]) ∧ Below w.heap.size w w' := by
  have hl_xs : xs.length ≤ 9223372036854775807 := by have := h0.1; simpa [strs, ptrs] using this
  have H0 := Lib.hid h0
  clear h0
  suffices hQ : ∀ Q : Ending → World → Prop, Hid (∀ (e : Ending) (w' : World), (e = .returned (.tuple #[.agg #[.string ⟨#[]⟩, .string ⟨#[]⟩, .string ⟨#[]⟩, .string ⟨#[]⟩], .bool false]) ∧ Below w.heap.size w w') → Post1 Q e w') → Calls Try.prog 56 #[.slice (A) (xs.length) (c), .agg #[.string y.fName, .string y.fNamespace, .string y.fKind, .string y.fGroup]] w (fun e w' => Post1 Q e w') from hQ (fun e w' => e = .returned (.tuple #[.agg #[.string ⟨#[]⟩, .string ⟨#[]⟩, .string ⟨#[]⟩, .string ⟨#[]⟩], .bool false]) ∧ Below w.heap.size w w') (fun _ _ h => by unfold Post1; exact h)
  intro Q HQ
  go_enter Try.func56, Try.ntmps56
  go_upto_region 6 with (first
    | ((with_reducible refine at_dst (N := 3) rfl ?_); refine ev_box rfl 92 _ rfl _ rfl ?_; intro g3 w1 hg hB hb
       have low_g3 := Nat.le_trans (Nat.le_refl _) hg
       have B_w1 := Lib.hid (below_trans (Below.refl _ _) hb)
       have g3_w1 : Hid (Blk w1 g3 92 #[.string y.fName, .string y.fNamespace, .string y.fKind, .string y.fGroup]) := hB
       clear hB hb)
    | ((with_reducible refine at_dst (N := 4) rfl ?_); refine ev_alloc rfl 92 rfl _ _ tz92 ?_; intro g4 w2 hg hB hb
       have n_g3_g4 : g3 ≠ g4 := by have := g3_w1.out.lt; omega
       have low_g4 := Nat.le_trans B_w1.out.size hg
       have g3_w2 := Lib.hid (g3_w1.out.below hb)
       have B_w2 := Lib.hid (below_trans B_w1.out hb)
       have g4_w2 : Hid (Blk w2 g4 92 #[.string ⟨#[]⟩, .string ⟨#[]⟩, .string ⟨#[]⟩, .string ⟨#[]⟩]) := hB
       clear hB hb)
    | (go_at_call 105; (with_reducible refine (resources_any A c xs _ (H0.out.below B_w2.out) (by omega)).mono ?_); rintro e w3 ⟨A210, c210, ps10, rfl, hp0_10, hp1_10, hb⟩
       have g3_w3 := Lib.hid (g3_w2.out.below hb)
       have g4_w3 := Lib.hid (g4_w2.out.below hb)
       have B_w3 := Lib.hid (below_trans B_w2.out hb)
       have hp0_10 := own_mono hp0_10 B_w2.out.size
       have o10_0_w3 := Lib.hid hp0_10
       have f10_1_w3 := Lib.hid hp1_10
       clear hb hp0_10 hp1_10)
    | ((with_reducible refine at_dst (N := 11) rfl ?_); refine ev_loadB rfl 92 _ rfl g3 rfl 92 _ g3_w3.out _ Try.underlying92 rfl tsz92 ?_)
    | ((with_reducible refine at_dst (N := 7) rfl ?_); refine ev_alloc rfl 169 rfl _ _ tz169 ?_; intro g7 w4 hg hB hb
       have n_g3_g7 : g3 ≠ g7 := by have := g3_w3.out.lt; omega
       have n_g4_g7 : g4 ≠ g7 := by have := g4_w3.out.lt; omega
       have low_g7 := Nat.le_trans B_w3.out.size hg
       have lo_g7 := hg
       have bo_g7 := Lib.hid hb
       have g3_w4 := Lib.hid (g3_w3.out.below hb)
       have g4_w4 := Lib.hid (g4_w3.out.below hb)
       have o10_0_w4 := Lib.hid (own_below o10_0_w3.out hb)
       have f10_1_w4 := Lib.hid (Pl.map f10_1_w3.out fun _ _ q => InfoAt.below q hb)
       have B_w4 := Lib.hid (below_trans B_w3.out hb)
       have g7_w4 : Hid (Blk w4 g7 169 #[.string ⟨#[]⟩, .string ⟨#[]⟩, .string ⟨#[]⟩, .string ⟨#[]⟩]) := hB
       clear hB hb)
    | (refine ev_store rfl 169 _ _ rfl g7 _ _ rfl rfl 169 g7_w4.out tsz169 rfl rfl ?_; intro w5 hB hg hz
       have hx := GrX.grown (S := fun k => k = g7) hg rfl
       have bo_g7_w5 := Lib.hid (below_grown bo_g7.out hg bo_g7.out.size lo_g7)
       have f10_1_w5 := Lib.hid (Pl.map f10_1_w3.out fun _ _ q => InfoAt.below q bo_g7_w5.out)
       have g3_w5 := Lib.hid (g3_w4.out.grx hx (fun e => n_g3_g7 e))
       have g4_w5 := Lib.hid (g4_w4.out.grx hx (fun e => n_g4_g7 e))
       have o10_0_w5 := Lib.hid (own_grx o10_0_w4.out hx (fun k hk => (fun e => own_ne o10_0_w4.out g7_w4.out (by decide) (e ▸ hk))))
       have B_w5 := Lib.hid (below_grx B_w4.out hx B_w4.out.size (fun k => (fun e => e ▸ low_g7)))
       clear hx
       have g7_w5 : Hid (Blk w5 g7 169 #[.string y.fName, .string y.fNamespace, .string y.fKind, .string y.fGroup]) := hB
       clear hB hg hz)
    | (go_at_call 106; (with_reducible refine (get_none A210 c210 ps10 xs y g7 _ (own_sl1 o10_0_w5.out (by omega)) f10_1_w5.out g7_w5.out (by assumption)).mono ?_); rintro e w6 ⟨rfl, hb⟩
       have g3_w6 := Lib.hid (g3_w5.out.below hb)
       have g4_w6 := Lib.hid (g4_w5.out.below hb)
       have o10_0_w6 := Lib.hid (own_below o10_0_w5.out hb)
       have f10_1_w6 := Lib.hid (Pl.map f10_1_w5.out fun _ _ q => InfoAt.below q hb)
       have g7_w6 := Lib.hid (g7_w5.out.below hb)
       have g7_p_w6 := Lib.hid (InfoAt.below g7_w5.out hb)
       have B_w6 := Lib.hid (below_trans B_w5.out hb)
       clear hb))
  refine wp_region_grow [some [], some [], some [(1, 20)], none, none]
      [fun vv _ => vv = .agg #[.string ⟨#[]⟩, .string ⟨#[]⟩, .string ⟨#[]⟩, .string ⟨#[]⟩],
       fun vv _ => vv = .slice A210 (xs.length) c210,
       fun vv _ => vv = .bool false,
       fun _ _ => True,
       fun _ _ => True] 22 (by kernel_rfl) rfl rfl (by kernel_rfl) ?_ ?_ ?_
  · intro p hp
    simp only [List.mem_cons, List.not_mem_nil, or_false] at hp
    rcases hp with rfl | rfl | rfl | rfl | rfl
    · exact stab_eq _
    · exact stab_eq _
    · exact stab_eq _
    · exact stab_true
    · exact stab_true
  · simp only [oblGo, obl1, withDeps, oblK, postAt, List.getD_cons_zero, List.getD_cons_succ, forall_eq]
    refine ⟨?_, ?_, ?_, trivial⟩
    · intro wg hg
      exact gr_ldm 92 _ rfl g4 0 rfl 92 _ (g4_w6.out.below hg) 4 (by simp) _ Try.underlying92 rfl tsz92 rfl
    · intro wg hg
      go_simp
    · intro wg hg
      go_simp
      exact (rlContains_any A210 c210 ps10 xs y g7 _ (own_sl1 (own_below o10_0_w6.out hg) (by omega)) (Pl.map f10_1_w6.out fun _ _ q => InfoAt.below q hg) (InfoAt.below g7_w6.out hg)).mono fun _ _ h => ⟨(h.1.trans (by rw [hno])), h.2⟩
  simp only [headDs, withDeps, postAt, List.getD_cons_zero, List.getD_cons_succ, forall_eq, tailOps]
  intro w7 hgr
  simp only [Act.put, List.setIfInBounds_toArray, List.set_cons_succ, List.set_cons_zero]
  have g3_w7 := Lib.hid (g3_w6.out.below (show Below _ _ _ from hgr))
  have g4_w7 := Lib.hid (g4_w6.out.below (show Below _ _ _ from hgr))
  have o10_0_w7 := Lib.hid (own_below o10_0_w6.out (show Below _ _ _ from hgr))
  have f10_1_w7 := Lib.hid (Pl.map f10_1_w6.out fun _ _ q => InfoAt.below q (show Below _ _ _ from hgr))
  have g7_w7 := Lib.hid (g7_w6.out.below (show Below _ _ _ from hgr))
  have g7_p_w7 := Lib.hid (InfoAt.below g7_w6.out (show Below _ _ _ from hgr))
  have B_w7 := Lib.hid (below_trans B_w6.out (show Below _ _ _ from hgr))
  clear hgr
  go_wp2_with (first
    | (refine ev_store rfl 92 _ _ rfl g4 _ _ rfl rfl 92 g4_w7.out tsz92 rfl rfl ?_; intro w8 hB hg hz
       have hx := GrX.grown (S := fun k => k = g4) hg rfl
       have g3_w8 := Lib.hid (g3_w7.out.grx hx (fun e => n_g3_g4 e))
       have o10_0_w8 := Lib.hid (own_grx o10_0_w7.out hx (fun k hk => (fun e => own_ne o10_0_w7.out g4_w7.out (by decide) (e ▸ hk))))
       have f10_1_w8 := Lib.hid (Pl.map f10_1_w7.out fun _ _ q => InfoAt.ap q hx (SApart.blk g4_w7.out (by decide)))
       have g7_w8 := Lib.hid (g7_w7.out.grx hx (fun e => n_g4_g7.symm e))
       have g7_p_w8 := Lib.hid (InfoAt.ap g7_p_w7.out hx (SApart.blk g4_w7.out (by decide)))
       have B_w8 := Lib.hid (below_grx B_w7.out hx B_w7.out.size (fun k => (fun e => e ▸ low_g4)))
       clear hx
       have g4_w8 : Hid (Blk w8 g4 92 #[.string ⟨#[]⟩, .string ⟨#[]⟩, .string ⟨#[]⟩, .string ⟨#[]⟩]) := hB
       clear hB hg hz))
  have rl0 : (loadVar 92 ⟨g4, 0, none⟩).run Try.prog w8 = .ok (.agg #[.string ⟨#[]⟩, .string ⟨#[]⟩, .string ⟨#[]⟩, .string ⟨#[]⟩]) w8 := load_mid (P := Try.prog) _ 92 g4 0 92 _ g4_w8.out 4 (by simp) _ Try.underlying92 rfl tsz92
  (try simp only [Exit.inBlock, Exit.then])
  refine bodyPost_ret (v := .tuple #[.agg #[.string ⟨#[]⟩, .string ⟨#[]⟩, .string ⟨#[]⟩, .string ⟨#[]⟩], .bool false]) (results2 Try.results56 ⟨_, rfl, rl0⟩ rfl) rfl ?_
  exact HQ.out _ _ ⟨rfl, B_w8.out⟩
set_option maxRecDepth 100000 in
set_option maxHeartbeats 4000000 in
theorem rget_some (A : Option Addr) (c : Nat) (xs : List Ty92) (y : Ty92) (w : World) (h0 : Rows w (A) 4 (xs.map Ty92.cells)) (hn : xs.length ≤ 1000000) (hno : anyM xs y = true) :
    Calls Try.prog 56 #[.slice (A) (xs.length) (c), .agg #[.string y.fName, .string y.fNamespace, .string y.fKind, .string y.fGroup]] w fun e w' => e = .returned (.tuple #[.agg #[.string y.fName, .string y.fNamespace, .string y.fKind, .string y.fGroup], .bool true]) ∧ Below w.heap.size w w' := by
  have hl_xs : xs.length ≤ 9223372036854775807 := by have := h0.1; simpa [strs, ptrs] using this
  have H0 := Lib.hid h0
  clear h0
  suffices hQ : ∀ Q : Ending → World → Prop, Hid (∀ (e : Ending) (w' : World), (e = .returned (.tuple #[.agg #[.string y.fName, .string y.fNamespace, .string y.fKind, .string y.fGroup], .bool true]) ∧ Below w.heap.size w w') → Post1 Q e w') → Calls Try.prog 56 #[.slice (A) (xs.length) (c), .agg #[.string y.fName, .string y.fNamespace, .string y.fKind, .string y.fGroup]] w (fun e w' => Post1 Q e w') from hQ (fun e w' => e = .returned (.tuple #[.agg #[.string y.fName, .string y.fNamespace, .string y.fKind, .string y.fGroup], .bool true]) ∧ Below w.heap.size w w') (fun _ _ h => by unfold Post1; exact h)
  intro Q HQ
  go_enter Try.func56, Try.ntmps56
  go_upto_region 6 with (first
    | ((with_reducible refine at_dst (N := 3) rfl ?_); refine ev_box rfl 92 _ rfl _ rfl ?_; intro g3 w1 hg hB hb
       have low_g3 := Nat.le_trans (Nat.le_refl _) hg
       have B_w1 := Lib.hid (below_trans (Below.refl _ _) hb)
       have g3_w1 : Hid (Blk w1 g3 92 #[.string y.fName, .string y.fNamespace, .string y.fKind, .string y.fGroup]) := hB
       clear hB hb)
    | ((with_reducible refine at_dst (N := 4) rfl ?_); refine ev_alloc rfl 92 rfl _ _ tz92 ?_; intro g4 w2 hg hB hb
       have n_g3_g4 : g3 ≠ g4 := by have := g3_w1.out.lt; omega
       have low_g4 := Nat.le_trans B_w1.out.size hg
       have g3_w2 := Lib.hid (g3_w1.out.below hb)
       have B_w2 := Lib.hid (below_trans B_w1.out hb)
       have g4_w2 : Hid (Blk w2 g4 92 #[.string ⟨#[]⟩, .string ⟨#[]⟩, .string ⟨#[]⟩, .string ⟨#[]⟩]) := hB
       clear hB hb)
    | (go_at_call 105; (with_reducible refine (resources_any A c xs _ (H0.out.below B_w2.out) (by omega)).mono ?_); rintro e w3 ⟨A210, c210, ps10, rfl, hp0_10, hp1_10, hb⟩
       have g3_w3 := Lib.hid (g3_w2.out.below hb)
       have g4_w3 := Lib.hid (g4_w2.out.below hb)
       have B_w3 := Lib.hid (below_trans B_w2.out hb)
       have hp0_10 := own_mono hp0_10 B_w2.out.size
       have o10_0_w3 := Lib.hid hp0_10
       have f10_1_w3 := Lib.hid hp1_10
       clear hb hp0_10 hp1_10)
    | ((with_reducible refine at_dst (N := 11) rfl ?_); refine ev_loadB rfl 92 _ rfl g3 rfl 92 _ g3_w3.out _ Try.underlying92 rfl tsz92 ?_)
    | ((with_reducible refine at_dst (N := 7) rfl ?_); refine ev_alloc rfl 169 rfl _ _ tz169 ?_; intro g7 w4 hg hB hb
       have n_g3_g7 : g3 ≠ g7 := by have := g3_w3.out.lt; omega
       have n_g4_g7 : g4 ≠ g7 := by have := g4_w3.out.lt; omega
       have low_g7 := Nat.le_trans B_w3.out.size hg
       have lo_g7 := hg
       have bo_g7 := Lib.hid hb
       have g3_w4 := Lib.hid (g3_w3.out.below hb)
       have g4_w4 := Lib.hid (g4_w3.out.below hb)
       have o10_0_w4 := Lib.hid (own_below o10_0_w3.out hb)
       have f10_1_w4 := Lib.hid (Pl.map f10_1_w3.out fun _ _ q => InfoAt.below q hb)
       have B_w4 := Lib.hid (below_trans B_w3.out hb)
       have g7_w4 : Hid (Blk w4 g7 169 #[.string ⟨#[]⟩, .string ⟨#[]⟩, .string ⟨#[]⟩, .string ⟨#[]⟩]) := hB
       clear hB hb)
    | (refine ev_store rfl 169 _ _ rfl g7 _ _ rfl rfl 169 g7_w4.out tsz169 rfl rfl ?_; intro w5 hB hg hz
       have hx := GrX.grown (S := fun k => k = g7) hg rfl
       have bo_g7_w5 := Lib.hid (below_grown bo_g7.out hg bo_g7.out.size lo_g7)
       have f10_1_w5 := Lib.hid (Pl.map f10_1_w3.out fun _ _ q => InfoAt.below q bo_g7_w5.out)
       have g3_w5 := Lib.hid (g3_w4.out.grx hx (fun e => n_g3_g7 e))
       have g4_w5 := Lib.hid (g4_w4.out.grx hx (fun e => n_g4_g7 e))
       have o10_0_w5 := Lib.hid (own_grx o10_0_w4.out hx (fun k hk => (fun e => own_ne o10_0_w4.out g7_w4.out (by decide) (e ▸ hk))))
       have B_w5 := Lib.hid (below_grx B_w4.out hx B_w4.out.size (fun k => (fun e => e ▸ low_g7)))
       clear hx
       have g7_w5 : Hid (Blk w5 g7 169 #[.string y.fName, .string y.fNamespace, .string y.fKind, .string y.fGroup]) := hB
       clear hB hg hz)
    | (go_at_call 106; (with_reducible refine (get_some A210 c210 ps10 xs y g7 _ (own_sl1 o10_0_w5.out (by omega)) f10_1_w5.out g7_w5.out (by assumption)).mono ?_); rintro e w6 ⟨gq13, rfl, hp0_13, hb⟩
       have g3_w6 := Lib.hid (g3_w5.out.below hb)
       have g4_w6 := Lib.hid (g4_w5.out.below hb)
       have o10_0_w6 := Lib.hid (own_below o10_0_w5.out hb)
       have f10_1_w6 := Lib.hid (Pl.map f10_1_w5.out fun _ _ q => InfoAt.below q hb)
       have g7_w6 := Lib.hid (g7_w5.out.below hb)
       have g7_p_w6 := Lib.hid (InfoAt.below g7_w5.out hb)
       have B_w6 := Lib.hid (below_trans B_w5.out hb)
       have f13_0_w6 := Lib.hid hp0_13
       clear hb hp0_13)
    | ((with_reducible refine at_dst (N := 18) rfl ?_); refine ev_loadB rfl 169 _ rfl gq13 rfl 169 _ f13_0_w6.out _ Try.underlying169 rfl tsz169 ?_)
    | (refine ev_store rfl 92 _ _ rfl g4 _ _ rfl rfl 92 g4_w6.out tsz92 rfl rfl ?_; intro w7 hB hg hz
       have hx := GrX.grown (S := fun k => k = g4) hg rfl
       have g3_w7 := Lib.hid (g3_w6.out.grx hx (fun e => n_g3_g4 e))
       have o10_0_w7 := Lib.hid (own_grx o10_0_w6.out hx (fun k hk => (fun e => own_ne o10_0_w6.out g4_w6.out (by decide) (e ▸ hk))))
       have f10_1_w7 := Lib.hid (Pl.map f10_1_w6.out fun _ _ q => InfoAt.ap q hx (SApart.blk g4_w6.out (by decide)))
       have g7_w7 := Lib.hid (g7_w6.out.grx hx (fun e => n_g4_g7.symm e))
       have g7_p_w7 := Lib.hid (InfoAt.ap g7_p_w6.out hx (SApart.blk g4_w6.out (by decide)))
       have f13_0_w7 := Lib.hid (InfoAt.ap f13_0_w6.out hx (SApart.blk g4_w6.out (by decide)))
       have gq13_w7 := Lib.hid (f13_0_w6.out.grx hx (fun e => Blk.apart f13_0_w6.out g4_w6.out (by decide) e))
       have B_w7 := Lib.hid (below_grx B_w6.out hx B_w6.out.size (fun k => (fun e => e ▸ low_g4)))
       clear hx
       have g4_w7 : Hid (Blk w7 g4 92 #[.string y.fName, .string y.fNamespace, .string y.fKind, .string y.fGroup]) := hB
       clear hB hg hz))
  refine wp_region_grow [some [], some [], some [(1, 20)], none, none]
      [fun vv _ => vv = .agg #[.string y.fName, .string y.fNamespace, .string y.fKind, .string y.fGroup],
       fun vv _ => vv = .slice A210 (xs.length) c210,
       fun vv _ => vv = .bool true,
       fun _ _ => True,
       fun _ _ => True] 22 (by kernel_rfl) rfl rfl (by kernel_rfl) ?_ ?_ ?_
  · intro p hp
    simp only [List.mem_cons, List.not_mem_nil, or_false] at hp
    rcases hp with rfl | rfl | rfl | rfl | rfl
    · exact stab_eq _
    · exact stab_eq _
    · exact stab_eq _
    · exact stab_true
    · exact stab_true
  · simp only [oblGo, obl1, withDeps, oblK, postAt, List.getD_cons_zero, List.getD_cons_succ, forall_eq]
    refine ⟨?_, ?_, ?_, trivial⟩
    · intro wg hg
      exact gr_ldm 92 _ rfl g4 0 rfl 92 _ (g4_w7.out.below hg) 4 (by simp) _ Try.underlying92 rfl tsz92 rfl
    · intro wg hg
      go_simp
    · intro wg hg
      go_simp
      exact (rlContains_any A210 c210 ps10 xs y g7 _ (own_sl1 (own_below o10_0_w7.out hg) (by omega)) (Pl.map f10_1_w7.out fun _ _ q => InfoAt.below q hg) (InfoAt.below g7_w7.out hg)).mono fun _ _ h => ⟨(h.1.trans (by rw [hno])), h.2⟩
  simp only [headDs, withDeps, postAt, List.getD_cons_zero, List.getD_cons_succ, forall_eq, tailOps]
  intro w8 hgr
  simp only [Act.put, List.setIfInBounds_toArray, List.set_cons_succ, List.set_cons_zero]
  have g3_w8 := Lib.hid (g3_w7.out.below (show Below _ _ _ from hgr))
  have g4_w8 := Lib.hid (g4_w7.out.below (show Below _ _ _ from hgr))
  have o10_0_w8 := Lib.hid (own_below o10_0_w7.out (show Below _ _ _ from hgr))
  have f10_1_w8 := Lib.hid (Pl.map f10_1_w7.out fun _ _ q => InfoAt.below q (show Below _ _ _ from hgr))
  have g7_w8 := Lib.hid (g7_w7.out.below (show Below _ _ _ from hgr))
  have g7_p_w8 := Lib.hid (InfoAt.below g7_w7.out (show Below _ _ _ from hgr))
  have f13_0_w8 := Lib.hid (InfoAt.below f13_0_w7.out (show Below _ _ _ from hgr))
  have gq13_w8 := Lib.hid (gq13_w7.out.below (show Below _ _ _ from hgr))
  have B_w8 := Lib.hid (below_trans B_w7.out (show Below _ _ _ from hgr))
  clear hgr
  go_wp2_with (first
    | (refine ev_store rfl 92 _ _ rfl g4 _ _ rfl rfl 92 g4_w8.out tsz92 rfl rfl ?_; intro w9 hB hg hz
       have hx := GrX.grown (S := fun k => k = g4) hg rfl
       have g3_w9 := Lib.hid (g3_w8.out.grx hx (fun e => n_g3_g4 e))
       have o10_0_w9 := Lib.hid (own_grx o10_0_w8.out hx (fun k hk => (fun e => own_ne o10_0_w8.out g4_w8.out (by decide) (e ▸ hk))))
       have f10_1_w9 := Lib.hid (Pl.map f10_1_w8.out fun _ _ q => InfoAt.ap q hx (SApart.blk g4_w8.out (by decide)))
       have g7_w9 := Lib.hid (g7_w8.out.grx hx (fun e => n_g4_g7.symm e))
       have g7_p_w9 := Lib.hid (InfoAt.ap g7_p_w8.out hx (SApart.blk g4_w8.out (by decide)))
       have f13_0_w9 := Lib.hid (InfoAt.ap f13_0_w8.out hx (SApart.blk g4_w8.out (by decide)))
       have gq13_w9 := Lib.hid (gq13_w8.out.grx hx (fun e => Blk.apart gq13_w8.out g4_w8.out (by decide) e))
       have B_w9 := Lib.hid (below_grx B_w8.out hx B_w8.out.size (fun k => (fun e => e ▸ low_g4)))
       clear hx
       have g4_w9 : Hid (Blk w9 g4 92 #[.string y.fName, .string y.fNamespace, .string y.fKind, .string y.fGroup]) := hB
       clear hB hg hz))
  have rl0 : (loadVar 92 ⟨g4, 0, none⟩).run Try.prog w9 = .ok (.agg #[.string y.fName, .string y.fNamespace, .string y.fKind, .string y.fGroup]) w9 := load_mid (P := Try.prog) _ 92 g4 0 92 _ g4_w9.out 4 (by simp) _ Try.underlying92 rfl tsz92
  (try simp only [Exit.inBlock, Exit.then])
  refine bodyPost_ret (v := .tuple #[.agg #[.string y.fName, .string y.fNamespace, .string y.fKind, .string y.fGroup], .bool true]) (results2 Try.results56 ⟨_, rfl, rl0⟩ rfl) rfl ?_
  exact HQ.out _ _ ⟨rfl, B_w9.out⟩
end Go.Proofs.Ytdgblfldbikneaa
