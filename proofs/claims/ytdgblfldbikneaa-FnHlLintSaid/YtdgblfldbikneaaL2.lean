/- Linter: RunLinterRule. -/
import Derived.Test.YtdgblfldbikneaaL1
import Derived.Test.YtdgblfldbikneaaGx
namespace Go.Proofs.Ytdgblfldbikneaa
open Go.RowKit Go.Lib
set_option linter.unusedVariables false
set_option linter.unusedSimpArgs false
theorem x_app {P : Program} {o : Oper} {a : Act} {w : World} {S : Nat → Prop} {p : Post} (s x : Operand) (t e : TypeId) (ho : o.op = .call { callee := .builtin .append, args := #[s, x], argTypes := #[t, t] })
    (ht : P.underlying t = some (.slice e)) (z : Value) (sz bytes : Nat) (hi : (P.info? e).map (fun i => (i.zero, i.size, i.bytes)) = some (some z, sz, bytes)) (hz : z.cells.size = sz) (hs0 : 0 < sz)
    (base : Nat) (v : Value) (n : Nat) (cs : List Value) (hs : a.eval s = v) (hown : w.ownsRow base e sz v n cs) (A : Option Addr) (m c : Nat) (news : List Value) (hx : a.eval x = .slice A m c) (hr : Sl w A news) (hm : news.length = m * sz)
    (h1 : ∀ u ∈ news, u.oneCell' = true) (hbytes : (n + m) * bytes ≤ 140737488355328) (h63 : n + m ≤ 140737488355328) (hbase : base ≤ w.heap.size) (hS : ∀ g, v.ownBlock = some g → S g)
    (hp : ∀ v' w', w'.ownsRow base e sz v' (n + m) (cs ++ news) → w.grownBy w' v.ownBlock → p v' w') : xAt P S o a w p := by
  obtain ⟨v', w', q1, q2, q3, q4⟩ := app_run (P := P) s x t e ho ht z sz bytes hi hz hs0 base v n cs hs hown A m c news hx hr hm h1 hbytes h63 hbase
  exact x_val q1 (GrX.row q3 hS) (hp v' w' q2 q3)
set_option maxRecDepth 100000 in
set_option maxHeartbeats 2000000 in
theorem rule_bad (gl : Nat) (a : Int) (p : ByteArray) (v : Value) (w : World) (ha : ¬ (0 ≤ a ∧ a ≤ 3)) :
    Calls Try.prog 85 #[.pointer (some ⟨gl, 0, none⟩), .int .i64 a, .string p, v] w fun e w' => e = .returned (.bool false) ∧ Below w.heap.size w w' := by
  by_cases hneg : a < 0
  · skip
    go_enter Try.func85, Try.ntmps85
    go_wp2_with fail
    go_ret
    exact ⟨rfl, (Below.refl _ _)⟩
  · have hbig : 4 ≤ a := by omega
    go_enter Try.func85, Try.ntmps85
    go_wp2_with (first
      | (go_at_call 124; (with_reducible refine (sev_any _).mono ?_); rintro e w1 ⟨A3, rfl, hs3, hb⟩
         have B_w1 := Lib.hid (below_trans (Below.refl _ _) hb)
         clear hs3
         clear hb))
    go_ret
    exact ⟨rfl, B_w1.out⟩
set_option maxRecDepth 100000 in
set_option maxHeartbeats 2000000 in
theorem rule_nil (gl : Nat) (a : Int) (p : ByteArray) (w : World) (ha : 0 ≤ a) (ha2 : a ≤ 3) :
    Calls Try.prog 85 #[.pointer (some ⟨gl, 0, none⟩), .int .i64 a, .string p, .nilIface] w fun e w' => e = .returned (.bool true) ∧ Below w.heap.size w w' := by
  have hneg : ¬ a < 0 := by omega
  have hbig : ¬ 4 ≤ a := by omega
  go_enter Try.func85, Try.ntmps85
  go_wp2_with (first
    | (go_at_call 124; (with_reducible refine (sev_any _).mono ?_); rintro e w1 ⟨A3, rfl, hs3, hb⟩
       have B_w1 := Lib.hid (below_trans (Below.refl _ _) hb)
       clear hs3
       clear hb))
  go_ret
  exact ⟨rfl, B_w1.out⟩
set_option maxRecDepth 100000 in
set_option maxHeartbeats 4000000 in
theorem rule_err (B gl ge : Nat) (a h : Int) (p : ByteArray) (M : Value) (n : Nat) (cs : List Value) (w : World) (ha : 0 ≤ a) (ha2 : a ≤ 3) (hB : B ≤ w.heap.size) (hn : n ≤ 1000000) (hl : Blk w gl 139 #[M, .int .i64 h, .string ⟨#[]⟩]) (ho : w.ownsRow B 143 3 M n cs) :
    Calls Try.prog 85 #[.pointer (some ⟨gl, 0, none⟩), .int .i64 a, .string p, .iface 199 (.pointer (some ⟨ge, 0, none⟩))] w fun e w' => e = .returned (.bool false) ∧ ∃ M', Blk w' gl 139 #[M', .int .i64 (if h < a then a else h), .string ⟨#[]⟩] ∧ w'.ownsRow B 143 3 M' (n + 1) (cs ++ [.int .i64 a, .string p, .iface 199 (.pointer (some ⟨ge, 0, none⟩))]) ∧ GrX (fun k => k = gl ∨ M.ownBlock = some k) w w' := by
  have HL0 := Lib.hid hl
  have HO0 := Lib.hid ho
  clear hl ho
  have hneg : ¬ a < 0 := by omega
  have hbig : ¬ 4 ≤ a := by omega
  by_cases hgt : h < a
  · have HI : Hid ((if h < a then a else h) = a) := if_pos hgt
    go_enter Try.func85, Try.ntmps85
    go_upto_region 4 with (first
      | (go_at_call 124; (with_reducible refine (sev_any _).mono ?_); rintro e w1 ⟨A3, rfl, hs3, hb⟩
         have gl_w1 := Lib.hid (HL0.out.below hb)
         have own_w1 := Lib.hid (own_below HO0.out hb)
         have B_w1 : Hid (GrX (fun k => k = gl ∨ M.ownBlock = some k) w w1) := GrX.trans (GrX.refl _ _) (GrX.below hb)
         clear hs3
         clear hb))
    refine wp_region_growX (fun i k => i = 10 ∧ M.ownBlock = some k) [some [], some [], some [(1, 20)], some [(2, 21)], some [(3, 22)], some [], some [], some [], some [(5, 24), (6, 25), (7, 26)], some [(8, 27)], some [(4, 23), (9, 28)], some [(0, 19)], some [(11, 30)], none]
        [fun vv _ => vv = .pointer (some ⟨gl, 0, none⟩),
         fun vv _ => vv = .pointer (some ⟨gl, 0, none⟩),
         fun vv _ => vv = .pointer (some ⟨gl, 0, none⟩),
         fun vv _ => vv = .pointer (some ⟨gl, 0, none⟩),
         fun vv _ => vv = M,
         fun vv _ => vv = .int .i64 a,
         fun vv _ => vv = .string p,
         fun vv _ => vv = .iface 199 (.pointer (some ⟨ge, 0, none⟩)),
         fun vv _ => vv = .agg #[.int .i64 a, .string p, .iface 199 (.pointer (some ⟨ge, 0, none⟩))],
         fun v w' => ∃ g, v = .slice (some ⟨g, 0, none⟩) 1 1 ∧ w1.heap.size ≤ g ∧ Blk w' g 143 #[.int .i64 a, .string p, .iface 199 (.pointer (some ⟨ge, 0, none⟩))],
         fun v w' => w'.ownsRow B 143 3 v (n + 1) (cs ++ [.int .i64 a, .string p, .iface 199 (.pointer (some ⟨ge, 0, none⟩))]),
         fun vv _ => vv = .pointer (some ⟨gl, 0, none⟩),
         fun vv _ => vv = .pointer (some ⟨gl, 0, none⟩),
         fun _ _ => True] 44 (by kernel_rfl) rfl rfl (by kernel_rfl) ?_ ?_ ?_ ?_
    · intro j hj
      rcases (by simpa using hj : j < 14) |> fun h : j < 14 => (by omega : j = 0 ∨ j = 1 ∨ j = 2 ∨ j = 3 ∨ j = 4 ∨ j = 5 ∨ j = 6 ∨ j = 7 ∨ j = 8 ∨ j = 9 ∨ j = 10 ∨ j = 11 ∨ j = 12 ∨ j = 13) with rfl | rfl | rfl | rfl | rfl | rfl | rfl | rfl | rfl | rfl | rfl | rfl | rfl | rfl
      · exact stabx_eq _
      · exact stabx_eq _
      · exact stabx_eq _
      · exact stabx_eq _
      · exact stabx_eq _
      · exact stabx_eq _
      · exact stabx_eq _
      · exact stabx_eq _
      · exact stabx_eq _
      · exact fun v w w' ⟨g, e, hlo, hb⟩ hg => ⟨g, e, hlo, hb.grx hg (fun ⟨_, _, _, h3⟩ => by have := own_lt own_w1.out _ h3; omega)⟩
      · exact fun v w w' h hg => own_grx h hg (fun k hk ⟨_, h1, h2, _⟩ => h1 h2)
      · exact stabx_eq _
      · exact stabx_eq _
      · exact stabx_true
    · intro j hj
      rcases (by simpa using hj : j < 14) |> fun h : j < 14 => (by omega : j = 0 ∨ j = 1 ∨ j = 2 ∨ j = 3 ∨ j = 4 ∨ j = 5 ∨ j = 6 ∨ j = 7 ∨ j = 8 ∨ j = 9 ∨ j = 10 ∨ j = 11 ∨ j = 12 ∨ j = 13) with rfl | rfl | rfl | rfl | rfl | rfl | rfl | rfl | rfl | rfl | rfl | rfl | rfl | rfl
      all_goals first | (intro h; cases h; done) | (intro _ v w h; exact h)
    · simp only [oblGoX, obl1X, withDeps, oblX, postAt, List.getD_cons_zero, List.getD_cons_succ, forall_eq]
      refine ⟨?_, ?_, ?_, ?_, ?_, ?_, ?_, ?_, ?_, ?_, ?_, ?_, ?_, trivial⟩
      · intro wg hg
        refine x_of_gr ?_
        go_simp
      · intro wg hg
        refine x_of_gr ?_
        go_simp
      · intro wg hg
        refine x_of_gr ?_
        go_simp
      · intro wg hg
        refine x_of_gr ?_
        go_simp
      · intro wg hg
        exact x_of_gr (gr_ld 137 _ rfl ⟨gl, 0, none⟩ rfl M ((gl_w1.out.grx hg (fun ⟨_, h1, h2, h3⟩ => own_ne own_w1.out gl_w1.out (by decide) h3)).cell 0) _ Try.underlying137 rfl rfl)
      · intro wg hg
        refine x_of_gr ?_
        go_simp
      · intro wg hg
        refine x_of_gr ?_
        go_simp
      · intro wg hg
        refine x_of_gr ?_
        go_simp
      · intro wg hg
        refine x_of_gr ?_
        go_simp
        exact (newMsg_any a p ge _).mono fun _ _ h => h
      · intro wg hg
        exact x_of_gr (gr_bs 143 1 #[.int .i64 a, .string p, .iface 199 (.pointer (some ⟨ge, 0, none⟩))] (by go_simp) fun g w1 hg1 hB hb => ⟨g, rfl, Nat.le_trans hg.size hg1, hB⟩)
      · intro wg hg; rintro _ ⟨g28, rfl, lo28, hB28⟩
        exact x_app _ _ 137 143 rfl Try.underlying137 _ 3 _ tin143 rfl (by omega) B M n cs rfl (own_grx own_w1.out hg (fun k hk ⟨_, h1, h2, _⟩ => h1 h2)) _ 1 1 [.int .i64 a, .string p, .iface 199 (.pointer (some ⟨ge, 0, none⟩))] rfl (hB28.sl (by simp)) rfl (by simp [Value.oneCell']) (by omega) (by omega) (Nat.le_trans hB (Nat.le_trans B_w1.out.size hg.size)) (fun g h => ⟨by trivial, h⟩) (fun v' w' ho _ => ho)
      · intro wg hg
        refine x_of_gr ?_
        go_simp
      · intro wg hg
        refine x_of_gr ?_
        go_simp
    simp only [headDsX, withDepsX, postAt, List.getD_cons_zero, List.getD_cons_succ, forall_eq, tailOps]
    intro w2 hgx
    rintro _ ⟨g28, rfl, lo28, hB28⟩
    rintro v29 ho29
    simp only [Act.put, List.setIfInBounds_toArray, List.set_cons_succ, List.set_cons_zero]
    obtain ⟨A29, c29, rfl, _⟩ := own_form ho29
    have gl_w2 := Lib.hid (gl_w1.out.grx hgx (fun ⟨_, _, _, h3⟩ => own_ne own_w1.out gl_w1.out (by decide) h3))
    have own_w2 := Lib.hid ho29
    have B_w2 : Hid (GrX (fun k => k = gl ∨ M.ownBlock = some k) w w2) := GrX.trans' B_w1.out hgx (fun k ⟨_, _, _, h3⟩ _ => .inr h3)
    clear ho29 hB28 lo28 hgx
    go_wp2_with (first
      | (refine ev_store1 rfl 137 _ _ rfl gl 0 _ rfl (.slice A29 (n + 1) c29) rfl 139 gl_w2.out tsz137 (by simp) rfl rfl ?_; intro w3 hB hg hz
         have own_w3 := Lib.hid (own_grown own_w2.out hg (own_ne own_w2.out gl_w2.out (by decide)))
         have B_w3 : Hid (GrX (fun k => k = gl ∨ M.ownBlock = some k) w w3) := GrX.trans' B_w2.out (GrX.grown (S := fun k => k = gl) hg rfl) (fun k hk hlt => by subst hk; exact .inl rfl)
         have gl_w3 : Hid (Blk w3 gl 139 #[.slice A29 (n + 1) c29, .int .i64 h, .string ⟨#[]⟩]) := hB
         clear hB hg hz)
      | ((with_reducible refine at_dst (N := 36) rfl ?_); refine ev_ld rfl 3 _ rfl ⟨gl, 1, none⟩ rfl (.int .i64 h) (gl_w3.out.cell 1) _ Try.underlying3 rfl ?_)
      | (refine ev_store1 rfl 3 _ _ rfl gl 1 _ rfl (.int .i64 a) rfl 139 gl_w3.out tsz3 (by simp) rfl rfl ?_; intro w4 hB hg hz
         have own_w4 := Lib.hid (own_grown own_w3.out hg (own_ne own_w3.out gl_w3.out (by decide)))
         have B_w4 : Hid (GrX (fun k => k = gl ∨ M.ownBlock = some k) w w4) := GrX.trans' B_w3.out (GrX.grown (S := fun k => k = gl) hg rfl) (fun k hk hlt => by subst hk; exact .inl rfl)
         have gl_w4 : Hid (Blk w4 gl 139 #[.slice A29 (n + 1) c29, .int .i64 a, .string ⟨#[]⟩]) := hB
         clear hB hg hz))
    go_ret
    exact ⟨rfl, .slice A29 (n + 1) c29, by first | exact gl_w4.out | (rw [HI.out]; exact gl_w4.out), own_w4.out, B_w4.out⟩
  · have HI : Hid ((if h < a then a else h) = h) := if_neg hgt
    have hgt2 : a ≤ h := by omega
    go_enter Try.func85, Try.ntmps85
    go_upto_region 4 with (first
      | (go_at_call 124; (with_reducible refine (sev_any _).mono ?_); rintro e w1 ⟨A3, rfl, hs3, hb⟩
         have gl_w1 := Lib.hid (HL0.out.below hb)
         have own_w1 := Lib.hid (own_below HO0.out hb)
         have B_w1 : Hid (GrX (fun k => k = gl ∨ M.ownBlock = some k) w w1) := GrX.trans (GrX.refl _ _) (GrX.below hb)
         clear hs3
         clear hb))
    refine wp_region_growX (fun i k => i = 10 ∧ M.ownBlock = some k) [some [], some [], some [(1, 20)], some [(2, 21)], some [(3, 22)], some [], some [], some [], some [(5, 24), (6, 25), (7, 26)], some [(8, 27)], some [(4, 23), (9, 28)], some [(0, 19)], some [(11, 30)], none]
        [fun vv _ => vv = .pointer (some ⟨gl, 0, none⟩),
         fun vv _ => vv = .pointer (some ⟨gl, 0, none⟩),
         fun vv _ => vv = .pointer (some ⟨gl, 0, none⟩),
         fun vv _ => vv = .pointer (some ⟨gl, 0, none⟩),
         fun vv _ => vv = M,
         fun vv _ => vv = .int .i64 a,
         fun vv _ => vv = .string p,
         fun vv _ => vv = .iface 199 (.pointer (some ⟨ge, 0, none⟩)),
         fun vv _ => vv = .agg #[.int .i64 a, .string p, .iface 199 (.pointer (some ⟨ge, 0, none⟩))],
         fun v w' => ∃ g, v = .slice (some ⟨g, 0, none⟩) 1 1 ∧ w1.heap.size ≤ g ∧ Blk w' g 143 #[.int .i64 a, .string p, .iface 199 (.pointer (some ⟨ge, 0, none⟩))],
         fun v w' => w'.ownsRow B 143 3 v (n + 1) (cs ++ [.int .i64 a, .string p, .iface 199 (.pointer (some ⟨ge, 0, none⟩))]),
         fun vv _ => vv = .pointer (some ⟨gl, 0, none⟩),
         fun vv _ => vv = .pointer (some ⟨gl, 0, none⟩),
         fun _ _ => True] 44 (by kernel_rfl) rfl rfl (by kernel_rfl) ?_ ?_ ?_ ?_
    · intro j hj
      rcases (by simpa using hj : j < 14) |> fun h : j < 14 => (by omega : j = 0 ∨ j = 1 ∨ j = 2 ∨ j = 3 ∨ j = 4 ∨ j = 5 ∨ j = 6 ∨ j = 7 ∨ j = 8 ∨ j = 9 ∨ j = 10 ∨ j = 11 ∨ j = 12 ∨ j = 13) with rfl | rfl | rfl | rfl | rfl | rfl | rfl | rfl | rfl | rfl | rfl | rfl | rfl | rfl
      · exact stabx_eq _
      · exact stabx_eq _
      · exact stabx_eq _
      · exact stabx_eq _
      · exact stabx_eq _
      · exact stabx_eq _
      · exact stabx_eq _
      · exact stabx_eq _
      · exact stabx_eq _
      · exact fun v w w' ⟨g, e, hlo, hb⟩ hg => ⟨g, e, hlo, hb.grx hg (fun ⟨_, _, _, h3⟩ => by have := own_lt own_w1.out _ h3; omega)⟩
      · exact fun v w w' h hg => own_grx h hg (fun k hk ⟨_, h1, h2, _⟩ => h1 h2)
      · exact stabx_eq _
      · exact stabx_eq _
      · exact stabx_true
    · intro j hj
      rcases (by simpa using hj : j < 14) |> fun h : j < 14 => (by omega : j = 0 ∨ j = 1 ∨ j = 2 ∨ j = 3 ∨ j = 4 ∨ j = 5 ∨ j = 6 ∨ j = 7 ∨ j = 8 ∨ j = 9 ∨ j = 10 ∨ j = 11 ∨ j = 12 ∨ j = 13) with rfl | rfl | rfl | rfl | rfl | rfl | rfl | rfl | rfl | rfl | rfl | rfl | rfl | rfl
      all_goals first | (intro h; cases h; done) | (intro _ v w h; exact h)
    · simp only [oblGoX, obl1X, withDeps, oblX, postAt, List.getD_cons_zero, List.getD_cons_succ, forall_eq]
      refine ⟨?_, ?_, ?_, ?_, ?_, ?_, ?_, ?_, ?_, ?_, ?_, ?_, ?_, trivial⟩
      · intro wg hg
        refine x_of_gr ?_
        go_simp
      · intro wg hg
        refine x_of_gr ?_
        go_simp
      · intro wg hg
        refine x_of_gr ?_
        go_simp
      · intro wg hg
        refine x_of_gr ?_
        go_simp
      · intro wg hg
        exact x_of_gr (gr_ld 137 _ rfl ⟨gl, 0, none⟩ rfl M ((gl_w1.out.grx hg (fun ⟨_, h1, h2, h3⟩ => own_ne own_w1.out gl_w1.out (by decide) h3)).cell 0) _ Try.underlying137 rfl rfl)
      · intro wg hg
        refine x_of_gr ?_
        go_simp
      · intro wg hg
        refine x_of_gr ?_
        go_simp
      · intro wg hg
        refine x_of_gr ?_
        go_simp
      · intro wg hg
        refine x_of_gr ?_
        go_simp
        exact (newMsg_any a p ge _).mono fun _ _ h => h
      · intro wg hg
        exact x_of_gr (gr_bs 143 1 #[.int .i64 a, .string p, .iface 199 (.pointer (some ⟨ge, 0, none⟩))] (by go_simp) fun g w1 hg1 hB hb => ⟨g, rfl, Nat.le_trans hg.size hg1, hB⟩)
      · intro wg hg; rintro _ ⟨g28, rfl, lo28, hB28⟩
        exact x_app _ _ 137 143 rfl Try.underlying137 _ 3 _ tin143 rfl (by omega) B M n cs rfl (own_grx own_w1.out hg (fun k hk ⟨_, h1, h2, _⟩ => h1 h2)) _ 1 1 [.int .i64 a, .string p, .iface 199 (.pointer (some ⟨ge, 0, none⟩))] rfl (hB28.sl (by simp)) rfl (by simp [Value.oneCell']) (by omega) (by omega) (Nat.le_trans hB (Nat.le_trans B_w1.out.size hg.size)) (fun g h => ⟨by trivial, h⟩) (fun v' w' ho _ => ho)
      · intro wg hg
        refine x_of_gr ?_
        go_simp
      · intro wg hg
        refine x_of_gr ?_
        go_simp
    simp only [headDsX, withDepsX, postAt, List.getD_cons_zero, List.getD_cons_succ, forall_eq, tailOps]
    intro w2 hgx
    rintro _ ⟨g28, rfl, lo28, hB28⟩
    rintro v29 ho29
    simp only [Act.put, List.setIfInBounds_toArray, List.set_cons_succ, List.set_cons_zero]
    obtain ⟨A29, c29, rfl, _⟩ := own_form ho29
    have gl_w2 := Lib.hid (gl_w1.out.grx hgx (fun ⟨_, _, _, h3⟩ => own_ne own_w1.out gl_w1.out (by decide) h3))
    have own_w2 := Lib.hid ho29
    have B_w2 : Hid (GrX (fun k => k = gl ∨ M.ownBlock = some k) w w2) := GrX.trans' B_w1.out hgx (fun k ⟨_, _, _, h3⟩ _ => .inr h3)
    clear ho29 hB28 lo28 hgx
    go_wp2_with (first
      | (refine ev_store1 rfl 137 _ _ rfl gl 0 _ rfl (.slice A29 (n + 1) c29) rfl 139 gl_w2.out tsz137 (by simp) rfl rfl ?_; intro w3 hB hg hz
         have own_w3 := Lib.hid (own_grown own_w2.out hg (own_ne own_w2.out gl_w2.out (by decide)))
         have B_w3 : Hid (GrX (fun k => k = gl ∨ M.ownBlock = some k) w w3) := GrX.trans' B_w2.out (GrX.grown (S := fun k => k = gl) hg rfl) (fun k hk hlt => by subst hk; exact .inl rfl)
         have gl_w3 : Hid (Blk w3 gl 139 #[.slice A29 (n + 1) c29, .int .i64 h, .string ⟨#[]⟩]) := hB
         clear hB hg hz)
      | ((with_reducible refine at_dst (N := 36) rfl ?_); refine ev_ld rfl 3 _ rfl ⟨gl, 1, none⟩ rfl (.int .i64 h) (gl_w3.out.cell 1) _ Try.underlying3 rfl ?_))
    go_ret
    exact ⟨rfl, .slice A29 (n + 1) c29, by first | exact gl_w3.out | (rw [HI.out]; exact gl_w3.out), own_w3.out, B_w3.out⟩
end Go.Proofs.Ytdgblfldbikneaa
