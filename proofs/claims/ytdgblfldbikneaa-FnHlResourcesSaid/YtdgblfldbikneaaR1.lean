/- Resources as objects: Append, resources, isMatchingInfo. -/
import Derived.Test.YtdgblfldbikneaaWq
import Derived.Test.YtdgblfldbikneaaTy
import Derived.Test.YtdgblfldbikneaaTz
import Derived.Test.YtdgblfldbikneaaP3
namespace Go.Proofs.Ytdgblfldbikneaa
open Go.RowKit Go.Lib
set_option linter.unusedVariables false
set_option linter.unusedSimpArgs false
abbrev InfoAt (x : Ty92) (g : Nat) (w : World) : Prop := Blk w g 169 #[.string x.fName, .string x.fNamespace, .string x.fKind, .string x.fGroup]
theorem InfoAt.below {x : Ty92} {g : Nat} {w w' : World} (h : InfoAt x g w) (hb : Below w.heap.size w w') : InfoAt x g w' := Blk.below h hb
theorem InfoAt.ap {x : Ty92} {g : Nat} {w w' : World} {S : Nat → Prop} (h : InfoAt x g w) (hx : GrX S w w') (ha : SApart w S [169]) : InfoAt x g w' := Blk.ap h hx ha (by simp)
set_option maxRecDepth 100000 in
set_option maxHeartbeats 4000000 in
theorem rlAppend_any (gl : Nat) (gp : Nat) (M : Value) (n : Nat) (cs : List Value) (Bs : Nat) (w : World) (h0 : Blk w (gl) 167 #[M]) (h1 : World.ownsRow w (Bs) 170 1 (M) (n) (cs)) (hn : n ≤ 1000000) (hBs : Bs ≤ w.heap.size) :
    Calls Try.prog 133 #[.pointer (some ⟨gl, 0, none⟩), .pointer (some ⟨gp, 0, none⟩)] w fun e w' => ∃ M2 : Value, e = .returned (.tuple #[]) ∧ Blk w' (gl) 167 #[M2] ∧ World.ownsRow w' (Bs) 170 1 M2 (n + 1) (cs ++ [Value.pointer (some ⟨gp, 0, none⟩)]) ∧ GrX (fun k => k = gl ∨ (M).ownBlock = some k) w w' := by
  have H0 := Lib.hid h0
  clear h0
  have H1 := Lib.hid h1
  clear h1
  suffices hQ : ∀ Q : Ending → World → Prop, Hid (∀ (e : Ending) (w' : World), (∃ M2 : Value, e = .returned (.tuple #[]) ∧ Blk w' (gl) 167 #[M2] ∧ World.ownsRow w' (Bs) 170 1 M2 (n + 1) (cs ++ [Value.pointer (some ⟨gp, 0, none⟩)]) ∧ GrX (fun k => k = gl ∨ (M).ownBlock = some k) w w') → Post1 Q e w') → Calls Try.prog 133 #[.pointer (some ⟨gl, 0, none⟩), .pointer (some ⟨gp, 0, none⟩)] w (fun e w' => Post1 Q e w') from hQ (fun e w' => ∃ M2 : Value, e = .returned (.tuple #[]) ∧ Blk w' (gl) 167 #[M2] ∧ World.ownsRow w' (Bs) 170 1 M2 (n + 1) (cs ++ [Value.pointer (some ⟨gp, 0, none⟩)]) ∧ GrX (fun k => k = gl ∨ (M).ownBlock = some k) w w') (fun _ _ h => by unfold Post1; exact h)
  intro Q HQ
  go_enter Try.func133, Try.ntmps133
  go_wp2_with (first
    | ((with_reducible refine at_dst (N := 7) rfl ?_); refine ev_ld rfl 167 _ rfl ⟨gl, 0, none⟩ rfl (M) (H0.out.cell 0) _ Try.underlying167 rfl ?_)
    | ((with_reducible refine at_dst (N := 9) rfl ?_); refine ev_bs rfl 167 170 1 _ rfl #[.pointer (some ⟨gp, 0, none⟩)] (by go_simp) ?_; intro g9 w1 hg hB hb
       have n_gl_g9 : gl ≠ g9 := by have := H0.out.lt; omega
       have nr_p1_g9 := own_fresh' H1.out hg
       have low_g9 := Nat.le_trans (Nat.le_refl _) hg
       have gl_w1 := Lib.hid (H0.out.below hb)
       have p1_w1 := Lib.hid (own_below H1.out hb)
       have B_w1 : Hid (GrX (fun k => k = gl ∨ (M).ownBlock = some k) w w1) := GrX.trans (GrX.refl _ _) (GrX.below hb)
       have g9_w1 : Hid (Blk w1 g9 170 #[.pointer (some ⟨gp, 0, none⟩)]) := hB
       clear hB hb)
    | ((with_reducible refine at_dst (N := 10) rfl ?_); refine ev_app rfl _ _ 167 170 rfl Try.underlying167 _ 1 _ tin170 rfl (by omega) Bs _ _ _ rfl p1_w1.out _ 1 _ [.pointer (some ⟨gp, 0, none⟩)] rfl (g9_w1.out.sl (by simp)) rfl (by simp [Value.oneCell']) (by omega) (by omega) (Nat.le_trans hBs B_w1.out.size) ?_; intro v10_w2 w2 ho1 hg1 hat1
       have hx := GrX.row (S := fun k => (M : Value).ownBlock = some k) hg1 (fun g h => h)
       have gl_w2 := Lib.hid (gl_w1.out.grx hx (own_ne p1_w1.out gl_w1.out (by decide)))
       have B_w2 : Hid (GrX (fun k => k = gl ∨ (M).ownBlock = some k) w w2) := GrX.trans' B_w1.out hx (fun k hk hlt => (fun e => .inr e) hk)
       obtain ⟨A10_w2, c10_w2, rfl, _⟩ := own_form ho1
       have p1_w2 := Lib.hid ho1
       clear ho1 hg1 hat1 hx)
    | (refine ev_store1 rfl 167 _ _ rfl gl 0 _ rfl (.slice A10_w2 (n + 1) c10_w2) rfl 167 gl_w2.out tsz167 (by simp) rfl rfl ?_; intro w3 hB hg hz
       have hx := GrX.grown (S := fun k => k = gl) hg rfl
       have p1_w3 := Lib.hid (own_grx p1_w2.out hx (fun k hk => (fun e => own_ne p1_w2.out gl_w2.out (by decide) (e ▸ hk))))
       have B_w3 : Hid (GrX (fun k => k = gl ∨ (M).ownBlock = some k) w w3) := GrX.trans' B_w2.out hx (fun k hk hlt => (fun e => .inl e) hk)
       clear hx
       have gl_w3 : Hid (Blk w3 gl 167 #[.slice A10_w2 (n + 1) c10_w2]) := hB
       clear hB hg hz))
  first | refine bodyPost_end (v := .tuple #[]) (results_none Try.results133 _ _ _) rfl ?_ | refine bodyPost_ret (v := .tuple #[]) (results_none Try.results133 _ _ _) rfl ?_
  exact HQ.out _ _ ⟨.slice A10_w2 (n + 1) c10_w2, rfl, gl_w3.out, p1_w3.out, B_w3.out⟩
def matchF (x y : Ty92) : Bool := x.fName.toList == y.fName.toList && x.fNamespace.toList == y.fNamespace.toList && x.fKind.toList == y.fKind.toList && x.fGroup.toList == y.fGroup.toList
set_option maxRecDepth 100000 in
set_option maxHeartbeats 4000000 in
theorem match_any (x : Ty92) (y : Ty92) (g : Nat) (g2 : Nat) (w : World) (h0 : InfoAt x g w) (h1 : InfoAt y g2 w)  :
    Calls Try.prog 134 #[.pointer (some ⟨g, 0, none⟩), .pointer (some ⟨g2, 0, none⟩)] w fun e w' => e = .returned (.bool (matchF x y)) ∧ Below w.heap.size w w' := by
  have H0 := Lib.hid h0
  clear h0
  have H1 := Lib.hid h1
  clear h1
  have H0' := Lib.hid (show Blk w g 169 #[.string x.fName, .string x.fNamespace, .string x.fKind, .string x.fGroup] from H0.out)
  clear H0
  have H1' := Lib.hid (show Blk w g2 169 #[.string y.fName, .string y.fNamespace, .string y.fKind, .string y.fGroup] from H1.out)
  clear H1
  suffices hQ : ∀ Q : Ending → World → Prop, Hid (∀ (e : Ending) (w' : World), (e = .returned (.bool (matchF x y)) ∧ Below w.heap.size w w') → Post1 Q e w') → Calls Try.prog 134 #[.pointer (some ⟨g, 0, none⟩), .pointer (some ⟨g2, 0, none⟩)] w (fun e w' => Post1 Q e w') from hQ (fun e w' => e = .returned (.bool (matchF x y)) ∧ Below w.heap.size w w') (fun _ _ h => by unfold Post1; exact h)
  intro Q HQ
  go_enter Try.func134, Try.ntmps134
  go_upto_region 1 with fail
  cases hc1 : (x.fName.toList == y.fName.toList)
  · have hc1' : (x.fName.toList != y.fName.toList) = true := by rw [bne, hc1]; rfl
    have q8_1 : w.cell? ⟨g, 0, none⟩ = some (.string x.fName) := H0'.out.cell 0
    have q12_1 : w.cell? ⟨g2, 0, none⟩ = some (.string y.fName) := H1'.out.cell 0
    go_region
    clear q8_1 q12_1
    have H0'd := Lib.hid (show Blk w.drew g 169 #[.string x.fName, .string x.fNamespace, .string x.fKind, .string x.fGroup] from H0'.out)
    have H1'd := Lib.hid (show Blk w.drew g2 169 #[.string y.fName, .string y.fNamespace, .string y.fKind, .string y.fGroup] from H1'.out)
    have B_d1 := Lib.hid (Below.refl w.heap.size w).drew
    go_wp2_with fail
    go_ret
    exact HQ.out _ _ ⟨ret_bool (by simp [matchF, *]), B_d1.out⟩
  · have hc1' : (x.fName.toList != y.fName.toList) = false := by rw [bne, hc1]; rfl
    cases hc2 : (x.fNamespace.toList == y.fNamespace.toList)
    · have hc2' : (x.fNamespace.toList != y.fNamespace.toList) = true := by rw [bne, hc2]; rfl
      have q8_1 : w.cell? ⟨g, 0, none⟩ = some (.string x.fName) := H0'.out.cell 0
      have q12_1 : w.cell? ⟨g2, 0, none⟩ = some (.string y.fName) := H1'.out.cell 0
      have q18_1 : w.cell? ⟨g, 1, none⟩ = some (.string x.fNamespace) := H0'.out.cell 1
      have q22_1 : w.cell? ⟨g2, 1, none⟩ = some (.string y.fNamespace) := H1'.out.cell 1
      go_region
      clear q8_1 q12_1 q18_1 q22_1
      have H0'd := Lib.hid (show Blk w.drew g 169 #[.string x.fName, .string x.fNamespace, .string x.fKind, .string x.fGroup] from H0'.out)
      have H1'd := Lib.hid (show Blk w.drew g2 169 #[.string y.fName, .string y.fNamespace, .string y.fKind, .string y.fGroup] from H1'.out)
      have B_d1 := Lib.hid (Below.refl w.heap.size w).drew
      go_wp2_with fail
      go_ret
      exact HQ.out _ _ ⟨ret_bool (by simp [matchF, *]), B_d1.out⟩
    · have hc2' : (x.fNamespace.toList != y.fNamespace.toList) = false := by rw [bne, hc2]; rfl
      cases hc3 : (x.fKind.toList == y.fKind.toList)
      · have hc3' : (x.fKind.toList != y.fKind.toList) = true := by rw [bne, hc3]; rfl
        have q8_1 : w.cell? ⟨g, 0, none⟩ = some (.string x.fName) := H0'.out.cell 0
        have q12_1 : w.cell? ⟨g2, 0, none⟩ = some (.string y.fName) := H1'.out.cell 0
        have q18_1 : w.cell? ⟨g, 1, none⟩ = some (.string x.fNamespace) := H0'.out.cell 1
        have q22_1 : w.cell? ⟨g2, 1, none⟩ = some (.string y.fNamespace) := H1'.out.cell 1
        have q29_1 : w.cell? ⟨g, 2, none⟩ = some (.string x.fKind) := H0'.out.cell 2
        have q33_1 : w.cell? ⟨g2, 2, none⟩ = some (.string y.fKind) := H1'.out.cell 2
        go_region
        clear q8_1 q12_1 q18_1 q22_1 q29_1 q33_1
        have H0'd := Lib.hid (show Blk w.drew g 169 #[.string x.fName, .string x.fNamespace, .string x.fKind, .string x.fGroup] from H0'.out)
        have H1'd := Lib.hid (show Blk w.drew g2 169 #[.string y.fName, .string y.fNamespace, .string y.fKind, .string y.fGroup] from H1'.out)
        have B_d1 := Lib.hid (Below.refl w.heap.size w).drew
        go_wp2_with fail
        go_ret
        exact HQ.out _ _ ⟨ret_bool (by simp [matchF, *]), B_d1.out⟩
      · have hc3' : (x.fKind.toList != y.fKind.toList) = false := by rw [bne, hc3]; rfl
        have q8_1 : w.cell? ⟨g, 0, none⟩ = some (.string x.fName) := H0'.out.cell 0
        have q12_1 : w.cell? ⟨g2, 0, none⟩ = some (.string y.fName) := H1'.out.cell 0
        have q18_1 : w.cell? ⟨g, 1, none⟩ = some (.string x.fNamespace) := H0'.out.cell 1
        have q22_1 : w.cell? ⟨g2, 1, none⟩ = some (.string y.fNamespace) := H1'.out.cell 1
        have q29_1 : w.cell? ⟨g, 2, none⟩ = some (.string x.fKind) := H0'.out.cell 2
        have q33_1 : w.cell? ⟨g2, 2, none⟩ = some (.string y.fKind) := H1'.out.cell 2
        have q40_1 : w.cell? ⟨g, 3, none⟩ = some (.string x.fGroup) := H0'.out.cell 3
        have q44_1 : w.cell? ⟨g2, 3, none⟩ = some (.string y.fGroup) := H1'.out.cell 3
        go_region
        clear q8_1 q12_1 q18_1 q22_1 q29_1 q33_1 q40_1 q44_1
        have H0'd := Lib.hid (show Blk w.drew g 169 #[.string x.fName, .string x.fNamespace, .string x.fKind, .string x.fGroup] from H0'.out)
        have H1'd := Lib.hid (show Blk w.drew g2 169 #[.string y.fName, .string y.fNamespace, .string y.fKind, .string y.fGroup] from H1'.out)
        have B_d1 := Lib.hid (Below.refl w.heap.size w).drew
        go_wp2_with fail
        go_ret
        exact HQ.out _ _ ⟨ret_bool (by simp [matchF, *]), B_d1.out⟩
set_option maxRecDepth 100000 in
set_option maxHeartbeats 4000000 in
theorem resources_any (A : Option Addr) (c : Nat) (xs : List Ty92) (w : World) (h0 : Rows w (A) 4 (xs.map Ty92.cells)) (hn : xs.length ≤ 1000000) :
    Calls Try.prog 105 #[.slice (A) (xs.length) (c)] w fun e w' => ∃ A2 : Option Addr, ∃ c2 : Nat, ∃ ps : List Nat, e = .returned (.slice A2 (xs.length) c2) ∧ World.ownsRow w' w.heap.size 170 1 (.slice A2 xs.length c2) (xs.length) (ptrs ps) ∧ Pl InfoAt w' ps (xs) ∧ Below w.heap.size w w' := by
  have hl_xs : xs.length ≤ 9223372036854775807 := by have := h0.1; simpa [strs, ptrs] using this
  have H0 := Lib.hid h0
  clear h0
  suffices hQ : ∀ Q : Ending → World → Prop, Hid (∀ (e : Ending) (w' : World), (∃ A2 : Option Addr, ∃ c2 : Nat, ∃ ps : List Nat, e = .returned (.slice A2 (xs.length) c2) ∧ World.ownsRow w' w.heap.size 170 1 (.slice A2 xs.length c2) (xs.length) (ptrs ps) ∧ Pl InfoAt w' ps (xs) ∧ Below w.heap.size w w') → Post1 Q e w') → Calls Try.prog 105 #[.slice (A) (xs.length) (c)] w (fun e w' => Post1 Q e w') from hQ (fun e w' => ∃ A2 : Option Addr, ∃ c2 : Nat, ∃ ps : List Nat, e = .returned (.slice A2 (xs.length) c2) ∧ World.ownsRow w' w.heap.size 170 1 (.slice A2 xs.length c2) (xs.length) (ptrs ps) ∧ Pl InfoAt w' ps (xs) ∧ Below w.heap.size w w') (fun _ _ h => by unfold Post1; exact h)
  intro Q HQ
  go_enter Try.func105, Try.ntmps105
  go_wp2_with (first
    | ((with_reducible refine at_dst (N := 3) rfl ?_); refine ev_alloc rfl 167 rfl _ _ tz167 ?_; intro g3 w1 hg hB hb
       have low_g3 := Nat.le_trans (Nat.le_refl _) hg
       have B_w1 := Lib.hid (below_trans (Below.refl _ _) hb)
       have g3_w1 : Hid (Blk w1 g3 167 #[.slice none 0 0]) := hB
       clear hB hb))
  go_loopw [9] (fun v9 wr => ∃ k : Nat, ∃ M : Value, ∃ ps : List Nat, k ≤ xs.length ∧ v9 = .int .i64 (↑k) ∧ Hid (Blk wr g3 167 #[M]) ∧ Hid (World.ownsRow wr w.heap.size 170 1 M k (ptrs ps)) ∧ Hid (Pl InfoAt wr ps (xs.take k)) ∧ Hid (Below w.heap.size w wr)) (fun v9 _ => xs.length - (intOf v9).toNat)
  case atStart => exact ⟨0, .slice none 0 0, [], (by omega), rfl, g3_w1, (own_nil _ _ _ _), Pl.nil, B_w1⟩
  case round =>
    obtain ⟨k, M, ps, hk, rfl, L0_g3, L0_own, L0_pl, L0_B⟩ := hrel
    by_cases hlt_k : k < xs.length
    · obtain ⟨ad_k, rfl⟩ := (H0.out.below L0_B.out).addr (by simp [strs, ptrs]; omega)
      go_wp2_with (first
        | ((with_reducible refine at_dst (N := 12) rfl ?_); refine ev_loadR rfl 92 _ rfl _ rfl [.string xs[k].fName, .string xs[k].fNamespace, .string xs[k].fKind, .string xs[k].fGroup] ((H0.out.below L0_B.out).el (j := k) (row := xs[k].cells) (by simp [hlt_k])) _ Try.underlying92 rfl tsz92 ?_)
        | ((with_reducible refine at_dst (N := 5) rfl ?_); refine ev_alloc rfl 92 rfl _ _ tz92 ?_; intro g5 w2 hg hB hb
           have n_g3_g5 : g3 ≠ g5 := by have := L0_g3.out.lt; omega
           have low_g5 := Nat.le_trans L0_B.out.size hg
           have g3_w2 := Lib.hid (L0_g3.out.below hb)
           have own_w2 := Lib.hid (own_below L0_own.out hb)
           have pl_w2 := Lib.hid (Pl.map L0_pl.out fun _ _ q => InfoAt.below q hb)
           have B_w2 := Lib.hid (below_trans L0_B.out hb)
           have g5_w2 : Hid (Blk w2 g5 92 #[.string ⟨#[]⟩, .string ⟨#[]⟩, .string ⟨#[]⟩, .string ⟨#[]⟩]) := hB
           clear hB hb)
        | (refine ev_store rfl 92 _ _ rfl g5 _ _ rfl rfl 92 g5_w2.out tsz92 rfl rfl ?_; intro w3 hB hg hz
           have hx := GrX.grown (S := fun k => k = g5) hg rfl
           have g3_w3 := Lib.hid (g3_w2.out.grx hx (fun e => n_g3_g5 e))
           have own_w3 := Lib.hid (own_grx own_w2.out hx (fun k hk => (fun e => own_ne own_w2.out g5_w2.out (by decide) (e ▸ hk))))
           have pl_w3 := Lib.hid (Pl.map pl_w2.out fun _ _ q => InfoAt.ap q hx (SApart.blk g5_w2.out (by decide)))
           have B_w3 := Lib.hid (below_grx B_w2.out hx B_w2.out.size (fun k => (fun e => e ▸ low_g5)))
           clear hx
           have g5_w3 : Hid (Blk w3 g5 92 #[.string xs[k].fName, .string xs[k].fNamespace, .string xs[k].fKind, .string xs[k].fGroup]) := hB
           clear hB hg hz)
        | ((with_reducible refine at_dst (N := 13) rfl ?_); refine ev_loadB rfl 92 _ rfl g5 rfl 92 _ g5_w3.out _ Try.underlying92 rfl tsz92 ?_)
        | ((with_reducible refine at_dst (N := 6) rfl ?_); refine ev_alloc rfl 169 rfl _ _ tz169 ?_; intro g6 w4 hg hB hb
           have n_g3_g6 : g3 ≠ g6 := by have := g3_w3.out.lt; omega
           have n_g5_g6 : g5 ≠ g6 := by have := g5_w3.out.lt; omega
           have low_g6 := Nat.le_trans B_w3.out.size hg
           have lo_g6 := hg
           have bo_g6 := Lib.hid hb
           have g3_w4 := Lib.hid (g3_w3.out.below hb)
           have own_w4 := Lib.hid (own_below own_w3.out hb)
           have pl_w4 := Lib.hid (Pl.map pl_w3.out fun _ _ q => InfoAt.below q hb)
           have g5_w4 := Lib.hid (g5_w3.out.below hb)
           have B_w4 := Lib.hid (below_trans B_w3.out hb)
           have g6_w4 : Hid (Blk w4 g6 169 #[.string ⟨#[]⟩, .string ⟨#[]⟩, .string ⟨#[]⟩, .string ⟨#[]⟩]) := hB
           clear hB hb)
        | (refine ev_store rfl 169 _ _ rfl g6 _ _ rfl rfl 169 g6_w4.out tsz169 rfl rfl ?_; intro w5 hB hg hz
           have hx := GrX.grown (S := fun k => k = g6) hg rfl
           have bo_g6_w5 := Lib.hid (below_grown bo_g6.out hg bo_g6.out.size lo_g6)
           have pl_w5 := Lib.hid (Pl.map pl_w3.out fun _ _ q => InfoAt.below q bo_g6_w5.out)
           have g3_w5 := Lib.hid (g3_w4.out.grx hx (fun e => n_g3_g6 e))
           have own_w5 := Lib.hid (own_grx own_w4.out hx (fun k hk => (fun e => own_ne own_w4.out g6_w4.out (by decide) (e ▸ hk))))
           have g5_w5 := Lib.hid (g5_w4.out.grx hx (fun e => n_g5_g6 e))
           have B_w5 := Lib.hid (below_grx B_w4.out hx B_w4.out.size (fun k => (fun e => e ▸ low_g6)))
           clear hx
           have g6_w5 : Hid (Blk w5 g6 169 #[.string xs[k].fName, .string xs[k].fNamespace, .string xs[k].fKind, .string xs[k].fGroup]) := hB
           clear hB hg hz)
        | (go_at_call 133; (with_reducible refine (rlAppend_any g3 g6 M k (ptrs ps) w.heap.size _ g3_w5.out own_w5.out (by omega) B_w5.out.size).mono ?_); rintro e w6 ⟨M214, rfl, hp0_14, hp1_14, hb⟩
           have pl_w6 := Lib.hid (Pl.map pl_w5.out fun _ _ q => InfoAt.ap q hb (SApart.or (SApart.blk g3_w5.out (by decide)) (SApart.own own_w5.out (by decide))))
           have g5_w6 := Lib.hid (g5_w5.out.grx hb (fun e => e.elim (fun e => n_g3_g5.symm e) (own_ne own_w5.out g5_w5.out (by decide))))
           have g6_w6 := Lib.hid (g6_w5.out.grx hb (fun e => e.elim (fun e => n_g3_g6.symm e) (own_ne own_w5.out g6_w5.out (by decide))))
           have B_w6 := Lib.hid (below_grx B_w5.out hb B_w5.out.size (fun k => (fun e => e.elim (fun e => e ▸ low_g3) (fun e => own_ge own_w5.out k e))))
           have g3_w6 := Lib.hid hp0_14
           have own_w6 := Lib.hid hp1_14
           clear hb hp0_14 hp1_14))
      refine ⟨⟨k + 1, _, ps ++ [g6], (by omega), by go_num, g3_w6, by show World.ownsRow _ _ _ _ _ _ _; rw [ptrs_snoc]; exact own_w6.out, by show Pl _ _ _ _; rw [take_snoc hlt_k]; exact pl_w6.out.snoc g6_w6.out, B_w6⟩, ?_⟩
      simp [intOf]; omega
    · obtain rfl : k = xs.length := by omega
      rw [List.take_length] at L0_pl
      obtain ⟨A2, c2, rfl, _⟩ := own_form L0_own.out
      go_wp2_with (first
        | ((with_reducible refine at_dst (N := 16) rfl ?_); refine ev_ld rfl 167 _ rfl ⟨g3, 0, none⟩ rfl (.slice A2 xs.length c2) (L0_g3.out.cell 0) _ Try.underlying167 rfl ?_))
      go_ret
      exact HQ.out _ _ ⟨A2, c2, _, rfl, L0_own.out, L0_pl.out, L0_B.out⟩
def anyM (xs : List Ty92) (y : Ty92) : Bool := xs.any fun x => matchF x y
set_option maxRecDepth 100000 in
set_option maxHeartbeats 4000000 in
theorem rlContains_any (A : Option Addr) (c : Nat) (ps : List Nat) (xs : List Ty92) (y : Ty92) (g : Nat) (w : World) (h0 : Sl w (A) (ptrs ps)) (h1 : Pl InfoAt w (ps) (xs)) (h2 : InfoAt y g w)  :
    Calls Try.prog 107 #[.slice (A) (xs.length) (c), .pointer (some ⟨g, 0, none⟩)] w fun e w' => e = .returned (.bool (anyM xs y)) ∧ Below w.heap.size w w' := by
  have hl_ps : ps.length ≤ 9223372036854775807 := by have := h0.1; simpa [strs, ptrs] using this
  have hlp_1 := h1.1
  have H0 := Lib.hid h0
  clear h0
  have H1 := Lib.hid h1
  clear h1
  have H2 := Lib.hid h2
  clear h2
  suffices hQ : ∀ Q : Ending → World → Prop, Hid (∀ (e : Ending) (w' : World), (e = .returned (.bool (anyM xs y)) ∧ Below w.heap.size w w') → Post1 Q e w') → Calls Try.prog 107 #[.slice (A) (xs.length) (c), .pointer (some ⟨g, 0, none⟩)] w (fun e w' => Post1 Q e w') from hQ (fun e w' => e = .returned (.bool (anyM xs y)) ∧ Below w.heap.size w w') (fun _ _ h => by unfold Post1; exact h)
  intro Q HQ
  go_enter Try.func107, Try.ntmps107
  go_wp2_with fail
  go_loopw [9] (fun v9 wr => ∃ k : Nat, k ≤ xs.length ∧ v9 = .int .i64 (↑k) ∧ Hid (anyM (xs.take k) y = false) ∧ Hid (Below w.heap.size w wr)) (fun v9 _ => xs.length - (intOf v9).toNat)
  case atStart => exact ⟨0, (by omega), rfl, rfl, (Below.refl _ _)⟩
  case round =>
    obtain ⟨k, hk, rfl, L0_none, L0_B⟩ := hrel
    by_cases hlt_k : k < xs.length
    · obtain ⟨ad_k, rfl⟩ := (H0.out.below L0_B.out).addr (by simp [strs, ptrs]; omega)
      obtain ⟨hkp, hR⟩ := Pl.get (Pl.map H1.out fun _ _ q => InfoAt.below q L0_B.out) hlt_k
      have hR' := Lib.hid hR
      clear hR
      cases hc1 : (matchF xs[k] y)
      · go_wp2_with (first
          | ((with_reducible refine at_dst (N := 12) rfl ?_); refine ev_ld rfl 170 _ rfl _ rfl (.pointer (some ⟨ps[k], 0, none⟩)) ((H0.out.below L0_B.out).el (j := k) (ptrs_get hkp)) _ Try.underlying170 rfl ?_)
          | (go_at_call 134; (with_reducible refine (match_any xs[k] y ps[k] g _ hR'.out (InfoAt.below H2.out L0_B.out)).mono ?_); rintro e w1 ⟨rfl, hb⟩; rw [hc1]
             have el_w1 := Lib.hid (InfoAt.below hR'.out hb)
             have B_w1 := Lib.hid (below_trans L0_B.out hb)
             clear hb))
        refine ⟨⟨k + 1, (by omega), by go_num, by show _ = _; unfold anyM; rw [any_take hlt_k, hc1, Bool.or_false]; exact L0_none.out, B_w1⟩, ?_⟩
        simp [intOf]; omega
      · go_wp2_with (first
          | ((with_reducible refine at_dst (N := 12) rfl ?_); refine ev_ld rfl 170 _ rfl _ rfl (.pointer (some ⟨ps[k], 0, none⟩)) ((H0.out.below L0_B.out).el (j := k) (ptrs_get hkp)) _ Try.underlying170 rfl ?_)
          | (go_at_call 134; (with_reducible refine (match_any xs[k] y ps[k] g _ hR'.out (InfoAt.below H2.out L0_B.out)).mono ?_); rintro e w1 ⟨rfl, hb⟩; rw [hc1]
             have el_w1 := Lib.hid (InfoAt.below hR'.out hb)
             have B_w1 := Lib.hid (below_trans L0_B.out hb)
             clear hb))
        go_ret
        exact HQ.out _ _ ⟨ret_bool (by unfold anyM; rw [any_at hlt_k hc1]), B_w1.out⟩
    · obtain rfl : k = xs.length := by omega
      rw [List.take_length] at L0_none
      go_wp2_with fail
      go_ret
      exact HQ.out _ _ ⟨ret_bool L0_none.out.symm, L0_B.out⟩
theorem matchF_eq {x y : Ty92} (h : matchF x y = true) : x = y := by
  simp only [matchF, Bool.and_eq_true, bytes_eqd, decide_eq_true_eq] at h
  obtain ⟨⟨⟨h1, h2⟩, h3⟩, h4⟩ := h
  cases x; cases y; simp_all
set_option maxRecDepth 100000 in
set_option maxHeartbeats 4000000 in
theorem get_none (A : Option Addr) (c : Nat) (ps : List Nat) (xs : List Ty92) (y : Ty92) (g : Nat) (w : World) (h0 : Sl w (A) (ptrs ps)) (h1 : Pl InfoAt w (ps) (xs)) (h2 : InfoAt y g w) (hno : anyM xs y = false) :
    Calls Try.prog 106 #[.slice (A) (xs.length) (c), .pointer (some ⟨g, 0, none⟩)] w fun e w' => e = .returned (.pointer none) ∧ Below w.heap.size w w' := by
  have hl_ps : ps.length ≤ 9223372036854775807 := by have := h0.1; simpa [strs, ptrs] using this
  have hlp_1 := h1.1
  have H0 := Lib.hid h0
  clear h0
  have H1 := Lib.hid h1
  clear h1
  have H2 := Lib.hid h2
  clear h2
  suffices hQ : ∀ Q : Ending → World → Prop, Hid (∀ (e : Ending) (w' : World), (e = .returned (.pointer none) ∧ Below w.heap.size w w') → Post1 Q e w') → Calls Try.prog 106 #[.slice (A) (xs.length) (c), .pointer (some ⟨g, 0, none⟩)] w (fun e w' => Post1 Q e w') from hQ (fun e w' => e = .returned (.pointer none) ∧ Below w.heap.size w w') (fun _ _ h => by unfold Post1; exact h)
  intro Q HQ
  go_enter Try.func106, Try.ntmps106
  go_wp2_with fail
  go_loopw [9] (fun v9 wr => ∃ k : Nat, k ≤ xs.length ∧ v9 = .int .i64 (↑k) ∧ Hid (Below w.heap.size w wr)) (fun v9 _ => xs.length - (intOf v9).toNat)
  case atStart => exact ⟨0, (by omega), rfl, (Below.refl _ _)⟩
  case round =>
    obtain ⟨k, hk, rfl, L0_B⟩ := hrel
    by_cases hlt_k : k < xs.length
    · obtain ⟨ad_k, rfl⟩ := (H0.out.below L0_B.out).addr (by simp [strs, ptrs]; omega)
      obtain ⟨hkp, hR⟩ := Pl.get (Pl.map H1.out fun _ _ q => InfoAt.below q L0_B.out) hlt_k
      have hR' := Lib.hid hR
      clear hR
      cases hc1 : (matchF xs[k] y)
      · go_wp2_with (first
          | ((with_reducible refine at_dst (N := 12) rfl ?_); refine ev_ld rfl 170 _ rfl _ rfl (.pointer (some ⟨ps[k], 0, none⟩)) ((H0.out.below L0_B.out).el (j := k) (ptrs_get hkp)) _ Try.underlying170 rfl ?_)
          | (go_at_call 134; (with_reducible refine (match_any xs[k] y ps[k] g _ hR'.out (InfoAt.below H2.out L0_B.out)).mono ?_); rintro e w1 ⟨rfl, hb⟩; rw [hc1]
             have el_w1 := Lib.hid (InfoAt.below hR'.out hb)
             have B_w1 := Lib.hid (below_trans L0_B.out hb)
             clear hb))
        refine ⟨⟨k + 1, (by omega), by go_num, B_w1⟩, ?_⟩
        simp [intOf]; omega
      · go_wp2_with (first
          | ((with_reducible refine at_dst (N := 12) rfl ?_); refine ev_ld rfl 170 _ rfl _ rfl (.pointer (some ⟨ps[k], 0, none⟩)) ((H0.out.below L0_B.out).el (j := k) (ptrs_get hkp)) _ Try.underlying170 rfl ?_)
          | (go_at_call 134; (with_reducible refine (match_any xs[k] y ps[k] g _ hR'.out (InfoAt.below H2.out L0_B.out)).mono ?_); rintro e w1 ⟨rfl, hb⟩; rw [hc1]
             have el_w1 := Lib.hid (InfoAt.below hR'.out hb)
             have B_w1 := Lib.hid (below_trans L0_B.out hb)
             clear hb))
        exact absurd (any_at (p := fun x => matchF x y) hlt_k hc1) (by unfold anyM at hno; rw [hno]; decide)
    · obtain rfl : k = xs.length := by omega
      go_wp2_with fail
      go_ret
      exact HQ.out _ _ ⟨rfl, L0_B.out⟩
set_option maxRecDepth 100000 in
set_option maxHeartbeats 4000000 in
theorem get_some (A : Option Addr) (c : Nat) (ps : List Nat) (xs : List Ty92) (y : Ty92) (g : Nat) (w : World) (h0 : Sl w (A) (ptrs ps)) (h1 : Pl InfoAt w (ps) (xs)) (h2 : InfoAt y g w) (hno : anyM xs y = true) :
    Calls Try.prog 106 #[.slice (A) (xs.length) (c), .pointer (some ⟨g, 0, none⟩)] w fun e w' => ∃ gq : Nat, e = .returned (.pointer (some ⟨gq, 0, none⟩)) ∧ InfoAt y gq w' ∧ Below w.heap.size w w' := by
  have hl_ps : ps.length ≤ 9223372036854775807 := by have := h0.1; simpa [strs, ptrs] using this
  have hlp_1 := h1.1
  have H0 := Lib.hid h0
  clear h0
  have H1 := Lib.hid h1
  clear h1
  have H2 := Lib.hid h2
  clear h2
  suffices hQ : ∀ Q : Ending → World → Prop, Hid (∀ (e : Ending) (w' : World), (∃ gq : Nat, e = .returned (.pointer (some ⟨gq, 0, none⟩)) ∧ InfoAt y gq w' ∧ Below w.heap.size w w') → Post1 Q e w') → Calls Try.prog 106 #[.slice (A) (xs.length) (c), .pointer (some ⟨g, 0, none⟩)] w (fun e w' => Post1 Q e w') from hQ (fun e w' => ∃ gq : Nat, e = .returned (.pointer (some ⟨gq, 0, none⟩)) ∧ InfoAt y gq w' ∧ Below w.heap.size w w') (fun _ _ h => by unfold Post1; exact h)
  intro Q HQ
  go_enter Try.func106, Try.ntmps106
  go_wp2_with fail
  go_loopw [9] (fun v9 wr => ∃ k : Nat, k ≤ xs.length ∧ v9 = .int .i64 (↑k) ∧ Hid (anyM (xs.take k) y = false) ∧ Hid (Below w.heap.size w wr)) (fun v9 _ => xs.length - (intOf v9).toNat)
  case atStart => exact ⟨0, (by omega), rfl, rfl, (Below.refl _ _)⟩
  case round =>
    obtain ⟨k, hk, rfl, L0_none, L0_B⟩ := hrel
    by_cases hlt_k : k < xs.length
    · obtain ⟨ad_k, rfl⟩ := (H0.out.below L0_B.out).addr (by simp [strs, ptrs]; omega)
      obtain ⟨hkp, hR⟩ := Pl.get (Pl.map H1.out fun _ _ q => InfoAt.below q L0_B.out) hlt_k
      have hR' := Lib.hid hR
      clear hR
      cases hc1 : (matchF xs[k] y)
      · go_wp2_with (first
          | ((with_reducible refine at_dst (N := 12) rfl ?_); refine ev_ld rfl 170 _ rfl _ rfl (.pointer (some ⟨ps[k], 0, none⟩)) ((H0.out.below L0_B.out).el (j := k) (ptrs_get hkp)) _ Try.underlying170 rfl ?_)
          | (go_at_call 134; (with_reducible refine (match_any xs[k] y ps[k] g _ hR'.out (InfoAt.below H2.out L0_B.out)).mono ?_); rintro e w1 ⟨rfl, hb⟩; rw [hc1]
             have el_w1 := Lib.hid (InfoAt.below hR'.out hb)
             have B_w1 := Lib.hid (below_trans L0_B.out hb)
             clear hb))
        refine ⟨⟨k + 1, (by omega), by go_num, by show _ = _; unfold anyM; rw [any_take hlt_k, hc1, Bool.or_false]; exact L0_none.out, B_w1⟩, ?_⟩
        simp [intOf]; omega
      · go_wp2_with (first
          | ((with_reducible refine at_dst (N := 12) rfl ?_); refine ev_ld rfl 170 _ rfl _ rfl (.pointer (some ⟨ps[k], 0, none⟩)) ((H0.out.below L0_B.out).el (j := k) (ptrs_get hkp)) _ Try.underlying170 rfl ?_)
          | (go_at_call 134; (with_reducible refine (match_any xs[k] y ps[k] g _ hR'.out (InfoAt.below H2.out L0_B.out)).mono ?_); rintro e w1 ⟨rfl, hb⟩; rw [hc1]
             have el_w1 := Lib.hid (InfoAt.below hR'.out hb)
             have B_w1 := Lib.hid (below_trans L0_B.out hb)
             clear hb))
        go_ret
        have hR2 := el_w1.out
        rw [matchF_eq hc1] at hR2
        exact HQ.out _ _ ⟨_, rfl, hR2, B_w1.out⟩
    · obtain rfl : k = xs.length := by omega
      rw [List.take_length] at L0_none
      go_wp2_with fail
      exact absurd L0_none.out (by rw [hno]; decide)
set_option maxRecDepth 100000 in
set_option maxHeartbeats 4000000 in
theorem told_any (A : Option Addr) (c : Nat) (ps : List Nat) (xs : List Ty92) (w : World) (h0 : Sl w (A) (ptrs ps)) (h1 : Pl InfoAt w (ps) (xs)) (hn : xs.length ≤ 1000000) :
    Calls Try.prog 108 #[.slice (A) (xs.length) (c)] w fun e w' => ∃ A2 : Option Addr, ∃ c2 : Nat, e = .returned (.slice A2 (xs.length) c2) ∧ World.ownsRow w' w.heap.size 92 4 (.slice A2 xs.length c2) (xs.length) (flatC Ty92.cells xs) ∧ Below w.heap.size w w' := by
  have hl_ps : ps.length ≤ 9223372036854775807 := by have := h0.1; simpa [strs, ptrs] using this
  have hlp_1 := h1.1
  have H0 := Lib.hid h0
  clear h0
  have H1 := Lib.hid h1
  clear h1
  suffices hQ : ∀ Q : Ending → World → Prop, Hid (∀ (e : Ending) (w' : World), (∃ A2 : Option Addr, ∃ c2 : Nat, e = .returned (.slice A2 (xs.length) c2) ∧ World.ownsRow w' w.heap.size 92 4 (.slice A2 xs.length c2) (xs.length) (flatC Ty92.cells xs) ∧ Below w.heap.size w w') → Post1 Q e w') → Calls Try.prog 108 #[.slice (A) (xs.length) (c)] w (fun e w' => Post1 Q e w') from hQ (fun e w' => ∃ A2 : Option Addr, ∃ c2 : Nat, e = .returned (.slice A2 (xs.length) c2) ∧ World.ownsRow w' w.heap.size 92 4 (.slice A2 xs.length c2) (xs.length) (flatC Ty92.cells xs) ∧ Below w.heap.size w w') (fun _ _ h => by unfold Post1; exact h)
  intro Q HQ
  go_enter Try.func108, Try.ntmps108
  go_wp2_with fail
  go_loopw [3, 8] (fun v3 v8 wr => ∃ k : Nat, k ≤ xs.length ∧ v8 = .int .i64 (↑k) ∧ Hid (World.ownsRow wr w.heap.size 92 4 v3 k (flatC Ty92.cells (xs.take k))) ∧ Hid (Below w.heap.size w wr)) (fun v3 v8 _ => xs.length - (intOf v8).toNat)
  case atStart => exact ⟨0, (by omega), rfl, (own_nil _ _ _ _), (Below.refl _ _)⟩
  case round =>
    obtain ⟨k, hk, rfl, L0_own, L0_B⟩ := hrel
    by_cases hlt_k : k < xs.length
    · obtain ⟨ad_k, rfl⟩ := (H0.out.below L0_B.out).addr (by simp [strs, ptrs]; omega)
      obtain ⟨hkp, hR⟩ := Pl.get (Pl.map H1.out fun _ _ q => InfoAt.below q L0_B.out) hlt_k
      have hG := Lib.hid (show Blk wr ps[k] 169 #[.string xs[k].fName, .string xs[k].fNamespace, .string xs[k].fKind, .string xs[k].fGroup] from hR)
      clear hR
      go_wp2_with (first
        | ((with_reducible refine at_dst (N := 11) rfl ?_); refine ev_ld rfl 170 _ rfl _ rfl (.pointer (some ⟨ps[k], 0, none⟩)) ((H0.out.below L0_B.out).el (j := k) (ptrs_get hkp)) _ Try.underlying170 rfl ?_)
        | ((with_reducible refine at_dst (N := 15) rfl ?_); refine ev_loadB rfl 169 _ rfl ps[k] rfl 169 _ hG.out _ Try.underlying169 rfl tsz169 ?_)
        | ((with_reducible refine at_dst (N := 16) rfl ?_); refine ev_bs rfl 90 92 1 _ rfl #[.string xs[k].fName, .string xs[k].fNamespace, .string xs[k].fKind, .string xs[k].fGroup] (by go_simp) ?_; intro g16 w1 hg hB hb
           have nr_own_g16 := own_fresh' L0_own.out hg
           have n_ps_k__g16 : ps[k] ≠ g16 := by have := hG.out.lt; omega
           have low_g16 := Nat.le_trans L0_B.out.size hg
           have own_w1 := Lib.hid (own_below L0_own.out hb)
           have ps_k__w1 := Lib.hid (hG.out.below hb)
           have B_w1 := Lib.hid (below_trans L0_B.out hb)
           have g16_w1 : Hid (Blk w1 g16 92 #[.string xs[k].fName, .string xs[k].fNamespace, .string xs[k].fKind, .string xs[k].fGroup]) := hB
           clear hB hb)
        | ((with_reducible refine at_dst (N := 17) rfl ?_); refine ev_app rfl _ _ 90 92 rfl Try.underlying90 _ 4 _ tin92 rfl (by omega) w.heap.size _ _ _ rfl own_w1.out _ 1 _ [.string xs[k].fName, .string xs[k].fNamespace, .string xs[k].fKind, .string xs[k].fGroup] rfl (g16_w1.out.sl (by simp)) rfl (by simp [Value.oneCell']) (by omega) (by omega) B_w1.out.size ?_; intro v17_w2 w2 ho1 hg1 hat1
           have hx := GrX.row (S := fun k => (u3 : Value).ownBlock = some k) hg1 (fun g h => h)
           have ps_k__w2 := Lib.hid (ps_k__w1.out.grx hx (own_ne own_w1.out ps_k__w1.out (by decide)))
           have B_w2 := Lib.hid (below_grx B_w1.out hx B_w1.out.size (fun k => (fun e => own_ge own_w1.out k e)))
           obtain ⟨A17_w2, c17_w2, rfl, _⟩ := own_form ho1
           have own_w2 := Lib.hid ho1
           clear ho1 hg1 hat1 hx))
      refine ⟨⟨k + 1, (by omega), by go_num, by show World.ownsRow _ _ _ _ _ _ _; rw [take_snoc hlt_k, flatC_snoc]; exact own_w2.out, B_w2⟩, ?_⟩
      simp [intOf]; omega
    · obtain rfl : k = xs.length := by omega
      rw [List.take_length] at L0_own
      obtain ⟨A2, c2, rfl, _⟩ := own_form L0_own.out
      go_wp2_with fail
      go_ret
      exact HQ.out _ _ ⟨A2, c2, rfl, L0_own.out, L0_B.out⟩
end Go.Proofs.Ytdgblfldbikneaa
