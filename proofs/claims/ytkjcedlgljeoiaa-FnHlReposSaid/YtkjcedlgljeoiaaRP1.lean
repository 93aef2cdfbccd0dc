/- Lists of repositories: Add, Update, Get, Has, Remove, told. -/
import Derived.Test.YtkjcedlgljeoiaaFz
namespace Go.Proofs.Ytkjcedlgljeoiaa
open Go.RowKit Go.Lib
set_option linter.unusedVariables false
set_option linter.unusedSimpArgs false
abbrev RepAt (x : Ty52) (g : Nat) (w : World) : Prop := Blk w g 221 #[.string x.fName, .string x.fURL]
theorem RepAt.below {x : Ty52} {g : Nat} {w w' : World} (h : RepAt x g w) (hb : Below w.heap.size w w') : RepAt x g w' := Blk.below h hb
theorem RepAt.ap {x : Ty52} {g : Nat} {w w' : World} {S : Nat → Prop} (h : RepAt x g w) (hx : GrX S w w') (ha : SApart w S [221]) : RepAt x g w' := Blk.ap h hx ha (by simp)
def sameN (s : ByteArray) (x : Ty52) : Bool := x.fName.toList == s.toList
def updF : List Ty52 → Ty52 → List Ty52
  | [], x => [x]
  | y :: ys, x => if sameN x.fName y then x :: ys else y :: updF ys x
theorem updF_none {l : List Ty52} {x : Ty52} (h : l.any (sameN x.fName) = false) : updF l x = l ++ [x] := by
  induction l with
  | nil => rfl
  | cons y ys ih =>
    simp only [List.any_cons, Bool.or_eq_false_iff] at h
    simp only [updF, h.1, Bool.false_eq_true, if_false, List.cons_append, ih h.2]
theorem updF_at {l : List Ty52} {x : Ty52} {k : Nat} (hk : k < l.length) (h : (l.take k).any (sameN x.fName) = false) (e : sameN x.fName l[k] = true) : updF l x = l.set k x := by
  induction l generalizing k with
  | nil => simp at hk
  | cons y ys ih =>
    cases k with
    | zero => simp only [List.getElem_cons_zero] at e; simp [updF, e]
    | succ k =>
      simp only [List.take_succ_cons, List.any_cons, Bool.or_eq_false_iff] at h
      simp only [List.getElem_cons_succ] at e
      simp only [updF, h.1, Bool.false_eq_true, if_false, List.set_cons_succ]
      rw [ih (by simpa using hk) h.2 e]
theorem updF_len (l : List Ty52) (x : Ty52) : (updF l x).length ≤ l.length + 1 := by
  induction l with
  | nil => simp [updF]
  | cons y ys ih => simp only [updF]; split <;> simp; omega
set_option maxRecDepth 100000 in
set_option maxHeartbeats 4000000 in
theorem rAdd_any (gf : Nat) (A : Option Addr) (c : Nat) (ps : List Nat) (l : List Ty52) (Bs : Nat) (B : Option Addr) (m : Nat) (d : Nat) (qs : List Nat) (rs : List Ty52) (w : World) (h0 : Blk w (gf) 218 #[.string ⟨#[118, 49]⟩, .slice A l.length c]) (h1 : World.ownsRow w (Bs) 219 1 (.slice A l.length c) (l.length) (ptrs ps)) (h2 : Pl RepAt w (ps) (l)) (h3 : Sl w (B) (ptrs qs)) (h4 : Pl RepAt w (qs) (rs)) (hBs : Bs ≤ w.heap.size) (hml : rs.length = m) (hn : l.length ≤ 1000000) (hm : m ≤ 1000000) :
    Calls Try.prog 138 #[.pointer (some ⟨gf, 0, none⟩), .slice (B) (m) (d)] w fun e w' => ∃ A2 : Option Addr, ∃ c2 : Nat, ∃ ps2 : List Nat, e = .returned (.tuple #[]) ∧ Blk w' (gf) 218 #[.string ⟨#[118, 49]⟩, .slice A2 (l.length + m) c2] ∧ World.ownsRow w' (Bs) 219 1 (.slice A2 (l.length + m) c2) (l.length + m) (ptrs ps2) ∧ Pl RepAt w' ps2 (l ++ rs) ∧ FoS w (.slice A l.length c) (.slice A2 (l.length + m) c2) ∧ GrX (fun k => k = gf ∨ (.slice A l.length c : Value).ownBlock = some k) w w' := by
  have hlo_1 : l.length ≤ 9223372036854775807 := own_max1 h1
  have hlp_2 := h2.1
  have hl_qs : qs.length ≤ 9223372036854775807 := by have := h3.1; simpa [strs, ptrs] using this
  have hlp_4 := h4.1
  have H0 := Lib.hid h0
  clear h0
  have H1 := Lib.hid h1
  clear h1
  have fos_p1 : FoS w (.slice A l.length c) (.slice A l.length c) := FoS.refl
  have H2 := Lib.hid h2
  clear h2
  have H3 := Lib.hid h3
  clear h3
  have H4 := Lib.hid h4
  clear h4
  suffices hQ : ∀ Q : Ending → World → Prop, Hid (∀ (e : Ending) (w' : World), (∃ A2 : Option Addr, ∃ c2 : Nat, ∃ ps2 : List Nat, e = .returned (.tuple #[]) ∧ Blk w' (gf) 218 #[.string ⟨#[118, 49]⟩, .slice A2 (l.length + m) c2] ∧ World.ownsRow w' (Bs) 219 1 (.slice A2 (l.length + m) c2) (l.length + m) (ptrs ps2) ∧ Pl RepAt w' ps2 (l ++ rs) ∧ FoS w (.slice A l.length c) (.slice A2 (l.length + m) c2) ∧ GrX (fun k => k = gf ∨ (.slice A l.length c : Value).ownBlock = some k) w w') → Post1 Q e w') → Calls Try.prog 138 #[.pointer (some ⟨gf, 0, none⟩), .slice (B) (m) (d)] w (fun e w' => Post1 Q e w') from hQ (fun e w' => ∃ A2 : Option Addr, ∃ c2 : Nat, ∃ ps2 : List Nat, e = .returned (.tuple #[]) ∧ Blk w' (gf) 218 #[.string ⟨#[118, 49]⟩, .slice A2 (l.length + m) c2] ∧ World.ownsRow w' (Bs) 219 1 (.slice A2 (l.length + m) c2) (l.length + m) (ptrs ps2) ∧ Pl RepAt w' ps2 (l ++ rs) ∧ FoS w (.slice A l.length c) (.slice A2 (l.length + m) c2) ∧ GrX (fun k => k = gf ∨ (.slice A l.length c : Value).ownBlock = some k) w w') (fun _ _ h => by unfold Post1; exact h)
  intro Q HQ
  go_enter Try.func138, Try.ntmps138
  go_wp2_with (first
    | ((with_reducible refine at_dst (N := 8) rfl ?_); refine ev_ld rfl 216 _ rfl ⟨gf, 1, none⟩ rfl (.slice A l.length c) (H0.out.cell 1) _ Try.underlying216 rfl ?_)
    | ((with_reducible refine at_dst (N := 10) rfl ?_); refine ev_app rfl _ _ 216 219 rfl Try.underlying216 _ 1 _ tin219 rfl (by omega) Bs _ _ _ rfl H1.out _ m _ (ptrs qs) rfl H3.out (by first | (simp [ptrs]; done) | (simp [ptrs]; omega)) (by intro u hu; obtain ⟨x, _, rfl⟩ := List.mem_map.1 hu; rfl) (by omega) (by omega) (Nat.le_trans hBs (Nat.le_refl _)) ?_; intro v10_w1 w1 ho1 hg1 hat1
       have hx := GrX.row (S := fun k => (.slice A l.length c : Value).ownBlock = some k) hg1 (fun g h => h)
       have gf_w1 := Lib.hid (H0.out.grx hx (own_ne H1.out H0.out (by decide)))
       have p2_w1 := Lib.hid (Pl.map H2.out fun _ _ q => RepAt.ap q hx (SApart.own H1.out (by decide)))
       have p4q_w1 := Lib.hid (Pl.map H4.out fun _ _ q => RepAt.ap q hx (SApart.own H1.out (by decide)))
       have B_w1 : Hid (GrX (fun k => k = gf ∨ (.slice A l.length c : Value).ownBlock = some k) w w1) := GrX.trans' (GrX.refl _ _) hx (fun k hk hlt => (fun e => .inr (fos_p1 k e hlt)) hk)
       obtain ⟨A10_w1, c10_w1, rfl, _⟩ := own_form ho1
       have p1_w1 := Lib.hid ho1
       have fos_p1 := FoS.app fos_p1 hat1 (Nat.le_refl _)
       clear ho1 hg1 hat1 hx)
    | (refine ev_store1 rfl 216 _ _ rfl gf 1 _ rfl (.slice A10_w1 (l.length + m) c10_w1) rfl 218 gf_w1.out tsz216 (by simp) rfl rfl ?_; intro w2 hB hg hz
       have hx := GrX.grown (S := fun k => k = gf) hg rfl
       have p1_w2 := Lib.hid (own_grx p1_w1.out hx (fun k hk => (fun e => own_ne p1_w1.out gf_w1.out (by decide) (e ▸ hk))))
       have p2_w2 := Lib.hid (Pl.map p2_w1.out fun _ _ q => RepAt.ap q hx (SApart.blk gf_w1.out (by decide)))
       have p4q_w2 := Lib.hid (Pl.map p4q_w1.out fun _ _ q => RepAt.ap q hx (SApart.blk gf_w1.out (by decide)))
       have B_w2 : Hid (GrX (fun k => k = gf ∨ (.slice A l.length c : Value).ownBlock = some k) w w2) := GrX.trans' B_w1.out hx (fun k hk hlt => (fun e => .inl e) hk)
       clear hx
       have gf_w2 : Hid (Blk w2 gf 218 #[.string ⟨#[118, 49]⟩, .slice A10_w1 (l.length + m) c10_w1]) := hB
       clear hB hg hz))
  first | refine bodyPost_end (v := .tuple #[]) (results_none Try.results138 _ _ _) rfl ?_ | refine bodyPost_ret (v := .tuple #[]) (results_none Try.results138 _ _ _) rfl ?_
  exact HQ.out _ _ ⟨A10_w1, c10_w1, (ps ++ qs), rfl, gf_w2.out, (by rw [ptrs_append]; exact p1_w2.out), (Pl.append p2_w2.out p4q_w2.out), (by first | exact fos_p1 | (simp at *; exact fos_p1) | (simp [*]; done) | (simp [*]; exact fos_p1)), B_w2.out⟩
set_option maxRecDepth 100000 in
set_option maxHeartbeats 4000000 in
theorem rUpd_any (gf : Nat) (A : Option Addr) (c : Nat) (ps : List Nat) (l : List Ty52) (Bs : Nat) (x : Ty52) (ge : Nat) (w : World) (h0 : Blk w (gf) 218 #[.string ⟨#[118, 49]⟩, .slice A l.length c]) (h1 : World.ownsRow w (Bs) 219 1 (.slice A l.length c) (l.length) (ptrs ps)) (h2 : Pl RepAt w (ps) (l)) (h3 : RepAt x ge w) (hBs : Bs ≤ w.heap.size) (hn : l.length ≤ 1000000) :
    Calls Try.prog 191 #[.pointer (some ⟨gf, 0, none⟩), .pointer (some ⟨ge, 0, none⟩)] w fun e w' => ∃ A2 : Option Addr, ∃ c2 : Nat, ∃ ps2 : List Nat, e = .returned (.tuple #[]) ∧ Blk w' (gf) 218 #[.string ⟨#[118, 49]⟩, .slice A2 ((updF l x).length) c2] ∧ World.ownsRow w' (Bs) 219 1 (.slice A2 ((updF l x).length) c2) ((updF l x).length) (ptrs ps2) ∧ Pl RepAt w' ps2 (updF l x) ∧ FoS w (.slice A l.length c) (.slice A2 ((updF l x).length) c2) ∧ GrX (fun k => k = gf ∨ (.slice A l.length c : Value).ownBlock = some k) w w' := by
  have hlo_1 : l.length ≤ 9223372036854775807 := own_max1 h1
  have hlp_2 := h2.1
  have H0 := Lib.hid h0
  clear h0
  have H1 := Lib.hid h1
  clear h1
  have fos_p1 : FoS w (.slice A l.length c) (.slice A l.length c) := FoS.refl
  have H2 := Lib.hid h2
  clear h2
  have H3 := Lib.hid h3
  clear h3
  suffices hQ : ∀ Q : Ending → World → Prop, Hid (∀ (e : Ending) (w' : World), (∃ A2 : Option Addr, ∃ c2 : Nat, ∃ ps2 : List Nat, e = .returned (.tuple #[]) ∧ Blk w' (gf) 218 #[.string ⟨#[118, 49]⟩, .slice A2 ((updF l x).length) c2] ∧ World.ownsRow w' (Bs) 219 1 (.slice A2 ((updF l x).length) c2) ((updF l x).length) (ptrs ps2) ∧ Pl RepAt w' ps2 (updF l x) ∧ FoS w (.slice A l.length c) (.slice A2 ((updF l x).length) c2) ∧ GrX (fun k => k = gf ∨ (.slice A l.length c : Value).ownBlock = some k) w w') → Post1 Q e w') → Calls Try.prog 191 #[.pointer (some ⟨gf, 0, none⟩), .pointer (some ⟨ge, 0, none⟩)] w (fun e w' => Post1 Q e w') from hQ (fun e w' => ∃ A2 : Option Addr, ∃ c2 : Nat, ∃ ps2 : List Nat, e = .returned (.tuple #[]) ∧ Blk w' (gf) 218 #[.string ⟨#[118, 49]⟩, .slice A2 ((updF l x).length) c2] ∧ World.ownsRow w' (Bs) 219 1 (.slice A2 ((updF l x).length) c2) ((updF l x).length) (ptrs ps2) ∧ Pl RepAt w' ps2 (updF l x) ∧ FoS w (.slice A l.length c) (.slice A2 ((updF l x).length) c2) ∧ GrX (fun k => k = gf ∨ (.slice A l.length c : Value).ownBlock = some k) w w') (fun _ _ h => by unfold Post1; exact h)
  intro Q HQ
  go_enter Try.func191, Try.ntmps191
  go_wp2_with (first
    | ((with_reducible refine at_dst (N := 9) rfl ?_); refine ev_ld rfl 216 _ rfl ⟨gf, 1, none⟩ rfl (.slice A l.length c) (H0.out.cell 1) _ Try.underlying216 rfl ?_))
  go_loopw [11] (fun v11 wr => ∃ k : Nat, (k ≤ l.length) ∧ v11 = .int .i64 (↑k) ∧ Hid ((l.take k).any (sameN x.fName) = false) ∧ Hid (Blk wr gf 218 #[.string ⟨#[118, 49]⟩, .slice A l.length c]) ∧ Hid (World.ownsRow wr Bs 219 1 (.slice A l.length c) l.length (ptrs ps)) ∧ Hid (Pl RepAt wr ps l) ∧ Hid (Blk wr ge 221 #[.string x.fName, .string x.fURL]) ∧ Hid (GrX (fun k => k = gf ∨ (.slice A l.length c : Value).ownBlock = some k) w wr)) (fun v11 _ => l.length - (intOf v11).toNat)
  case atStart => exact ⟨0, (by omega), rfl, rfl, H0, H1, H2, H3, (GrX.refl _ _)⟩
  case round =>
    obtain ⟨k, hk, rfl, L0_none, L0_gf, L0_p1, L0_pl, L0_ge, L0_B⟩ := hrel
    by_cases hlt_k : k < l.length
    · obtain ⟨hkp, hR⟩ := Pl.get L0_pl.out hlt_k
      have hG := Lib.hid hR
      clear hR
      obtain ⟨gm_p1, cur_gm_p1, rfl, hgm_gm_p1, hb_gm_p1, hl_gm_p1, hq_gm_p1, hk_gm_p1⟩ := own_open L0_p1.out hlt_k
      have HB_gm_p1 := Lib.hid hb_gm_p1
      have HK_gm_p1 := Lib.hid hk_gm_p1
      have HQ_gm_p1 := Lib.hid hq_gm_p1
      clear hb_gm_p1 hk_gm_p1 hq_gm_p1
      go_upto_region 3 with (first
        | ((with_reducible refine at_dst (N := 15) rfl ?_); refine ev_ld rfl 219 _ rfl ⟨gm_p1, k, none⟩ rfl (.pointer (some ⟨ps[k], 0, none⟩)) ((HB_gm_p1.out.cell k).trans (HQ_gm_p1.out.trans (ptrs_get hkp))) _ Try.underlying219 rfl ?_))
      have q19_3 : wr.cell? ⟨ps[k], 0, none⟩ = some (.string l[k].fName) := hG.out.cell 0
      have q23_3 : wr.cell? ⟨ge, 0, none⟩ = some (.string x.fName) := L0_ge.out.cell 0
      go_region
      clear q19_3 q23_3
      have L0_gfd := Lib.hid (show Blk wr.drew gf 218 #[.string ⟨#[118, 49]⟩, .slice (some ⟨gm_p1, 0, none⟩) l.length c] from L0_gf.out)
      have L0_p1d := Lib.hid (show World.ownsRow wr.drew Bs 219 1 (.slice (some ⟨gm_p1, 0, none⟩) l.length c) l.length (ptrs ps) from L0_p1.out)
      have L0_pld := Lib.hid (show Pl RepAt wr.drew ps l from L0_pl.out)
      have L0_ged := Lib.hid (show Blk wr.drew ge 221 #[.string x.fName, .string x.fURL] from L0_ge.out)
      have hGd := Lib.hid (show Blk wr.drew ps[k] 221 #[.string l[k].fName, .string l[k].fURL] from hG.out)
      have HB_gm_p1 := Lib.hid (show Blk wr.drew gm_p1 219 cur_gm_p1 from HB_gm_p1.out)
      have L0_Bd := Lib.hid L0_B.out.drew
      cases hc1 : (l[k].fName.toList == x.fName.toList)
      · have hc1' : (l[k].fName.toList != x.fName.toList) = true := by rw [bne, hc1]; rfl
        go_wp2_with fail
        refine ⟨⟨k + 1, (by omega), by go_num, by show _ = _; rw [any_take hlt_k, L0_none.out]; simp only [sameN, hc1, Bool.or_false], L0_gfd, L0_p1d, L0_pld, L0_ged, L0_Bd.out⟩, ?_⟩
        simp [intOf]; omega
      · have hc1' : (l[k].fName.toList != x.fName.toList) = false := by rw [bne, hc1]; rfl
        go_wp2_with (first
          | ((with_reducible refine at_dst (N := 28) rfl ?_); refine ev_ld rfl 216 _ rfl ⟨gf, 1, none⟩ rfl (.slice (some ⟨gm_p1, 0, none⟩) l.length c) (L0_gfd.out.cell 1) _ Try.underlying216 rfl ?_)
          | (refine ev_store1 rfl 219 _ _ rfl gm_p1 k _ rfl (.pointer (some ⟨ge, 0, none⟩)) rfl 219 HB_gm_p1.out tsz219 hl_gm_p1 rfl rfl ?_; intro w1 hB hg hz
             have hx := GrX.grown (S := fun k => (.slice (some ⟨gm_p1, 0, none⟩) l.length c : Value).ownBlock = some k) hg rfl
             have gf_w1 := Lib.hid (L0_gfd.out.grx hx (own_ne L0_p1d.out L0_gfd.out (by decide)))
             have pl_w1 := Lib.hid (Pl.map L0_pld.out fun _ _ q => RepAt.ap q hx (SApart.own L0_p1d.out (by decide)))
             have ge_w1 := Lib.hid (L0_ged.out.grx hx (own_ne L0_p1d.out L0_ged.out (by decide)))
             have ps_k__w1 := Lib.hid (hGd.out.grx hx (own_ne L0_p1d.out hGd.out (by decide)))
             have B_w1 : Hid (GrX (fun k => k = gf ∨ (.slice (some ⟨gm_p1, 0, none⟩) l.length c : Value).ownBlock = some k) w w1) := GrX.trans' L0_Bd.out hx (fun k hk hlt => (fun e => .inr (fos_p1 k e hlt)) hk)
             have p1_w1 := Lib.hid (HK_gm_p1.out _ _ hB)
             clear hB hg hz hx))
        have hu : updF l x = l.set k x := updF_at hlt_k L0_none.out (by simp only [sameN, hc1])
        first | refine bodyPost_end (v := .tuple #[]) (results_none Try.results191 _ _ _) rfl ?_ | refine bodyPost_ret (v := .tuple #[]) (results_none Try.results191 _ _ _) rfl ?_
        exact HQ.out _ _ ⟨(some ⟨gm_p1, 0, none⟩), c, (ps.set k ge), rfl, (by rw [hu, List.length_set]; exact gf_w1.out), (by rw [hu, List.length_set, ptrs_set]; exact p1_w1.out), (by rw [hu]; exact Pl.set pl_w1.out ge_w1.out), (by first | exact fos_p1 | (simp at *; exact fos_p1) | (simp [*]; done) | (simp [*]; exact fos_p1)), B_w1.out⟩
    · obtain rfl : k = l.length := by omega
      rw [List.take_length] at L0_none
      go_wp2_with (first
        | ((with_reducible refine at_dst (N := 35) rfl ?_); refine ev_bs rfl 216 219 1 _ rfl #[.pointer (some ⟨ge, 0, none⟩)] (by go_simp) ?_; intro g35 w1 hg hB hb
           have n_gf_g35 : gf ≠ g35 := by have := L0_gf.out.lt; omega
           have nr_p1_g35 := own_fresh' L0_p1.out hg
           have n_ge_g35 : ge ≠ g35 := by have := L0_ge.out.lt; omega
           have low_g35 := Nat.le_trans L0_B.out.size hg
           have gf_w1 := Lib.hid (L0_gf.out.below hb)
           have p1_w1 := Lib.hid (own_below L0_p1.out hb)
           have pl_w1 := Lib.hid (Pl.map L0_pl.out fun _ _ q => RepAt.below q hb)
           have ge_w1 := Lib.hid (L0_ge.out.below hb)
           have B_w1 : Hid (GrX (fun k => k = gf ∨ (.slice A l.length c : Value).ownBlock = some k) w w1) := GrX.trans L0_B.out (GrX.below hb)
           have g35_w1 : Hid (Blk w1 g35 219 #[.pointer (some ⟨ge, 0, none⟩)]) := hB
           clear hB hb)
        | (go_at_call 138; (with_reducible refine (rAdd_any gf A c ps l Bs (some ⟨g35, 0, none⟩) 1 1 ([ge]) ([x]) _ gf_w1.out p1_w1.out pl_w1.out (Lib.hid (sl_one g35_w1.out)).out (Lib.hid (pl_one (At := RepAt) ge_w1.out)).out (Nat.le_trans hBs B_w1.out.size) (by first | assumption | omega | (simp; done)) (by first | omega | (simp; done) | (simp; omega)) (by first | omega | (simp; done) | (simp; omega))).mono ?_); rintro e w2 ⟨A236, c236, ps236, rfl, hp0_36, hp1_36, hp2_36, hf1_36, hb⟩
           have ge_w2 := Lib.hid (ge_w1.out.grx hb (fun e => e.elim (fun e => Blk.apart ge_w1.out gf_w1.out (by decide) e) (own_ne p1_w1.out ge_w1.out (by decide))))
           have g35_w2 := Lib.hid (g35_w1.out.grx hb (fun e => e.elim (fun e => n_gf_g35.symm e) nr_p1_g35))
           have one_w2 := Lib.hid (Pl.map (Lib.hid (pl_one (At := RepAt) ge_w1.out)).out fun _ _ q => RepAt.ap q hb (SApart.or (SApart.blk gf_w1.out (by decide)) (SApart.own p1_w1.out (by decide))))
           have B_w2 : Hid (GrX (fun k => k = gf ∨ (.slice A l.length c : Value).ownBlock = some k) w w2) := GrX.trans' B_w1.out hb (fun k hk hlt => (fun e => e.elim (fun e => .inl e) (fun e => .inr (fos_p1 k e hlt))) hk)
           have gf_w2 := Lib.hid hp0_36
           have p1_w2 := Lib.hid hp1_36
           have pl_w2 := Lib.hid hp2_36
           have nr_p1_g35 := FoS.nr hf1_36 nr_p1_g35 g35_w1.out.lt
           have fos_p1 := FoS.trans fos_p1 hf1_36 B_w1.out.size
           clear hb hp0_36 hp1_36 hp2_36 hf1_36))
      have hu : updF l x = l ++ [x] := updF_none L0_none.out
      first | refine bodyPost_end (v := .tuple #[]) (results_none Try.results191 _ _ _) rfl ?_ | refine bodyPost_ret (v := .tuple #[]) (results_none Try.results191 _ _ _) rfl ?_
      exact HQ.out _ _ ⟨A236, c236, ps236, rfl, (by rw [hu, List.length_append]; exact gf_w2.out), (by rw [hu, List.length_append]; exact p1_w2.out), (by rw [hu]; exact pl_w2.out), (by first | exact fos_p1 | (simp at *; exact fos_p1) | (simp [*]; done) | (simp [*]; exact fos_p1)), B_w2.out⟩
theorem foldU_len (rs l : List Ty52) : (rs.foldl updF l).length ≤ l.length + rs.length := by
  induction rs generalizing l with
  | nil => simp
  | cons r rs ih =>
    simp only [List.foldl_cons, List.length_cons]
    have h1 := ih (updF l r)
    have h2 := updF_len l r
    omega
theorem foldU_take {rs l : List Ty52} {k : Nat} (h : k < rs.length) : (rs.take (k + 1)).foldl updF l = updF ((rs.take k).foldl updF l) rs[k] := by rw [take_snoc h, List.foldl_append]; rfl
set_option maxRecDepth 100000 in
set_option maxHeartbeats 4000000 in
theorem rUpdate_any (gf : Nat) (A : Option Addr) (c : Nat) (ps : List Nat) (l : List Ty52) (Bs : Nat) (B : Option Addr) (m : Nat) (d : Nat) (qs : List Nat) (rs : List Ty52) (Br : Nat) (w : World) (h0 : Blk w (gf) 218 #[.string ⟨#[118, 49]⟩, .slice A l.length c]) (h1 : World.ownsRow w (Bs) 219 1 (.slice A l.length c) (l.length) (ptrs ps)) (h2 : Pl RepAt w (ps) (l)) (h3 : World.ownsRow w (Br) 219 1 (.slice B m d) (m) (ptrs qs)) (h4 : Pl RepAt w (qs) (rs)) (hBs : Bs ≤ w.heap.size) (hml : rs.length = m) (hn : l.length + m ≤ 1000000) (hoo : ∀ k, (Value.slice A l.length c).ownBlock = some k → (Value.slice B m d).ownBlock ≠ some k) :
    Calls Try.prog 139 #[.pointer (some ⟨gf, 0, none⟩), .slice (B) (m) (d)] w fun e w' => ∃ A2 : Option Addr, ∃ c2 : Nat, ∃ ps2 : List Nat, e = .returned (.tuple #[]) ∧ Blk w' (gf) 218 #[.string ⟨#[118, 49]⟩, .slice A2 ((rs.foldl updF l).length) c2] ∧ World.ownsRow w' (Bs) 219 1 (.slice A2 ((rs.foldl updF l).length) c2) ((rs.foldl updF l).length) (ptrs ps2) ∧ Pl RepAt w' ps2 (rs.foldl updF l) ∧ FoS w (.slice A l.length c) (.slice A2 ((rs.foldl updF l).length) c2) ∧ GrX (fun k => k = gf ∨ (.slice A l.length c : Value).ownBlock = some k) w w' := by
  have hlo_1 : l.length ≤ 9223372036854775807 := own_max1 h1
  have hlp_2 := h2.1
  have hlo_3 : m ≤ 9223372036854775807 := own_max1 h3
  have hlp_4 := h4.1
  have H0 := Lib.hid h0
  clear h0
  have H1 := Lib.hid h1
  clear h1
  have fos_p1 : FoS w (.slice A l.length c) (.slice A l.length c) := FoS.refl
  have H2 := Lib.hid h2
  clear h2
  have H3 := Lib.hid h3
  clear h3
  have H4 := Lib.hid h4
  clear h4
  suffices hQ : ∀ Q : Ending → World → Prop, Hid (∀ (e : Ending) (w' : World), (∃ A2 : Option Addr, ∃ c2 : Nat, ∃ ps2 : List Nat, e = .returned (.tuple #[]) ∧ Blk w' (gf) 218 #[.string ⟨#[118, 49]⟩, .slice A2 ((rs.foldl updF l).length) c2] ∧ World.ownsRow w' (Bs) 219 1 (.slice A2 ((rs.foldl updF l).length) c2) ((rs.foldl updF l).length) (ptrs ps2) ∧ Pl RepAt w' ps2 (rs.foldl updF l) ∧ FoS w (.slice A l.length c) (.slice A2 ((rs.foldl updF l).length) c2) ∧ GrX (fun k => k = gf ∨ (.slice A l.length c : Value).ownBlock = some k) w w') → Post1 Q e w') → Calls Try.prog 139 #[.pointer (some ⟨gf, 0, none⟩), .slice (B) (m) (d)] w (fun e w' => Post1 Q e w') from hQ (fun e w' => ∃ A2 : Option Addr, ∃ c2 : Nat, ∃ ps2 : List Nat, e = .returned (.tuple #[]) ∧ Blk w' (gf) 218 #[.string ⟨#[118, 49]⟩, .slice A2 ((rs.foldl updF l).length) c2] ∧ World.ownsRow w' (Bs) 219 1 (.slice A2 ((rs.foldl updF l).length) c2) ((rs.foldl updF l).length) (ptrs ps2) ∧ Pl RepAt w' ps2 (rs.foldl updF l) ∧ FoS w (.slice A l.length c) (.slice A2 ((rs.foldl updF l).length) c2) ∧ GrX (fun k => k = gf ∨ (.slice A l.length c : Value).ownBlock = some k) w w') (fun _ _ h => by unfold Post1; exact h)
  intro Q HQ
  go_enter Try.func139, Try.ntmps139
  go_wp2_with fail
  go_loopw [8] (fun v8 wr => ∃ k : Nat, ∃ A1 : Option Addr, ∃ c1 : Nat, ∃ ps1 : List Nat, (k ≤ m) ∧ (∀ k1, (Value.slice A1 ((rs.take k).foldl updF l).length c1).ownBlock = some k1 → (Value.slice B m d).ownBlock ≠ some k1) ∧ (FoS w (.slice A l.length c) (.slice A1 ((rs.take k).foldl updF l).length c1)) ∧ v8 = .int .i64 (↑k) ∧ Hid (Blk wr gf 218 #[.string ⟨#[118, 49]⟩, .slice A1 ((rs.take k).foldl updF l).length c1]) ∧ Hid (World.ownsRow wr Bs 219 1 (.slice A1 ((rs.take k).foldl updF l).length c1) (((rs.take k).foldl updF l).length) (ptrs ps1)) ∧ Hid (Pl RepAt wr ps1 ((rs.take k).foldl updF l)) ∧ Hid (World.ownsRow wr Br 219 1 (.slice B m d) m (ptrs qs)) ∧ Hid (Pl RepAt wr qs rs) ∧ Hid (GrX (fun k => k = gf ∨ (.slice A l.length c : Value).ownBlock = some k) w wr)) (fun v8 _ => m - (intOf v8).toNat)
  case atStart => exact ⟨0, A, c, ps, (by omega), hoo, fos_p1, rfl, H0, H1, H2, H3, H4, (GrX.refl _ _)⟩
  case round =>
    obtain ⟨k, A1, c1, ps1, hk, oo_p1_r, fos_p1, rfl, L0_gf, L0_p1, L0_pl, L0_r, L0_plr, L0_B⟩ := hrel
    by_cases hlt_k : k < m
    · obtain ⟨ad_k, rfl⟩ := (own_sl1 L0_r.out (by first | omega | (simp; omega))).addr (by simp [strs, ptrs]; omega)
      have hkr : k < rs.length := by omega
      have hlu := foldU_len (rs.take k) l
      have htk : (rs.take k).length ≤ k := List.length_take_le k rs
      obtain ⟨hkp, hR⟩ := Pl.get L0_plr.out hkr
      have hG := Lib.hid hR
      clear hR
      go_wp2_with (first
        | ((with_reducible refine at_dst (N := 11) rfl ?_); refine ev_ld rfl 219 _ rfl _ rfl (.pointer (some ⟨qs[k], 0, none⟩)) ((own_sl1 L0_r.out (by first | omega | (simp; omega))).el (j := k) (ptrs_get hkp)) _ Try.underlying219 rfl ?_)
        | (go_at_call 191; (with_reducible refine (rUpd_any gf A1 c1 ps1 ((rs.take k).foldl updF l) Bs rs[k] qs[k] _ L0_gf.out L0_p1.out L0_pl.out hG.out (Nat.le_trans hBs L0_B.out.size) (by first | omega | (simp; done) | (simp; omega))).mono ?_); rintro e w1 ⟨A214, c214, ps214, rfl, hp0_14, hp1_14, hp2_14, hf1_14, hb⟩
           have r_w1 := Lib.hid (own_grx L0_r.out hb (fun k hk => (fun e => e.elim (fun e => own_ne L0_r.out L0_gf.out (by decide) (e ▸ hk)) (fun e => oo_p1_r k e hk))))
           have plr_w1 := Lib.hid (Pl.map L0_plr.out fun _ _ q => RepAt.ap q hb (SApart.or (SApart.blk L0_gf.out (by decide)) (SApart.own L0_p1.out (by decide))))
           have el_w1 := Lib.hid (RepAt.ap hG.out hb (SApart.or (SApart.blk L0_gf.out (by decide)) (SApart.own L0_p1.out (by decide))))
           have B_w1 : Hid (GrX (fun k => k = gf ∨ (.slice A l.length c : Value).ownBlock = some k) w w1) := GrX.trans' L0_B.out hb (fun k hk hlt => (fun e => e.elim (fun e => .inl e) (fun e => .inr (fos_p1 k e hlt))) hk)
           have gf_w1 := Lib.hid hp0_14
           have p1_w1 := Lib.hid hp1_14
           have pl_w1 := Lib.hid hp2_14
           have oo_p1_r := FoS.oo hf1_14 oo_p1_r L0_r.out
           have fos_p1 := FoS.trans fos_p1 hf1_14 L0_B.out.size
           clear hb hp0_14 hp1_14 hp2_14 hf1_14))
      refine ⟨⟨k + 1, A214, c214, ps214, (by omega), (by rw [foldU_take hkr]; exact oo_p1_r), (by rw [foldU_take hkr]; exact fos_p1), by go_num, (by show Blk _ _ _ _; rw [foldU_take hkr]; exact gf_w1.out), (by show World.ownsRow _ _ _ _ _ _ _; rw [foldU_take hkr]; exact p1_w1.out), (by show Pl _ _ _ _; rw [foldU_take hkr]; exact pl_w1.out), r_w1, plr_w1, B_w1.out⟩, ?_⟩
      simp [intOf]; omega
    · obtain rfl : m = k := by omega
      have hall : (rs.take m) = rs := List.take_of_length_le (by omega)
      rw [hall] at L0_gf L0_p1 L0_pl fos_p1
      go_wp2_with fail
      first | refine bodyPost_end (v := .tuple #[]) (results_none Try.results139 _ _ _) rfl ?_ | refine bodyPost_ret (v := .tuple #[]) (results_none Try.results139 _ _ _) rfl ?_
      exact HQ.out _ _ ⟨A1, c1, ps1, rfl, L0_gf.out, L0_p1.out, L0_pl.out, (by first | exact fos_p1 | (simp at *; exact fos_p1) | (simp [*]; done) | (simp [*]; exact fos_p1)), L0_B.out⟩
end Go.Proofs.Ytkjcedlgljeoiaa
