/- Lists of repositories: Get, Has, Remove, told. -/
import Derived.Test.YtkjcedlgljeoiaaRP1
namespace Go.Proofs.Ytkjcedlgljeoiaa
open Go.RowKit Go.Lib
set_option linter.unusedVariables false
set_option linter.unusedSimpArgs false
theorem find_none {l : List Ty52} {s : ByteArray} (h : l.any (sameN s) = false) : l.find? (sameN s) = none := by
  rw [List.find?_eq_none]
  intro x hx
  rw [List.any_eq_false] at h
  exact h x hx
theorem find_at {l : List Ty52} {s : ByteArray} {k : Nat} (hk : k < l.length) (h : (l.take k).any (sameN s) = false) (e : sameN s l[k] = true) : l.find? (sameN s) = some l[k] := by
  induction l generalizing k with
  | nil => simp at hk
  | cons y ys ih =>
    cases k with
    | zero => simp only [List.getElem_cons_zero] at e; simp [e]
    | succ k =>
      simp only [List.take_succ_cons, List.any_cons, Bool.or_eq_false_iff] at h
      simp only [List.getElem_cons_succ] at e
      rw [List.find?_cons_of_neg (by rw [h.1]; decide), ih (by simpa using hk) h.2 e]
      simp
theorem find_any {l : List Ty52} {s : ByteArray} : (l.find? (sameN s)).isSome = l.any (sameN s) := by
  cases h : l.any (sameN s)
  · rw [find_none h]; rfl
  · rw [List.find?_isSome]; exact List.any_eq_true.1 h
set_option maxRecDepth 100000 in
set_option maxHeartbeats 4000000 in
theorem rGet_none (gf : Nat) (A : Option Addr) (c : Nat) (ps : List Nat) (l : List Ty52) (Bs : Nat) (s : ByteArray) (w : World) (h0 : Blk w (gf) 218 #[.string ⟨#[118, 49]⟩, .slice A l.length c]) (h1 : World.ownsRow w (Bs) 219 1 (.slice A l.length c) (l.length) (ptrs ps)) (h2 : Pl RepAt w (ps) (l)) (hno : l.any (sameN s) = false) :
    Calls Try.prog 141 #[.pointer (some ⟨gf, 0, none⟩), .string s] w fun e w' => e = .returned (.pointer none) ∧ Below w.heap.size w w' := by
  have hlo_1 : l.length ≤ 9223372036854775807 := own_max1 h1
  have hlp_2 := h2.1
  have H0 := Lib.hid h0
  clear h0
  have H1 := Lib.hid h1
  clear h1
  have H2 := Lib.hid h2
  clear h2
  suffices hQ : ∀ Q : Ending → World → Prop, Hid (∀ (e : Ending) (w' : World), (e = .returned (.pointer none) ∧ Below w.heap.size w w') → Post1 Q e w') → Calls Try.prog 141 #[.pointer (some ⟨gf, 0, none⟩), .string s] w (fun e w' => Post1 Q e w') from hQ (fun e w' => e = .returned (.pointer none) ∧ Below w.heap.size w w') (fun _ _ h => by unfold Post1; exact h)
  intro Q HQ
  go_enter Try.func141, Try.ntmps141
  go_wp2_with (first
    | ((with_reducible refine at_dst (N := 10) rfl ?_); refine ev_ld rfl 216 _ rfl ⟨gf, 1, none⟩ rfl (.slice A l.length c) (H0.out.cell 1) _ Try.underlying216 rfl ?_))
  go_loopw [12] (fun v12 wr => ∃ k : Nat, (k ≤ l.length) ∧ v12 = .int .i64 (↑k) ∧ Hid ((l.take k).any (sameN s) = false) ∧ Hid (World.ownsRow wr Bs 219 1 (.slice A l.length c) l.length (ptrs ps)) ∧ Hid (Below w.heap.size w wr)) (fun v12 _ => l.length - (intOf v12).toNat)
  case atStart => exact ⟨0, (by omega), rfl, rfl, H1, (Below.refl _ _)⟩
  case round =>
    obtain ⟨k, hk, rfl, L0_none, L0_p1, L0_B⟩ := hrel
    by_cases hlt_k : k < l.length
    · obtain ⟨ad_k, rfl⟩ := (own_sl1 L0_p1.out (by first | omega | (simp; omega))).addr (by simp [strs, ptrs]; omega)
      obtain ⟨hkp, hR⟩ := Pl.get (Pl.map H2.out fun _ _ q => RepAt.below q L0_B.out) hlt_k
      have hG := Lib.hid hR
      clear hR
      cases hc1 : (l[k].fName.toList == s.toList)
      · have hc1' : (l[k].fName.toList != s.toList) = true := by rw [bne, hc1]; rfl
        go_wp2_with (first
          | ((with_reducible refine at_dst (N := 15) rfl ?_); refine ev_ld rfl 219 _ rfl _ rfl (.pointer (some ⟨ps[k], 0, none⟩)) ((own_sl1 L0_p1.out (by first | omega | (simp; omega))).el (j := k) (ptrs_get hkp)) _ Try.underlying219 rfl ?_)
          | ((with_reducible refine at_dst (N := 19) rfl ?_); refine ev_ld rfl 9 _ rfl ⟨ps[k], 0, none⟩ rfl (.string l[k].fName) (hG.out.cell 0) _ Try.underlying9 rfl ?_))
        refine ⟨⟨k + 1, (by omega), by go_num, by show _ = _; rw [any_take hlt_k, L0_none.out]; simp only [sameN, hc1, Bool.or_false], L0_p1, L0_B⟩, ?_⟩
        simp [intOf]; omega
      · have hc1' : (l[k].fName.toList != s.toList) = false := by rw [bne, hc1]; rfl
        go_wp2_with (first
          | ((with_reducible refine at_dst (N := 15) rfl ?_); refine ev_ld rfl 219 _ rfl _ rfl (.pointer (some ⟨ps[k], 0, none⟩)) ((own_sl1 L0_p1.out (by first | omega | (simp; omega))).el (j := k) (ptrs_get hkp)) _ Try.underlying219 rfl ?_)
          | ((with_reducible refine at_dst (N := 19) rfl ?_); refine ev_ld rfl 9 _ rfl ⟨ps[k], 0, none⟩ rfl (.string l[k].fName) (hG.out.cell 0) _ Try.underlying9 rfl ?_))
        exact absurd (any_at (p := sameN s) hlt_k (by simp only [sameN, hc1])) (by rw [hno]; decide)
    · obtain rfl : k = l.length := by omega
      rw [List.take_length] at L0_none
      go_wp2_with fail
      go_ret
      exact HQ.out _ _ ⟨rfl, L0_B.out⟩
set_option maxRecDepth 100000 in
set_option maxHeartbeats 4000000 in
theorem rGet_some (gf : Nat) (A : Option Addr) (c : Nat) (ps : List Nat) (l : List Ty52) (Bs : Nat) (s : ByteArray) (x : Ty52) (w : World) (h0 : Blk w (gf) 218 #[.string ⟨#[118, 49]⟩, .slice A l.length c]) (h1 : World.ownsRow w (Bs) 219 1 (.slice A l.length c) (l.length) (ptrs ps)) (h2 : Pl RepAt w (ps) (l)) (hno : l.find? (sameN s) = some x) :
    Calls Try.prog 141 #[.pointer (some ⟨gf, 0, none⟩), .string s] w fun e w' => ∃ gq : Nat, e = .returned (.pointer (some ⟨gq, 0, none⟩)) ∧ RepAt x gq w' ∧ Below w.heap.size w w' := by
  have hlo_1 : l.length ≤ 9223372036854775807 := own_max1 h1
  have hlp_2 := h2.1
  have H0 := Lib.hid h0
  clear h0
  have H1 := Lib.hid h1
  clear h1
  have H2 := Lib.hid h2
  clear h2
  suffices hQ : ∀ Q : Ending → World → Prop, Hid (∀ (e : Ending) (w' : World), (∃ gq : Nat, e = .returned (.pointer (some ⟨gq, 0, none⟩)) ∧ RepAt x gq w' ∧ Below w.heap.size w w') → Post1 Q e w') → Calls Try.prog 141 #[.pointer (some ⟨gf, 0, none⟩), .string s] w (fun e w' => Post1 Q e w') from hQ (fun e w' => ∃ gq : Nat, e = .returned (.pointer (some ⟨gq, 0, none⟩)) ∧ RepAt x gq w' ∧ Below w.heap.size w w') (fun _ _ h => by unfold Post1; exact h)
  intro Q HQ
  go_enter Try.func141, Try.ntmps141
  go_wp2_with (first
    | ((with_reducible refine at_dst (N := 10) rfl ?_); refine ev_ld rfl 216 _ rfl ⟨gf, 1, none⟩ rfl (.slice A l.length c) (H0.out.cell 1) _ Try.underlying216 rfl ?_))
  go_loopw [12] (fun v12 wr => ∃ k : Nat, (k ≤ l.length) ∧ v12 = .int .i64 (↑k) ∧ Hid ((l.take k).any (sameN s) = false) ∧ Hid (World.ownsRow wr Bs 219 1 (.slice A l.length c) l.length (ptrs ps)) ∧ Hid (Below w.heap.size w wr)) (fun v12 _ => l.length - (intOf v12).toNat)
  case atStart => exact ⟨0, (by omega), rfl, rfl, H1, (Below.refl _ _)⟩
  case round =>
    obtain ⟨k, hk, rfl, L0_none, L0_p1, L0_B⟩ := hrel
    by_cases hlt_k : k < l.length
    · obtain ⟨ad_k, rfl⟩ := (own_sl1 L0_p1.out (by first | omega | (simp; omega))).addr (by simp [strs, ptrs]; omega)
      obtain ⟨hkp, hR⟩ := Pl.get (Pl.map H2.out fun _ _ q => RepAt.below q L0_B.out) hlt_k
      have hG := Lib.hid hR
      clear hR
      cases hc1 : (l[k].fName.toList == s.toList)
      · have hc1' : (l[k].fName.toList != s.toList) = true := by rw [bne, hc1]; rfl
        go_wp2_with (first
          | ((with_reducible refine at_dst (N := 15) rfl ?_); refine ev_ld rfl 219 _ rfl _ rfl (.pointer (some ⟨ps[k], 0, none⟩)) ((own_sl1 L0_p1.out (by first | omega | (simp; omega))).el (j := k) (ptrs_get hkp)) _ Try.underlying219 rfl ?_)
          | ((with_reducible refine at_dst (N := 19) rfl ?_); refine ev_ld rfl 9 _ rfl ⟨ps[k], 0, none⟩ rfl (.string l[k].fName) (hG.out.cell 0) _ Try.underlying9 rfl ?_))
        refine ⟨⟨k + 1, (by omega), by go_num, by show _ = _; rw [any_take hlt_k, L0_none.out]; simp only [sameN, hc1, Bool.or_false], L0_p1, L0_B⟩, ?_⟩
        simp [intOf]; omega
      · have hc1' : (l[k].fName.toList != s.toList) = false := by rw [bne, hc1]; rfl
        go_wp2_with (first
          | ((with_reducible refine at_dst (N := 15) rfl ?_); refine ev_ld rfl 219 _ rfl _ rfl (.pointer (some ⟨ps[k], 0, none⟩)) ((own_sl1 L0_p1.out (by first | omega | (simp; omega))).el (j := k) (ptrs_get hkp)) _ Try.underlying219 rfl ?_)
          | ((with_reducible refine at_dst (N := 19) rfl ?_); refine ev_ld rfl 9 _ rfl ⟨ps[k], 0, none⟩ rfl (.string l[k].fName) (hG.out.cell 0) _ Try.underlying9 rfl ?_))
        have hx := find_at hlt_k L0_none.out (by simp only [sameN, hc1])
        rw [hno] at hx
        injection hx with hx
        go_ret
        exact HQ.out _ _ ⟨_, rfl, (by rw [hx]; exact hG.out), L0_B.out⟩
    · obtain rfl : k = l.length := by omega
      rw [List.take_length] at L0_none
      go_wp2_with fail
      exact absurd (find_none L0_none.out) (by rw [hno]; simp)
set_option maxRecDepth 100000 in
set_option maxHeartbeats 4000000 in
theorem rHas_any (gf : Nat) (A : Option Addr) (c : Nat) (ps : List Nat) (l : List Ty52) (Bs : Nat) (s : ByteArray) (w : World) (h0 : Blk w (gf) 218 #[.string ⟨#[118, 49]⟩, .slice A l.length c]) (h1 : World.ownsRow w (Bs) 219 1 (.slice A l.length c) (l.length) (ptrs ps)) (h2 : Pl RepAt w (ps) (l))  :
    Calls Try.prog 140 #[.pointer (some ⟨gf, 0, none⟩), .string s] w fun e w' => e = .returned (.bool (l.any (sameN s))) ∧ Below w.heap.size w w' := by
  have hlo_1 : l.length ≤ 9223372036854775807 := own_max1 h1
  have hlp_2 := h2.1
  have H0 := Lib.hid h0
  clear h0
  have H1 := Lib.hid h1
  clear h1
  have H2 := Lib.hid h2
  clear h2
  suffices hQ : ∀ Q : Ending → World → Prop, Hid (∀ (e : Ending) (w' : World), (e = .returned (.bool (l.any (sameN s))) ∧ Below w.heap.size w w') → Post1 Q e w') → Calls Try.prog 140 #[.pointer (some ⟨gf, 0, none⟩), .string s] w (fun e w' => Post1 Q e w') from hQ (fun e w' => e = .returned (.bool (l.any (sameN s))) ∧ Below w.heap.size w w') (fun _ _ h => by unfold Post1; exact h)
  intro Q HQ
  go_enter Try.func140, Try.ntmps140
  cases hc1 : (l.any (sameN s))
  · have hno := hc1
    go_wp2_with (first
      | (go_at_call 141; (with_reducible refine (rGet_none gf A c ps l Bs s _ H0.out H1.out H2.out (by assumption)).mono ?_); rintro e w1 ⟨rfl, hb⟩
         have p1_w1 := Lib.hid (own_below H1.out hb)
         have B_w1 := Lib.hid (below_trans (Below.refl _ _) hb)
         clear hb))
    go_ret
    exact HQ.out _ _ ⟨ret_bool (by simp [*]), B_w1.out⟩
  · obtain ⟨x, hno⟩ : ∃ x, l.find? (sameN s) = some x := Option.isSome_iff_exists.1 (by rw [find_any, hc1])
    go_wp2_with (first
      | (go_at_call 141; (with_reducible refine (rGet_some gf A c ps l Bs s _ _ H0.out H1.out H2.out (by assumption)).mono ?_); rintro e w1 ⟨gq8, rfl, hp0_8, hb⟩
         have p1_w1 := Lib.hid (own_below H1.out hb)
         have B_w1 := Lib.hid (below_trans (Below.refl _ _) hb)
         have f8_0_w1 := Lib.hid hp0_8
         clear hb hp0_8))
    go_ret
    exact HQ.out _ _ ⟨ret_bool (by simp [*]), B_w1.out⟩
def notN (s : ByteArray) (x : Ty52) : Bool := !sameN s x
set_option maxRecDepth 100000 in
set_option maxHeartbeats 4000000 in
theorem rRemove_any (gf : Nat) (A : Option Addr) (c : Nat) (ps : List Nat) (l : List Ty52) (Bs : Nat) (s : ByteArray) (w : World) (h0 : Blk w (gf) 218 #[.string ⟨#[118, 49]⟩, .slice A l.length c]) (h1 : World.ownsRow w (Bs) 219 1 (.slice A l.length c) (l.length) (ptrs ps)) (h2 : Pl RepAt w (ps) (l)) (hBs : Bs ≤ w.heap.size) (hn : l.length ≤ 1000000) :
    Calls Try.prog 143 #[.pointer (some ⟨gf, 0, none⟩), .string s] w fun e w' => ∃ A2 : Option Addr, ∃ c2 : Nat, ∃ ps2 : List Nat, e = .returned (.bool (l.any (sameN s))) ∧ Blk w' (gf) 218 #[.string ⟨#[118, 49]⟩, .slice A2 (l.filter (notN s)).length c2] ∧ World.ownsRow w' (Bs) 219 1 (.slice A2 (l.filter (notN s)).length c2) ((l.filter (notN s)).length) (ptrs ps2) ∧ Pl RepAt w' ps2 (l.filter (notN s)) ∧ FoS w (.slice A l.length c) (.slice A2 (l.filter (notN s)).length c2) ∧ GrX (fun k => k = gf ∨ (.slice A l.length c : Value).ownBlock = some k) w w' := by
  have hlo_1 : l.length ≤ 9223372036854775807 := own_max1 h1
  have hlp_2 := h2.1
  have H0 := Lib.hid h0
  clear h0
  have H1 := Lib.hid h1
  clear h1
  have fos_p1 : FoS w (.slice A l.length c) (.slice A l.length c) := FoS.refl
  have H2 := Lib.hid h2
  clear h2
  suffices hQ : ∀ Q : Ending → World → Prop, Hid (∀ (e : Ending) (w' : World), (∃ A2 : Option Addr, ∃ c2 : Nat, ∃ ps2 : List Nat, e = .returned (.bool (l.any (sameN s))) ∧ Blk w' (gf) 218 #[.string ⟨#[118, 49]⟩, .slice A2 (l.filter (notN s)).length c2] ∧ World.ownsRow w' (Bs) 219 1 (.slice A2 (l.filter (notN s)).length c2) ((l.filter (notN s)).length) (ptrs ps2) ∧ Pl RepAt w' ps2 (l.filter (notN s)) ∧ FoS w (.slice A l.length c) (.slice A2 (l.filter (notN s)).length c2) ∧ GrX (fun k => k = gf ∨ (.slice A l.length c : Value).ownBlock = some k) w w') → Post1 Q e w') → Calls Try.prog 143 #[.pointer (some ⟨gf, 0, none⟩), .string s] w (fun e w' => Post1 Q e w') from hQ (fun e w' => ∃ A2 : Option Addr, ∃ c2 : Nat, ∃ ps2 : List Nat, e = .returned (.bool (l.any (sameN s))) ∧ Blk w' (gf) 218 #[.string ⟨#[118, 49]⟩, .slice A2 (l.filter (notN s)).length c2] ∧ World.ownsRow w' (Bs) 219 1 (.slice A2 (l.filter (notN s)).length c2) ((l.filter (notN s)).length) (ptrs ps2) ∧ Pl RepAt w' ps2 (l.filter (notN s)) ∧ FoS w (.slice A l.length c) (.slice A2 (l.filter (notN s)).length c2) ∧ GrX (fun k => k = gf ∨ (.slice A l.length c : Value).ownBlock = some k) w w') (fun _ _ h => by unfold Post1; exact h)
  intro Q HQ
  go_enter Try.func143, Try.ntmps143
  go_wp2_with (first
    | ((with_reducible refine at_dst (N := 9) rfl ?_); refine ev_bs rfl 216 219 0 _ rfl #[] (by go_simp) ?_; intro g9 w1 hg hB hb
       have n_gf_g9 : gf ≠ g9 := by have := H0.out.lt; omega
       have nr_p1_g9 := own_fresh' H1.out hg
       have low_g9 := Nat.le_trans (Nat.le_refl _) hg
       have gf_w1 := Lib.hid (H0.out.below hb)
       have p1_w1 := Lib.hid (own_below H1.out hb)
       have pl_w1 := Lib.hid (Pl.map H2.out fun _ _ q => RepAt.below q hb)
       have B_w1 := Lib.hid (below_trans (Below.refl _ _) hb)
       have g9_w1 : Hid (Blk w1 g9 219 #[]) := hB
       clear hB hb)
    | ((with_reducible refine at_dst (N := 13) rfl ?_); refine ev_ld rfl 216 _ rfl ⟨gf, 1, none⟩ rfl (.slice A l.length c) (gf_w1.out.cell 1) _ Try.underlying216 rfl ?_))
  go_loopw [5, 6, 15] (fun v5 v6 v15 wr => ∃ k : Nat, ∃ ps5 : List Nat, ∃ fb : Bool, (k ≤ l.length) ∧ v6 = .bool fb ∧ v15 = .int .i64 (↑k) ∧ Hid (World.ownsRow wr w.heap.size 219 1 v5 (((l.take k).filter (notN s)).length) (ptrs ps5)) ∧ Hid (Pl RepAt wr ps5 ((l.take k).filter (notN s))) ∧ Hid ((l.take k).any (sameN s) = fb) ∧ Hid (Blk wr gf 218 #[.string ⟨#[118, 49]⟩, .slice A l.length c]) ∧ Hid (World.ownsRow wr Bs 219 1 (.slice A l.length c) l.length (ptrs ps)) ∧ Hid (Pl RepAt wr ps l) ∧ Hid (GrX (fun k => k = gf ∨ (.slice A l.length c : Value).ownBlock = some k) w wr)) (fun v5 v6 v15 _ => l.length - (intOf v15).toNat)
  case atStart => exact ⟨0, [], false, (by omega), rfl, rfl, (own_of_blk (sz := 1) (n := 0) g9_w1.out low_g9 rfl (by omega)), Pl.nil, rfl, gf_w1, p1_w1, pl_w1, (GrX.below B_w1.out)⟩
  case round =>
    obtain ⟨k, ps5, fb, hk, rfl, rfl, L0_o5, L0_pl5, L0_fnd, L0_gf, L0_p1, L0_pl, L0_B⟩ := hrel
    by_cases hlt_k : k < l.length
    · obtain ⟨ad_k, rfl⟩ := (own_sl1 L0_p1.out (by first | omega | (simp; omega))).addr (by simp [strs, ptrs]; omega)
      obtain ⟨hkp, hR⟩ := Pl.get L0_pl.out hlt_k
      have hG := Lib.hid hR
      clear hR
      have hfl : ((l.take k).filter (notN s)).length ≤ k := by
        have h1 := List.length_filter_le (notN s) (l.take k)
        have h2 := List.length_take_le k l
        omega
      cases hc1 : (l[k].fName.toList == s.toList)
      · have hc1' : (l[k].fName.toList != s.toList) = true := by rw [bne, hc1]; rfl
        go_wp2_with (first
          | ((with_reducible refine at_dst (N := 18) rfl ?_); refine ev_ld rfl 219 _ rfl _ rfl (.pointer (some ⟨ps[k], 0, none⟩)) ((own_sl1 L0_p1.out (by first | omega | (simp; omega))).el (j := k) (ptrs_get hkp)) _ Try.underlying219 rfl ?_)
          | ((with_reducible refine at_dst (N := 24) rfl ?_); refine ev_ld rfl 9 _ rfl ⟨ps[k], 0, none⟩ rfl (.string l[k].fName) (hG.out.cell 0) _ Try.underlying9 rfl ?_)
          | ((with_reducible refine at_dst (N := 29) rfl ?_); refine ev_bs rfl 216 219 1 _ rfl #[.pointer (some ⟨ps[k], 0, none⟩)] (by go_simp) ?_; intro g29 w2 hg hB hb
             have nr_o5_g29 := own_fresh' L0_o5.out hg
             have n_gf_g29 : gf ≠ g29 := by have := L0_gf.out.lt; omega
             have nr_p1_g29 := own_fresh' L0_p1.out hg
             have n_ps_k__g29 : ps[k] ≠ g29 := by have := hG.out.lt; omega
             have low_g29 := Nat.le_trans L0_B.out.size hg
             have o5_w2 := Lib.hid (own_below L0_o5.out hb)
             have pl5_w2 := Lib.hid (Pl.map L0_pl5.out fun _ _ q => RepAt.below q hb)
             have gf_w2 := Lib.hid (L0_gf.out.below hb)
             have p1_w2 := Lib.hid (own_below L0_p1.out hb)
             have pl_w2 := Lib.hid (Pl.map L0_pl.out fun _ _ q => RepAt.below q hb)
             have ps_k__w2 := Lib.hid (hG.out.below hb)
             have B_w2 : Hid (GrX (fun k => k = gf ∨ (.slice (some ad_k) l.length c : Value).ownBlock = some k) w w2) := GrX.trans L0_B.out (GrX.below hb)
             have g29_w2 : Hid (Blk w2 g29 219 #[.pointer (some ⟨ps[k], 0, none⟩)]) := hB
             clear hB hb)
          | ((with_reducible refine at_dst (N := 30) rfl ?_); refine ev_app rfl _ _ 216 219 rfl Try.underlying216 _ 1 _ tin219 rfl (by omega) w.heap.size _ _ _ rfl o5_w2.out _ 1 _ [.pointer (some ⟨ps[k], 0, none⟩)] rfl (g29_w2.out.sl (by simp)) rfl (by simp [Value.oneCell']) (by omega) (by omega) B_w2.out.size ?_; intro v30_w3 w3 ho1 hg1 hat1
             have hx := GrX.row (S := fun k => (u5 : Value).ownBlock = some k) hg1 (fun g h => h)
             have pl5_w3 := Lib.hid (Pl.map pl5_w2.out fun _ _ q => RepAt.ap q hx (SApart.own o5_w2.out (by decide)))
             have gf_w3 := Lib.hid (gf_w2.out.grx hx (own_ne o5_w2.out gf_w2.out (by decide)))
             have p1_w3 := Lib.hid (own_grx p1_w2.out hx (fun k hk => (fun e => absurd (own_ge o5_w2.out k e) (by have := own_lt H1.out k hk; omega))))
             have pl_w3 := Lib.hid (Pl.map pl_w2.out fun _ _ q => RepAt.ap q hx (SApart.own o5_w2.out (by decide)))
             have ps_k__w3 := Lib.hid (ps_k__w2.out.grx hx (own_ne o5_w2.out ps_k__w2.out (by decide)))
             have B_w3 : Hid (GrX (fun k => k = gf ∨ (.slice (some ad_k) l.length c : Value).ownBlock = some k) w w3) := GrX.trans' B_w2.out hx (fun k hk hlt => (fun e => absurd hlt (by have := own_ge o5_w2.out k e; omega)) hk)
             obtain ⟨A30_w3, c30_w3, rfl, _⟩ := own_form ho1
             have o5_w3 := Lib.hid ho1
             clear ho1 hg1 hat1 hx))
        have hnm : notN s l[k] = true := by simp only [notN, sameN, hc1, Bool.not_false]
        refine ⟨⟨k + 1, (ps5 ++ [ps[k]]), fb, (by omega), rfl, by go_num, (by show World.ownsRow _ _ _ _ _ _ _; rw [filter_take hlt_k, hnm, if_pos rfl, List.length_append, ptrs_snoc]; exact o5_w3.out), (by show Pl _ _ _ _; rw [filter_take hlt_k, hnm, if_pos rfl]; exact pl5_w3.out.snoc ps_k__w3.out), by show _ = _; rw [any_take hlt_k, L0_fnd.out]; simp only [sameN, hc1, Bool.or_false], gf_w3, p1_w3, pl_w3, B_w3.out⟩, ?_⟩
        simp [intOf]; omega
      · have hc1' : (l[k].fName.toList != s.toList) = false := by rw [bne, hc1]; rfl
        go_wp2_with (first
          | ((with_reducible refine at_dst (N := 18) rfl ?_); refine ev_ld rfl 219 _ rfl _ rfl (.pointer (some ⟨ps[k], 0, none⟩)) ((own_sl1 L0_p1.out (by first | omega | (simp; omega))).el (j := k) (ptrs_get hkp)) _ Try.underlying219 rfl ?_)
          | ((with_reducible refine at_dst (N := 24) rfl ?_); refine ev_ld rfl 9 _ rfl ⟨ps[k], 0, none⟩ rfl (.string l[k].fName) (hG.out.cell 0) _ Try.underlying9 rfl ?_))
        have hnm : notN s l[k] = false := by simp only [notN, sameN, hc1, Bool.not_true]
        refine ⟨⟨k + 1, ps5, true, (by omega), rfl, by go_num, (by show World.ownsRow _ _ _ _ _ _ _; rw [filter_take hlt_k, hnm, if_neg (by decide), List.append_nil]; exact L0_o5.out), (by show Pl _ _ _ _; rw [filter_take hlt_k, hnm, if_neg (by decide), List.append_nil]; exact L0_pl5.out), by show _ = _; rw [any_take hlt_k]; simp only [sameN, hc1, Bool.or_true], L0_gf, L0_p1, L0_pl, L0_B.out⟩, ?_⟩
        simp [intOf]; omega
    · obtain rfl : k = l.length := by omega
      rw [List.take_length] at L0_fnd
      rw [List.take_length] at L0_o5 L0_pl5
      obtain ⟨A5, c5, e5, _⟩ := own_form L0_o5.out
      subst e5
      go_wp2_with (first
        | (refine ev_store1 rfl 216 _ _ rfl gf 1 _ rfl (.slice A5 (l.filter (notN s)).length c5) rfl 218 L0_gf.out tsz216 (by simp) rfl rfl ?_; intro w2 hB hg hz
           have hx := GrX.grown (S := fun k => k = gf) hg rfl
           have o5_w2 := Lib.hid (own_grx L0_o5.out hx (fun k hk => (fun e => own_ne L0_o5.out L0_gf.out (by decide) (e ▸ hk))))
           have pl5_w2 := Lib.hid (Pl.map L0_pl5.out fun _ _ q => RepAt.ap q hx (SApart.blk L0_gf.out (by decide)))
           have p1_w2 := Lib.hid (own_grx L0_p1.out hx (fun k hk => (fun e => own_ne L0_p1.out L0_gf.out (by decide) (e ▸ hk))))
           have pl_w2 := Lib.hid (Pl.map L0_pl.out fun _ _ q => RepAt.ap q hx (SApart.blk L0_gf.out (by decide)))
           have B_w2 : Hid (GrX (fun k => k = gf ∨ (.slice A l.length c : Value).ownBlock = some k) w w2) := GrX.trans' L0_B.out hx (fun k hk hlt => (fun e => .inl e) hk)
           clear hx
           have gf_w2 : Hid (Blk w2 gf 218 #[.string ⟨#[118, 49]⟩, .slice A5 (l.filter (notN s)).length c5]) := hB
           clear hB hg hz))
      go_ret
      exact HQ.out _ _ ⟨A5, c5, ps5, ret_bool L0_fnd.out.symm, gf_w2.out, (own_mono o5_w2.out hBs), pl5_w2.out, (fun k h1 h2 => absurd (own_ge o5_w2.out k h1) (by omega)), B_w2.out⟩
end Go.Proofs.Ytkjcedlgljeoiaa
