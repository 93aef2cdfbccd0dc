/- Filter, FilterReleases. -/
import Derived.Test.YtdgblfldbikneaaE2
import Derived.Test.YtdgblfldbikneaaP3
namespace Go.Proofs.Ytdgblfldbikneaa
open Go.RowKit Go.Lib
set_option linter.unusedVariables false
set_option linter.unusedSimpArgs false
set_option maxRecDepth 100000 in
set_option maxHeartbeats 4000000 in
theorem anyFilter_any (B B2 : Nat) (gb : Nat) (A : Option Addr) (n c : Nat) (gs : List Nat) (ss : List ByteArray) (A2 : Option Addr) (m c2 : Nat) (ps : List Nat) (xs : List Ty53) (w : World) (hb0 : Blk w gb 125 #[.slice A n c]) (hsl : Sl w A (fvals gs)) (hp : Pl (FltAt B2) w gs ss) (hl : ss.length = n)
    (hsr : Sl w A2 (ptrs ps)) (hpr : Pl (RelAt B) w ps xs) (hxl : xs.length = m) (hm2 : m ≤ 1000000) :
    Calls Try.prog 78 #[.func (.func 122) #[] #[.pointer (some ⟨gb, 0, none⟩)], .slice A2 m c2] w fun e w' => ∃ v qs, e = .returned v ∧ qs.length ≤ m ∧ w'.ownsRow w.heap.size 188 1 v qs.length (ptrs qs) ∧ Pl (RelAt B) w' qs (xs.filter fun x => anyF ss x.fStatus) ∧ Below w.heap.size w w' := by
  have hlen := hpr.1
  have hm : m ≤ 9223372036854775807 := by omega
  have HBB := Lib.hid hb0
  have HSL := Lib.hid hsl
  have HP := Lib.hid hp
  have HSR := Lib.hid hsr
  have HPR := Lib.hid hpr
  have HXL := Lib.hid hxl
  clear hb0 hsl hp hsr hpr hxl hlen
  go_enter Try.func78, Try.ntmps78
  go_wp2_with fail
  go_loopw [4, 9] (fun v i wr => ∃ k : Nat, ∃ qs : List Nat, k ≤ m ∧ i = .int .i64 k ∧ qs.length ≤ k ∧ Hid (wr.ownsRow w.heap.size 188 1 v qs.length (ptrs qs)) ∧ Hid (Pl (RelAt B) wr qs ((xs.take k).filter fun x => anyF ss x.fStatus)) ∧ Hid (Below w.heap.size w wr)) (fun _ i _ => m - (intOf i).toNat)
  case atStart => exact ⟨0, [], Nat.zero_le _, rfl, Nat.le_refl _, own_nil _ _ _ _, Pl.nil, Below.refl _ _⟩
  case round =>
    obtain ⟨k, qs, hk, rfl, hqk, HO, HQ, HB⟩ := hrel
    by_cases hlt : k < m
    · have hkx : k < xs.length := by have := HXL.out; omega
      obtain ⟨hkp, hR⟩ := HPR.out.get hkx
      obtain ⟨ad, rfl, hx⟩ := (HSR.out.below HB.out).at_ (j := k) (ptrs_get hkp)
      generalize ps[k] = g at hR hx
      have HC := Lib.hid hx
      have HR := Lib.hid hR
      have hc := fun W (h1 : Below w.heap.size w W) => anyChk_any B B2 xs[k] g gb A n c gs ss W (HR.out.below h1) (HBB.out.below h1) (HSL.out.below h1) (HP.out.map fun x g hh => FltAt.below hh h1) hl
      clear hx hR
      have hfs : (xs.take (k + 1)).filter (fun x => anyF ss x.fStatus) = (xs.take k).filter (fun x => anyF ss x.fStatus) ++ if anyF ss xs[k].fStatus then [xs[k]] else [] := by
        rw [List.take_succ_eq_append_getElem hkx, List.filter_append]
        by_cases hq : anyF ss xs[k].fStatus = true <;> simp [List.filter_cons, hq]
      cases hd : anyF ss xs[k].fStatus
      · skip
        rw [hd] at hc hfs
        have HCL := Lib.hid hc
        have HFS := Lib.hid hfs
        clear hc hd hfs
        go_wp2_with (first
          | ((with_reducible refine at_dst (N := 12) rfl ?_); refine ev_ld rfl 188 _ rfl _ rfl (.pointer (some ⟨g, 0, none⟩)) (HC.out) _ Try.underlying188 rfl ?_)
          | (go_at_call 120; (with_reducible refine (HCL.out _ HB.out).mono ?_); rintro e w1 ⟨rfl, hb⟩
             have own_w1 := Lib.hid (own_below HO.out hb)
             have pl_w1 := Lib.hid (HQ.out.map fun x g hh => RelAt.below hh hb)
             have B_w1 := Lib.hid (below_trans HB.out hb)
             clear hb))
        refine ⟨⟨k + 1, qs, by omega, by go_num, by omega, own_w1, by show Pl _ _ _ _; rw [HFS.out]; simpa using pl_w1.out, B_w1⟩, ?_⟩
        simp [intOf]; omega
      · have HRW := Lib.hid (HR.out.below HB.out)
        rw [hd] at hc hfs
        have HCL := Lib.hid hc
        have HFS := Lib.hid hfs
        clear hc hd hfs
        go_wp2_with (first
          | ((with_reducible refine at_dst (N := 12) rfl ?_); refine ev_ld rfl 188 _ rfl _ rfl (.pointer (some ⟨g, 0, none⟩)) (HC.out) _ Try.underlying188 rfl ?_)
          | (go_at_call 120; (with_reducible refine (HCL.out _ HB.out).mono ?_); rintro e w2 ⟨rfl, hb⟩
             have own_w2 := Lib.hid (own_below HO.out hb)
             have pl_w2 := Lib.hid (HQ.out.map fun x g hh => RelAt.below hh hb)
             have rel_w2 := Lib.hid (RelAt.below HRW.out hb)
             have B_w2 := Lib.hid (below_trans HB.out hb)
             clear hb)
          | ((with_reducible refine at_dst (N := 18) rfl ?_); refine ev_bs rfl 130 188 1 _ rfl #[.pointer (some ⟨g, 0, none⟩)] (by go_simp) ?_; intro g18 w3 hg hB hb
             have low_g18 := Nat.le_trans B_w2.out.size hg
             have own_w3 := Lib.hid (own_below own_w2.out hb)
             have pl_w3 := Lib.hid (pl_w2.out.map fun x g hh => RelAt.below hh hb)
             have rel_w3 := Lib.hid (RelAt.below rel_w2.out hb)
             have B_w3 := Lib.hid (below_trans B_w2.out hb)
             have g18_w3 : Hid (Blk w3 g18 188 #[.pointer (some ⟨g, 0, none⟩)]) := hB
             clear hB hb)
          | ((with_reducible refine at_dst (N := 19) rfl ?_); refine ev_app rfl _ _ 130 188 rfl Try.underlying130 _ 1 _ tin188 rfl (by omega) w.heap.size _ _ _ rfl own_w3.out _ 1 1 [.pointer (some ⟨g, 0, none⟩)] rfl (g18_w3.out.sl (by simp)) rfl (by simp [Value.oneCell']) (by omega) (by omega) B_w3.out.size ?_; intro v19_w4 w4 ho1 hg1 hat1
             have pl_w4 := Lib.hid (pl_w3.out.map fun x g hh => RelAt.row hh own_w3.out (by decide) (by decide) hg1)
             have rel_w4 := Lib.hid (RelAt.row rel_w3.out own_w3.out (by decide) (by decide) hg1)
             have B_w4 := Lib.hid (below_row B_w3.out hg1 B_w3.out.size (own_ge own_w3.out))
             have own_w4 := Lib.hid ho1
             clear ho1 hg1 hat1))
        refine ⟨⟨k + 1, qs ++ [g], by omega, by go_num, by simp; omega, by show World.ownsRow _ _ _ _ _ _ _; rw [ptrs_snoc, List.length_append]; exact own_w4.out, by show Pl _ _ _ _; rw [HFS.out]; exact pl_w4.out.snoc rel_w4.out, B_w4⟩, ?_⟩
        simp [intOf]; omega
    · obtain rfl : k = m := by omega
      go_wp2_with fail
      go_ret
      have hE := HQ.out
      rw [List.take_of_length_le (by have := HXL.out; omega)] at hE
      exact ⟨_, qs, rfl, hqk, HO.out, hE, HB.out⟩
set_option maxRecDepth 100000 in
set_option maxHeartbeats 4000000 in
theorem allFilter_any (B B2 : Nat) (gb : Nat) (A : Option Addr) (n c : Nat) (gs : List Nat) (ss : List ByteArray) (A2 : Option Addr) (m c2 : Nat) (ps : List Nat) (xs : List Ty53) (w : World) (hb0 : Blk w gb 125 #[.slice A n c]) (hsl : Sl w A (fvals gs)) (hp : Pl (FltAt B2) w gs ss) (hl : ss.length = n)
    (hsr : Sl w A2 (ptrs ps)) (hpr : Pl (RelAt B) w ps xs) (hxl : xs.length = m) (hm2 : m ≤ 1000000) :
    Calls Try.prog 78 #[.func (.func 119) #[] #[.pointer (some ⟨gb, 0, none⟩)], .slice A2 m c2] w fun e w' => ∃ v qs, e = .returned v ∧ qs.length ≤ m ∧ w'.ownsRow w.heap.size 188 1 v qs.length (ptrs qs) ∧ Pl (RelAt B) w' qs (xs.filter fun x => allF ss x.fStatus) ∧ Below w.heap.size w w' := by
  have hlen := hpr.1
  have hm : m ≤ 9223372036854775807 := by omega
  have HBB := Lib.hid hb0
  have HSL := Lib.hid hsl
  have HP := Lib.hid hp
  have HSR := Lib.hid hsr
  have HPR := Lib.hid hpr
  have HXL := Lib.hid hxl
  clear hb0 hsl hp hsr hpr hxl hlen
  go_enter Try.func78, Try.ntmps78
  go_wp2_with fail
  go_loopw [4, 9] (fun v i wr => ∃ k : Nat, ∃ qs : List Nat, k ≤ m ∧ i = .int .i64 k ∧ qs.length ≤ k ∧ Hid (wr.ownsRow w.heap.size 188 1 v qs.length (ptrs qs)) ∧ Hid (Pl (RelAt B) wr qs ((xs.take k).filter fun x => allF ss x.fStatus)) ∧ Hid (Below w.heap.size w wr)) (fun _ i _ => m - (intOf i).toNat)
  case atStart => exact ⟨0, [], Nat.zero_le _, rfl, Nat.le_refl _, own_nil _ _ _ _, Pl.nil, Below.refl _ _⟩
  case round =>
    obtain ⟨k, qs, hk, rfl, hqk, HO, HQ, HB⟩ := hrel
    by_cases hlt : k < m
    · have hkx : k < xs.length := by have := HXL.out; omega
      obtain ⟨hkp, hR⟩ := HPR.out.get hkx
      obtain ⟨ad, rfl, hx⟩ := (HSR.out.below HB.out).at_ (j := k) (ptrs_get hkp)
      generalize ps[k] = g at hR hx
      have HC := Lib.hid hx
      have HR := Lib.hid hR
      have hc := fun W (h1 : Below w.heap.size w W) => allChk_any B B2 xs[k] g gb A n c gs ss W (HR.out.below h1) (HBB.out.below h1) (HSL.out.below h1) (HP.out.map fun x g hh => FltAt.below hh h1) hl
      clear hx hR
      have hfs : (xs.take (k + 1)).filter (fun x => allF ss x.fStatus) = (xs.take k).filter (fun x => allF ss x.fStatus) ++ if allF ss xs[k].fStatus then [xs[k]] else [] := by
        rw [List.take_succ_eq_append_getElem hkx, List.filter_append]
        by_cases hq : allF ss xs[k].fStatus = true <;> simp [List.filter_cons, hq]
      cases hd : allF ss xs[k].fStatus
      · skip
        rw [hd] at hc hfs
        have HCL := Lib.hid hc
        have HFS := Lib.hid hfs
        clear hc hd hfs
        go_wp2_with (first
          | ((with_reducible refine at_dst (N := 12) rfl ?_); refine ev_ld rfl 188 _ rfl _ rfl (.pointer (some ⟨g, 0, none⟩)) (HC.out) _ Try.underlying188 rfl ?_)
          | (go_at_call 120; (with_reducible refine (HCL.out _ HB.out).mono ?_); rintro e w1 ⟨rfl, hb⟩
             have own_w1 := Lib.hid (own_below HO.out hb)
             have pl_w1 := Lib.hid (HQ.out.map fun x g hh => RelAt.below hh hb)
             have B_w1 := Lib.hid (below_trans HB.out hb)
             clear hb))
        refine ⟨⟨k + 1, qs, by omega, by go_num, by omega, own_w1, by show Pl _ _ _ _; rw [HFS.out]; simpa using pl_w1.out, B_w1⟩, ?_⟩
        simp [intOf]; omega
      · have HRW := Lib.hid (HR.out.below HB.out)
        rw [hd] at hc hfs
        have HCL := Lib.hid hc
        have HFS := Lib.hid hfs
        clear hc hd hfs
        go_wp2_with (first
          | ((with_reducible refine at_dst (N := 12) rfl ?_); refine ev_ld rfl 188 _ rfl _ rfl (.pointer (some ⟨g, 0, none⟩)) (HC.out) _ Try.underlying188 rfl ?_)
          | (go_at_call 120; (with_reducible refine (HCL.out _ HB.out).mono ?_); rintro e w2 ⟨rfl, hb⟩
             have own_w2 := Lib.hid (own_below HO.out hb)
             have pl_w2 := Lib.hid (HQ.out.map fun x g hh => RelAt.below hh hb)
             have rel_w2 := Lib.hid (RelAt.below HRW.out hb)
             have B_w2 := Lib.hid (below_trans HB.out hb)
             clear hb)
          | ((with_reducible refine at_dst (N := 18) rfl ?_); refine ev_bs rfl 130 188 1 _ rfl #[.pointer (some ⟨g, 0, none⟩)] (by go_simp) ?_; intro g18 w3 hg hB hb
             have low_g18 := Nat.le_trans B_w2.out.size hg
             have own_w3 := Lib.hid (own_below own_w2.out hb)
             have pl_w3 := Lib.hid (pl_w2.out.map fun x g hh => RelAt.below hh hb)
             have rel_w3 := Lib.hid (RelAt.below rel_w2.out hb)
             have B_w3 := Lib.hid (below_trans B_w2.out hb)
             have g18_w3 : Hid (Blk w3 g18 188 #[.pointer (some ⟨g, 0, none⟩)]) := hB
             clear hB hb)
          | ((with_reducible refine at_dst (N := 19) rfl ?_); refine ev_app rfl _ _ 130 188 rfl Try.underlying130 _ 1 _ tin188 rfl (by omega) w.heap.size _ _ _ rfl own_w3.out _ 1 1 [.pointer (some ⟨g, 0, none⟩)] rfl (g18_w3.out.sl (by simp)) rfl (by simp [Value.oneCell']) (by omega) (by omega) B_w3.out.size ?_; intro v19_w4 w4 ho1 hg1 hat1
             have pl_w4 := Lib.hid (pl_w3.out.map fun x g hh => RelAt.row hh own_w3.out (by decide) (by decide) hg1)
             have rel_w4 := Lib.hid (RelAt.row rel_w3.out own_w3.out (by decide) (by decide) hg1)
             have B_w4 := Lib.hid (below_row B_w3.out hg1 B_w3.out.size (own_ge own_w3.out))
             have own_w4 := Lib.hid ho1
             clear ho1 hg1 hat1))
        refine ⟨⟨k + 1, qs ++ [g], by omega, by go_num, by simp; omega, by show World.ownsRow _ _ _ _ _ _ _; rw [ptrs_snoc, List.length_append]; exact own_w4.out, by show Pl _ _ _ _; rw [HFS.out]; exact pl_w4.out.snoc rel_w4.out, B_w4⟩, ?_⟩
        simp [intOf]; omega
    · obtain rfl : k = m := by omega
      go_wp2_with fail
      go_ret
      have hE := HQ.out
      rw [List.take_of_length_le (by have := HXL.out; omega)] at hE
      exact ⟨_, qs, rfl, hqk, HO.out, hE, HB.out⟩
set_option maxRecDepth 100000 in
set_option maxHeartbeats 8000000 in
theorem filtRels_any (A : Option Addr) (c : Nat) (xs : List Ty53) (A2 : Option Addr) (c2 : Nat) (ss : List ByteArray) (b : Bool) (w : World) (h : Rows w A 5 (xs.map Ty53.cells)) (h2 : Sl w A2 (strs ss)) (hn : xs.length ≤ 1000000) (hn2 : ss.length ≤ 1000000) :
    Calls Try.prog 31 #[.slice A xs.length c, .slice A2 ss.length c2, .bool b] w fun e w' => ∃ v, e = .returned v ∧ w'.ownsRow w.heap.size 53 5 v (xs.filter fun x => if b then allF ss x.fStatus else anyF ss x.fStatus).length (flatC Ty53.cells (xs.filter fun x => if b then allF ss x.fStatus else anyF ss x.fStatus)) ∧ Below w.heap.size w w' := by
  have hl : xs.length ≤ 9223372036854775807 := by simpa using h.1
  have hl2 : ss.length ≤ 9223372036854775807 := by simpa [strs] using h2.1
  have H := Lib.hid h
  have H2 := Lib.hid h2
  clear h h2
  go_enter Try.func31, Try.ntmps31
  go_wp2_with fail
  go_loopw [7, 12] (fun v i wr => ∃ k : Nat, ∃ gs : List Nat, k ≤ ss.length ∧ i = .int .i64 k ∧ Hid (wr.ownsRow w.heap.size 127 1 v k (fvals gs)) ∧ Hid (Pl (FltAt w.heap.size) wr gs (ss.take k)) ∧ Hid (Below w.heap.size w wr)) (fun _ i _ => ss.length - (intOf i).toNat)
  case atStart => exact ⟨0, [], Nat.zero_le _, rfl, own_nil _ _ _ _, Pl.nil, Below.refl _ _⟩
  case round =>
    obtain ⟨k, gs, hk, rfl, HO, HP, HB⟩ := hrel
    by_cases hlt : k < ss.length
    · obtain ⟨ad, rfl, hx⟩ := (H2.out.below HB.out).at_ (j := k) (u := .string ss[k]) (by simp [strs, hlt])
      have HC := Lib.hid hx
      clear hx
      go_wp2_with (first
        | ((with_reducible refine at_dst (N := 15) rfl ?_); refine ev_ld rfl 9 _ rfl _ rfl (.string (ss[k])) (HC.out) _ Try.underlying9 rfl ?_)
        | (go_at_call 75; (with_reducible refine (stFilter_any ss[k] _).mono ?_); rintro e w1 ⟨g, rfl, hr, hb⟩
           have own_w1 := Lib.hid (own_below HO.out hb)
           have pl_w1 := Lib.hid (HP.out.map fun x g hh => FltAt.below hh hb)
           have B_w1 := Lib.hid (below_trans HB.out hb)
           have HR := Lib.hid (FltAt.mono hr HB.out.size)
           clear hr
           clear hb)
        | ((with_reducible refine at_dst (N := 19) rfl ?_); refine ev_bs rfl 125 127 1 _ rfl #[.func (.func 116) #[] #[.pointer (some ⟨g, 0, none⟩)]] (by go_simp) ?_; intro g19 w2 hg hB hb
           have low_g19 := Nat.le_trans B_w1.out.size hg
           have own_w2 := Lib.hid (own_below own_w1.out hb)
           have pl_w2 := Lib.hid (pl_w1.out.map fun x g hh => FltAt.below hh hb)
           have rel_w2 := Lib.hid (FltAt.below HR.out hb)
           have B_w2 := Lib.hid (below_trans B_w1.out hb)
           have g19_w2 : Hid (Blk w2 g19 127 #[.func (.func 116) #[] #[.pointer (some ⟨g, 0, none⟩)]]) := hB
           clear hB hb)
        | ((with_reducible refine at_dst (N := 20) rfl ?_); refine ev_app rfl _ _ 125 127 rfl Try.underlying125 _ 1 _ tin127 rfl (by omega) w.heap.size _ _ _ rfl own_w2.out _ 1 1 [.func (.func 116) #[] #[.pointer (some ⟨g, 0, none⟩)]] rfl (g19_w2.out.sl (by simp)) rfl (by simp [Value.oneCell']) (by omega) (by omega) B_w2.out.size ?_; intro v20_w3 w3 ho1 hg1 hat1
           have pl_w3 := Lib.hid (pl_w2.out.map fun x g hh => FltAt.row hh own_w2.out (by decide) trivial hg1)
           have rel_w3 := Lib.hid (FltAt.row rel_w2.out own_w2.out (by decide) trivial hg1)
           have B_w3 := Lib.hid (below_row B_w2.out hg1 B_w2.out.size (own_ge own_w2.out))
           have own_w3 := Lib.hid ho1
           clear ho1 hg1 hat1))
      have hps : (ss.take (k + 1)) = ss.take k ++ [ss[k]] := by rw [List.take_succ_eq_append_getElem hlt]
      refine ⟨⟨k + 1, gs ++ [g], by omega, by go_num, by show World.ownsRow _ _ _ _ _ _ _; rw [fvals_snoc]; exact own_w3.out, by show Pl _ _ _ _; rw [hps]; exact pl_w3.out.snoc rel_w3.out, B_w3⟩, ?_⟩
      simp [intOf]; omega
    · obtain rfl : k = ss.length := by omega
      rw [List.take_length] at HP
      obtain ⟨A7, c7, e7, _⟩ := own_form HO.out
      subst e7
      cases b
      · go_wp2_with (first
          | (go_at_call 80; (with_reducible refine (anyMk_any A7 ss.length c7 _).mono ?_); rintro e w4 ⟨gb, rfl, hlo, hbb, hb⟩
             have low_gb := Nat.le_trans HB.out.size hlo
             have own_w4 := Lib.hid (own_below HO.out hb)
             have pl_w4 := Lib.hid (HP.out.map fun x g hh => FltAt.below hh hb)
             have B_w4 := Lib.hid (below_trans HB.out hb)
             have HBB := Lib.hid hbb
             clear hbb hlo
             clear hb)
          | (go_at_call 79; (with_reducible refine (rels_any A c xs _ (H.out.below B_w4.out) hn).mono ?_); rintro e w5 ⟨v8, ps, rfl, ho8, hp8, hb⟩
             have own_w5 := Lib.hid (own_below own_w4.out hb)
             have pl_w5 := Lib.hid (pl_w4.out.map fun x g hh => FltAt.below hh hb)
             have gb_w5 := Lib.hid (HBB.out.below hb)
             have B_w5 := Lib.hid (below_trans B_w4.out hb)
             obtain ⟨A8, c8, rfl, _⟩ := own_form ho8
             have HO8 := Lib.hid ho8
             have HP8 := Lib.hid hp8
             clear ho8 hp8
             clear hb)
          | (go_at_call 78; (with_reducible refine (anyFilter_any _ _ gb A7 ss.length c7 gs ss A8 xs.length c8 ps xs _ gb_w5.out (own_sl1 own_w5.out hl2) pl_w5.out rfl (own_sl1 HO8.out hl) HP8.out rfl hn).mono ?_); rintro e w6 ⟨v9, qs, rfl, hqs, ho9, hp9, hb⟩
             have own_w6 := Lib.hid (own_below own_w5.out hb)
             have pl_w6 := Lib.hid (pl_w5.out.map fun x g hh => FltAt.below hh hb)
             have gb_w6 := Lib.hid (gb_w5.out.below hb)
             have own8_w6 := Lib.hid (own_below HO8.out hb)
             have pl8_w6 := Lib.hid (HP8.out.map fun x g hh => RelAt.below hh hb)
             have B_w6 := Lib.hid (below_trans B_w5.out hb)
             obtain ⟨A9, c9, rfl, _⟩ := own_form ho9
             have HO9 := Lib.hid ho9
             have HP9 := Lib.hid hp9
             have HQ0 := Lib.hid (show qs.length = _ from hp9.1)
             have hq1 : qs.length ≤ 9223372036854775807 := by omega
             have hq2 : qs.length ≤ 1000000 := by omega
             clear ho9 hp9
             clear hb)
          | (go_at_call 76; (with_reducible refine (relsTold_any _ A9 qs.length c9 qs _ _ (own_sl1 HO9.out hq1) HP9.out HQ0.out.symm hq2).mono ?_); rintro e w7 ⟨v10, rfl, ho10, hb⟩
             have own_w7 := Lib.hid (own_below own_w6.out hb)
             have pl_w7 := Lib.hid (pl_w6.out.map fun x g hh => FltAt.below hh hb)
             have gb_w7 := Lib.hid (gb_w6.out.below hb)
             have own8_w7 := Lib.hid (own_below own8_w6.out hb)
             have pl8_w7 := Lib.hid (pl8_w6.out.map fun x g hh => RelAt.below hh hb)
             have own9_w7 := Lib.hid (own_below HO9.out hb)
             have pl9_w7 := Lib.hid (HP9.out.map fun x g hh => RelAt.below hh hb)
             have B_w7 := Lib.hid (below_trans B_w6.out hb)
             have HO10 := Lib.hid (own_mono ho10 B_w6.out.size)
             have HQL := HQ0
             clear ho10
             clear hb))
        go_ret
        refine ⟨_, rfl, ?_, B_w7.out⟩
        have hE := HO10.out
        rw [HQL.out] at hE
        exact hE
      · go_wp2_with (first
          | (go_at_call 77; (with_reducible refine (allMk_any A7 ss.length c7 _).mono ?_); rintro e w8 ⟨gb, rfl, hlo, hbb, hb⟩
             have low_gb := Nat.le_trans HB.out.size hlo
             have own_w8 := Lib.hid (own_below HO.out hb)
             have pl_w8 := Lib.hid (HP.out.map fun x g hh => FltAt.below hh hb)
             have B_w8 := Lib.hid (below_trans HB.out hb)
             have HBB := Lib.hid hbb
             clear hbb hlo
             clear hb)
          | (go_at_call 79; (with_reducible refine (rels_any A c xs _ (H.out.below B_w8.out) hn).mono ?_); rintro e w9 ⟨v8, ps, rfl, ho8, hp8, hb⟩
             have own_w9 := Lib.hid (own_below own_w8.out hb)
             have pl_w9 := Lib.hid (pl_w8.out.map fun x g hh => FltAt.below hh hb)
             have gb_w9 := Lib.hid (HBB.out.below hb)
             have B_w9 := Lib.hid (below_trans B_w8.out hb)
             obtain ⟨A8, c8, rfl, _⟩ := own_form ho8
             have HO8 := Lib.hid ho8
             have HP8 := Lib.hid hp8
             clear ho8 hp8
             clear hb)
          | (go_at_call 78; (with_reducible refine (allFilter_any _ _ gb A7 ss.length c7 gs ss A8 xs.length c8 ps xs _ gb_w9.out (own_sl1 own_w9.out hl2) pl_w9.out rfl (own_sl1 HO8.out hl) HP8.out rfl hn).mono ?_); rintro e w10 ⟨v9, qs, rfl, hqs, ho9, hp9, hb⟩
             have own_w10 := Lib.hid (own_below own_w9.out hb)
             have pl_w10 := Lib.hid (pl_w9.out.map fun x g hh => FltAt.below hh hb)
             have gb_w10 := Lib.hid (gb_w9.out.below hb)
             have own8_w10 := Lib.hid (own_below HO8.out hb)
             have pl8_w10 := Lib.hid (HP8.out.map fun x g hh => RelAt.below hh hb)
             have B_w10 := Lib.hid (below_trans B_w9.out hb)
             obtain ⟨A9, c9, rfl, _⟩ := own_form ho9
             have HO9 := Lib.hid ho9
             have HP9 := Lib.hid hp9
             have HQ0 := Lib.hid (show qs.length = _ from hp9.1)
             have hq1 : qs.length ≤ 9223372036854775807 := by omega
             have hq2 : qs.length ≤ 1000000 := by omega
             clear ho9 hp9
             clear hb)
          | (go_at_call 76; (with_reducible refine (relsTold_any _ A9 qs.length c9 qs _ _ (own_sl1 HO9.out hq1) HP9.out HQ0.out.symm hq2).mono ?_); rintro e w11 ⟨v10, rfl, ho10, hb⟩
             have own_w11 := Lib.hid (own_below own_w10.out hb)
             have pl_w11 := Lib.hid (pl_w10.out.map fun x g hh => FltAt.below hh hb)
             have gb_w11 := Lib.hid (gb_w10.out.below hb)
             have own8_w11 := Lib.hid (own_below own8_w10.out hb)
             have pl8_w11 := Lib.hid (pl8_w10.out.map fun x g hh => RelAt.below hh hb)
             have own9_w11 := Lib.hid (own_below HO9.out hb)
             have pl9_w11 := Lib.hid (HP9.out.map fun x g hh => RelAt.below hh hb)
             have B_w11 := Lib.hid (below_trans B_w10.out hb)
             have HO10 := Lib.hid (own_mono ho10 B_w10.out.size)
             have HQL := HQ0
             clear ho10
             clear hb))
        go_ret
        refine ⟨_, rfl, ?_, B_w11.out⟩
        have hE := HO10.out
        rw [HQL.out] at hE
        exact hE
end Go.Proofs.Ytdgblfldbikneaa
