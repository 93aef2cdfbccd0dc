/- Contracts: stReleases, stList. -/
import Derived.Test.YtdgblfldbikneaaE5
namespace Go.Proofs.Ytdgblfldbikneaa
open Go.RowKit Go.Lib
set_option linter.unusedVariables false
set_option linter.unusedSimpArgs false
theorem Rows.cellsAt {w : World} {ad : Addr} {C : Nat} {rows : List (List Value)} (h : Rows w (some ad) C rows) {j : Nat} {row : List Value} (hj : rows[j]? = some row) : ∀ i u, row[i]? = some u → w.cell? ((ad.add (j * C)).add i) = some u := by
  obtain ⟨ad', e, h⟩ := h.at_ hj
  injection e with e
  subst e
  exact h
theorem stRelease_is (x : Ty53) (b : Bool) (w : World) (hx : x.ok w) (h : relF x = b) : Calls Try.prog 74 #[.agg #[.string x.fName, .string x.fNamespace, .string x.fStatus, .int .i64 x.fVersion, .int .i64 x.fAt]] w fun e w' => e = .returned (.bool b) ∧ Below w.heap.size w w' := by
  rw [← h]
  exact stRelease_any x w hx
def relsF (xs : List Ty53) : Bool := xs.all relF && decide (xs.length ≤ 20)
theorem relsF_yes {xs : List Ty53} {b : Bool} (h : ∀ j, ∀ h : j < xs.length, relF xs[j] = true) (hb : decide (xs.length ≤ 20) = b) : relsF xs = b := by
  have e : xs.all relF = true := by
    rw [List.all_eq_true]
    intro x hx
    obtain ⟨j, hj, rfl⟩ := List.mem_iff_getElem.1 hx
    exact h j hj
  rw [relsF, e, hb, Bool.true_and]
theorem relsF_no {xs : List Ty53} {k : Nat} (h : k < xs.length) (e : relF xs[k] = false) : relsF xs = false := by
  have e2 : xs.all relF = false := by
    rw [List.all_eq_false]
    exact ⟨_, List.getElem_mem h, by simp [e]⟩
  rw [relsF, e2, Bool.false_and]
set_option maxRecDepth 100000 in
set_option maxHeartbeats 4000000 in
theorem stReleases_any (A : Option Addr) (c : Nat) (xs : List Ty53) (w : World) (h : Rows w A 5 (xs.map Ty53.cells)) (hx : ∀ x ∈ xs, x.ok w) :
    Calls Try.prog 30 #[.slice A xs.length c] w fun e w' => e = .returned (.bool (relsF xs)) ∧ Below w.heap.size w w' := by
  have hl : xs.length ≤ 9223372036854775807 := by simpa using h.1
  have H := Lib.hid h
  have HX := Lib.hid hx
  clear h hx
  go_enter Try.func30, Try.ntmps30
  go_wp2_with fail
  go_loopw [7] (fun i wr => ∃ k : Nat, k ≤ xs.length ∧ i = .int .i64 k ∧ Hid (∀ j, ∀ h : j < xs.length, j < k → relF xs[j] = true) ∧ Hid (Below w.heap.size w wr)) (fun i _ => xs.length - (intOf i).toNat)
  case atStart => exact ⟨0, Nat.zero_le _, rfl, fun j _ h => by omega, Below.refl _ _⟩
  case round =>
    obtain ⟨k, hk, rfl, HA, HB⟩ := hrel
    by_cases hlt : k < xs.length
    · obtain ⟨ad, rfl, hx⟩ := (H.out.below HB.out).at_ (j := k) (row := xs[k].cells) (by simp [hlt])
      have HC := Lib.hid hx
      have HK : ∀ W, xs[k].ok W := fun W => HX.out xs[k] (List.getElem_mem hlt)
      clear hx
      cases hd : relF xs[k]
      · skip
        go_wp2_with (first
          | ((with_reducible refine at_dst (N := 10) rfl ?_); refine ev_loadR rfl 53 _ rfl _ rfl [.string (xs[k].fName), .string (xs[k].fNamespace), .string (xs[k].fStatus), .int .i64 (xs[k].fVersion), .int .i64 (xs[k].fAt)] (HC.out) _ Try.underlying53 rfl tsz53 ?_)
          | ((with_reducible refine at_dst (N := 4) rfl ?_); refine ev_alloc rfl 53 rfl _ _ tz53 ?_; intro g4 w1 hg hB hb
             have low_g4 := Nat.le_trans HB.out.size hg
             have B_w1 := Lib.hid (below_trans HB.out hb)
             have g4_w1 : Hid (Blk w1 g4 53 #[.string ⟨#[]⟩, .string ⟨#[]⟩, .string ⟨#[]⟩, .int .i64 0, .int .i64 0]) := hB
             clear hB hb)
          | (refine ev_store rfl 53 _ _ rfl g4 _ _ rfl rfl 53 g4_w1.out tsz53 rfl rfl ?_; intro w2 hB hg hz
             have B_w2 := Lib.hid (below_grown B_w1.out hg B_w1.out.size low_g4)
             have g4_w2 : Hid (Blk w2 g4 53 #[.string (xs[k].fName), .string (xs[k].fNamespace), .string (xs[k].fStatus), .int .i64 (xs[k].fVersion), .int .i64 (xs[k].fAt)]) := hB
             clear hB hg hz)
          | ((with_reducible refine at_dst (N := 11) rfl ?_); refine ev_loadB rfl 53 _ rfl g4 rfl 53 _ g4_w2.out _ Try.underlying53 rfl tsz53 ?_)
          | (go_at_call 74; (with_reducible refine (stRelease_is xs[k] false _ (HK _) hd).mono ?_); rintro e w3 ⟨rfl, hb⟩
             have g4_w3 := Lib.hid (g4_w2.out.below hb)
             have B_w3 := Lib.hid (below_trans B_w2.out hb)
             clear hb))
        go_ret
        exact ⟨ret_bool (relsF_no hlt hd).symm, B_w3.out⟩
      · skip
        go_wp2_with (first
          | ((with_reducible refine at_dst (N := 10) rfl ?_); refine ev_loadR rfl 53 _ rfl _ rfl [.string (xs[k].fName), .string (xs[k].fNamespace), .string (xs[k].fStatus), .int .i64 (xs[k].fVersion), .int .i64 (xs[k].fAt)] (HC.out) _ Try.underlying53 rfl tsz53 ?_)
          | ((with_reducible refine at_dst (N := 4) rfl ?_); refine ev_alloc rfl 53 rfl _ _ tz53 ?_; intro g4 w4 hg hB hb
             have low_g4 := Nat.le_trans HB.out.size hg
             have B_w4 := Lib.hid (below_trans HB.out hb)
             have g4_w4 : Hid (Blk w4 g4 53 #[.string ⟨#[]⟩, .string ⟨#[]⟩, .string ⟨#[]⟩, .int .i64 0, .int .i64 0]) := hB
             clear hB hb)
          | (refine ev_store rfl 53 _ _ rfl g4 _ _ rfl rfl 53 g4_w4.out tsz53 rfl rfl ?_; intro w5 hB hg hz
             have B_w5 := Lib.hid (below_grown B_w4.out hg B_w4.out.size low_g4)
             have g4_w5 : Hid (Blk w5 g4 53 #[.string (xs[k].fName), .string (xs[k].fNamespace), .string (xs[k].fStatus), .int .i64 (xs[k].fVersion), .int .i64 (xs[k].fAt)]) := hB
             clear hB hg hz)
          | ((with_reducible refine at_dst (N := 11) rfl ?_); refine ev_loadB rfl 53 _ rfl g4 rfl 53 _ g4_w5.out _ Try.underlying53 rfl tsz53 ?_)
          | (go_at_call 74; (with_reducible refine (stRelease_is xs[k] true _ (HK _) hd).mono ?_); rintro e w6 ⟨rfl, hb⟩
             have g4_w6 := Lib.hid (g4_w5.out.below hb)
             have B_w6 := Lib.hid (below_trans B_w5.out hb)
             clear hb))
        refine ⟨⟨k + 1, by omega, by go_num, fun j hj h2 => ?_, B_w6⟩, ?_⟩
        · by_cases e : j = k
          · subst e; exact hd
          · exact HA.out j hj (by omega)
        · simp [intOf]; omega
    · obtain rfl : k = xs.length := by omega
      have HY := Lib.hid fun b hb => relsF_yes (b := b) (fun j hj => HA.out j hj hj) hb
      clear hlt
      by_cases h20 : xs.length ≤ 20
      · have E := Lib.hid (decide_eq_true h20)
        have d : ((xs.length : Int) ≤ 20) := by omega
        go_wp2_with fail
        go_ret
        exact ⟨ret_bool (HY.out _ E.out).symm, HB.out⟩
      · have E := Lib.hid (decide_eq_false h20)
        have d : ¬ ((xs.length : Int) ≤ 20) := by omega
        go_wp2_with fail
        go_ret
        exact ⟨ret_bool (HY.out _ E.out).symm, HB.out⟩
set_option maxRecDepth 100000 in
set_option maxHeartbeats 4000000 in
theorem stList_same (A : Option Addr) (c : Nat) (A2 : Option Addr) (c2 : Nat) (xs : List Ty53) (w : World) (h : Rows w A 5 (xs.map Ty53.cells)) (h2 : Rows w A2 5 (xs.map Ty53.cells)) :
    Calls Try.prog 32 #[.slice A xs.length c, .slice A2 xs.length c2] w fun e w' => e = .returned (.bool true) ∧ Below w.heap.size w w' := by
  have hl : xs.length ≤ 9223372036854775807 := by simpa using h.1
  have H := Lib.hid h
  have H2 := Lib.hid h2
  clear h h2
  go_enter Try.func32, Try.ntmps32
  go_wp2_with fail
  go_loopw [14] (fun i wr => ∃ k : Nat, k ≤ xs.length ∧ i = .int .i64 k ∧ Hid (Below w.heap.size w wr)) (fun i _ => xs.length - (intOf i).toNat)
  case atStart => exact ⟨0, Nat.zero_le _, rfl, Below.refl _ _⟩
  case round =>
    obtain ⟨k, hk, rfl, HB⟩ := hrel
    by_cases hlt : k < xs.length
    · obtain ⟨ad, rfl, hx⟩ := (H.out.below HB.out).at_ (j := k) (row := xs[k].cells) (by simp [hlt])
      obtain ⟨ad2, rfl, hx2⟩ := (H2.out.below HB.out).at_ (j := k) (row := xs[k].cells) (by simp [hlt])
      have HC := Lib.hid hx
      have hj : (xs.map Ty53.cells)[k]? = some xs[k].cells := by simp [hlt]
      have HJ := Lib.hid hj
      clear hx hx2 hj
      have b0 : (0 : Int) ≤ (k : Int) := by omega
      have b1 : (k : Int) < (xs.length : Int) := by omega
      have b3 : ((k : Int)).toNat = k := by omega
      go_upto_region 6 with (first
        | ((with_reducible refine at_dst (N := 18) rfl ?_); refine ev_loadR rfl 53 _ rfl _ rfl [.string (xs[k].fName), .string (xs[k].fNamespace), .string (xs[k].fStatus), .int .i64 (xs[k].fVersion), .int .i64 (xs[k].fAt)] (HC.out) _ Try.underlying53 rfl tsz53 ?_)
        | ((with_reducible refine at_dst (N := 6) rfl ?_); refine ev_alloc rfl 53 rfl _ _ tz53 ?_; intro g6 w1 hg hB hb
           have low_g6 := Nat.le_trans HB.out.size hg
           have B_w1 := Lib.hid (below_trans HB.out hb)
           have g6_w1 : Hid (Blk w1 g6 53 #[.string ⟨#[]⟩, .string ⟨#[]⟩, .string ⟨#[]⟩, .int .i64 0, .int .i64 0]) := hB
           clear hB hb)
        | (refine ev_store rfl 53 _ _ rfl g6 _ _ rfl rfl 53 g6_w1.out tsz53 rfl rfl ?_; intro w2 hB hg hz
           have B_w2 := Lib.hid (below_grown B_w1.out hg B_w1.out.size low_g6)
           have g6_w2 : Hid (Blk w2 g6 53 #[.string (xs[k].fName), .string (xs[k].fNamespace), .string (xs[k].fStatus), .int .i64 (xs[k].fVersion), .int .i64 (xs[k].fAt)]) := hB
           clear hB hg hz))
      refine wp_region_grow [some [], some [], some [], some [(1, 20), (2, 21)], some [(3, 22)], none]
          [fun vv _ => vv = .agg #[.string (xs[k].fName), .string (xs[k].fNamespace), .string (xs[k].fStatus), .int .i64 (xs[k].fVersion), .int .i64 (xs[k].fAt)],
           fun vv _ => vv = .slice (some ad2) xs.length c2,
           fun vv _ => vv = .int .i64 (↑k),
           fun vv _ => vv = .pointer (some (ad2.add (k * 5))),
           fun vv _ => vv = .agg #[.string (xs[k].fName), .string (xs[k].fNamespace), .string (xs[k].fStatus), .int .i64 (xs[k].fVersion), .int .i64 (xs[k].fAt)],
           fun _ _ => True] 26 (by kernel_rfl) rfl rfl (by kernel_rfl) ?_ ?_ ?_
      · intro p hp
        simp only [List.mem_cons, List.not_mem_nil, or_false] at hp
        rcases hp with rfl | rfl | rfl | rfl | rfl | rfl
        · exact stab_eq _
        · exact stab_eq _
        · exact stab_eq _
        · exact stab_eq _
        · exact stab_eq _
        · exact stab_true
      · simp only [oblGo, obl1, withDeps, oblK, postAt, List.getD_cons_zero, List.getD_cons_succ, forall_eq]
        refine ⟨?_, ?_, ?_, ?_, ?_, trivial⟩
        · intro wg hg
          exact gr_ldm 53 _ rfl g6 0 rfl 53 _ (g6_w2.out.below hg) 5 (by simp) _ Try.underlying53 rfl tsz53 rfl
        · intro wg hg
          go_simp
        · intro wg hg
          go_simp
        · intro wg hg
          go_simp
        · intro wg hg
          exact gr_ldr 53 _ rfl _ rfl [.string (xs[k].fName), .string (xs[k].fNamespace), .string (xs[k].fStatus), .int .i64 (xs[k].fVersion), .int .i64 (xs[k].fAt)] (fun i u hu => hg.cell (((H2.out.below B_w2.out).cellsAt HJ.out) i u hu)) _ Try.underlying53 rfl tsz53 rfl
      simp only [headDs, withDeps, postAt, List.getD_cons_zero, List.getD_cons_succ, forall_eq, tailOps]
      intro w3 hgr
      simp only [Act.put, List.setIfInBounds_toArray, List.set_cons_succ, List.set_cons_zero]
      have g6_w3 := Lib.hid (g6_w2.out.below (show Below _ _ _ from hgr))
      have B_w3 := Lib.hid (below_trans B_w2.out (show Below _ _ _ from hgr))
      clear hgr
      go_wp2_with fail
      refine ⟨⟨k + 1, by omega, by go_num, B_w3⟩, ?_⟩
      simp [intOf]; omega
    · obtain rfl : k = xs.length := by omega
      go_wp2_with fail
      go_ret
      exact ⟨rfl, HB.out⟩
end Go.Proofs.Ytdgblfldbikneaa
