/- FnFilterReleases: the walk. -/
import Derived.Test.YtdgblfldbikneaaE6
import Derived.Test.YtdgblfldbikneaaFz
namespace Go.Proofs.Ytdgblfldbikneaa
open Go.RowKit Go.Lib
set_option linter.unusedVariables false
set_option linter.unusedSimpArgs false
theorem fits29_is (A : Option Addr) (c : Nat) (xs : List Ty53) (b : Bool) (w : World) (h : Rows w A 5 (xs.map Ty53.cells)) (hok : ∀ x ∈ xs, x.ok w) (hb : fits29 xs = b) :
    Calls Try.prog 29 #[.slice A xs.length c] w fun e w' => e = .returned (.bool b) ∧ Below w.heap.size w w' := by
  rw [← hb]; exact fits29_any A c xs w h hok
theorem fits3_is (A : Option Addr) (c : Nat) (xs : List ByteArray) (b : Bool) (w : World) (h : Sl w A (strs xs)) (hb : fits3 xs = b) :
    Calls Try.prog 18 #[.slice A xs.length c] w fun e w' => e = .returned (.bool b) ∧ w = w' := by
  rw [← hb]; exact zzFits3_any A c xs w h
theorem stReleases_is (A : Option Addr) (c : Nat) (xs : List Ty53) (b : Bool) (w : World) (h : Rows w A 5 (xs.map Ty53.cells)) (hx : ∀ x ∈ xs, x.ok w) (hb : relsF xs = b) :
    Calls Try.prog 30 #[.slice A xs.length c] w fun e w' => e = .returned (.bool b) ∧ Below w.heap.size w w' := by
  rw [← hb]; exact stReleases_any A c xs w h hx
theorem filtRels_all (A : Option Addr) (c : Nat) (xs : List Ty53) (A2 : Option Addr) (c2 : Nat) (ss : List ByteArray) (w : World) (h : Rows w A 5 (xs.map Ty53.cells)) (h2 : Sl w A2 (strs ss)) (hn : xs.length ≤ 1000000) (hn2 : ss.length ≤ 1000000) :
    Calls Try.prog 31 #[.slice A xs.length c, .slice A2 ss.length c2, .bool true] w fun e w' => ∃ v, e = .returned v ∧ w'.ownsRow w.heap.size 53 5 v (xs.filter fun x => allF ss x.fStatus).length (flatC Ty53.cells (xs.filter fun x => allF ss x.fStatus)) ∧ Below w.heap.size w w' := by
  have h0 := filtRels_any A c xs A2 c2 ss true w h h2 hn hn2
  simpa only [if_true] using h0
theorem filtRels_some (A : Option Addr) (c : Nat) (xs : List Ty53) (A2 : Option Addr) (c2 : Nat) (ss : List ByteArray) (w : World) (h : Rows w A 5 (xs.map Ty53.cells)) (h2 : Sl w A2 (strs ss)) (hn : xs.length ≤ 1000000) (hn2 : ss.length ≤ 1000000) :
    Calls Try.prog 31 #[.slice A xs.length c, .slice A2 ss.length c2, .bool false] w fun e w' => ∃ v, e = .returned v ∧ w'.ownsRow w.heap.size 53 5 v (xs.filter fun x => anyF ss x.fStatus).length (flatC Ty53.cells (xs.filter fun x => anyF ss x.fStatus)) ∧ Below w.heap.size w w' := by
  have h0 := filtRels_any A c xs A2 c2 ss false w h h2 hn hn2
  simpa only [if_false, Bool.false_eq_true] using h0
def failRel : Ty53 := ⟨⟨#[]⟩, ⟨#[]⟩, ⟨#[102, 97, 105, 108, 101, 100]⟩, 0, 0⟩
theorem filtRels_one (g s : Nat) (w : World) (h : Blk w g 53 #[.string ⟨#[]⟩, .string ⟨#[]⟩, .string ⟨#[102, 97, 105, 108, 101, 100]⟩, .int .i64 0, .int .i64 0]) (h2 : Blk w s 9 #[.string ⟨#[102, 97, 105, 108, 101, 100]⟩]) :
    Calls Try.prog 31 #[.slice (some ⟨g, 0, none⟩) 1 1, .slice (some ⟨s, 0, none⟩) 1 1, .bool false] w fun e w' => ∃ A c, e = .returned (.slice A 1 c) ∧ Below w.heap.size w w' := by
  have h3 : Rows w (some ⟨g, 0, none⟩) 5 ([failRel].map Ty53.cells) := (h.sl (by decide)).toRows (by decide) (fun row hr => by simp only [List.map_cons, List.map_nil, List.mem_singleton] at hr; rw [hr]; rfl) rfl
  have h4 : Sl w (some ⟨s, 0, none⟩) (strs [⟨#[102, 97, 105, 108, 101, 100]⟩]) := h2.sl (by decide)
  have h0 := filtRels_some (some ⟨g, 0, none⟩) 1 [failRel] (some ⟨s, 0, none⟩) 1 [⟨#[102, 97, 105, 108, 101, 100]⟩] w h3 h4 (by decide) (by decide)
  refine h0.mono ?_
  rintro e w' ⟨v, rfl, ho, hb⟩
  have e1 : ([failRel].filter fun x => anyF [⟨#[102, 97, 105, 108, 101, 100]⟩] x.fStatus) = [failRel] := by simp [anyF, failRel]
  rw [e1] at ho
  obtain ⟨A, c, rfl, _⟩ := own_form ho
  exact ⟨A, c, rfl, hb⟩
theorem own_fresh {w : World} {base : Nat} {e : TypeId} {sz n : Nat} {v : Value} {cs : List Value} {g : Nat} (h : w.ownsRow base e sz v n cs) (hg : w.heap.size ≤ g) : v.ownBlock ≠ some g := fun h2 => by
  have := own_lt h g h2
  omega
theorem anyF_snoc {ss : List ByteArray} {j : Nat} (h : j < ss.length) (s : ByteArray) : anyF (ss.take (j + 1)) s = (anyF (ss.take j) s || (ss[j].toList == s.toList)) := by
  rw [anyF, anyF, List.take_succ_eq_append_getElem h, List.any_append, bytes_eq]
  simp [eq_comm]
theorem allF_snoc {ss : List ByteArray} {j : Nat} (h : j < ss.length) (s : ByteArray) : allF (ss.take (j + 1)) s = (allF (ss.take j) s && (ss[j].toList == s.toList)) := by
  rw [allF, allF, List.take_succ_eq_append_getElem h, List.all_append, bytes_eq]
  simp [eq_comm]
theorem filt_snoc {G : Ty53 → Bool} {xs : List Ty53} {k : Nat} (h : k < xs.length) : (xs.take (k + 1)).filter G = (xs.take k).filter G ++ if G xs[k] then [xs[k]] else [] := by
  rw [List.take_succ_eq_append_getElem h, List.filter_append]
  by_cases hq : G xs[k] = true <;> simp [List.filter_cons, hq]
set_option maxRecDepth 100000 in
set_option maxHeartbeats 16000000 in
theorem fnFilterReleases_walk (A : Option Addr) (c : Nat) (xs : List Ty53) (A2 : Option Addr) (c2 : Nat) (ss : List ByteArray) (b : Bool) (w : World) (h : Rows w A 5 (xs.map Ty53.cells)) (_hcap : xs.length ≤ c) (hok : ∀ x ∈ xs, x.ok w) (h2 : Sl w A2 (strs ss)) (_hcap2 : ss.length ≤ c2) :
    Calls Try.prog 8 #[.slice A xs.length c, .slice A2 ss.length c2, .bool b] w fun e w' => e = .returned (.bool true) ∧ Below w.heap.size w w' := by
  have hl : xs.length ≤ 9223372036854775807 := by simpa using h.1
  have hl2 : ss.length ≤ 9223372036854775807 := by simpa [strs] using h2.1
  have H := Lib.hid h
  have H2 := Lib.hid h2
  have HX := Lib.hid hok
  have HX2 : ∀ W, ∀ x ∈ xs, x.ok W := fun W => hok
  clear h h2 hok
  cases hf1 : fits29 xs
  · have HF := Lib.hid hf1
    go_enter Try.func8, Try.ntmps8
    go_wp2_with (first
      | (go_at_call 29; (with_reducible refine (fits29_is A c xs false _ (H.out) HX.out hf1).mono ?_); rintro e w1 ⟨rfl, hb⟩
         have B_w1 := Lib.hid (below_trans (Below.refl _ _) hb)
         clear hb))
    go_ret
    exact ⟨rfl, B_w1.out⟩
  · cases hf2 : fits3 ss
    · have HF := Lib.hid hf2
      go_enter Try.func8, Try.ntmps8
      go_wp2_with (first
        | (go_at_call 29; (with_reducible refine (fits29_is A c xs true _ (H.out) HX.out hf1).mono ?_); rintro e w1 ⟨rfl, hb⟩
           have B_w1 := Lib.hid (below_trans (Below.refl _ _) hb)
           clear hb)
        | (go_at_call 18; (with_reducible refine (fits3_is A2 c2 ss false _ (H2.out.below B_w1.out) hf2).mono ?_); rintro e wq ⟨rfl, rfl⟩))
      go_ret
      exact ⟨rfl, B_w1.out⟩
    · cases hf3 : relsF xs
      · have HF := Lib.hid hf3
        go_enter Try.func8, Try.ntmps8
        go_wp2_with (first
          | (go_at_call 29; (with_reducible refine (fits29_is A c xs true _ (H.out) HX.out hf1).mono ?_); rintro e w1 ⟨rfl, hb⟩
             have B_w1 := Lib.hid (below_trans (Below.refl _ _) hb)
             clear hb)
          | (go_at_call 18; (with_reducible refine (fits3_is A2 c2 ss true _ (H2.out.below B_w1.out) hf2).mono ?_); rintro e wq ⟨rfl, rfl⟩)
          | (go_at_call 30; (with_reducible refine (stReleases_is A c xs false _ (H.out.below B_w1.out) (HX2 _) hf3).mono ?_); rintro e w3 ⟨rfl, hb⟩
             have B_w3 := Lib.hid (below_trans B_w1.out hb)
             clear hb))
        go_ret
        exact ⟨rfl, B_w3.out⟩
      · by_cases h5 : 5 < ss.length
        · have d5 : (5 : Int) < (ss.length : Int) := by omega
          go_enter Try.func8, Try.ntmps8
          go_wp2_with (first
            | (go_at_call 29; (with_reducible refine (fits29_is A c xs true _ (H.out) HX.out hf1).mono ?_); rintro e w1 ⟨rfl, hb⟩
               have B_w1 := Lib.hid (below_trans (Below.refl _ _) hb)
               clear hb)
            | (go_at_call 18; (with_reducible refine (fits3_is A2 c2 ss true _ (H2.out.below B_w1.out) hf2).mono ?_); rintro e wq ⟨rfl, rfl⟩)
            | (go_at_call 30; (with_reducible refine (stReleases_is A c xs true _ (H.out.below B_w1.out) (HX2 _) hf3).mono ?_); rintro e w3 ⟨rfl, hb⟩
               have B_w3 := Lib.hid (below_trans B_w1.out hb)
               clear hb))
          go_ret
          exact ⟨rfl, B_w3.out⟩
        · have d5 : ¬ (5 : Int) < (ss.length : Int) := by omega
          have hs5 : ss.length ≤ 5 := by omega
          have hn : xs.length ≤ 20 := by rw [relsF, Bool.and_eq_true, decide_eq_true_eq] at hf3; exact hf3.2
          clear h5
          cases b
          · skip
            go_enter Try.func8, Try.ntmps8
            go_wp2_with (first
              | (go_at_call 29; (with_reducible refine (fits29_is A c xs true _ (H.out) HX.out hf1).mono ?_); rintro e w1 ⟨rfl, hb⟩
                 have B_w1 := Lib.hid (below_trans (Below.refl _ _) hb)
                 clear hb)
              | (go_at_call 18; (with_reducible refine (fits3_is A2 c2 ss true _ (H2.out.below B_w1.out) hf2).mono ?_); rintro e wq ⟨rfl, rfl⟩)
              | (go_at_call 30; (with_reducible refine (stReleases_is A c xs true _ (H.out.below B_w1.out) (HX2 _) hf3).mono ?_); rintro e w3 ⟨rfl, hb⟩
                 have B_w3 := Lib.hid (below_trans B_w1.out hb)
                 clear hb))
            clear d5
            go_wp2_with fail
            go_loopw [7, 34] (fun v i wr => ∃ k : Nat, ∃ ys : List Ty53, k ≤ xs.length ∧ i = .int .i64 k ∧ ys.length ≤ k ∧ Hid (ys = (xs.take k).filter (fun x => anyF ss x.fStatus)) ∧ Hid (wr.ownsRow w.heap.size 53 5 v ys.length (flatC Ty53.cells ys)) ∧ Hid (Below w.heap.size w wr)) (fun _ i _ => xs.length - (intOf i).toNat)
            case atStart => exact ⟨0, [], Nat.zero_le _, rfl, Nat.le_refl _, rfl, own_nil _ _ _ _, B_w3.out⟩
            case round =>
              obtain ⟨k, ys, hk, rfl, hyk, HY, HO, HB⟩ := hrel
              by_cases hlt : k < xs.length
              · obtain ⟨ad, rfl, hx⟩ := (H.out.below HB.out).at_ (j := k) (row := xs[k].cells) (by simp [hlt])
                have HC := Lib.hid hx
                clear hx
                have HFS := Lib.hid (filt_snoc (G := fun x => anyF ss x.fStatus) hlt)
                go_wp2_with (first
                  | ((with_reducible refine at_dst (N := 37) rfl ?_); refine ev_loadR rfl 53 _ rfl _ rfl [.string (xs[k].fName), .string (xs[k].fNamespace), .string (xs[k].fStatus), .int .i64 (xs[k].fVersion), .int .i64 (xs[k].fAt)] (HC.out) _ Try.underlying53 rfl tsz53 ?_)
                  | ((with_reducible refine at_dst (N := 9) rfl ?_); refine ev_alloc rfl 53 rfl _ _ tz53 ?_; intro g9 w4 hg hB hb
                     have low_g9 := Nat.le_trans HB.out.size hg
                     have nr_own_g9 := own_fresh HO.out hg
                     have own_w4 := Lib.hid (own_below HO.out hb)
                     have B_w4 := Lib.hid (below_trans HB.out hb)
                     have g9_w4 : Hid (Blk w4 g9 53 #[.string ⟨#[]⟩, .string ⟨#[]⟩, .string ⟨#[]⟩, .int .i64 0, .int .i64 0]) := hB
                     clear hB hb)
                  | (refine ev_store rfl 53 _ _ rfl g9 _ _ rfl rfl 53 g9_w4.out tsz53 rfl rfl ?_; intro w5 hB hg hz
                     have own_w5 := Lib.hid (own_grown own_w4.out hg nr_own_g9)
                     have B_w5 := Lib.hid (below_grown B_w4.out hg B_w4.out.size low_g9)
                     have g9_w5 : Hid (Blk w5 g9 53 #[.string (xs[k].fName), .string (xs[k].fNamespace), .string (xs[k].fStatus), .int .i64 (xs[k].fVersion), .int .i64 (xs[k].fAt)]) := hB
                     clear hB hg hz))
                go_wp2_with fail
                go_loopw [10, 11, 40] (fun p q i wx => ∃ j : Nat, j ≤ ss.length ∧ i = .int .i64 j ∧ p = .bool (anyF (ss.take j) xs[k].fStatus) ∧ q = .bool (allF (ss.take j) xs[k].fStatus) ∧ Hid (wx.ownsRow w.heap.size 53 5 u7 ys.length (flatC Ty53.cells ys)) ∧ Hid (Blk wx g9 53 #[.string (xs[k].fName), .string (xs[k].fNamespace), .string (xs[k].fStatus), .int .i64 (xs[k].fVersion), .int .i64 (xs[k].fAt)]) ∧ Hid (Below w.heap.size w wx)) (fun _ _ i _ => ss.length - (intOf i).toNat)
                case atStart => exact ⟨0, Nat.zero_le _, rfl, rfl, rfl, own_w5, g9_w5, B_w5⟩
                case round =>
                  obtain ⟨j, hj, rfl, rfl, rfl, HO2, HB9, HW⟩ := hrel
                  by_cases hjl : j < ss.length
                  · obtain ⟨ad2, rfl, hx2⟩ := (H2.out.below HW.out).at_ (j := j) (u := .string ss[j]) (by simp [strs, hjl])
                    have HC2 := Lib.hid hx2
                    have HNY := Lib.hid (anyF_snoc hjl xs[k].fStatus)
                    have HNL := Lib.hid (allF_snoc hjl xs[k].fStatus)
                    clear hx2
                    cases hp : anyF (ss.take j) xs[k].fStatus <;> cases hq : allF (ss.take j) xs[k].fStatus <;> cases he : ss[j].toList == xs[k].fStatus.toList
                    · rw [hp, he] at HNY
                      rw [hq, he] at HNL
                      have HE := Lib.hid (show True from trivial)
                      have q0 : wr.cell? ⟨g9, 2, none⟩ = some (.string xs[k].fStatus) := HB9.out.cell 2
                      have q1 := HC2.out
                      go_upto_region 13 with fail
                      go_region
                      go_wp2_with fail
                      refine ⟨⟨j + 1, by omega, by go_num, ?_, ?_, HO2, HB9, HW.out.drew⟩, ?_⟩
                      · rw [HNY.out]; rfl
                      · rw [HNL.out]; rfl
                      · simp [intOf]; omega
                    · rw [hp, he] at HNY
                      rw [hq, he] at HNL
                      have HE := Lib.hid (show True from trivial)
                      have q0 : wr.cell? ⟨g9, 2, none⟩ = some (.string xs[k].fStatus) := HB9.out.cell 2
                      have q1 := HC2.out
                      go_upto_region 13 with fail
                      go_region
                      go_wp2_with fail
                      refine ⟨⟨j + 1, by omega, by go_num, ?_, ?_, HO2, HB9, HW.out.drew⟩, ?_⟩
                      · rw [HNY.out]; rfl
                      · rw [HNL.out]; rfl
                      · simp [intOf]; omega
                    · rw [hp, he] at HNY
                      rw [hq, he] at HNL
                      have HE := Lib.hid (show True from trivial)
                      have q0 : wr.cell? ⟨g9, 2, none⟩ = some (.string xs[k].fStatus) := HB9.out.cell 2
                      have q1 := HC2.out
                      go_upto_region 13 with fail
                      go_region
                      go_wp2_with fail
                      refine ⟨⟨j + 1, by omega, by go_num, ?_, ?_, HO2, HB9, HW.out.drew⟩, ?_⟩
                      · rw [HNY.out]; rfl
                      · rw [HNL.out]; rfl
                      · simp [intOf]; omega
                    · rw [hp, he] at HNY
                      rw [hq, he] at HNL
                      have HE := Lib.hid (show True from trivial)
                      have q0 : wr.cell? ⟨g9, 2, none⟩ = some (.string xs[k].fStatus) := HB9.out.cell 2
                      have q1 := HC2.out
                      go_upto_region 13 with fail
                      go_region
                      go_wp2_with fail
                      refine ⟨⟨j + 1, by omega, by go_num, ?_, ?_, HO2, HB9, HW.out.drew⟩, ?_⟩
                      · rw [HNY.out]; rfl
                      · rw [HNL.out]; rfl
                      · simp [intOf]; omega
                    · rw [hp, he] at HNY
                      rw [hq, he] at HNL
                      have HE := Lib.hid (show True from trivial)
                      have q0 : wr.cell? ⟨g9, 2, none⟩ = some (.string xs[k].fStatus) := HB9.out.cell 2
                      have q1 := HC2.out
                      go_upto_region 13 with fail
                      go_region
                      go_wp2_with fail
                      refine ⟨⟨j + 1, by omega, by go_num, ?_, ?_, HO2, HB9, HW.out.drew⟩, ?_⟩
                      · rw [HNY.out]; rfl
                      · rw [HNL.out]; rfl
                      · simp [intOf]; omega
                    · rw [hp, he] at HNY
                      rw [hq, he] at HNL
                      have HE := Lib.hid (show True from trivial)
                      have q0 : wr.cell? ⟨g9, 2, none⟩ = some (.string xs[k].fStatus) := HB9.out.cell 2
                      have q1 := HC2.out
                      go_upto_region 13 with fail
                      go_region
                      go_wp2_with fail
                      refine ⟨⟨j + 1, by omega, by go_num, ?_, ?_, HO2, HB9, HW.out.drew⟩, ?_⟩
                      · rw [HNY.out]; rfl
                      · rw [HNL.out]; rfl
                      · simp [intOf]; omega
                    · rw [hp, he] at HNY
                      rw [hq, he] at HNL
                      have HE := Lib.hid (show True from trivial)
                      have q0 : wr.cell? ⟨g9, 2, none⟩ = some (.string xs[k].fStatus) := HB9.out.cell 2
                      have q1 := HC2.out
                      go_upto_region 13 with fail
                      go_region
                      go_wp2_with fail
                      refine ⟨⟨j + 1, by omega, by go_num, ?_, ?_, HO2, HB9, HW.out.drew⟩, ?_⟩
                      · rw [HNY.out]; rfl
                      · rw [HNL.out]; rfl
                      · simp [intOf]; omega
                    · rw [hp, he] at HNY
                      rw [hq, he] at HNL
                      have HE := Lib.hid (show True from trivial)
                      have q0 : wr.cell? ⟨g9, 2, none⟩ = some (.string xs[k].fStatus) := HB9.out.cell 2
                      have q1 := HC2.out
                      go_upto_region 13 with fail
                      go_region
                      go_wp2_with fail
                      refine ⟨⟨j + 1, by omega, by go_num, ?_, ?_, HO2, HB9, HW.out.drew⟩, ?_⟩
                      · rw [HNY.out]; rfl
                      · rw [HNL.out]; rfl
                      · simp [intOf]; omega
                  · obtain rfl : j = ss.length := by omega
                    have hgo : anyF (ss.take ss.length) xs[k].fStatus = anyF ss xs[k].fStatus := by rw [List.take_length]
                    skip
                    cases hd : anyF ss xs[k].fStatus
                    · have HD := Lib.hid (hgo.trans hd)
                      rw [hd] at HFS
                      clear hgo hd
                      rw [HD.out]
                      go_wp2_with fail
                      refine ⟨⟨k + 1, ys, by omega, by go_num, by omega, by show _ = _; rw [HY.out, HFS.out]; simp, HO2, HW⟩, ?_⟩
                      simp [intOf]; omega
                    · have HD := Lib.hid (hgo.trans hd)
                      rw [hd] at HFS
                      clear hgo hd
                      rw [HD.out]
                      go_wp2_with (first
                        | ((with_reducible refine at_dst (N := 71) rfl ?_); refine ev_loadB rfl 53 _ rfl g9 rfl 53 _ HB9.out _ Try.underlying53 rfl tsz53 ?_)
                        | ((with_reducible refine at_dst (N := 72) rfl ?_); refine ev_bs rfl 50 53 1 _ rfl #[.string (xs[k].fName), .string (xs[k].fNamespace), .string (xs[k].fStatus), .int .i64 (xs[k].fVersion), .int .i64 (xs[k].fAt)] (by go_simp) ?_; intro g72 w6 hg hB hb
                           have n_g9_g72 : g9 ≠ g72 := by have := HB9.out.lt; omega
                           have low_g72 := Nat.le_trans HW.out.size hg
                           have nr_own_g72 := own_fresh HO2.out hg
                           have own_w6 := Lib.hid (own_below HO2.out hb)
                           have g9_w6 := Lib.hid (HB9.out.below hb)
                           have B_w6 := Lib.hid (below_trans HW.out hb)
                           have g72_w6 : Hid (Blk w6 g72 53 #[.string (xs[k].fName), .string (xs[k].fNamespace), .string (xs[k].fStatus), .int .i64 (xs[k].fVersion), .int .i64 (xs[k].fAt)]) := hB
                           clear hB hb)
                        | ((with_reducible refine at_dst (N := 73) rfl ?_); refine ev_app rfl _ _ 50 53 rfl Try.underlying50 _ 5 _ tin53 rfl (by omega) w.heap.size _ _ _ rfl own_w6.out _ 1 1 [.string (xs[k].fName), .string (xs[k].fNamespace), .string (xs[k].fStatus), .int .i64 (xs[k].fVersion), .int .i64 (xs[k].fAt)] rfl (g72_w6.out.sl (by simp)) rfl (by simp [Value.oneCell']) (by omega) (by omega) B_w6.out.size ?_; intro v73_w7 w7 ho1 hg1 hat1
                           have g9_w7 := Lib.hid (g9_w6.out.row hg1 nr_own_g9)
                           have B_w7 := Lib.hid (below_row B_w6.out hg1 B_w6.out.size (own_ge own_w6.out))
                           have own_w7 := Lib.hid ho1
                           clear ho1 hg1 hat1))
                      refine ⟨⟨k + 1, ys ++ [xs[k]], by omega, by go_num, by simp; omega, by show _ = _; rw [HY.out, HFS.out]; rfl, by show World.ownsRow _ _ _ _ _ _ _; rw [flatC_snoc, List.length_append]; exact own_w7.out, B_w7⟩, ?_⟩
                      simp [intOf]; omega
              · obtain rfl : k = xs.length := by omega
                obtain ⟨A7, c7, rfl, _⟩ := own_form HO.out
                rw [List.take_length] at HY
                go_wp2_with (first
                  | (go_at_call 31; (with_reducible refine (filtRels_some A c xs A2 c2 ss _ (H.out.below HB.out) (H2.out.below HB.out) (by omega) (by omega)).mono ?_); rintro e w8 ⟨v14, rfl, ho14, hb⟩
                     have own_w8 := Lib.hid (own_below HO.out hb)
                     have B_w8 := Lib.hid (below_trans HB.out hb)
                     rw [← HY.out] at ho14
                     obtain ⟨A14, c14, rfl, _⟩ := own_form ho14
                     have HO14 := Lib.hid ho14
                     clear ho14
                     clear hb)
                  | ((with_reducible refine at_dst (N := 80) rfl ?_); refine ev_bs rfl 50 53 1 _ rfl #[.string ⟨#[]⟩, .string ⟨#[]⟩, .string ⟨#[102, 97, 105, 108, 101, 100]⟩, .int .i64 0, .int .i64 0] (by go_simp) ?_; intro g80 w9 hg hB hb
                     have low_g80 := Nat.le_trans B_w8.out.size hg
                     have own_w9 := Lib.hid (own_below own_w8.out hb)
                     have own14_w9 := Lib.hid (own_below HO14.out hb)
                     have B_w9 := Lib.hid (below_trans B_w8.out hb)
                     have g80_w9 : Hid (Blk w9 g80 53 #[.string ⟨#[]⟩, .string ⟨#[]⟩, .string ⟨#[102, 97, 105, 108, 101, 100]⟩, .int .i64 0, .int .i64 0]) := hB
                     clear hB hb)
                  | ((with_reducible refine at_dst (N := 81) rfl ?_); refine ev_bs rfl 22 9 1 _ rfl #[.string ⟨#[102, 97, 105, 108, 101, 100]⟩] (by go_simp) ?_; intro g81 w10 hg hB hb
                     have n_g80_g81 : g80 ≠ g81 := by have := g80_w9.out.lt; omega
                     have low_g81 := Nat.le_trans B_w9.out.size hg
                     have own_w10 := Lib.hid (own_below own_w9.out hb)
                     have own14_w10 := Lib.hid (own_below own14_w9.out hb)
                     have g80_w10 := Lib.hid (g80_w9.out.below hb)
                     have B_w10 := Lib.hid (below_trans B_w9.out hb)
                     have g81_w10 : Hid (Blk w10 g81 9 #[.string ⟨#[102, 97, 105, 108, 101, 100]⟩]) := hB
                     clear hB hb)
                  | (go_at_call 31; (with_reducible refine (filtRels_one g80 g81 _ g80_w10.out g81_w10.out).mono ?_); rintro e w11 ⟨A15, c15, rfl, hb⟩
                     have own_w11 := Lib.hid (own_below own_w10.out hb)
                     have own14_w11 := Lib.hid (own_below own14_w10.out hb)
                     have g80_w11 := Lib.hid (g80_w10.out.below hb)
                     have g81_w11 := Lib.hid (g81_w10.out.below hb)
                     have B_w11 := Lib.hid (below_trans B_w10.out hb)
                     clear hb)
                  | (go_at_call 32; (with_reducible refine (stList_same A14 c14 A7 c7 ys _ (own_rowsT1 own14_w11.out rfl (by decide) (fun x => rfl) (by omega)) (own_rowsT1 own_w11.out rfl (by decide) (fun x => rfl) (by omega))).mono ?_); rintro e w12 ⟨rfl, hb⟩
                     have own_w12 := Lib.hid (own_below own_w11.out hb)
                     have own14_w12 := Lib.hid (own_below own14_w11.out hb)
                     have g80_w12 := Lib.hid (g80_w11.out.below hb)
                     have g81_w12 := Lib.hid (g81_w11.out.below hb)
                     have B_w12 := Lib.hid (below_trans B_w11.out hb)
                     clear hb))
                go_ret
                exact ⟨rfl, B_w12.out⟩
          · skip
            go_enter Try.func8, Try.ntmps8
            go_wp2_with (first
              | (go_at_call 29; (with_reducible refine (fits29_is A c xs true _ (H.out) HX.out hf1).mono ?_); rintro e w1 ⟨rfl, hb⟩
                 have B_w1 := Lib.hid (below_trans (Below.refl _ _) hb)
                 clear hb)
              | (go_at_call 18; (with_reducible refine (fits3_is A2 c2 ss true _ (H2.out.below B_w1.out) hf2).mono ?_); rintro e wq ⟨rfl, rfl⟩)
              | (go_at_call 30; (with_reducible refine (stReleases_is A c xs true _ (H.out.below B_w1.out) (HX2 _) hf3).mono ?_); rintro e w3 ⟨rfl, hb⟩
                 have B_w3 := Lib.hid (below_trans B_w1.out hb)
                 clear hb))
            clear d5
            go_wp2_with fail
            go_loopw [7, 34] (fun v i wr => ∃ k : Nat, ∃ ys : List Ty53, k ≤ xs.length ∧ i = .int .i64 k ∧ ys.length ≤ k ∧ Hid (ys = (xs.take k).filter (fun x => allF ss x.fStatus)) ∧ Hid (wr.ownsRow w.heap.size 53 5 v ys.length (flatC Ty53.cells ys)) ∧ Hid (Below w.heap.size w wr)) (fun _ i _ => xs.length - (intOf i).toNat)
            case atStart => exact ⟨0, [], Nat.zero_le _, rfl, Nat.le_refl _, rfl, own_nil _ _ _ _, B_w3.out⟩
            case round =>
              obtain ⟨k, ys, hk, rfl, hyk, HY, HO, HB⟩ := hrel
              by_cases hlt : k < xs.length
              · obtain ⟨ad, rfl, hx⟩ := (H.out.below HB.out).at_ (j := k) (row := xs[k].cells) (by simp [hlt])
                have HC := Lib.hid hx
                clear hx
                have HFS := Lib.hid (filt_snoc (G := fun x => allF ss x.fStatus) hlt)
                go_wp2_with (first
                  | ((with_reducible refine at_dst (N := 37) rfl ?_); refine ev_loadR rfl 53 _ rfl _ rfl [.string (xs[k].fName), .string (xs[k].fNamespace), .string (xs[k].fStatus), .int .i64 (xs[k].fVersion), .int .i64 (xs[k].fAt)] (HC.out) _ Try.underlying53 rfl tsz53 ?_)
                  | ((with_reducible refine at_dst (N := 9) rfl ?_); refine ev_alloc rfl 53 rfl _ _ tz53 ?_; intro g9 w4 hg hB hb
                     have low_g9 := Nat.le_trans HB.out.size hg
                     have nr_own_g9 := own_fresh HO.out hg
                     have own_w4 := Lib.hid (own_below HO.out hb)
                     have B_w4 := Lib.hid (below_trans HB.out hb)
                     have g9_w4 : Hid (Blk w4 g9 53 #[.string ⟨#[]⟩, .string ⟨#[]⟩, .string ⟨#[]⟩, .int .i64 0, .int .i64 0]) := hB
                     clear hB hb)
                  | (refine ev_store rfl 53 _ _ rfl g9 _ _ rfl rfl 53 g9_w4.out tsz53 rfl rfl ?_; intro w5 hB hg hz
                     have own_w5 := Lib.hid (own_grown own_w4.out hg nr_own_g9)
                     have B_w5 := Lib.hid (below_grown B_w4.out hg B_w4.out.size low_g9)
                     have g9_w5 : Hid (Blk w5 g9 53 #[.string (xs[k].fName), .string (xs[k].fNamespace), .string (xs[k].fStatus), .int .i64 (xs[k].fVersion), .int .i64 (xs[k].fAt)]) := hB
                     clear hB hg hz))
                go_wp2_with fail
                go_loopw [10, 11, 40] (fun p q i wx => ∃ j : Nat, j ≤ ss.length ∧ i = .int .i64 j ∧ p = .bool (anyF (ss.take j) xs[k].fStatus) ∧ q = .bool (allF (ss.take j) xs[k].fStatus) ∧ Hid (wx.ownsRow w.heap.size 53 5 u7 ys.length (flatC Ty53.cells ys)) ∧ Hid (Blk wx g9 53 #[.string (xs[k].fName), .string (xs[k].fNamespace), .string (xs[k].fStatus), .int .i64 (xs[k].fVersion), .int .i64 (xs[k].fAt)]) ∧ Hid (Below w.heap.size w wx)) (fun _ _ i _ => ss.length - (intOf i).toNat)
                case atStart => exact ⟨0, Nat.zero_le _, rfl, rfl, rfl, own_w5, g9_w5, B_w5⟩
                case round =>
                  obtain ⟨j, hj, rfl, rfl, rfl, HO2, HB9, HW⟩ := hrel
                  by_cases hjl : j < ss.length
                  · obtain ⟨ad2, rfl, hx2⟩ := (H2.out.below HW.out).at_ (j := j) (u := .string ss[j]) (by simp [strs, hjl])
                    have HC2 := Lib.hid hx2
                    have HNY := Lib.hid (anyF_snoc hjl xs[k].fStatus)
                    have HNL := Lib.hid (allF_snoc hjl xs[k].fStatus)
                    clear hx2
                    cases hp : anyF (ss.take j) xs[k].fStatus <;> cases hq : allF (ss.take j) xs[k].fStatus <;> cases he : ss[j].toList == xs[k].fStatus.toList
                    · rw [hp, he] at HNY
                      rw [hq, he] at HNL
                      have HE := Lib.hid (show True from trivial)
                      have q0 : wr.cell? ⟨g9, 2, none⟩ = some (.string xs[k].fStatus) := HB9.out.cell 2
                      have q1 := HC2.out
                      go_upto_region 13 with fail
                      go_region
                      go_wp2_with fail
                      refine ⟨⟨j + 1, by omega, by go_num, ?_, ?_, HO2, HB9, HW.out.drew⟩, ?_⟩
                      · rw [HNY.out]; rfl
                      · rw [HNL.out]; rfl
                      · simp [intOf]; omega
                    · rw [hp, he] at HNY
                      rw [hq, he] at HNL
                      have HE := Lib.hid (show True from trivial)
                      have q0 : wr.cell? ⟨g9, 2, none⟩ = some (.string xs[k].fStatus) := HB9.out.cell 2
                      have q1 := HC2.out
                      go_upto_region 13 with fail
                      go_region
                      go_wp2_with fail
                      refine ⟨⟨j + 1, by omega, by go_num, ?_, ?_, HO2, HB9, HW.out.drew⟩, ?_⟩
                      · rw [HNY.out]; rfl
                      · rw [HNL.out]; rfl
                      · simp [intOf]; omega
                    · rw [hp, he] at HNY
                      rw [hq, he] at HNL
                      have HE := Lib.hid (show True from trivial)
                      have q0 : wr.cell? ⟨g9, 2, none⟩ = some (.string xs[k].fStatus) := HB9.out.cell 2
                      have q1 := HC2.out
                      go_upto_region 13 with fail
                      go_region
                      go_wp2_with fail
                      refine ⟨⟨j + 1, by omega, by go_num, ?_, ?_, HO2, HB9, HW.out.drew⟩, ?_⟩
                      · rw [HNY.out]; rfl
                      · rw [HNL.out]; rfl
                      · simp [intOf]; omega
                    · rw [hp, he] at HNY
                      rw [hq, he] at HNL
                      have HE := Lib.hid (show True from trivial)
                      have q0 : wr.cell? ⟨g9, 2, none⟩ = some (.string xs[k].fStatus) := HB9.out.cell 2
                      have q1 := HC2.out
                      go_upto_region 13 with fail
                      go_region
                      go_wp2_with fail
                      refine ⟨⟨j + 1, by omega, by go_num, ?_, ?_, HO2, HB9, HW.out.drew⟩, ?_⟩
                      · rw [HNY.out]; rfl
                      · rw [HNL.out]; rfl
                      · simp [intOf]; omega
                    · rw [hp, he] at HNY
                      rw [hq, he] at HNL
                      have HE := Lib.hid (show True from trivial)
                      have q0 : wr.cell? ⟨g9, 2, none⟩ = some (.string xs[k].fStatus) := HB9.out.cell 2
                      have q1 := HC2.out
                      go_upto_region 13 with fail
                      go_region
                      go_wp2_with fail
                      refine ⟨⟨j + 1, by omega, by go_num, ?_, ?_, HO2, HB9, HW.out.drew⟩, ?_⟩
                      · rw [HNY.out]; rfl
                      · rw [HNL.out]; rfl
                      · simp [intOf]; omega
                    · rw [hp, he] at HNY
                      rw [hq, he] at HNL
                      have HE := Lib.hid (show True from trivial)
                      have q0 : wr.cell? ⟨g9, 2, none⟩ = some (.string xs[k].fStatus) := HB9.out.cell 2
                      have q1 := HC2.out
                      go_upto_region 13 with fail
                      go_region
                      go_wp2_with fail
                      refine ⟨⟨j + 1, by omega, by go_num, ?_, ?_, HO2, HB9, HW.out.drew⟩, ?_⟩
                      · rw [HNY.out]; rfl
                      · rw [HNL.out]; rfl
                      · simp [intOf]; omega
                    · rw [hp, he] at HNY
                      rw [hq, he] at HNL
                      have HE := Lib.hid (show True from trivial)
                      have q0 : wr.cell? ⟨g9, 2, none⟩ = some (.string xs[k].fStatus) := HB9.out.cell 2
                      have q1 := HC2.out
                      go_upto_region 13 with fail
                      go_region
                      go_wp2_with fail
                      refine ⟨⟨j + 1, by omega, by go_num, ?_, ?_, HO2, HB9, HW.out.drew⟩, ?_⟩
                      · rw [HNY.out]; rfl
                      · rw [HNL.out]; rfl
                      · simp [intOf]; omega
                    · rw [hp, he] at HNY
                      rw [hq, he] at HNL
                      have HE := Lib.hid (show True from trivial)
                      have q0 : wr.cell? ⟨g9, 2, none⟩ = some (.string xs[k].fStatus) := HB9.out.cell 2
                      have q1 := HC2.out
                      go_upto_region 13 with fail
                      go_region
                      go_wp2_with fail
                      refine ⟨⟨j + 1, by omega, by go_num, ?_, ?_, HO2, HB9, HW.out.drew⟩, ?_⟩
                      · rw [HNY.out]; rfl
                      · rw [HNL.out]; rfl
                      · simp [intOf]; omega
                  · obtain rfl : j = ss.length := by omega
                    have hgo : allF (ss.take ss.length) xs[k].fStatus = allF ss xs[k].fStatus := by rw [List.take_length]
                    skip
                    cases hd : allF ss xs[k].fStatus
                    · have HD := Lib.hid (hgo.trans hd)
                      rw [hd] at HFS
                      clear hgo hd
                      rw [HD.out]
                      go_wp2_with fail
                      refine ⟨⟨k + 1, ys, by omega, by go_num, by omega, by show _ = _; rw [HY.out, HFS.out]; simp, HO2, HW⟩, ?_⟩
                      simp [intOf]; omega
                    · have HD := Lib.hid (hgo.trans hd)
                      rw [hd] at HFS
                      clear hgo hd
                      rw [HD.out]
                      go_wp2_with (first
                        | ((with_reducible refine at_dst (N := 71) rfl ?_); refine ev_loadB rfl 53 _ rfl g9 rfl 53 _ HB9.out _ Try.underlying53 rfl tsz53 ?_)
                        | ((with_reducible refine at_dst (N := 72) rfl ?_); refine ev_bs rfl 50 53 1 _ rfl #[.string (xs[k].fName), .string (xs[k].fNamespace), .string (xs[k].fStatus), .int .i64 (xs[k].fVersion), .int .i64 (xs[k].fAt)] (by go_simp) ?_; intro g72 w6 hg hB hb
                           have n_g9_g72 : g9 ≠ g72 := by have := HB9.out.lt; omega
                           have low_g72 := Nat.le_trans HW.out.size hg
                           have nr_own_g72 := own_fresh HO2.out hg
                           have own_w6 := Lib.hid (own_below HO2.out hb)
                           have g9_w6 := Lib.hid (HB9.out.below hb)
                           have B_w6 := Lib.hid (below_trans HW.out hb)
                           have g72_w6 : Hid (Blk w6 g72 53 #[.string (xs[k].fName), .string (xs[k].fNamespace), .string (xs[k].fStatus), .int .i64 (xs[k].fVersion), .int .i64 (xs[k].fAt)]) := hB
                           clear hB hb)
                        | ((with_reducible refine at_dst (N := 73) rfl ?_); refine ev_app rfl _ _ 50 53 rfl Try.underlying50 _ 5 _ tin53 rfl (by omega) w.heap.size _ _ _ rfl own_w6.out _ 1 1 [.string (xs[k].fName), .string (xs[k].fNamespace), .string (xs[k].fStatus), .int .i64 (xs[k].fVersion), .int .i64 (xs[k].fAt)] rfl (g72_w6.out.sl (by simp)) rfl (by simp [Value.oneCell']) (by omega) (by omega) B_w6.out.size ?_; intro v73_w7 w7 ho1 hg1 hat1
                           have g9_w7 := Lib.hid (g9_w6.out.row hg1 nr_own_g9)
                           have B_w7 := Lib.hid (below_row B_w6.out hg1 B_w6.out.size (own_ge own_w6.out))
                           have own_w7 := Lib.hid ho1
                           clear ho1 hg1 hat1))
                      refine ⟨⟨k + 1, ys ++ [xs[k]], by omega, by go_num, by simp; omega, by show _ = _; rw [HY.out, HFS.out]; rfl, by show World.ownsRow _ _ _ _ _ _ _; rw [flatC_snoc, List.length_append]; exact own_w7.out, B_w7⟩, ?_⟩
                      simp [intOf]; omega
              · obtain rfl : k = xs.length := by omega
                obtain ⟨A7, c7, rfl, _⟩ := own_form HO.out
                rw [List.take_length] at HY
                go_wp2_with (first
                  | (go_at_call 31; (with_reducible refine (filtRels_all A c xs A2 c2 ss _ (H.out.below HB.out) (H2.out.below HB.out) (by omega) (by omega)).mono ?_); rintro e w8 ⟨v14, rfl, ho14, hb⟩
                     have own_w8 := Lib.hid (own_below HO.out hb)
                     have B_w8 := Lib.hid (below_trans HB.out hb)
                     rw [← HY.out] at ho14
                     obtain ⟨A14, c14, rfl, _⟩ := own_form ho14
                     have HO14 := Lib.hid ho14
                     clear ho14
                     clear hb)
                  | ((with_reducible refine at_dst (N := 80) rfl ?_); refine ev_bs rfl 50 53 1 _ rfl #[.string ⟨#[]⟩, .string ⟨#[]⟩, .string ⟨#[102, 97, 105, 108, 101, 100]⟩, .int .i64 0, .int .i64 0] (by go_simp) ?_; intro g80 w9 hg hB hb
                     have low_g80 := Nat.le_trans B_w8.out.size hg
                     have own_w9 := Lib.hid (own_below own_w8.out hb)
                     have own14_w9 := Lib.hid (own_below HO14.out hb)
                     have B_w9 := Lib.hid (below_trans B_w8.out hb)
                     have g80_w9 : Hid (Blk w9 g80 53 #[.string ⟨#[]⟩, .string ⟨#[]⟩, .string ⟨#[102, 97, 105, 108, 101, 100]⟩, .int .i64 0, .int .i64 0]) := hB
                     clear hB hb)
                  | ((with_reducible refine at_dst (N := 81) rfl ?_); refine ev_bs rfl 22 9 1 _ rfl #[.string ⟨#[102, 97, 105, 108, 101, 100]⟩] (by go_simp) ?_; intro g81 w10 hg hB hb
                     have n_g80_g81 : g80 ≠ g81 := by have := g80_w9.out.lt; omega
                     have low_g81 := Nat.le_trans B_w9.out.size hg
                     have own_w10 := Lib.hid (own_below own_w9.out hb)
                     have own14_w10 := Lib.hid (own_below own14_w9.out hb)
                     have g80_w10 := Lib.hid (g80_w9.out.below hb)
                     have B_w10 := Lib.hid (below_trans B_w9.out hb)
                     have g81_w10 : Hid (Blk w10 g81 9 #[.string ⟨#[102, 97, 105, 108, 101, 100]⟩]) := hB
                     clear hB hb)
                  | (go_at_call 31; (with_reducible refine (filtRels_one g80 g81 _ g80_w10.out g81_w10.out).mono ?_); rintro e w11 ⟨A15, c15, rfl, hb⟩
                     have own_w11 := Lib.hid (own_below own_w10.out hb)
                     have own14_w11 := Lib.hid (own_below own14_w10.out hb)
                     have g80_w11 := Lib.hid (g80_w10.out.below hb)
                     have g81_w11 := Lib.hid (g81_w10.out.below hb)
                     have B_w11 := Lib.hid (below_trans B_w10.out hb)
                     clear hb)
                  | (go_at_call 32; (with_reducible refine (stList_same A14 c14 A7 c7 ys _ (own_rowsT1 own14_w11.out rfl (by decide) (fun x => rfl) (by omega)) (own_rowsT1 own_w11.out rfl (by decide) (fun x => rfl) (by omega))).mono ?_); rintro e w12 ⟨rfl, hb⟩
                     have own_w12 := Lib.hid (own_below own_w11.out hb)
                     have own14_w12 := Lib.hid (own_below own14_w11.out hb)
                     have g80_w12 := Lib.hid (g80_w11.out.below hb)
                     have g81_w12 := Lib.hid (g81_w11.out.below hb)
                     have B_w12 := Lib.hid (below_trans B_w11.out hb)
                     clear hb))
                go_ret
                exact ⟨rfl, B_w12.out⟩
end Go.Proofs.Ytdgblfldbikneaa
