/- Releases as objects: releaseOf, releases, released; filters. -/
import Derived.Test.YtdgblfldbikneaaPl
import Derived.Test.YtdgblfldbikneaaTy
import Derived.Test.YtdgblfldbikneaaTz
namespace Go.Proofs.Ytdgblfldbikneaa
open Go.RowKit Go.Lib
set_option linter.unusedVariables false
set_option linter.unusedSimpArgs false
/-- A release of the library's. -/
def RelAt (B : Nat) (x : Ty53) (g : Nat) (w : World) : Prop := B ≤ g ∧ ∃ gi, B ≤ gi ∧ Blk w g 196 #[.string x.fName, .pointer (some ⟨gi, 0, none⟩), .string ⟨#[]⟩, .slice none 0 0, .int .i64 x.fVersion, .string x.fNamespace, .map none] ∧ Blk w gi 191 #[.int .i64 x.fAt, .string ⟨#[]⟩, .string x.fStatus]
theorem RelAt.below {B : Nat} {x : Ty53} {g : Nat} {w w' : World} (h : RelAt B x g w) (hb : Below w.heap.size w w') : RelAt B x g w' := by
  obtain ⟨h1, gi, h2, h3, h4⟩ := h
  exact ⟨h1, gi, h2, h3.below hb, h4.below hb⟩
theorem RelAt.grown {B : Nat} {x : Ty53} {g : Nat} {w w' : World} (h : RelAt B x g w) {b : Nat} {t : TypeId} {c : Array Value} (hb : Blk w b t c) (h1 : t ≠ 196) (h2 : t ≠ 191) (hg : w.grownBy w' (some b)) : RelAt B x g w' := by
  obtain ⟨h3, gi, h4, h5, h6⟩ := h
  exact ⟨h3, gi, h4, h5.grown hg (h5.apart hb h1.symm), h6.grown hg (h6.apart hb h2.symm)⟩
theorem RelAt.row {B : Nat} {x : Ty53} {g : Nat} {w w' : World} (h : RelAt B x g w) {b : Nat} {e : TypeId} {sz n : Nat} {v : Value} {cs : List Value} (ho : w.ownsRow b e sz v n cs) (h1 : e ≠ 196) (h2 : e ≠ 191) (hg : w.grownBy w' v.ownBlock) : RelAt B x g w' := by
  obtain ⟨h3, gi, h4, h5, h6⟩ := h
  exact ⟨h3, gi, h4, h5.row hg (own_ne ho h5 h1), h6.row hg (own_ne ho h6 h2)⟩
theorem RelAt.mono {B B' : Nat} {x : Ty53} {g : Nat} {w : World} (h : RelAt B x g w) (hb : B' ≤ B) : RelAt B' x g w := by
  obtain ⟨h3, gi, h4, h5, h6⟩ := h
  exact ⟨Nat.le_trans hb h3, gi, Nat.le_trans hb h4, h5, h6⟩
theorem Ty53.cells_len (x : Ty53) : x.cells.length = 5 := rfl
set_option maxRecDepth 100000 in
set_option maxHeartbeats 2000000 in
theorem relOf_any (x : Ty53) (w : World) :
    Calls Try.prog 121 #[.agg #[.string x.fName, .string x.fNamespace, .string x.fStatus, .int .i64 x.fVersion, .int .i64 x.fAt]] w fun e w' => ∃ g, e = .returned (.pointer (some ⟨g, 0, none⟩)) ∧ w.heap.size ≤ g ∧ RelAt w.heap.size x g w' ∧ Below w.heap.size w w' := by
  go_enter Try.func121, Try.ntmps121
  go_wp2_with (first
    | ((with_reducible refine at_dst (N := 1) rfl ?_); refine ev_box rfl 53 _ rfl _ rfl ?_; intro g1 w1 hg hB hb
       have low_g1 := Nat.le_trans (Nat.le_refl _) hg
       have B_w1 := Lib.hid (below_trans (Below.refl _ _) hb)
       have g1_w1 : Hid (Blk w1 g1 53 #[.string x.fName, .string x.fNamespace, .string x.fStatus, .int .i64 x.fVersion, .int .i64 x.fAt]) := hB
       clear hB hb)
    | ((with_reducible refine at_dst (N := 4) rfl ?_); refine ev_ld rfl 9 _ rfl ⟨g1, 0, none⟩ rfl (.string x.fName) (g1_w1.out.cell 0) _ Try.underlying9 rfl ?_)
    | ((with_reducible refine at_dst (N := 6) rfl ?_); refine ev_ld rfl 9 _ rfl ⟨g1, 1, none⟩ rfl (.string x.fNamespace) (g1_w1.out.cell 1) _ Try.underlying9 rfl ?_)
    | ((with_reducible refine at_dst (N := 8) rfl ?_); refine ev_ld rfl 3 _ rfl ⟨g1, 3, none⟩ rfl (.int .i64 x.fVersion) (g1_w1.out.cell 3) _ Try.underlying3 rfl ?_)
    | ((with_reducible refine at_dst (N := 10) rfl ?_); refine ev_ld rfl 9 _ rfl ⟨g1, 2, none⟩ rfl (.string x.fStatus) (g1_w1.out.cell 2) _ Try.underlying9 rfl ?_)
    | ((with_reducible refine at_dst (N := 12) rfl ?_); refine ev_ld rfl 2 _ rfl ⟨g1, 4, none⟩ rfl (.int .i64 x.fAt) (g1_w1.out.cell 4) _ Try.underlying2 rfl ?_)
    | ((with_reducible refine at_dst (N := 14) rfl ?_); refine ev_box rfl 191 _ rfl _ rfl ?_; intro g14 w2 hg hB hb
       have n_g1_g14 : g1 ≠ g14 := by have := g1_w1.out.lt; omega
       have low_g14 := Nat.le_trans B_w1.out.size hg
       have g1_w2 := Lib.hid (g1_w1.out.below hb)
       have B_w2 := Lib.hid (below_trans B_w1.out hb)
       have g14_w2 : Hid (Blk w2 g14 191 #[.int .i64 x.fAt, .string ⟨#[]⟩, .string x.fStatus]) := hB
       clear hB hb)
    | ((with_reducible refine at_dst (N := 16) rfl ?_); refine ev_box rfl 196 _ rfl _ rfl ?_; intro g16 w3 hg hB hb
       have n_g1_g16 : g1 ≠ g16 := by have := g1_w2.out.lt; omega
       have n_g14_g16 : g14 ≠ g16 := by have := g14_w2.out.lt; omega
       have low_g16 := Nat.le_trans B_w2.out.size hg
       have g1_w3 := Lib.hid (g1_w2.out.below hb)
       have g14_w3 := Lib.hid (g14_w2.out.below hb)
       have B_w3 := Lib.hid (below_trans B_w2.out hb)
       have g16_w3 : Hid (Blk w3 g16 196 #[.string x.fName, .pointer (some ⟨g14, 0, none⟩), .string ⟨#[]⟩, .slice none 0 0, .int .i64 x.fVersion, .string x.fNamespace, .map none]) := hB
       clear hB hb))
  go_ret
  exact ⟨_, rfl, low_g16, ⟨low_g16, _, low_g14, g16_w3.out, g14_w3.out⟩, B_w3.out⟩
set_option maxRecDepth 100000 in
set_option maxHeartbeats 4000000 in
theorem rels_any (A : Option Addr) (c : Nat) (xs : List Ty53) (w : World) (h : Rows w A 5 (xs.map Ty53.cells)) (hn : xs.length ≤ 1000000) :
    Calls Try.prog 79 #[.slice A xs.length c] w fun e w' => ∃ v ps, e = .returned v ∧ w'.ownsRow w.heap.size 188 1 v xs.length (ptrs ps) ∧ Pl (RelAt w.heap.size) w' ps xs ∧ Below w.heap.size w w' := by
  have hl : xs.length ≤ 9223372036854775807 := by simpa using h.1
  have H := Lib.hid h
  clear h
  go_enter Try.func79, Try.ntmps79
  go_wp2_with fail
  go_loopw [3, 8] (fun v i wr => ∃ k : Nat, ∃ ps : List Nat, k ≤ xs.length ∧ i = .int .i64 k ∧ Hid (wr.ownsRow w.heap.size 188 1 v k (ptrs ps)) ∧ Hid (Pl (RelAt w.heap.size) wr ps (xs.take k)) ∧ Hid (Below w.heap.size w wr)) (fun _ i _ => xs.length - (intOf i).toNat)
  case atStart => exact ⟨0, [], Nat.zero_le _, rfl, own_nil _ _ _ _, Pl.nil, Below.refl _ _⟩
  case round =>
    obtain ⟨k, ps, hk, rfl, HO, HP, HB⟩ := hrel
    by_cases hlt : k < xs.length
    · obtain ⟨ad, rfl, hx⟩ := (H.out.below HB.out).at_ (j := k) (row := xs[k].cells) (by simp [hlt])
      have HC := Lib.hid hx
      clear hx
      go_wp2_with (first
        | ((with_reducible refine at_dst (N := 11) rfl ?_); refine ev_loadR rfl 53 _ rfl _ rfl [.string (xs[k].fName), .string (xs[k].fNamespace), .string (xs[k].fStatus), .int .i64 (xs[k].fVersion), .int .i64 (xs[k].fAt)] (HC.out) _ Try.underlying53 rfl tsz53 ?_)
        | ((with_reducible refine at_dst (N := 5) rfl ?_); refine ev_alloc rfl 53 rfl _ _ tz53 ?_; intro g5 w1 hg hB hb
           have low_g5 := Nat.le_trans HB.out.size hg
           have own_w1 := Lib.hid (own_below HO.out hb)
           have pl_w1 := Lib.hid (HP.out.map fun x g hh => RelAt.below hh hb)
           have B_w1 := Lib.hid (below_trans HB.out hb)
           have g5_w1 : Hid (Blk w1 g5 53 #[.string ⟨#[]⟩, .string ⟨#[]⟩, .string ⟨#[]⟩, .int .i64 0, .int .i64 0]) := hB
           clear hB hb)
        | (refine ev_store rfl 53 _ _ rfl g5 _ _ rfl rfl 53 g5_w1.out tsz53 rfl rfl ?_; intro w2 hB hg hz
           have own_w2 := Lib.hid (own_grown own_w1.out hg (own_ne own_w1.out g5_w1.out (by decide)))
           have pl_w2 := Lib.hid (pl_w1.out.map fun x g hh => RelAt.grown hh g5_w1.out (by decide) (by decide) hg)
           have B_w2 := Lib.hid (below_grown B_w1.out hg B_w1.out.size low_g5)
           have g5_w2 : Hid (Blk w2 g5 53 #[.string (xs[k].fName), .string (xs[k].fNamespace), .string (xs[k].fStatus), .int .i64 (xs[k].fVersion), .int .i64 (xs[k].fAt)]) := hB
           clear hB hg hz)
        | ((with_reducible refine at_dst (N := 13) rfl ?_); refine ev_loadB rfl 53 _ rfl g5 rfl 53 _ g5_w2.out _ Try.underlying53 rfl tsz53 ?_)
        | (go_at_call 121; (with_reducible refine (relOf_any xs[k] _).mono ?_); rintro e w3 ⟨g, rfl, hlo, hr, hb⟩
           have own_w3 := Lib.hid (own_below own_w2.out hb)
           have pl_w3 := Lib.hid (pl_w2.out.map fun x g hh => RelAt.below hh hb)
           have g5_w3 := Lib.hid (g5_w2.out.below hb)
           have B_w3 := Lib.hid (below_trans B_w2.out hb)
           have HR := Lib.hid (RelAt.mono hr B_w2.out.size)
           clear hr hlo
           clear hb)
        | ((with_reducible refine at_dst (N := 15) rfl ?_); refine ev_bs rfl 130 188 1 _ rfl #[.pointer (some ⟨g, 0, none⟩)] (by go_simp) ?_; intro g15 w4 hg hB hb
           have n_g5_g15 : g5 ≠ g15 := by have := g5_w3.out.lt; omega
           have low_g15 := Nat.le_trans B_w3.out.size hg
           have own_w4 := Lib.hid (own_below own_w3.out hb)
           have pl_w4 := Lib.hid (pl_w3.out.map fun x g hh => RelAt.below hh hb)
           have g5_w4 := Lib.hid (g5_w3.out.below hb)
           have rel_w4 := Lib.hid (RelAt.below HR.out hb)
           have B_w4 := Lib.hid (below_trans B_w3.out hb)
           have g15_w4 : Hid (Blk w4 g15 188 #[.pointer (some ⟨g, 0, none⟩)]) := hB
           clear hB hb)
        | ((with_reducible refine at_dst (N := 16) rfl ?_); refine ev_app rfl _ _ 130 188 rfl Try.underlying130 _ 1 _ tin188 rfl (by omega) w.heap.size _ _ _ rfl own_w4.out _ 1 1 [.pointer (some ⟨g, 0, none⟩)] rfl (g15_w4.out.sl (by simp)) rfl (by simp [Value.oneCell']) (by omega) (by omega) B_w4.out.size ?_; intro v16_w5 w5 ho1 hg1 hat1
           have pl_w5 := Lib.hid (pl_w4.out.map fun x g hh => RelAt.row hh own_w4.out (by decide) (by decide) hg1)
           have g5_w5 := Lib.hid (g5_w4.out.row hg1 (own_ne own_w4.out g5_w4.out (by decide)))
           have rel_w5 := Lib.hid (RelAt.row rel_w4.out own_w4.out (by decide) (by decide) hg1)
           have B_w5 := Lib.hid (below_row B_w4.out hg1 B_w4.out.size (own_ge own_w4.out))
           have own_w5 := Lib.hid ho1
           clear ho1 hg1 hat1))
      have hps : (xs.take (k + 1)) = xs.take k ++ [xs[k]] := by rw [List.take_succ_eq_append_getElem hlt]
      refine ⟨⟨k + 1, ps ++ [g], by omega, by go_num, by show World.ownsRow _ _ _ _ _ _ _; rw [ptrs_snoc]; exact own_w5.out, by show Pl _ _ _ _; rw [hps]; exact pl_w5.out.snoc rel_w5.out, B_w5⟩, ?_⟩
      simp [intOf]; omega
    · obtain rfl : k = xs.length := by omega
      go_wp2_with fail
      go_ret
      rw [List.take_length] at HP
      exact ⟨_, ps, rfl, HO.out, HP.out, HB.out⟩
set_option maxRecDepth 100000 in
theorem statStr_any (s : ByteArray) (w : World) : Calls Try.prog 117 #[.string s] w fun e w' => e = .returned (.string s) ∧ w = w' := by
  go_enter Try.func117, Try.ntmps117
  go_wp2_with fail
  go_ret
  exact ⟨rfl, rfl⟩
set_option maxRecDepth 100000 in
theorem unix_any (n : Int) (w : World) : Calls Try.prog 118 #[.int .i64 n] w fun e w' => e = .returned (.int .i64 n) ∧ w = w' := by
  go_enter Try.func118, Try.ntmps118
  go_wp2_with fail
  go_ret
  exact ⟨rfl, rfl⟩
set_option maxRecDepth 100000 in
set_option maxHeartbeats 4000000 in
theorem relsTold_any (B : Nat) (A : Option Addr) (n c : Nat) (ps : List Nat) (xs : List Ty53) (w : World) (h : Sl w A (ptrs ps)) (hp : Pl (RelAt B) w ps xs) (hxl : xs.length = n) (hn : n ≤ 1000000) :
    Calls Try.prog 76 #[.slice A n c] w fun e w' => ∃ v, e = .returned v ∧ w'.ownsRow w.heap.size 53 5 v n (flatC Ty53.cells xs) ∧ Below w.heap.size w w' := by
  have hlen := hp.1
  have hl : n ≤ 9223372036854775807 := by omega
  have H := Lib.hid h
  have HPL := Lib.hid hp
  have HXL := Lib.hid hxl
  clear h hp hxl hlen
  go_enter Try.func76, Try.ntmps76
  go_wp2_with fail
  go_loopw [3, 8] (fun v i wr => ∃ k : Nat, k ≤ n ∧ i = .int .i64 k ∧ Hid (wr.ownsRow w.heap.size 53 5 v k (flatC Ty53.cells (xs.take k))) ∧ Hid (Below w.heap.size w wr)) (fun _ i _ => n - (intOf i).toNat)
  case atStart => exact ⟨0, Nat.zero_le _, rfl, own_nil _ _ _ _, Below.refl _ _⟩
  case round =>
    obtain ⟨k, hk, rfl, HO, HB⟩ := hrel
    by_cases hlt : k < n
    · have hkx : k < xs.length := by have := HXL.out; omega
      obtain ⟨hkp, hR⟩ := HPL.out.get hkx
      obtain ⟨ad, rfl, hx⟩ := (H.out.below HB.out).at_ (j := k) (ptrs_get hkp)
      generalize ps[k] = g at hR hx
      obtain ⟨_, gi, _, h5, h6⟩ := hR
      obtain ⟨x, hx0⟩ : ∃ x, x = xs[k] := ⟨_, rfl⟩
      rw [← hx0] at h5 h6
      have HX0 := Lib.hid hx0
      have HC := Lib.hid hx
      have HG := Lib.hid (h5.below HB.out)
      have HGI := Lib.hid (h6.below HB.out)
      clear hx hx0 h5 h6
      go_upto_region 5 with (first
        | ((with_reducible refine at_dst (N := 11) rfl ?_); refine ev_ld rfl 188 _ rfl _ rfl (.pointer (some ⟨g, 0, none⟩)) (HC.out) _ Try.underlying188 rfl ?_))
      refine wp_region_grow [some [], some [], some [(1, 13)], some [(2, 14)], some [(3, 15)], some [], some [(5, 17)], some [(6, 18)], some [(7, 19)], some [], some [(9, 21)], some [(10, 22)], some [(11, 23)], some [(12, 24)], some [(13, 25)], some [(14, 26)], some [(15, 27)], some [], some [(17, 29)], some [(18, 30)], some [(19, 31)], some [], some [(21, 33)], some [(22, 34)], some [(23, 35)], some [(24, 36)], some [(25, 37)], some [(26, 38)], some [(27, 39)], some [(4, 16), (8, 20), (16, 28), (20, 32), (28, 40)], some [(29, 41)], none, none]
          [fun vv _ => vv = u3,
           fun vv _ => vv = .pointer (some ⟨g, 0, none⟩),
           fun vv _ => vv = .pointer (some ⟨g, 0, none⟩),
           fun vv _ => vv = .pointer (some ⟨g, 0, none⟩),
           fun vv _ => vv = .string x.fName,
           fun vv _ => vv = .pointer (some ⟨g, 0, none⟩),
           fun vv _ => vv = .pointer (some ⟨g, 0, none⟩),
           fun vv _ => vv = .pointer (some ⟨g, 5, none⟩),
           fun vv _ => vv = .string x.fNamespace,
           fun vv _ => vv = .pointer (some ⟨g, 0, none⟩),
           fun vv _ => vv = .pointer (some ⟨g, 0, none⟩),
           fun vv _ => vv = .pointer (some ⟨g, 1, none⟩),
           fun vv _ => vv = .pointer (some ⟨gi, 0, none⟩),
           fun vv _ => vv = .pointer (some ⟨gi, 0, none⟩),
           fun vv _ => vv = .pointer (some ⟨gi, 2, none⟩),
           fun vv _ => vv = .string x.fStatus,
           fun vv _ => vv = .string x.fStatus,
           fun vv _ => vv = .pointer (some ⟨g, 0, none⟩),
           fun vv _ => vv = .pointer (some ⟨g, 0, none⟩),
           fun vv _ => vv = .pointer (some ⟨g, 4, none⟩),
           fun vv _ => vv = .int .i64 x.fVersion,
           fun vv _ => vv = .pointer (some ⟨g, 0, none⟩),
           fun vv _ => vv = .pointer (some ⟨g, 0, none⟩),
           fun vv _ => vv = .pointer (some ⟨g, 1, none⟩),
           fun vv _ => vv = .pointer (some ⟨gi, 0, none⟩),
           fun vv _ => vv = .pointer (some ⟨gi, 0, none⟩),
           fun vv _ => vv = .pointer (some ⟨gi, 0, none⟩),
           fun vv _ => vv = .int .i64 x.fAt,
           fun vv _ => vv = .int .i64 x.fAt,
           fun vv _ => vv = .agg #[.string x.fName, .string x.fNamespace, .string x.fStatus, .int .i64 x.fVersion, .int .i64 x.fAt],
           fun v w' => ∃ g, v = .slice (some ⟨g, 0, none⟩) 1 1 ∧ wr.heap.size ≤ g ∧ Blk w' g 53 #[.string x.fName, .string x.fNamespace, .string x.fStatus, .int .i64 x.fVersion, .int .i64 x.fAt],
           fun _ _ => True,
           fun _ _ => True] 46 (by kernel_rfl) rfl rfl (by kernel_rfl) ?_ ?_ ?_
      · intro p hp
        simp only [List.mem_cons, List.not_mem_nil, or_false] at hp
        rcases hp with rfl | rfl | rfl | rfl | rfl | rfl | rfl | rfl | rfl | rfl | rfl | rfl | rfl | rfl | rfl | rfl | rfl | rfl | rfl | rfl | rfl | rfl | rfl | rfl | rfl | rfl | rfl | rfl | rfl | rfl | rfl | rfl | rfl
        · exact stab_eq _
        · exact stab_eq _
        · exact stab_eq _
        · exact stab_eq _
        · exact stab_eq _
        · exact stab_eq _
        · exact stab_eq _
        · exact stab_eq _
        · exact stab_eq _
        · exact stab_eq _
        · exact stab_eq _
        · exact stab_eq _
        · exact stab_eq _
        · exact stab_eq _
        · exact stab_eq _
        · exact stab_eq _
        · exact stab_eq _
        · exact stab_eq _
        · exact stab_eq _
        · exact stab_eq _
        · exact stab_eq _
        · exact stab_eq _
        · exact stab_eq _
        · exact stab_eq _
        · exact stab_eq _
        · exact stab_eq _
        · exact stab_eq _
        · exact stab_eq _
        · exact stab_eq _
        · exact stab_eq _
        · exact stab_blk (F := fun g => .slice (some ⟨g, 0, none⟩) 1 1)
        · exact stab_true
        · exact stab_true
      · simp only [oblGo, obl1, withDeps, oblK, postAt, List.getD_cons_zero, List.getD_cons_succ, forall_eq]
        refine ⟨?_, ?_, ?_, ?_, ?_, ?_, ?_, ?_, ?_, ?_, ?_, ?_, ?_, ?_, ?_, ?_, ?_, ?_, ?_, ?_, ?_, ?_, ?_, ?_, ?_, ?_, ?_, ?_, ?_, ?_, ?_, trivial⟩
        · intro wg hg
          go_simp
        · intro wg hg
          go_simp
        · intro wg hg
          go_simp
        · intro wg hg
          go_simp
        · intro wg hg
          exact gr_ld 9 _ rfl ⟨g, 0, none⟩ rfl (.string x.fName) ((HG.out.below hg).cell 0) _ Try.underlying9 rfl rfl
        · intro wg hg
          go_simp
        · intro wg hg
          go_simp
        · intro wg hg
          go_simp
        · intro wg hg
          exact gr_ld 9 _ rfl ⟨g, 5, none⟩ rfl (.string x.fNamespace) ((HG.out.below hg).cell 5) _ Try.underlying9 rfl rfl
        · intro wg hg
          go_simp
        · intro wg hg
          go_simp
        · intro wg hg
          go_simp
        · intro wg hg
          exact gr_ld 192 _ rfl ⟨g, 1, none⟩ rfl (.pointer (some ⟨gi, 0, none⟩)) ((HG.out.below hg).cell 1) _ Try.underlying192 rfl rfl
        · intro wg hg
          go_simp
        · intro wg hg
          go_simp
        · intro wg hg
          exact gr_ld 104 _ rfl ⟨gi, 2, none⟩ rfl (.string x.fStatus) ((HGI.out.below hg).cell 2) _ Try.underlying104 rfl rfl
        · intro wg hg
          go_simp
          exact (statStr_any x.fStatus _).mono fun _ _ h => ⟨h.1, h.2 ▸ Gr.refl _⟩
        · intro wg hg
          go_simp
        · intro wg hg
          go_simp
        · intro wg hg
          go_simp
        · intro wg hg
          exact gr_ld 3 _ rfl ⟨g, 4, none⟩ rfl (.int .i64 x.fVersion) ((HG.out.below hg).cell 4) _ Try.underlying3 rfl rfl
        · intro wg hg
          go_simp
        · intro wg hg
          go_simp
        · intro wg hg
          go_simp
        · intro wg hg
          exact gr_ld 192 _ rfl ⟨g, 1, none⟩ rfl (.pointer (some ⟨gi, 0, none⟩)) ((HG.out.below hg).cell 1) _ Try.underlying192 rfl rfl
        · intro wg hg
          go_simp
        · intro wg hg
          go_simp
        · intro wg hg
          exact gr_ld 189 _ rfl ⟨gi, 0, none⟩ rfl (.int .i64 x.fAt) ((HGI.out.below hg).cell 0) _ Try.underlying189 rfl rfl
        · intro wg hg
          go_simp
          exact (unix_any x.fAt _).mono fun _ _ h => ⟨h.1, h.2 ▸ Gr.refl _⟩
        · intro wg hg
          go_simp
        · intro wg hg
          exact gr_bs 53 1 #[.string x.fName, .string x.fNamespace, .string x.fStatus, .int .i64 x.fVersion, .int .i64 x.fAt] (by go_simp) fun g w1 hg1 hB hb => ⟨g, rfl, Nat.le_trans hg.bel.size hg1, hB⟩
      simp only [headDs, withDeps, postAt, List.getD_cons_zero, List.getD_cons_succ, forall_eq, tailOps]
      intro w1 hgr
      rintro _ ⟨g42, rfl, lo_g42, hB_g42⟩
      simp only [Act.put, List.setIfInBounds_toArray, List.set_cons_succ, List.set_cons_zero]
      have n_g_g42 : g ≠ g42 := by have := HG.out.lt; omega
      have n_gi_g42 : gi ≠ g42 := by have := HGI.out.lt; omega
      have low_g42 := Nat.le_trans HB.out.size lo_g42
      have own_w1 := Lib.hid (own_below HO.out (show Below _ _ _ from hgr))
      have g_w1 := Lib.hid (HG.out.below (show Below _ _ _ from hgr))
      have gi_w1 := Lib.hid (HGI.out.below (show Below _ _ _ from hgr))
      have B_w1 := Lib.hid (below_trans HB.out (show Below _ _ _ from hgr))
      have g42_w1 : Hid (Blk w1 g42 53 #[.string x.fName, .string x.fNamespace, .string x.fStatus, .int .i64 x.fVersion, .int .i64 x.fAt]) := hB_g42
      clear hB_g42 lo_g42
      clear hgr
      go_wp2_with (first
        | ((with_reducible refine at_dst (N := 43) rfl ?_); refine ev_app rfl _ _ 50 53 rfl Try.underlying50 _ 5 _ tin53 rfl (by omega) w.heap.size _ _ _ rfl own_w1.out _ 1 1 [.string x.fName, .string x.fNamespace, .string x.fStatus, .int .i64 x.fVersion, .int .i64 x.fAt] rfl (g42_w1.out.sl (by simp)) rfl (by simp [Value.oneCell']) (by omega) (by omega) B_w1.out.size ?_; intro v43_w2 w2 ho1 hg1 hat1
           have g_w2 := Lib.hid (g_w1.out.row hg1 (own_ne own_w1.out g_w1.out (by decide)))
           have gi_w2 := Lib.hid (gi_w1.out.row hg1 (own_ne own_w1.out gi_w1.out (by decide)))
           have B_w2 := Lib.hid (below_row B_w1.out hg1 B_w1.out.size (own_ge own_w1.out))
           have own_w2 := Lib.hid ho1
           clear ho1 hg1 hat1))
      have hps : flatC Ty53.cells (xs.take (k + 1)) = flatC Ty53.cells (xs.take k) ++ x.cells := by rw [List.take_succ_eq_append_getElem hkx, flatC_snoc, HX0.out]
      refine ⟨⟨k + 1, by omega, by go_num, by show World.ownsRow _ _ _ _ _ _ _; rw [hps]; exact own_w2.out, B_w2⟩, ?_⟩
      simp [intOf]; omega
    · obtain rfl : k = n := by omega
      go_wp2_with fail
      go_ret
      have hE := HO.out
      rw [List.take_of_length_le (by have := HXL.out; omega)] at hE
      exact ⟨_, rfl, hE, HB.out⟩
end Go.Proofs.Ytdgblfldbikneaa
