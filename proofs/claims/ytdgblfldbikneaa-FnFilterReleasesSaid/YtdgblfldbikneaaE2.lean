/- Filters of releases. -/
import Derived.Test.YtdgblfldbikneaaE1
namespace Go.Proofs.Ytdgblfldbikneaa
open Go.RowKit Go.Lib
set_option linter.unusedVariables false
set_option linter.unusedSimpArgs false
def fval (g : Nat) : Value := .func (.func 116) #[] #[.pointer (some ⟨g, 0, none⟩)]
def fvals (gs : List Nat) : List Value := gs.map fval
theorem fvals_get {gs : List Nat} {k : Nat} (h : k < gs.length) : (fvals gs)[k]? = some (.func (.func 116) #[] #[.pointer (some ⟨gs[k], 0, none⟩)]) := by simp [fvals, fval, h]
theorem fvals_snoc (gs : List Nat) (g : Nat) : fvals (gs ++ [g]) = fvals gs ++ [.func (.func 116) #[] #[.pointer (some ⟨g, 0, none⟩)]] := by simp [fvals, fval]
def FltAt (B : Nat) (s : ByteArray) (g : Nat) (w : World) : Prop := B ≤ g ∧ Blk w g 104 #[.string s]
theorem FltAt.below {B : Nat} {s : ByteArray} {g : Nat} {w w' : World} (h : FltAt B s g w) (hb : Below w.heap.size w w') : FltAt B s g w' := ⟨h.1, h.2.below hb⟩
theorem FltAt.grown {B : Nat} {s : ByteArray} {g : Nat} {w w' : World} (h : FltAt B s g w) {b : Nat} {t : TypeId} {c : Array Value} (hb : Blk w b t c) (h1 : t ≠ 104) (_ : True) (hg : w.grownBy w' (some b)) : FltAt B s g w' := ⟨h.1, h.2.grown hg (h.2.apart hb h1.symm)⟩
theorem FltAt.row {B : Nat} {s : ByteArray} {g : Nat} {w w' : World} (h : FltAt B s g w) {b : Nat} {e : TypeId} {sz n : Nat} {v : Value} {cs : List Value} (ho : w.ownsRow b e sz v n cs) (h1 : e ≠ 104) (_ : True) (hg : w.grownBy w' v.ownBlock) : FltAt B s g w' := ⟨h.1, h.2.row hg (own_ne ho h.2 h1)⟩
theorem FltAt.mono {B B' : Nat} {s : ByteArray} {g : Nat} {w : World} (h : FltAt B s g w) (hb : B' ≤ B) : FltAt B' s g w := ⟨Nat.le_trans hb h.1, h.2⟩
def anyF (ss : List ByteArray) (s : ByteArray) : Bool := ss.any fun t => decide (s = t)
def allF (ss : List ByteArray) (s : ByteArray) : Bool := ss.all fun t => decide (s = t)
theorem bytes_eq {s t : ByteArray} : (s.toList == t.toList) = decide (s = t) := by
  rw [ByteArray.toList_eq, ByteArray.toList_eq]
  by_cases h : s = t
  · subst h; simp
  · have h2 : ¬ s.data = t.data := fun e => h (ByteArray.ext e)
    simp [h, h2]
set_option maxRecDepth 100000 in
theorem stFilter_any (s : ByteArray) (w : World) :
    Calls Try.prog 75 #[.string s] w fun e w' => ∃ g, e = .returned (.func (.func 116) #[] #[.pointer (some ⟨g, 0, none⟩)]) ∧ FltAt w.heap.size s g w' ∧ Below w.heap.size w w' := by
  have hmf : ∀ (fn : Fn) (first cap : Array Value) (w : World), (Instr.makeFunc fn first cap).run Try.prog w = .ok (.func fn first cap) w := fun _ _ _ _ => rfl
  go_enter Try.func75, Try.ntmps75
  go_wp2_with (first
    | ((with_reducible refine at_dst (N := 1) rfl ?_); refine ev_box rfl 104 _ rfl _ rfl ?_; intro g1 w1 hg hB hb
       have low_g1 := Nat.le_trans (Nat.le_refl _) hg
       have B_w1 := Lib.hid (below_trans (Below.refl _ _) hb)
       have g1_w1 : Hid (Blk w1 g1 104 #[.string s]) := hB
       clear hB hb))
  go_ret
  exact ⟨_, rfl, ⟨low_g1, g1_w1.out⟩, B_w1.out⟩
set_option maxRecDepth 100000 in
set_option maxHeartbeats 4000000 in
theorem sfClo_any (B B2 : Nat) (x : Ty53) (g gs : Nat) (s : ByteArray) (w : World) (hr : RelAt B x g w) (hf : FltAt B2 s gs w) :
    Calls Try.prog 116 #[.pointer (some ⟨g, 0, none⟩), .pointer (some ⟨gs, 0, none⟩)] w fun e w' => e = .returned (.bool (decide (x.fStatus = s))) ∧ Below w.heap.size w w' := by
  obtain ⟨_, gi, _, h5, h6⟩ := hr
  obtain ⟨_, h7⟩ := hf
  have HG := Lib.hid h5
  have HGI := Lib.hid h6
  have HS := Lib.hid h7
  clear h5 h6 h7
  cases he : x.fStatus.toList == s.toList
  · go_enter Try.func116, Try.ntmps116
    go_upto_region 3 with fail
    refine wp_region_grow [some [], some [(0, 6)], some [(1, 7)], some [(2, 8)], some [(3, 9)], some [(4, 10)], some [(5, 11)], some [], none, none]
        [fun vv _ => vv = .pointer (some ⟨g, 0, none⟩),
         fun vv _ => vv = .pointer (some ⟨g, 0, none⟩),
         fun vv _ => vv = .pointer (some ⟨g, 1, none⟩),
         fun vv _ => vv = .pointer (some ⟨gi, 0, none⟩),
         fun vv _ => vv = .pointer (some ⟨gi, 0, none⟩),
         fun vv _ => vv = .pointer (some ⟨gi, 2, none⟩),
         fun vv _ => vv = .string x.fStatus,
         fun vv _ => vv = .string s,
         fun _ _ => True,
         fun _ _ => True] 15 (by kernel_rfl) rfl rfl (by kernel_rfl) ?_ ?_ ?_
    · intro p hp
      simp only [List.mem_cons, List.not_mem_nil, or_false] at hp
      rcases hp with rfl | rfl | rfl | rfl | rfl | rfl | rfl | rfl | rfl | rfl
      · exact stab_eq _
      · exact stab_eq _
      · exact stab_eq _
      · exact stab_eq _
      · exact stab_eq _
      · exact stab_eq _
      · exact stab_eq _
      · exact stab_eq _
      · exact stab_true
      · exact stab_true
    · simp only [oblGo, obl1, withDeps, oblK, postAt, List.getD_cons_zero, List.getD_cons_succ, forall_eq]
      refine ⟨?_, ?_, ?_, ?_, ?_, ?_, ?_, ?_, trivial⟩
      · intro wg hg
        go_simp
      · intro wg hg
        go_simp
      · intro wg hg
        go_simp
      · intro wg hg
        exact gr_ld 192 _ rfl ⟨g, 1, none⟩ rfl (.pointer (some ⟨gi, 0, none⟩)) ((HG.out.below hg).cell 1) _ Try.underlying192 rfl rfl
      · intro wg hg
        go_simp
      · intro wg hg
        go_simp
      · intro wg hg
        exact gr_ld 104 _ rfl ⟨gi, 2, none⟩ rfl (.string x.fStatus) ((HGI.out.below hg).cell 2) _ Try.underlying104 rfl rfl
      · intro wg hg
        exact gr_ld 104 _ rfl ⟨gs, 0, none⟩ rfl (.string s) ((HS.out.below hg).cell 0) _ Try.underlying104 rfl rfl
    simp only [headDs, withDeps, postAt, List.getD_cons_zero, List.getD_cons_succ, forall_eq, tailOps]
    intro w1 hgr
    simp only [Act.put, List.setIfInBounds_toArray, List.set_cons_succ, List.set_cons_zero]
    have g_w1 := Lib.hid (HG.out.below (show Below _ _ _ from hgr))
    have gi_w1 := Lib.hid (HGI.out.below (show Below _ _ _ from hgr))
    have gs_w1 := Lib.hid (HS.out.below (show Below _ _ _ from hgr))
    have B_w1 := Lib.hid (below_trans (Below.refl _ _) (show Below _ _ _ from hgr))
    clear hgr
    go_wp2_with fail
    go_ret
    exact ⟨ret_bool (by rw [← he, bytes_eq]), B_w1.out⟩
  · go_enter Try.func116, Try.ntmps116
    go_upto_region 3 with fail
    refine wp_region_grow [some [], some [(0, 6)], some [(1, 7)], some [(2, 8)], some [(3, 9)], some [(4, 10)], some [(5, 11)], some [], none, none]
        [fun vv _ => vv = .pointer (some ⟨g, 0, none⟩),
         fun vv _ => vv = .pointer (some ⟨g, 0, none⟩),
         fun vv _ => vv = .pointer (some ⟨g, 1, none⟩),
         fun vv _ => vv = .pointer (some ⟨gi, 0, none⟩),
         fun vv _ => vv = .pointer (some ⟨gi, 0, none⟩),
         fun vv _ => vv = .pointer (some ⟨gi, 2, none⟩),
         fun vv _ => vv = .string x.fStatus,
         fun vv _ => vv = .string s,
         fun _ _ => True,
         fun _ _ => True] 15 (by kernel_rfl) rfl rfl (by kernel_rfl) ?_ ?_ ?_
    · intro p hp
      simp only [List.mem_cons, List.not_mem_nil, or_false] at hp
      rcases hp with rfl | rfl | rfl | rfl | rfl | rfl | rfl | rfl | rfl | rfl
      · exact stab_eq _
      · exact stab_eq _
      · exact stab_eq _
      · exact stab_eq _
      · exact stab_eq _
      · exact stab_eq _
      · exact stab_eq _
      · exact stab_eq _
      · exact stab_true
      · exact stab_true
    · simp only [oblGo, obl1, withDeps, oblK, postAt, List.getD_cons_zero, List.getD_cons_succ, forall_eq]
      refine ⟨?_, ?_, ?_, ?_, ?_, ?_, ?_, ?_, trivial⟩
      · intro wg hg
        go_simp
      · intro wg hg
        go_simp
      · intro wg hg
        go_simp
      · intro wg hg
        exact gr_ld 192 _ rfl ⟨g, 1, none⟩ rfl (.pointer (some ⟨gi, 0, none⟩)) ((HG.out.below hg).cell 1) _ Try.underlying192 rfl rfl
      · intro wg hg
        go_simp
      · intro wg hg
        go_simp
      · intro wg hg
        exact gr_ld 104 _ rfl ⟨gi, 2, none⟩ rfl (.string x.fStatus) ((HGI.out.below hg).cell 2) _ Try.underlying104 rfl rfl
      · intro wg hg
        exact gr_ld 104 _ rfl ⟨gs, 0, none⟩ rfl (.string s) ((HS.out.below hg).cell 0) _ Try.underlying104 rfl rfl
    simp only [headDs, withDeps, postAt, List.getD_cons_zero, List.getD_cons_succ, forall_eq, tailOps]
    intro w1 hgr
    simp only [Act.put, List.setIfInBounds_toArray, List.set_cons_succ, List.set_cons_zero]
    have g_w1 := Lib.hid (HG.out.below (show Below _ _ _ from hgr))
    have gi_w1 := Lib.hid (HGI.out.below (show Below _ _ _ from hgr))
    have gs_w1 := Lib.hid (HS.out.below (show Below _ _ _ from hgr))
    have B_w1 := Lib.hid (below_trans (Below.refl _ _) (show Below _ _ _ from hgr))
    clear hgr
    go_wp2_with fail
    go_ret
    exact ⟨ret_bool (by rw [← he, bytes_eq]), B_w1.out⟩
set_option maxRecDepth 100000 in
set_option maxHeartbeats 4000000 in
theorem anyClo_any (B B2 : Nat) (x : Ty53) (g gb : Nat) (A : Option Addr) (n c : Nat) (gs : List Nat) (ss : List ByteArray) (w : World) (hr : RelAt B x g w) (hb0 : Blk w gb 125 #[.slice A n c]) (hsl : Sl w A (fvals gs)) (hp : Pl (FltAt B2) w gs ss) (hl : ss.length = n) :
    Calls Try.prog 122 #[.pointer (some ⟨g, 0, none⟩), .pointer (some ⟨gb, 0, none⟩)] w fun e w' => e = .returned (.bool (anyF ss x.fStatus)) ∧ Below w.heap.size w w' := by
  have hlen := hp.1
  have hn : n ≤ 9223372036854775807 := by have := hsl.1; simp [fvals] at this; omega
  have HR := Lib.hid hr
  have HBB := Lib.hid hb0
  have HSL := Lib.hid hsl
  have HP := Lib.hid hp
  have HL := Lib.hid hl
  clear hr hb0 hsl hp hl hlen
  go_enter Try.func122, Try.ntmps122
  go_wp2_with (first
    | ((with_reducible refine at_dst (N := 6) rfl ?_); refine ev_ld rfl 125 _ rfl ⟨gb, 0, none⟩ rfl (.slice A n c) (HBB.out.cell 0) _ Try.underlying125 rfl ?_))
  go_loopw [5, 8] (fun _ i wr => ∃ k : Nat, k ≤ n ∧ i = .int .i64 k ∧ Hid (∀ j, ∀ h : j < ss.length, j < k → decide (x.fStatus = ss[j]) = false) ∧ Hid (Below w.heap.size w wr)) (fun _ i _ => n - (intOf i).toNat)
  case atStart => exact ⟨0, Nat.zero_le _, rfl, fun j _ h0 => by omega, Below.refl _ _⟩
  case round =>
    obtain ⟨k, hk, rfl, HA, HB⟩ := hrel
    by_cases hlt : k < n
    · have hkx : k < ss.length := by have := HL.out; omega
      obtain ⟨hkp, hF⟩ := HP.out.get hkx
      obtain ⟨ad, rfl, hx⟩ := (HSL.out.below HB.out).at_ (j := k) (fvals_get hkp)
      generalize gs[k] = gf at hF hx
      have HF := Lib.hid hF
      have HC := Lib.hid hx
      have hc := fun W (h1 : Below w.heap.size w W) => sfClo_any B B2 x g gf ss[k] W (HR.out.below h1) (HF.out.below h1)
      clear hF hx
      cases hd : decide (x.fStatus = ss[k])
      · rw [hd] at hc
        have HCL := Lib.hid hc
        have HA2 : Hid (∀ j, ∀ h : j < ss.length, j < k + 1 → decide (x.fStatus = ss[j]) = false) := fun j hj hjk => by
          by_cases e : j = k
          · subst e; exact hd
          · exact HA.out j hj (by omega)
        clear hc hd
        go_wp2_with (first
          | ((with_reducible refine at_dst (N := 11) rfl ?_); refine ev_ld rfl 127 _ rfl _ rfl (.func (.func 116) #[] #[.pointer (some ⟨gf, 0, none⟩)]) (HC.out) _ Try.underlying127 rfl ?_)
          | (go_at_call 116; (with_reducible refine (HCL.out _ HB.out).mono ?_); rintro e w1 ⟨rfl, hb⟩
             have B_w1 := Lib.hid (below_trans HB.out hb)
             clear hb))
        refine ⟨⟨k + 1, by omega, by go_num, HA2, B_w1⟩, ?_⟩
        simp [intOf]; omega
      · rw [hd] at hc
        have HCL := Lib.hid hc
        have HE : Hid (anyF ss x.fStatus = true) := by
          unfold anyF
          show _ = _
          rw [List.any_eq_true]
          exact ⟨ss[k], List.getElem_mem _, hd⟩
        clear hc hd
        go_wp2_with (first
          | ((with_reducible refine at_dst (N := 11) rfl ?_); refine ev_ld rfl 127 _ rfl _ rfl (.func (.func 116) #[] #[.pointer (some ⟨gf, 0, none⟩)]) (HC.out) _ Try.underlying127 rfl ?_)
          | (go_at_call 116; (with_reducible refine (HCL.out _ HB.out).mono ?_); rintro e w2 ⟨rfl, hb⟩
             have B_w2 := Lib.hid (below_trans HB.out hb)
             clear hb))
        go_ret
        exact ⟨ret_bool HE.out.symm, B_w2.out⟩
    · obtain rfl : k = n := by omega
      go_wp2_with fail
      go_ret
      have hE : anyF ss x.fStatus = false := by
        unfold anyF
        rw [List.any_eq_false]
        intro t ht
        obtain ⟨j, hj, rfl⟩ := List.getElem_of_mem ht
        have := HA.out j hj (by have := HL.out; omega)
        rw [this]; decide
      exact ⟨ret_bool hE.symm, HB.out⟩
set_option maxRecDepth 100000 in
theorem anyMk_any (A : Option Addr) (n c : Nat) (w : World) :
    Calls Try.prog 80 #[.slice A n c] w fun e w' => ∃ gb, e = .returned (.func (.func 122) #[] #[.pointer (some ⟨gb, 0, none⟩)]) ∧ w.heap.size ≤ gb ∧ Blk w' gb 125 #[.slice A n c] ∧ Below w.heap.size w w' := by
  have hmf : ∀ (fn : Fn) (first cap : Array Value) (w : World), (Instr.makeFunc fn first cap).run Try.prog w = .ok (.func fn first cap) w := fun _ _ _ _ => rfl
  go_enter Try.func80, Try.ntmps80
  go_wp2_with (first
    | ((with_reducible refine at_dst (N := 1) rfl ?_); refine ev_box rfl 125 _ rfl _ rfl ?_; intro g1 w1 hg hB hb
       have low_g1 := Nat.le_trans (Nat.le_refl _) hg
       have B_w1 := Lib.hid (below_trans (Below.refl _ _) hb)
       have g1_w1 : Hid (Blk w1 g1 125 #[.slice A n c]) := hB
       clear hB hb))
  go_ret
  exact ⟨_, rfl, low_g1, g1_w1.out, B_w1.out⟩
set_option maxRecDepth 100000 in
set_option maxHeartbeats 2000000 in
theorem anyChk_any (B B2 : Nat) (x : Ty53) (g gb : Nat) (A : Option Addr) (n c : Nat) (gs : List Nat) (ss : List ByteArray) (w : World) (hr : RelAt B x g w) (hb0 : Blk w gb 125 #[.slice A n c]) (hsl : Sl w A (fvals gs)) (hp : Pl (FltAt B2) w gs ss) (hl : ss.length = n) :
    Calls Try.prog 120 #[.func (.func 122) #[] #[.pointer (some ⟨gb, 0, none⟩)], .pointer (some ⟨g, 0, none⟩)] w fun e w' => e = .returned (.bool (anyF ss x.fStatus)) ∧ Below w.heap.size w w' := by
  have HR := Lib.hid hr
  have HBB := Lib.hid hb0
  have HSL := Lib.hid hsl
  have HP := Lib.hid hp
  clear hr hb0 hsl hp
  go_enter Try.func120, Try.ntmps120
  go_wp2_with (first
    | (go_at_call 122; (with_reducible refine (anyClo_any B B2 x g gb A n c gs ss _ HR.out HBB.out HSL.out HP.out hl).mono ?_); rintro e w1 ⟨rfl, hb⟩
       have B_w1 := Lib.hid (below_trans (Below.refl _ _) hb)
       clear hb))
  go_ret
  exact ⟨rfl, B_w1.out⟩
set_option maxRecDepth 100000 in
set_option maxHeartbeats 4000000 in
theorem allClo_any (B B2 : Nat) (x : Ty53) (g gb : Nat) (A : Option Addr) (n c : Nat) (gs : List Nat) (ss : List ByteArray) (w : World) (hr : RelAt B x g w) (hb0 : Blk w gb 125 #[.slice A n c]) (hsl : Sl w A (fvals gs)) (hp : Pl (FltAt B2) w gs ss) (hl : ss.length = n) :
    Calls Try.prog 119 #[.pointer (some ⟨g, 0, none⟩), .pointer (some ⟨gb, 0, none⟩)] w fun e w' => e = .returned (.bool (allF ss x.fStatus)) ∧ Below w.heap.size w w' := by
  have hlen := hp.1
  have hn : n ≤ 9223372036854775807 := by have := hsl.1; simp [fvals] at this; omega
  have HR := Lib.hid hr
  have HBB := Lib.hid hb0
  have HSL := Lib.hid hsl
  have HP := Lib.hid hp
  have HL := Lib.hid hl
  clear hr hb0 hsl hp hl hlen
  go_enter Try.func119, Try.ntmps119
  go_wp2_with (first
    | ((with_reducible refine at_dst (N := 6) rfl ?_); refine ev_ld rfl 125 _ rfl ⟨gb, 0, none⟩ rfl (.slice A n c) (HBB.out.cell 0) _ Try.underlying125 rfl ?_))
  go_loopw [5, 8] (fun _ i wr => ∃ k : Nat, k ≤ n ∧ i = .int .i64 k ∧ Hid (∀ j, ∀ h : j < ss.length, j < k → decide (x.fStatus = ss[j]) = true) ∧ Hid (Below w.heap.size w wr)) (fun _ i _ => n - (intOf i).toNat)
  case atStart => exact ⟨0, Nat.zero_le _, rfl, fun j _ h0 => by omega, Below.refl _ _⟩
  case round =>
    obtain ⟨k, hk, rfl, HA, HB⟩ := hrel
    by_cases hlt : k < n
    · have hkx : k < ss.length := by have := HL.out; omega
      obtain ⟨hkp, hF⟩ := HP.out.get hkx
      obtain ⟨ad, rfl, hx⟩ := (HSL.out.below HB.out).at_ (j := k) (fvals_get hkp)
      generalize gs[k] = gf at hF hx
      have HF := Lib.hid hF
      have HC := Lib.hid hx
      have hc := fun W (h1 : Below w.heap.size w W) => sfClo_any B B2 x g gf ss[k] W (HR.out.below h1) (HF.out.below h1)
      clear hF hx
      cases hd : decide (x.fStatus = ss[k])
      · rw [hd] at hc
        have HCL := Lib.hid hc
        have HE : Hid (allF ss x.fStatus = false) := by
          unfold allF
          show _ = _
          rw [List.all_eq_false]
          exact ⟨ss[k], List.getElem_mem _, by rw [hd]; decide⟩
        clear hc hd
        go_wp2_with (first
          | ((with_reducible refine at_dst (N := 11) rfl ?_); refine ev_ld rfl 127 _ rfl _ rfl (.func (.func 116) #[] #[.pointer (some ⟨gf, 0, none⟩)]) (HC.out) _ Try.underlying127 rfl ?_)
          | (go_at_call 116; (with_reducible refine (HCL.out _ HB.out).mono ?_); rintro e w1 ⟨rfl, hb⟩
             have B_w1 := Lib.hid (below_trans HB.out hb)
             clear hb))
        go_ret
        exact ⟨ret_bool HE.out.symm, B_w1.out⟩
      · rw [hd] at hc
        have HCL := Lib.hid hc
        have HA2 : Hid (∀ j, ∀ h : j < ss.length, j < k + 1 → decide (x.fStatus = ss[j]) = true) := fun j hj hjk => by
          by_cases e : j = k
          · subst e; exact hd
          · exact HA.out j hj (by omega)
        clear hc hd
        go_wp2_with (first
          | ((with_reducible refine at_dst (N := 11) rfl ?_); refine ev_ld rfl 127 _ rfl _ rfl (.func (.func 116) #[] #[.pointer (some ⟨gf, 0, none⟩)]) (HC.out) _ Try.underlying127 rfl ?_)
          | (go_at_call 116; (with_reducible refine (HCL.out _ HB.out).mono ?_); rintro e w2 ⟨rfl, hb⟩
             have B_w2 := Lib.hid (below_trans HB.out hb)
             clear hb))
        refine ⟨⟨k + 1, by omega, by go_num, HA2, B_w2⟩, ?_⟩
        simp [intOf]; omega
    · obtain rfl : k = n := by omega
      go_wp2_with fail
      go_ret
      have hE : allF ss x.fStatus = true := by
        unfold allF
        rw [List.all_eq_true]
        intro t ht
        obtain ⟨j, hj, rfl⟩ := List.getElem_of_mem ht
        exact HA.out j hj (by have := HL.out; omega)
      exact ⟨ret_bool hE.symm, HB.out⟩
set_option maxRecDepth 100000 in
theorem allMk_any (A : Option Addr) (n c : Nat) (w : World) :
    Calls Try.prog 77 #[.slice A n c] w fun e w' => ∃ gb, e = .returned (.func (.func 119) #[] #[.pointer (some ⟨gb, 0, none⟩)]) ∧ w.heap.size ≤ gb ∧ Blk w' gb 125 #[.slice A n c] ∧ Below w.heap.size w w' := by
  have hmf : ∀ (fn : Fn) (first cap : Array Value) (w : World), (Instr.makeFunc fn first cap).run Try.prog w = .ok (.func fn first cap) w := fun _ _ _ _ => rfl
  go_enter Try.func77, Try.ntmps77
  go_wp2_with (first
    | ((with_reducible refine at_dst (N := 1) rfl ?_); refine ev_box rfl 125 _ rfl _ rfl ?_; intro g1 w1 hg hB hb
       have low_g1 := Nat.le_trans (Nat.le_refl _) hg
       have B_w1 := Lib.hid (below_trans (Below.refl _ _) hb)
       have g1_w1 : Hid (Blk w1 g1 125 #[.slice A n c]) := hB
       clear hB hb))
  go_ret
  exact ⟨_, rfl, low_g1, g1_w1.out, B_w1.out⟩
set_option maxRecDepth 100000 in
set_option maxHeartbeats 2000000 in
theorem allChk_any (B B2 : Nat) (x : Ty53) (g gb : Nat) (A : Option Addr) (n c : Nat) (gs : List Nat) (ss : List ByteArray) (w : World) (hr : RelAt B x g w) (hb0 : Blk w gb 125 #[.slice A n c]) (hsl : Sl w A (fvals gs)) (hp : Pl (FltAt B2) w gs ss) (hl : ss.length = n) :
    Calls Try.prog 120 #[.func (.func 119) #[] #[.pointer (some ⟨gb, 0, none⟩)], .pointer (some ⟨g, 0, none⟩)] w fun e w' => e = .returned (.bool (allF ss x.fStatus)) ∧ Below w.heap.size w w' := by
  have HR := Lib.hid hr
  have HBB := Lib.hid hb0
  have HSL := Lib.hid hsl
  have HP := Lib.hid hp
  clear hr hb0 hsl hp
  go_enter Try.func120, Try.ntmps120
  go_wp2_with (first
    | (go_at_call 119; (with_reducible refine (allClo_any B B2 x g gb A n c gs ss _ HR.out HBB.out HSL.out HP.out hl).mono ?_); rintro e w1 ⟨rfl, hb⟩
       have B_w1 := Lib.hid (below_trans (Below.refl _ _) hb)
       clear hb))
  go_ret
  exact ⟨rfl, B_w1.out⟩
end Go.Proofs.Ytdgblfldbikneaa
