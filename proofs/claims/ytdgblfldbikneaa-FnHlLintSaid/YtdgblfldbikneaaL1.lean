/- Linter: errors, severities, messages. -/
import Derived.Test.YtdgblfldbikneaaW2
import Derived.Test.YtdgblfldbikneaaP2
import Derived.Test.YtdgblfldbikneaaTz
import Derived.Handy
namespace Go.Proofs.Ytdgblfldbikneaa
open Go.RowKit Go.Lib
set_option linter.unusedVariables false
set_option linter.unusedSimpArgs false
theorem errStr_any (s : ByteArray) (g : Nat) (w : World) (h : Blk w g 201 #[.string s]) : Calls Try.prog 170 #[.pointer (some ⟨g, 0, none⟩)] w fun e w' => e = .returned (.string s) ∧ w = w' := by
  have q0 : w.cell? ⟨g, 0, none⟩ = some (.string s) := h.cell 0
  go_enter Try.func170, Try.ntmps170
  go_wp2
  go_ret
  exact ⟨rfl, rfl⟩
def sevL : List ByteArray := [⟨#[85, 78, 75, 78, 79, 87, 78]⟩, ⟨#[73, 78, 70, 79]⟩, ⟨#[87, 65, 82, 78, 73, 78, 71]⟩, ⟨#[69, 82, 82, 79, 82]⟩]
theorem sev_any (w : World) : Calls Try.prog 124 #[] w fun e w' => ∃ A, e = .returned (.slice A 4 4) ∧ Sl w' A (strs sevL) ∧ Below w.heap.size w w' := by
  go_enter Try.func124, Try.ntmps124
  go_wp2
  go_ret
  exact ⟨_, rfl, Blk.sl (Blk.new w 9 _) (by decide), (Below.refl _ _).alloc (Nat.le_refl _) _⟩
/-- A message's text. -/
def msgF (l p s : ByteArray) : ByteArray := ⟨#[91]⟩ ++ l ++ ⟨#[93, 32]⟩ ++ p ++ ⟨#[58, 32]⟩ ++ s
set_option maxRecDepth 100000 in
set_option maxHeartbeats 1000000 in
theorem newMsg_any (a : Int) (p : ByteArray) (ge : Nat) (w : World) :
    Calls Try.prog 125 #[.int .i64 a, .string p, .iface 199 (.pointer (some ⟨ge, 0, none⟩))] w fun e w' => e = .returned (.agg #[.int .i64 a, .string p, .iface 199 (.pointer (some ⟨ge, 0, none⟩))]) ∧ Below w.heap.size w w' := by
  go_enter Try.func125, Try.ntmps125
  go_wp2_with (first
    | ((with_reducible refine at_dst (N := 6) rfl ?_); refine ev_alloc rfl 143 rfl _ _ tz143 ?_; intro g6 w1 hg hB hb
       have low_g6 := Nat.le_trans (Nat.le_refl _) hg
       have B_w1 := Lib.hid (below_trans (Below.refl _ _) hb)
       have g6_w1 : Hid (Blk w1 g6 143 #[.int .i64 0, .string ⟨#[]⟩, .nilIface]) := hB
       clear hB hb)
    | (refine ev_store rfl 143 _ _ rfl g6 _ _ rfl rfl 143 g6_w1.out tsz143 rfl rfl ?_; intro w2 hB hg hz
       have B_w2 := Lib.hid (below_grown B_w1.out hg B_w1.out.size low_g6)
       have g6_w2 : Hid (Blk w2 g6 143 #[.int .i64 a, .string p, .iface 199 (.pointer (some ⟨ge, 0, none⟩))]) := hB
       clear hB hg hz))
  have rl0 : (loadVar 143 ⟨g6, 0, none⟩).run Try.prog w2 = .ok (.agg #[.int .i64 a, .string p, .iface 199 (.pointer (some ⟨ge, 0, none⟩))]) w2 := load_mid (P := Try.prog) _ 143 g6 0 143 _ g6_w2.out 3 (by simp) _ Try.underlying143 rfl tsz143
  (try simp only [Exit.inBlock, Exit.then])
  refine bodyPost_ret (v := .agg #[.int .i64 a, .string p, .iface 199 (.pointer (some ⟨ge, 0, none⟩))]) (results1 Try.results125 ⟨_, rfl, rl0⟩) rfl ?_
  exact ⟨rfl, B_w2.out⟩
set_option maxRecDepth 100000 in
set_option maxHeartbeats 2000000 in
theorem msgErr0_any (p s : ByteArray) (ge : Nat) (w : World) (hp : p.size ≤ 1000000) (hs : s.size ≤ 1000000) (h : Blk w ge 201 #[.string s]) :
    Calls Try.prog 86 #[.agg #[.int .i64 0, .string p, .iface 199 (.pointer (some ⟨ge, 0, none⟩))]] w fun e w' => e = .returned (.string (msgF ⟨#[85, 78, 75, 78, 79, 87, 78]⟩ p s)) ∧ Below w.heap.size w w' := by
  have HE := Lib.hid h
  clear h
  go_enter Try.func86, Try.ntmps86
  go_upto_region 1 with (first
    | ((with_reducible refine at_dst (N := 1) rfl ?_); refine ev_box rfl 143 _ rfl _ rfl ?_; intro g1 w1 hg hB hb
       have n_ge_g1 : ge ≠ g1 := by have := HE.out.lt; omega
       have low_g1 := Nat.le_trans (Nat.le_refl _) hg
       have ge_w1 := Lib.hid (HE.out.below hb)
       have B_w1 := Lib.hid (below_trans (Below.refl _ _) hb)
       have g1_w1 : Hid (Blk w1 g1 143 #[.int .i64 0, .string p, .iface 199 (.pointer (some ⟨ge, 0, none⟩))]) := hB
       clear hB hb))
  refine wp_region_grow [some [], some [], some [(1, 4)], some [(0, 3), (2, 5)], some [(3, 6)], some [(4, 7)], some [(5, 8)], some [], some [(7, 10)], some [(6, 9), (8, 11)], some [(9, 12)], some [], some [(11, 14)], some [(12, 15)], none, none]
      [fun v w' => ∃ A, v = .slice A 4 4 ∧ Sl w' A (strs sevL),
       fun vv _ => vv = .pointer (some ⟨g1, 0, none⟩),
       fun vv _ => vv = .int .i64 0,
       fun v w' => ∃ ad, v = .pointer (some ad) ∧ w'.cell? ad = some (.string ⟨#[85, 78, 75, 78, 79, 87, 78]⟩),
       fun vv _ => vv = .string ⟨#[85, 78, 75, 78, 79, 87, 78]⟩,
       fun vv _ => vv = .string (⟨#[91]⟩ ++ ⟨#[85, 78, 75, 78, 79, 87, 78]⟩),
       fun vv _ => vv = .string (⟨#[91]⟩ ++ ⟨#[85, 78, 75, 78, 79, 87, 78]⟩ ++ ⟨#[93, 32]⟩),
       fun vv _ => vv = .pointer (some ⟨g1, 1, none⟩),
       fun vv _ => vv = .string p,
       fun vv _ => vv = .string (⟨#[91]⟩ ++ ⟨#[85, 78, 75, 78, 79, 87, 78]⟩ ++ ⟨#[93, 32]⟩ ++ p),
       fun vv _ => vv = .string (⟨#[91]⟩ ++ ⟨#[85, 78, 75, 78, 79, 87, 78]⟩ ++ ⟨#[93, 32]⟩ ++ p ++ ⟨#[58, 32]⟩),
       fun vv _ => vv = .pointer (some ⟨g1, 2, none⟩),
       fun vv _ => vv = .iface 199 (.pointer (some ⟨ge, 0, none⟩)),
       fun vv _ => vv = .string s,
       fun _ _ => True,
       fun _ _ => True] 18 (by kernel_rfl) rfl rfl (by kernel_rfl) ?_ ?_ ?_
  · intro p hp
    simp only [List.mem_cons, List.not_mem_nil, or_false] at hp
    rcases hp with rfl | rfl | rfl | rfl | rfl | rfl | rfl | rfl | rfl | rfl | rfl | rfl | rfl | rfl | rfl | rfl
    · exact fun v w w' ⟨A, e, h⟩ hg => ⟨A, e, h.below hg⟩
    · exact stab_eq _
    · exact stab_eq _
    · exact fun v w w' ⟨ad, e, h⟩ hg => ⟨ad, e, hg.cell h⟩
    · exact stab_eq _
    · exact stab_eq _
    · exact stab_eq _
    · exact stab_eq _
    · exact stab_eq _
    · exact stab_eq _
    · exact stab_eq _
    · exact stab_eq _
    · exact stab_eq _
    · exact stab_eq _
    · exact stab_true
    · exact stab_true
  · simp only [oblGo, obl1, withDeps, oblK, postAt, List.getD_cons_zero, List.getD_cons_succ, forall_eq]
    refine ⟨?_, ?_, ?_, ?_, ?_, ?_, ?_, ?_, ?_, ?_, ?_, ?_, ?_, ?_, trivial⟩
    · intro wg hg
      go_simp
      exact (sev_any _).mono fun e w' ⟨A, h1, h2, h3⟩ => ⟨_, h1, h3, A, rfl, h2⟩
    · intro wg hg
      go_simp
    · intro wg hg
      exact gr_ld 3 _ rfl ⟨g1, 0, none⟩ rfl (.int .i64 0) ((g1_w1.out.below hg).cell 0) _ Try.underlying3 rfl rfl
    · intro wg hg; rintro _ ⟨A3, rfl, hs3⟩
      obtain ⟨ad, rfl, hx⟩ := hs3.at_ (j := 0) (u := .string ⟨#[85, 78, 75, 78, 79, 87, 78]⟩) rfl
      go_simp
      first | exact hx | (simpa using hx)
    · intro wg hg; rintro _ ⟨ad6, rfl, hc6⟩
      exact gr_ld 9 _ rfl _ rfl (.string ⟨#[85, 78, 75, 78, 79, 87, 78]⟩) hc6 _ Try.underlying9 rfl rfl
    · intro wg hg
      go_simp
      first | done | (rw [if_neg (by (try simp only [ByteArray.size_append] at *); omega)]; go_simp)
    · intro wg hg
      go_simp
      first | done | (rw [if_neg (by (try simp only [ByteArray.size_append] at *); omega)]; go_simp)
    · intro wg hg
      go_simp
    · intro wg hg
      exact gr_ld 9 _ rfl ⟨g1, 1, none⟩ rfl (.string p) ((g1_w1.out.below hg).cell 1) _ Try.underlying9 rfl rfl
    · intro wg hg
      go_simp
      first | done | (rw [if_neg (by (try simp only [ByteArray.size_append] at *); omega)]; go_simp)
    · intro wg hg
      go_simp
      first | done | (rw [if_neg (by (try simp only [ByteArray.size_append] at *); omega)]; go_simp)
    · intro wg hg
      go_simp
    · intro wg hg
      exact gr_ld 114 _ rfl ⟨g1, 2, none⟩ rfl (.iface 199 (.pointer (some ⟨ge, 0, none⟩))) ((g1_w1.out.below hg).cell 2) _ Try.underlying114 rfl rfl
    · intro wg hg
      go_simp
      go_invoke
      go_simp
      exact (errStr_any s ge _ (HE.out.below (below_trans B_w1.out hg))).mono fun _ _ h => ⟨h.1, h.2 ▸ Gr.refl _⟩
  simp only [headDs, withDeps, postAt, List.getD_cons_zero, List.getD_cons_succ, forall_eq, tailOps]
  intro w2 hgr
  rintro _ ⟨A3, rfl, hs3⟩
  rintro _ ⟨ad6, rfl, hc6⟩
  simp only [Act.put, List.setIfInBounds_toArray, List.set_cons_succ, List.set_cons_zero]
  have ge_w2 := Lib.hid (ge_w1.out.below (show Below _ _ _ from hgr))
  have g1_w2 := Lib.hid (g1_w1.out.below (show Below _ _ _ from hgr))
  have B_w2 := Lib.hid (below_trans B_w1.out (show Below _ _ _ from hgr))
  clear hgr
  go_wp2_with fail
  go_ret
  exact ⟨rfl, B_w2.out⟩
set_option maxRecDepth 100000 in
set_option maxHeartbeats 2000000 in
theorem msgErr1_any (p s : ByteArray) (ge : Nat) (w : World) (hp : p.size ≤ 1000000) (hs : s.size ≤ 1000000) (h : Blk w ge 201 #[.string s]) :
    Calls Try.prog 86 #[.agg #[.int .i64 1, .string p, .iface 199 (.pointer (some ⟨ge, 0, none⟩))]] w fun e w' => e = .returned (.string (msgF ⟨#[73, 78, 70, 79]⟩ p s)) ∧ Below w.heap.size w w' := by
  have HE := Lib.hid h
  clear h
  go_enter Try.func86, Try.ntmps86
  go_upto_region 1 with (first
    | ((with_reducible refine at_dst (N := 1) rfl ?_); refine ev_box rfl 143 _ rfl _ rfl ?_; intro g1 w1 hg hB hb
       have n_ge_g1 : ge ≠ g1 := by have := HE.out.lt; omega
       have low_g1 := Nat.le_trans (Nat.le_refl _) hg
       have ge_w1 := Lib.hid (HE.out.below hb)
       have B_w1 := Lib.hid (below_trans (Below.refl _ _) hb)
       have g1_w1 : Hid (Blk w1 g1 143 #[.int .i64 1, .string p, .iface 199 (.pointer (some ⟨ge, 0, none⟩))]) := hB
       clear hB hb))
  refine wp_region_grow [some [], some [], some [(1, 4)], some [(0, 3), (2, 5)], some [(3, 6)], some [(4, 7)], some [(5, 8)], some [], some [(7, 10)], some [(6, 9), (8, 11)], some [(9, 12)], some [], some [(11, 14)], some [(12, 15)], none, none]
      [fun v w' => ∃ A, v = .slice A 4 4 ∧ Sl w' A (strs sevL),
       fun vv _ => vv = .pointer (some ⟨g1, 0, none⟩),
       fun vv _ => vv = .int .i64 1,
       fun v w' => ∃ ad, v = .pointer (some ad) ∧ w'.cell? ad = some (.string ⟨#[73, 78, 70, 79]⟩),
       fun vv _ => vv = .string ⟨#[73, 78, 70, 79]⟩,
       fun vv _ => vv = .string (⟨#[91]⟩ ++ ⟨#[73, 78, 70, 79]⟩),
       fun vv _ => vv = .string (⟨#[91]⟩ ++ ⟨#[73, 78, 70, 79]⟩ ++ ⟨#[93, 32]⟩),
       fun vv _ => vv = .pointer (some ⟨g1, 1, none⟩),
       fun vv _ => vv = .string p,
       fun vv _ => vv = .string (⟨#[91]⟩ ++ ⟨#[73, 78, 70, 79]⟩ ++ ⟨#[93, 32]⟩ ++ p),
       fun vv _ => vv = .string (⟨#[91]⟩ ++ ⟨#[73, 78, 70, 79]⟩ ++ ⟨#[93, 32]⟩ ++ p ++ ⟨#[58, 32]⟩),
       fun vv _ => vv = .pointer (some ⟨g1, 2, none⟩),
       fun vv _ => vv = .iface 199 (.pointer (some ⟨ge, 0, none⟩)),
       fun vv _ => vv = .string s,
       fun _ _ => True,
       fun _ _ => True] 18 (by kernel_rfl) rfl rfl (by kernel_rfl) ?_ ?_ ?_
  · intro p hp
    simp only [List.mem_cons, List.not_mem_nil, or_false] at hp
    rcases hp with rfl | rfl | rfl | rfl | rfl | rfl | rfl | rfl | rfl | rfl | rfl | rfl | rfl | rfl | rfl | rfl
    · exact fun v w w' ⟨A, e, h⟩ hg => ⟨A, e, h.below hg⟩
    · exact stab_eq _
    · exact stab_eq _
    · exact fun v w w' ⟨ad, e, h⟩ hg => ⟨ad, e, hg.cell h⟩
    · exact stab_eq _
    · exact stab_eq _
    · exact stab_eq _
    · exact stab_eq _
    · exact stab_eq _
    · exact stab_eq _
    · exact stab_eq _
    · exact stab_eq _
    · exact stab_eq _
    · exact stab_eq _
    · exact stab_true
    · exact stab_true
  · simp only [oblGo, obl1, withDeps, oblK, postAt, List.getD_cons_zero, List.getD_cons_succ, forall_eq]
    refine ⟨?_, ?_, ?_, ?_, ?_, ?_, ?_, ?_, ?_, ?_, ?_, ?_, ?_, ?_, trivial⟩
    · intro wg hg
      go_simp
      exact (sev_any _).mono fun e w' ⟨A, h1, h2, h3⟩ => ⟨_, h1, h3, A, rfl, h2⟩
    · intro wg hg
      go_simp
    · intro wg hg
      exact gr_ld 3 _ rfl ⟨g1, 0, none⟩ rfl (.int .i64 1) ((g1_w1.out.below hg).cell 0) _ Try.underlying3 rfl rfl
    · intro wg hg; rintro _ ⟨A3, rfl, hs3⟩
      obtain ⟨ad, rfl, hx⟩ := hs3.at_ (j := 1) (u := .string ⟨#[73, 78, 70, 79]⟩) rfl
      go_simp
      first | exact hx | (simpa using hx)
    · intro wg hg; rintro _ ⟨ad6, rfl, hc6⟩
      exact gr_ld 9 _ rfl _ rfl (.string ⟨#[73, 78, 70, 79]⟩) hc6 _ Try.underlying9 rfl rfl
    · intro wg hg
      go_simp
      first | done | (rw [if_neg (by (try simp only [ByteArray.size_append] at *); omega)]; go_simp)
    · intro wg hg
      go_simp
      first | done | (rw [if_neg (by (try simp only [ByteArray.size_append] at *); omega)]; go_simp)
    · intro wg hg
      go_simp
    · intro wg hg
      exact gr_ld 9 _ rfl ⟨g1, 1, none⟩ rfl (.string p) ((g1_w1.out.below hg).cell 1) _ Try.underlying9 rfl rfl
    · intro wg hg
      go_simp
      first | done | (rw [if_neg (by (try simp only [ByteArray.size_append] at *); omega)]; go_simp)
    · intro wg hg
      go_simp
      first | done | (rw [if_neg (by (try simp only [ByteArray.size_append] at *); omega)]; go_simp)
    · intro wg hg
      go_simp
    · intro wg hg
      exact gr_ld 114 _ rfl ⟨g1, 2, none⟩ rfl (.iface 199 (.pointer (some ⟨ge, 0, none⟩))) ((g1_w1.out.below hg).cell 2) _ Try.underlying114 rfl rfl
    · intro wg hg
      go_simp
      go_invoke
      go_simp
      exact (errStr_any s ge _ (HE.out.below (below_trans B_w1.out hg))).mono fun _ _ h => ⟨h.1, h.2 ▸ Gr.refl _⟩
  simp only [headDs, withDeps, postAt, List.getD_cons_zero, List.getD_cons_succ, forall_eq, tailOps]
  intro w2 hgr
  rintro _ ⟨A3, rfl, hs3⟩
  rintro _ ⟨ad6, rfl, hc6⟩
  simp only [Act.put, List.setIfInBounds_toArray, List.set_cons_succ, List.set_cons_zero]
  have ge_w2 := Lib.hid (ge_w1.out.below (show Below _ _ _ from hgr))
  have g1_w2 := Lib.hid (g1_w1.out.below (show Below _ _ _ from hgr))
  have B_w2 := Lib.hid (below_trans B_w1.out (show Below _ _ _ from hgr))
  clear hgr
  go_wp2_with fail
  go_ret
  exact ⟨rfl, B_w2.out⟩
set_option maxRecDepth 100000 in
set_option maxHeartbeats 2000000 in
theorem msgErr2_any (p s : ByteArray) (ge : Nat) (w : World) (hp : p.size ≤ 1000000) (hs : s.size ≤ 1000000) (h : Blk w ge 201 #[.string s]) :
    Calls Try.prog 86 #[.agg #[.int .i64 2, .string p, .iface 199 (.pointer (some ⟨ge, 0, none⟩))]] w fun e w' => e = .returned (.string (msgF ⟨#[87, 65, 82, 78, 73, 78, 71]⟩ p s)) ∧ Below w.heap.size w w' := by
  have HE := Lib.hid h
  clear h
  go_enter Try.func86, Try.ntmps86
  go_upto_region 1 with (first
    | ((with_reducible refine at_dst (N := 1) rfl ?_); refine ev_box rfl 143 _ rfl _ rfl ?_; intro g1 w1 hg hB hb
       have n_ge_g1 : ge ≠ g1 := by have := HE.out.lt; omega
       have low_g1 := Nat.le_trans (Nat.le_refl _) hg
       have ge_w1 := Lib.hid (HE.out.below hb)
       have B_w1 := Lib.hid (below_trans (Below.refl _ _) hb)
       have g1_w1 : Hid (Blk w1 g1 143 #[.int .i64 2, .string p, .iface 199 (.pointer (some ⟨ge, 0, none⟩))]) := hB
       clear hB hb))
  refine wp_region_grow [some [], some [], some [(1, 4)], some [(0, 3), (2, 5)], some [(3, 6)], some [(4, 7)], some [(5, 8)], some [], some [(7, 10)], some [(6, 9), (8, 11)], some [(9, 12)], some [], some [(11, 14)], some [(12, 15)], none, none]
      [fun v w' => ∃ A, v = .slice A 4 4 ∧ Sl w' A (strs sevL),
       fun vv _ => vv = .pointer (some ⟨g1, 0, none⟩),
       fun vv _ => vv = .int .i64 2,
       fun v w' => ∃ ad, v = .pointer (some ad) ∧ w'.cell? ad = some (.string ⟨#[87, 65, 82, 78, 73, 78, 71]⟩),
       fun vv _ => vv = .string ⟨#[87, 65, 82, 78, 73, 78, 71]⟩,
       fun vv _ => vv = .string (⟨#[91]⟩ ++ ⟨#[87, 65, 82, 78, 73, 78, 71]⟩),
       fun vv _ => vv = .string (⟨#[91]⟩ ++ ⟨#[87, 65, 82, 78, 73, 78, 71]⟩ ++ ⟨#[93, 32]⟩),
       fun vv _ => vv = .pointer (some ⟨g1, 1, none⟩),
       fun vv _ => vv = .string p,
       fun vv _ => vv = .string (⟨#[91]⟩ ++ ⟨#[87, 65, 82, 78, 73, 78, 71]⟩ ++ ⟨#[93, 32]⟩ ++ p),
       fun vv _ => vv = .string (⟨#[91]⟩ ++ ⟨#[87, 65, 82, 78, 73, 78, 71]⟩ ++ ⟨#[93, 32]⟩ ++ p ++ ⟨#[58, 32]⟩),
       fun vv _ => vv = .pointer (some ⟨g1, 2, none⟩),
       fun vv _ => vv = .iface 199 (.pointer (some ⟨ge, 0, none⟩)),
       fun vv _ => vv = .string s,
       fun _ _ => True,
       fun _ _ => True] 18 (by kernel_rfl) rfl rfl (by kernel_rfl) ?_ ?_ ?_
  · intro p hp
    simp only [List.mem_cons, List.not_mem_nil, or_false] at hp
    rcases hp with rfl | rfl | rfl | rfl | rfl | rfl | rfl | rfl | rfl | rfl | rfl | rfl | rfl | rfl | rfl | rfl
    · exact fun v w w' ⟨A, e, h⟩ hg => ⟨A, e, h.below hg⟩
    · exact stab_eq _
    · exact stab_eq _
    · exact fun v w w' ⟨ad, e, h⟩ hg => ⟨ad, e, hg.cell h⟩
    · exact stab_eq _
    · exact stab_eq _
    · exact stab_eq _
    · exact stab_eq _
    · exact stab_eq _
    · exact stab_eq _
    · exact stab_eq _
    · exact stab_eq _
    · exact stab_eq _
    · exact stab_eq _
    · exact stab_true
    · exact stab_true
  · simp only [oblGo, obl1, withDeps, oblK, postAt, List.getD_cons_zero, List.getD_cons_succ, forall_eq]
    refine ⟨?_, ?_, ?_, ?_, ?_, ?_, ?_, ?_, ?_, ?_, ?_, ?_, ?_, ?_, trivial⟩
    · intro wg hg
      go_simp
      exact (sev_any _).mono fun e w' ⟨A, h1, h2, h3⟩ => ⟨_, h1, h3, A, rfl, h2⟩
    · intro wg hg
      go_simp
    · intro wg hg
      exact gr_ld 3 _ rfl ⟨g1, 0, none⟩ rfl (.int .i64 2) ((g1_w1.out.below hg).cell 0) _ Try.underlying3 rfl rfl
    · intro wg hg; rintro _ ⟨A3, rfl, hs3⟩
      obtain ⟨ad, rfl, hx⟩ := hs3.at_ (j := 2) (u := .string ⟨#[87, 65, 82, 78, 73, 78, 71]⟩) rfl
      go_simp
      first | exact hx | (simpa using hx)
    · intro wg hg; rintro _ ⟨ad6, rfl, hc6⟩
      exact gr_ld 9 _ rfl _ rfl (.string ⟨#[87, 65, 82, 78, 73, 78, 71]⟩) hc6 _ Try.underlying9 rfl rfl
    · intro wg hg
      go_simp
      first | done | (rw [if_neg (by (try simp only [ByteArray.size_append] at *); omega)]; go_simp)
    · intro wg hg
      go_simp
      first | done | (rw [if_neg (by (try simp only [ByteArray.size_append] at *); omega)]; go_simp)
    · intro wg hg
      go_simp
    · intro wg hg
      exact gr_ld 9 _ rfl ⟨g1, 1, none⟩ rfl (.string p) ((g1_w1.out.below hg).cell 1) _ Try.underlying9 rfl rfl
    · intro wg hg
      go_simp
      first | done | (rw [if_neg (by (try simp only [ByteArray.size_append] at *); omega)]; go_simp)
    · intro wg hg
      go_simp
      first | done | (rw [if_neg (by (try simp only [ByteArray.size_append] at *); omega)]; go_simp)
    · intro wg hg
      go_simp
    · intro wg hg
      exact gr_ld 114 _ rfl ⟨g1, 2, none⟩ rfl (.iface 199 (.pointer (some ⟨ge, 0, none⟩))) ((g1_w1.out.below hg).cell 2) _ Try.underlying114 rfl rfl
    · intro wg hg
      go_simp
      go_invoke
      go_simp
      exact (errStr_any s ge _ (HE.out.below (below_trans B_w1.out hg))).mono fun _ _ h => ⟨h.1, h.2 ▸ Gr.refl _⟩
  simp only [headDs, withDeps, postAt, List.getD_cons_zero, List.getD_cons_succ, forall_eq, tailOps]
  intro w2 hgr
  rintro _ ⟨A3, rfl, hs3⟩
  rintro _ ⟨ad6, rfl, hc6⟩
  simp only [Act.put, List.setIfInBounds_toArray, List.set_cons_succ, List.set_cons_zero]
  have ge_w2 := Lib.hid (ge_w1.out.below (show Below _ _ _ from hgr))
  have g1_w2 := Lib.hid (g1_w1.out.below (show Below _ _ _ from hgr))
  have B_w2 := Lib.hid (below_trans B_w1.out (show Below _ _ _ from hgr))
  clear hgr
  go_wp2_with fail
  go_ret
  exact ⟨rfl, B_w2.out⟩
set_option maxRecDepth 100000 in
set_option maxHeartbeats 2000000 in
theorem msgErr3_any (p s : ByteArray) (ge : Nat) (w : World) (hp : p.size ≤ 1000000) (hs : s.size ≤ 1000000) (h : Blk w ge 201 #[.string s]) :
    Calls Try.prog 86 #[.agg #[.int .i64 3, .string p, .iface 199 (.pointer (some ⟨ge, 0, none⟩))]] w fun e w' => e = .returned (.string (msgF ⟨#[69, 82, 82, 79, 82]⟩ p s)) ∧ Below w.heap.size w w' := by
  have HE := Lib.hid h
  clear h
  go_enter Try.func86, Try.ntmps86
  go_upto_region 1 with (first
    | ((with_reducible refine at_dst (N := 1) rfl ?_); refine ev_box rfl 143 _ rfl _ rfl ?_; intro g1 w1 hg hB hb
       have n_ge_g1 : ge ≠ g1 := by have := HE.out.lt; omega
       have low_g1 := Nat.le_trans (Nat.le_refl _) hg
       have ge_w1 := Lib.hid (HE.out.below hb)
       have B_w1 := Lib.hid (below_trans (Below.refl _ _) hb)
       have g1_w1 : Hid (Blk w1 g1 143 #[.int .i64 3, .string p, .iface 199 (.pointer (some ⟨ge, 0, none⟩))]) := hB
       clear hB hb))
  refine wp_region_grow [some [], some [], some [(1, 4)], some [(0, 3), (2, 5)], some [(3, 6)], some [(4, 7)], some [(5, 8)], some [], some [(7, 10)], some [(6, 9), (8, 11)], some [(9, 12)], some [], some [(11, 14)], some [(12, 15)], none, none]
      [fun v w' => ∃ A, v = .slice A 4 4 ∧ Sl w' A (strs sevL),
       fun vv _ => vv = .pointer (some ⟨g1, 0, none⟩),
       fun vv _ => vv = .int .i64 3,
       fun v w' => ∃ ad, v = .pointer (some ad) ∧ w'.cell? ad = some (.string ⟨#[69, 82, 82, 79, 82]⟩),
       fun vv _ => vv = .string ⟨#[69, 82, 82, 79, 82]⟩,
       fun vv _ => vv = .string (⟨#[91]⟩ ++ ⟨#[69, 82, 82, 79, 82]⟩),
       fun vv _ => vv = .string (⟨#[91]⟩ ++ ⟨#[69, 82, 82, 79, 82]⟩ ++ ⟨#[93, 32]⟩),
       fun vv _ => vv = .pointer (some ⟨g1, 1, none⟩),
       fun vv _ => vv = .string p,
       fun vv _ => vv = .string (⟨#[91]⟩ ++ ⟨#[69, 82, 82, 79, 82]⟩ ++ ⟨#[93, 32]⟩ ++ p),
       fun vv _ => vv = .string (⟨#[91]⟩ ++ ⟨#[69, 82, 82, 79, 82]⟩ ++ ⟨#[93, 32]⟩ ++ p ++ ⟨#[58, 32]⟩),
       fun vv _ => vv = .pointer (some ⟨g1, 2, none⟩),
       fun vv _ => vv = .iface 199 (.pointer (some ⟨ge, 0, none⟩)),
       fun vv _ => vv = .string s,
       fun _ _ => True,
       fun _ _ => True] 18 (by kernel_rfl) rfl rfl (by kernel_rfl) ?_ ?_ ?_
  · intro p hp
    simp only [List.mem_cons, List.not_mem_nil, or_false] at hp
    rcases hp with rfl | rfl | rfl | rfl | rfl | rfl | rfl | rfl | rfl | rfl | rfl | rfl | rfl | rfl | rfl | rfl
    · exact fun v w w' ⟨A, e, h⟩ hg => ⟨A, e, h.below hg⟩
    · exact stab_eq _
    · exact stab_eq _
    · exact fun v w w' ⟨ad, e, h⟩ hg => ⟨ad, e, hg.cell h⟩
    · exact stab_eq _
    · exact stab_eq _
    · exact stab_eq _
    · exact stab_eq _
    · exact stab_eq _
    · exact stab_eq _
    · exact stab_eq _
    · exact stab_eq _
    · exact stab_eq _
    · exact stab_eq _
    · exact stab_true
    · exact stab_true
  · simp only [oblGo, obl1, withDeps, oblK, postAt, List.getD_cons_zero, List.getD_cons_succ, forall_eq]
    refine ⟨?_, ?_, ?_, ?_, ?_, ?_, ?_, ?_, ?_, ?_, ?_, ?_, ?_, ?_, trivial⟩
    · intro wg hg
      go_simp
      exact (sev_any _).mono fun e w' ⟨A, h1, h2, h3⟩ => ⟨_, h1, h3, A, rfl, h2⟩
    · intro wg hg
      go_simp
    · intro wg hg
      exact gr_ld 3 _ rfl ⟨g1, 0, none⟩ rfl (.int .i64 3) ((g1_w1.out.below hg).cell 0) _ Try.underlying3 rfl rfl
    · intro wg hg; rintro _ ⟨A3, rfl, hs3⟩
      obtain ⟨ad, rfl, hx⟩ := hs3.at_ (j := 3) (u := .string ⟨#[69, 82, 82, 79, 82]⟩) rfl
      go_simp
      first | exact hx | (simpa using hx)
    · intro wg hg; rintro _ ⟨ad6, rfl, hc6⟩
      exact gr_ld 9 _ rfl _ rfl (.string ⟨#[69, 82, 82, 79, 82]⟩) hc6 _ Try.underlying9 rfl rfl
    · intro wg hg
      go_simp
      first | done | (rw [if_neg (by (try simp only [ByteArray.size_append] at *); omega)]; go_simp)
    · intro wg hg
      go_simp
      first | done | (rw [if_neg (by (try simp only [ByteArray.size_append] at *); omega)]; go_simp)
    · intro wg hg
      go_simp
    · intro wg hg
      exact gr_ld 9 _ rfl ⟨g1, 1, none⟩ rfl (.string p) ((g1_w1.out.below hg).cell 1) _ Try.underlying9 rfl rfl
    · intro wg hg
      go_simp
      first | done | (rw [if_neg (by (try simp only [ByteArray.size_append] at *); omega)]; go_simp)
    · intro wg hg
      go_simp
      first | done | (rw [if_neg (by (try simp only [ByteArray.size_append] at *); omega)]; go_simp)
    · intro wg hg
      go_simp
    · intro wg hg
      exact gr_ld 114 _ rfl ⟨g1, 2, none⟩ rfl (.iface 199 (.pointer (some ⟨ge, 0, none⟩))) ((g1_w1.out.below hg).cell 2) _ Try.underlying114 rfl rfl
    · intro wg hg
      go_simp
      go_invoke
      go_simp
      exact (errStr_any s ge _ (HE.out.below (below_trans B_w1.out hg))).mono fun _ _ h => ⟨h.1, h.2 ▸ Gr.refl _⟩
  simp only [headDs, withDeps, postAt, List.getD_cons_zero, List.getD_cons_succ, forall_eq, tailOps]
  intro w2 hgr
  rintro _ ⟨A3, rfl, hs3⟩
  rintro _ ⟨ad6, rfl, hc6⟩
  simp only [Act.put, List.setIfInBounds_toArray, List.set_cons_succ, List.set_cons_zero]
  have ge_w2 := Lib.hid (ge_w1.out.below (show Below _ _ _ from hgr))
  have g1_w2 := Lib.hid (g1_w1.out.below (show Below _ _ _ from hgr))
  have B_w2 := Lib.hid (below_trans B_w1.out (show Below _ _ _ from hgr))
  clear hgr
  go_wp2_with fail
  go_ret
  exact ⟨rfl, B_w2.out⟩
end Go.Proofs.Ytdgblfldbikneaa
