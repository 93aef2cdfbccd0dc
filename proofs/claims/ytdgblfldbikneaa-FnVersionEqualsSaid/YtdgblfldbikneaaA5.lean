/- Contract: chPerson. -/
import Derived.Test.YtdgblfldbikneaaA4
import Derived.Test.YtdgblfldbikneaaGr
namespace Go.Proofs.Ytdgblfldbikneaa
open Go.RowKit Go.Lib

set_option maxRecDepth 100000 in
set_option maxHeartbeats 4000000 in
theorem chPers_some (a b c : ByteArray) (w : World) (ha : a.size ≤ 9223372036854775807) (hb : b.size ≤ 9223372036854775807) (hc : c.size ≤ 9223372036854775807) :
    Calls Try.prog 21 #[.agg #[.bool false, .string a, .string b, .string c]] w fun e w' => e = .returned (.agg #[.bool false, .string (ascF a), .string (ascF b), .string (ascF c)]) ∧ Below w.heap.size w w' := by
  have La := ha
  have Lb := hb
  have Lc := hc
  clear ha hb hc
  go_enter Try.func21, Try.ntmps21
  go_upto_region 3 with (first
    | ((with_reducible refine at_dst (N := 1) rfl ?_); refine ev_box rfl 35 _ rfl _ rfl ?_; intro g1 w1 hg1 hB hb; have E1 : Hid (Blk w1 g1 35 #[.bool false, .string a, .string b, .string c]) := hB; have B1 := Lib.hid hb; clear hB hb)
    | ((with_reducible refine at_dst (N := 2) rfl ?_); refine ev_alloc rfl 35 rfl _ _ zero35 ?_; intro g2 w2 hg2 hB hb; have A2 : Hid (Blk w2 g2 35 #[.bool false, .string ByteArray.empty, .string ByteArray.empty, .string ByteArray.empty]) := hB; have E2 := Lib.hid (E1.out.below hb); have q0 : w2.cell? ⟨g1, 0, none⟩ = some (.bool false) := (E1.out.below hb).cell 0; have B2 := Lib.hid (below_trans B1.out hb); have h20 := Nat.le_trans B1.out.size hg2; have e12 : g1 ≠ g2 := (by have := E1.out.lt; omega); clear hB hb))
  have q1 : w2.cell? ⟨g1, 1, none⟩ = some (.string a) := E2.out.cell 1
  refine wp_region_grow [some [], some [(0, 6)], some [(1, 7)], some [], some [(3, 9)], some [(4, 10)], some [], some [(6, 12)], some [(7, 13)], some [(2, 8), (5, 11), (8, 14)], none]
    [fun v _ => v = .pointer (some ⟨g1, 1, none⟩), fun v _ => v = .string a, fun v _ => v = .string (ascF a),
     fun v _ => v = .pointer (some ⟨g1, 2, none⟩), fun v _ => v = .string b, fun v _ => v = .string (ascF b),
     fun v _ => v = .pointer (some ⟨g1, 3, none⟩), fun v _ => v = .string c, fun v _ => v = .string (ascF c),
     fun v _ => v = .agg #[.bool false, .string (ascF a), .string (ascF b), .string (ascF c)]] 16 (by kernel_rfl) rfl rfl (by kernel_rfl) ?_ ?_ ?_
  · intro p hp
    simp only [List.mem_cons, List.not_mem_nil, or_false] at hp
    rcases hp with rfl | rfl | rfl | rfl | rfl | rfl | rfl | rfl | rfl | rfl <;> exact fun _ _ _ h _ => h
  · simp only [oblGo, obl1, withDeps, oblK, postAt, List.getD_cons_zero, List.getD_cons_succ, forall_eq]
    refine ⟨?_, ?_, ?_, ?_, ?_, ?_, ?_, ?_, ?_, ?_, trivial⟩
    all_goals intro wg hg
    · go_simp
    · have c1 : wg.cell? ⟨g1, 1, none⟩ = some (.string a) := hg.cell (E2.out.cell 1)
      go_simp
    · go_simp
      exact (chAscii_any a _ La).mono fun _ _ h => h
    · go_simp
    · have c1 : wg.cell? ⟨g1, 2, none⟩ = some (.string b) := hg.cell (E2.out.cell 2)
      go_simp
    · go_simp
      exact (chAscii_any b _ Lb).mono fun _ _ h => h
    · go_simp
    · have c1 : wg.cell? ⟨g1, 3, none⟩ = some (.string c) := hg.cell (E2.out.cell 3)
      go_simp
    · go_simp
      exact (chAscii_any c _ Lc).mono fun _ _ h => h
    · go_simp
  · simp only [headDs, withDeps, postAt, List.getD_cons_zero, List.getD_cons_succ, forall_eq, tailOps]
    intro wg hg
    simp only [Act.put, List.setIfInBounds_toArray, List.set_cons_succ, List.set_cons_zero]
    have A3 := Lib.hid (A2.out.below hg)
    have B3 := Lib.hid (below_trans B2.out hg)
    clear hg
    go_wp2_with (refine ev_store rfl 35 _ _ rfl g2 _ _ rfl rfl 35 A3.out sz35 rfl rfl ?_; intro w4 hB4 hg4 hz4)
    refine bodyPost_ret (results_cell_row Try.results21 _ _ g2 35 _ (0, 0) _ rfl hB4 Try.underlying35 rfl sz35) rfl ?_
    exact ⟨rfl, below_grown B3.out hg4 B3.out.size h20⟩
end Go.Proofs.Ytdgblfldbikneaa
