/- Contracts: personTold, ValidatePerson. -/
import Derived.Test.YtdgblfldbikneaaA2
import Derived.Laws.Rows
namespace Go.Proofs.Ytdgblfldbikneaa
open Go.RowKit Go.Lib

theorem load_blk {P : Program} {w : World} {g : Nat} {t ty : TypeId} {cs : Array Value} (hb : Blk w g t cs) {d : TypeDesc} (hu : P.underlying ty = some d) (hd : d.isRow = true) (hi : (P.info? ty).map (·.size) = some cs.size) :
    (loadVar ty ⟨g, 0, none⟩).run P w = .ok (.agg cs) w := by
  have h := run_loadVar_mid (P := P) w g 0 ty cs.toList d (fun j v hv => by rw [Nat.zero_add, hb.cell]; simpa using hv) hu hd (by simpa using hi)
  simpa using h
theorem sz35 : (Try.prog.info? 35).map (·.size) = some 4 := by kernel_rfl
theorem zero35 : (Try.prog.info? 35).map (fun i => (i.zero, i.size)) = some (some (.agg #[.bool false, .string ByteArray.empty, .string ByteArray.empty, .string ByteArray.empty]), 4) := by kernel_rfl
set_option maxRecDepth 100000 in
theorem persTold_nil (w : World) : Calls Try.prog 67 #[.pointer none] w fun e w' => e = .returned (.agg #[.bool true, .string ⟨#[]⟩, .string ⟨#[]⟩, .string ⟨#[]⟩]) ∧ Below w.heap.size w w' := by
  go_enter Try.func67, Try.ntmps67
  go_wp2_with (first
    | ((with_reducible refine at_dst (N := 2) rfl ?_); refine ev_alloc rfl 35 rfl _ _ zero35 ?_; intro g w1 hg hB hb)
    | (refine ev_store rfl 35 _ _ rfl g _ _ rfl rfl 35 hB sz35 rfl rfl ?_; intro w2 hB2 hg2 hz2))
  refine bodyPost_ret (results_cell_row Try.results67 _ _ g 35 _ (0, 0) _ rfl hB2 Try.underlying35 rfl sz35) rfl ?_
  exact ⟨rfl, below_grown hb hg2 hb.size hg⟩
set_option maxRecDepth 100000 in
theorem persTold_some (g0 : Nat) (a b c : ByteArray) (w : World) (h : Blk w g0 185 #[.string a, .string b, .string c]) :
    Calls Try.prog 67 #[.pointer (some ⟨g0, 0, none⟩)] w fun e w' => e = .returned (.agg #[.bool false, .string a, .string b, .string c]) ∧ Below w.heap.size w w' := by
  have H := Lib.hid h
  clear h
  go_enter Try.func67, Try.ntmps67
  go_upto_region 3 with ((with_reducible refine at_dst (N := 2) rfl ?_); refine ev_alloc rfl 35 rfl _ _ zero35 ?_; intro g w1 hg hB hb)
  have q0 : w1.cell? ⟨g0, 0, none⟩ = some (.string a) := (H.out.below hb).cell 0
  have q1 : w1.cell? ⟨g0, 1, none⟩ = some (.string b) := (H.out.below hb).cell 1
  have q2 : w1.cell? ⟨g0, 2, none⟩ = some (.string c) := (H.out.below hb).cell 2
  have hB1 : Blk w1 g 35 #[.bool false, .string ByteArray.empty, .string ByteArray.empty, .string ByteArray.empty] := hB
  have r0 : w1.cell? ⟨g, 0, none⟩ = some (.bool false) := hB1.cell 0
  have r1 : w1.cell? ⟨g, 1, none⟩ = some (.string ByteArray.empty) := hB1.cell 1
  have r2 : w1.cell? ⟨g, 2, none⟩ = some (.string ByteArray.empty) := hB1.cell 2
  have r3 : w1.cell? ⟨g, 3, none⟩ = some (.string ByteArray.empty) := hB1.cell 3
  have z0 := hB1.frozen 0
  have z1 := hB1.frozen 1
  have z2 := hB1.frozen 2
  have z3 := hB1.frozen 3
  have HB1 := Lib.hid hB1
  have HW := Lib.hid hb
  clear hB hB1 hb
  go_cut [2] (fun s2 wx => s2 = .pointer (some ⟨g, 0, none⟩) ∧ Blk wx g 35 #[.bool false, .string a, .string b, .string c] ∧ Below w.heap.size w wx)
  case first =>
    go_region
    all_goals
      go_wp2_with fail
      go_meet
      exact ⟨rfl, (((HB1.out.set_ 0 (.bool false)).set_ 1 (.string a)).set_ 2 (.string b)).set_ 3 (.string c), (below_set (below_set (below_set (below_set HW.out hg 0 _) hg 1 _) hg 2 _) hg 3 _).drew⟩
  case rest =>
    obtain ⟨rfl, hB2, hb2⟩ := hcut
    go_wp2_with fail
    refine bodyPost_ret (results_cell_row Try.results67 _ _ g 35 _ (0, 0) _ rfl hB2 Try.underlying35 rfl sz35) rfl ?_
    exact ⟨rfl, hb2⟩
theorem catch64 (a b c : Nat) (w : World) :
    CallsD Try.prog 64 #[.pointer (some ⟨a, 0, none⟩), .pointer (some ⟨b, 0, none⟩), .pointer (some ⟨c, 0, none⟩)] .returning w fun e u' w' => e = .returned (.tuple #[]) ∧ u' = .returning ∧ w' = w := by
  refine callsD_of_wpS Try.func64 rfl fun c₀ cs hu => ?_
  apply wpS_seq
  apply wpS_region
  simp [wpOpsS, go_sem, recoverD, hu, Try.ntmps64, Exit.thenS]
  refine wpS_cond (t := false) (by simp [Act.eval, Array.replicate]) ?_
  simp only [Bool.false_eq_true, if_false]
  refine wpS_of_wp (wp_skip ?_)
  cases c₀
  simp_all [bodyPostS, results, Try.results64]
end Go.Proofs.Ytdgblfldbikneaa
