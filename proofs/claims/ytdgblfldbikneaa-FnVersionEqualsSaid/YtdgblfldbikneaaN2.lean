/- Contract: PluginValid with its deferred closure. -/
import Derived.Test.YtdgblfldbikneaaN1
namespace Go.Proofs.Ytdgblfldbikneaa
open Go.RowKit Go.Lib

theorem sz4 : (Try.prog.info? 4).map (·.size) = some 1 := by kernel_rfl
theorem pv_zero9 : (Try.prog.info? 9).map (fun i => (i.zero, i.size)) = some (some (.string ByteArray.empty), 1) := by kernel_rfl
theorem pv_zero4 : (Try.prog.info? 4).map (fun i => (i.zero, i.size)) = some (some (.bool false), 1) := by kernel_rfl
theorem pv_zero3 : (Try.prog.info? 3).map (fun i => (i.zero, i.size)) = some (some (.int .i64 0), 1) := by kernel_rfl
theorem below_set {B : Nat} {w w1 : World} (h : Below B w w1) {g : Nat} (hg : B ≤ g) (i : Nat) (u : Value) : Below B w (w1.setCell ⟨g, i, none⟩ u) :=
  ⟨h.os, h.tape, h.output, by simpa [World.setCell] using h.size, fun k hk => (Below.heap_setCell w1 ⟨g, i, none⟩ u k (fun e => by simp at e; omega)).trans (h.block k hk)⟩
theorem Blk.drew {w : World} {g : Nat} {t : TypeId} {c : Array Value} (h : Blk w g t c) : Blk w.drew g t c := h
set_option maxRecDepth 100000 in
set_option maxHeartbeats 2000000 in
theorem pluginValid_any (n u : ByteArray) (w : World) (hn : n.size ≤ 1000000) (hu : u.size ≤ 1000000) (ha : asciiB u) :
    Calls Try.prog 50 #[.string n, .string u] w fun e w' => ∃ u2, e = .returned (.tuple #[.string u2, .bool (!wordB n lowDash), .int .i64 0]) ∧ (wordB n lowDash = true → u2 = cleanF u) ∧ Below w.heap.size w w' := by
  have hmf : ∀ (fn : Fn) (first cap : Array Value) (w : World), (Instr.makeFunc fn first cap).run Try.prog w = .ok (.func fn first cap) w := fun _ _ _ _ => rfl
  have HA := Lib.hid ha
  clear ha
  go_enter_defers Try.func50, Try.ntmps50
  go_upto_region 3 with (first
    | ((with_reducible refine at_dst (N := 4) rfl ?_); refine ev_alloc rfl 9 rfl _ _ pv_zero9 ?_; intro g4 w1 hg4 hB hb; have A1 : Hid (Blk w1 g4 9 #[.string ByteArray.empty]) := hB; have B1 := Lib.hid hb; clear hB hb)
    | ((with_reducible refine at_dst (N := 5) rfl ?_); refine ev_alloc rfl 4 rfl _ _ pv_zero4 ?_; intro g5 w2 hg5 hB hb; have A2 : Hid (Blk w2 g5 4 #[.bool false]) := hB; have A1b := Lib.hid (A1.out.below hb); have B2 := Lib.hid (below_trans B1.out hb); clear hB hb)
    | ((with_reducible refine at_dst (N := 6) rfl ?_); refine ev_alloc rfl 3 rfl _ _ pv_zero3 ?_; intro g6 w3 hg6 hB hb; have A3 : Hid (Blk w3 g6 3 #[.int .i64 0]) := hB; have A1c := Lib.hid (A1b.out.below hb); have A2c := Lib.hid (A2.out.below hb); have B3 := Lib.hid (below_trans B2.out hb); clear hB hb)
    | ((with_reducible refine at_dst (N := 12) rfl ?_); refine ev_box rfl 160 _ rfl _ rfl ?_; intro gm w4 hgm hB hb; have M4 : Hid (Blk w4 gm 160 (pmCells n u)) := hB; have A1d := Lib.hid (A1c.out.below hb); have A2d := Lib.hid (A2c.out.below hb); have A3d := Lib.hid (A3.out.below hb); have B4 := Lib.hid (below_trans B3.out hb); clear hB hb)
    | ((with_reducible refine at_dst (N := 14) rfl ?_); refine ev_box rfl 162 _ rfl _ rfl ?_; intro gp w5 hgp hB hb; have P5 : Hid (Blk w5 gp 162 #[.pointer (some ⟨gm, 0, none⟩), .string ⟨#[]⟩]) := hB; have M5 := Lib.hid (M4.out.below hb); have A1e := Lib.hid (A1d.out.below hb); have A2e := Lib.hid (A2d.out.below hb); have A3e := Lib.hid (A3d.out.below hb); have B5 := Lib.hid (below_trans B4.out hb); clear hB hb))
  have hm0 : w.heap.size ≤ gm := Nat.le_trans B3.out.size hgm
  have h50 : w.heap.size ≤ g5 := Nat.le_trans B1.out.size hg5
  have h40 : w.heap.size ≤ g4 := hg4
  have h60 : w.heap.size ≤ g6 := Nat.le_trans B2.out.size hg6
  clear A1 A1b A1c A1d A2 A2c A2d A3 A3d M4 B1 B2 B3 B4 hg4 hg5 hg6 hgm hgp
  go_upto_region 4 with (first
    | (go_at_call 102; (with_reducible refine (zzPlugVal_any gp gm _ n u _ P5.out M5.out hn hu HA.out).mono ?_); rintro e w6 ⟨v, u2, rfl, hv, hu2, hm6, hg6⟩
       have P6 := Lib.hid (P5.out.grown hg6 (P5.out.ne M5.out (by decide)))
       have M6 := Lib.hid hm6
       have A16 := Lib.hid (A1e.out.grown hg6 (A1e.out.ne M5.out (by decide)))
       have A26 := Lib.hid (A2e.out.grown hg6 (A2e.out.ne M5.out (by decide)))
       have A36 := Lib.hid (A3e.out.grown hg6 (A3e.out.ne M5.out (by decide)))
       have B6 := Lib.hid (below_grown B5.out hg6 B5.out.size hm0)
       have HV := Lib.hid hv
       have HU := Lib.hid hu2
       clear hv hu2 hm6 hg6 A1e A2e A3e B5 M5 P5
       cases hw : wordB n lowDash
       all_goals have HW := Lib.hid hw
       all_goals have HV2 := HV.out
       all_goals rw [HW.out] at HV2
       all_goals clear hw
       all_goals first | (obtain ⟨gv, rfl⟩ := HV2) | (obtain rfl : v = .nilIface := HV2))
    | (refine ev_store1 rfl 4 _ _ rfl g5 0 _ rfl (.bool _) rfl 4 A26.out sz4 (by simp) rfl rfl ?_; intro w7 hB7 hg7 hz7
       have A27 := Lib.hid hB7
       have A17 := Lib.hid (A16.out.grown hg7 (A16.out.ne A26.out (by decide)))
       have A37 := Lib.hid (A36.out.grown hg7 (A36.out.ne A26.out (by decide)))
       have P7 := Lib.hid (P6.out.grown hg7 (P6.out.ne A26.out (by decide)))
       have M7 := Lib.hid (M6.out.grown hg7 (M6.out.ne A26.out (by decide)))
       have B7 := Lib.hid (below_grown B6.out hg7 B6.out.size h50)))
  all_goals
    have e45 := A17.out.ne A27.out (by decide)
    have e46 := A17.out.ne A37.out (by decide)
    have e56 := A27.out.ne A37.out (by decide)
    have q1 : w7.cell? ⟨gp, 0, none⟩ = some (.pointer (some ⟨gm, 0, none⟩)) := P7.out.cell 0
    have q2 : w7.cell? ⟨gm, 1, none⟩ = some (.string u2) := M7.out.cell 1
    have q4 : w7.cell? ⟨g4, 0, none⟩ = some (.string ByteArray.empty) := A17.out.cell 0
    have q5 := A27.out.cell 0
    have q6 : w7.cell? ⟨g6, 0, none⟩ = some (.int .i64 0) := A37.out.cell 0
    have f4 := A17.out.frozen 0
    have f5 := A27.out.frozen 0
    have f6 := A37.out.frozen 0
    first | go_region | fail
  all_goals
    go_wp2_with fail
    refine leaves_cons (f := 101) (args := #[.pointer (some ⟨g4, 0, none⟩), .pointer (some ⟨g5, 0, none⟩), .pointer (some ⟨g6, 0, none⟩)]) (by simp) (by simp [go_sem]) ?_
    refine (catch101 g4 g5 g6 _).mono ?_
    rintro e u' w'' ⟨rfl, rfl, hw⟩
    have h4 : Blk w'' g4 9 #[.string u2] := by rw [hw]; exact ((A17.out.set_ 0 (.string u2)).far e45 _).far e46 _
    have h5 : Blk w'' g5 4 #[.bool (!wordB n lowDash)] := by rw [hw, HW.out]; exact ((A27.out.far e45.symm _).set_ 0 (.bool _)).far e56 _
    have h6 : Blk w'' g6 3 #[.int .i64 0] := by rw [hw]; exact ((A37.out.far e46.symm _).far e56.symm _).set_ 0 (.int .i64 0)
    have hb : Below w.heap.size w w'' := by rw [hw]; first | exact (below_set (below_set (below_set B7.out h40 0 _) h50 0 _) h60 0 _).drew | exact below_set (below_set (below_set B7.out.drew h40 0 _) h50 0 _) h60 0 _
    have c4 : w''.cell? ⟨g4, 0, none⟩ = some (.string u2) := h4.cell 0
    have c5 : w''.cell? ⟨g5, 0, none⟩ = some (.bool (!wordB n lowDash)) := h5.cell 0
    have c6 : w''.cell? ⟨g6, 0, none⟩ = some (.int .i64 0) := h6.cell 0
    clear hw h4 h5 h6
    have HU2 := HU.out
    clear A17 A27 A37 P7 M7 B7 P6 M6 A16 A26 A36 B6 hmf q1 q2 q4 q5 q6 f4 f5 f6 hB7 hg7 hz7 HU HV HA
    simp [Leaves, settle, results, Try.results50, go_sem, c4, c5, c6]
    exact ⟨HU2, hb⟩
end Go.Proofs.Ytdgblfldbikneaa
