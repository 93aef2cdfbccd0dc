/- Contract: ValidatePerson. -/
import Derived.Test.YtdgblfldbikneaaA3
namespace Go.Proofs.Ytdgblfldbikneaa
open Go.RowKit Go.Lib

set_option maxRecDepth 100000 in
set_option maxHeartbeats 4000000 in
theorem validPers_nil (a b c : ByteArray) (w : World) :
    Calls Try.prog 22 #[.agg #[.bool true, .string a, .string b, .string c]] w fun e w' => e = .returned (.tuple #[.agg #[.bool true, .string ⟨#[]⟩, .string ⟨#[]⟩, .string ⟨#[]⟩], .bool true, .int .i64 0]) ∧ Below w.heap.size w w' := by
  have hmf : ∀ (fn : Fn) (first cap : Array Value) (w : World), (Instr.makeFunc fn first cap).run Try.prog w = .ok (.func fn first cap) w := fun _ _ _ _ => rfl
  go_enter_defers Try.func22, Try.ntmps22
  go_upto_region 4 with (first
    | ((with_reducible refine at_dst (N := 1) rfl ?_); refine ev_box rfl 35 _ rfl _ rfl ?_; intro g1 w1 hg1 hB hb
       have E1 : Hid (Blk w1 g1 35 #[.bool true, .string a, .string b, .string c]) := hB
       have B1 := Lib.hid hb
       clear hB hb)
    | ((with_reducible refine at_dst (N := 2) rfl ?_); refine ev_alloc rfl 35 rfl _ _ zero35 ?_; intro g2 w2 hg2 hB hb
       have A2 : Hid (Blk w2 g2 35 #[.bool false, .string ByteArray.empty, .string ByteArray.empty, .string ByteArray.empty]) := hB
       have E2 := Lib.hid (E1.out.below hb)
       have B2 := Lib.hid (below_trans B1.out hb)
       have h20 := Nat.le_trans B1.out.size hg2
       clear hB hb hg2)
    | ((with_reducible refine at_dst (N := 3) rfl ?_); refine ev_alloc rfl 4 rfl _ _ pv_zero4 ?_; intro g3 w3 hg3 hB hb
       have C3 : Hid (Blk w3 g3 4 #[.bool false]) := hB
       have E3 := Lib.hid (E2.out.below hb)
       have A2 := Lib.hid (A2.out.below hb)
       have B3 := Lib.hid (below_trans B2.out hb)
       have h30 := Nat.le_trans B2.out.size hg3
       clear hB hb hg3)
    | ((with_reducible refine at_dst (N := 4) rfl ?_); refine ev_alloc rfl 3 rfl _ _ pv_zero3 ?_; intro g4 w4 hg4 hB hb
       have D4 : Hid (Blk w4 g4 3 #[.int .i64 0]) := hB
       have E4 := Lib.hid (E3.out.below hb)
       have A2 := Lib.hid (A2.out.below hb)
       have C3 := Lib.hid (C3.out.below hb)
       have B4 := Lib.hid (below_trans B3.out hb)
       have h40 := Nat.le_trans B3.out.size hg4
       clear hB hb hg4)
    | ((with_reducible refine at_dst (N := 7) rfl ?_); refine ev_loadB rfl 35 _ rfl g1 rfl 35 _ E4.out _ Try.underlying35 rfl sz35 ?_)
    | (go_at_call 65; (with_reducible refine (personOf_nil a b c _).mono ?_); rintro e w5 ⟨rfl, hb5⟩; have A5 := Lib.hid (A2.out.below hb5); have C5 := Lib.hid (C3.out.below hb5); have D5 := Lib.hid (D4.out.below hb5); have B5 := Lib.hid (below_trans B4.out hb5); clear hb5)
    | (go_at_call 66; (with_reducible refine (persVal_nil _).mono ?_); rintro e w' ⟨⟨ts, rfl⟩, rfl⟩; have A6 := A5; have C6 := C5; have D6 := D5; have B6 := B5)
    | (refine ev_store1 rfl 4 _ _ rfl g3 0 _ rfl (.bool true) rfl 4 C6.out sz4 (by simp) rfl rfl ?_; intro w7 hB7 hg7 hz7
       have C7 : Hid (Blk w7 g3 4 #[.bool true]) := hB7
       have A7 := Lib.hid (A6.out.grown hg7 (A6.out.ne C6.out (by decide)))
       have D7 := Lib.hid (D6.out.grown hg7 (D6.out.ne C6.out (by decide)))
       have B7 := Lib.hid (below_grown B6.out hg7 B6.out.size h30)
       clear hB7 hg7 hz7))
  have q3 : w7.cell? ⟨g3, 0, none⟩ = some (.bool true) := C7.out.cell 0
  have e23 := A7.out.ne C7.out (by decide)
  have e24 := A7.out.ne D7.out (by decide)
  have e34 := C7.out.ne D7.out (by decide)
  first
    | go_region_with (go_at_call 67; (first | (with_reducible refine (persTold_nil _).mono ?_) | (with_reducible refine (persTold_nil _).mono ?_)); rintro e w8 ⟨rfl, hb8⟩
                      have hb := ((Below.refl w7.heap.size w7).drew).trans (show Below w7.heap.size w7.drew w8 from hb8)
                      have A8 := Lib.hid (A7.out.below hb)
                      have C8 := Lib.hid (C7.out.below hb)
                      have D8 := Lib.hid (D7.out.below hb)
                      have B8 := Lib.hid (below_trans B7.out hb)
                      have p0 : w8.cell? ⟨g2, 0, none⟩ = some (.bool false) := A8.out.cell 0
                      have p1 : w8.cell? ⟨g2, 1, none⟩ = some (.string ByteArray.empty) := A8.out.cell 1
                      have p2 : w8.cell? ⟨g2, 2, none⟩ = some (.string ByteArray.empty) := A8.out.cell 2
                      have p3 : w8.cell? ⟨g2, 3, none⟩ = some (.string ByteArray.empty) := A8.out.cell 3
                      have p4 : w8.cell? ⟨g3, 0, none⟩ = some (.bool true) := C8.out.cell 0
                      have p5 : w8.cell? ⟨g4, 0, none⟩ = some (.int .i64 0) := D8.out.cell 0
                      have f0 := A8.out.frozen 0
                      have f1 := A8.out.frozen 1
                      have f2 := A8.out.frozen 2
                      have f3 := A8.out.frozen 3
                      have f4 := C8.out.frozen 0
                      have f5 := D8.out.frozen 0
                      clear hb hb8)
    | fail
  all_goals
    go_wp2_with fail
    refine leaves_cons (f := 64) (args := #[.pointer (some ⟨g2, 0, none⟩), .pointer (some ⟨g3, 0, none⟩), .pointer (some ⟨g4, 0, none⟩)]) (by simp) (by simp [go_sem]) ?_
    refine (catch64 g2 g3 g4 _).mono ?_
    rintro e u' w'' ⟨rfl, rfl, hw⟩
    have h2 : Blk w'' g2 35 #[.bool true, .string ⟨#[]⟩, .string ⟨#[]⟩, .string ⟨#[]⟩] := by rw [hw]; exact (((((A8.out.set_ 0 (.bool true)).set_ 1 (.string ⟨#[]⟩)).set_ 2 (.string ⟨#[]⟩)).set_ 3 (.string ⟨#[]⟩)).far e23 _).far e24 _
    have h3 : Blk w'' g3 4 #[.bool true] := by rw [hw]; exact (((((C8.out.far e23.symm _).far e23.symm _).far e23.symm _).far e23.symm _).set_ 0 (.bool true)).far e34 _
    have h4 : Blk w'' g4 3 #[.int .i64 0] := by rw [hw]; exact (((((D8.out.far e24.symm _).far e24.symm _).far e24.symm _).far e24.symm _).far e34.symm _).set_ 0 (.int .i64 0)
    have hb : Below w.heap.size w w'' := by rw [hw]; exact below_set (below_set (below_set (below_set (below_set (below_set B8.out h20 0 _) h20 1 _) h20 2 _) h20 3 _) h30 0 _) h40 0 _
    have c3 : w''.cell? ⟨g3, 0, none⟩ = some (.bool true) := h3.cell 0
    have c4 : w''.cell? ⟨g4, 0, none⟩ = some (.int .i64 0) := h4.cell 0
    have k0 := h2.cell 0
    have k1 := h2.cell 1
    have k2 := h2.cell 2
    have k3 := h2.cell 3
    simp at k0 k1 k2 k3
    clear hw h2 h3 h4
    simp [Leaves, settle, results, Try.results22, go_sem, c3, c4, k0, k1, k2, k3]
    exact hb
set_option maxRecDepth 100000 in
set_option maxHeartbeats 4000000 in
theorem validPers_some (a b c : ByteArray) (w : World) (ha : a.size ≤ 1000000) (hb : b.size ≤ 1000000) (hc : c.size ≤ 1000000) (aa : asciiB a) (ab : asciiB b) (ac : asciiB c) :
    Calls Try.prog 22 #[.agg #[.bool false, .string a, .string b, .string c]] w fun e w' => e = .returned (.tuple #[.agg #[.bool false, .string (cleanF a), .string (cleanF b), .string (cleanF c)], .bool false, .int .i64 0]) ∧ Below w.heap.size w w' := by
  have hmf : ∀ (fn : Fn) (first cap : Array Value) (w : World), (Instr.makeFunc fn first cap).run Try.prog w = .ok (.func fn first cap) w := fun _ _ _ _ => rfl
  have HA := Lib.hid aa
  have HBb := Lib.hid ab
  have HC := Lib.hid ac
  clear aa ab ac
  go_enter_defers Try.func22, Try.ntmps22
  go_upto_region 4 with (first
    | ((with_reducible refine at_dst (N := 1) rfl ?_); refine ev_box rfl 35 _ rfl _ rfl ?_; intro g1 w1 hg1 hB hb
       have E1 : Hid (Blk w1 g1 35 #[.bool false, .string a, .string b, .string c]) := hB
       have B1 := Lib.hid hb
       clear hB hb)
    | ((with_reducible refine at_dst (N := 2) rfl ?_); refine ev_alloc rfl 35 rfl _ _ zero35 ?_; intro g2 w2 hg2 hB hb
       have A2 : Hid (Blk w2 g2 35 #[.bool false, .string ByteArray.empty, .string ByteArray.empty, .string ByteArray.empty]) := hB
       have E2 := Lib.hid (E1.out.below hb)
       have B2 := Lib.hid (below_trans B1.out hb)
       have h20 := Nat.le_trans B1.out.size hg2
       clear hB hb hg2)
    | ((with_reducible refine at_dst (N := 3) rfl ?_); refine ev_alloc rfl 4 rfl _ _ pv_zero4 ?_; intro g3 w3 hg3 hB hb
       have C3 : Hid (Blk w3 g3 4 #[.bool false]) := hB
       have E3 := Lib.hid (E2.out.below hb)
       have A2 := Lib.hid (A2.out.below hb)
       have B3 := Lib.hid (below_trans B2.out hb)
       have h30 := Nat.le_trans B2.out.size hg3
       clear hB hb hg3)
    | ((with_reducible refine at_dst (N := 4) rfl ?_); refine ev_alloc rfl 3 rfl _ _ pv_zero3 ?_; intro g4 w4 hg4 hB hb
       have D4 : Hid (Blk w4 g4 3 #[.int .i64 0]) := hB
       have E4 := Lib.hid (E3.out.below hb)
       have A2 := Lib.hid (A2.out.below hb)
       have C3 := Lib.hid (C3.out.below hb)
       have B4 := Lib.hid (below_trans B3.out hb)
       have h40 := Nat.le_trans B3.out.size hg4
       clear hB hb hg4)
    | ((with_reducible refine at_dst (N := 7) rfl ?_); refine ev_loadB rfl 35 _ rfl g1 rfl 35 _ E4.out _ Try.underlying35 rfl sz35 ?_)
    | (go_at_call 65; (with_reducible refine (personOf_some a b c _).mono ?_); rintro e w5 ⟨gp, rfl, hgp, hP, hb5⟩; have P5 := Lib.hid hP; have hp0 := Nat.le_trans B4.out.size hgp; have A5 := Lib.hid (A2.out.below hb5); have C5 := Lib.hid (C3.out.below hb5); have D5 := Lib.hid (D4.out.below hb5); have B5 := Lib.hid (below_trans B4.out hb5); clear hb5 hP hgp)
    | (go_at_call 66; (with_reducible refine (persVal_some gp a b c _ P5.out ha hb hc HA.out HBb.out HC.out).mono ?_); rintro e w6 ⟨rfl, hP6, hg6⟩; have P6 := Lib.hid hP6; have A6 := Lib.hid (A5.out.grown hg6 (A5.out.ne P5.out (by decide))); have C6 := Lib.hid (C5.out.grown hg6 (C5.out.ne P5.out (by decide))); have D6 := Lib.hid (D5.out.grown hg6 (D5.out.ne P5.out (by decide))); have B6 := Lib.hid (below_grown B5.out hg6 B5.out.size hp0); clear hP6 hg6)
    | (refine ev_store1 rfl 4 _ _ rfl g3 0 _ rfl (.bool false) rfl 4 C6.out sz4 (by simp) rfl rfl ?_; intro w7 hB7 hg7 hz7
       have C7 : Hid (Blk w7 g3 4 #[.bool false]) := hB7
       have A7 := Lib.hid (A6.out.grown hg7 (A6.out.ne C6.out (by decide)))
       have D7 := Lib.hid (D6.out.grown hg7 (D6.out.ne C6.out (by decide)))
       have P7 := Lib.hid (P6.out.grown hg7 (P6.out.ne C6.out (by decide)))
       have B7 := Lib.hid (below_grown B6.out hg7 B6.out.size h30)
       clear hB7 hg7 hz7))
  have q3 : w7.cell? ⟨g3, 0, none⟩ = some (.bool false) := C7.out.cell 0
  have e23 := A7.out.ne C7.out (by decide)
  have e24 := A7.out.ne D7.out (by decide)
  have e34 := C7.out.ne D7.out (by decide)
  first
    | go_region_with (go_at_call 67; (first | (with_reducible refine (persTold_some gp (cleanF a) (cleanF b) (cleanF c) _ P7.out.drew).mono ?_) | (with_reducible refine (persTold_some gp (cleanF a) (cleanF b) (cleanF c) _ P7.out).mono ?_)); rintro e w8 ⟨rfl, hb8⟩
                      have hb := ((Below.refl w7.heap.size w7).drew).trans (show Below w7.heap.size w7.drew w8 from hb8)
                      have A8 := Lib.hid (A7.out.below hb)
                      have C8 := Lib.hid (C7.out.below hb)
                      have D8 := Lib.hid (D7.out.below hb)
                      have B8 := Lib.hid (below_trans B7.out hb)
                      have p0 : w8.cell? ⟨g2, 0, none⟩ = some (.bool false) := A8.out.cell 0
                      have p1 : w8.cell? ⟨g2, 1, none⟩ = some (.string ByteArray.empty) := A8.out.cell 1
                      have p2 : w8.cell? ⟨g2, 2, none⟩ = some (.string ByteArray.empty) := A8.out.cell 2
                      have p3 : w8.cell? ⟨g2, 3, none⟩ = some (.string ByteArray.empty) := A8.out.cell 3
                      have p4 : w8.cell? ⟨g3, 0, none⟩ = some (.bool false) := C8.out.cell 0
                      have p5 : w8.cell? ⟨g4, 0, none⟩ = some (.int .i64 0) := D8.out.cell 0
                      have f0 := A8.out.frozen 0
                      have f1 := A8.out.frozen 1
                      have f2 := A8.out.frozen 2
                      have f3 := A8.out.frozen 3
                      have f4 := C8.out.frozen 0
                      have f5 := D8.out.frozen 0
                      clear hb hb8)
    | fail
  all_goals
    go_wp2_with fail
    refine leaves_cons (f := 64) (args := #[.pointer (some ⟨g2, 0, none⟩), .pointer (some ⟨g3, 0, none⟩), .pointer (some ⟨g4, 0, none⟩)]) (by simp) (by simp [go_sem]) ?_
    refine (catch64 g2 g3 g4 _).mono ?_
    rintro e u' w'' ⟨rfl, rfl, hw⟩
    have h2 : Blk w'' g2 35 #[.bool false, .string (cleanF a), .string (cleanF b), .string (cleanF c)] := by rw [hw]; exact (((((A8.out.set_ 0 (.bool false)).set_ 1 (.string (cleanF a))).set_ 2 (.string (cleanF b))).set_ 3 (.string (cleanF c))).far e23 _).far e24 _
    have h3 : Blk w'' g3 4 #[.bool false] := by rw [hw]; exact (((((C8.out.far e23.symm _).far e23.symm _).far e23.symm _).far e23.symm _).set_ 0 (.bool false)).far e34 _
    have h4 : Blk w'' g4 3 #[.int .i64 0] := by rw [hw]; exact (((((D8.out.far e24.symm _).far e24.symm _).far e24.symm _).far e24.symm _).far e34.symm _).set_ 0 (.int .i64 0)
    have hb : Below w.heap.size w w'' := by rw [hw]; exact below_set (below_set (below_set (below_set (below_set (below_set B8.out h20 0 _) h20 1 _) h20 2 _) h20 3 _) h30 0 _) h40 0 _
    have c3 : w''.cell? ⟨g3, 0, none⟩ = some (.bool false) := h3.cell 0
    have c4 : w''.cell? ⟨g4, 0, none⟩ = some (.int .i64 0) := h4.cell 0
    have k0 := h2.cell 0
    have k1 := h2.cell 1
    have k2 := h2.cell 2
    have k3 := h2.cell 3
    simp at k0 k1 k2 k3
    clear hw h2 h3 h4
    simp [Leaves, settle, results, Try.results22, go_sem, c3, c4, k0, k1, k2, k3]
    exact hb
end Go.Proofs.Ytdgblfldbikneaa
