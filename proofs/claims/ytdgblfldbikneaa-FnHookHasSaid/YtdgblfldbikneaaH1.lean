/- Contracts: slices.Index, slices.Contains, hookHasDeletePolicy, hookHasOutputLogPolicy, HookHas. -/
import Derived.Test.YtdgblfldbikneaaH0
namespace Go.Proofs.Ytdgblfldbikneaa
open Go.RowKit Go.Lib

theorem sIndex_any (s : ByteArray) (A : Option Addr) (c : Nat) (xs : List ByteArray) (w : World) (h : Sl w A (strs xs)) :
    Calls Try.prog 144 #[.slice A xs.length c, .string s] w fun e w' => (∃ r : Int, e = .returned (.int .i64 r) ∧ decide (0 ≤ r) = oneOf s xs) ∧ w = w' := by
  have hl : xs.length ≤ 9223372036854775807 := by simpa [strs_len] using h.1
  have H := Lib.hid h
  clear h
  go_enter Try.func144, Try.ntmps144
  go_wp2
  go_loop [8] (fun i => ∃ k : Nat, k ≤ xs.length ∧ i = .int .i64 k ∧ Hid (∀ j, ∀ hj : j < xs.length, j < k → (xs[j].toList == s.toList) = false)) (fun i => xs.length - (intOf i).toNat)
  case atStart => exact ⟨0, Nat.zero_le _, rfl, fun j _ h0 => by omega⟩
  case round =>
    obtain ⟨k, hk, rfl, HA⟩ := hrel
    by_cases hlt : k < xs.length
    · obtain ⟨ad, rfl, hx⟩ := strs_at H.out hlt
      cases hb : s.toList == xs[k].toList
      · clear H
        have HB := Lib.hid hb
        go_wp2
        go_round
        case rel =>
          refine ⟨k + 1, by omega, by go_num, fun j hj hjk => ?_⟩
          by_cases e : j = k
          · subst e; rw [Bool.beq_comm]; exact HB.out
          · exact HA.out j hj (by omega)
        case measure => simp [intOf]; omega
      · have HF := Lib.hid (any_yes (p := fun x : ByteArray => x.toList == s.toList) hlt (by rw [Bool.beq_comm]; exact hb))
        clear H HA
        go_wp2
        go_ret
        exact ⟨⟨_, rfl, by unfold oneOf; rw [HF.out]; simp⟩, rfl⟩
    · have HF := Lib.hid (any_no (p := fun x : ByteArray => x.toList == s.toList) (fun j hj => HA.out j hj (by omega)))
      clear H HA
      go_wp2
      go_ret
      exact ⟨⟨_, rfl, by unfold oneOf; rw [HF.out]; rfl⟩, rfl⟩
theorem sContains_any (s : ByteArray) (A : Option Addr) (c : Nat) (xs : List ByteArray) (w : World) (h : Sl w A (strs xs)) :
    Calls Try.prog 137 #[.slice A xs.length c, .string s] w fun e w' => e = .returned (.bool (oneOf s xs)) ∧ w = w' := by
  have H := Lib.hid h
  clear h
  go_enter Try.func137, Try.ntmps137
  go_wp2_with (go_at_call 144; (with_reducible refine (sIndex_any s A c xs _ H.out).mono ?_); rintro e w' ⟨⟨r, rfl, hr⟩, rfl⟩; have HR := Lib.hid hr; clear hr)
  go_ret
  exact ⟨ret_bool HR.out, rfl⟩
theorem own_sl {w : World} {B : Nat} {e : TypeId} {v : Value} {xs : List ByteArray} (h : w.ownsRow B e 1 v xs.length (strs xs)) (hl : xs.length ≤ 1000000) : ∃ A c, v = .slice A xs.length c ∧ Sl w A (strs xs) := by
  obtain ⟨A, c, e, _, h⟩ := own_slice h (by omega)
  exact ⟨A, c, e, h⟩
theorem delPol_any (B g : Nat) (n k p m : ByteArray) (wt : Int) (es ds os : List ByteArray) (s : ByteArray) (w : World) (h : HookIn B w g n k p m wt es ds os) (hl : ds.length ≤ 1000000) :
    Calls Try.prog 111 #[.pointer (some ⟨g, 0, none⟩), .string s] w fun e w' => e = .returned (.bool (oneOf s ds)) ∧ w = w' := by
  obtain ⟨ve, vd, vo, hB, _, _, ho, _⟩ := h
  obtain ⟨A, c, rfl, hs⟩ := own_sl ho hl
  have hc : w.cell? ⟨g, 7, none⟩ = some (.slice A ds.length c) := hB.cell 7
  have H := Lib.hid hs
  clear hs hB ho
  go_enter Try.func111, Try.ntmps111
  go_wp2
  go_loop [12] (fun i => ∃ k : Nat, k ≤ ds.length ∧ i = .int .i64 k ∧ Hid (∀ j, ∀ hj : j < ds.length, j < k → (ds[j].toList == s.toList) = false)) (fun i => ds.length - (intOf i).toNat)
  case atStart => exact ⟨0, Nat.zero_le _, rfl, fun j _ h0 => by omega⟩
  case round =>
    obtain ⟨k, hk, rfl, HA⟩ := hrel
    by_cases hlt : k < ds.length
    · obtain ⟨ad, rfl, hx⟩ := strs_at H.out hlt
      cases hb : s.toList == ds[k].toList
      · clear H
        have HB := Lib.hid hb
        go_wp2
        go_round
        case rel =>
          refine ⟨k + 1, by omega, by go_num, fun j hj hjk => ?_⟩
          by_cases e : j = k
          · subst e; rw [Bool.beq_comm]; exact HB.out
          · exact HA.out j hj (by omega)
        case measure => simp [intOf]; omega
      · have HF := Lib.hid (any_yes (p := fun x : ByteArray => x.toList == s.toList) hlt (by rw [Bool.beq_comm]; exact hb))
        clear H HA
        go_wp2
        go_ret
        exact ⟨ret_bool HF.out.symm, rfl⟩
    · have HF := Lib.hid (any_no (p := fun x : ByteArray => x.toList == s.toList) (fun j hj => HA.out j hj (by omega)))
      clear H HA
      go_wp2
      go_ret
      exact ⟨ret_bool HF.out.symm, rfl⟩
theorem outPol_any (B g : Nat) (n k p m : ByteArray) (wt : Int) (es ds os : List ByteArray) (s : ByteArray) (w : World) (h : HookIn B w g n k p m wt es ds os) (hl : os.length ≤ 1000000) :
    Calls Try.prog 112 #[.pointer (some ⟨g, 0, none⟩), .string s] w fun e w' => e = .returned (.bool (oneOf s os)) ∧ w = w' := by
  obtain ⟨ve, vd, vo, hB, _, _, _, ho⟩ := h
  obtain ⟨A, c, rfl, hs⟩ := own_sl ho hl
  have hc : w.cell? ⟨g, 8, none⟩ = some (.slice A os.length c) := hB.cell 8
  have H := Lib.hid hs
  clear hs hB ho
  go_enter Try.func112, Try.ntmps112
  go_wp2_with (go_at_call 137; (with_reducible refine (sContains_any s A c os _ H.out).mono ?_); rintro e w' ⟨rfl, rfl⟩)
  go_ret
  exact ⟨rfl, rfl⟩
theorem zzDel_any (B g : Nat) (n k p m : ByteArray) (wt : Int) (es ds os : List ByteArray) (s : ByteArray) (w : World) (h : HookIn B w g n k p m wt es ds os) (hl : ds.length ≤ 1000000) :
    Calls Try.prog 62 #[.pointer (some ⟨g, 0, none⟩), .string s] w fun e w' => e = .returned (.bool (oneOf s ds)) ∧ w = w' := by
  have H := Lib.hid h
  clear h
  go_enter Try.func62, Try.ntmps62
  go_wp2_with (go_at_call 111; (with_reducible refine (delPol_any B g n k p m wt es ds os s _ H.out hl).mono ?_); rintro e w' ⟨rfl, rfl⟩)
  go_ret
  exact ⟨rfl, rfl⟩
theorem zzOut_any (B g : Nat) (n k p m : ByteArray) (wt : Int) (es ds os : List ByteArray) (s : ByteArray) (w : World) (h : HookIn B w g n k p m wt es ds os) (hl : os.length ≤ 1000000) :
    Calls Try.prog 63 #[.pointer (some ⟨g, 0, none⟩), .string s] w fun e w' => e = .returned (.bool (oneOf s os)) ∧ w = w' := by
  have H := Lib.hid h
  clear h
  go_enter Try.func63, Try.ntmps63
  go_wp2_with (go_at_call 112; (with_reducible refine (outPol_any B g n k p m wt es ds os s _ H.out hl).mono ?_); rintro e w' ⟨rfl, rfl⟩)
  go_ret
  exact ⟨rfl, rfl⟩
set_option maxRecDepth 100000 in
theorem hookHas_any (n kd p m : ByteArray) (A4 : Option Addr) (c4 : Nat) (es : List ByteArray) (A5 : Option Addr) (c5 : Nat) (ds : List ByteArray) (A6 : Option Addr) (c6 : Nat) (os : List ByteArray) (wt : Int) (s : ByteArray) (w : World)
    (h4 : Sl w A4 (strs es)) (h5 : Sl w A5 (strs ds)) (h6 : Sl w A6 (strs os)) (l4 : es.length ≤ 1000000) (l5 : ds.length ≤ 1000000) (l6 : os.length ≤ 1000000) :
    Calls Try.prog 19 #[.agg #[.string n, .string kd, .string p, .string m, .slice A4 es.length c4, .slice A5 ds.length c5, .slice A6 os.length c6, .int .i64 wt], .string s] w
      fun e w' => e = .returned (.tuple #[.bool (oneOf s ds), .bool (oneOf s os)]) ∧ Below w.heap.size w w' := by
  have H4 := Lib.hid h4
  have H5 := Lib.hid h5
  have H6 := Lib.hid h6
  clear h4 h5 h6
  go_enter Try.func19, Try.ntmps19
  go_wp2_with (first
    | ((with_reducible refine at_dst (N := 2) rfl ?_); refine ev_box rfl 32 _ rfl _ rfl ?_; intro g0 w1 hg0 hB0 hb0
       have q0 : w1.cell? ⟨g0, 0, none⟩ = some (.string n) := hB0.cell 0
       have q1 : w1.cell? ⟨g0, 1, none⟩ = some (.string kd) := hB0.cell 1
       have q2 : w1.cell? ⟨g0, 2, none⟩ = some (.string p) := hB0.cell 2
       have q3 : w1.cell? ⟨g0, 3, none⟩ = some (.string m) := hB0.cell 3
       have q4 : w1.cell? ⟨g0, 4, none⟩ = some (.slice A4 es.length c4) := hB0.cell 4
       have q5 : w1.cell? ⟨g0, 5, none⟩ = some (.slice A5 ds.length c5) := hB0.cell 5
       have q6 : w1.cell? ⟨g0, 6, none⟩ = some (.slice A6 os.length c6) := hB0.cell 6
       have q7 : w1.cell? ⟨g0, 7, none⟩ = some (.int .i64 wt) := hB0.cell 7
       have HB0 := Lib.hid hb0
       clear hB0 hb0)
    | (go_at_call 61; (with_reducible refine (hook_any n kd p m A4 c4 es A5 c5 ds A6 c6 os wt _ (H4.out.below HB0.out) (H5.out.below HB0.out) (H6.out.below HB0.out) l4 l5 l6).mono ?_); rintro e w2 ⟨g, rfl, hI, hb⟩
       have HI := Lib.hid hI
       have HX := Lib.hid (below_trans HB0.out hb)
       clear hI hb q0 q1 q2 q3 q4 q5 q6 q7)
    | (go_at_call 62; (with_reducible refine (zzDel_any _ g n kd p m wt es ds os s _ HI.out l5).mono ?_); rintro e w' ⟨rfl, rfl⟩)
    | (go_at_call 63; (with_reducible refine (zzOut_any _ g n kd p m wt es ds os s _ HI.out l6).mono ?_); rintro e w' ⟨rfl, rfl⟩))
  go_ret2
  exact ⟨rfl, HX.out⟩
end Go.Proofs.Ytdgblfldbikneaa
