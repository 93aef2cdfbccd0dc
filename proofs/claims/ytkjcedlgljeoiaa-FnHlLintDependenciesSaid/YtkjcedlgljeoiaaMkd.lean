/- Texts Ld5, laid together. -/
import Derived.WalkKit
import Derived.WalkLawsBesides
import Derived.WalkSpells
import Derived.Lib.Hide
import Derived.Deep.RegionWith
import Derived.Deep.DeepCutAuto
import Derived.Deep.QuietTactic
import Derived.BigQuiet
import Derived.Laws.OwnMore
import Derived.Deep.LoopGhost
import Derived.KernelRfl
import Derived.Deep.WholeRow
import Derived.StillTail
import Derived.SliceStrings
import Derived.Deep.Slices
import Derived.Deep.Fields
import Derived.ChangeSame
import Derived.Deep.MidRow
import Derived.Maps.AppendAt
import Derived.Lib.AppendStr
import Derived.Lib.ConvBytes
import Derived.Laws.BytesArg
import Derived.Deep.RegionLaw
import Derived.OwnWalk
import Derived.Maps.OwnSet
import Derived.Maps.OwnOps
import Derived.ArgAppend
import Derived.Defers
import Derived.Recover
import Derived.Laws.Pointers
import Derived.Laws.StructEq
import Derived.IntWalk
import Derived.Test.YtkjcedlgljeoiaaProg
import Derived.BigRegion
import Derived.Deep.CutBlock
import Derived.Carry
import Derived.LoopN
import Derived.Test.YtkjcedlgljeoiaaMkc
/- The walk of FnHlLintDependencies. -/
namespace Go.Proofs.Ytkjcedlgljeoiaa
open Go.RowKit Go.Lib
set_option linter.unusedVariables false
set_option linter.unusedSimpArgs false
theorem small_size2 {s : ByteArray} (h : smallB s = true) : s.size ≤ 10 := by
  unfold smallB at h
  simp only [Bool.and_eq_true, decide_eq_true_eq] at h
  exact h.2.2
theorem fits3_mem {xs : List ByteArray} (h : fits3 xs = true) : ∀ x ∈ xs, x.size ≤ 2147483647 := fun x hx => by
  unfold fits3 at h
  simp only [Bool.and_eq_true, List.all_eq_true, decide_eq_true_eq] at h
  exact h.2 x hx
/-- How often a text stands in a list. -/
def cntF (s : ByteArray) : List ByteArray → Nat
  | [] => 0
  | x :: xs => cond (x.toList == s.toList) 1 0 + cntF s xs
theorem cnt_snoc {s x : ByteArray} : ∀ xs : List ByteArray, cntF s (xs ++ [x]) = cntF s xs + cond (x.toList == s.toList) 1 0
  | [] => by show _ + cntF s [] = cntF s [] + _; rw [Nat.add_comm]
  | y :: xs => by show _ + cntF s (xs ++ [x]) = _ + cntF s xs + _; rw [cnt_snoc xs, Nat.add_assoc]
theorem cnt_take {s : ByteArray} {xs : List ByteArray} {k : Nat} (h : k < xs.length) : cntF s (xs.take (k + 1)) = cntF s (xs.take k) + cond (xs[k].toList == s.toList) 1 0 := by rw [List.take_succ_eq_append_getElem h, cnt_snoc]
theorem cnt_le {s : ByteArray} : ∀ xs : List ByteArray, cntF s xs ≤ xs.length
  | [] => Nat.le_refl _
  | x :: xs => by
    have := cnt_le (s := s) xs
    show cond _ 1 0 + cntF s xs ≤ xs.length + 1
    cases x.toList == s.toList
    · show 0 + cntF s xs ≤ _; omega
    · show 1 + cntF s xs ≤ _; omega
theorem cnt_one {s : ByteArray} : ∀ xs : List ByteArray, oneOf s xs = decide (0 < cntF s xs)
  | [] => rfl
  | x :: xs => by
    have ih := cnt_one (s := s) xs
    show ((x.toList == s.toList) || oneOf s xs) = decide (0 < cond (x.toList == s.toList) 1 0 + cntF s xs)
    rw [ih]
    cases x.toList == s.toList
    · show _ = decide (0 < 0 + cntF s xs); rw [Nat.zero_add]; rfl
    · show true = decide (0 < 1 + cntF s xs); exact (decide_eq_true (by omega)).symm
theorem oneOf_take (s : ByteArray) (A : Option Addr) (c : Nat) (xs : List ByteArray) (j : Nat) (w : World) (h : Sl w A (strs xs)) (hj : j ≤ xs.length) : Calls Try.prog 41 #[.string s, .slice A j c] w fun e w' => e = .returned (.bool (oneOf s (xs.take j))) ∧ w = w' := by
  have e : (xs.take j).length = j := by rw [List.length_take]; omega
  have h2 : Sl w A (strs (xs.take j)) := by
    have e2 : strs (xs.take j) = (strs xs).take j := by simp only [strs]; rw [List.map_take]
    rw [e2]
    have hl : ((strs xs).take j).length ≤ (strs xs).length := by rw [List.length_take]; omega
    refine ⟨by have := h.1; omega, fun hp => ?_⟩
    obtain ⟨ad, e3, hc⟩ := h.2 (by omega)
    exact ⟨ad, e3, fun i u hi => hc i u (by rw [List.getElem?_take] at hi; split at hi; exact hi; cases hi)⟩
  have := oneOf_any s A c (xs.take j) w h2
  rwa [e] at this
theorem hlSame_33 (A : Option Addr) (c : Nat) (us : List ByteArray) (B : Option Addr) (d : Nat) (vs : List ByteArray) (w : World) (h0 : Sl w A (strs us)) (h1 : Sl w B (strs vs)) (e0 : us.length = 3) (e1 : vs.length = 3) : Calls Try.prog 44 #[.slice A 3 c, .slice B 3 d] w fun e w' => e = .returned (.bool (decide (us = vs))) ∧ Below w.heap.size w w' := by
  have := hlSame_any A c us B d vs w h0 h1
  rwa [e0, e1] at this
theorem small_snoc {xs : List ByteArray} {k : Nat} (h : k < xs.length) (ha : ∀ x ∈ xs.take k, x.size ≤ 10) (hk : smallB xs[k] = true) : ∀ x ∈ xs.take (k + 1), x.size ≤ 10 := fun x hx => by
  rw [List.take_succ_eq_append_getElem h] at hx
  rcases List.mem_append.1 hx with hx | hx
  · exact ha x hx
  · rw [List.mem_singleton.1 hx]; exact small_size2 hk
theorem flatC_takeS {α : Type} {f : α → List Value} {xs : List α} {k : Nat} (h : k < xs.length) {l : List Value} (hl : l = f xs[k]) : flatC f (xs.take k) ++ l = flatC f (xs.take (k + 1)) := by rw [List.take_succ_eq_append_getElem h, flatC_snoc, hl]
theorem dpd_takeS {xs : List ByteArray} {k : Nat} (h : k < xs.length) {l : List Value} (hl : l = Ty80.cells (dpd xs[k])) : flatC Ty80.cells ((xs.take k).map dpd) ++ l = flatC Ty80.cells ((xs.take (k + 1)).map dpd) := by rw [List.take_succ_eq_append_getElem h, List.map_append, List.map_cons, List.map_nil, flatC_snoc, hl]
theorem lintDeps_lit (xs : List ByteArray) (A : Option Addr) (c : Nat) (ys : List ByteArray) (B : Option Addr) (d : Nat) (R : Ctx) (L : List SA) (w : World) (S : Sp R w (L)) (h0 : Rf R L fun w => Rows w (A) 7 ((xs.map dpd).map Ty80.cells)) (h1 : Rf R L fun w => Rows w (B) 18 (ys.map leafC)) (hx : xs.length ≤ 8) (hy : ys.length ≤ 8) (hxz : ∀ x ∈ xs, x.size ≤ 10) (hyz : ∀ x ∈ ys, x.size ≤ 10) :
    Calls Try.prog 43 #[.agg #[.bool false, .string ⟨#[112]⟩, .string ⟨#[]⟩, .string ⟨#[]⟩, .string ⟨#[]⟩, .string ⟨#[]⟩, .string ⟨#[]⟩, .string ⟨#[]⟩, .string ⟨#[]⟩, .string ⟨#[]⟩, .string ⟨#[]⟩, .string ⟨#[]⟩, .slice none 0 0, .slice none 0 0, .slice none 0 0, .slice A xs.length c, .slice none 0 0, .slice B ys.length d]] w fun e w' => ∃ Ab : Option Addr, ∃ cb : Nat, e = .returned (.tuple #[.slice (Ab) (3) (cb), .int .i64 (0)]) ∧ Sp R w' (SA.own (.slice Ab 3 cb) 9 1 3 (strs [toldF ⟨#[99, 104, 97, 114, 116, 32, 109, 101, 116, 97, 100, 97, 116, 97, 32, 105, 115, 32, 109, 105, 115, 115, 105, 110, 103, 32, 116, 104, 101, 115, 101, 32, 100, 101, 112, 101, 110, 100, 101, 110, 99, 105, 101, 115, 58, 32]⟩ (onlyF ys xs), toldF ⟨#[109, 117, 108, 116, 105, 112, 108, 101, 32, 100, 101, 112, 101, 110, 100, 101, 110, 99, 105, 101, 115, 32, 119, 105, 116, 104, 32, 110, 97, 109, 101, 32, 111, 114, 32, 97, 108, 105, 97, 115, 58, 32]⟩ (dupF [] xs), toldF ⟨#[99, 104, 97, 114, 116, 32, 100, 105, 114, 101, 99, 116, 111, 114, 121, 32, 105, 115, 32, 109, 105, 115, 115, 105, 110, 103, 32, 116, 104, 101, 115, 101, 32, 100, 101, 112, 101, 110, 100, 101, 110, 99, 105, 101, 115, 58, 32]⟩ (onlyF xs ys)]) :: L) := by
  have e : (xs.map dpd).length = xs.length := List.length_map _
  rw [← e]
  exact lintDeps_sp xs A c ys B d R L w S h0 h1 hx hy hxz hyz
set_option maxRecDepth 100000 in
set_option maxHeartbeats 20000000 in
theorem lintDepsLaw_sp (A : Option Addr) (c : Nat) (xs : List ByteArray) (B : Option Addr) (d : Nat) (ys : List ByteArray) (R : Ctx) (L : List SA) (w : World) (S : Sp R w (L)) (h0 : Rf R L fun w => Sl w (A) (strs xs)) (h1 : Rf R L fun w => Sl w (B) (strs ys)) (hcx : xs.length ≤ c) (hdy : ys.length ≤ d) :
    Calls Try.prog 9 #[.slice (A) (xs.length) (c), .slice (B) (ys.length) (d)] w fun e w' => e = .returned (.bool true) ∧ Sp R w' (L) := by
  have hl_xs : xs.length ≤ 9223372036854775807 := by have := (h0 _ S).1; simpa [strs, ptrs, pps] using this
  have hl_ys : ys.length ≤ 9223372036854775807 := by have := (h1 _ S).1; simpa [strs, ptrs, pps] using this
  refine fw_enter (fn := Try.f9) rfl rfl 140 rfl (Nat.le_of_ble_eq_true rfl) ?_
  intro a0 F0
  refine wp_seq_k fun K1 hK1 => ?_
  refine wp_region_lit ?_
  refine op_q F0 (.bool false) ?_; intro a2 F2
  refine wpList_nil ?_
  refine hK1 _ _ ?_; clear hK1 K1
  refine wp_seq_k fun K3 hK3 => ?_
  refine wp_seq_k fun K4 hK4 => ?_
  refine wp_region_lit ?_
  refine op_q F2 (.slice (A) (xs.length) (c)) ?_; intro a5 F5
  refine op_cq F5 (f := 27) (args := #[.slice (A) (xs.length) (c)]) (zzFits3_any A c xs _ (h0 _ S)) ?_
  rintro _ _ ⟨rfl, rfl⟩
  refine ⟨_, rfl, ?_⟩
  intro a7 F7
  refine op_q F7 (.bool (!(fits3 xs))) ?_; intro a8 F8
  refine op_q F8 (.bool (!(fits3 xs))) ?_; intro a9 F9
  rcases btf (fits3 xs) with hc10 | hc10
  · have hfx := fits3_mem hc10
    have F11 := F9.sb 19 (by kernel_rfl) hc10
    have F12 := F11.sb 20 (by kernel_rfl) (show (!(fits3 xs)) = false by rw [hc10]; rfl)
    have F13 := F12.sb 21 (by kernel_rfl) (show (!(fits3 xs)) = false by rw [hc10]; rfl)
    refine op_wq F13 ?_
    refine op_q F13 (.slice (B) (ys.length) (d)) ?_; intro a14 F14
    refine op_wq F14 ?_
    refine op_cq F14 (f := 27) (args := #[.slice (B) (ys.length) (d)]) (zzFits3_any B d ys _ (h1 _ S)) ?_
    rintro _ _ ⟨rfl, rfl⟩
    refine ⟨_, rfl, ?_⟩
    intro a16 F16
    refine op_wq F16 ?_
    refine op_q F16 (.bool (!(fits3 ys))) ?_; intro a17 F17
    refine op_q F17 (.bool (!(fits3 ys))) ?_; intro a18 F18
    refine wpList_nil ?_
    refine hK4 _ _ ?_; clear hK4 K4
    rcases btf (fits3 ys) with hc19 | hc19
    · have hfy := fits3_mem hc19
      have F20 := F18.sb 23 (by kernel_rfl) hc19
      have F21 := F20.sb 24 (by kernel_rfl) (show (!(fits3 ys)) = false by rw [hc19]; rfl)
      have F22 := F21.sb 25 (by kernel_rfl) (show (!(fits3 ys)) = false by rw [hc19]; rfl)
      refine wp_cond_false (F22.ev (by kernel_rfl)) ?_
      refine wp_skip ?_
      refine hK3 _ _ ?_; clear hK3 K3
      refine wp_seq_k fun K23 hK23 => ?_
      refine wp_seq_k fun K24 hK24 => ?_
      refine wp_region_lit ?_
      refine op_q F22 (.slice (A) (xs.length) (c)) ?_; intro a25 F25
      refine op_q F25 (.int .i64 (↑xs.length)) ?_; intro a26 F26
      refine op_q F26 (.bool (decide ((8 : Int) < ↑xs.length))) ?_; intro a27 F27
      refine op_q F27 (.bool (decide ((8 : Int) < ↑xs.length))) ?_; intro a28 F28
      rcases btf (decide ((8 : Int) < ↑xs.length)) with hc29 | hc29
      · have hc29p := of_decide_eq_true hc29
        have F30 := F28.sb 28 (by kernel_rfl) hc29
        have F31 := F30.sb 29 (by kernel_rfl) hc29
        refine op_kq F31 ?_; intro a32 F32
        refine op_kq F32 ?_; intro a33 F33
        refine op_kq F33 ?_; intro a34 F34
        refine op_q F34 (.bool true) ?_; intro a35 F35
        refine wpList_nil ?_
        refine hK24 _ _ ?_; clear hK24 K24
        refine wp_cond_true (F35.ev (by kernel_rfl)) ?_
        refine wp_seq_k fun K36 hK36 => ?_
        refine wp_region_lit ?_
        refine op_q F35 (.bool true) ?_; intro a37 F37
        refine wpList_nil ?_
        refine hK36 _ _ ?_; clear hK36 K36
        refine wp_ret ?_
        refine ret_then ?_
        refine (F37.res1 rfl (v := .bool true) (by kernel_rfl) ?_).1
        exact ⟨rfl, S⟩
      · have hc29p := of_decide_eq_false hc29
        have F38 := F28.sb 28 (by kernel_rfl) hc29
        have F39 := F38.sb 29 (by kernel_rfl) hc29
        refine op_wq F39 ?_
        refine op_q F39 (.slice (B) (ys.length) (d)) ?_; intro a40 F40
        refine op_wq F40 ?_
        refine op_q F40 (.int .i64 (↑ys.length)) ?_; intro a41 F41
        refine op_wq F41 ?_
        refine op_q F41 (.bool (decide ((8 : Int) < ↑ys.length))) ?_; intro a42 F42
        refine op_q F42 (.bool (decide ((8 : Int) < ↑ys.length))) ?_; intro a43 F43
        refine wpList_nil ?_
        refine hK24 _ _ ?_; clear hK24 K24
        rcases btf (decide ((8 : Int) < ↑ys.length)) with hc44 | hc44
        · have hc44p := of_decide_eq_true hc44
          have F45 := F43.sb 32 (by kernel_rfl) hc44
          have F46 := F45.sb 33 (by kernel_rfl) hc44
          refine wp_cond_true (F46.ev (by kernel_rfl)) ?_
          refine wp_seq_k fun K47 hK47 => ?_
          refine wp_region_lit ?_
          refine op_q F46 (.bool true) ?_; intro a48 F48
          refine wpList_nil ?_
          refine hK47 _ _ ?_; clear hK47 K47
          refine wp_ret ?_
          refine ret_then ?_
          refine (F48.res1 rfl (v := .bool true) (by kernel_rfl) ?_).1
          exact ⟨rfl, S⟩
        · have hc44p := of_decide_eq_false hc44
          have F49 := F43.sb 32 (by kernel_rfl) hc44
          have F50 := F49.sb 33 (by kernel_rfl) hc44
          refine wp_cond_false (F50.ev (by kernel_rfl)) ?_
          refine wp_skip ?_
          refine hK23 _ _ ?_; clear hK23 K23
          refine wp_seq_k fun K51 hK51 => ?_
          refine wp_region_lit ?_
          refine op_q F50 (.agg #[.string ⟨#[112]⟩, .string ⟨#[]⟩, .string ⟨#[]⟩, .string ⟨#[]⟩, .string ⟨#[]⟩, .string ⟨#[]⟩, .string ⟨#[]⟩, .string ⟨#[]⟩, .string ⟨#[]⟩, .string ⟨#[]⟩, .string ⟨#[]⟩, .slice none 0 0, .slice none 0 0, .slice none 0 0, .slice none 0 0]) ?_; intro a52 F52
          refine op_q F52 (.agg #[.bool false, .string ⟨#[112]⟩, .string ⟨#[]⟩, .string ⟨#[]⟩, .string ⟨#[]⟩, .string ⟨#[]⟩, .string ⟨#[]⟩, .string ⟨#[]⟩, .string ⟨#[]⟩, .string ⟨#[]⟩, .string ⟨#[]⟩, .string ⟨#[]⟩, .slice none 0 0, .slice none 0 0, .slice none 0 0, .slice none 0 0, .slice none 0 0, .slice none 0 0]) ?_; intro a53 F53
          refine op_sq F53 (s_newp F53 30 #[.bool false, .string ⟨#[]⟩, .string ⟨#[]⟩, .string ⟨#[]⟩, .string ⟨#[]⟩, .string ⟨#[]⟩, .string ⟨#[]⟩, .string ⟨#[]⟩, .string ⟨#[]⟩, .string ⟨#[]⟩, .string ⟨#[]⟩, .string ⟨#[]⟩, .slice none 0 0, .slice none 0 0, .slice none 0 0, .slice none 0 0, .slice none 0 0, .slice none 0 0] (by kernel_rfl) (by kernel_rfl) (by kernel_rfl) S) ?_
          rintro _ _ w55 ⟨g53, rfl, rfl⟩ S55 a55 F55
          refine op_sq0 F55 (s_stb rfl (F55.e (.pointer (some ⟨g53, 0, none⟩))) (F55.e (.agg #[.bool false, .string ⟨#[112]⟩, .string ⟨#[]⟩, .string ⟨#[]⟩, .string ⟨#[]⟩, .string ⟨#[]⟩, .string ⟨#[]⟩, .string ⟨#[]⟩, .string ⟨#[]⟩, .string ⟨#[]⟩, .string ⟨#[]⟩, .string ⟨#[]⟩, .slice none 0 0, .slice none 0 0, .slice none 0 0, .slice none 0 0, .slice none 0 0, .slice none 0 0])) S55 (by kernel_rfl) rfl (by kernel_rfl)) ?_
          rintro _ _ w56 rfl S56 F56
          refine wpList_nil ?_
          refine hK51 _ _ ?_; clear hK51 K51
          refine wp_seq_k fun K57 hK57 => ?_
          refine wp_region_lit ?_
          refine op_q F56 (.slice none 0 0) ?_; intro a58 F58
          refine op_q F58 (.slice none 0 0) ?_; intro a59 F59
          refine op_q F59 (.slice none 0 0) ?_; intro a60 F60
          refine wpList_nil ?_
          refine hK57 _ _ ?_; clear hK57 K57
          refine wp_seq_k fun K61 hK61 => ?_
          refine wp_seq_k fun K62 hK62 => ?_
          refine wp_region_lit ?_
          refine op_q F60 (.slice (A) (xs.length) (c)) ?_; intro a63 F63
          refine op_q F63 (.int .i64 (↑xs.length)) ?_; intro a64 F64
          refine op_q F64 (.int .i64 0) ?_; intro a65 F65
          refine wpList_nil ?_
          refine hK62 _ _ ?_; clear hK62 K62
          refine wp_block ?_
          have S66 : Sp R w56 (SA.own (.slice none 0 0) 9 1 (([] : List ByteArray).length) (strs []) :: SA.own (.slice none 0 0) 9 1 (([] : List ByteArray).length) (strs []) :: SA.own (.slice none 0 0) 80 7 0 (flatC Ty80.cells ((xs.take 0).map dpd)) :: SA.blk g53 30 #[.bool false, .string ⟨#[112]⟩, .string ⟨#[]⟩, .string ⟨#[]⟩, .string ⟨#[]⟩, .string ⟨#[]⟩, .string ⟨#[]⟩, .string ⟨#[]⟩, .string ⟨#[]⟩, .string ⟨#[]⟩, .string ⟨#[]⟩, .string ⟨#[]⟩, .slice none 0 0, .slice none 0 0, .slice none 0 0, .slice none 0 0, .slice none 0 0, .slice none 0 0] :: L) := Sp.nilown (e := 9) (sz := 1) (Sp.nilown (e := 9) (sz := 1) (Sp.nilown (e := 80) (sz := 7) S56))
          refine fw_loop (fun m' a' w' => ∃ Tw : Option Addr, ∃ tw : Nat, ∃ tws : List ByteArray, ∃ Mi : Option Addr, ∃ mi : Nat, ∃ mis : List ByteArray, ∃ De : Option Addr, ∃ de : Nat, ∃ k : Nat, xs.length - k = m' ∧ Fr 140 [] a' [(0, .slice (A) (xs.length) (c)), (1, .slice (B) (ys.length) (d)), (5, .pointer (some ⟨g53, 0, none⟩)), (6, .slice none 0 0), (7, .slice Tw tws.length tw), (8, .slice Mi mis.length mi), (36, .slice (A) (xs.length) (c)), (37, .int .i64 (↑xs.length)), (38, .int .i64 (↑k))] ∧ Sp R w' (SA.blk g53 30 #[.bool false, .string ⟨#[112]⟩, .string ⟨#[]⟩, .string ⟨#[]⟩, .string ⟨#[]⟩, .string ⟨#[]⟩, .string ⟨#[]⟩, .string ⟨#[]⟩, .string ⟨#[]⟩, .string ⟨#[]⟩, .string ⟨#[]⟩, .string ⟨#[]⟩, .slice none 0 0, .slice none 0 0, .slice none 0 0, .slice De k de, .slice none 0 0, .slice none 0 0] :: SA.own (.slice Tw tws.length tw) 9 1 tws.length (strs tws) :: SA.own (.slice Mi mis.length mi) 9 1 mis.length (strs mis) :: SA.own (.slice De k de) 80 7 k (flatC Ty80.cells ((xs.take k).map dpd)) :: L) ∧ (k ≤ xs.length) ∧ (tws = dupF [] (xs.take k)) ∧ (mis = onlyF (xs.take k) ys) ∧ (∀ x ∈ xs.take k, x.size ≤ 10)) _ ⟨none, 0, [], none, 0, [], none, 0, 0, rfl, (F65.kk 0 (F65.kk 1 (F65.kk 5 (F65.kk 6 (F65.kk 7 (F65.kk 8 (F65.kk 36 (F65.kk 37 (F65.kk 38 F65.nil))))))))), S66.p2.p2.p2.p3, (by first | omega | (with_reducible assumption) | (simp; done)), rfl, rfl, (fun x hx => by cases hx)⟩ ?_
          rintro m67 a67 w67 ⟨Tw, tw, tws, Mi, mi, mis, De, de, k, hm67, F67, S67, hk, htw, hmi, hsm⟩ K67 hK67
          by_cases hlt_k : k < xs.length
          · have hc_k : decide ((↑k : Int) < ↑xs.length) = true := by first | (simp; done) | (simp; omega)
            obtain ⟨ad68, hA68⟩ := (h0 _ S67.drop.drop.drop.drop).addr (by simp [strs]; omega)
            have hlt_k2 : k < xs.length := by omega
            have hkz := hfx _ (List.getElem_mem hlt_k2)
            have htl : tws.length ≤ 8 := by have := dup_len (xs.take k) []; rw [← htw, List.length_take] at this; omega
            have hml : mis.length ≤ 8 := by have := only_len (ys := xs.take k) (xs := ys); rw [← hmi, List.length_take] at this; omega
            refine wp_seq_k fun K69 hK69 => ?_
            refine wp_region_lit ?_
            refine op_q F67 (.bool (decide ((↑k : Int) < ↑xs.length))) ?_; intro a70 F70
            have F71 := F70.sb 39 (by kernel_rfl) hc_k
            refine wpList_nil ?_
            refine hK69 _ _ ?_; clear hK69 K69
            refine wp_seq_k fun K72 hK72 => ?_
            refine wp_cond_true (F71.ev (by kernel_rfl)) ?_
            refine wp_skip ?_
            refine hK72 _ _ ?_; clear hK72 K72
            refine wp_seq_k fun K73 hK73 => ?_
            refine wp_block ?_
            refine wp_seq_k fun K74 hK74 => ?_
            refine wp_region_lit ?_
            refine op_q F71 (.int .i64 (↑k)) ?_; intro a75 F75
            refine op_rq (v := .pointer (some (ad68.add k))) F75 (r_ix rfl Try.underlying22 1 (by kernel_rfl) (F75.e (.slice (A) (xs.length) (c))) hA68 (F75.e (.int .i64 (↑k))) k (by first | rfl | omega | simp) (by first | omega | (simp; done) | (simp; omega)) (by simp only [Nat.mul_one])) ?_; intro a76 F76
            refine op_rq (v := .string xs[k]) F76 (r_ld rfl (F76.e (.pointer (some (ad68.add k)))) (v := .string xs[k]) ((h0 _ S67.drop.drop.drop.drop).elA hA68 (j := k) (by simp only [strs, List.getElem?_map, List.getElem?_eq_getElem hlt_k]; rfl)) Try.underlying9 rfl) ?_; intro a77 F77
            refine op_q F77 (.int .i64 (↑k)) ?_; intro a78 F78
            refine op_q F78 (.string xs[k]) ?_; intro a79 F79
            refine wpList_nil ?_
            refine hK74 _ _ ?_; clear hK74 K74
            refine wp_seq_k fun K80 hK80 => ?_
            refine wp_region_lit ?_
            refine op_q F79 (.int .i64 0) ?_; intro a81 F81
            refine wpList_nil ?_
            refine hK80 _ _ ?_; clear hK80 K80
            refine wp_seq_k fun K82 hK82 => ?_
            refine wp_seq_k fun K83 hK83 => ?_
            refine wp_region_lit ?_
            refine op_q F81 (.slice (A) (xs.length) (c)) ?_; intro a84 F84
            refine op_q F84 (.int .i64 (↑k)) ?_; intro a85 F85
            refine op_rq (v := .slice (A) k c) F85 (r_slch rfl Try.underlying22 1 (by kernel_rfl) (F85.e (.slice (A) (xs.length) (c))) (F85.e (.int .i64 (↑k))) k rfl (by omega)) ?_; intro a86 F86
            refine op_q F86 (.int .i64 (↑k)) ?_; intro a87 F87
            refine op_q F87 (.int .i64 0) ?_; intro a88 F88
            refine wpList_nil ?_
            refine hK83 _ _ ?_; clear hK83 K83
            refine wp_block ?_
            refine fw_loop (fun m' a' w' => ∃ n : Nat, ∃ j : Nat, k - j = m' ∧ Fr 140 [] a' [(0, .slice (A) (xs.length) (c)), (1, .slice (B) (ys.length) (d)), (5, .pointer (some ⟨g53, 0, none⟩)), (6, .slice none 0 0), (7, .slice Tw tws.length tw), (8, .slice Mi mis.length mi), (10, .string xs[k]), (11, .int .i64 (↑n)), (36, .slice (A) (xs.length) (c)), (37, .int .i64 (↑xs.length)), (38, .int .i64 (↑k)), (45, .slice (A) k c), (46, .int .i64 (↑k)), (47, .int .i64 (↑j))] ∧ Sp R w' (SA.blk g53 30 #[.bool false, .string ⟨#[112]⟩, .string ⟨#[]⟩, .string ⟨#[]⟩, .string ⟨#[]⟩, .string ⟨#[]⟩, .string ⟨#[]⟩, .string ⟨#[]⟩, .string ⟨#[]⟩, .string ⟨#[]⟩, .string ⟨#[]⟩, .string ⟨#[]⟩, .slice none 0 0, .slice none 0 0, .slice none 0 0, .slice De k de, .slice none 0 0, .slice none 0 0] :: SA.own (.slice Tw tws.length tw) 9 1 tws.length (strs tws) :: SA.own (.slice Mi mis.length mi) 9 1 mis.length (strs mis) :: SA.own (.slice De k de) 80 7 k (flatC Ty80.cells ((xs.take k).map dpd)) :: L) ∧ (j ≤ k) ∧ (n = cntF xs[k] (xs.take j))) _ ⟨0, 0, rfl, (F88.kk 0 (F88.kk 1 (F88.kk 5 (F88.kk 6 (F88.kk 7 (F88.kk 8 (F88.kk 10 (F88.kk 11 (F88.kk 36 (F88.kk 37 (F88.kk 38 (F88.kk 45 (F88.kk 46 (F88.kk 47 F88.nil)))))))))))))), S67.p3.p3.p3.p3, (by first | omega | (with_reducible assumption) | (simp; done)), rfl⟩ ?_
            rintro m89 a89 w89 ⟨n, j, hm89, F89, S89, hj, hn⟩ K89 hK89
            by_cases hlt_j : j < k
            · have hc_j : decide ((↑j : Int) < ↑k) = true := by first | (simp; done) | (simp; omega)
              have hltj2 : j < xs.length := by omega
              have hnj : n ≤ 8 := by have := cnt_le (s := xs[k]) (xs.take j); rw [← hn, List.length_take] at this; omega
              refine wp_seq_k fun K90 hK90 => ?_
              refine wp_region_lit ?_
              refine op_q F89 (.bool (decide ((↑j : Int) < ↑k))) ?_; intro a91 F91
              have F92 := F91.sb 48 (by kernel_rfl) hc_j
              refine wpList_nil ?_
              refine hK90 _ _ ?_; clear hK90 K90
              refine wp_seq_k fun K93 hK93 => ?_
              refine wp_cond_true (F92.ev (by kernel_rfl)) ?_
              refine wp_skip ?_
              refine hK93 _ _ ?_; clear hK93 K93
              refine wp_seq_k fun K94 hK94 => ?_
              refine wp_block ?_
              refine wp_seq_k fun K95 hK95 => ?_
              refine wp_region_lit ?_
              refine op_rq (v := .pointer (some (ad68.add j))) F92 (r_ix rfl Try.underlying22 1 (by kernel_rfl) (F92.e (.slice (A) k c)) hA68 (F92.e (.int .i64 (↑j))) j (by first | rfl | omega | simp) (by first | omega | (simp; done) | (simp; omega)) (by simp only [Nat.mul_one])) ?_; intro a96 F96
              refine op_rq (v := .string xs[j]) F96 (r_ld rfl (F96.e (.pointer (some (ad68.add j)))) (v := .string xs[j]) ((h0 _ S89.drop.drop.drop.drop).elA hA68 (j := j) (by simp only [strs, List.getElem?_map, List.getElem?_eq_getElem hltj2]; rfl)) Try.underlying9 rfl) ?_; intro a97 F97
              refine op_q F97 (.string xs[j]) ?_; intro a98 F98
              refine wpList_nil ?_
              refine hK95 _ _ ?_; clear hK95 K95
              refine wp_seq_k fun K99 hK99 => ?_
              refine wp_region_lit ?_
              refine op_q F98 (.string xs[j]) ?_; intro a100 F100
              refine op_q F100 (.string xs[k]) ?_; intro a101 F101
              refine op_q F101 (.bool (xs[j].toList == xs[k].toList)) ?_; intro a102 F102
              refine wpList_nil ?_
              refine hK99 _ _ ?_; clear hK99 K99
              rcases btf (xs[j].toList == xs[k].toList) with hc103 | hc103
              · have F104 := F102.sb 53 (by kernel_rfl) hc103
                refine wp_cond_true (F104.ev (by kernel_rfl)) ?_
                refine wp_region_lit ?_
                refine op_q F104 (.int .i64 (↑n)) ?_; intro a105 F105
                refine op_rq (v := .int .i64 (↑(n + 1))) F105 (r_add (z := ↑(n + 1)) rfl (F105.e (.int .i64 (↑n))) (F105.e (.int .i64 1)) (wr64 (by omega) (by omega) (by omega))) ?_; intro a106 F106
                refine op_q F106 (.int .i64 (↑(n + 1))) ?_; intro a107 F107
                refine wpList_nil ?_
                refine hK94 _ _ ?_; clear hK94 K94
                refine wp_region_lit ?_
                refine op_rq (v := .int .i64 (↑(j + 1))) F107 (r_add (z := ↑(j + 1)) rfl (F107.e (.int .i64 (↑j))) (F107.e (.int .i64 1)) (wr64 (by omega) (by omega) (by omega))) ?_; intro a108 F108
                refine op_q F108 (.int .i64 (↑(j + 1))) ?_; intro a109 F109
                refine wpList_nil ?_
                exact hK89 _ _ _ (by first | omega | (simp; omega)) ⟨n + 1, j + 1, rfl, (F109.kk 0 (F109.kk 1 (F109.kk 5 (F109.kk 6 (F109.kk 7 (F109.kk 8 (F109.kk 10 (F109.kk 11 (F109.kk 36 (F109.kk 37 (F109.kk 38 (F109.kk 45 (F109.kk 46 (F109.kk 47 F109.nil)))))))))))))), S89.p3.p3.p3.p3, (by first | omega | (with_reducible assumption) | (simp; done)), (by rw [cnt_take hltj2, ← hn, hc103]; rfl)⟩
              · have F110 := F102.sb 53 (by kernel_rfl) hc103
                refine wp_cond_false (F110.ev (by kernel_rfl)) ?_
                refine wp_skip ?_
                refine hK94 _ _ ?_; clear hK94 K94
                refine wp_region_lit ?_
                refine op_rq (v := .int .i64 (↑(j + 1))) F110 (r_add (z := ↑(j + 1)) rfl (F110.e (.int .i64 (↑j))) (F110.e (.int .i64 1)) (wr64 (by omega) (by omega) (by omega))) ?_; intro a111 F111
                refine op_q F111 (.int .i64 (↑(j + 1))) ?_; intro a112 F112
                refine wpList_nil ?_
                exact hK89 _ _ _ (by first | omega | (simp; omega)) ⟨n, j + 1, rfl, (F112.kk 0 (F112.kk 1 (F112.kk 5 (F112.kk 6 (F112.kk 7 (F112.kk 8 (F112.kk 10 (F112.kk 11 (F112.kk 36 (F112.kk 37 (F112.kk 38 (F112.kk 45 (F112.kk 46 (F112.kk 47 F112.nil)))))))))))))), S89.p3.p3.p3.p3, (by first | omega | (with_reducible assumption) | (simp; done)), (by rw [cnt_take hltj2, ← hn, hc103]; rfl)⟩
            · have hc_j : decide ((↑j : Int) < ↑k) = false := by first | (simp; done) | (simp; omega)
              obtain rfl : k = j := by omega
              have hnk : n ≤ 8 := by have := cnt_le (s := xs[k]) (xs.take k); rw [← hn, List.length_take] at this; omega
              refine wp_seq_k fun K113 hK113 => ?_
              refine wp_region_lit ?_
              refine op_q F89 (.bool (decide ((↑k : Int) < ↑k))) ?_; intro a114 F114
              have F115 := F114.sb 48 (by kernel_rfl) hc_j
              refine wpList_nil ?_
              refine hK113 _ _ ?_; clear hK113 K113
              refine wp_seq_k fun K116 hK116 => ?_
              refine wp_cond_false (F115.ev (by kernel_rfl)) ?_
              refine wp_exit ?_
              refine ex_then ?_; clear hK116 K116
              refine ex_then ?_
              refine ex_in ?_
              refine hK82 _ _ ?_; clear hK82 K82
              refine wp_seq_k fun K117 hK117 => ?_
              refine wp_seq_k fun K118 hK118 => ?_
              refine wp_region_lit ?_
              refine op_q F115 (.string xs[k]) ?_; intro a119 F119
              refine op_cq F119 (f := 40) (args := #[.string xs[k]]) (hlSmall_any xs[k] _ _ _ S89 (by first | omega | (simp; done) | (simp; omega))) ?_
              rintro _ w120 ⟨rfl, S120⟩
              refine ⟨_, rfl, ?_⟩
              intro a121 F121
              refine op_q F121 (.bool (!(smallB xs[k]))) ?_; intro a122 F122
              refine op_q F122 (.bool (!(smallB xs[k]))) ?_; intro a123 F123
              rcases btf (smallB xs[k]) with hc124 | hc124
              · have F125 := F123.sb 58 (by kernel_rfl) hc124
                have F126 := F125.sb 59 (by kernel_rfl) (show (!(smallB xs[k])) = false by rw [hc124]; rfl)
                have F127 := F126.sb 60 (by kernel_rfl) (show (!(smallB xs[k])) = false by rw [hc124]; rfl)
                refine op_wq F127 ?_
                refine op_q F127 (.int .i64 (↑n)) ?_; intro a128 F128
                refine op_wq F128 ?_
                refine op_q F128 (.bool (decide ((1 : Int) < ↑n))) ?_; intro a129 F129
                refine op_q F129 (.bool (decide ((1 : Int) < ↑n))) ?_; intro a130 F130
                refine wpList_nil ?_
                refine hK118 _ _ ?_; clear hK118 K118
                rcases btf (decide ((1 : Int) < ↑n)) with hc131 | hc131
                · have hc131p := of_decide_eq_true hc131
                  have F132 := F130.sb 62 (by kernel_rfl) hc131
                  have F133 := F132.sb 63 (by kernel_rfl) hc131
                  refine wp_cond_true (F133.ev (by kernel_rfl)) ?_
                  refine wp_seq_k fun K134 hK134 => ?_
                  refine wp_region_lit ?_
                  refine op_q F133 (.bool true) ?_; intro a135 F135
                  refine wpList_nil ?_
                  refine hK134 _ _ ?_; clear hK134 K134
                  refine wp_ret ?_
                  refine ret_then ?_
                  refine ret_in ?_
                  refine ret_then ?_
                  refine ret_then ?_
                  refine ret_in ?_
                  refine ret_then ?_
                  refine (F135.res1 rfl (v := .bool true) (by kernel_rfl) ?_).1
                  exact ⟨rfl, S120.drop.drop.drop.drop⟩
                · have hc131p := of_decide_eq_false hc131
                  have F136 := F130.sb 62 (by kernel_rfl) hc131
                  have F137 := F136.sb 63 (by kernel_rfl) hc131
                  refine wp_cond_false (F137.ev (by kernel_rfl)) ?_
                  refine wp_skip ?_
                  refine hK117 _ _ ?_; clear hK117 K117
                  refine wp_seq_k fun K138 hK138 => ?_
                  refine wp_seq_k fun K139 hK139 => ?_
                  refine wp_region_lit ?_
                  refine op_q F137 (.int .i64 (↑n)) ?_; intro a140 F140
                  refine op_q F140 (.bool ((↑n : Int) == 1)) ?_; intro a141 F141
                  refine wpList_nil ?_
                  refine hK139 _ _ ?_; clear hK139 K139
                  rcases btf ((↑n : Int) == 1) with hc142 | hc142
                  · have hc142p := eq_of_beq hc142
                    have F143 := F141.sb 65 (by kernel_rfl) hc142
                    refine wp_cond_true (F143.ev (by kernel_rfl)) ?_
                    refine wp_region_lit ?_
                    refine op_q F143 (.slice Tw tws.length tw) ?_; intro a144 F144
                    refine op_q F144 (.string xs[k]) ?_; intro a145 F145
                    refine op_sq F145 (s_news F145 9 #[.string xs[k]] 1 (by kernel_rfl) (by kernel_rfl) (by kernel_rfl) S120) ?_
                    rintro _ _ w147 ⟨g145, rfl, rfl⟩ S147 a147 F147
                    refine op_sq F147 (s_app rfl Try.underlying22 1 _ tin9 rfl rfl (F147.e (.slice Tw tws.length tw)) S147.p2 ([Value.string xs[k]]) (F147.e (.slice (some ⟨g145, 0, none⟩) 1 1)) ((S147.bk 0 rfl).sl (by simp)) rfl (by simp [Value.oneCell']) (by omega) (by omega) (n' := (tws ++ [xs[k]]).length) (by first | (simp; done) | (simp; omega)) (cs' := strs (tws ++ [xs[k]])) (by simp [strs])) ?_
                    rintro _ _ w149 ⟨A148, c148, rfl, rfl⟩ S149 a149 F149
                    refine op_q F149 (.slice A148 ((tws ++ [xs[k]]).length) c148) ?_; intro a150 F150
                    refine wpList_nil ?_
                    refine hK138 _ _ ?_; clear hK138 K138
                    refine wp_seq_k fun K151 hK151 => ?_
                    refine wp_seq_k fun K152 hK152 => ?_
                    refine wp_region_lit ?_
                    refine op_q F150 (.string xs[k]) ?_; intro a153 F153
                    refine op_q F153 (.slice (B) (ys.length) (d)) ?_; intro a154 F154
                    refine op_cq F154 (f := 41) (args := #[.string xs[k], .slice (B) (ys.length) (d)]) (oneOf_any xs[k] B d ys _ (h1 _ S149.drop.drop.drop.drop.drop)) ?_
                    rintro _ _ ⟨rfl, rfl⟩
                    refine ⟨_, rfl, ?_⟩
                    intro a156 F156
                    refine op_q F156 (.bool (!(oneOf xs[k] ys))) ?_; intro a157 F157
                    refine wpList_nil ?_
                    refine hK152 _ _ ?_; clear hK152 K152
                    rcases btf (oneOf xs[k] ys) with hc158 | hc158
                    · have F159 := F157.sb 72 (by kernel_rfl) hc158
                      have F160 := F159.sb 73 (by kernel_rfl) (show (!(oneOf xs[k] ys)) = false by rw [hc158]; rfl)
                      refine wp_cond_false (F160.ev (by kernel_rfl)) ?_
                      refine wp_skip ?_
                      refine hK151 _ _ ?_; clear hK151 K151
                      refine wp_region_lit ?_
                      refine op_q F160 (.pointer (some ⟨g53, 1, none⟩)) ?_; intro a161 F161
                      refine op_q F161 (.pointer (some ⟨g53, 15, none⟩)) ?_; intro a162 F162
                      refine op_rq (v := .slice De k de) F162 (r_ld rfl (F162.e (.pointer (some ⟨g53, 15, none⟩))) (v := .slice De k de) ((S149.bk 2 rfl).cell 15) Try.underlying24 rfl) ?_; intro a163 F163
                      refine op_q F163 (.string xs[k]) ?_; intro a164 F164
                      refine op_q F164 (.agg #[.bool false, .string xs[k], .string ⟨#[49, 46, 48, 46, 48]⟩, .string ⟨#[]⟩, .string ⟨#[]⟩, .slice none 0 0, .string ⟨#[]⟩]) ?_; intro a165 F165
                      refine op_sq F165 (s_news F165 80 #[.bool false, .string xs[k], .string ⟨#[49, 46, 48, 46, 48]⟩, .string ⟨#[]⟩, .string ⟨#[]⟩, .slice none 0 0, .string ⟨#[]⟩] 1 (by kernel_rfl) (by kernel_rfl) (by kernel_rfl) S149) ?_
                      rintro _ _ w167 ⟨g165, rfl, rfl⟩ S167 a167 F167
                      refine op_sq F167 (s_app rfl Try.underlying24 7 _ tin80 rfl rfl (F167.e (.slice De k de)) S167.p5 ([Value.bool false, .string xs[k], .string ⟨#[49, 46, 48, 46, 48]⟩, .string ⟨#[]⟩, .string ⟨#[]⟩, .slice none 0 0, .string ⟨#[]⟩]) (F167.e (.slice (some ⟨g165, 0, none⟩) 1 1)) ((S167.bk 0 rfl).sl (by simp)) rfl (by simp [Value.oneCell']) (by omega) (by omega) (n' := k + 1) (by omega) (cs' := flatC Ty80.cells ((xs.take (k + 1)).map dpd)) (dpd_takeS hlt_k2 rfl)) ?_
                      rintro _ _ w169 ⟨A168, c168, rfl, rfl⟩ S169 a169 F169
                      refine op_q F169 (.pointer (some ⟨g53, 1, none⟩)) ?_; intro a170 F170
                      refine op_q F170 (.pointer (some ⟨g53, 15, none⟩)) ?_; intro a171 F171
                      refine op_sq0 F171 (s_st rfl (F171.e (.pointer (some ⟨g53, 15, none⟩))) (F171.e (.slice A168 (k + 1) c168)) S169.p4 (by kernel_rfl) rfl rfl rfl (cs := #[.bool false, .string ⟨#[112]⟩, .string ⟨#[]⟩, .string ⟨#[]⟩, .string ⟨#[]⟩, .string ⟨#[]⟩, .string ⟨#[]⟩, .string ⟨#[]⟩, .string ⟨#[]⟩, .string ⟨#[]⟩, .string ⟨#[]⟩, .string ⟨#[]⟩, .slice none 0 0, .slice none 0 0, .slice none 0 0, .slice A168 (k + 1) c168, .slice none 0 0, .slice none 0 0]) (by kernel_rfl)) ?_
                      rintro _ _ w172 rfl S172 F172
                      refine wpList_nil ?_
                      refine hK73 _ _ ?_; clear hK73 K73
                      refine wp_region_lit ?_
                      refine op_rq (v := .int .i64 (↑(k + 1))) F172 (r_add (z := ↑(k + 1)) rfl (F172.e (.int .i64 (↑k))) (F172.e (.int .i64 1)) (wr64 (by omega) (by omega) (by omega))) ?_; intro a173 F173
                      refine op_q F173 (.int .i64 (↑(k + 1))) ?_; intro a174 F174
                      refine wpList_nil ?_
                      exact hK67 _ _ _ (by first | omega | (simp; omega)) ⟨A148, c148, (tws ++ [xs[k]]), Mi, mi, mis, A168, c168, k + 1, rfl, (F174.kk 0 (F174.kk 1 (F174.kk 5 (F174.kk 6 (F174.kk 7 (F174.kk 8 (F174.kk 36 (F174.kk 37 (F174.kk 38 F174.nil))))))))), S172.p2.drop.p3.drop.p1.p3.p3.p3, (by first | omega | (with_reducible assumption) | (simp; done)), (by have ho : oneOf xs[k] (xs.take k) = true := (by rw [cnt_one, ← hn]; first | (simp at hc142 ⊢; done) | (simp at hc142 ⊢; omega)); rw [dup_take hlt_k2, ← htw, ho]; rfl), (by rw [only_take hlt_k2, ← hmi, hc158]; exact (List.append_nil _).symm), (small_snoc hlt_k2 hsm hc124)⟩
                    · have F175 := F157.sb 72 (by kernel_rfl) hc158
                      have F176 := F175.sb 73 (by kernel_rfl) (show (!(oneOf xs[k] ys)) = true by rw [hc158]; rfl)
                      refine wp_cond_true (F176.ev (by kernel_rfl)) ?_
                      refine wp_region_lit ?_
                      refine op_q F176 (.slice Mi mis.length mi) ?_; intro a177 F177
                      refine op_q F177 (.string xs[k]) ?_; intro a178 F178
                      refine op_sq F178 (s_news F178 9 #[.string xs[k]] 1 (by kernel_rfl) (by kernel_rfl) (by kernel_rfl) S149) ?_
                      rintro _ _ w180 ⟨g178, rfl, rfl⟩ S180 a180 F180
                      refine op_sq F180 (s_app rfl Try.underlying22 1 _ tin9 rfl rfl (F180.e (.slice Mi mis.length mi)) S180.p4 ([Value.string xs[k]]) (F180.e (.slice (some ⟨g178, 0, none⟩) 1 1)) ((S180.bk 0 rfl).sl (by simp)) rfl (by simp [Value.oneCell']) (by omega) (by omega) (n' := (mis ++ [xs[k]]).length) (by first | (simp; done) | (simp; omega)) (cs' := strs (mis ++ [xs[k]])) (by simp [strs])) ?_
                      rintro _ _ w182 ⟨A181, c181, rfl, rfl⟩ S182 a182 F182
                      refine op_q F182 (.slice A181 ((mis ++ [xs[k]]).length) c181) ?_; intro a183 F183
                      refine wpList_nil ?_
                      refine hK151 _ _ ?_; clear hK151 K151
                      refine wp_region_lit ?_
                      refine op_q F183 (.pointer (some ⟨g53, 1, none⟩)) ?_; intro a184 F184
                      refine op_q F184 (.pointer (some ⟨g53, 15, none⟩)) ?_; intro a185 F185
                      refine op_rq (v := .slice De k de) F185 (r_ld rfl (F185.e (.pointer (some ⟨g53, 15, none⟩))) (v := .slice De k de) ((S182.bk 4 rfl).cell 15) Try.underlying24 rfl) ?_; intro a186 F186
                      refine op_q F186 (.string xs[k]) ?_; intro a187 F187
                      refine op_q F187 (.agg #[.bool false, .string xs[k], .string ⟨#[49, 46, 48, 46, 48]⟩, .string ⟨#[]⟩, .string ⟨#[]⟩, .slice none 0 0, .string ⟨#[]⟩]) ?_; intro a188 F188
                      refine op_sq F188 (s_news F188 80 #[.bool false, .string xs[k], .string ⟨#[49, 46, 48, 46, 48]⟩, .string ⟨#[]⟩, .string ⟨#[]⟩, .slice none 0 0, .string ⟨#[]⟩] 1 (by kernel_rfl) (by kernel_rfl) (by kernel_rfl) S182) ?_
                      rintro _ _ w190 ⟨g188, rfl, rfl⟩ S190 a190 F190
                      refine op_sq F190 (s_app rfl Try.underlying24 7 _ tin80 rfl rfl (F190.e (.slice De k de)) S190.p6 ([Value.bool false, .string xs[k], .string ⟨#[49, 46, 48, 46, 48]⟩, .string ⟨#[]⟩, .string ⟨#[]⟩, .slice none 0 0, .string ⟨#[]⟩]) (F190.e (.slice (some ⟨g188, 0, none⟩) 1 1)) ((S190.bk 0 rfl).sl (by simp)) rfl (by simp [Value.oneCell']) (by omega) (by omega) (n' := k + 1) (by omega) (cs' := flatC Ty80.cells ((xs.take (k + 1)).map dpd)) (dpd_takeS hlt_k2 rfl)) ?_
                      rintro _ _ w192 ⟨A191, c191, rfl, rfl⟩ S192 a192 F192
                      refine op_q F192 (.pointer (some ⟨g53, 1, none⟩)) ?_; intro a193 F193
                      refine op_q F193 (.pointer (some ⟨g53, 15, none⟩)) ?_; intro a194 F194
                      refine op_sq0 F194 (s_st rfl (F194.e (.pointer (some ⟨g53, 15, none⟩))) (F194.e (.slice A191 (k + 1) c191)) S192.p6 (by kernel_rfl) rfl rfl rfl (cs := #[.bool false, .string ⟨#[112]⟩, .string ⟨#[]⟩, .string ⟨#[]⟩, .string ⟨#[]⟩, .string ⟨#[]⟩, .string ⟨#[]⟩, .string ⟨#[]⟩, .string ⟨#[]⟩, .string ⟨#[]⟩, .string ⟨#[]⟩, .string ⟨#[]⟩, .slice none 0 0, .slice none 0 0, .slice none 0 0, .slice A191 (k + 1) c191, .slice none 0 0, .slice none 0 0]) (by kernel_rfl)) ?_
                      rintro _ _ w195 rfl S195 F195
                      refine wpList_nil ?_
                      refine hK73 _ _ ?_; clear hK73 K73
                      refine wp_region_lit ?_
                      refine op_rq (v := .int .i64 (↑(k + 1))) F195 (r_add (z := ↑(k + 1)) rfl (F195.e (.int .i64 (↑k))) (F195.e (.int .i64 1)) (wr64 (by omega) (by omega) (by omega))) ?_; intro a196 F196
                      refine op_q F196 (.int .i64 (↑(k + 1))) ?_; intro a197 F197
                      refine wpList_nil ?_
                      exact hK67 _ _ _ (by first | omega | (simp; omega)) ⟨A148, c148, (tws ++ [xs[k]]), A181, c181, (mis ++ [xs[k]]), A191, c191, k + 1, rfl, (F197.kk 0 (F197.kk 1 (F197.kk 5 (F197.kk 6 (F197.kk 7 (F197.kk 8 (F197.kk 36 (F197.kk 37 (F197.kk 38 F197.nil))))))))), S195.p2.drop.p3.drop.p4.drop.p1.p2.p3.p3, (by first | omega | (with_reducible assumption) | (simp; done)), (by have ho : oneOf xs[k] (xs.take k) = true := (by rw [cnt_one, ← hn]; first | (simp at hc142 ⊢; done) | (simp at hc142 ⊢; omega)); rw [dup_take hlt_k2, ← htw, ho]; rfl), (by rw [only_take hlt_k2, ← hmi, hc158]; rfl), (small_snoc hlt_k2 hsm hc124)⟩
                  · have hc142p := ne_of_beq_false hc142
                    have F198 := F141.sb 65 (by kernel_rfl) hc142
                    refine wp_cond_false (F198.ev (by kernel_rfl)) ?_
                    refine wp_skip ?_
                    refine hK138 _ _ ?_; clear hK138 K138
                    refine wp_seq_k fun K199 hK199 => ?_
                    refine wp_seq_k fun K200 hK200 => ?_
                    refine wp_region_lit ?_
                    refine op_q F198 (.string xs[k]) ?_; intro a201 F201
                    refine op_q F201 (.slice (B) (ys.length) (d)) ?_; intro a202 F202
                    refine op_cq F202 (f := 41) (args := #[.string xs[k], .slice (B) (ys.length) (d)]) (oneOf_any xs[k] B d ys _ (h1 _ S120.drop.drop.drop.drop)) ?_
                    rintro _ _ ⟨rfl, rfl⟩
                    refine ⟨_, rfl, ?_⟩
                    intro a204 F204
                    refine op_q F204 (.bool (!(oneOf xs[k] ys))) ?_; intro a205 F205
                    refine wpList_nil ?_
                    refine hK200 _ _ ?_; clear hK200 K200
                    rcases btf (oneOf xs[k] ys) with hc206 | hc206
                    · have F207 := F205.sb 72 (by kernel_rfl) hc206
                      have F208 := F207.sb 73 (by kernel_rfl) (show (!(oneOf xs[k] ys)) = false by rw [hc206]; rfl)
                      refine wp_cond_false (F208.ev (by kernel_rfl)) ?_
                      refine wp_skip ?_
                      refine hK199 _ _ ?_; clear hK199 K199
                      refine wp_region_lit ?_
                      refine op_q F208 (.pointer (some ⟨g53, 1, none⟩)) ?_; intro a209 F209
                      refine op_q F209 (.pointer (some ⟨g53, 15, none⟩)) ?_; intro a210 F210
                      refine op_rq (v := .slice De k de) F210 (r_ld rfl (F210.e (.pointer (some ⟨g53, 15, none⟩))) (v := .slice De k de) ((S120.bk 0 rfl).cell 15) Try.underlying24 rfl) ?_; intro a211 F211
                      refine op_q F211 (.string xs[k]) ?_; intro a212 F212
                      refine op_q F212 (.agg #[.bool false, .string xs[k], .string ⟨#[49, 46, 48, 46, 48]⟩, .string ⟨#[]⟩, .string ⟨#[]⟩, .slice none 0 0, .string ⟨#[]⟩]) ?_; intro a213 F213
                      refine op_sq F213 (s_news F213 80 #[.bool false, .string xs[k], .string ⟨#[49, 46, 48, 46, 48]⟩, .string ⟨#[]⟩, .string ⟨#[]⟩, .slice none 0 0, .string ⟨#[]⟩] 1 (by kernel_rfl) (by kernel_rfl) (by kernel_rfl) S120) ?_
                      rintro _ _ w215 ⟨g213, rfl, rfl⟩ S215 a215 F215
                      refine op_sq F215 (s_app rfl Try.underlying24 7 _ tin80 rfl rfl (F215.e (.slice De k de)) S215.p4 ([Value.bool false, .string xs[k], .string ⟨#[49, 46, 48, 46, 48]⟩, .string ⟨#[]⟩, .string ⟨#[]⟩, .slice none 0 0, .string ⟨#[]⟩]) (F215.e (.slice (some ⟨g213, 0, none⟩) 1 1)) ((S215.bk 0 rfl).sl (by simp)) rfl (by simp [Value.oneCell']) (by omega) (by omega) (n' := k + 1) (by omega) (cs' := flatC Ty80.cells ((xs.take (k + 1)).map dpd)) (dpd_takeS hlt_k2 rfl)) ?_
                      rintro _ _ w217 ⟨A216, c216, rfl, rfl⟩ S217 a217 F217
                      refine op_q F217 (.pointer (some ⟨g53, 1, none⟩)) ?_; intro a218 F218
                      refine op_q F218 (.pointer (some ⟨g53, 15, none⟩)) ?_; intro a219 F219
                      refine op_sq0 F219 (s_st rfl (F219.e (.pointer (some ⟨g53, 15, none⟩))) (F219.e (.slice A216 (k + 1) c216)) S217.p2 (by kernel_rfl) rfl rfl rfl (cs := #[.bool false, .string ⟨#[112]⟩, .string ⟨#[]⟩, .string ⟨#[]⟩, .string ⟨#[]⟩, .string ⟨#[]⟩, .string ⟨#[]⟩, .string ⟨#[]⟩, .string ⟨#[]⟩, .string ⟨#[]⟩, .string ⟨#[]⟩, .string ⟨#[]⟩, .slice none 0 0, .slice none 0 0, .slice none 0 0, .slice A216 (k + 1) c216, .slice none 0 0, .slice none 0 0]) (by kernel_rfl)) ?_
                      rintro _ _ w220 rfl S220 F220
                      refine wpList_nil ?_
                      refine hK73 _ _ ?_; clear hK73 K73
                      refine wp_region_lit ?_
                      refine op_rq (v := .int .i64 (↑(k + 1))) F220 (r_add (z := ↑(k + 1)) rfl (F220.e (.int .i64 (↑k))) (F220.e (.int .i64 1)) (wr64 (by omega) (by omega) (by omega))) ?_; intro a221 F221
                      refine op_q F221 (.int .i64 (↑(k + 1))) ?_; intro a222 F222
                      refine wpList_nil ?_
                      exact hK67 _ _ _ (by first | omega | (simp; omega)) ⟨Tw, tw, tws, Mi, mi, mis, A216, c216, k + 1, rfl, (F222.kk 0 (F222.kk 1 (F222.kk 5 (F222.kk 6 (F222.kk 7 (F222.kk 8 (F222.kk 36 (F222.kk 37 (F222.kk 38 F222.nil))))))))), S220.p2.drop.p1.p3.p3.p3, (by first | omega | (with_reducible assumption) | (simp; done)), (by have ho : oneOf xs[k] (xs.take k) = false := (by rw [cnt_one, ← hn]; first | (simp at hc142 ⊢; done) | (simp at hc142 ⊢; omega)); rw [dup_take hlt_k2, ← htw, ho]; exact (List.append_nil _).symm), (by rw [only_take hlt_k2, ← hmi, hc206]; exact (List.append_nil _).symm), (small_snoc hlt_k2 hsm hc124)⟩
                    · have F223 := F205.sb 72 (by kernel_rfl) hc206
                      have F224 := F223.sb 73 (by kernel_rfl) (show (!(oneOf xs[k] ys)) = true by rw [hc206]; rfl)
                      refine wp_cond_true (F224.ev (by kernel_rfl)) ?_
                      refine wp_region_lit ?_
                      refine op_q F224 (.slice Mi mis.length mi) ?_; intro a225 F225
                      refine op_q F225 (.string xs[k]) ?_; intro a226 F226
                      refine op_sq F226 (s_news F226 9 #[.string xs[k]] 1 (by kernel_rfl) (by kernel_rfl) (by kernel_rfl) S120) ?_
                      rintro _ _ w228 ⟨g226, rfl, rfl⟩ S228 a228 F228
                      refine op_sq F228 (s_app rfl Try.underlying22 1 _ tin9 rfl rfl (F228.e (.slice Mi mis.length mi)) S228.p3 ([Value.string xs[k]]) (F228.e (.slice (some ⟨g226, 0, none⟩) 1 1)) ((S228.bk 0 rfl).sl (by simp)) rfl (by simp [Value.oneCell']) (by omega) (by omega) (n' := (mis ++ [xs[k]]).length) (by first | (simp; done) | (simp; omega)) (cs' := strs (mis ++ [xs[k]])) (by simp [strs])) ?_
                      rintro _ _ w230 ⟨A229, c229, rfl, rfl⟩ S230 a230 F230
                      refine op_q F230 (.slice A229 ((mis ++ [xs[k]]).length) c229) ?_; intro a231 F231
                      refine wpList_nil ?_
                      refine hK199 _ _ ?_; clear hK199 K199
                      refine wp_region_lit ?_
                      refine op_q F231 (.pointer (some ⟨g53, 1, none⟩)) ?_; intro a232 F232
                      refine op_q F232 (.pointer (some ⟨g53, 15, none⟩)) ?_; intro a233 F233
                      refine op_rq (v := .slice De k de) F233 (r_ld rfl (F233.e (.pointer (some ⟨g53, 15, none⟩))) (v := .slice De k de) ((S230.bk 2 rfl).cell 15) Try.underlying24 rfl) ?_; intro a234 F234
                      refine op_q F234 (.string xs[k]) ?_; intro a235 F235
                      refine op_q F235 (.agg #[.bool false, .string xs[k], .string ⟨#[49, 46, 48, 46, 48]⟩, .string ⟨#[]⟩, .string ⟨#[]⟩, .slice none 0 0, .string ⟨#[]⟩]) ?_; intro a236 F236
                      refine op_sq F236 (s_news F236 80 #[.bool false, .string xs[k], .string ⟨#[49, 46, 48, 46, 48]⟩, .string ⟨#[]⟩, .string ⟨#[]⟩, .slice none 0 0, .string ⟨#[]⟩] 1 (by kernel_rfl) (by kernel_rfl) (by kernel_rfl) S230) ?_
                      rintro _ _ w238 ⟨g236, rfl, rfl⟩ S238 a238 F238
                      refine op_sq F238 (s_app rfl Try.underlying24 7 _ tin80 rfl rfl (F238.e (.slice De k de)) S238.p5 ([Value.bool false, .string xs[k], .string ⟨#[49, 46, 48, 46, 48]⟩, .string ⟨#[]⟩, .string ⟨#[]⟩, .slice none 0 0, .string ⟨#[]⟩]) (F238.e (.slice (some ⟨g236, 0, none⟩) 1 1)) ((S238.bk 0 rfl).sl (by simp)) rfl (by simp [Value.oneCell']) (by omega) (by omega) (n' := k + 1) (by omega) (cs' := flatC Ty80.cells ((xs.take (k + 1)).map dpd)) (dpd_takeS hlt_k2 rfl)) ?_
                      rintro _ _ w240 ⟨A239, c239, rfl, rfl⟩ S240 a240 F240
                      refine op_q F240 (.pointer (some ⟨g53, 1, none⟩)) ?_; intro a241 F241
                      refine op_q F241 (.pointer (some ⟨g53, 15, none⟩)) ?_; intro a242 F242
                      refine op_sq0 F242 (s_st rfl (F242.e (.pointer (some ⟨g53, 15, none⟩))) (F242.e (.slice A239 (k + 1) c239)) S240.p4 (by kernel_rfl) rfl rfl rfl (cs := #[.bool false, .string ⟨#[112]⟩, .string ⟨#[]⟩, .string ⟨#[]⟩, .string ⟨#[]⟩, .string ⟨#[]⟩, .string ⟨#[]⟩, .string ⟨#[]⟩, .string ⟨#[]⟩, .string ⟨#[]⟩, .string ⟨#[]⟩, .string ⟨#[]⟩, .slice none 0 0, .slice none 0 0, .slice none 0 0, .slice A239 (k + 1) c239, .slice none 0 0, .slice none 0 0]) (by kernel_rfl)) ?_
                      rintro _ _ w243 rfl S243 F243
                      refine wpList_nil ?_
                      refine hK73 _ _ ?_; clear hK73 K73
                      refine wp_region_lit ?_
                      refine op_rq (v := .int .i64 (↑(k + 1))) F243 (r_add (z := ↑(k + 1)) rfl (F243.e (.int .i64 (↑k))) (F243.e (.int .i64 1)) (wr64 (by omega) (by omega) (by omega))) ?_; intro a244 F244
                      refine op_q F244 (.int .i64 (↑(k + 1))) ?_; intro a245 F245
                      refine wpList_nil ?_
                      exact hK67 _ _ _ (by first | omega | (simp; omega)) ⟨Tw, tw, tws, A229, c229, (mis ++ [xs[k]]), A239, c239, k + 1, rfl, (F245.kk 0 (F245.kk 1 (F245.kk 5 (F245.kk 6 (F245.kk 7 (F245.kk 8 (F245.kk 36 (F245.kk 37 (F245.kk 38 F245.nil))))))))), S243.p2.drop.p3.drop.p1.p2.p3.p3, (by first | omega | (with_reducible assumption) | (simp; done)), (by have ho : oneOf xs[k] (xs.take k) = false := (by rw [cnt_one, ← hn]; first | (simp at hc142 ⊢; done) | (simp at hc142 ⊢; omega)); rw [dup_take hlt_k2, ← htw, ho]; exact (List.append_nil _).symm), (by rw [only_take hlt_k2, ← hmi, hc206]; rfl), (small_snoc hlt_k2 hsm hc124)⟩
              · have F246 := F123.sb 58 (by kernel_rfl) hc124
                have F247 := F246.sb 59 (by kernel_rfl) (show (!(smallB xs[k])) = true by rw [hc124]; rfl)
                have F248 := F247.sb 60 (by kernel_rfl) (show (!(smallB xs[k])) = true by rw [hc124]; rfl)
                refine op_kq F248 ?_; intro a249 F249
                refine op_kq F249 ?_; intro a250 F250
                refine op_q F250 (.bool true) ?_; intro a251 F251
                refine wpList_nil ?_
                refine hK118 _ _ ?_; clear hK118 K118
                refine wp_cond_true (F251.ev (by kernel_rfl)) ?_
                refine wp_seq_k fun K252 hK252 => ?_
                refine wp_region_lit ?_
                refine op_q F251 (.bool true) ?_; intro a253 F253
                refine wpList_nil ?_
                refine hK252 _ _ ?_; clear hK252 K252
                refine wp_ret ?_
                refine ret_then ?_
                refine ret_in ?_
                refine ret_then ?_
                refine ret_then ?_
                refine ret_in ?_
                refine ret_then ?_
                refine (F253.res1 rfl (v := .bool true) (by kernel_rfl) ?_).1
                exact ⟨rfl, S120.drop.drop.drop.drop⟩
          · have hc_k : decide ((↑k : Int) < ↑xs.length) = false := by first | (simp; done) | (simp; omega)
            obtain rfl : k = xs.length := by omega
            rw [List.take_length] at htw hmi hsm
            rw [List.take_length] at S67
            refine wp_seq_k fun K254 hK254 => ?_
            refine wp_region_lit ?_
            refine op_q F67 (.bool (decide ((↑xs.length : Int) < ↑xs.length))) ?_; intro a255 F255
            have F256 := F255.sb 39 (by kernel_rfl) hc_k
            refine wpList_nil ?_
            refine hK254 _ _ ?_; clear hK254 K254
            refine wp_seq_k fun K257 hK257 => ?_
            refine wp_cond_false (F256.ev (by kernel_rfl)) ?_
            refine wp_exit ?_
            refine ex_then ?_; clear hK257 K257
            refine ex_then ?_
            refine ex_in ?_
            refine hK61 _ _ ?_; clear hK61 K61
            refine wp_seq_k fun K258 hK258 => ?_
            refine wp_seq_k fun K259 hK259 => ?_
            refine wp_region_lit ?_
            refine op_q F256 (.slice (B) (ys.length) (d)) ?_; intro a260 F260
            refine op_q F260 (.int .i64 (↑ys.length)) ?_; intro a261 F261
            refine op_q F261 (.int .i64 0) ?_; intro a262 F262
            refine wpList_nil ?_
            refine hK259 _ _ ?_; clear hK259 K259
            refine wp_block ?_
            have S263 : Sp R w67 (SA.own (.slice none 0 0) 9 1 (([] : List ByteArray).length) (strs []) :: SA.own (.slice none 0 0) 30 18 0 (flatC leafC (ys.take 0)) :: SA.blk g53 30 #[.bool false, .string ⟨#[112]⟩, .string ⟨#[]⟩, .string ⟨#[]⟩, .string ⟨#[]⟩, .string ⟨#[]⟩, .string ⟨#[]⟩, .string ⟨#[]⟩, .string ⟨#[]⟩, .string ⟨#[]⟩, .string ⟨#[]⟩, .string ⟨#[]⟩, .slice none 0 0, .slice none 0 0, .slice none 0 0, .slice De xs.length de, .slice none 0 0, .slice none 0 0] :: SA.own (.slice Tw tws.length tw) 9 1 tws.length (strs tws) :: SA.own (.slice Mi mis.length mi) 9 1 mis.length (strs mis) :: SA.own (.slice De xs.length de) 80 7 xs.length (flatC Ty80.cells (xs.map dpd)) :: L) := Sp.nilown (e := 9) (sz := 1) (Sp.nilown (e := 30) (sz := 18) S67)
            refine fw_loop (fun m' a' w' => ∃ On : Option Addr, ∃ on : Nat, ∃ ons : List ByteArray, ∃ Dp : Option Addr, ∃ dp : Nat, ∃ j : Nat, ys.length - j = m' ∧ Fr 140 [] a' [(0, .slice (A) (xs.length) (c)), (1, .slice (B) (ys.length) (d)), (5, .pointer (some ⟨g53, 0, none⟩)), (6, .slice On ons.length on), (7, .slice Tw tws.length tw), (8, .slice Mi mis.length mi), (88, .slice (B) (ys.length) (d)), (89, .int .i64 (↑ys.length)), (90, .int .i64 (↑j))] ∧ Sp R w' (SA.blk g53 30 #[.bool false, .string ⟨#[112]⟩, .string ⟨#[]⟩, .string ⟨#[]⟩, .string ⟨#[]⟩, .string ⟨#[]⟩, .string ⟨#[]⟩, .string ⟨#[]⟩, .string ⟨#[]⟩, .string ⟨#[]⟩, .string ⟨#[]⟩, .string ⟨#[]⟩, .slice none 0 0, .slice none 0 0, .slice none 0 0, .slice De xs.length de, .slice none 0 0, .slice Dp j dp] :: SA.own (.slice On ons.length on) 9 1 ons.length (strs ons) :: SA.own (.slice Dp j dp) 30 18 j (flatC leafC (ys.take j)) :: SA.own (.slice Tw tws.length tw) 9 1 tws.length (strs tws) :: SA.own (.slice Mi mis.length mi) 9 1 mis.length (strs mis) :: SA.own (.slice De xs.length de) 80 7 xs.length (flatC Ty80.cells (xs.map dpd)) :: L) ∧ (j ≤ ys.length) ∧ (ons = onlyF (ys.take j) xs) ∧ (∀ x ∈ ys.take j, x.size ≤ 10)) _ ⟨none, 0, [], none, 0, 0, rfl, (F262.kk 0 (F262.kk 1 (F262.kk 5 (F262.kk 6 (F262.kk 7 (F262.kk 8 (F262.kk 88 (F262.kk 89 (F262.kk 90 F262.nil))))))))), S263.p5.p5.p5.p4.p4.p5, (by first | omega | (with_reducible assumption) | (simp; done)), rfl, (fun x hx => by cases hx)⟩ ?_
            rintro m264 a264 w264 ⟨On, on, ons, Dp, dp, j, hm264, F264, S264, hj, hon, hsy⟩ K264 hK264
            by_cases hlt_j : j < ys.length
            · have hc_j : decide ((↑j : Int) < ↑ys.length) = true := by first | (simp; done) | (simp; omega)
              obtain ⟨ad265, hA265⟩ := (h1 _ S264.drop.drop.drop.drop.drop.drop).addr (by simp [strs]; omega)
              have hlt_j2 : j < ys.length := by omega
              have hjz := hfy _ (List.getElem_mem hlt_j2)
              have hol : ons.length ≤ 8 := by have := only_len (ys := ys.take j) (xs := xs); rw [← hon, List.length_take] at this; omega
              refine wp_seq_k fun K266 hK266 => ?_
              refine wp_region_lit ?_
              refine op_q F264 (.bool (decide ((↑j : Int) < ↑ys.length))) ?_; intro a267 F267
              have F268 := F267.sb 91 (by kernel_rfl) hc_j
              refine wpList_nil ?_
              refine hK266 _ _ ?_; clear hK266 K266
              refine wp_seq_k fun K269 hK269 => ?_
              refine wp_cond_true (F268.ev (by kernel_rfl)) ?_
              refine wp_skip ?_
              refine hK269 _ _ ?_; clear hK269 K269
              refine wp_seq_k fun K270 hK270 => ?_
              refine wp_block ?_
              refine wp_seq_k fun K271 hK271 => ?_
              refine wp_region_lit ?_
              refine op_q F268 (.int .i64 (↑j)) ?_; intro a272 F272
              refine op_rq (v := .pointer (some (ad265.add j))) F272 (r_ix rfl Try.underlying22 1 (by kernel_rfl) (F272.e (.slice (B) (ys.length) (d))) hA265 (F272.e (.int .i64 (↑j))) j (by first | rfl | omega | simp) (by first | omega | (simp; done) | (simp; omega)) (by simp only [Nat.mul_one])) ?_; intro a273 F273
              refine op_rq (v := .string ys[j]) F273 (r_ld rfl (F273.e (.pointer (some (ad265.add j)))) (v := .string ys[j]) ((h1 _ S264.drop.drop.drop.drop.drop.drop).elA hA265 (j := j) (by simp only [strs, List.getElem?_map, List.getElem?_eq_getElem hlt_j]; rfl)) Try.underlying9 rfl) ?_; intro a274 F274
              refine op_q F274 (.int .i64 (↑j)) ?_; intro a275 F275
              refine op_q F275 (.string ys[j]) ?_; intro a276 F276
              refine wpList_nil ?_
              refine hK271 _ _ ?_; clear hK271 K271
              refine wp_seq_k fun K277 hK277 => ?_
              refine wp_seq_k fun K278 hK278 => ?_
              refine wp_region_lit ?_
              refine op_q F276 (.string ys[j]) ?_; intro a279 F279
              refine op_cq F279 (f := 40) (args := #[.string ys[j]]) (hlSmall_any ys[j] _ _ _ S264 (by first | omega | (simp; done) | (simp; omega))) ?_
              rintro _ w280 ⟨rfl, S280⟩
              refine ⟨_, rfl, ?_⟩
              intro a281 F281
              refine op_q F281 (.bool (!(smallB ys[j]))) ?_; intro a282 F282
              refine op_q F282 (.bool (!(smallB ys[j]))) ?_; intro a283 F283
              rcases btf (smallB ys[j]) with hc284 | hc284
              · have F285 := F283.sb 96 (by kernel_rfl) hc284
                have F286 := F285.sb 97 (by kernel_rfl) (show (!(smallB ys[j])) = false by rw [hc284]; rfl)
                have F287 := F286.sb 98 (by kernel_rfl) (show (!(smallB ys[j])) = false by rw [hc284]; rfl)
                refine op_wq F287 ?_
                refine op_q F287 (.string ys[j]) ?_; intro a288 F288
                refine op_wq F288 ?_
                refine op_q F288 (.slice (B) (ys.length) (d)) ?_; intro a289 F289
                refine op_wq F289 ?_
                refine op_q F289 (.int .i64 (↑j)) ?_; intro a290 F290
                refine op_wq F290 ?_
                refine op_rq (v := .slice (B) j d) F290 (r_slch rfl Try.underlying22 1 (by kernel_rfl) (F290.e (.slice (B) (ys.length) (d))) (F290.e (.int .i64 (↑j))) j rfl (by omega)) ?_; intro a291 F291
                refine op_wq F291 ?_
                refine op_cq F291 (f := 41) (args := #[.string ys[j], .slice (B) j d]) (oneOf_take ys[j] B d ys j _ (h1 _ S280.drop.drop.drop.drop.drop.drop) (by first | omega | (simp; done) | (simp; omega))) ?_
                rintro _ _ ⟨rfl, rfl⟩
                refine ⟨_, rfl, ?_⟩
                intro a293 F293
                refine op_q F293 (.bool (oneOf ys[j] (ys.take j))) ?_; intro a294 F294
                refine wpList_nil ?_
                refine hK278 _ _ ?_; clear hK278 K278
                rcases btf (oneOf ys[j] (ys.take j)) with hc295 | hc295
                · have F296 := F294.sb 103 (by kernel_rfl) hc295
                  have F297 := F296.sb 104 (by kernel_rfl) hc295
                  refine wp_cond_true (F297.ev (by kernel_rfl)) ?_
                  refine wp_seq_k fun K298 hK298 => ?_
                  refine wp_region_lit ?_
                  refine op_q F297 (.bool true) ?_; intro a299 F299
                  refine wpList_nil ?_
                  refine hK298 _ _ ?_; clear hK298 K298
                  refine wp_ret ?_
                  refine ret_then ?_
                  refine ret_in ?_
                  refine ret_then ?_
                  refine ret_then ?_
                  refine ret_in ?_
                  refine ret_then ?_
                  refine (F299.res1 rfl (v := .bool true) (by kernel_rfl) ?_).1
                  exact ⟨rfl, S280.drop.drop.drop.drop.drop.drop⟩
                · have F300 := F294.sb 103 (by kernel_rfl) hc295
                  have F301 := F300.sb 104 (by kernel_rfl) hc295
                  refine wp_cond_false (F301.ev (by kernel_rfl)) ?_
                  refine wp_skip ?_
                  refine hK277 _ _ ?_; clear hK277 K277
                  refine wp_seq_k fun K302 hK302 => ?_
                  refine wp_seq_k fun K303 hK303 => ?_
                  refine wp_region_lit ?_
                  refine op_q F301 (.string ys[j]) ?_; intro a304 F304
                  refine op_q F304 (.slice (A) (xs.length) (c)) ?_; intro a305 F305
                  refine op_cq F305 (f := 41) (args := #[.string ys[j], .slice (A) (xs.length) (c)]) (oneOf_any ys[j] A c xs _ (h0 _ S280.drop.drop.drop.drop.drop.drop)) ?_
                  rintro _ _ ⟨rfl, rfl⟩
                  refine ⟨_, rfl, ?_⟩
                  intro a307 F307
                  refine op_q F307 (.bool (!(oneOf ys[j] xs))) ?_; intro a308 F308
                  refine wpList_nil ?_
                  refine hK303 _ _ ?_; clear hK303 K303
                  rcases btf (oneOf ys[j] xs) with hc309 | hc309
                  · have F310 := F308.sb 107 (by kernel_rfl) hc309
                    have F311 := F310.sb 108 (by kernel_rfl) (show (!(oneOf ys[j] xs)) = false by rw [hc309]; rfl)
                    refine wp_cond_false (F311.ev (by kernel_rfl)) ?_
                    refine wp_skip ?_
                    refine hK302 _ _ ?_; clear hK302 K302
                    refine wp_region_lit ?_
                    refine op_q F311 (.pointer (some ⟨g53, 17, none⟩)) ?_; intro a312 F312
                    refine op_rq (v := .slice Dp j dp) F312 (r_ld rfl (F312.e (.pointer (some ⟨g53, 17, none⟩))) (v := .slice Dp j dp) ((S280.bk 0 rfl).cell 17) Try.underlying28 rfl) ?_; intro a313 F313
                    refine op_q F313 (.string ys[j]) ?_; intro a314 F314
                    refine op_q F314 (.agg #[.string ys[j], .string ⟨#[]⟩, .string ⟨#[49, 46, 48, 46, 48]⟩, .string ⟨#[]⟩, .string ⟨#[]⟩, .string ⟨#[]⟩, .string ⟨#[]⟩, .string ⟨#[]⟩, .string ⟨#[]⟩, .string ⟨#[]⟩, .string ⟨#[]⟩, .slice none 0 0, .slice none 0 0, .slice none 0 0, .slice none 0 0]) ?_; intro a315 F315
                    refine op_q F315 (.agg #[.bool false, .string ys[j], .string ⟨#[]⟩, .string ⟨#[49, 46, 48, 46, 48]⟩, .string ⟨#[]⟩, .string ⟨#[]⟩, .string ⟨#[]⟩, .string ⟨#[]⟩, .string ⟨#[]⟩, .string ⟨#[]⟩, .string ⟨#[]⟩, .string ⟨#[]⟩, .slice none 0 0, .slice none 0 0, .slice none 0 0, .slice none 0 0, .slice none 0 0, .slice none 0 0]) ?_; intro a316 F316
                    refine op_sq F316 (s_news F316 30 #[.bool false, .string ys[j], .string ⟨#[]⟩, .string ⟨#[49, 46, 48, 46, 48]⟩, .string ⟨#[]⟩, .string ⟨#[]⟩, .string ⟨#[]⟩, .string ⟨#[]⟩, .string ⟨#[]⟩, .string ⟨#[]⟩, .string ⟨#[]⟩, .string ⟨#[]⟩, .slice none 0 0, .slice none 0 0, .slice none 0 0, .slice none 0 0, .slice none 0 0, .slice none 0 0] 1 (by kernel_rfl) (by kernel_rfl) (by kernel_rfl) S280) ?_
                    rintro _ _ w318 ⟨g316, rfl, rfl⟩ S318 a318 F318
                    refine op_sq F318 (s_app rfl Try.underlying28 18 _ tin30 rfl rfl (F318.e (.slice Dp j dp)) S318.p3 ([Value.bool false, .string ys[j], .string ⟨#[]⟩, .string ⟨#[49, 46, 48, 46, 48]⟩, .string ⟨#[]⟩, .string ⟨#[]⟩, .string ⟨#[]⟩, .string ⟨#[]⟩, .string ⟨#[]⟩, .string ⟨#[]⟩, .string ⟨#[]⟩, .string ⟨#[]⟩, .slice none 0 0, .slice none 0 0, .slice none 0 0, .slice none 0 0, .slice none 0 0, .slice none 0 0]) (F318.e (.slice (some ⟨g316, 0, none⟩) 1 1)) ((S318.bk 0 rfl).sl (by simp)) rfl (by simp [Value.oneCell']) (by omega) (by omega) (n' := j + 1) (by omega) (cs' := flatC leafC (ys.take (j + 1))) (flatC_takeS hlt_j2 rfl)) ?_
                    rintro _ _ w320 ⟨A319, c319, rfl, rfl⟩ S320 a320 F320
                    refine op_q F320 (.pointer (some ⟨g53, 17, none⟩)) ?_; intro a321 F321
                    refine op_sq0 F321 (s_st rfl (F321.e (.pointer (some ⟨g53, 17, none⟩))) (F321.e (.slice A319 (j + 1) c319)) S320.p2 (by kernel_rfl) rfl rfl rfl (cs := #[.bool false, .string ⟨#[112]⟩, .string ⟨#[]⟩, .string ⟨#[]⟩, .string ⟨#[]⟩, .string ⟨#[]⟩, .string ⟨#[]⟩, .string ⟨#[]⟩, .string ⟨#[]⟩, .string ⟨#[]⟩, .string ⟨#[]⟩, .string ⟨#[]⟩, .slice none 0 0, .slice none 0 0, .slice none 0 0, .slice De xs.length de, .slice none 0 0, .slice A319 (j + 1) c319]) (by kernel_rfl)) ?_
                    rintro _ _ w322 rfl S322 F322
                    refine wpList_nil ?_
                    refine hK270 _ _ ?_; clear hK270 K270
                    refine wp_region_lit ?_
                    refine op_rq (v := .int .i64 (↑(j + 1))) F322 (r_add (z := ↑(j + 1)) rfl (F322.e (.int .i64 (↑j))) (F322.e (.int .i64 1)) (wr64 (by omega) (by omega) (by omega))) ?_; intro a323 F323
                    refine op_q F323 (.int .i64 (↑(j + 1))) ?_; intro a324 F324
                    refine wpList_nil ?_
                    exact hK264 _ _ _ (by first | omega | (simp; omega)) ⟨On, on, ons, A319, c319, j + 1, rfl, (F324.kk 0 (F324.kk 1 (F324.kk 5 (F324.kk 6 (F324.kk 7 (F324.kk 8 (F324.kk 88 (F324.kk 89 (F324.kk 90 F324.nil))))))))), S322.p2.drop.p5.p5.p5.p4.p5.p5, (by first | omega | (with_reducible assumption) | (simp; done)), (by rw [only_take hlt_j2, ← hon, hc309]; exact (List.append_nil _).symm), (small_snoc hlt_j2 hsy hc284)⟩
                  · have F325 := F308.sb 107 (by kernel_rfl) hc309
                    have F326 := F325.sb 108 (by kernel_rfl) (show (!(oneOf ys[j] xs)) = true by rw [hc309]; rfl)
                    refine wp_cond_true (F326.ev (by kernel_rfl)) ?_
                    refine wp_region_lit ?_
                    refine op_q F326 (.slice On ons.length on) ?_; intro a327 F327
                    refine op_q F327 (.string ys[j]) ?_; intro a328 F328
                    refine op_sq F328 (s_news F328 9 #[.string ys[j]] 1 (by kernel_rfl) (by kernel_rfl) (by kernel_rfl) S280) ?_
                    rintro _ _ w330 ⟨g328, rfl, rfl⟩ S330 a330 F330
                    refine op_sq F330 (s_app rfl Try.underlying22 1 _ tin9 rfl rfl (F330.e (.slice On ons.length on)) S330.p2 ([Value.string ys[j]]) (F330.e (.slice (some ⟨g328, 0, none⟩) 1 1)) ((S330.bk 0 rfl).sl (by simp)) rfl (by simp [Value.oneCell']) (by omega) (by omega) (n' := (ons ++ [ys[j]]).length) (by first | (simp; done) | (simp; omega)) (cs' := strs (ons ++ [ys[j]])) (by simp [strs])) ?_
                    rintro _ _ w332 ⟨A331, c331, rfl, rfl⟩ S332 a332 F332
                    refine op_q F332 (.slice A331 ((ons ++ [ys[j]]).length) c331) ?_; intro a333 F333
                    refine wpList_nil ?_
                    refine hK302 _ _ ?_; clear hK302 K302
                    refine wp_region_lit ?_
                    refine op_q F333 (.pointer (some ⟨g53, 17, none⟩)) ?_; intro a334 F334
                    refine op_rq (v := .slice Dp j dp) F334 (r_ld rfl (F334.e (.pointer (some ⟨g53, 17, none⟩))) (v := .slice Dp j dp) ((S332.bk 2 rfl).cell 17) Try.underlying28 rfl) ?_; intro a335 F335
                    refine op_q F335 (.string ys[j]) ?_; intro a336 F336
                    refine op_q F336 (.agg #[.string ys[j], .string ⟨#[]⟩, .string ⟨#[49, 46, 48, 46, 48]⟩, .string ⟨#[]⟩, .string ⟨#[]⟩, .string ⟨#[]⟩, .string ⟨#[]⟩, .string ⟨#[]⟩, .string ⟨#[]⟩, .string ⟨#[]⟩, .string ⟨#[]⟩, .slice none 0 0, .slice none 0 0, .slice none 0 0, .slice none 0 0]) ?_; intro a337 F337
                    refine op_q F337 (.agg #[.bool false, .string ys[j], .string ⟨#[]⟩, .string ⟨#[49, 46, 48, 46, 48]⟩, .string ⟨#[]⟩, .string ⟨#[]⟩, .string ⟨#[]⟩, .string ⟨#[]⟩, .string ⟨#[]⟩, .string ⟨#[]⟩, .string ⟨#[]⟩, .string ⟨#[]⟩, .slice none 0 0, .slice none 0 0, .slice none 0 0, .slice none 0 0, .slice none 0 0, .slice none 0 0]) ?_; intro a338 F338
                    refine op_sq F338 (s_news F338 30 #[.bool false, .string ys[j], .string ⟨#[]⟩, .string ⟨#[49, 46, 48, 46, 48]⟩, .string ⟨#[]⟩, .string ⟨#[]⟩, .string ⟨#[]⟩, .string ⟨#[]⟩, .string ⟨#[]⟩, .string ⟨#[]⟩, .string ⟨#[]⟩, .string ⟨#[]⟩, .slice none 0 0, .slice none 0 0, .slice none 0 0, .slice none 0 0, .slice none 0 0, .slice none 0 0] 1 (by kernel_rfl) (by kernel_rfl) (by kernel_rfl) S332) ?_
                    rintro _ _ w340 ⟨g338, rfl, rfl⟩ S340 a340 F340
                    refine op_sq F340 (s_app rfl Try.underlying28 18 _ tin30 rfl rfl (F340.e (.slice Dp j dp)) S340.p4 ([Value.bool false, .string ys[j], .string ⟨#[]⟩, .string ⟨#[49, 46, 48, 46, 48]⟩, .string ⟨#[]⟩, .string ⟨#[]⟩, .string ⟨#[]⟩, .string ⟨#[]⟩, .string ⟨#[]⟩, .string ⟨#[]⟩, .string ⟨#[]⟩, .string ⟨#[]⟩, .slice none 0 0, .slice none 0 0, .slice none 0 0, .slice none 0 0, .slice none 0 0, .slice none 0 0]) (F340.e (.slice (some ⟨g338, 0, none⟩) 1 1)) ((S340.bk 0 rfl).sl (by simp)) rfl (by simp [Value.oneCell']) (by omega) (by omega) (n' := j + 1) (by omega) (cs' := flatC leafC (ys.take (j + 1))) (flatC_takeS hlt_j2 rfl)) ?_
                    rintro _ _ w342 ⟨A341, c341, rfl, rfl⟩ S342 a342 F342
                    refine op_q F342 (.pointer (some ⟨g53, 17, none⟩)) ?_; intro a343 F343
                    refine op_sq0 F343 (s_st rfl (F343.e (.pointer (some ⟨g53, 17, none⟩))) (F343.e (.slice A341 (j + 1) c341)) S342.p4 (by kernel_rfl) rfl rfl rfl (cs := #[.bool false, .string ⟨#[112]⟩, .string ⟨#[]⟩, .string ⟨#[]⟩, .string ⟨#[]⟩, .string ⟨#[]⟩, .string ⟨#[]⟩, .string ⟨#[]⟩, .string ⟨#[]⟩, .string ⟨#[]⟩, .string ⟨#[]⟩, .string ⟨#[]⟩, .slice none 0 0, .slice none 0 0, .slice none 0 0, .slice De xs.length de, .slice none 0 0, .slice A341 (j + 1) c341]) (by kernel_rfl)) ?_
                    rintro _ _ w344 rfl S344 F344
                    refine wpList_nil ?_
                    refine hK270 _ _ ?_; clear hK270 K270
                    refine wp_region_lit ?_
                    refine op_rq (v := .int .i64 (↑(j + 1))) F344 (r_add (z := ↑(j + 1)) rfl (F344.e (.int .i64 (↑j))) (F344.e (.int .i64 1)) (wr64 (by omega) (by omega) (by omega))) ?_; intro a345 F345
                    refine op_q F345 (.int .i64 (↑(j + 1))) ?_; intro a346 F346
                    refine wpList_nil ?_
                    exact hK264 _ _ _ (by first | omega | (simp; omega)) ⟨A331, c331, (ons ++ [ys[j]]), A341, c341, j + 1, rfl, (F346.kk 0 (F346.kk 1 (F346.kk 5 (F346.kk 6 (F346.kk 7 (F346.kk 8 (F346.kk 88 (F346.kk 89 (F346.kk 90 F346.nil))))))))), S344.p2.drop.p3.drop.p5.p5.p5.p4.p5.p5, (by first | omega | (with_reducible assumption) | (simp; done)), (by rw [only_take hlt_j2, ← hon, hc309]; rfl), (small_snoc hlt_j2 hsy hc284)⟩
              · have F347 := F283.sb 96 (by kernel_rfl) hc284
                have F348 := F347.sb 97 (by kernel_rfl) (show (!(smallB ys[j])) = true by rw [hc284]; rfl)
                have F349 := F348.sb 98 (by kernel_rfl) (show (!(smallB ys[j])) = true by rw [hc284]; rfl)
                refine op_kq F349 ?_; intro a350 F350
                refine op_kq F350 ?_; intro a351 F351
                refine op_kq F351 ?_; intro a352 F352
                refine op_kq F352 ?_; intro a353 F353
                refine op_kq F353 ?_; intro a354 F354
                refine op_q F354 (.bool true) ?_; intro a355 F355
                refine wpList_nil ?_
                refine hK278 _ _ ?_; clear hK278 K278
                refine wp_cond_true (F355.ev (by kernel_rfl)) ?_
                refine wp_seq_k fun K356 hK356 => ?_
                refine wp_region_lit ?_
                refine op_q F355 (.bool true) ?_; intro a357 F357
                refine wpList_nil ?_
                refine hK356 _ _ ?_; clear hK356 K356
                refine wp_ret ?_
                refine ret_then ?_
                refine ret_in ?_
                refine ret_then ?_
                refine ret_then ?_
                refine ret_in ?_
                refine ret_then ?_
                refine (F357.res1 rfl (v := .bool true) (by kernel_rfl) ?_).1
                exact ⟨rfl, S280.drop.drop.drop.drop.drop.drop⟩
            · have hc_j : decide ((↑j : Int) < ↑ys.length) = false := by first | (simp; done) | (simp; omega)
              obtain rfl : j = ys.length := by omega
              rw [List.take_length] at hon hsy
              rw [List.take_length] at S264
              have hol : ons.length ≤ 8 := by have := only_len (ys := ys) (xs := xs); rw [← hon] at this; omega
              have htl : tws.length ≤ 8 := by have := dup_len xs []; rw [← htw] at this; omega
              have hml : mis.length ≤ 8 := by have := only_len (ys := xs) (xs := ys); rw [← hmi] at this; omega
              have hoz : ∀ x ∈ ons, x.size ≤ 10 := by rw [hon]; exact only_mem hsy
              have htz : ∀ x ∈ tws, x.size ≤ 10 := by rw [htw]; exact dup_mem _ _ hsm
              have hmz : ∀ x ∈ mis, x.size ≤ 10 := by rw [hmi]; exact only_mem hsm
              refine wp_seq_k fun K358 hK358 => ?_
              refine wp_region_lit ?_
              refine op_q F264 (.bool (decide ((↑ys.length : Int) < ↑ys.length))) ?_; intro a359 F359
              have F360 := F359.sb 91 (by kernel_rfl) hc_j
              refine wpList_nil ?_
              refine hK358 _ _ ?_; clear hK358 K358
              refine wp_seq_k fun K361 hK361 => ?_
              refine wp_cond_false (F360.ev (by kernel_rfl)) ?_
              refine wp_exit ?_
              refine ex_then ?_; clear hK361 K361
              refine ex_then ?_
              refine ex_in ?_
              refine hK258 _ _ ?_; clear hK258 K258
              refine wp_seq_k fun K362 hK362 => ?_
              refine wp_region_lit ?_
              refine op_rq (v := .agg #[.bool false, .string ⟨#[112]⟩, .string ⟨#[]⟩, .string ⟨#[]⟩, .string ⟨#[]⟩, .string ⟨#[]⟩, .string ⟨#[]⟩, .string ⟨#[]⟩, .string ⟨#[]⟩, .string ⟨#[]⟩, .string ⟨#[]⟩, .string ⟨#[]⟩, .slice none 0 0, .slice none 0 0, .slice none 0 0, .slice De xs.length de, .slice none 0 0, .slice Dp ys.length dp]) F360 (r_ldm rfl (F360.e (.pointer (some ⟨g53, 0, none⟩))) (S264.bk 0 rfl) 18 (by kernel_rfl) Try.underlying30 rfl (by kernel_rfl) (v := #[.bool false, .string ⟨#[112]⟩, .string ⟨#[]⟩, .string ⟨#[]⟩, .string ⟨#[]⟩, .string ⟨#[]⟩, .string ⟨#[]⟩, .string ⟨#[]⟩, .string ⟨#[]⟩, .string ⟨#[]⟩, .string ⟨#[]⟩, .string ⟨#[]⟩, .slice none 0 0, .slice none 0 0, .slice none 0 0, .slice De xs.length de, .slice none 0 0, .slice Dp ys.length dp]) (by kernel_rfl)) ?_; intro a363 F363
              refine op_cq F363 (f := 43) (args := #[.agg #[.bool false, .string ⟨#[112]⟩, .string ⟨#[]⟩, .string ⟨#[]⟩, .string ⟨#[]⟩, .string ⟨#[]⟩, .string ⟨#[]⟩, .string ⟨#[]⟩, .string ⟨#[]⟩, .string ⟨#[]⟩, .string ⟨#[]⟩, .string ⟨#[]⟩, .slice none 0 0, .slice none 0 0, .slice none 0 0, .slice De xs.length de, .slice none 0 0, .slice Dp ys.length dp]]) (lintDeps_lit xs De de ys Dp dp _ _ _ S264 (fun w S => own_rowsT1 (S.ow 5 rfl) (by first | rfl | (simp; done) | omega) (by decide) (fun x => x.len) (by first | omega | (simp; omega))) (fun w S => own_rowsT1 (S.ow 2 rfl) (by first | rfl | (simp; done) | omega) (by decide) leafC_len (by first | omega | (simp; omega))) (by first | omega | (simp; done) | (simp; omega)) (by first | omega | (simp; done) | (simp; omega)) hsm hsy) ?_
              rintro _ w364 ⟨Ab364, cb364, rfl, S364⟩
              refine ⟨_, rfl, ?_⟩
              intro a365 F365
              refine op_q F365 (.tuple #[.slice Ab364 3 cb364, .int .i64 0]) ?_; intro a366 F366
              refine op_q F366 (.slice Ab364 3 cb364) ?_; intro a367 F367
              refine op_q F367 (.int .i64 0) ?_; intro a368 F368
              refine op_q F368 (.slice Ab364 3 cb364) ?_; intro a369 F369
              refine op_q F369 (.int .i64 0) ?_; intro a370 F370
              refine wpList_nil ?_
              refine hK362 _ _ ?_; clear hK362 K362
              refine wp_seq_k fun K371 hK371 => ?_
              refine wp_region_lit ?_
              refine op_q F370 (.int .i64 0) ?_; intro a372 F372
              refine op_q F372 (.bool true) ?_; intro a373 F373
              refine op_q F373 (.bool true) ?_; intro a374 F374
              refine op_wq F374 ?_
              refine op_q F374 (.slice Ab364 3 cb364) ?_; intro a375 F375
              refine op_wq F375 ?_
              refine op_q F375 (.slice On ons.length on) ?_; intro a376 F376
              refine op_wq F376 ?_
              refine op_cq F376 (f := 45) (args := #[.string ⟨#[99, 104, 97, 114, 116, 32, 109, 101, 116, 97, 100, 97, 116, 97, 32, 105, 115, 32, 109, 105, 115, 115, 105, 110, 103, 32, 116, 104, 101, 115, 101, 32, 100, 101, 112, 101, 110, 100, 101, 110, 99, 105, 101, 115, 58, 32]⟩, .slice On ons.length on]) (hlTold_sp ⟨#[99, 104, 97, 114, 116, 32, 109, 101, 116, 97, 100, 97, 116, 97, 32, 105, 115, 32, 109, 105, 115, 115, 105, 110, 103, 32, 116, 104, 101, 115, 101, 32, 100, 101, 112, 101, 110, 100, 101, 110, 99, 105, 101, 115, 58, 32]⟩ On on ons _ _ _ S364 (fun w S => own_sl1 (S.ow 2 rfl) (by first | omega | (simp; omega))) (by first | omega | (simp; done) | (simp; omega)) hoz (by decide)) ?_
              rintro _ w377 ⟨rfl, S377⟩
              refine ⟨_, rfl, ?_⟩
              intro a378 F378
              refine op_wq F378 ?_
              refine op_q F378 (.slice Tw tws.length tw) ?_; intro a379 F379
              refine op_wq F379 ?_
              refine op_cq F379 (f := 45) (args := #[.string ⟨#[109, 117, 108, 116, 105, 112, 108, 101, 32, 100, 101, 112, 101, 110, 100, 101, 110, 99, 105, 101, 115, 32, 119, 105, 116, 104, 32, 110, 97, 109, 101, 32, 111, 114, 32, 97, 108, 105, 97, 115, 58, 32]⟩, .slice Tw tws.length tw]) (hlTold_sp ⟨#[109, 117, 108, 116, 105, 112, 108, 101, 32, 100, 101, 112, 101, 110, 100, 101, 110, 99, 105, 101, 115, 32, 119, 105, 116, 104, 32, 110, 97, 109, 101, 32, 111, 114, 32, 97, 108, 105, 97, 115, 58, 32]⟩ Tw tw tws _ _ _ S377 (fun w S => own_sl1 (S.ow 4 rfl) (by first | omega | (simp; omega))) (by first | omega | (simp; done) | (simp; omega)) htz (by decide)) ?_
              rintro _ w380 ⟨rfl, S380⟩
              refine ⟨_, rfl, ?_⟩
              intro a381 F381
              refine op_wq F381 ?_
              refine op_q F381 (.slice Mi mis.length mi) ?_; intro a382 F382
              refine op_wq F382 ?_
              refine op_cq F382 (f := 45) (args := #[.string ⟨#[99, 104, 97, 114, 116, 32, 100, 105, 114, 101, 99, 116, 111, 114, 121, 32, 105, 115, 32, 109, 105, 115, 115, 105, 110, 103, 32, 116, 104, 101, 115, 101, 32, 100, 101, 112, 101, 110, 100, 101, 110, 99, 105, 101, 115, 58, 32]⟩, .slice Mi mis.length mi]) (hlTold_sp ⟨#[99, 104, 97, 114, 116, 32, 100, 105, 114, 101, 99, 116, 111, 114, 121, 32, 105, 115, 32, 109, 105, 115, 115, 105, 110, 103, 32, 116, 104, 101, 115, 101, 32, 100, 101, 112, 101, 110, 100, 101, 110, 99, 105, 101, 115, 58, 32]⟩ Mi mi mis _ _ _ S380 (fun w S => own_sl1 (S.ow 5 rfl) (by first | omega | (simp; omega))) (by first | omega | (simp; done) | (simp; omega)) hmz (by decide)) ?_
              rintro _ w383 ⟨rfl, S383⟩
              refine ⟨_, rfl, ?_⟩
              intro a384 F384
              refine op_wq F384 ?_
              refine op_sq F384 (s_news F384 9 #[.string (toldF ⟨#[99, 104, 97, 114, 116, 32, 109, 101, 116, 97, 100, 97, 116, 97, 32, 105, 115, 32, 109, 105, 115, 115, 105, 110, 103, 32, 116, 104, 101, 115, 101, 32, 100, 101, 112, 101, 110, 100, 101, 110, 99, 105, 101, 115, 58, 32]⟩ ons), .string (toldF ⟨#[109, 117, 108, 116, 105, 112, 108, 101, 32, 100, 101, 112, 101, 110, 100, 101, 110, 99, 105, 101, 115, 32, 119, 105, 116, 104, 32, 110, 97, 109, 101, 32, 111, 114, 32, 97, 108, 105, 97, 115, 58, 32]⟩ tws), .string (toldF ⟨#[99, 104, 97, 114, 116, 32, 100, 105, 114, 101, 99, 116, 111, 114, 121, 32, 105, 115, 32, 109, 105, 115, 115, 105, 110, 103, 32, 116, 104, 101, 115, 101, 32, 100, 101, 112, 101, 110, 100, 101, 110, 99, 105, 101, 115, 58, 32]⟩ mis)] 3 (by kernel_rfl) (by kernel_rfl) (by kernel_rfl) S383) ?_
              rintro _ _ w386 ⟨g384, rfl, rfl⟩ S386 a386 F386
              refine op_wq F386 ?_
              refine op_cq F386 (f := 44) (args := #[.slice Ab364 3 cb364, .slice (some ⟨g384, 0, none⟩) 3 3]) (hlSame_33 Ab364 cb364 ([toldF ⟨#[99, 104, 97, 114, 116, 32, 109, 101, 116, 97, 100, 97, 116, 97, 32, 105, 115, 32, 109, 105, 115, 115, 105, 110, 103, 32, 116, 104, 101, 115, 101, 32, 100, 101, 112, 101, 110, 100, 101, 110, 99, 105, 101, 115, 58, 32]⟩ (onlyF ys xs), toldF ⟨#[109, 117, 108, 116, 105, 112, 108, 101, 32, 100, 101, 112, 101, 110, 100, 101, 110, 99, 105, 101, 115, 32, 119, 105, 116, 104, 32, 110, 97, 109, 101, 32, 111, 114, 32, 97, 108, 105, 97, 115, 58, 32]⟩ (dupF [] xs), toldF ⟨#[99, 104, 97, 114, 116, 32, 100, 105, 114, 101, 99, 116, 111, 114, 121, 32, 105, 115, 32, 109, 105, 115, 115, 105, 110, 103, 32, 116, 104, 101, 115, 101, 32, 100, 101, 112, 101, 110, 100, 101, 110, 99, 105, 101, 115, 58, 32]⟩ (onlyF xs ys)]) (some ⟨g384, 0, none⟩) 3 ([(toldF ⟨#[99, 104, 97, 114, 116, 32, 109, 101, 116, 97, 100, 97, 116, 97, 32, 105, 115, 32, 109, 105, 115, 115, 105, 110, 103, 32, 116, 104, 101, 115, 101, 32, 100, 101, 112, 101, 110, 100, 101, 110, 99, 105, 101, 115, 58, 32]⟩ ons), (toldF ⟨#[109, 117, 108, 116, 105, 112, 108, 101, 32, 100, 101, 112, 101, 110, 100, 101, 110, 99, 105, 101, 115, 32, 119, 105, 116, 104, 32, 110, 97, 109, 101, 32, 111, 114, 32, 97, 108, 105, 97, 115, 58, 32]⟩ tws), (toldF ⟨#[99, 104, 97, 114, 116, 32, 100, 105, 114, 101, 99, 116, 111, 114, 121, 32, 105, 115, 32, 109, 105, 115, 115, 105, 110, 103, 32, 116, 104, 101, 115, 101, 32, 100, 101, 112, 101, 110, 100, 101, 110, 99, 105, 101, 115, 58, 32]⟩ mis)]) _ (own_sl1 (S386.ow 1 rfl) (by first | omega | (simp; omega))) ((S386.bk 0 rfl).sl (by simp)) rfl rfl) ?_
              rintro _ w387 ⟨rfl, hb_387⟩
              refine ⟨_, rfl, ?_⟩
              intro a388 F388
              have S387 := S386.below hb_387
              refine op_q F388 (.bool (decide (([toldF ⟨#[99, 104, 97, 114, 116, 32, 109, 101, 116, 97, 100, 97, 116, 97, 32, 105, 115, 32, 109, 105, 115, 115, 105, 110, 103, 32, 116, 104, 101, 115, 101, 32, 100, 101, 112, 101, 110, 100, 101, 110, 99, 105, 101, 115, 58, 32]⟩ (onlyF ys xs), toldF ⟨#[109, 117, 108, 116, 105, 112, 108, 101, 32, 100, 101, 112, 101, 110, 100, 101, 110, 99, 105, 101, 115, 32, 119, 105, 116, 104, 32, 110, 97, 109, 101, 32, 111, 114, 32, 97, 108, 105, 97, 115, 58, 32]⟩ (dupF [] xs), toldF ⟨#[99, 104, 97, 114, 116, 32, 100, 105, 114, 101, 99, 116, 111, 114, 121, 32, 105, 115, 32, 109, 105, 115, 115, 105, 110, 103, 32, 116, 104, 101, 115, 101, 32, 100, 101, 112, 101, 110, 100, 101, 110, 99, 105, 101, 115, 58, 32]⟩ (onlyF xs ys)]) = ([(toldF ⟨#[99, 104, 97, 114, 116, 32, 109, 101, 116, 97, 100, 97, 116, 97, 32, 105, 115, 32, 109, 105, 115, 115, 105, 110, 103, 32, 116, 104, 101, 115, 101, 32, 100, 101, 112, 101, 110, 100, 101, 110, 99, 105, 101, 115, 58, 32]⟩ ons), (toldF ⟨#[109, 117, 108, 116, 105, 112, 108, 101, 32, 100, 101, 112, 101, 110, 100, 101, 110, 99, 105, 101, 115, 32, 119, 105, 116, 104, 32, 110, 97, 109, 101, 32, 111, 114, 32, 97, 108, 105, 97, 115, 58, 32]⟩ tws), (toldF ⟨#[99, 104, 97, 114, 116, 32, 100, 105, 114, 101, 99, 116, 111, 114, 121, 32, 105, 115, 32, 109, 105, 115, 115, 105, 110, 103, 32, 116, 104, 101, 115, 101, 32, 100, 101, 112, 101, 110, 100, 101, 110, 99, 105, 101, 115, 58, 32]⟩ mis)])))) ?_; intro a389 F389
              refine op_q F389 (.bool (decide (([toldF ⟨#[99, 104, 97, 114, 116, 32, 109, 101, 116, 97, 100, 97, 116, 97, 32, 105, 115, 32, 109, 105, 115, 115, 105, 110, 103, 32, 116, 104, 101, 115, 101, 32, 100, 101, 112, 101, 110, 100, 101, 110, 99, 105, 101, 115, 58, 32]⟩ (onlyF ys xs), toldF ⟨#[109, 117, 108, 116, 105, 112, 108, 101, 32, 100, 101, 112, 101, 110, 100, 101, 110, 99, 105, 101, 115, 32, 119, 105, 116, 104, 32, 110, 97, 109, 101, 32, 111, 114, 32, 97, 108, 105, 97, 115, 58, 32]⟩ (dupF [] xs), toldF ⟨#[99, 104, 97, 114, 116, 32, 100, 105, 114, 101, 99, 116, 111, 114, 121, 32, 105, 115, 32, 109, 105, 115, 115, 105, 110, 103, 32, 116, 104, 101, 115, 101, 32, 100, 101, 112, 101, 110, 100, 101, 110, 99, 105, 101, 115, 58, 32]⟩ (onlyF xs ys)]) = ([(toldF ⟨#[99, 104, 97, 114, 116, 32, 109, 101, 116, 97, 100, 97, 116, 97, 32, 105, 115, 32, 109, 105, 115, 115, 105, 110, 103, 32, 116, 104, 101, 115, 101, 32, 100, 101, 112, 101, 110, 100, 101, 110, 99, 105, 101, 115, 58, 32]⟩ ons), (toldF ⟨#[109, 117, 108, 116, 105, 112, 108, 101, 32, 100, 101, 112, 101, 110, 100, 101, 110, 99, 105, 101, 115, 32, 119, 105, 116, 104, 32, 110, 97, 109, 101, 32, 111, 114, 32, 97, 108, 105, 97, 115, 58, 32]⟩ tws), (toldF ⟨#[99, 104, 97, 114, 116, 32, 100, 105, 114, 101, 99, 116, 111, 114, 121, 32, 105, 115, 32, 109, 105, 115, 115, 105, 110, 103, 32, 116, 104, 101, 115, 101, 32, 100, 101, 112, 101, 110, 100, 101, 110, 99, 105, 101, 115, 58, 32]⟩ mis)])))) ?_; intro a390 F390
              refine wpList_nil ?_
              refine hK371 _ _ ?_; clear hK371 K371
              refine wp_ret ?_
              refine (F390.res1 rfl (v := .bool (decide (([toldF ⟨#[99, 104, 97, 114, 116, 32, 109, 101, 116, 97, 100, 97, 116, 97, 32, 105, 115, 32, 109, 105, 115, 115, 105, 110, 103, 32, 116, 104, 101, 115, 101, 32, 100, 101, 112, 101, 110, 100, 101, 110, 99, 105, 101, 115, 58, 32]⟩ (onlyF ys xs), toldF ⟨#[109, 117, 108, 116, 105, 112, 108, 101, 32, 100, 101, 112, 101, 110, 100, 101, 110, 99, 105, 101, 115, 32, 119, 105, 116, 104, 32, 110, 97, 109, 101, 32, 111, 114, 32, 97, 108, 105, 97, 115, 58, 32]⟩ (dupF [] xs), toldF ⟨#[99, 104, 97, 114, 116, 32, 100, 105, 114, 101, 99, 116, 111, 114, 121, 32, 105, 115, 32, 109, 105, 115, 115, 105, 110, 103, 32, 116, 104, 101, 115, 101, 32, 100, 101, 112, 101, 110, 100, 101, 110, 99, 105, 101, 115, 58, 32]⟩ (onlyF xs ys)]) = ([(toldF ⟨#[99, 104, 97, 114, 116, 32, 109, 101, 116, 97, 100, 97, 116, 97, 32, 105, 115, 32, 109, 105, 115, 115, 105, 110, 103, 32, 116, 104, 101, 115, 101, 32, 100, 101, 112, 101, 110, 100, 101, 110, 99, 105, 101, 115, 58, 32]⟩ ons), (toldF ⟨#[109, 117, 108, 116, 105, 112, 108, 101, 32, 100, 101, 112, 101, 110, 100, 101, 110, 99, 105, 101, 115, 32, 119, 105, 116, 104, 32, 110, 97, 109, 101, 32, 111, 114, 32, 97, 108, 105, 97, 115, 58, 32]⟩ tws), (toldF ⟨#[99, 104, 97, 114, 116, 32, 100, 105, 114, 101, 99, 116, 111, 114, 121, 32, 105, 115, 32, 109, 105, 115, 115, 105, 110, 103, 32, 116, 104, 101, 115, 101, 32, 100, 101, 112, 101, 110, 100, 101, 110, 99, 105, 101, 115, 58, 32]⟩ mis)])))) (by kernel_rfl) ?_).1
              exact ⟨(ret_bool (decide_eq_true (by rw [hon, htw, hmi]))), S387.drop.drop.drop.drop.drop.drop.drop.drop⟩
    · have F391 := F18.sb 23 (by kernel_rfl) hc19
      have F392 := F391.sb 24 (by kernel_rfl) (show (!(fits3 ys)) = true by rw [hc19]; rfl)
      have F393 := F392.sb 25 (by kernel_rfl) (show (!(fits3 ys)) = true by rw [hc19]; rfl)
      refine wp_cond_true (F393.ev (by kernel_rfl)) ?_
      refine wp_seq_k fun K394 hK394 => ?_
      refine wp_region_lit ?_
      refine op_q F393 (.bool true) ?_; intro a395 F395
      refine wpList_nil ?_
      refine hK394 _ _ ?_; clear hK394 K394
      refine wp_ret ?_
      refine ret_then ?_
      refine (F395.res1 rfl (v := .bool true) (by kernel_rfl) ?_).1
      exact ⟨rfl, S⟩
  · have F396 := F9.sb 19 (by kernel_rfl) hc10
    have F397 := F396.sb 20 (by kernel_rfl) (show (!(fits3 xs)) = true by rw [hc10]; rfl)
    have F398 := F397.sb 21 (by kernel_rfl) (show (!(fits3 xs)) = true by rw [hc10]; rfl)
    refine op_kq F398 ?_; intro a399 F399
    refine op_kq F399 ?_; intro a400 F400
    refine op_kq F400 ?_; intro a401 F401
    refine op_q F401 (.bool true) ?_; intro a402 F402
    refine wpList_nil ?_
    refine hK4 _ _ ?_; clear hK4 K4
    refine wp_cond_true (F402.ev (by kernel_rfl)) ?_
    refine wp_seq_k fun K403 hK403 => ?_
    refine wp_region_lit ?_
    refine op_q F402 (.bool true) ?_; intro a404 F404
    refine wpList_nil ?_
    refine hK403 _ _ ?_; clear hK403 K403
    refine wp_ret ?_
    refine ret_then ?_
    refine (F404.res1 rfl (v := .bool true) (by kernel_rfl) ?_).1
    exact ⟨rfl, S⟩
theorem fnHlLintDependencies_walk (A : Option Addr) (c : Nat) (xs : List ByteArray) (B : Option Addr) (d : Nat) (ys : List ByteArray) (w : World) (y0 : Sl w A (strs xs)) (z0 : xs.length ≤ c) (y1 : Sl w B (strs ys)) (z1 : ys.length ≤ d) : Calls Try.prog 9 #[.slice A xs.length c, .slice B ys.length d] w fun e w' => e = .returned (.bool true) ∧ Below w.heap.size w w' := by
  exact (lintDepsLaw_sp A c xs B d ys _ [] w (Sp.start w) (Rf.of fun _ hb => y0.below hb) (Rf.of fun _ hb => y1.below hb) z0 z1).mono fun _ _ ⟨he, hS⟩ => ⟨he, Sp.below_of hS⟩
end Go.Proofs.Ytkjcedlgljeoiaa

