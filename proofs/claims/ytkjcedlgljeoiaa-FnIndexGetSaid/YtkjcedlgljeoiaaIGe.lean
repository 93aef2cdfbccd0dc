/- Texts Me5, Vf5, Ig6, Ig7, Ig8, laid together. -/
import Derived.WalkKit
import Derived.WalkLawsBesides
import Derived.WalkSpells
import Derived.Lib.Hide
import Derived.Deep.RegionWith
import Derived.Deep.DeepCutAuto
import Derived.Deep.QuietTactic
import Derived.BigQuiet
import Derived.Laws.OwnMore
import Derived.Deep.LoopGhost
import Derived.KernelRfl
import Derived.Deep.WholeRow
import Derived.StillTail
import Derived.SliceStrings
import Derived.Deep.Slices
import Derived.Deep.Fields
import Derived.ChangeSame
import Derived.Deep.MidRow
import Derived.Maps.AppendAt
import Derived.Lib.AppendStr
import Derived.Lib.ConvBytes
import Derived.Laws.BytesArg
import Derived.Deep.RegionLaw
import Derived.OwnWalk
import Derived.Maps.OwnSet
import Derived.Maps.OwnOps
import Derived.ArgAppend
import Derived.Defers
import Derived.Recover
import Derived.Laws.Pointers
import Derived.Laws.StructEq
import Derived.IntWalk
import Derived.Test.YtkjcedlgljeoiaaProg
import Derived.BigRegion
import Derived.Deep.CutBlock
import Derived.Carry
import Derived.Test.YtkjcedlgljeoiaaIGd
/- spec.chTexts, ChSameDependency, ChSameMeta: of the same metadata. -/
namespace Go.Proofs.Ytkjcedlgljeoiaa
open Go.RowKit Go.Lib
set_option linter.unusedVariables false
set_option linter.unusedSimpArgs false
theorem neqT78 (x0 y0 : Bool) (x1 y1 : ByteArray) (x2 y2 : ByteArray) (x3 y3 : ByteArray) (w : World) : (binOp .neq 78 (.agg #[.bool x0, .string x1, .string x2, .string x3]) (.agg #[.bool y0, .string y1, .string y2, .string y3])).run Try.prog w = .ok (.bool (!((x0 == y0) && (x1.toList == y1.toList) && (x2.toList == y2.toList) && (x3.toList == y3.toList)))) w := by
  have u4 := Try.underlying4
  have u9 := Try.underlying9
  have a4 : (isAgg 4).run Try.prog w = .ok false w := by unfold isAgg; rw [Sem.run_bind, run_underlying u4 w]; rfl
  have z4 : (sizeOf 4).run Try.prog w = .ok 1 w := by kernel_rfl
  have a9 : (isAgg 9).run Try.prog w = .ok false w := by unfold isAgg; rw [Sem.run_bind, run_underlying u9 w]; rfl
  have z9 : (sizeOf 9).run Try.prog w = .ok 1 w := by kernel_rfl
  have hS : Try.prog.underlying 78 = some (.struct (Try.prog.fieldsOf 78)) := by kernel_rfl
  have hp : Try.prog.stoodInHeld 78 = false := by kernel_rfl
  rw [run_neq_struct, show (10000 : Nat) = 9999 + 1 from rfl, run_equalIn_agg w 9999 78 _ _ hS hp]
  simp only [Program.fieldsOf, Try.underlying78]
  go_simp
  cases h0 : (x0 == y0) <;> cases h1 : (x1.toList == y1.toList) <;> cases h2 : (x2.toList == y2.toList) <;> cases h3 : (x3.toList == y3.toList) <;> simp_all
set_option maxRecDepth 100000 in
set_option maxHeartbeats 20000000 in
theorem chTexts_yes (A : Option Addr) (c : Nat) (xs : List ByteArray) (B : Option Addr) (d : Nat) (R : Ctx) (L : List SA) (w : World) (S : Sp R w (L)) (h0 : Rf R L fun w => Sl w (A) (strs xs)) (h1 : Rf R L fun w => Sl w (B) (strs xs))  :
  Calls Try.prog 123 #[.slice (A) (xs.length) (c), .slice (B) (xs.length) (d)] w fun e w' => e = .returned (.bool true) ∧ Sp R w' (L) := by
 have hl_xs : xs.length ≤ 9223372036854775807 := by have := (h0 _ S).1; simpa [strs, ptrs, pps] using this
 have hl_xs : xs.length ≤ 9223372036854775807 := by have := (h1 _ S).1; simpa [strs, ptrs, pps] using this
 refine fw_enter (fn := Try.f123) rfl rfl 26 rfl (Nat.le_of_ble_eq_true rfl) ?_
 intro a0 F0
 refine wp_seq_k fun K1 hK1 => ?_
 refine wp_region_lit ?_
 refine op_q F0 (.bool false) ?_; intro a2 F2
 refine wpList_nil ?_
 refine hK1 _ _ ?_; clear hK1 K1
 refine wp_seq_k fun K3 hK3 => ?_
 refine wp_seq_k fun K4 hK4 => ?_
 refine wp_region_lit ?_
 refine op_q F2 (.slice (A) (xs.length) (c)) ?_; intro a5 F5
 refine op_q F5 (.int .i64 (↑xs.length)) ?_; intro a6 F6
 refine op_q F6 (.slice (B) (xs.length) (d)) ?_; intro a7 F7
 refine op_q F7 (.int .i64 (↑xs.length)) ?_; intro a8 F8
 refine op_q F8 (.bool (!((↑xs.length : Int) == ↑xs.length))) ?_; intro a9 F9
 refine wpList_nil ?_
 refine hK4 _ _ ?_; clear hK4 K4
 have hc10 : ((↑xs.length : Int) == ↑xs.length) = true := (beq_self_eq_true _)
 have F11 := F9.sb 10 (by kernel_rfl) (show (!((↑xs.length : Int) == ↑xs.length)) = false by rw [hc10]; rfl)
 refine wp_cond_false (F11.ev (by kernel_rfl)) ?_
 refine wp_skip ?_
 refine hK3 _ _ ?_; clear hK3 K3
 refine wp_seq_k fun K12 hK12 => ?_
 refine wp_seq_k fun K13 hK13 => ?_
 refine wp_region_lit ?_
 refine op_q F11 (.slice (A) (xs.length) (c)) ?_; intro a14 F14
 refine op_q F14 (.int .i64 (↑xs.length)) ?_; intro a15 F15
 refine op_q F15 (.int .i64 0) ?_; intro a16 F16
 refine wpList_nil ?_
 refine hK13 _ _ ?_; clear hK13 K13
 refine wp_block ?_
 refine fw_loop (fun m' a' w' => ∃ i : Nat, xs.length - i = m' ∧ Fr 26 [] a' [(0, .slice (A) (xs.length) (c)), (1, .slice (B) (xs.length) (d)), (12, .int .i64 (↑xs.length)), (13, .int .i64 (↑i))] ∧ Sp R w' (L) ∧ (i ≤ xs.length)) _ ⟨0, rfl, (F16.kk 0 (F16.kk 1 (F16.kk 12 (F16.kk 13 F16.nil)))), S, (by first | omega | (with_reducible assumption) | (simp; done))⟩ ?_
 rintro m17 a17 w17 ⟨i, hm17, F17, S17, hi⟩ K17 hK17
 by_cases hlt_i : i < xs.length
 ·have hc_i : decide ((↑i : Int) < ↑xs.length) = true := by first | (simp; done) | (simp; omega)
  obtain ⟨ad18, hA18⟩ := (h0 _ S17).addr (by simp [strs]; omega)
  obtain ⟨ad19, hA19⟩ := (h1 _ S17).addr (by simp [strs]; omega)
  refine wp_seq_k fun K20 hK20 => ?_
  refine wp_region_lit ?_
  refine op_q F17 (.bool (decide ((↑i : Int) < ↑xs.length))) ?_; intro a21 F21
  have F22 := F21.sb 14 (by kernel_rfl) hc_i
  refine wpList_nil ?_
  refine hK20 _ _ ?_; clear hK20 K20
  refine wp_seq_k fun K23 hK23 => ?_
  refine wp_cond_true (F22.ev (by kernel_rfl)) ?_
  refine wp_skip ?_
  refine hK23 _ _ ?_; clear hK23 K23
  refine wp_seq_k fun K24 hK24 => ?_
  refine wp_block ?_
  refine wp_seq_k fun K25 hK25 => ?_
  refine wp_region_lit ?_
  refine op_q F22 (.int .i64 (↑i)) ?_; intro a26 F26
  refine op_q F26 (.int .i64 (↑i)) ?_; intro a27 F27
  refine wpList_nil ?_
  refine hK25 _ _ ?_; clear hK25 K25
  refine wp_seq_k fun K28 hK28 => ?_
  refine wp_region_sepF (L0 := L) [some [], some [], some [(0, 16), (1, 17)], some [(2, 18)], some [], some [], some [(4, 20), (5, 21)], some [(6, 22)], some [(3, 19), (7, 23)]] [.v 16 (.slice (A) (xs.length) (c)), .v 17 (.int .i64 (↑i)), .v 18 (.pointer (some (ad18.add i))), .v 19 (.string xs[i]), .v 20 (.slice (B) (xs.length) (d)), .v 21 (.int .i64 (↑i)), .v 22 (.pointer (some (ad19.add i))), .v 23 (.string xs[i]), .v 24 (.bool false)] [] F27 rfl (by kernel_rfl) S17 ?_ ?_
  ·refine ⟨?_, ?_, ?_, ?_, ?_, ?_, ?_, ?_, ?_, trivial⟩
   ·intro w47 M47
    intro a47 F47 S47
    refine obl_of (by rfl) ?_
    exact s_p F47 (v := .slice (A) (xs.length) (c)) (by kernel_rfl) (by kernel_rfl) (by kernel_rfl) S47
   ·intro w48 M48
    intro a48 F48 S48
    refine obl_of (by rfl) ?_
    exact s_p F48 (v := .int .i64 (↑i)) (by kernel_rfl) (by kernel_rfl) (by kernel_rfl) S48
   ·intro w49 M49
    intro a49 F49 S49
    refine obl_of (by rfl) ?_
    exact s_r (v := .pointer (some (ad18.add i))) (r_ix rfl Try.underlying22 1 (by kernel_rfl) (F49.e (.slice (A) (xs.length) (c))) hA18 (F49.e (.int .i64 (↑i))) i (by first | rfl | omega | simp) (by first | omega | (simp; done) | (simp; omega)) (by simp only [Nat.mul_one])) S49
   ·intro w52 M52
    intro a52 F52 S52
    refine obl_of (by rfl) ?_
    exact s_r (v := .string xs[i]) (r_ld rfl (F52.e (.pointer (some (ad18.add i)))) (v := .string xs[i]) ((h0 _ (Sp.dropM S52.drop)).elA hA18 (j := i) (by simp only [strs, List.getElem?_map, List.getElem?_eq_getElem hlt_i]; rfl)) Try.underlying9 rfl) S52
   ·intro w54 M54
    intro a54 F54 S54
    refine obl_of (by rfl) ?_
    exact s_p F54 (v := .slice (B) (xs.length) (d)) (by kernel_rfl) (by kernel_rfl) (by kernel_rfl) S54
   ·intro w55 M55
    intro a55 F55 S55
    refine obl_of (by rfl) ?_
    exact s_p F55 (v := .int .i64 (↑i)) (by kernel_rfl) (by kernel_rfl) (by kernel_rfl) S55
   ·intro w56 M56
    intro a56 F56 S56
    refine obl_of (by rfl) ?_
    exact s_r (v := .pointer (some (ad19.add i))) (r_ix rfl Try.underlying22 1 (by kernel_rfl) (F56.e (.slice (B) (xs.length) (d))) hA19 (F56.e (.int .i64 (↑i))) i (by first | rfl | omega | simp) (by first | omega | (simp; done) | (simp; omega)) (by simp only [Nat.mul_one])) S56
   ·intro w59 M59
    intro a59 F59 S59
    refine obl_of (by rfl) ?_
    exact s_r (v := .string xs[i]) (r_ld rfl (F59.e (.pointer (some (ad19.add i)))) (v := .string xs[i]) ((h1 _ (Sp.dropM S59.drop)).elA hA19 (j := i) (by simp only [strs, List.getElem?_map, List.getElem?_eq_getElem hlt_i]; rfl)) Try.underlying9 rfl) S59
   ·intro w61 M61
    intro a61 F61 S61
    refine obl_of (by rfl) ?_
    have hs64 : (xs[i].toList == xs[i].toList) = true := beq_self_eq_true _
    exact s_pb F61 (b := !(xs[i].toList == xs[i].toList)) (show (!(xs[i].toList == xs[i].toList)) = false by rw [hs64]; rfl) (by kernel_rfl) (by kernel_rfl) (by kernel_rfl) S61
  ·intro a66 w65 F66 S65
   have S67 : Sp R w65 (L) := S65
   refine wpList_nil ?_
   refine hK28 _ _ ?_; clear hK28 K28
   refine wp_cond_false (F66.ev (by kernel_rfl)) ?_
   refine wp_skip ?_
   refine hK24 _ _ ?_; clear hK24 K24
   refine wp_region_lit ?_
   refine op_rq (v := .int .i64 (↑(i + 1))) F66 (r_add (z := ↑(i + 1)) rfl (F66.e (.int .i64 (↑i))) (F66.e (.int .i64 1)) (wr64 (by omega) (by omega) (by omega))) ?_; intro a68 F68
   refine op_q F68 (.int .i64 (↑(i + 1))) ?_; intro a69 F69
   refine wpList_nil ?_
   exact hK17 _ _ _ (by first | omega | (simp; omega)) ⟨i + 1, rfl, (F69.kk 0 (F69.kk 1 (F69.kk 12 (F69.kk 13 F69.nil)))), S67, (by first | omega | (with_reducible assumption) | (simp; done))⟩
 ·have hc_i : decide ((↑i : Int) < ↑xs.length) = false := by first | (simp; done) | (simp; omega)
  refine wp_seq_k fun K70 hK70 => ?_
  refine wp_region_lit ?_
  refine op_q F17 (.bool (decide ((↑i : Int) < ↑xs.length))) ?_; intro a71 F71
  have F72 := F71.sb 14 (by kernel_rfl) hc_i
  refine wpList_nil ?_
  refine hK70 _ _ ?_; clear hK70 K70
  refine wp_seq_k fun K73 hK73 => ?_
  refine wp_cond_false (F72.ev (by kernel_rfl)) ?_
  refine wp_exit ?_
  refine ex_then ?_; clear hK73 K73
  refine ex_then ?_
  refine ex_in ?_
  refine hK12 _ _ ?_; clear hK12 K12
  refine wp_seq_k fun K74 hK74 => ?_
  refine wp_region_lit ?_
  refine op_q F72 (.bool true) ?_; intro a75 F75
  refine wpList_nil ?_
  refine hK74 _ _ ?_; clear hK74 K74
  refine wp_ret ?_
  refine (F75.res1 rfl (v := .bool true) (by kernel_rfl) ?_).1
  exact ⟨rfl, S17⟩
theorem chTexts_eq (A : Option Addr) (c : Nat) (xs : List ByteArray) (B : Option Addr) (d : Nat) (ys : List ByteArray) (R : Ctx) (L : List SA) (w : World) (S : Sp R w L) (h0 : Rf R L fun w => Sl w A (strs xs)) (h1 : Rf R L fun w => Sl w B (strs ys)) (he : ys = xs) :
    Calls Try.prog 123 #[.slice A xs.length c, .slice B ys.length d] w fun e w' => e = .returned (.bool true) ∧ Sp R w' L := by
  subst he; exact chTexts_yes A c ys B d R L w S h0 h1
set_option maxRecDepth 100000 in
set_option maxHeartbeats 20000000 in
theorem sameDep_yes (x : Ty80) (y : Ty80) (R : Ctx) (L : List SA) (w : World) (S : Sp R w (L)) (h0 : Rf R L fun w => Sl w (x.fTags_a) (strs x.fTags)) (h1 : Rf R L fun w => Sl w (y.fTags_a) (strs y.fTags)) (he : depS x = depS y) :
  Calls Try.prog 124 #[.agg #[.bool x.fNil, .string x.fName, .string x.fVersion, .string x.fRepository, .string x.fCondition, .slice (x.fTags_a) (x.fTags.length) (x.fTags_c), .string x.fAlias], .agg #[.bool y.fNil, .string y.fName, .string y.fVersion, .string y.fRepository, .string y.fCondition, .slice (y.fTags_a) (y.fTags.length) (y.fTags_c), .string y.fAlias]] w fun e w' => e = .returned (.bool true) ∧ Sp R w' (L) := by
 have hl_x_fTags : x.fTags.length ≤ 9223372036854775807 := by have := (h0 _ S).1; simpa [strs, ptrs, pps] using this
 have hl_y_fTags : y.fTags.length ≤ 9223372036854775807 := by have := (h1 _ S).1; simpa [strs, ptrs, pps] using this
 have hn_Nil : x.fNil = y.fNil := show (depS x).fNil = (depS y).fNil by rw [he]
 have hT : y.fTags = x.fTags := show (depS y).fTags = (depS x).fTags by rw [he]
 have hn_Name : x.fName = y.fName := show (depS x).fName = (depS y).fName by rw [he]
 have hn_Version : x.fVersion = y.fVersion := show (depS x).fVersion = (depS y).fVersion by rw [he]
 have hn_Repository : x.fRepository = y.fRepository := show (depS x).fRepository = (depS y).fRepository by rw [he]
 have hn_Condition : x.fCondition = y.fCondition := show (depS x).fCondition = (depS y).fCondition by rw [he]
 have hn_Alias : x.fAlias = y.fAlias := show (depS x).fAlias = (depS y).fAlias by rw [he]
 have h1' : Rf R L fun w => Sl w y.fTags_a (strs x.fTags) := fun w S => by rw [← hT]; exact h1 w S
 have hTl : y.fTags.length = x.fTags.length := by rw [hT]
 refine fw_enter (fn := Try.f124) rfl rfl 52 rfl (Nat.le_of_ble_eq_true rfl) ?_
 intro a0 F0
 refine wp_seq_k fun K1 hK1 => ?_
 refine wp_region_lit ?_
 refine op_sq F0 (s_newp F0 80 (zq0 x) (by kernel_rfl) (by kernel_rfl) (by kernel_rfl) S) ?_
 rintro _ _ w3 ⟨g1, rfl, rfl⟩ S3 a3 F3
 refine op_sq F3 (s_newp F3 80 (zq0 y) (by kernel_rfl) (by kernel_rfl) (by kernel_rfl) S3) ?_
 rintro _ _ w5 ⟨g3, rfl, rfl⟩ S5 a5 F5
 refine op_q F5 (.bool false) ?_; intro a6 F6
 refine wpList_nil ?_
 refine hK1 _ _ ?_; clear hK1 K1
 refine wp_seq_k fun K7 hK7 => ?_
 refine wp_region_lit ?_
 refine op_q F6 (.pointer (some ⟨g1, 0, none⟩)) ?_; intro a8 F8
 refine op_rq (v := .bool x.fNil) F8 (r_ld rfl (F8.e (.pointer (some ⟨g1, 0, none⟩))) (v := .bool x.fNil) ((S5.bk 1 rfl).cell 0) Try.underlying4 rfl) ?_; intro a9 F9
 refine op_q F9 (.pointer (some ⟨g3, 0, none⟩)) ?_; intro a10 F10
 refine op_rq (v := .bool y.fNil) F10 (r_ld rfl (F10.e (.pointer (some ⟨g3, 0, none⟩))) (v := .bool y.fNil) ((S5.bk 0 rfl).cell 0) Try.underlying4 rfl) ?_; intro a11 F11
 refine op_q F11 (.bool (x.fNil == y.fNil)) ?_; intro a12 F12
 refine op_q F12 (.bool (x.fNil == y.fNil)) ?_; intro a13 F13
 have hc14 : (x.fNil == y.fNil) = true := (by rw [hn_Nil]; exact beq_self_eq_true _)
 have F15 := F13.sb 9 (by kernel_rfl) hc14
 have F16 := F15.sb 10 (by kernel_rfl) hc14
 refine op_wq F16 ?_
 refine op_q F16 (.pointer (some ⟨g1, 1, none⟩)) ?_; intro a17 F17
 refine op_wq F17 ?_
 refine op_rq (v := .string x.fName) F17 (r_ld rfl (F17.e (.pointer (some ⟨g1, 1, none⟩))) (v := .string x.fName) ((S5.bk 1 rfl).cell 1) Try.underlying9 rfl) ?_; intro a18 F18
 refine op_wq F18 ?_
 refine op_q F18 (.pointer (some ⟨g3, 1, none⟩)) ?_; intro a19 F19
 refine op_wq F19 ?_
 refine op_rq (v := .string y.fName) F19 (r_ld rfl (F19.e (.pointer (some ⟨g3, 1, none⟩))) (v := .string y.fName) ((S5.bk 0 rfl).cell 1) Try.underlying9 rfl) ?_; intro a20 F20
 refine op_wq F20 ?_
 refine op_q F20 (.bool (x.fName.toList == y.fName.toList)) ?_; intro a21 F21
 refine op_q F21 (.bool (x.fName.toList == y.fName.toList)) ?_; intro a22 F22
 refine op_q F22 (.bool (x.fName.toList == y.fName.toList)) ?_; intro a23 F23
 have hc24 : (x.fName.toList == y.fName.toList) = true := (by rw [hn_Name]; exact beq_self_eq_true _)
 have F25 := F23.sb 15 (by kernel_rfl) hc24
 have F26 := F25.sb 16 (by kernel_rfl) hc24
 have F27 := F26.sb 17 (by kernel_rfl) hc24
 refine op_wq F27 ?_
 refine op_q F27 (.pointer (some ⟨g1, 2, none⟩)) ?_; intro a28 F28
 refine op_wq F28 ?_
 refine op_rq (v := .string x.fVersion) F28 (r_ld rfl (F28.e (.pointer (some ⟨g1, 2, none⟩))) (v := .string x.fVersion) ((S5.bk 1 rfl).cell 2) Try.underlying9 rfl) ?_; intro a29 F29
 refine op_wq F29 ?_
 refine op_q F29 (.pointer (some ⟨g3, 2, none⟩)) ?_; intro a30 F30
 refine op_wq F30 ?_
 refine op_rq (v := .string y.fVersion) F30 (r_ld rfl (F30.e (.pointer (some ⟨g3, 2, none⟩))) (v := .string y.fVersion) ((S5.bk 0 rfl).cell 2) Try.underlying9 rfl) ?_; intro a31 F31
 refine op_wq F31 ?_
 refine op_q F31 (.bool (x.fVersion.toList == y.fVersion.toList)) ?_; intro a32 F32
 refine op_q F32 (.bool (x.fVersion.toList == y.fVersion.toList)) ?_; intro a33 F33
 refine op_q F33 (.bool (x.fVersion.toList == y.fVersion.toList)) ?_; intro a34 F34
 have hc35 : (x.fVersion.toList == y.fVersion.toList) = true := (by rw [hn_Version]; exact beq_self_eq_true _)
 have F36 := F34.sb 22 (by kernel_rfl) hc35
 have F37 := F36.sb 23 (by kernel_rfl) hc35
 have F38 := F37.sb 24 (by kernel_rfl) hc35
 refine op_wq F38 ?_
 refine op_q F38 (.pointer (some ⟨g1, 3, none⟩)) ?_; intro a39 F39
 refine op_wq F39 ?_
 refine op_rq (v := .string x.fRepository) F39 (r_ld rfl (F39.e (.pointer (some ⟨g1, 3, none⟩))) (v := .string x.fRepository) ((S5.bk 1 rfl).cell 3) Try.underlying9 rfl) ?_; intro a40 F40
 refine op_wq F40 ?_
 refine op_q F40 (.pointer (some ⟨g3, 3, none⟩)) ?_; intro a41 F41
 refine op_wq F41 ?_
 refine op_rq (v := .string y.fRepository) F41 (r_ld rfl (F41.e (.pointer (some ⟨g3, 3, none⟩))) (v := .string y.fRepository) ((S5.bk 0 rfl).cell 3) Try.underlying9 rfl) ?_; intro a42 F42
 refine op_wq F42 ?_
 refine op_q F42 (.bool (x.fRepository.toList == y.fRepository.toList)) ?_; intro a43 F43
 refine op_q F43 (.bool (x.fRepository.toList == y.fRepository.toList)) ?_; intro a44 F44
 refine op_q F44 (.bool (x.fRepository.toList == y.fRepository.toList)) ?_; intro a45 F45
 have hc46 : (x.fRepository.toList == y.fRepository.toList) = true := (by rw [hn_Repository]; exact beq_self_eq_true _)
 have F47 := F45.sb 29 (by kernel_rfl) hc46
 have F48 := F47.sb 30 (by kernel_rfl) hc46
 have F49 := F48.sb 31 (by kernel_rfl) hc46
 refine op_wq F49 ?_
 refine op_q F49 (.pointer (some ⟨g1, 4, none⟩)) ?_; intro a50 F50
 refine op_wq F50 ?_
 refine op_rq (v := .string x.fCondition) F50 (r_ld rfl (F50.e (.pointer (some ⟨g1, 4, none⟩))) (v := .string x.fCondition) ((S5.bk 1 rfl).cell 4) Try.underlying9 rfl) ?_; intro a51 F51
 refine op_wq F51 ?_
 refine op_q F51 (.pointer (some ⟨g3, 4, none⟩)) ?_; intro a52 F52
 refine op_wq F52 ?_
 refine op_rq (v := .string y.fCondition) F52 (r_ld rfl (F52.e (.pointer (some ⟨g3, 4, none⟩))) (v := .string y.fCondition) ((S5.bk 0 rfl).cell 4) Try.underlying9 rfl) ?_; intro a53 F53
 refine op_wq F53 ?_
 refine op_q F53 (.bool (x.fCondition.toList == y.fCondition.toList)) ?_; intro a54 F54
 refine op_q F54 (.bool (x.fCondition.toList == y.fCondition.toList)) ?_; intro a55 F55
 refine op_q F55 (.bool (x.fCondition.toList == y.fCondition.toList)) ?_; intro a56 F56
 have hc57 : (x.fCondition.toList == y.fCondition.toList) = true := (by rw [hn_Condition]; exact beq_self_eq_true _)
 have F58 := F56.sb 36 (by kernel_rfl) hc57
 have F59 := F58.sb 37 (by kernel_rfl) hc57
 have F60 := F59.sb 38 (by kernel_rfl) hc57
 refine op_wq F60 ?_
 refine op_q F60 (.pointer (some ⟨g1, 6, none⟩)) ?_; intro a61 F61
 refine op_wq F61 ?_
 refine op_rq (v := .string x.fAlias) F61 (r_ld rfl (F61.e (.pointer (some ⟨g1, 6, none⟩))) (v := .string x.fAlias) ((S5.bk 1 rfl).cell 6) Try.underlying9 rfl) ?_; intro a62 F62
 refine op_wq F62 ?_
 refine op_q F62 (.pointer (some ⟨g3, 6, none⟩)) ?_; intro a63 F63
 refine op_wq F63 ?_
 refine op_rq (v := .string y.fAlias) F63 (r_ld rfl (F63.e (.pointer (some ⟨g3, 6, none⟩))) (v := .string y.fAlias) ((S5.bk 0 rfl).cell 6) Try.underlying9 rfl) ?_; intro a64 F64
 refine op_wq F64 ?_
 refine op_q F64 (.bool (x.fAlias.toList == y.fAlias.toList)) ?_; intro a65 F65
 refine op_q F65 (.bool (x.fAlias.toList == y.fAlias.toList)) ?_; intro a66 F66
 refine op_q F66 (.bool (x.fAlias.toList == y.fAlias.toList)) ?_; intro a67 F67
 have hc68 : (x.fAlias.toList == y.fAlias.toList) = true := (by rw [hn_Alias]; exact beq_self_eq_true _)
 have F69 := F67.sb 43 (by kernel_rfl) hc68
 have F70 := F69.sb 44 (by kernel_rfl) hc68
 have F71 := F70.sb 45 (by kernel_rfl) hc68
 refine op_wq F71 ?_
 refine op_q F71 (.pointer (some ⟨g1, 5, none⟩)) ?_; intro a72 F72
 refine op_wq F72 ?_
 refine op_rq (v := .slice (x.fTags_a) (x.fTags.length) (x.fTags_c)) F72 (r_ld rfl (F72.e (.pointer (some ⟨g1, 5, none⟩))) (v := .slice (x.fTags_a) (x.fTags.length) (x.fTags_c)) ((S5.bk 1 rfl).cell 5) Try.underlying22 rfl) ?_; intro a73 F73
 refine op_wq F73 ?_
 refine op_q F73 (.pointer (some ⟨g3, 5, none⟩)) ?_; intro a74 F74
 refine op_wq F74 ?_
 refine op_rq (v := .slice (y.fTags_a) (y.fTags.length) (y.fTags_c)) F74 (r_ld rfl (F74.e (.pointer (some ⟨g3, 5, none⟩))) (v := .slice (y.fTags_a) (y.fTags.length) (y.fTags_c)) ((S5.bk 0 rfl).cell 5) Try.underlying22 rfl) ?_; intro a75 F75
 refine op_wq F75 ?_
 refine op_cq F75 (f := 123) (args := #[.slice (x.fTags_a) (x.fTags.length) (x.fTags_c), .slice (y.fTags_a) (y.fTags.length) (y.fTags_c)]) (chTexts_eq x.fTags_a x.fTags_c x.fTags y.fTags_a y.fTags_c y.fTags _ _ _ S5 (fun w S => h0 w S.drop.drop) (fun w S => h1 w S.drop.drop) (by with_reducible assumption)) ?_
 rintro _ w76 ⟨rfl, S76⟩
 refine ⟨_, rfl, ?_⟩
 intro a77 F77
 refine op_q F77 (.bool true) ?_; intro a78 F78
 refine op_q F78 (.bool true) ?_; intro a79 F79
 refine wpList_nil ?_
 refine hK7 _ _ ?_; clear hK7 K7
 refine wp_ret ?_
 refine (F79.res1 rfl (v := .bool true) (by kernel_rfl) ?_).1
 exact ⟨rfl, S76.drop.drop⟩
set_option maxRecDepth 100000 in
set_option maxHeartbeats 20000000 in
theorem sameMeta_yes (x : Ty26) (y : Ty26) (R : Ctx) (L : List SA) (w : World) (S : Sp R w (L)) (h0 : Rf R L fun w => MetaAt w x) (h1 : Rf R L fun w => MetaAt w y) (he : metS x = metS y) :
  Calls Try.prog 62 #[.agg #[.string x.fName, .string x.fHome, .string x.fVersion, .string x.fDescription, .string x.fIcon, .string x.fAPIVersion, .string x.fCondition, .string x.fTags, .string x.fAppVersion, .string x.fKubeVersion, .string x.fType, .slice (x.fSources_a) (x.fSources.length) (x.fSources_c), .slice (x.fKeywords_a) (x.fKeywords.length) (x.fKeywords_c), .slice (x.fMaintainers_a) (x.fMaintainers.length) (x.fMaintainers_c), .slice (x.fDependencies_a) (x.fDependencies.length) (x.fDependencies_c)], .agg #[.string y.fName, .string y.fHome, .string y.fVersion, .string y.fDescription, .string y.fIcon, .string y.fAPIVersion, .string y.fCondition, .string y.fTags, .string y.fAppVersion, .string y.fKubeVersion, .string y.fType, .slice (y.fSources_a) (y.fSources.length) (y.fSources_c), .slice (y.fKeywords_a) (y.fKeywords.length) (y.fKeywords_c), .slice (y.fMaintainers_a) (y.fMaintainers.length) (y.fMaintainers_c), .slice (y.fDependencies_a) (y.fDependencies.length) (y.fDependencies_c)]] w fun e w' => e = .returned (.bool true) ∧ Sp R w' (L) := by
 have hn_Name : x.fName = y.fName := show (metS x).fName = (metS y).fName by rw [he]
 have hn_Home : x.fHome = y.fHome := show (metS x).fHome = (metS y).fHome by rw [he]
 have hn_Version : x.fVersion = y.fVersion := show (metS x).fVersion = (metS y).fVersion by rw [he]
 have hn_Description : x.fDescription = y.fDescription := show (metS x).fDescription = (metS y).fDescription by rw [he]
 have hn_Icon : x.fIcon = y.fIcon := show (metS x).fIcon = (metS y).fIcon by rw [he]
 have hn_APIVersion : x.fAPIVersion = y.fAPIVersion := show (metS x).fAPIVersion = (metS y).fAPIVersion by rw [he]
 have hn_Condition : x.fCondition = y.fCondition := show (metS x).fCondition = (metS y).fCondition by rw [he]
 have hn_Tags : x.fTags = y.fTags := show (metS x).fTags = (metS y).fTags by rw [he]
 have hn_AppVersion : x.fAppVersion = y.fAppVersion := show (metS x).fAppVersion = (metS y).fAppVersion by rw [he]
 have hn_KubeVersion : x.fKubeVersion = y.fKubeVersion := show (metS x).fKubeVersion = (metS y).fKubeVersion by rw [he]
 have hn_Type : x.fType = y.fType := show (metS x).fType = (metS y).fType by rw [he]
 have eSources : y.fSources = x.fSources := show (metS y).fSources = (metS x).fSources by rw [he]
 have eKeywords : y.fKeywords = x.fKeywords := show (metS y).fKeywords = (metS x).fKeywords by rw [he]
 have eMaintainers : y.fMaintainers = x.fMaintainers := show (metS y).fMaintainers = (metS x).fMaintainers by rw [he]
 have eD : x.fDependencies.map depS = y.fDependencies.map depS := show (metS x).fDependencies = (metS y).fDependencies by rw [he]
 have eSl : y.fSources.length = x.fSources.length := by rw [eSources]
 have eKl : y.fKeywords.length = x.fKeywords.length := by rw [eKeywords]
 have eMl : y.fMaintainers.length = x.fMaintainers.length := by rw [eMaintainers]
 have eDl : y.fDependencies.length = x.fDependencies.length := by have := congrArg List.length eD; simp at this; exact this.symm
 have k0 : Rf R L fun w => Sl w x.fSources_a (strs x.fSources) := fun w S => (h0 w S).1
 have k1 : Rf R L fun w => Sl w y.fSources_a (strs y.fSources) := fun w S => (h1 w S).1
 have k2 : Rf R L fun w => Sl w x.fKeywords_a (strs x.fKeywords) := fun w S => (h0 w S).2.1
 have k3 : Rf R L fun w => Sl w y.fKeywords_a (strs y.fKeywords) := fun w S => (h1 w S).2.1
 have k4 : Rf R L fun w => Rows w x.fMaintainers_a 4 (x.fMaintainers.map Ty78.cells) := fun w S => (h0 w S).2.2.1
 have k5 : Rf R L fun w => Rows w y.fMaintainers_a 4 (x.fMaintainers.map Ty78.cells) := fun w S => by rw [← eMaintainers]; exact (h1 w S).2.2.1
 have k6 : Rf R L fun w => Rows w x.fDependencies_a 7 (x.fDependencies.map Ty80.cells) := fun w S => (h0 w S).2.2.2.1
 have k7 : Rf R L fun w => Rows w y.fDependencies_a 7 (y.fDependencies.map Ty80.cells) := fun w S => (h1 w S).2.2.2.1
 have hlM : x.fMaintainers.length ≤ 9223372036854775807 := by have := (k4 w S).1; simpa using this
 have hlD : x.fDependencies.length ≤ 9223372036854775807 := by have := (k6 w S).1; simpa using this
 refine fw_enter (fn := Try.f62) rfl rfl 149 rfl (Nat.le_of_ble_eq_true rfl) ?_
 intro a0 F0
 refine wp_seq_k fun K1 hK1 => ?_
 refine wp_region_lit ?_
 refine op_sq F0 (s_newp F0 26 (zq2 x) (by kernel_rfl) (by kernel_rfl) (by kernel_rfl) S) ?_
 rintro _ _ w3 ⟨g1, rfl, rfl⟩ S3 a3 F3
 refine op_sq F3 (s_newp F3 26 (zq2 y) (by kernel_rfl) (by kernel_rfl) (by kernel_rfl) S3) ?_
 rintro _ _ w5 ⟨g3, rfl, rfl⟩ S5 a5 F5
 refine op_q F5 (.bool false) ?_; intro a6 F6
 refine wpList_nil ?_
 refine hK1 _ _ ?_; clear hK1 K1
 refine wp_seq_k fun K7 hK7 => ?_
 refine wp_seq_k fun K8 hK8 => ?_
 refine wp_region_lit ?_
 refine op_q F6 (.pointer (some ⟨g1, 0, none⟩)) ?_; intro a9 F9
 refine op_rq (v := .string x.fName) F9 (r_ld rfl (F9.e (.pointer (some ⟨g1, 0, none⟩))) (v := .string x.fName) ((S5.bk 1 rfl).cell 0) Try.underlying9 rfl) ?_; intro a10 F10
 refine op_q F10 (.pointer (some ⟨g3, 0, none⟩)) ?_; intro a11 F11
 refine op_rq (v := .string y.fName) F11 (r_ld rfl (F11.e (.pointer (some ⟨g3, 0, none⟩))) (v := .string y.fName) ((S5.bk 0 rfl).cell 0) Try.underlying9 rfl) ?_; intro a12 F12
 refine op_q F12 (.bool (!(x.fName.toList == y.fName.toList))) ?_; intro a13 F13
 refine op_q F13 (.bool (!(x.fName.toList == y.fName.toList))) ?_; intro a14 F14
 have hc15 : (x.fName.toList == y.fName.toList) = true := (by rw [hn_Name]; exact beq_self_eq_true _)
 have F16 := F14.sb 13 (by kernel_rfl) (show (!(x.fName.toList == y.fName.toList)) = false by rw [hc15]; rfl)
 have F17 := F16.sb 14 (by kernel_rfl) (show (!(x.fName.toList == y.fName.toList)) = false by rw [hc15]; rfl)
 refine op_wq F17 ?_
 refine op_q F17 (.pointer (some ⟨g1, 1, none⟩)) ?_; intro a18 F18
 refine op_wq F18 ?_
 refine op_rq (v := .string x.fHome) F18 (r_ld rfl (F18.e (.pointer (some ⟨g1, 1, none⟩))) (v := .string x.fHome) ((S5.bk 1 rfl).cell 1) Try.underlying9 rfl) ?_; intro a19 F19
 refine op_wq F19 ?_
 refine op_q F19 (.pointer (some ⟨g3, 1, none⟩)) ?_; intro a20 F20
 refine op_wq F20 ?_
 refine op_rq (v := .string y.fHome) F20 (r_ld rfl (F20.e (.pointer (some ⟨g3, 1, none⟩))) (v := .string y.fHome) ((S5.bk 0 rfl).cell 1) Try.underlying9 rfl) ?_; intro a21 F21
 refine op_wq F21 ?_
 refine op_q F21 (.bool (!(x.fHome.toList == y.fHome.toList))) ?_; intro a22 F22
 refine op_q F22 (.bool (!(x.fHome.toList == y.fHome.toList))) ?_; intro a23 F23
 refine op_q F23 (.bool (!(x.fHome.toList == y.fHome.toList))) ?_; intro a24 F24
 have hc25 : (x.fHome.toList == y.fHome.toList) = true := (by rw [hn_Home]; exact beq_self_eq_true _)
 have F26 := F24.sb 19 (by kernel_rfl) (show (!(x.fHome.toList == y.fHome.toList)) = false by rw [hc25]; rfl)
 have F27 := F26.sb 20 (by kernel_rfl) (show (!(x.fHome.toList == y.fHome.toList)) = false by rw [hc25]; rfl)
 have F28 := F27.sb 21 (by kernel_rfl) (show (!(x.fHome.toList == y.fHome.toList)) = false by rw [hc25]; rfl)
 refine op_wq F28 ?_
 refine op_q F28 (.pointer (some ⟨g1, 2, none⟩)) ?_; intro a29 F29
 refine op_wq F29 ?_
 refine op_rq (v := .string x.fVersion) F29 (r_ld rfl (F29.e (.pointer (some ⟨g1, 2, none⟩))) (v := .string x.fVersion) ((S5.bk 1 rfl).cell 2) Try.underlying9 rfl) ?_; intro a30 F30
 refine op_wq F30 ?_
 refine op_q F30 (.pointer (some ⟨g3, 2, none⟩)) ?_; intro a31 F31
 refine op_wq F31 ?_
 refine op_rq (v := .string y.fVersion) F31 (r_ld rfl (F31.e (.pointer (some ⟨g3, 2, none⟩))) (v := .string y.fVersion) ((S5.bk 0 rfl).cell 2) Try.underlying9 rfl) ?_; intro a32 F32
 refine op_wq F32 ?_
 refine op_q F32 (.bool (!(x.fVersion.toList == y.fVersion.toList))) ?_; intro a33 F33
 refine op_q F33 (.bool (!(x.fVersion.toList == y.fVersion.toList))) ?_; intro a34 F34
 refine op_q F34 (.bool (!(x.fVersion.toList == y.fVersion.toList))) ?_; intro a35 F35
 have hc36 : (x.fVersion.toList == y.fVersion.toList) = true := (by rw [hn_Version]; exact beq_self_eq_true _)
 have F37 := F35.sb 26 (by kernel_rfl) (show (!(x.fVersion.toList == y.fVersion.toList)) = false by rw [hc36]; rfl)
 have F38 := F37.sb 27 (by kernel_rfl) (show (!(x.fVersion.toList == y.fVersion.toList)) = false by rw [hc36]; rfl)
 have F39 := F38.sb 28 (by kernel_rfl) (show (!(x.fVersion.toList == y.fVersion.toList)) = false by rw [hc36]; rfl)
 refine op_wq F39 ?_
 refine op_q F39 (.pointer (some ⟨g1, 3, none⟩)) ?_; intro a40 F40
 refine op_wq F40 ?_
 refine op_rq (v := .string x.fDescription) F40 (r_ld rfl (F40.e (.pointer (some ⟨g1, 3, none⟩))) (v := .string x.fDescription) ((S5.bk 1 rfl).cell 3) Try.underlying9 rfl) ?_; intro a41 F41
 refine op_wq F41 ?_
 refine op_q F41 (.pointer (some ⟨g3, 3, none⟩)) ?_; intro a42 F42
 refine op_wq F42 ?_
 refine op_rq (v := .string y.fDescription) F42 (r_ld rfl (F42.e (.pointer (some ⟨g3, 3, none⟩))) (v := .string y.fDescription) ((S5.bk 0 rfl).cell 3) Try.underlying9 rfl) ?_; intro a43 F43
 refine op_wq F43 ?_
 refine op_q F43 (.bool (!(x.fDescription.toList == y.fDescription.toList))) ?_; intro a44 F44
 refine op_q F44 (.bool (!(x.fDescription.toList == y.fDescription.toList))) ?_; intro a45 F45
 refine op_q F45 (.bool (!(x.fDescription.toList == y.fDescription.toList))) ?_; intro a46 F46
 have hc47 : (x.fDescription.toList == y.fDescription.toList) = true := (by rw [hn_Description]; exact beq_self_eq_true _)
 have F48 := F46.sb 33 (by kernel_rfl) (show (!(x.fDescription.toList == y.fDescription.toList)) = false by rw [hc47]; rfl)
 have F49 := F48.sb 34 (by kernel_rfl) (show (!(x.fDescription.toList == y.fDescription.toList)) = false by rw [hc47]; rfl)
 have F50 := F49.sb 35 (by kernel_rfl) (show (!(x.fDescription.toList == y.fDescription.toList)) = false by rw [hc47]; rfl)
 refine op_wq F50 ?_
 refine op_q F50 (.pointer (some ⟨g1, 4, none⟩)) ?_; intro a51 F51
 refine op_wq F51 ?_
 refine op_rq (v := .string x.fIcon) F51 (r_ld rfl (F51.e (.pointer (some ⟨g1, 4, none⟩))) (v := .string x.fIcon) ((S5.bk 1 rfl).cell 4) Try.underlying9 rfl) ?_; intro a52 F52
 refine op_wq F52 ?_
 refine op_q F52 (.pointer (some ⟨g3, 4, none⟩)) ?_; intro a53 F53
 refine op_wq F53 ?_
 refine op_rq (v := .string y.fIcon) F53 (r_ld rfl (F53.e (.pointer (some ⟨g3, 4, none⟩))) (v := .string y.fIcon) ((S5.bk 0 rfl).cell 4) Try.underlying9 rfl) ?_; intro a54 F54
 refine op_wq F54 ?_
 refine op_q F54 (.bool (!(x.fIcon.toList == y.fIcon.toList))) ?_; intro a55 F55
 refine op_q F55 (.bool (!(x.fIcon.toList == y.fIcon.toList))) ?_; intro a56 F56
 refine op_q F56 (.bool (!(x.fIcon.toList == y.fIcon.toList))) ?_; intro a57 F57
 have hc58 : (x.fIcon.toList == y.fIcon.toList) = true := (by rw [hn_Icon]; exact beq_self_eq_true _)
 have F59 := F57.sb 40 (by kernel_rfl) (show (!(x.fIcon.toList == y.fIcon.toList)) = false by rw [hc58]; rfl)
 have F60 := F59.sb 41 (by kernel_rfl) (show (!(x.fIcon.toList == y.fIcon.toList)) = false by rw [hc58]; rfl)
 have F61 := F60.sb 42 (by kernel_rfl) (show (!(x.fIcon.toList == y.fIcon.toList)) = false by rw [hc58]; rfl)
 refine op_wq F61 ?_
 refine op_q F61 (.pointer (some ⟨g1, 5, none⟩)) ?_; intro a62 F62
 refine op_wq F62 ?_
 refine op_rq (v := .string x.fAPIVersion) F62 (r_ld rfl (F62.e (.pointer (some ⟨g1, 5, none⟩))) (v := .string x.fAPIVersion) ((S5.bk 1 rfl).cell 5) Try.underlying9 rfl) ?_; intro a63 F63
 refine op_wq F63 ?_
 refine op_q F63 (.pointer (some ⟨g3, 5, none⟩)) ?_; intro a64 F64
 refine op_wq F64 ?_
 refine op_rq (v := .string y.fAPIVersion) F64 (r_ld rfl (F64.e (.pointer (some ⟨g3, 5, none⟩))) (v := .string y.fAPIVersion) ((S5.bk 0 rfl).cell 5) Try.underlying9 rfl) ?_; intro a65 F65
 refine op_wq F65 ?_
 refine op_q F65 (.bool (!(x.fAPIVersion.toList == y.fAPIVersion.toList))) ?_; intro a66 F66
 refine op_q F66 (.bool (!(x.fAPIVersion.toList == y.fAPIVersion.toList))) ?_; intro a67 F67
 refine op_q F67 (.bool (!(x.fAPIVersion.toList == y.fAPIVersion.toList))) ?_; intro a68 F68
 have hc69 : (x.fAPIVersion.toList == y.fAPIVersion.toList) = true := (by rw [hn_APIVersion]; exact beq_self_eq_true _)
 have F70 := F68.sb 47 (by kernel_rfl) (show (!(x.fAPIVersion.toList == y.fAPIVersion.toList)) = false by rw [hc69]; rfl)
 have F71 := F70.sb 48 (by kernel_rfl) (show (!(x.fAPIVersion.toList == y.fAPIVersion.toList)) = false by rw [hc69]; rfl)
 have F72 := F71.sb 49 (by kernel_rfl) (show (!(x.fAPIVersion.toList == y.fAPIVersion.toList)) = false by rw [hc69]; rfl)
 refine op_wq F72 ?_
 refine op_q F72 (.pointer (some ⟨g1, 6, none⟩)) ?_; intro a73 F73
 refine op_wq F73 ?_
 refine op_rq (v := .string x.fCondition) F73 (r_ld rfl (F73.e (.pointer (some ⟨g1, 6, none⟩))) (v := .string x.fCondition) ((S5.bk 1 rfl).cell 6) Try.underlying9 rfl) ?_; intro a74 F74
 refine op_wq F74 ?_
 refine op_q F74 (.pointer (some ⟨g3, 6, none⟩)) ?_; intro a75 F75
 refine op_wq F75 ?_
 refine op_rq (v := .string y.fCondition) F75 (r_ld rfl (F75.e (.pointer (some ⟨g3, 6, none⟩))) (v := .string y.fCondition) ((S5.bk 0 rfl).cell 6) Try.underlying9 rfl) ?_; intro a76 F76
 refine op_wq F76 ?_
 refine op_q F76 (.bool (!(x.fCondition.toList == y.fCondition.toList))) ?_; intro a77 F77
 refine op_q F77 (.bool (!(x.fCondition.toList == y.fCondition.toList))) ?_; intro a78 F78
 refine op_q F78 (.bool (!(x.fCondition.toList == y.fCondition.toList))) ?_; intro a79 F79
 have hc80 : (x.fCondition.toList == y.fCondition.toList) = true := (by rw [hn_Condition]; exact beq_self_eq_true _)
 have F81 := F79.sb 54 (by kernel_rfl) (show (!(x.fCondition.toList == y.fCondition.toList)) = false by rw [hc80]; rfl)
 have F82 := F81.sb 55 (by kernel_rfl) (show (!(x.fCondition.toList == y.fCondition.toList)) = false by rw [hc80]; rfl)
 have F83 := F82.sb 56 (by kernel_rfl) (show (!(x.fCondition.toList == y.fCondition.toList)) = false by rw [hc80]; rfl)
 refine op_wq F83 ?_
 refine op_q F83 (.pointer (some ⟨g1, 7, none⟩)) ?_; intro a84 F84
 refine op_wq F84 ?_
 refine op_rq (v := .string x.fTags) F84 (r_ld rfl (F84.e (.pointer (some ⟨g1, 7, none⟩))) (v := .string x.fTags) ((S5.bk 1 rfl).cell 7) Try.underlying9 rfl) ?_; intro a85 F85
 refine op_wq F85 ?_
 refine op_q F85 (.pointer (some ⟨g3, 7, none⟩)) ?_; intro a86 F86
 refine op_wq F86 ?_
 refine op_rq (v := .string y.fTags) F86 (r_ld rfl (F86.e (.pointer (some ⟨g3, 7, none⟩))) (v := .string y.fTags) ((S5.bk 0 rfl).cell 7) Try.underlying9 rfl) ?_; intro a87 F87
 refine op_wq F87 ?_
 refine op_q F87 (.bool (!(x.fTags.toList == y.fTags.toList))) ?_; intro a88 F88
 refine op_q F88 (.bool (!(x.fTags.toList == y.fTags.toList))) ?_; intro a89 F89
 refine op_q F89 (.bool (!(x.fTags.toList == y.fTags.toList))) ?_; intro a90 F90
 have hc91 : (x.fTags.toList == y.fTags.toList) = true := (by rw [hn_Tags]; exact beq_self_eq_true _)
 have F92 := F90.sb 61 (by kernel_rfl) (show (!(x.fTags.toList == y.fTags.toList)) = false by rw [hc91]; rfl)
 have F93 := F92.sb 62 (by kernel_rfl) (show (!(x.fTags.toList == y.fTags.toList)) = false by rw [hc91]; rfl)
 have F94 := F93.sb 63 (by kernel_rfl) (show (!(x.fTags.toList == y.fTags.toList)) = false by rw [hc91]; rfl)
 refine op_wq F94 ?_
 refine op_q F94 (.pointer (some ⟨g1, 8, none⟩)) ?_; intro a95 F95
 refine op_wq F95 ?_
 refine op_rq (v := .string x.fAppVersion) F95 (r_ld rfl (F95.e (.pointer (some ⟨g1, 8, none⟩))) (v := .string x.fAppVersion) ((S5.bk 1 rfl).cell 8) Try.underlying9 rfl) ?_; intro a96 F96
 refine op_wq F96 ?_
 refine op_q F96 (.pointer (some ⟨g3, 8, none⟩)) ?_; intro a97 F97
 refine op_wq F97 ?_
 refine op_rq (v := .string y.fAppVersion) F97 (r_ld rfl (F97.e (.pointer (some ⟨g3, 8, none⟩))) (v := .string y.fAppVersion) ((S5.bk 0 rfl).cell 8) Try.underlying9 rfl) ?_; intro a98 F98
 refine op_wq F98 ?_
 refine op_q F98 (.bool (!(x.fAppVersion.toList == y.fAppVersion.toList))) ?_; intro a99 F99
 refine op_q F99 (.bool (!(x.fAppVersion.toList == y.fAppVersion.toList))) ?_; intro a100 F100
 refine op_q F100 (.bool (!(x.fAppVersion.toList == y.fAppVersion.toList))) ?_; intro a101 F101
 have hc102 : (x.fAppVersion.toList == y.fAppVersion.toList) = true := (by rw [hn_AppVersion]; exact beq_self_eq_true _)
 have F103 := F101.sb 68 (by kernel_rfl) (show (!(x.fAppVersion.toList == y.fAppVersion.toList)) = false by rw [hc102]; rfl)
 have F104 := F103.sb 69 (by kernel_rfl) (show (!(x.fAppVersion.toList == y.fAppVersion.toList)) = false by rw [hc102]; rfl)
 have F105 := F104.sb 70 (by kernel_rfl) (show (!(x.fAppVersion.toList == y.fAppVersion.toList)) = false by rw [hc102]; rfl)
 refine op_wq F105 ?_
 refine op_q F105 (.pointer (some ⟨g1, 9, none⟩)) ?_; intro a106 F106
 refine op_wq F106 ?_
 refine op_rq (v := .string x.fKubeVersion) F106 (r_ld rfl (F106.e (.pointer (some ⟨g1, 9, none⟩))) (v := .string x.fKubeVersion) ((S5.bk 1 rfl).cell 9) Try.underlying9 rfl) ?_; intro a107 F107
 refine op_wq F107 ?_
 refine op_q F107 (.pointer (some ⟨g3, 9, none⟩)) ?_; intro a108 F108
 refine op_wq F108 ?_
 refine op_rq (v := .string y.fKubeVersion) F108 (r_ld rfl (F108.e (.pointer (some ⟨g3, 9, none⟩))) (v := .string y.fKubeVersion) ((S5.bk 0 rfl).cell 9) Try.underlying9 rfl) ?_; intro a109 F109
 refine op_wq F109 ?_
 refine op_q F109 (.bool (!(x.fKubeVersion.toList == y.fKubeVersion.toList))) ?_; intro a110 F110
 refine op_q F110 (.bool (!(x.fKubeVersion.toList == y.fKubeVersion.toList))) ?_; intro a111 F111
 refine op_q F111 (.bool (!(x.fKubeVersion.toList == y.fKubeVersion.toList))) ?_; intro a112 F112
 have hc113 : (x.fKubeVersion.toList == y.fKubeVersion.toList) = true := (by rw [hn_KubeVersion]; exact beq_self_eq_true _)
 have F114 := F112.sb 75 (by kernel_rfl) (show (!(x.fKubeVersion.toList == y.fKubeVersion.toList)) = false by rw [hc113]; rfl)
 have F115 := F114.sb 76 (by kernel_rfl) (show (!(x.fKubeVersion.toList == y.fKubeVersion.toList)) = false by rw [hc113]; rfl)
 have F116 := F115.sb 77 (by kernel_rfl) (show (!(x.fKubeVersion.toList == y.fKubeVersion.toList)) = false by rw [hc113]; rfl)
 refine op_wq F116 ?_
 refine op_q F116 (.pointer (some ⟨g1, 10, none⟩)) ?_; intro a117 F117
 refine op_wq F117 ?_
 refine op_rq (v := .string x.fType) F117 (r_ld rfl (F117.e (.pointer (some ⟨g1, 10, none⟩))) (v := .string x.fType) ((S5.bk 1 rfl).cell 10) Try.underlying9 rfl) ?_; intro a118 F118
 refine op_wq F118 ?_
 refine op_q F118 (.pointer (some ⟨g3, 10, none⟩)) ?_; intro a119 F119
 refine op_wq F119 ?_
 refine op_rq (v := .string y.fType) F119 (r_ld rfl (F119.e (.pointer (some ⟨g3, 10, none⟩))) (v := .string y.fType) ((S5.bk 0 rfl).cell 10) Try.underlying9 rfl) ?_; intro a120 F120
 refine op_wq F120 ?_
 refine op_q F120 (.bool (!(x.fType.toList == y.fType.toList))) ?_; intro a121 F121
 refine op_q F121 (.bool (!(x.fType.toList == y.fType.toList))) ?_; intro a122 F122
 refine wpList_nil ?_
 refine hK8 _ _ ?_; clear hK8 K8
 have hc123 : (x.fType.toList == y.fType.toList) = true := (by rw [hn_Type]; exact beq_self_eq_true _)
 have F124 := F122.sb 82 (by kernel_rfl) (show (!(x.fType.toList == y.fType.toList)) = false by rw [hc123]; rfl)
 have F125 := F124.sb 83 (by kernel_rfl) (show (!(x.fType.toList == y.fType.toList)) = false by rw [hc123]; rfl)
 refine wp_cond_false (F125.ev (by kernel_rfl)) ?_
 refine wp_skip ?_
 refine hK7 _ _ ?_; clear hK7 K7
 refine wp_seq_k fun K126 hK126 => ?_
 refine wp_seq_k fun K127 hK127 => ?_
 refine wp_region_lit ?_
 refine op_q F125 (.pointer (some ⟨g1, 11, none⟩)) ?_; intro a128 F128
 refine op_rq (v := .slice (x.fSources_a) (x.fSources.length) (x.fSources_c)) F128 (r_ld rfl (F128.e (.pointer (some ⟨g1, 11, none⟩))) (v := .slice (x.fSources_a) (x.fSources.length) (x.fSources_c)) ((S5.bk 1 rfl).cell 11) Try.underlying22 rfl) ?_; intro a129 F129
 refine op_q F129 (.pointer (some ⟨g3, 11, none⟩)) ?_; intro a130 F130
 refine op_rq (v := .slice (y.fSources_a) (y.fSources.length) (y.fSources_c)) F130 (r_ld rfl (F130.e (.pointer (some ⟨g3, 11, none⟩))) (v := .slice (y.fSources_a) (y.fSources.length) (y.fSources_c)) ((S5.bk 0 rfl).cell 11) Try.underlying22 rfl) ?_; intro a131 F131
 refine op_cq F131 (f := 123) (args := #[.slice (x.fSources_a) (x.fSources.length) (x.fSources_c), .slice (y.fSources_a) (y.fSources.length) (y.fSources_c)]) (chTexts_eq x.fSources_a x.fSources_c x.fSources y.fSources_a y.fSources_c y.fSources _ _ _ S5 (fun w S => k0 w S.drop.drop) (fun w S => k1 w S.drop.drop) (by with_reducible assumption)) ?_
 rintro _ w132 ⟨rfl, S132⟩
 refine ⟨_, rfl, ?_⟩
 intro a133 F133
 refine op_q F133 (.bool false) ?_; intro a134 F134
 refine op_q F134 (.bool false) ?_; intro a135 F135
 refine op_wq F135 ?_
 refine op_q F135 (.pointer (some ⟨g1, 12, none⟩)) ?_; intro a136 F136
 refine op_wq F136 ?_
 refine op_rq (v := .slice (x.fKeywords_a) (x.fKeywords.length) (x.fKeywords_c)) F136 (r_ld rfl (F136.e (.pointer (some ⟨g1, 12, none⟩))) (v := .slice (x.fKeywords_a) (x.fKeywords.length) (x.fKeywords_c)) ((S132.bk 1 rfl).cell 12) Try.underlying22 rfl) ?_; intro a137 F137
 refine op_wq F137 ?_
 refine op_q F137 (.pointer (some ⟨g3, 12, none⟩)) ?_; intro a138 F138
 refine op_wq F138 ?_
 refine op_rq (v := .slice (y.fKeywords_a) (y.fKeywords.length) (y.fKeywords_c)) F138 (r_ld rfl (F138.e (.pointer (some ⟨g3, 12, none⟩))) (v := .slice (y.fKeywords_a) (y.fKeywords.length) (y.fKeywords_c)) ((S132.bk 0 rfl).cell 12) Try.underlying22 rfl) ?_; intro a139 F139
 refine op_wq F139 ?_
 refine op_cq F139 (f := 123) (args := #[.slice (x.fKeywords_a) (x.fKeywords.length) (x.fKeywords_c), .slice (y.fKeywords_a) (y.fKeywords.length) (y.fKeywords_c)]) (chTexts_eq x.fKeywords_a x.fKeywords_c x.fKeywords y.fKeywords_a y.fKeywords_c y.fKeywords _ _ _ S132 (fun w S => k2 w S.drop.drop) (fun w S => k3 w S.drop.drop) (by with_reducible assumption)) ?_
 rintro _ w140 ⟨rfl, S140⟩
 refine ⟨_, rfl, ?_⟩
 intro a141 F141
 refine op_wq F141 ?_
 refine op_q F141 (.bool false) ?_; intro a142 F142
 refine op_q F142 (.bool false) ?_; intro a143 F143
 refine op_q F143 (.bool false) ?_; intro a144 F144
 refine op_wq F144 ?_
 refine op_q F144 (.pointer (some ⟨g1, 13, none⟩)) ?_; intro a145 F145
 refine op_wq F145 ?_
 refine op_rq (v := .slice (x.fMaintainers_a) (x.fMaintainers.length) (x.fMaintainers_c)) F145 (r_ld rfl (F145.e (.pointer (some ⟨g1, 13, none⟩))) (v := .slice (x.fMaintainers_a) (x.fMaintainers.length) (x.fMaintainers_c)) ((S140.bk 1 rfl).cell 13) Try.underlying23 rfl) ?_; intro a146 F146
 refine op_wq F146 ?_
 refine op_q F146 (.int .i64 (↑x.fMaintainers.length)) ?_; intro a147 F147
 refine op_wq F147 ?_
 refine op_q F147 (.pointer (some ⟨g3, 13, none⟩)) ?_; intro a148 F148
 refine op_wq F148 ?_
 refine op_rq (v := .slice (y.fMaintainers_a) (y.fMaintainers.length) (y.fMaintainers_c)) F148 (r_ld rfl (F148.e (.pointer (some ⟨g3, 13, none⟩))) (v := .slice (y.fMaintainers_a) (y.fMaintainers.length) (y.fMaintainers_c)) ((S140.bk 0 rfl).cell 13) Try.underlying23 rfl) ?_; intro a149 F149
 refine op_wq F149 ?_
 refine op_q F149 (.int .i64 (↑y.fMaintainers.length)) ?_; intro a150 F150
 refine op_wq F150 ?_
 refine op_q F150 (.bool (!((↑x.fMaintainers.length : Int) == ↑y.fMaintainers.length))) ?_; intro a151 F151
 refine op_q F151 (.bool (!((↑x.fMaintainers.length : Int) == ↑y.fMaintainers.length))) ?_; intro a152 F152
 refine op_q F152 (.bool (!((↑x.fMaintainers.length : Int) == ↑y.fMaintainers.length))) ?_; intro a153 F153
 have hc154 : ((↑x.fMaintainers.length : Int) == ↑y.fMaintainers.length) = true := (by rw [eMl]; exact beq_self_eq_true _)
 have F155 := F153.sb 105 (by kernel_rfl) (show (!((↑x.fMaintainers.length : Int) == ↑y.fMaintainers.length)) = false by rw [hc154]; rfl)
 have F156 := F155.sb 106 (by kernel_rfl) (show (!((↑x.fMaintainers.length : Int) == ↑y.fMaintainers.length)) = false by rw [hc154]; rfl)
 have F157 := F156.sb 107 (by kernel_rfl) (show (!((↑x.fMaintainers.length : Int) == ↑y.fMaintainers.length)) = false by rw [hc154]; rfl)
 refine op_wq F157 ?_
 refine op_q F157 (.pointer (some ⟨g1, 14, none⟩)) ?_; intro a158 F158
 refine op_wq F158 ?_
 refine op_rq (v := .slice (x.fDependencies_a) (x.fDependencies.length) (x.fDependencies_c)) F158 (r_ld rfl (F158.e (.pointer (some ⟨g1, 14, none⟩))) (v := .slice (x.fDependencies_a) (x.fDependencies.length) (x.fDependencies_c)) ((S140.bk 1 rfl).cell 14) Try.underlying24 rfl) ?_; intro a159 F159
 refine op_wq F159 ?_
 refine op_q F159 (.int .i64 (↑x.fDependencies.length)) ?_; intro a160 F160
 refine op_wq F160 ?_
 refine op_q F160 (.pointer (some ⟨g3, 14, none⟩)) ?_; intro a161 F161
 refine op_wq F161 ?_
 refine op_rq (v := .slice (y.fDependencies_a) (y.fDependencies.length) (y.fDependencies_c)) F161 (r_ld rfl (F161.e (.pointer (some ⟨g3, 14, none⟩))) (v := .slice (y.fDependencies_a) (y.fDependencies.length) (y.fDependencies_c)) ((S140.bk 0 rfl).cell 14) Try.underlying24 rfl) ?_; intro a162 F162
 refine op_wq F162 ?_
 refine op_q F162 (.int .i64 (↑y.fDependencies.length)) ?_; intro a163 F163
 refine op_wq F163 ?_
 refine op_q F163 (.bool (!((↑x.fDependencies.length : Int) == ↑y.fDependencies.length))) ?_; intro a164 F164
 refine op_q F164 (.bool (!((↑x.fDependencies.length : Int) == ↑y.fDependencies.length))) ?_; intro a165 F165
 refine wpList_nil ?_
 refine hK127 _ _ ?_; clear hK127 K127
 have hc166 : ((↑x.fDependencies.length : Int) == ↑y.fDependencies.length) = true := (by rw [eDl]; exact beq_self_eq_true _)
 have F167 := F165.sb 114 (by kernel_rfl) (show (!((↑x.fDependencies.length : Int) == ↑y.fDependencies.length)) = false by rw [hc166]; rfl)
 have F168 := F167.sb 115 (by kernel_rfl) (show (!((↑x.fDependencies.length : Int) == ↑y.fDependencies.length)) = false by rw [hc166]; rfl)
 refine wp_cond_false (F168.ev (by kernel_rfl)) ?_
 refine wp_skip ?_
 refine hK126 _ _ ?_; clear hK126 K126
 refine wp_seq_k fun K169 hK169 => ?_
 refine wp_seq_k fun K170 hK170 => ?_
 refine wp_region_lit ?_
 refine op_q F168 (.pointer (some ⟨g1, 13, none⟩)) ?_; intro a171 F171
 refine op_rq (v := .slice (x.fMaintainers_a) (x.fMaintainers.length) (x.fMaintainers_c)) F171 (r_ld rfl (F171.e (.pointer (some ⟨g1, 13, none⟩))) (v := .slice (x.fMaintainers_a) (x.fMaintainers.length) (x.fMaintainers_c)) ((S140.bk 1 rfl).cell 13) Try.underlying23 rfl) ?_; intro a172 F172
 refine op_q F172 (.int .i64 (↑x.fMaintainers.length)) ?_; intro a173 F173
 refine op_q F173 (.int .i64 0) ?_; intro a174 F174
 refine wpList_nil ?_
 refine hK170 _ _ ?_; clear hK170 K170
 refine wp_block ?_
 refine fw_loop (fun m' a' w' => ∃ k : Nat, x.fMaintainers.length - k = m' ∧ Fr 149 [] a' [(2, .pointer (some ⟨g1, 0, none⟩)), (3, .pointer (some ⟨g3, 0, none⟩)), (117, .slice (x.fMaintainers_a) (x.fMaintainers.length) (x.fMaintainers_c)), (118, .int .i64 (↑x.fMaintainers.length)), (119, .int .i64 (↑k))] ∧ Sp R w' (SA.blk g3 26 (zq2 y) :: SA.blk g1 26 (zq2 x) :: L) ∧ (k ≤ x.fMaintainers.length)) _ ⟨0, rfl, (F174.kk 2 (F174.kk 3 (F174.kk 117 (F174.kk 118 (F174.kk 119 F174.nil))))), S140.p1.p1, (by first | omega | (with_reducible assumption) | (simp; done))⟩ ?_
 rintro m175 a175 w175 ⟨k, hm175, F175, S175, hk⟩ K175 hK175
 by_cases hlt_k : k < x.fMaintainers.length
 ·have hc_k : decide ((↑k : Int) < ↑x.fMaintainers.length) = true := by first | (simp; done) | (simp; omega)
  obtain ⟨ad176, hA176⟩ := (k4 _ S175.drop.drop).addr (by simp; omega)
  obtain ⟨ad177, hA177⟩ := (k5 _ S175.drop.drop).addr (by simp; omega)
  refine wp_seq_k fun K178 hK178 => ?_
  refine wp_region_lit ?_
  refine op_q F175 (.bool (decide ((↑k : Int) < ↑x.fMaintainers.length))) ?_; intro a179 F179
  have F180 := F179.sb 120 (by kernel_rfl) hc_k
  refine wpList_nil ?_
  refine hK178 _ _ ?_; clear hK178 K178
  refine wp_seq_k fun K181 hK181 => ?_
  refine wp_cond_true (F180.ev (by kernel_rfl)) ?_
  refine wp_skip ?_
  refine hK181 _ _ ?_; clear hK181 K181
  refine wp_seq_k fun K182 hK182 => ?_
  refine wp_block ?_
  refine wp_seq_k fun K183 hK183 => ?_
  refine wp_region_lit ?_
  refine op_q F180 (.int .i64 (↑k)) ?_; intro a184 F184
  refine op_rq (v := .pointer (some (ad176.add (k * 4)))) F184 (r_ix rfl Try.underlying23 4 (by kernel_rfl) (F184.e (.slice (x.fMaintainers_a) (x.fMaintainers.length) (x.fMaintainers_c))) hA176 (F184.e (.int .i64 (↑k))) k (by first | rfl | omega | simp) (by first | omega | (simp; done) | (simp; omega)) (rfl)) ?_; intro a185 F185
  refine op_rq (v := .agg (zq4 x.fMaintainers[k])) F185 (r_ldR rfl (F185.e (.pointer (some (ad176.add (k * 4))))) (cs := [.bool x.fMaintainers[k].fNil, .string x.fMaintainers[k].fName, .string x.fMaintainers[k].fEmail, .string x.fMaintainers[k].fURL]) ((k4 _ S175.drop.drop).elA hA176 (j := k) (row := x.fMaintainers[k].cells) (by rw [List.getElem?_map, List.getElem?_eq_getElem hlt_k]; rfl)) Try.underlying78 rfl (by kernel_rfl) (v := (zq4 x.fMaintainers[k])) (by kernel_rfl)) ?_; intro a186 F186
  refine op_sq F186 (s_newp F186 78 #[.bool false, .string ⟨#[]⟩, .string ⟨#[]⟩, .string ⟨#[]⟩] (by kernel_rfl) (by kernel_rfl) (by kernel_rfl) S175) ?_
  rintro _ _ w188 ⟨g186, rfl, rfl⟩ S188 a188 F188
  refine op_q F188 (.int .i64 (↑k)) ?_; intro a189 F189
  refine op_sq0 F189 (s_stb rfl (F189.e (.pointer (some ⟨g186, 0, none⟩))) (F189.e (.agg (zq4 x.fMaintainers[k]))) S188 (by kernel_rfl) rfl (by kernel_rfl)) ?_
  rintro _ _ w190 rfl S190 F190
  refine wpList_nil ?_
  refine hK183 _ _ ?_; clear hK183 K183
  refine wp_seq_k fun K191 hK191 => ?_
  refine wp_region_sepF (L0 := SA.blk g186 78 (zq4 x.fMaintainers[k]) :: SA.blk g3 26 (zq2 y) :: SA.blk g1 26 (zq2 x) :: L) [some [], some [], some [(1, 125)], some [], some [(2, 126), (3, 127)], some [(4, 128)], some [(0, 124), (5, 129)]] [.v 124 (.agg (zq4 x.fMaintainers[k])), .v 125 (.pointer (some ⟨g3, 13, none⟩)), .v 126 (.slice (y.fMaintainers_a) (y.fMaintainers.length) (y.fMaintainers_c)), .v 127 (.int .i64 (↑k)), .v 128 (.pointer (some (ad177.add (k * 4)))), .v 129 (.agg (zq4 x.fMaintainers[k])), .v 130 (.bool (!((x.fMaintainers[k].fNil == x.fMaintainers[k].fNil) && (x.fMaintainers[k].fName.toList == x.fMaintainers[k].fName.toList) && (x.fMaintainers[k].fEmail.toList == x.fMaintainers[k].fEmail.toList) && (x.fMaintainers[k].fURL.toList == x.fMaintainers[k].fURL.toList))))] [] F190 rfl (by kernel_rfl) S190 ?_ ?_
  ·refine ⟨?_, ?_, ?_, ?_, ?_, ?_, ?_, trivial⟩
   ·intro w206 M206
    intro a206 F206 S206
    refine obl_of (by rfl) ?_
    exact s_r (v := .agg (zq4 x.fMaintainers[k])) (r_ldm rfl (F206.e (.pointer (some ⟨g186, 0, none⟩))) ((Sp.dropM S206.drop).bk 0 rfl) 4 (by kernel_rfl) Try.underlying78 rfl (by kernel_rfl) (v := (zq4 x.fMaintainers[k])) (by kernel_rfl)) S206
   ·intro w207 M207
    intro a207 F207 S207
    refine obl_of (by rfl) ?_
    exact s_p F207 (v := .pointer (some ⟨g3, 13, none⟩)) (by kernel_rfl) (by kernel_rfl) (by kernel_rfl) S207
   ·intro w208 M208
    intro a208 F208 S208
    refine obl_of (by rfl) ?_
    exact s_r (v := .slice (y.fMaintainers_a) (y.fMaintainers.length) (y.fMaintainers_c)) (r_ld rfl (F208.e (.pointer (some ⟨g3, 13, none⟩))) (v := .slice (y.fMaintainers_a) (y.fMaintainers.length) (y.fMaintainers_c)) (((Sp.dropM S208.drop).bk 1 rfl).cell 13) Try.underlying23 rfl) S208
   ·intro w210 M210
    intro a210 F210 S210
    refine obl_of (by rfl) ?_
    exact s_p F210 (v := .int .i64 (↑k)) (by kernel_rfl) (by kernel_rfl) (by kernel_rfl) S210
   ·intro w211 M211
    intro a211 F211 S211
    refine obl_of (by rfl) ?_
    exact s_r (v := .pointer (some (ad177.add (k * 4)))) (r_ix rfl Try.underlying23 4 (by kernel_rfl) (F211.e (.slice (y.fMaintainers_a) (y.fMaintainers.length) (y.fMaintainers_c))) hA177 (F211.e (.int .i64 (↑k))) k (by first | rfl | omega | simp) (by first | omega | (simp; done) | (simp; omega)) (rfl)) S211
   ·intro w214 M214
    intro a214 F214 S214
    refine obl_of (by rfl) ?_
    exact s_r (v := .agg (zq4 x.fMaintainers[k])) (r_ldR rfl (F214.e (.pointer (some (ad177.add (k * 4))))) (cs := [.bool x.fMaintainers[k].fNil, .string x.fMaintainers[k].fName, .string x.fMaintainers[k].fEmail, .string x.fMaintainers[k].fURL]) ((k5 _ (Sp.dropM S214.drop).drop.drop.drop).elA hA177 (j := k) (row := x.fMaintainers[k].cells) (by rw [List.getElem?_map, List.getElem?_eq_getElem hlt_k]; rfl)) Try.underlying78 rfl (by kernel_rfl) (v := (zq4 x.fMaintainers[k])) (by kernel_rfl)) S214
   ·intro w216 M216
    intro a216 F216 S216
    refine obl_of (by rfl) ?_
    exact s_r (v := .bool (!((x.fMaintainers[k].fNil == x.fMaintainers[k].fNil) && (x.fMaintainers[k].fName.toList == x.fMaintainers[k].fName.toList) && (x.fMaintainers[k].fEmail.toList == x.fMaintainers[k].fEmail.toList) && (x.fMaintainers[k].fURL.toList == x.fMaintainers[k].fURL.toList)))) (r_eq (neqT78 x.fMaintainers[k].fNil x.fMaintainers[k].fNil x.fMaintainers[k].fName x.fMaintainers[k].fName x.fMaintainers[k].fEmail x.fMaintainers[k].fEmail x.fMaintainers[k].fURL x.fMaintainers[k].fURL _) rfl (F216.e (.agg (zq4 x.fMaintainers[k]))) (F216.e (.agg (zq4 x.fMaintainers[k]))) (by kernel_rfl)) S216
  ·intro a221 w220 F221 S220
   have S222 : Sp R w220 (SA.blk g186 78 (zq4 x.fMaintainers[k]) :: SA.blk g3 26 (zq2 y) :: SA.blk g1 26 (zq2 x) :: L) := S220
   refine wpList_nil ?_
   refine hK191 _ _ ?_; clear hK191 K191
   have hc223 : ((x.fMaintainers[k].fNil == x.fMaintainers[k].fNil) && (x.fMaintainers[k].fName.toList == x.fMaintainers[k].fName.toList) && (x.fMaintainers[k].fEmail.toList == x.fMaintainers[k].fEmail.toList) && (x.fMaintainers[k].fURL.toList == x.fMaintainers[k].fURL.toList)) = true := (by simp)
   have F224 := F221.sb 130 (by kernel_rfl) (show (!((x.fMaintainers[k].fNil == x.fMaintainers[k].fNil) && (x.fMaintainers[k].fName.toList == x.fMaintainers[k].fName.toList) && (x.fMaintainers[k].fEmail.toList == x.fMaintainers[k].fEmail.toList) && (x.fMaintainers[k].fURL.toList == x.fMaintainers[k].fURL.toList))) = false by rw [hc223]; rfl)
   refine wp_cond_false (F224.ev (by kernel_rfl)) ?_
   refine wp_skip ?_
   refine hK182 _ _ ?_; clear hK182 K182
   refine wp_region_lit ?_
   refine op_rq (v := .int .i64 (↑(k + 1))) F224 (r_add (z := ↑(k + 1)) rfl (F224.e (.int .i64 (↑k))) (F224.e (.int .i64 1)) (wr64 (by omega) (by omega) (by omega))) ?_; intro a225 F225
   refine op_q F225 (.int .i64 (↑(k + 1))) ?_; intro a226 F226
   refine wpList_nil ?_
   exact hK175 _ _ _ (by first | omega | (simp; omega)) ⟨k + 1, rfl, (F226.kk 2 (F226.kk 3 (F226.kk 117 (F226.kk 118 (F226.kk 119 F226.nil))))), S222.drop.p1.p1, (by first | omega | (with_reducible assumption) | (simp; done))⟩
 ·have hc_k : decide ((↑k : Int) < ↑x.fMaintainers.length) = false := by first | (simp; done) | (simp; omega)
  refine wp_seq_k fun K227 hK227 => ?_
  refine wp_region_lit ?_
  refine op_q F175 (.bool (decide ((↑k : Int) < ↑x.fMaintainers.length))) ?_; intro a228 F228
  have F229 := F228.sb 120 (by kernel_rfl) hc_k
  refine wpList_nil ?_
  refine hK227 _ _ ?_; clear hK227 K227
  refine wp_seq_k fun K230 hK230 => ?_
  refine wp_cond_false (F229.ev (by kernel_rfl)) ?_
  refine wp_exit ?_
  refine ex_then ?_; clear hK230 K230
  refine ex_then ?_
  refine ex_in ?_
  refine hK169 _ _ ?_; clear hK169 K169
  refine wp_seq_k fun K231 hK231 => ?_
  refine wp_seq_k fun K232 hK232 => ?_
  refine wp_region_lit ?_
  refine op_q F229 (.pointer (some ⟨g1, 14, none⟩)) ?_; intro a233 F233
  refine op_rq (v := .slice (x.fDependencies_a) (x.fDependencies.length) (x.fDependencies_c)) F233 (r_ld rfl (F233.e (.pointer (some ⟨g1, 14, none⟩))) (v := .slice (x.fDependencies_a) (x.fDependencies.length) (x.fDependencies_c)) ((S175.bk 1 rfl).cell 14) Try.underlying24 rfl) ?_; intro a234 F234
  refine op_q F234 (.int .i64 (↑x.fDependencies.length)) ?_; intro a235 F235
  refine op_q F235 (.int .i64 0) ?_; intro a236 F236
  refine wpList_nil ?_
  refine hK232 _ _ ?_; clear hK232 K232
  refine wp_block ?_
  refine fw_loop (fun m' a' w' => ∃ j : Nat, x.fDependencies.length - j = m' ∧ Fr 149 [] a' [(3, .pointer (some ⟨g3, 0, none⟩)), (133, .slice (x.fDependencies_a) (x.fDependencies.length) (x.fDependencies_c)), (134, .int .i64 (↑x.fDependencies.length)), (135, .int .i64 (↑j))] ∧ Sp R w' (SA.blk g3 26 (zq2 y) :: SA.blk g1 26 (zq2 x) :: L) ∧ (j ≤ x.fDependencies.length)) _ ⟨0, rfl, (F236.kk 3 (F236.kk 133 (F236.kk 134 (F236.kk 135 F236.nil)))), S175.p1.p1, (by first | omega | (with_reducible assumption) | (simp; done))⟩ ?_
  rintro m237 a237 w237 ⟨j, hm237, F237, S237, hj⟩ K237 hK237
  by_cases hlt_j : j < x.fDependencies.length
  ·have hc_j : decide ((↑j : Int) < ↑x.fDependencies.length) = true := by first | (simp; done) | (simp; omega)
   have hlt_j2 : j < y.fDependencies.length := by omega
   have hdj : depS x.fDependencies[j] = depS y.fDependencies[j] := by have := congrArg (fun l => l[j]?) eD; simpa [List.getElem?_eq_getElem hlt_j, List.getElem?_eq_getElem hlt_j2] using this
   have t0 : Rf R L fun w => Sl w x.fDependencies[j].fTags_a (strs x.fDependencies[j].fTags) := fun w S => (h0 w S).2.2.2.2 _ (List.getElem_mem hlt_j)
   have t1 : Rf R L fun w => Sl w y.fDependencies[j].fTags_a (strs y.fDependencies[j].fTags) := fun w S => (h1 w S).2.2.2.2 _ (List.getElem_mem hlt_j2)
   obtain ⟨ad238, hA238⟩ := (k6 _ S237.drop.drop).addr (by simp; omega)
   obtain ⟨ad239, hA239⟩ := (k7 _ S237.drop.drop).addr (by simp; omega)
   refine wp_seq_k fun K240 hK240 => ?_
   refine wp_region_lit ?_
   refine op_q F237 (.bool (decide ((↑j : Int) < ↑x.fDependencies.length))) ?_; intro a241 F241
   have F242 := F241.sb 136 (by kernel_rfl) hc_j
   refine wpList_nil ?_
   refine hK240 _ _ ?_; clear hK240 K240
   refine wp_seq_k fun K243 hK243 => ?_
   refine wp_cond_true (F242.ev (by kernel_rfl)) ?_
   refine wp_skip ?_
   refine hK243 _ _ ?_; clear hK243 K243
   refine wp_seq_k fun K244 hK244 => ?_
   refine wp_block ?_
   refine wp_seq_k fun K245 hK245 => ?_
   refine wp_region_lit ?_
   refine op_q F242 (.int .i64 (↑j)) ?_; intro a246 F246
   refine op_rq (v := .pointer (some (ad238.add (j * 7)))) F246 (r_ix rfl Try.underlying24 7 (by kernel_rfl) (F246.e (.slice (x.fDependencies_a) (x.fDependencies.length) (x.fDependencies_c))) hA238 (F246.e (.int .i64 (↑j))) j (by first | rfl | omega | simp) (by first | omega | (simp; done) | (simp; omega)) (rfl)) ?_; intro a247 F247
   refine op_rq (v := .agg (zq5 x.fDependencies[j])) F247 (r_ldR rfl (F247.e (.pointer (some (ad238.add (j * 7))))) (cs := [.bool x.fDependencies[j].fNil, .string x.fDependencies[j].fName, .string x.fDependencies[j].fVersion, .string x.fDependencies[j].fRepository, .string x.fDependencies[j].fCondition, .slice x.fDependencies[j].fTags_a x.fDependencies[j].fTags.length x.fDependencies[j].fTags_c, .string x.fDependencies[j].fAlias]) ((k6 _ S237.drop.drop).elA hA238 (j := j) (row := x.fDependencies[j].cells) (by rw [List.getElem?_map, List.getElem?_eq_getElem hlt_j]; rfl)) Try.underlying80 rfl (by kernel_rfl) (v := (zq5 x.fDependencies[j])) (by kernel_rfl)) ?_; intro a248 F248
   refine op_sq F248 (s_newp F248 80 zq6 (by kernel_rfl) (by kernel_rfl) (by kernel_rfl) S237) ?_
   rintro _ _ w250 ⟨g248, rfl, rfl⟩ S250 a250 F250
   refine op_q F250 (.int .i64 (↑j)) ?_; intro a251 F251
   refine op_sq0 F251 (s_stb rfl (F251.e (.pointer (some ⟨g248, 0, none⟩))) (F251.e (.agg (zq5 x.fDependencies[j]))) S250 (by kernel_rfl) rfl (by kernel_rfl)) ?_
   rintro _ _ w252 rfl S252 F252
   refine wpList_nil ?_
   refine hK245 _ _ ?_; clear hK245 K245
   refine wp_seq_k fun K253 hK253 => ?_
   refine wp_region_sepF (L0 := SA.blk g248 80 (zq5 x.fDependencies[j]) :: SA.blk g3 26 (zq2 y) :: SA.blk g1 26 (zq2 x) :: L) [some [], some [], some [(1, 141)], some [], some [(2, 142), (3, 143)], some [(4, 144)], some [(0, 140), (5, 145)], some [(6, 146)]] [.v 140 (.agg (zq5 x.fDependencies[j])), .v 141 (.pointer (some ⟨g3, 14, none⟩)), .v 142 (.slice (y.fDependencies_a) (y.fDependencies.length) (y.fDependencies_c)), .v 143 (.int .i64 (↑j)), .v 144 (.pointer (some (ad239.add (j * 7)))), .v 145 (.agg (zq5 y.fDependencies[j])), .v 146 (.bool true), .v 147 (.bool false)] [] F252 rfl (by kernel_rfl) S252 ?_ ?_
   ·refine ⟨?_, ?_, ?_, ?_, ?_, ?_, ?_, ?_, trivial⟩
    ·intro w270 M270
     intro a270 F270 S270
     refine obl_of (by rfl) ?_
     exact s_r (v := .agg (zq5 x.fDependencies[j])) (r_ldm rfl (F270.e (.pointer (some ⟨g248, 0, none⟩))) ((Sp.dropM S270.drop).bk 0 rfl) 7 (by kernel_rfl) Try.underlying80 rfl (by kernel_rfl) (v := (zq5 x.fDependencies[j])) (by kernel_rfl)) S270
    ·intro w271 M271
     intro a271 F271 S271
     refine obl_of (by rfl) ?_
     exact s_p F271 (v := .pointer (some ⟨g3, 14, none⟩)) (by kernel_rfl) (by kernel_rfl) (by kernel_rfl) S271
    ·intro w272 M272
     intro a272 F272 S272
     refine obl_of (by rfl) ?_
     exact s_r (v := .slice (y.fDependencies_a) (y.fDependencies.length) (y.fDependencies_c)) (r_ld rfl (F272.e (.pointer (some ⟨g3, 14, none⟩))) (v := .slice (y.fDependencies_a) (y.fDependencies.length) (y.fDependencies_c)) (((Sp.dropM S272.drop).bk 1 rfl).cell 14) Try.underlying24 rfl) S272
    ·intro w274 M274
     intro a274 F274 S274
     refine obl_of (by rfl) ?_
     exact s_p F274 (v := .int .i64 (↑j)) (by kernel_rfl) (by kernel_rfl) (by kernel_rfl) S274
    ·intro w275 M275
     intro a275 F275 S275
     refine obl_of (by rfl) ?_
     exact s_r (v := .pointer (some (ad239.add (j * 7)))) (r_ix rfl Try.underlying24 7 (by kernel_rfl) (F275.e (.slice (y.fDependencies_a) (y.fDependencies.length) (y.fDependencies_c))) hA239 (F275.e (.int .i64 (↑j))) j (by first | rfl | omega | simp) (by first | omega | (simp; done) | (simp; omega)) (rfl)) S275
    ·intro w278 M278
     intro a278 F278 S278
     refine obl_of (by rfl) ?_
     exact s_r (v := .agg (zq5 y.fDependencies[j])) (r_ldR rfl (F278.e (.pointer (some (ad239.add (j * 7))))) (cs := [.bool y.fDependencies[j].fNil, .string y.fDependencies[j].fName, .string y.fDependencies[j].fVersion, .string y.fDependencies[j].fRepository, .string y.fDependencies[j].fCondition, .slice y.fDependencies[j].fTags_a y.fDependencies[j].fTags.length y.fDependencies[j].fTags_c, .string y.fDependencies[j].fAlias]) ((k7 _ (Sp.dropM S278.drop).drop.drop.drop).elA hA239 (j := j) (row := y.fDependencies[j].cells) (by rw [List.getElem?_map, List.getElem?_eq_getElem hlt_j2]; rfl)) Try.underlying80 rfl (by kernel_rfl) (v := (zq5 y.fDependencies[j])) (by kernel_rfl)) S278
    ·intro w280 M280
     intro a280 F280 S280
     refine obl_of (by rfl) ?_
     refine s_c F280 (f := 124) (args := #[.agg (zq5 x.fDependencies[j]), .agg (zq5 y.fDependencies[j])]) (by kernel_rfl) (by kernel_rfl) (by kernel_rfl) (sameDep_yes x.fDependencies[j] y.fDependencies[j] _ _ _ S280.drop (fun w S => t0 w (Sp.dropM S).drop.drop.drop) (fun w S => t1 w (Sp.dropM S).drop.drop.drop) (by with_reducible assumption)) ?_
     rintro _ _ ⟨rfl, S283⟩
     exact ⟨_, _, rfl, ⟨rfl, rfl⟩, S283.emp⟩
    ·intro w284 M284
     intro a284 F284 S284
     refine obl_of (by rfl) ?_
     exact s_p F284 (v := .bool false) (by kernel_rfl) (by kernel_rfl) (by kernel_rfl) S284
   ·intro a287 w286 F287 S286
    have S288 : Sp R w286 (SA.blk g248 80 (zq5 x.fDependencies[j]) :: SA.blk g3 26 (zq2 y) :: SA.blk g1 26 (zq2 x) :: L) := S286
    refine wpList_nil ?_
    refine hK253 _ _ ?_; clear hK253 K253
    refine wp_cond_false (F287.ev (by kernel_rfl)) ?_
    refine wp_skip ?_
    refine hK244 _ _ ?_; clear hK244 K244
    refine wp_region_lit ?_
    refine op_rq (v := .int .i64 (↑(j + 1))) F287 (r_add (z := ↑(j + 1)) rfl (F287.e (.int .i64 (↑j))) (F287.e (.int .i64 1)) (wr64 (by omega) (by omega) (by omega))) ?_; intro a289 F289
    refine op_q F289 (.int .i64 (↑(j + 1))) ?_; intro a290 F290
    refine wpList_nil ?_
    exact hK237 _ _ _ (by first | omega | (simp; omega)) ⟨j + 1, rfl, (F290.kk 3 (F290.kk 133 (F290.kk 134 (F290.kk 135 F290.nil)))), S288.drop.p1.p1, (by first | omega | (with_reducible assumption) | (simp; done))⟩
  ·have hc_j : decide ((↑j : Int) < ↑x.fDependencies.length) = false := by first | (simp; done) | (simp; omega)
   refine wp_seq_k fun K291 hK291 => ?_
   refine wp_region_lit ?_
   refine op_q F237 (.bool (decide ((↑j : Int) < ↑x.fDependencies.length))) ?_; intro a292 F292
   have F293 := F292.sb 136 (by kernel_rfl) hc_j
   refine wpList_nil ?_
   refine hK291 _ _ ?_; clear hK291 K291
   refine wp_seq_k fun K294 hK294 => ?_
   refine wp_cond_false (F293.ev (by kernel_rfl)) ?_
   refine wp_exit ?_
   refine ex_then ?_; clear hK294 K294
   refine ex_then ?_
   refine ex_in ?_
   refine hK231 _ _ ?_; clear hK231 K231
   refine wp_seq_k fun K295 hK295 => ?_
   refine wp_region_lit ?_
   refine op_q F293 (.bool true) ?_; intro a296 F296
   refine wpList_nil ?_
   refine hK295 _ _ ?_; clear hK295 K295
   refine wp_ret ?_
   refine (F296.res1 rfl (v := .bool true) (by kernel_rfl) ?_).1
   exact ⟨rfl, S237.drop.drop⟩
end Go.Proofs.Ytkjcedlgljeoiaa

/- spec.IxSameEntry of the same; the walk of FnVersionFind. -/
namespace Go.Proofs.Ytkjcedlgljeoiaa
open Go.RowKit Go.Lib
set_option linter.unusedVariables false
set_option linter.unusedSimpArgs false
abbrev zq23 (x0 : Ty69) : Array Value := #[.string x0.fMeta.fName, .string x0.fMeta.fHome, .string x0.fMeta.fVersion, .string x0.fMeta.fDescription, .string x0.fMeta.fIcon, .string x0.fMeta.fAPIVersion, .string x0.fMeta.fCondition, .string x0.fMeta.fTags, .string x0.fMeta.fAppVersion, .string x0.fMeta.fKubeVersion, .string x0.fMeta.fType, .slice (x0.fMeta.fSources_a) (x0.fMeta.fSources.length) (x0.fMeta.fSources_c), .slice (x0.fMeta.fKeywords_a) (x0.fMeta.fKeywords.length) (x0.fMeta.fKeywords_c), .slice (x0.fMeta.fMaintainers_a) (x0.fMeta.fMaintainers.length) (x0.fMeta.fMaintainers_c), .slice (x0.fMeta.fDependencies_a) (x0.fMeta.fDependencies.length) (x0.fMeta.fDependencies_c)]
set_option maxRecDepth 100000 in
set_option maxHeartbeats 20000000 in
theorem sameEnt0_yes (x : Ty69) (y : Ty69) (R : Ctx) (L : List SA) (w : World) (S : Sp R w (L)) (h0 : Rf R L fun w => Sl w (x.fURLs_a) (strs x.fURLs)) (h1 : Rf R L fun w => Sl w (y.fURLs_a) (strs y.fURLs)) (h2 : Rf R L fun w => MetaAt w x.fMeta) (h3 : Rf R L fun w => MetaAt w y.fMeta) (he : entS x = entS y) :
  Calls Try.prog 88 #[.agg #[.bool x.fNil, .bool x.fBare, .string x.fMeta.fName, .string x.fMeta.fHome, .string x.fMeta.fVersion, .string x.fMeta.fDescription, .string x.fMeta.fIcon, .string x.fMeta.fAPIVersion, .string x.fMeta.fCondition, .string x.fMeta.fTags, .string x.fMeta.fAppVersion, .string x.fMeta.fKubeVersion, .string x.fMeta.fType, .slice (x.fMeta.fSources_a) (x.fMeta.fSources.length) (x.fMeta.fSources_c), .slice (x.fMeta.fKeywords_a) (x.fMeta.fKeywords.length) (x.fMeta.fKeywords_c), .slice (x.fMeta.fMaintainers_a) (x.fMeta.fMaintainers.length) (x.fMeta.fMaintainers_c), .slice (x.fMeta.fDependencies_a) (x.fMeta.fDependencies.length) (x.fMeta.fDependencies_c), .slice (x.fURLs_a) (x.fURLs.length) (x.fURLs_c), .string x.fDigest], .agg #[.bool y.fNil, .bool y.fBare, .string y.fMeta.fName, .string y.fMeta.fHome, .string y.fMeta.fVersion, .string y.fMeta.fDescription, .string y.fMeta.fIcon, .string y.fMeta.fAPIVersion, .string y.fMeta.fCondition, .string y.fMeta.fTags, .string y.fMeta.fAppVersion, .string y.fMeta.fKubeVersion, .string y.fMeta.fType, .slice (y.fMeta.fSources_a) (y.fMeta.fSources.length) (y.fMeta.fSources_c), .slice (y.fMeta.fKeywords_a) (y.fMeta.fKeywords.length) (y.fMeta.fKeywords_c), .slice (y.fMeta.fMaintainers_a) (y.fMeta.fMaintainers.length) (y.fMeta.fMaintainers_c), .slice (y.fMeta.fDependencies_a) (y.fMeta.fDependencies.length) (y.fMeta.fDependencies_c), .slice (y.fURLs_a) (y.fURLs.length) (y.fURLs_c), .string y.fDigest]] w fun e w' => e = .returned (.bool true) ∧ Sp R w' (L) := by
 have hl_x_fURLs : x.fURLs.length ≤ 9223372036854775807 := by have := (h0 _ S).1; simpa [strs, ptrs, pps] using this
 have hl_y_fURLs : y.fURLs.length ≤ 9223372036854775807 := by have := (h1 _ S).1; simpa [strs, ptrs, pps] using this
 have hE : ∀ {α : Type} (f : Ty69 → α), f (entS x) = f (entS y) := fun f => by rw [he]
 have hn_Nil : x.fNil = y.fNil := hE (·.fNil)
 have hn_Bare : x.fBare = y.fBare := hE (·.fBare)
 have hn_Digest : x.fDigest = y.fDigest := hE (·.fDigest)
 have heU : y.fURLs = x.fURLs := (hE (·.fURLs)).symm
 have heM : metS x.fMeta = metS y.fMeta := hE (·.fMeta)
 refine fw_enter (fn := Try.f88) rfl rfl 38 rfl (Nat.le_of_ble_eq_true rfl) ?_
 intro a0 F0
 refine wp_seq_k fun K1 hK1 => ?_
 refine wp_region_lit ?_
 refine op_sq F0 (s_newp F0 69 (zq17 x) (by kernel_rfl) (by kernel_rfl) (by kernel_rfl) S) ?_
 rintro _ _ w3 ⟨g1, rfl, rfl⟩ S3 a3 F3
 refine op_sq F3 (s_newp F3 69 (zq17 y) (by kernel_rfl) (by kernel_rfl) (by kernel_rfl) S3) ?_
 rintro _ _ w5 ⟨g3, rfl, rfl⟩ S5 a5 F5
 refine op_q F5 (.bool false) ?_; intro a6 F6
 refine wpList_nil ?_
 refine hK1 _ _ ?_; clear hK1 K1
 refine wp_seq_k fun K7 hK7 => ?_
 refine wp_region_lit ?_
 refine op_q F6 (.pointer (some ⟨g1, 0, none⟩)) ?_; intro a8 F8
 refine op_rq (v := .bool x.fNil) F8 (r_ld rfl (F8.e (.pointer (some ⟨g1, 0, none⟩))) (v := .bool x.fNil) ((S5.bk 1 rfl).cell 0) Try.underlying4 rfl) ?_; intro a9 F9
 refine op_q F9 (.pointer (some ⟨g3, 0, none⟩)) ?_; intro a10 F10
 refine op_rq (v := .bool y.fNil) F10 (r_ld rfl (F10.e (.pointer (some ⟨g3, 0, none⟩))) (v := .bool y.fNil) ((S5.bk 0 rfl).cell 0) Try.underlying4 rfl) ?_; intro a11 F11
 refine op_q F11 (.bool (x.fNil == y.fNil)) ?_; intro a12 F12
 refine op_q F12 (.bool (x.fNil == y.fNil)) ?_; intro a13 F13
 have hc14 : (x.fNil == y.fNil) = true := (by rw [hn_Nil]; exact beq_self_eq_true _)
 have F15 := F13.sb 9 (by kernel_rfl) hc14
 have F16 := F15.sb 10 (by kernel_rfl) hc14
 refine op_wq F16 ?_
 refine op_q F16 (.pointer (some ⟨g1, 1, none⟩)) ?_; intro a17 F17
 refine op_wq F17 ?_
 refine op_rq (v := .bool x.fBare) F17 (r_ld rfl (F17.e (.pointer (some ⟨g1, 1, none⟩))) (v := .bool x.fBare) ((S5.bk 1 rfl).cell 1) Try.underlying4 rfl) ?_; intro a18 F18
 refine op_wq F18 ?_
 refine op_q F18 (.pointer (some ⟨g3, 1, none⟩)) ?_; intro a19 F19
 refine op_wq F19 ?_
 refine op_rq (v := .bool y.fBare) F19 (r_ld rfl (F19.e (.pointer (some ⟨g3, 1, none⟩))) (v := .bool y.fBare) ((S5.bk 0 rfl).cell 1) Try.underlying4 rfl) ?_; intro a20 F20
 refine op_wq F20 ?_
 refine op_q F20 (.bool (x.fBare == y.fBare)) ?_; intro a21 F21
 refine op_q F21 (.bool (x.fBare == y.fBare)) ?_; intro a22 F22
 refine op_q F22 (.bool (x.fBare == y.fBare)) ?_; intro a23 F23
 have hc24 : (x.fBare == y.fBare) = true := (by rw [hn_Bare]; exact beq_self_eq_true _)
 have F25 := F23.sb 15 (by kernel_rfl) hc24
 have F26 := F25.sb 16 (by kernel_rfl) hc24
 have F27 := F26.sb 17 (by kernel_rfl) hc24
 refine op_wq F27 ?_
 refine op_q F27 (.pointer (some ⟨g1, 18, none⟩)) ?_; intro a28 F28
 refine op_wq F28 ?_
 refine op_rq (v := .string x.fDigest) F28 (r_ld rfl (F28.e (.pointer (some ⟨g1, 18, none⟩))) (v := .string x.fDigest) ((S5.bk 1 rfl).cell 18) Try.underlying9 rfl) ?_; intro a29 F29
 refine op_wq F29 ?_
 refine op_q F29 (.pointer (some ⟨g3, 18, none⟩)) ?_; intro a30 F30
 refine op_wq F30 ?_
 refine op_rq (v := .string y.fDigest) F30 (r_ld rfl (F30.e (.pointer (some ⟨g3, 18, none⟩))) (v := .string y.fDigest) ((S5.bk 0 rfl).cell 18) Try.underlying9 rfl) ?_; intro a31 F31
 refine op_wq F31 ?_
 refine op_q F31 (.bool (x.fDigest.toList == y.fDigest.toList)) ?_; intro a32 F32
 refine op_q F32 (.bool (x.fDigest.toList == y.fDigest.toList)) ?_; intro a33 F33
 refine op_q F33 (.bool (x.fDigest.toList == y.fDigest.toList)) ?_; intro a34 F34
 have hc35 : (x.fDigest.toList == y.fDigest.toList) = true := (by rw [hn_Digest]; exact beq_self_eq_true _)
 have F36 := F34.sb 22 (by kernel_rfl) hc35
 have F37 := F36.sb 23 (by kernel_rfl) hc35
 have F38 := F37.sb 24 (by kernel_rfl) hc35
 refine op_wq F38 ?_
 refine op_q F38 (.pointer (some ⟨g1, 17, none⟩)) ?_; intro a39 F39
 refine op_wq F39 ?_
 refine op_rq (v := .slice (x.fURLs_a) (x.fURLs.length) (x.fURLs_c)) F39 (r_ld rfl (F39.e (.pointer (some ⟨g1, 17, none⟩))) (v := .slice (x.fURLs_a) (x.fURLs.length) (x.fURLs_c)) ((S5.bk 1 rfl).cell 17) Try.underlying22 rfl) ?_; intro a40 F40
 refine op_wq F40 ?_
 refine op_q F40 (.pointer (some ⟨g3, 17, none⟩)) ?_; intro a41 F41
 refine op_wq F41 ?_
 refine op_rq (v := .slice (y.fURLs_a) (y.fURLs.length) (y.fURLs_c)) F41 (r_ld rfl (F41.e (.pointer (some ⟨g3, 17, none⟩))) (v := .slice (y.fURLs_a) (y.fURLs.length) (y.fURLs_c)) ((S5.bk 0 rfl).cell 17) Try.underlying22 rfl) ?_; intro a42 F42
 refine op_wq F42 ?_
 refine op_cq F42 (f := 123) (args := #[.slice (x.fURLs_a) (x.fURLs.length) (x.fURLs_c), .slice (y.fURLs_a) (y.fURLs.length) (y.fURLs_c)]) (chTexts_eq x.fURLs_a x.fURLs_c x.fURLs y.fURLs_a y.fURLs_c y.fURLs _ _ _ S5 (fun w S => h0 w S.drop.drop) (fun w S => h1 w S.drop.drop) (by with_reducible assumption)) ?_
 rintro _ w43 ⟨rfl, S43⟩
 refine ⟨_, rfl, ?_⟩
 intro a44 F44
 refine op_q F44 (.bool true) ?_; intro a45 F45
 refine op_q F45 (.bool true) ?_; intro a46 F46
 refine op_wq F46 ?_
 refine op_q F46 (.pointer (some ⟨g1, 2, none⟩)) ?_; intro a47 F47
 refine op_wq F47 ?_
 refine op_rq (v := .agg (zq23 x)) F47 (r_ldm rfl (F47.e (.pointer (some ⟨g1, 2, none⟩))) (S43.bk 1 rfl) 15 (by kernel_rfl) Try.underlying26 rfl (by kernel_rfl) (v := (zq23 x)) (by kernel_rfl)) ?_; intro a48 F48
 refine op_wq F48 ?_
 refine op_q F48 (.pointer (some ⟨g3, 2, none⟩)) ?_; intro a49 F49
 refine op_wq F49 ?_
 refine op_rq (v := .agg (zq23 y)) F49 (r_ldm rfl (F49.e (.pointer (some ⟨g3, 2, none⟩))) (S43.bk 0 rfl) 15 (by kernel_rfl) Try.underlying26 rfl (by kernel_rfl) (v := (zq23 y)) (by kernel_rfl)) ?_; intro a50 F50
 refine op_wq F50 ?_
 refine op_cq F50 (f := 62) (args := #[.agg (zq23 x), .agg (zq23 y)]) (sameMeta_yes x.fMeta y.fMeta _ _ _ S43 (fun w S => h2 w S.drop.drop) (fun w S => h3 w S.drop.drop) (by with_reducible assumption)) ?_
 rintro _ w51 ⟨rfl, S51⟩
 refine ⟨_, rfl, ?_⟩
 intro a52 F52
 refine op_q F52 (.bool true) ?_; intro a53 F53
 refine op_q F53 (.bool true) ?_; intro a54 F54
 refine wpList_nil ?_
 refine hK7 _ _ ?_; clear hK7 K7
 refine wp_ret ?_
 refine (F54.res1 rfl (v := .bool true) (by kernel_rfl) ?_).1
 exact ⟨rfl, S51.drop.drop⟩
set_option maxRecDepth 100000 in
set_option maxHeartbeats 20000000 in
theorem sameEnt_yes (x : Ty69) (y : Ty69) (R : Ctx) (L : List SA) (w : World) (S : Sp R w (L)) (h0 : Rf R L fun w => Sl w (x.fURLs_a) (strs x.fURLs)) (h1 : Rf R L fun w => Sl w (y.fURLs_a) (strs y.fURLs)) (h2 : Rf R L fun w => MetaAt w x.fMeta) (h3 : Rf R L fun w => MetaAt w y.fMeta) (he : entS x = entS y) :
  Calls Try.prog 36 #[.agg #[.bool x.fNil, .bool x.fBare, .string x.fMeta.fName, .string x.fMeta.fHome, .string x.fMeta.fVersion, .string x.fMeta.fDescription, .string x.fMeta.fIcon, .string x.fMeta.fAPIVersion, .string x.fMeta.fCondition, .string x.fMeta.fTags, .string x.fMeta.fAppVersion, .string x.fMeta.fKubeVersion, .string x.fMeta.fType, .slice (x.fMeta.fSources_a) (x.fMeta.fSources.length) (x.fMeta.fSources_c), .slice (x.fMeta.fKeywords_a) (x.fMeta.fKeywords.length) (x.fMeta.fKeywords_c), .slice (x.fMeta.fMaintainers_a) (x.fMeta.fMaintainers.length) (x.fMeta.fMaintainers_c), .slice (x.fMeta.fDependencies_a) (x.fMeta.fDependencies.length) (x.fMeta.fDependencies_c), .slice (x.fURLs_a) (x.fURLs.length) (x.fURLs_c), .string x.fDigest], .agg #[.bool y.fNil, .bool y.fBare, .string y.fMeta.fName, .string y.fMeta.fHome, .string y.fMeta.fVersion, .string y.fMeta.fDescription, .string y.fMeta.fIcon, .string y.fMeta.fAPIVersion, .string y.fMeta.fCondition, .string y.fMeta.fTags, .string y.fMeta.fAppVersion, .string y.fMeta.fKubeVersion, .string y.fMeta.fType, .slice (y.fMeta.fSources_a) (y.fMeta.fSources.length) (y.fMeta.fSources_c), .slice (y.fMeta.fKeywords_a) (y.fMeta.fKeywords.length) (y.fMeta.fKeywords_c), .slice (y.fMeta.fMaintainers_a) (y.fMeta.fMaintainers.length) (y.fMeta.fMaintainers_c), .slice (y.fMeta.fDependencies_a) (y.fMeta.fDependencies.length) (y.fMeta.fDependencies_c), .slice (y.fURLs_a) (y.fURLs.length) (y.fURLs_c), .string y.fDigest]] w fun e w' => e = .returned (.bool true) ∧ Sp R w' (L) := by
 have hl_x_fURLs : x.fURLs.length ≤ 9223372036854775807 := by have := (h0 _ S).1; simpa [strs, ptrs, pps] using this
 have hl_y_fURLs : y.fURLs.length ≤ 9223372036854775807 := by have := (h1 _ S).1; simpa [strs, ptrs, pps] using this
 refine fw_enter (fn := Try.f36) rfl rfl 8 rfl (Nat.le_of_ble_eq_true rfl) ?_
 intro a0 F0
 refine wp_seq_k fun K1 hK1 => ?_
 refine wp_region_lit ?_
 refine op_sq F0 (s_newp F0 69 (zq17 x) (by kernel_rfl) (by kernel_rfl) (by kernel_rfl) S) ?_
 rintro _ _ w3 ⟨g1, rfl, rfl⟩ S3 a3 F3
 refine op_sq F3 (s_newp F3 69 (zq17 y) (by kernel_rfl) (by kernel_rfl) (by kernel_rfl) S3) ?_
 rintro _ _ w5 ⟨g3, rfl, rfl⟩ S5 a5 F5
 refine op_q F5 (.bool false) ?_; intro a6 F6
 refine wpList_nil ?_
 refine hK1 _ _ ?_; clear hK1 K1
 refine wp_seq_k fun K7 hK7 => ?_
 refine wp_region_lit ?_
 refine op_rq (v := .agg (zq17 x)) F6 (r_ldm rfl (F6.e (.pointer (some ⟨g1, 0, none⟩))) (S5.bk 1 rfl) 19 (by kernel_rfl) Try.underlying69 rfl (by kernel_rfl) (v := (zq17 x)) (by kernel_rfl)) ?_; intro a8 F8
 refine op_rq (v := .agg (zq17 y)) F8 (r_ldm rfl (F8.e (.pointer (some ⟨g3, 0, none⟩))) (S5.bk 0 rfl) 19 (by kernel_rfl) Try.underlying69 rfl (by kernel_rfl) (v := (zq17 y)) (by kernel_rfl)) ?_; intro a9 F9
 refine op_cq F9 (f := 88) (args := #[.agg (zq17 x), .agg (zq17 y)]) (sameEnt0_yes x y _ _ _ S5 (fun w S => h0 w S.drop.drop) (fun w S => h1 w S.drop.drop) (fun w S => h2 w S.drop.drop) (fun w S => h3 w S.drop.drop) (by with_reducible assumption)) ?_
 rintro _ w10 ⟨rfl, S10⟩
 refine ⟨_, rfl, ?_⟩
 intro a11 F11
 refine op_q F11 (.bool true) ?_; intro a12 F12
 refine wpList_nil ?_
 refine hK7 _ _ ?_; clear hK7 K7
 refine wp_ret ?_
 refine (F12.res1 rfl (v := .bool true) (by kernel_rfl) ?_).1
 exact ⟨rfl, S10.drop.drop⟩
/-- The URLs of an entry of one's own. -/
abbrev SA.uv (x : Ty69) : SA := SA.own0 (.slice x.fURLs_a x.fURLs.length x.fURLs_c) 9 1 x.fURLs.length (strs x.fURLs)
def IxIn (x : Ty69) : Prop := ∃ nm s desc dig B b us, x = ixE nm (verF s) desc dig B b us ∧ s.size ≤ 60 ∧ us.length ≤ 6
theorem entT_in {x : Ty69} (h : IxIn x) : entT x = entS x := by obtain ⟨nm, s, desc, dig, B, b, us, rfl, _, _⟩ := h; rfl
theorem in_ok {x : Ty69} (h : IxIn x) : EntOk x := by
  obtain ⟨nm, s, desc, dig, B, b, us, rfl, _, h2⟩ := h
  exact ⟨rfl, rfl, by show us.length ≤ 200; omega, rfl, fun d hd => by cases hd⟩
theorem in_meta {x : Ty69} (h : IxIn x) (w : World) : MetaAt w x.fMeta := by
  obtain ⟨nm, s, desc, dig, B, b, us, rfl, h1, _⟩ := h
  exact ⟨Sl.nil, Sl.nil, Rows.nil, Rows.nil, fun d hd => by cases hd⟩
theorem in_urls {x : Ty69} (h : IxIn x) : x.fURLs.length ≤ 6 := by
  obtain ⟨nm, s, desc, dig, B, b, us, rfl, _, h2⟩ := h; exact h2
theorem Sp.uvAt {R : Ctx} {w : World} {L : List SA} {xs : List Ty69} (i : Nat) (S : Sp R w L) (hm : L[i]? = some (SA.stars (xs.map SA.uv))) (hin : ∀ x ∈ xs, IxIn x) : ∀ x ∈ xs, Sl w x.fURLs_a (strs x.fURLs) ∧ MetaAt w x.fMeta := fun x hx => by
  obtain ⟨L', S'⟩ := S.at i hm
  have S2 := Sp.stars.1 S'
  exact ⟨own0_sl1 (S2.ow0m (List.mem_append_left _ (List.mem_map.2 ⟨x, hx, rfl⟩))) (by have := in_urls (hin x hx); omega), in_meta (hin x hx) w⟩
theorem Sp.evAt {R : Ctx} {w : World} {L : List SA} {y x : Ty69} (i : Nat) (S : Sp R w L) (hm : L[i]? = some (SA.ev y)) (he : entS y = entS x) (hx : IxIn x) : Sl w y.fURLs_a (strs y.fURLs) ∧ MetaAt w y.fMeta := by
  obtain ⟨L', S'⟩ := S.at i hm
  have S2 := Sp.star.1 S'
  have hE : ∀ {α : Type} (f : Ty69 → α), f (entS y) = f (entS x) := fun f => by rw [he]
  have hu : y.fURLs = x.fURLs := hE (·.fURLs)
  have h6 := in_urls hx
  obtain ⟨nm, s, desc, dig, B, b, us, rfl, _, _⟩ := hx
  have e1 : y.fMeta.fSources = [] := hE (·.fMeta.fSources)
  have e2 : y.fMeta.fKeywords = [] := hE (·.fMeta.fKeywords)
  have e3 : y.fMeta.fMaintainers = [] := hE (·.fMeta.fMaintainers)
  have e4 : y.fMeta.fDependencies.map depS = [] := hE (·.fMeta.fDependencies)
  have e4 : y.fMeta.fDependencies = [] := by simpa using e4
  exact ⟨own0_sl1 (S2.ow0 1 rfl) (by rw [hu]; omega), S2.mvF (by rw [e1]; decide) (by rw [e2]; decide) (by rw [e3]; decide) (by rw [e4]; decide) (by rw [e4]; exact fun d hd => by cases hd)⟩
/-- The first one that is wanted, or none. -/
def AtR (v : ByteArray) (xs : List Ty69) (at_ : Int) : Prop := (at_ = -1 ∧ ∀ x ∈ xs, vtst v x = false) ∨ ∃ (k : Nat) (h : k < xs.length), at_ = k ∧ vtst v xs[k] = true ∧ ∀ j, ∀ h : j < xs.length, j < k → vtst v xs[j] = false
/-- The same, for those from m on. -/
def AtM (v : ByteArray) (xs : List Ty69) (at_ : Int) (m : Nat) : Prop := (at_ = -1 ∧ ∀ j, ∀ h : j < xs.length, m ≤ j → vtst v xs[j] = false) ∨ ∃ (k : Nat) (h : k < xs.length), m ≤ k ∧ at_ = k ∧ vtst v xs[k] = true ∧ ∀ j, ∀ h : j < xs.length, m ≤ j → j < k → vtst v xs[j] = false
theorem fits_ent {x : Ty69} (h : fits81 x = true) : x.fMeta.fVersion.size ≤ 2147483647 ∧ x.fMeta.fDescription.size ≤ 2147483647 ∧ x.fDigest.size ≤ 2147483647 ∧ ∀ u ∈ x.fURLs, u.size ≤ 2147483647 := by
  simp only [fits81, fits37, fits3, Bool.and_eq_true, decide_eq_true_eq, List.all_eq_true] at h
  exact ⟨by omega, by omega, h.2, h.1.2.2⟩

end Go.Proofs.Ytkjcedlgljeoiaa

/- laws.ixFit: names in their order. -/
namespace Go.Proofs.Ytkjcedlgljeoiaa
open Go.RowKit Go.Lib
set_option linter.unusedVariables false
set_option linter.unusedSimpArgs false
theorem less_tri : ∀ a b : List UInt8, Op.bytesLess a b = false → (a == b) = false → Op.bytesLess b a = true
  | [], [], _, h => by cases h
  | [], _ :: _, h, _ => by cases h
  | _ :: _, [], _, _ => rfl
  | a :: x, b :: y, h, h2 => by
    have e1 : Op.bytesLess (a :: x) (b :: y) = (decide (a < b) || (a == b && Op.bytesLess x y)) := rfl
    have e2 : Op.bytesLess (b :: y) (a :: x) = (decide (b < a) || (b == a && Op.bytesLess y x)) := rfl
    have e3 : ((a :: x) == (b :: y)) = (a == b && x == y) := rfl
    rw [e1] at h; rw [e3] at h2; rw [e2]
    by_cases hab : a = b
    · subst hab
      rw [beq_self_eq_true, Bool.true_and] at h h2
      rw [beq_self_eq_true, Bool.true_and, less_tri x y (Bool.or_eq_false_iff.1 h).2 h2, Bool.or_true]
    · have hlt : ¬ a < b := of_decide_eq_false (Bool.or_eq_false_iff.1 h).1
      have hne : a.toNat ≠ b.toNat := fun e => hab (UInt8.toNat_inj.1 e)
      have : b < a := by rw [UInt8.lt_iff_toNat_lt] at hlt ⊢; omega
      rw [decide_eq_true this, Bool.true_or]
theorem less_trans : ∀ a b c : List UInt8, Op.bytesLess a b = true → Op.bytesLess b c = true → Op.bytesLess a c = true
  | a, [], _, h, _ => by cases a <;> cases h
  | _, b :: y, [], _, h => by cases h
  | [], _ :: _, _ :: _, _, _ => rfl
  | a :: x, b :: y, c :: z, h, h2 => by
    have e1 : Op.bytesLess (a :: x) (b :: y) = (decide (a < b) || (a == b && Op.bytesLess x y)) := rfl
    have e2 : Op.bytesLess (b :: y) (c :: z) = (decide (b < c) || (b == c && Op.bytesLess y z)) := rfl
    have e3 : Op.bytesLess (a :: x) (c :: z) = (decide (a < c) || (a == c && Op.bytesLess x z)) := rfl
    rw [e1, Bool.or_eq_true, decide_eq_true_eq, Bool.and_eq_true, beq_iff_eq] at h
    rw [e2, Bool.or_eq_true, decide_eq_true_eq, Bool.and_eq_true, beq_iff_eq] at h2
    rw [e3, Bool.or_eq_true, decide_eq_true_eq, Bool.and_eq_true, beq_iff_eq]
    rcases h with h | ⟨rfl, h⟩
    · rcases h2 with h2 | ⟨rfl, h2⟩
      · rw [UInt8.lt_iff_toNat_lt] at h h2; exact .inl (by rw [UInt8.lt_iff_toNat_lt]; omega)
      · exact .inl h
    · rcases h2 with h2 | ⟨rfl, h2⟩
      · exact .inl h2
      · exact .inr ⟨rfl, less_trans x y z h h2⟩
theorem gt_less {a b : ByteArray} (h : (Op.bytesLess a.toList b.toList || a.toList == b.toList) = false) : Op.bytesLess b.toList a.toList = true := less_tri _ _ (Bool.or_eq_false_iff.1 h).1 (Bool.or_eq_false_iff.1 h).2
theorem le_less {a b : ByteArray} (h : (Op.bytesLess a.toList b.toList || a.toList == b.toList) = true) (h2 : (a.toList == b.toList) = false) : Op.bytesLess a.toList b.toList = true := by rw [h2, Bool.or_false] at h; exact h
/-- Names rise. -/
def Rise (xs : List Ty103) : Prop := xs.Pairwise fun x y => Op.bytesLess x.fName.toList y.fName.toList = true
theorem rise_ins {out : List Ty103} {x : Ty103} {at_ : Nat} (h : Rise out) (h1 : ∀ y ∈ out.take at_, Op.bytesLess y.fName.toList x.fName.toList = true) (h2 : ∀ y ∈ out.drop at_, Op.bytesLess x.fName.toList y.fName.toList = true) : Rise (out.take at_ ++ x :: out.drop at_) := by
  have h' : Rise (out.take at_ ++ out.drop at_) := by rw [List.take_append_drop]; exact h
  have h3 := List.pairwise_append.1 h'
  refine List.pairwise_append.2 ⟨h3.1, List.pairwise_cons.2 ⟨h2, h3.2.1⟩, fun a ha b hb => ?_⟩
  rcases List.mem_cons.1 hb with rfl | hb
  · exact h1 a ha
  · exact h3.2.2 a ha b hb
theorem rise_low {out : List Ty103} {nm : ByteArray} {at_ : Nat} (h : Rise out) (h0 : 0 < at_) (hlt : at_ - 1 < out.length) (hl : Op.bytesLess out[at_ - 1].fName.toList nm.toList = true) : ∀ y ∈ out.take at_, Op.bytesLess y.fName.toList nm.toList = true := fun y hy => by
  obtain ⟨j, hj, rfl⟩ := List.mem_take_iff_getElem.1 hy
  by_cases hj1 : j = at_ - 1
  · subst hj1; exact hl
  · exact less_trans _ _ _ (List.pairwise_iff_getElem.1 h j (at_ - 1) (by omega) hlt (by omega)) hl
theorem rise_low0 {out : List Ty103} {nm : ByteArray} {at_ : Nat} (h0 : at_ = 0) : ∀ y ∈ out.take at_, Op.bytesLess y.fName.toList nm.toList = true := fun y hy => by rw [h0, List.take_zero] at hy; cases hy
theorem rise_high {out : List Ty103} {nm : ByteArray} {at_ : Nat} (h0 : 0 < at_) (hlt : at_ - 1 < out.length) (h : ∀ y ∈ out.drop at_, Op.bytesLess nm.toList y.fName.toList = true) (hg : Op.bytesLess nm.toList out[at_ - 1].fName.toList = true) : ∀ y ∈ out.drop (at_ - 1), Op.bytesLess nm.toList y.fName.toList = true := fun y hy => by
  rw [List.drop_eq_getElem_cons hlt, show at_ - 1 + 1 = at_ by omega] at hy
  rcases List.mem_cons.1 hy with rfl | hy
  · exact hg
  · exact h y hy
theorem mem_ins {α : Type} {out : List α} {x : α} {at_ : Nat} {Q : α → Prop} (h : ∀ y ∈ out, Q y) (hx : Q x) : ∀ y ∈ out.take at_ ++ x :: out.drop at_, Q y := fun y hy => by
  rcases List.mem_append.1 hy with hy | hy
  · exact h y (List.mem_of_mem_take hy)
  · rcases List.mem_cons.1 hy with rfl | hy
    · exact hx
    · exact h y (List.mem_of_mem_drop hy)
theorem len_ins {α : Type} {out : List α} {x : α} {at_ : Nat} (h : at_ ≤ out.length) : (out.take at_ ++ x :: out.drop at_).length = out.length + 1 := by simp; omega
/-- An entry of an index of one's own: its version is plain. -/
def IxP (x : Ty69) : Prop := ∃ nm n desc dig B b us, x = ixE nm (ixvF n) desc dig B b us ∧ us.length ≤ 6
theorem ixv_all : ((List.range 3).all fun a => (List.range 4).all fun b => (List.range 10).all fun c => plainB ⟨#[UInt8.ofNat (48 + a), 46, UInt8.ofNat (48 + b), 46, UInt8.ofNat (48 + c)]⟩) = true := by kernel_rfl
theorem ixv_plain (n : Nat) : plainB (ixvF n) = true := by
  have h1 := List.all_eq_true.1 ixv_all (n % 3) (List.mem_range.2 (Nat.mod_lt _ (by decide)))
  have h2 := List.all_eq_true.1 h1 (n / 3 % 4) (List.mem_range.2 (Nat.mod_lt _ (by decide)))
  exact List.all_eq_true.1 h2 (n / 12 % 10) (List.mem_range.2 (Nat.mod_lt _ (by decide)))
theorem ixP_in {x : Ty69} (h : IxP x) : IxIn x := by
  obtain ⟨nm, n, desc, dig, B, b, us, rfl, h6⟩ := h
  exact ⟨nm, ixvF n, desc, dig, B, b, us, by rw [verF, if_pos (.inl (ixv_plain n))], by show (5 : Nat) ≤ 60; omega, h6⟩
theorem ixP_plain {x : Ty69} (h : IxP x) : PlainE x := by
  obtain ⟨nm, n, desc, dig, B, b, us, rfl, h6⟩ := h
  exact ⟨by show (5 : Nat) ≤ 1000000; omega, ixv_plain n⟩
/-- A name with its versions, in rows of their own. -/
def SA.nv (x : Ty103) : SA := SA.star (SA.own (.slice x.fVersions_a x.fVersions.length x.fVersions_c) 69 19 x.fVersions.length (flatC Ty69.cells x.fVersions)) (SA.stars (x.fVersions.map SA.uv))
def NvOk (x : Ty103) : Prop := WordOk x.fName ∧ x.fVersions.length ≤ 5 ∧ ∀ e ∈ x.fVersions, IxP e
theorem stars_ins {R : Ctx} {w : World} {L l1 l2 : List SA} {A : SA} (S : Sp R w (A :: SA.stars (l1 ++ l2) :: L)) : Sp R w (SA.stars (l1 ++ A :: l2) :: L) := by
  have S1 := Sp.stars.1 S.swap
  rw [List.append_assoc] at S1
  refine Sp.stars.2 ?_
  rw [List.append_assoc]
  exact S1.perm (List.perm_middle.append_left l1)
theorem stars_nv {R : Ctx} {w : World} {L : List SA} {out : List Ty103} {x : Ty103} {at_ : Nat} (S : Sp R w (SA.nv x :: SA.stars (out.map SA.nv) :: L)) : Sp R w (SA.stars ((out.take at_ ++ x :: out.drop at_).map SA.nv) :: L) := by
  rw [List.map_append, List.map_cons]
  refine stars_ins ?_
  rw [← List.map_append, List.take_append_drop]
  exact S
theorem sl_takeC {α : Type} {f : α → List Value} {C : Nat} {xs : List α} {w : World} {A : Option Addr} (hf : ∀ x, (f x).length = C) (h : Sl w A (flatC f xs)) (k : Nat) : Sl w A (flatC f (xs.take k)) := by
  rw [← flatC_takeC hf]
  have hl : ((flatC f xs).take (k * C)).length ≤ (flatC f xs).length := by rw [List.length_take]; omega
  refine ⟨by have := h.1; omega, fun hp => ?_⟩
  obtain ⟨ad, e, hc⟩ := h.2 (by omega)
  exact ⟨ad, e, fun j u hj => hc j u (by rw [List.getElem?_take] at hj; split at hj; exact hj; cases hj)⟩
theorem sl_dropC {α : Type} {f : α → List Value} {C : Nat} {xs : List α} {w : World} {A : Option Addr} (hf : ∀ x, (f x).length = C) (h : Sl w A (flatC f xs)) {k c : Nat} (hc : xs.length ≤ c) : Sl w (subA A k C c) (flatC f (xs.drop k)) := by
  by_cases hk : xs.length ≤ k
  · rw [List.drop_eq_nil_of_le hk]; exact Sl.nil
  · rw [← flatC_drop hf]
    have hl : ((flatC f xs).drop (k * C)).length ≤ (flatC f xs).length := by rw [List.length_drop]; omega
    refine ⟨by have := h.1; omega, fun hp => ?_⟩
    obtain ⟨ad, rfl, hcl⟩ := h.2 (by omega)
    refine ⟨ad.add (k * C), ?_, fun j u hj => ?_⟩
    · unfold subA; rw [if_neg (by omega)]; rfl
    · rw [Addr.add_add]; exact hcl _ u (by rw [List.getElem?_drop] at hj; exact hj)
section
variable {P : Program} {R : Ctx} {L : List SA} {o : Oper} {a : Act} {w : World}
/-- A slice of a slice, of three bounds, of the lower part, that has no more room. -/
theorem r_slc3 {t e : TypeId} {x hi mx : Operand} (ho : o.op = .slice t x none (some hi) (some mx)) (ht : P.underlying t = some (.slice e)) (sz : Nat) (hz : (P.info? e).map (·.size) = some sz) {A : Option Addr} {m c : Nat} (hx : a.eval x = .slice A m c) {kh km : IntKind} {zh zm : Int} (hh : a.eval hi = .int kh zh) (hm : a.eval mx = .int km zm)
    (h : Nat) (e1 : zh = h ∧ zm = h) (hb : h ≤ c) : (execOp a.eval o).run P w = .ok (.value (.slice A h h)) w := by
  obtain ⟨rfl, rfl⟩ := e1
  have hq : (Instr.sliceBounds true m c none (some (a.eval hi)) (some (a.eval mx))).run P w = .ok (0, h, h) w := by
    simp [Instr.sliceBounds, hh, hm, Sem.run_bind, run_sliceBound, hb]
  unfold execOp
  simp only [ho, hx, Option.map_none, Option.map_some]
  cases hi0 : P.info? e with
  | none => simp [hi0] at hz
  | some inf =>
    have hs : inf.size = sz := by simpa [hi0] using hz
    have hA : A.map (fun x => x.add 0) = A := by cases A <;> simp [Addr.add]
    simp [Instr.sliceAt, Instr.slice, Sem.run_bind, run_underlying ht w, hq, sizeOf, typeInfo, hi0, hs, hA]
/-- append to a slice without room, whose elements are read. -/
theorem s_appF {s x : Operand} {t e : TypeId} (ho : o.op = .call { callee := .builtin .append, args := #[s, x], argTypes := #[t, t] }) (ht : P.underlying t = some (.slice e)) {z : Value} (sz bytes : Nat) (hi : (P.info? e).map (fun i => (i.zero, i.size, i.bytes)) = some (some z, sz, bytes))
    (hz : z.cells.size = sz) (hs0 : Nat.ble sz 0 = false) {B : Option Addr} {n : Nat} (hs : a.eval s = .slice B n n) (S : Sp R w L) (old : List Value) (ho0 : Sl w B old) (hol : old.length = n * sz) {A : Option Addr} {m c : Nat} (news : List Value) (hx : a.eval x = .slice A m c) (hr : Sl w A news) (hm : news.length = m * sz)
    (h1 : ∀ u ∈ news, u.oneCell' = true) (hpos : 0 < m) (hbytes : (n + m) * bytes ≤ 140737488355328) (h63 : n + m ≤ 140737488355328) {n' : Nat} (hn' : n + m = n') {cs' : List Value} (hcs' : old ++ news = cs') :
    sAt P R L o a w (fun v' B => ∃ A' c', v' = .slice A' n' c' ∧ B = SA.own (.slice A' n' c') e sz n' cs') := by
  cases B with
  | none =>
    have h0 : old = [] := by
      cases old with
      | nil => rfl
      | cons u l => obtain ⟨ad, hh, _⟩ := ho0.2 (Nat.succ_pos _); cases hh
    subst h0
    have hn : n = 0 := by
      rcases Nat.eq_zero_or_pos n with h | h
      · exact h
      · have := Nat.mul_pos h (nble hs0); rw [← hol] at this; exact absurd this (by simp)
    subst hn
    exact s_app ho ht sz bytes hi hz hs0 hs S.nilown news hx hr hm h1 hbytes h63 hn' hcs'
  | some b =>
    subst hn'; subst hcs'
    obtain ⟨i0, hi0, hzz⟩ := Option.map_eq_some_iff.1 hi
    simp only [Prod.mk.injEq] at hzz
    obtain ⟨hz0, hz1, hz2⟩ := hzz
    have hp : 0 < news.length := by rw [hm]; exact Nat.mul_pos hpos (nble hs0)
    obtain ⟨ad, rfl, hc⟩ := hr.2 hp
    have hold : ∀ j u, old[j]? = some u → w.cell? (b.add j) = some u := fun j u hj => by
      have hlt := (List.getElem?_eq_some_iff.1 hj).1
      obtain ⟨ad2, h2, hc2⟩ := ho0.2 (by omega)
      injection h2 with h2; subst h2; exact hc2 j u hj
    obtain ⟨v', w', q1, q2, q3⟩ := run_append_arg_grows (P := P) w t o.type e i0 z sz bytes ht hi0 hz0 hz1 hz2 hz (nble hs0) b n n old hol hold ad m c news hm hc (by omega) (by simp only [maxLen]; omega) hbytes
    obtain ⟨A', c', rfl, _⟩ := own_form q2
    have hrun : (execOp a.eval o).run P w = .ok (.value (.slice A' (n + m) c')) w' := by
      unfold execOp
      simp only [ho, resolve, invoke, builtin, Sem.run_bind, Sem.run_pure, Result.andThen_ok, List.map_toArray, List.map_cons, List.map_nil, hs, hx, q1]
    unfold sAt
    rw [hrun]
    exact ⟨_, ⟨A', c', rfl, rfl⟩, S.newown ⟨q3.os, q3.tape, q3.output, q3.size, fun k hk => q3.block k hk (by simp)⟩ q2⟩
end
end Go.Proofs.Ytkjcedlgljeoiaa

/- laws.ixFit. -/
namespace Go.Proofs.Ytkjcedlgljeoiaa
open Go.RowKit Go.Lib
set_option linter.unusedVariables false
set_option linter.unusedSimpArgs false
set_option maxRecDepth 100000 in
set_option maxHeartbeats 20000000 in
theorem ixFit_sp (A : Option Addr) (c : Nat) (xs : List Ty103) (R : Ctx) (L : List SA) (w : World) (S : Sp R w (L)) (h0 : Rf R L fun w => Rows w (A) 2 (xs.map Ty103.cells)) (h1 : Rf R L fun w => Ty103.oks xs w) (hfx : ∀ x ∈ xs, x.fName.size ≤ 2147483647 ∧ ∀ e ∈ x.fVersions, fits81 e = true) :
  Calls Try.prog 49 #[.slice (A) (xs.length) (c)] w fun e w' => ∃ B : Option Addr, ∃ b : Nat, ∃ out : List Ty103, e = .returned (.slice B out.length b) ∧ Sp R w' (SA.own (.slice B out.length b) 103 2 out.length (flatC Ty103.cells out) :: SA.stars (out.map SA.nv) :: L) ∧ (out.length ≤ 4) ∧ (∀ x ∈ out, NvOk x) ∧ (Rise out) := by
 have hl_xs : xs.length ≤ 9223372036854775807 := by have := (h0 _ S).1; simpa [strs, ptrs, pps] using this
 refine fw_enter (fn := Try.f49) rfl rfl 97 rfl (Nat.le_of_ble_eq_true rfl) ?_
 intro a0 F0
 refine wp_seq_k fun K1 hK1 => ?_
 refine wp_region_lit ?_
 refine op_q F0 (.slice none 0 0) ?_; intro a2 F2
 refine wpList_nil ?_
 refine hK1 _ _ ?_; clear hK1 K1
 refine wp_seq_k fun K3 hK3 => ?_
 refine wp_region_lit ?_
 refine op_q F2 (.slice none 0 0) ?_; intro a4 F4
 refine wpList_nil ?_
 refine hK3 _ _ ?_; clear hK3 K3
 refine wp_seq_k fun K5 hK5 => ?_
 refine wp_seq_k fun K6 hK6 => ?_
 refine wp_region_lit ?_
 refine op_q F4 (.int .i64 0) ?_; intro a7 F7
 refine wpList_nil ?_
 refine hK6 _ _ ?_; clear hK6 K6
 refine wp_block ?_
 have S8 : Sp R w (SA.own (.slice none 0 0) 103 2 0 (flatC Ty103.cells []) :: SA.stars ([].map SA.nv) :: L) := Sp.nilown (e := 103) (sz := 2) ((Sp.stars (l := [])).2 S)
 refine fw_loop (fun m' a' w' => ∃ B : Option Addr, ∃ b : Nat, ∃ out : List Ty103, ∃ i : Nat, xs.length - i = m' ∧ Fr 97 [] a' [(0, .slice (A) (xs.length) (c)), (2, .slice none 0 0), (3, .slice B out.length b), (4, .int .i64 (↑i))] ∧ Sp R w' (SA.own (.slice B out.length b) 103 2 out.length (flatC Ty103.cells out) :: SA.stars (out.map SA.nv) :: L) ∧ (i ≤ xs.length) ∧ (i ≤ 4) ∧ (out.length ≤ i) ∧ (∀ x ∈ out, NvOk x) ∧ (Rise out)) _ ⟨none, 0, [], 0, rfl, (F7.kk 0 (F7.kk 2 (F7.kk 3 (F7.kk 4 F7.nil)))), S8.p1.p1, (by first | omega | (with_reducible assumption) | (simp; done)), (by first | omega | (with_reducible assumption) | (simp; done)), (Nat.le_refl _), (fun x hx => by cases hx), List.Pairwise.nil⟩ ?_
 rintro m9 a9 w9 ⟨B, b, out, i, hm9, F9, S9, hi, hi4, hol, hok, hri⟩ K9 hK9
 refine wp_seq_k fun K10 hK10 => ?_
 refine wp_seq_k fun K11 hK11 => ?_
 refine wp_region_lit ?_
 refine op_q F9 (.int .i64 (↑i)) ?_; intro a12 F12
 refine op_q F12 (.slice (A) (xs.length) (c)) ?_; intro a13 F13
 refine op_q F13 (.int .i64 (↑xs.length)) ?_; intro a14 F14
 refine op_q F14 (.bool (decide ((↑i : Int) < ↑xs.length))) ?_; intro a15 F15
 refine op_q F15 (.bool (decide ((↑i : Int) < ↑xs.length))) ?_; intro a16 F16
 rcases btf (decide ((↑i : Int) < ↑xs.length)) with hc17 | hc17
 ·have hlt_i : i < xs.length := by have := of_decide_eq_true hc17; omega
  obtain ⟨hzn, hfe⟩ := hfx _ (List.getElem_mem hlt_i)
  have hkr : Rf R L fun w => Rows w xs[i].fVersions_a 19 (xs[i].fVersions.map Ty69.cells) := fun w S => Ty103.ok_rVersions (h1 w S _ (List.getElem_mem hlt_i))
  have hko : Rf R L fun w => Ty69.oks xs[i].fVersions w := fun w S => Ty103.ok_oVersions (h1 w S _ (List.getElem_mem hlt_i))
  obtain ⟨ad18, hA18⟩ := (h0 _ S9.drop.drop).addr (by simp; omega)
  have F19 := F16.sb 11 (by kernel_rfl) hc17
  have F20 := F19.sb 12 (by kernel_rfl) hc17
  refine op_wq F20 ?_
  refine op_q F20 (.int .i64 (↑i)) ?_; intro a21 F21
  refine op_wq F21 ?_
  refine op_q F21 (.bool (decide ((↑i : Int) < 4))) ?_; intro a22 F22
  refine op_q F22 (.bool (decide ((↑i : Int) < 4))) ?_; intro a23 F23
  refine wpList_nil ?_
  refine hK11 _ _ ?_; clear hK11 K11
  rcases btf (decide ((↑i : Int) < 4)) with hc24 | hc24
  ·have h4i : i < 4 := by have := of_decide_eq_true hc24; omega
   have F25 := F23.sb 14 (by kernel_rfl) hc24
   have F26 := F25.sb 15 (by kernel_rfl) hc24
   refine wp_cond_true (F26.ev (by kernel_rfl)) ?_
   refine wp_skip ?_
   refine hK10 _ _ ?_; clear hK10 K10
   refine wp_seq_k fun K27 hK27 => ?_
   refine wp_block ?_
   refine wp_seq_k fun K28 hK28 => ?_
   refine wp_region_lit ?_
   refine op_q F26 (.slice (A) (xs.length) (c)) ?_; intro a29 F29
   refine op_q F29 (.int .i64 (↑i)) ?_; intro a30 F30
   refine op_rq (v := .pointer (some (ad18.add (i * 2)))) F30 (r_ix rfl Try.underlying95 2 (by kernel_rfl) (F30.e (.slice (A) (xs.length) (c))) hA18 (F30.e (.int .i64 (↑i))) i (by first | rfl | omega | simp) (by first | omega | (simp; done) | (simp; omega)) (rfl)) ?_; intro a31 F31
   refine op_q F31 (.pointer (some (ad18.add (i * 2)))) ?_; intro a32 F32
   refine op_rq (v := .string xs[i].fName) F32 (r_ld rfl (F32.e (.pointer (some (ad18.add (i * 2))))) (v := .string xs[i].fName) (cell0 ((h0 _ S9.drop.drop).elA hA18 (j := i) (row := xs[i].cells) (by rw [List.getElem?_map, List.getElem?_eq_getElem hlt_i]; rfl)) rfl) Try.underlying9 rfl) ?_; intro a33 F33
   refine op_cq F33 (f := 50) (args := #[.string xs[i].fName]) (chWord_sp xs[i].fName _ _ _ S9 (by first | omega | (simp; done) | (simp; omega))) ?_
   rintro _ w34 ⟨b34, rfl, S34, hp0_34⟩
   refine ⟨_, rfl, ?_⟩
   intro a35 F35
   refine op_q F35 (.agg #[.string b34, .slice none 0 0]) ?_; intro a36 F36
   refine op_sq F36 (s_newp F36 103 #[.string ⟨#[]⟩, .slice none 0 0] (by kernel_rfl) (by kernel_rfl) (by kernel_rfl) S34) ?_
   rintro _ _ w38 ⟨g36, rfl, rfl⟩ S38 a38 F38
   refine op_sq0 F38 (s_stb rfl (F38.e (.pointer (some ⟨g36, 0, none⟩))) (F38.e (.agg #[.string b34, .slice none 0 0])) S38 (by kernel_rfl) rfl (by kernel_rfl)) ?_
   rintro _ _ w39 rfl S39 F39
   refine wpList_nil ?_
   refine hK28 _ _ ?_; clear hK28 K28
   refine wp_seq_k fun K40 hK40 => ?_
   refine wp_seq_k fun K41 hK41 => ?_
   refine wp_region_lit ?_
   refine op_q F39 (.int .i64 0) ?_; intro a42 F42
   refine wpList_nil ?_
   refine hK41 _ _ ?_; clear hK41 K41
   refine wp_block ?_
   have S43 : Sp R w39 (SA.own (.slice none 0 0) 69 19 0 (flatC Ty69.cells []) :: SA.stars ([].map SA.uv) :: SA.blk g36 103 #[.string b34, .slice none 0 0] :: SA.own (.slice B out.length b) 103 2 out.length (flatC Ty103.cells out) :: SA.stars (out.map SA.nv) :: L) := Sp.nilown (e := 69) (sz := 19) ((Sp.stars (l := [])).2 S39)
   refine fw_loop (fun m' a' w' => ∃ Bv : Option Addr, ∃ bv : Nat, ∃ vs : List Ty69, ∃ j : Nat, xs[i].fVersions.length - j = m' ∧ Fr 97 [] a' [(0, .slice (A) (xs.length) (c)), (2, .slice none 0 0), (3, .slice B out.length b), (4, .int .i64 (↑i)), (5, .pointer (some ⟨g36, 0, none⟩)), (6, .int .i64 (↑j))] ∧ Sp R w' (SA.blk g36 103 #[.string b34, .slice Bv j bv] :: SA.own (.slice Bv j bv) 69 19 j (flatC Ty69.cells vs) :: SA.stars (vs.map SA.uv) :: SA.own (.slice B out.length b) 103 2 out.length (flatC Ty103.cells out) :: SA.stars (out.map SA.nv) :: L) ∧ (j ≤ xs[i].fVersions.length) ∧ (j ≤ 5) ∧ (vs.length = j) ∧ (∀ e ∈ vs, IxP e)) _ ⟨none, 0, [], 0, rfl, (F42.kk 0 (F42.kk 2 (F42.kk 3 (F42.kk 4 (F42.kk 5 (F42.kk 6 F42.nil)))))), S43.p4.p4.p3.p3.p4, (by first | omega | (with_reducible assumption) | (simp; done)), (by first | omega | (with_reducible assumption) | (simp; done)), rfl, (fun x hx => by cases hx)⟩ ?_
   rintro m44 a44 w44 ⟨Bv, bv, vs, j, hm44, F44, S44, hj, hj5, hvl, hvp⟩ K44 hK44
   refine wp_seq_k fun K45 hK45 => ?_
   refine wp_seq_k fun K46 hK46 => ?_
   refine wp_region_lit ?_
   refine op_q F44 (.int .i64 (↑j)) ?_; intro a47 F47
   refine op_q F47 (.slice (A) (xs.length) (c)) ?_; intro a48 F48
   refine op_q F48 (.int .i64 (↑i)) ?_; intro a49 F49
   refine op_rq (v := .pointer (some (ad18.add (i * 2)))) F49 (r_ix rfl Try.underlying95 2 (by kernel_rfl) (F49.e (.slice (A) (xs.length) (c))) hA18 (F49.e (.int .i64 (↑i))) i (by first | rfl | omega | simp) (by first | omega | (simp; done) | (simp; omega)) (rfl)) ?_; intro a50 F50
   refine op_q F50 (.pointer (some ⟨(ad18.add (i * 2)).block, (ad18.add (i * 2)).off + 1, none⟩)) ?_; intro a51 F51
   refine op_rq (v := .slice xs[i].fVersions_a xs[i].fVersions.length xs[i].fVersions_c) F51 (r_ld rfl (F51.e (.pointer (some ⟨(ad18.add (i * 2)).block, (ad18.add (i * 2)).off + 1, none⟩))) (v := .slice xs[i].fVersions_a xs[i].fVersions.length xs[i].fVersions_c) (cellj ((h0 _ S44.drop.drop.drop.drop.drop).elA hA18 (j := i) (row := xs[i].cells) (by rw [List.getElem?_map, List.getElem?_eq_getElem hlt_i]; rfl)) 0 rfl) Try.underlying65 rfl) ?_; intro a52 F52
   refine op_q F52 (.int .i64 (↑xs[i].fVersions.length)) ?_; intro a53 F53
   refine op_q F53 (.bool (decide ((↑j : Int) < ↑xs[i].fVersions.length))) ?_; intro a54 F54
   refine op_q F54 (.bool (decide ((↑j : Int) < ↑xs[i].fVersions.length))) ?_; intro a55 F55
   rcases btf (decide ((↑j : Int) < ↑xs[i].fVersions.length)) with hc56 | hc56
   ·have hlt_j : j < xs[i].fVersions.length := by have := of_decide_eq_true hc56; omega
    obtain ⟨hzv, hzd, hzg, hzu⟩ := fits_ent (hfe _ (List.getElem_mem hlt_j))
    have hzu2 : ∀ u ∈ xs[i].fVersions[j].fURLs, u.size ≤ 9223372036854775807 := fun u hu => by have := hzu u hu; omega
    have hku : Rf R L fun w => Sl w xs[i].fVersions[j].fURLs_a (strs xs[i].fVersions[j].fURLs) := fun w S => Ty69.ok_sURLs (hko w S _ (List.getElem_mem hlt_j))
    obtain ⟨ad57, hA57⟩ := (hkr _ S44.drop.drop.drop.drop.drop).addr (by simp; omega)
    have F58 := F55.sb 32 (by kernel_rfl) hc56
    have F59 := F58.sb 33 (by kernel_rfl) hc56
    refine op_wq F59 ?_
    refine op_q F59 (.int .i64 (↑j)) ?_; intro a60 F60
    refine op_wq F60 ?_
    refine op_q F60 (.bool (decide ((↑j : Int) < 5))) ?_; intro a61 F61
    refine op_q F61 (.bool (decide ((↑j : Int) < 5))) ?_; intro a62 F62
    refine wpList_nil ?_
    refine hK46 _ _ ?_; clear hK46 K46
    rcases btf (decide ((↑j : Int) < 5)) with hc63 | hc63
    ·have h5j : j < 5 := by have := of_decide_eq_true hc63; omega
     have F64 := F62.sb 35 (by kernel_rfl) hc63
     have F65 := F64.sb 36 (by kernel_rfl) hc63
     refine wp_cond_true (F65.ev (by kernel_rfl)) ?_
     refine wp_skip ?_
     refine hK45 _ _ ?_; clear hK45 K45
     refine wp_seq_k fun K66 hK66 => ?_
     refine wp_block ?_
     refine wp_region_sepF (L0 := SA.blk g36 103 #[.string b34, .slice Bv j bv] :: SA.stars (vs.map SA.uv) :: SA.own (.slice B out.length b) 103 2 out.length (flatC Ty103.cells out) :: SA.stars (out.map SA.nv) :: L) [some [], some [(0, 39)], some [], some [], some [(2, 41), (3, 42)], some [(4, 43)], some [(5, 44)], some [], some [(6, 45), (7, 46)], some [(8, 47)], some [], some [(10, 49)], some [(9, 48), (11, 50)], some [(9, 48), (11, 50), (12, 51)], some [(1, 40), (9, 48), (11, 50), (12, 51), (13, 52)], some [], none] [.v 39 (.pointer (some ⟨g36, 1, none⟩)), .v 40 (.slice Bv j bv), .v 41 (.slice (A) (xs.length) (c)), .v 42 (.int .i64 (↑i)), .v 43 (.pointer (some (ad18.add (i * 2)))), .v 44 (.pointer (some ⟨(ad18.add (i * 2)).block, (ad18.add (i * 2)).off + 1, none⟩)), .v 45 (.slice xs[i].fVersions_a xs[i].fVersions.length xs[i].fVersions_c), .v 46 (.int .i64 (↑j)), .v 47 (.pointer (some (ad57.add (j * 19)))), .v 48 (.agg #[.bool (xs[i].fVersions[j].fNil), .bool (xs[i].fVersions[j].fBare), .string (xs[i].fVersions[j].fMeta.fName), .string (xs[i].fVersions[j].fMeta.fHome), .string (xs[i].fVersions[j].fMeta.fVersion), .string (xs[i].fVersions[j].fMeta.fDescription), .string (xs[i].fVersions[j].fMeta.fIcon), .string (xs[i].fVersions[j].fMeta.fAPIVersion), .string (xs[i].fVersions[j].fMeta.fCondition), .string (xs[i].fVersions[j].fMeta.fTags), .string (xs[i].fVersions[j].fMeta.fAppVersion), .string (xs[i].fVersions[j].fMeta.fKubeVersion), .string (xs[i].fVersions[j].fMeta.fType), .slice (xs[i].fVersions[j].fMeta.fSources_a) (xs[i].fVersions[j].fMeta.fSources.length) (xs[i].fVersions[j].fMeta.fSources_c), .slice (xs[i].fVersions[j].fMeta.fKeywords_a) (xs[i].fVersions[j].fMeta.fKeywords.length) (xs[i].fVersions[j].fMeta.fKeywords_c), .slice (xs[i].fVersions[j].fMeta.fMaintainers_a) (xs[i].fVersions[j].fMeta.fMaintainers.length) (xs[i].fVersions[j].fMeta.fMaintainers_c), .slice (xs[i].fVersions[j].fMeta.fDependencies_a) (xs[i].fVersions[j].fMeta.fDependencies.length) (xs[i].fVersions[j].fMeta.fDependencies_c), .slice (xs[i].fVersions[j].fURLs_a) (xs[i].fVersions[j].fURLs.length) (xs[i].fVersions[j].fURLs_c), .string (xs[i].fVersions[j].fDigest)]), .v 49 (.pointer (some ⟨g36, 0, none⟩)), .v 50 (.string b34), .p 51 (SA.emp) (fun _ vv AA => ∃ v128 : ByteArray, ∃ Bu128 : Option Addr, ∃ bu128 : Nat, vv = .agg #[.bool false, .bool false, .string b34, .string ⟨#[]⟩, .string v128, .string (ascF (xs[i].fVersions[j]).fMeta.fDescription), .string ⟨#[]⟩, .string ⟨#[118, 50]⟩, .string ⟨#[]⟩, .string ⟨#[]⟩, .string ⟨#[]⟩, .string ⟨#[]⟩, .string ⟨#[]⟩, .slice none 0 0, .slice none 0 0, .slice none 0 0, .slice none 0 0, .slice Bu128 ((someF (xs[i].fVersions[j]).fURLs).length) bu128, .string (ascF (xs[i].fVersions[j]).fDigest)] ∧ AA = SA.own (.slice Bu128 (someF (xs[i].fVersions[j]).fURLs).length bu128) 9 1 ((someF (xs[i].fVersions[j]).fURLs).length) (strs (someF (xs[i].fVersions[j]).fURLs)) ∧ (∃ n, v128 = ixvF n)), .p 52 (SA.emp) (fun env vv AA => ∃ v128x : ByteArray, ∃ Bu128x : Option Addr, ∃ bu128x : Nat, ∃ g132 : Nat, (env.getD 2 undef) = .agg #[.bool false, .bool false, .string b34, .string ⟨#[]⟩, .string v128x, .string (ascF (xs[i].fVersions[j]).fMeta.fDescription), .string ⟨#[]⟩, .string ⟨#[118, 50]⟩, .string ⟨#[]⟩, .string ⟨#[]⟩, .string ⟨#[]⟩, .string ⟨#[]⟩, .string ⟨#[]⟩, .slice none 0 0, .slice none 0 0, .slice none 0 0, .slice none 0 0, .slice Bu128x ((someF (xs[i].fVersions[j]).fURLs).length) bu128x, .string (ascF (xs[i].fVersions[j]).fDigest)] ∧ vv = .slice (some ⟨g132, 0, none⟩) 1 1 ∧ AA = SA.blk g132 69 #[.bool false, .bool false, .string b34, .string ⟨#[]⟩, .string v128x, .string (ascF (xs[i].fVersions[j]).fMeta.fDescription), .string ⟨#[]⟩, .string ⟨#[118, 50]⟩, .string ⟨#[]⟩, .string ⟨#[]⟩, .string ⟨#[]⟩, .string ⟨#[]⟩, .string ⟨#[]⟩, .slice none 0 0, .slice none 0 0, .slice none 0 0, .slice none 0 0, .slice Bu128x ((someF (xs[i].fVersions[j]).fURLs).length) bu128x, .string (ascF (xs[i].fVersions[j]).fDigest)]), .p 53 (SA.own (.slice Bv j bv) 69 19 j (flatC Ty69.cells vs)) (fun env vv AA => ∃ v128x : ByteArray, ∃ Bu128x : Option Addr, ∃ bu128x : Nat, ∃ A139 : Option Addr, ∃ c139 : Nat, (env.getD 3 undef) = .agg #[.bool false, .bool false, .string b34, .string ⟨#[]⟩, .string v128x, .string (ascF (xs[i].fVersions[j]).fMeta.fDescription), .string ⟨#[]⟩, .string ⟨#[118, 50]⟩, .string ⟨#[]⟩, .string ⟨#[]⟩, .string ⟨#[]⟩, .string ⟨#[]⟩, .string ⟨#[]⟩, .slice none 0 0, .slice none 0 0, .slice none 0 0, .slice none 0 0, .slice Bu128x ((someF (xs[i].fVersions[j]).fURLs).length) bu128x, .string (ascF (xs[i].fVersions[j]).fDigest)] ∧ vv = .slice A139 (j + 1) c139 ∧ AA = SA.own (.slice A139 (j + 1) c139) 69 19 (j + 1) (flatC Ty69.cells (vs ++ [ixE b34 v128x (ascF xs[i].fVersions[j].fMeta.fDescription) (ascF xs[i].fVersions[j].fDigest) Bu128x bu128x (someF xs[i].fVersions[j].fURLs)]))), .v 54 (.pointer (some ⟨g36, 1, none⟩)), .n SA.emp (fun _ _ A => A = SA.emp)] [] F65 rfl (by kernel_rfl) S44.p1.emp.emp ?_ ?_
     ·refine ⟨?_, ?_, ?_, ?_, ?_, ?_, ?_, ?_, ?_, ?_, ?_, ?_, ?_, ?_, ?_, ?_, trivial⟩
      ·intro w104 M104
       intro a104 F104 S104
       refine obl_of (by rfl) ?_
       exact s_p F104 (v := .pointer (some ⟨g36, 1, none⟩)) (by kernel_rfl) (by kernel_rfl) (by kernel_rfl) S104
      ·intro w105 M105
       intro a105 F105 S105
       refine obl_of (by rfl) ?_
       exact s_r (v := .slice Bv j bv) (r_ld rfl (F105.e (.pointer (some ⟨g36, 1, none⟩))) (v := .slice Bv j bv) (((Sp.dropM S105.drop).bk 0 rfl).cell 1) Try.underlying65 rfl) S105
      ·intro w107 M107
       intro a107 F107 S107
       refine obl_of (by rfl) ?_
       exact s_p F107 (v := .slice (A) (xs.length) (c)) (by kernel_rfl) (by kernel_rfl) (by kernel_rfl) S107
      ·intro w108 M108
       intro a108 F108 S108
       refine obl_of (by rfl) ?_
       exact s_p F108 (v := .int .i64 (↑i)) (by kernel_rfl) (by kernel_rfl) (by kernel_rfl) S108
      ·intro w109 M109
       intro a109 F109 S109
       refine obl_of (by rfl) ?_
       exact s_r (v := .pointer (some (ad18.add (i * 2)))) (r_ix rfl Try.underlying95 2 (by kernel_rfl) (F109.e (.slice (A) (xs.length) (c))) hA18 (F109.e (.int .i64 (↑i))) i (by first | rfl | omega | simp) (by first | omega | (simp; done) | (simp; omega)) (rfl)) S109
      ·intro w112 M112
       intro a112 F112 S112
       refine obl_of (by rfl) ?_
       exact s_p F112 (v := .pointer (some ⟨(ad18.add (i * 2)).block, (ad18.add (i * 2)).off + 1, none⟩)) (by kernel_rfl) (by kernel_rfl) (by kernel_rfl) S112
      ·intro w114 M114
       intro a114 F114 S114
       refine obl_of (by rfl) ?_
       exact s_r (v := .slice xs[i].fVersions_a xs[i].fVersions.length xs[i].fVersions_c) (r_ld rfl (F114.e (.pointer (some ⟨(ad18.add (i * 2)).block, (ad18.add (i * 2)).off + 1, none⟩))) (v := .slice xs[i].fVersions_a xs[i].fVersions.length xs[i].fVersions_c) (cellj ((h0 _ (Sp.dropM S114.drop).drop.drop.drop.drop).elA hA18 (j := i) (row := xs[i].cells) (by rw [List.getElem?_map, List.getElem?_eq_getElem hlt_i]; rfl)) 0 rfl) Try.underlying65 rfl) S114
      ·intro w116 M116
       intro a116 F116 S116
       refine obl_of (by rfl) ?_
       exact s_p F116 (v := .int .i64 (↑j)) (by kernel_rfl) (by kernel_rfl) (by kernel_rfl) S116
      ·intro w117 M117
       intro a117 F117 S117
       refine obl_of (by rfl) ?_
       exact s_r (v := .pointer (some (ad57.add (j * 19)))) (r_ix rfl Try.underlying65 19 (by kernel_rfl) (F117.e (.slice xs[i].fVersions_a xs[i].fVersions.length xs[i].fVersions_c)) hA57 (F117.e (.int .i64 (↑j))) j (by first | rfl | omega | simp) (by first | omega | (simp; done) | (simp; omega)) (rfl)) S117
      ·intro w120 M120
       intro a120 F120 S120
       refine obl_of (by rfl) ?_
       exact s_r (v := .agg #[.bool (xs[i].fVersions[j].fNil), .bool (xs[i].fVersions[j].fBare), .string (xs[i].fVersions[j].fMeta.fName), .string (xs[i].fVersions[j].fMeta.fHome), .string (xs[i].fVersions[j].fMeta.fVersion), .string (xs[i].fVersions[j].fMeta.fDescription), .string (xs[i].fVersions[j].fMeta.fIcon), .string (xs[i].fVersions[j].fMeta.fAPIVersion), .string (xs[i].fVersions[j].fMeta.fCondition), .string (xs[i].fVersions[j].fMeta.fTags), .string (xs[i].fVersions[j].fMeta.fAppVersion), .string (xs[i].fVersions[j].fMeta.fKubeVersion), .string (xs[i].fVersions[j].fMeta.fType), .slice (xs[i].fVersions[j].fMeta.fSources_a) (xs[i].fVersions[j].fMeta.fSources.length) (xs[i].fVersions[j].fMeta.fSources_c), .slice (xs[i].fVersions[j].fMeta.fKeywords_a) (xs[i].fVersions[j].fMeta.fKeywords.length) (xs[i].fVersions[j].fMeta.fKeywords_c), .slice (xs[i].fVersions[j].fMeta.fMaintainers_a) (xs[i].fVersions[j].fMeta.fMaintainers.length) (xs[i].fVersions[j].fMeta.fMaintainers_c), .slice (xs[i].fVersions[j].fMeta.fDependencies_a) (xs[i].fVersions[j].fMeta.fDependencies.length) (xs[i].fVersions[j].fMeta.fDependencies_c), .slice (xs[i].fVersions[j].fURLs_a) (xs[i].fVersions[j].fURLs.length) (xs[i].fVersions[j].fURLs_c), .string (xs[i].fVersions[j].fDigest)]) (r_ldR rfl (F120.e (.pointer (some (ad57.add (j * 19))))) (cs := [.bool (xs[i].fVersions[j].fNil), .bool (xs[i].fVersions[j].fBare), .string (xs[i].fVersions[j].fMeta.fName), .string (xs[i].fVersions[j].fMeta.fHome), .string (xs[i].fVersions[j].fMeta.fVersion), .string (xs[i].fVersions[j].fMeta.fDescription), .string (xs[i].fVersions[j].fMeta.fIcon), .string (xs[i].fVersions[j].fMeta.fAPIVersion), .string (xs[i].fVersions[j].fMeta.fCondition), .string (xs[i].fVersions[j].fMeta.fTags), .string (xs[i].fVersions[j].fMeta.fAppVersion), .string (xs[i].fVersions[j].fMeta.fKubeVersion), .string (xs[i].fVersions[j].fMeta.fType), .slice (xs[i].fVersions[j].fMeta.fSources_a) (xs[i].fVersions[j].fMeta.fSources.length) (xs[i].fVersions[j].fMeta.fSources_c), .slice (xs[i].fVersions[j].fMeta.fKeywords_a) (xs[i].fVersions[j].fMeta.fKeywords.length) (xs[i].fVersions[j].fMeta.fKeywords_c), .slice (xs[i].fVersions[j].fMeta.fMaintainers_a) (xs[i].fVersions[j].fMeta.fMaintainers.length) (xs[i].fVersions[j].fMeta.fMaintainers_c), .slice (xs[i].fVersions[j].fMeta.fDependencies_a) (xs[i].fVersions[j].fMeta.fDependencies.length) (xs[i].fVersions[j].fMeta.fDependencies_c), .slice (xs[i].fVersions[j].fURLs_a) (xs[i].fVersions[j].fURLs.length) (xs[i].fVersions[j].fURLs_c), .string (xs[i].fVersions[j].fDigest)]) ((hkr _ (Sp.dropM S120.drop).drop.drop.drop.drop).elA hA57 (j := j) (row := xs[i].fVersions[j].cells) (by rw [List.getElem?_map, List.getElem?_eq_getElem hlt_j]; rfl)) Try.underlying69 rfl (by kernel_rfl) (v := #[.bool (xs[i].fVersions[j].fNil), .bool (xs[i].fVersions[j].fBare), .string (xs[i].fVersions[j].fMeta.fName), .string (xs[i].fVersions[j].fMeta.fHome), .string (xs[i].fVersions[j].fMeta.fVersion), .string (xs[i].fVersions[j].fMeta.fDescription), .string (xs[i].fVersions[j].fMeta.fIcon), .string (xs[i].fVersions[j].fMeta.fAPIVersion), .string (xs[i].fVersions[j].fMeta.fCondition), .string (xs[i].fVersions[j].fMeta.fTags), .string (xs[i].fVersions[j].fMeta.fAppVersion), .string (xs[i].fVersions[j].fMeta.fKubeVersion), .string (xs[i].fVersions[j].fMeta.fType), .slice (xs[i].fVersions[j].fMeta.fSources_a) (xs[i].fVersions[j].fMeta.fSources.length) (xs[i].fVersions[j].fMeta.fSources_c), .slice (xs[i].fVersions[j].fMeta.fKeywords_a) (xs[i].fVersions[j].fMeta.fKeywords.length) (xs[i].fVersions[j].fMeta.fKeywords_c), .slice (xs[i].fVersions[j].fMeta.fMaintainers_a) (xs[i].fVersions[j].fMeta.fMaintainers.length) (xs[i].fVersions[j].fMeta.fMaintainers_c), .slice (xs[i].fVersions[j].fMeta.fDependencies_a) (xs[i].fVersions[j].fMeta.fDependencies.length) (xs[i].fVersions[j].fMeta.fDependencies_c), .slice (xs[i].fVersions[j].fURLs_a) (xs[i].fVersions[j].fURLs.length) (xs[i].fVersions[j].fURLs_c), .string (xs[i].fVersions[j].fDigest)]) (by kernel_rfl)) S120
      ·intro w122 M122
       intro a122 F122 S122
       refine obl_of (by rfl) ?_
       exact s_p F122 (v := .pointer (some ⟨g36, 0, none⟩)) (by kernel_rfl) (by kernel_rfl) (by kernel_rfl) S122
      ·intro w123 M123
       intro a123 F123 S123
       refine obl_of (by rfl) ?_
       exact s_r (v := .string b34) (r_ld rfl (F123.e (.pointer (some ⟨g36, 0, none⟩))) (v := .string b34) (((Sp.dropM S123.drop).bk 0 rfl).cell 0) Try.underlying9 rfl) S123
      ·intro w125 M125
       intro a125 F125 S125
       refine obl_of (by rfl) ?_
       refine s_c F125 (f := 34) (args := #[.agg #[.bool (xs[i].fVersions[j].fNil), .bool (xs[i].fVersions[j].fBare), .string (xs[i].fVersions[j].fMeta.fName), .string (xs[i].fVersions[j].fMeta.fHome), .string (xs[i].fVersions[j].fMeta.fVersion), .string (xs[i].fVersions[j].fMeta.fDescription), .string (xs[i].fVersions[j].fMeta.fIcon), .string (xs[i].fVersions[j].fMeta.fAPIVersion), .string (xs[i].fVersions[j].fMeta.fCondition), .string (xs[i].fVersions[j].fMeta.fTags), .string (xs[i].fVersions[j].fMeta.fAppVersion), .string (xs[i].fVersions[j].fMeta.fKubeVersion), .string (xs[i].fVersions[j].fMeta.fType), .slice (xs[i].fVersions[j].fMeta.fSources_a) (xs[i].fVersions[j].fMeta.fSources.length) (xs[i].fVersions[j].fMeta.fSources_c), .slice (xs[i].fVersions[j].fMeta.fKeywords_a) (xs[i].fVersions[j].fMeta.fKeywords.length) (xs[i].fVersions[j].fMeta.fKeywords_c), .slice (xs[i].fVersions[j].fMeta.fMaintainers_a) (xs[i].fVersions[j].fMeta.fMaintainers.length) (xs[i].fVersions[j].fMeta.fMaintainers_c), .slice (xs[i].fVersions[j].fMeta.fDependencies_a) (xs[i].fVersions[j].fMeta.fDependencies.length) (xs[i].fVersions[j].fMeta.fDependencies_c), .slice (xs[i].fVersions[j].fURLs_a) (xs[i].fVersions[j].fURLs.length) (xs[i].fVersions[j].fURLs_c), .string (xs[i].fVersions[j].fDigest)], .string b34]) (by kernel_rfl) (by kernel_rfl) (by kernel_rfl) (ixEntry_sp (xs[i].fVersions[j]) b34 _ _ _ S125.drop (fun w S => hku w (Sp.dropM S).drop.drop.drop.drop) (by first | omega | (simp; done) | (simp; omega)) (by first | omega | (simp; done) | (simp; omega)) (by first | omega | (simp; done) | (simp; omega)) (by first | omega | (simp; done) | (simp; omega))) ?_
       rintro _ _ ⟨v128, Bu128, bu128, rfl, S128, hp0_128⟩
       exact ⟨_, _, rfl, ⟨v128, Bu128, bu128, rfl, rfl, hp0_128⟩, S128⟩
      ·intro w129 M129
       rintro _ _ ⟨v128, Bu128, bu128, rfl, rfl, hp0_128⟩ hA132
       intro a129 F129 S129
       refine obl_of (by rfl) ?_
       exact sAt_mono (s_news F129 69 #[.bool false, .bool false, .string b34, .string ⟨#[]⟩, .string v128, .string (ascF (xs[i].fVersions[j]).fMeta.fDescription), .string ⟨#[]⟩, .string ⟨#[118, 50]⟩, .string ⟨#[]⟩, .string ⟨#[]⟩, .string ⟨#[]⟩, .string ⟨#[]⟩, .string ⟨#[]⟩, .slice none 0 0, .slice none 0 0, .slice none 0 0, .slice none 0 0, .slice Bu128 ((someF (xs[i].fVersions[j]).fURLs).length) bu128, .string (ascF (xs[i].fVersions[j]).fDigest)] 1 (by kernel_rfl) (by kernel_rfl) (by kernel_rfl) S129.drop) fun _ _ ⟨g132, e1, e2⟩ => ⟨v128, Bu128, bu128, g132, (by kernel_rfl), e1, e2⟩
      ·intro w133 M133
       rintro _ _ ⟨v128, Bu128, bu128, rfl, rfl, hp0_128⟩ hA137
       rintro _ _ ⟨v128x, Bu128x, bu128x, g132, e13_2, rfl, rfl⟩ hA138
       have e13_2 := envE_at (v := .agg #[.bool false, .bool false, .string b34, .string ⟨#[]⟩, .string v128, .string (ascF (xs[i].fVersions[j]).fMeta.fDescription), .string ⟨#[]⟩, .string ⟨#[118, 50]⟩, .string ⟨#[]⟩, .string ⟨#[]⟩, .string ⟨#[]⟩, .string ⟨#[]⟩, .string ⟨#[]⟩, .slice none 0 0, .slice none 0 0, .slice none 0 0, .slice none 0 0, .slice Bu128 ((someF (xs[i].fVersions[j]).fURLs).length) bu128, .string (ascF (xs[i].fVersions[j]).fDigest)]) e13_2 (by kernel_rfl)
       obtain ⟨rfl, rfl, rfl⟩ : v128 = v128x ∧ Bu128 = Bu128x ∧ bu128 = bu128x := by cases e13_2; exact ⟨rfl, rfl, rfl⟩
       clear e13_2
       intro a133 F133 S133
       refine obl_of (by rfl) ?_
       exact sAt_mono (s_app rfl Try.underlying65 19 _ tin69 rfl rfl (F133.e (.slice Bv j bv)) S133 ([Value.bool false, .bool false, .string b34, .string ⟨#[]⟩, .string v128, .string (ascF (xs[i].fVersions[j]).fMeta.fDescription), .string ⟨#[]⟩, .string ⟨#[118, 50]⟩, .string ⟨#[]⟩, .string ⟨#[]⟩, .string ⟨#[]⟩, .string ⟨#[]⟩, .string ⟨#[]⟩, .slice none 0 0, .slice none 0 0, .slice none 0 0, .slice none 0 0, .slice Bu128 ((someF (xs[i].fVersions[j]).fURLs).length) bu128, .string (ascF (xs[i].fVersions[j]).fDigest)]) (F133.e (.slice (some ⟨g132, 0, none⟩) 1 1)) ((Sp.bkm S133.drop hA138).sl (by simp)) rfl (by simp [Value.oneCell']) (by omega) (by omega) (n' := j + 1) (by omega) (cs' := flatC Ty69.cells (vs ++ [ixE b34 v128 (ascF xs[i].fVersions[j].fMeta.fDescription) (ascF xs[i].fVersions[j].fDigest) Bu128 bu128 (someF xs[i].fVersions[j].fURLs)])) (by rw [flatC_snoc]; rfl)) fun _ _ ⟨A139, c139, e1, e2⟩ => ⟨v128, Bu128, bu128, A139, c139, (by kernel_rfl), e1, e2⟩
      ·intro w140 M140
       intro a140 F140 S140
       refine obl_of (by rfl) ?_
       exact s_p F140 (v := .pointer (some ⟨g36, 1, none⟩)) (by kernel_rfl) (by kernel_rfl) (by kernel_rfl) S140
     ·rintro _ _ ⟨v128, Bu128, bu128, rfl, rfl, hp0_128⟩
      rintro _ _ ⟨v128x, Bu128x, bu128x, g132, e13_2, rfl, rfl⟩
      have e13_2 := envE_at (v := .agg #[.bool false, .bool false, .string b34, .string ⟨#[]⟩, .string v128, .string (ascF (xs[i].fVersions[j]).fMeta.fDescription), .string ⟨#[]⟩, .string ⟨#[118, 50]⟩, .string ⟨#[]⟩, .string ⟨#[]⟩, .string ⟨#[]⟩, .string ⟨#[]⟩, .string ⟨#[]⟩, .slice none 0 0, .slice none 0 0, .slice none 0 0, .slice none 0 0, .slice Bu128 ((someF (xs[i].fVersions[j]).fURLs).length) bu128, .string (ascF (xs[i].fVersions[j]).fDigest)]) e13_2 (by kernel_rfl)
      obtain ⟨rfl, rfl, rfl⟩ : v128 = v128x ∧ Bu128 = Bu128x ∧ bu128 = bu128x := by cases e13_2; exact ⟨rfl, rfl, rfl⟩
      clear e13_2
      rintro _ _ ⟨v128x, Bu128x, bu128x, A139, c139, e14_3, rfl, rfl⟩
      have e14_3 := envE_at (v := .agg #[.bool false, .bool false, .string b34, .string ⟨#[]⟩, .string v128, .string (ascF (xs[i].fVersions[j]).fMeta.fDescription), .string ⟨#[]⟩, .string ⟨#[118, 50]⟩, .string ⟨#[]⟩, .string ⟨#[]⟩, .string ⟨#[]⟩, .string ⟨#[]⟩, .string ⟨#[]⟩, .slice none 0 0, .slice none 0 0, .slice none 0 0, .slice none 0 0, .slice Bu128 ((someF (xs[i].fVersions[j]).fURLs).length) bu128, .string (ascF (xs[i].fVersions[j]).fDigest)]) e14_3 (by kernel_rfl)
      obtain ⟨rfl, rfl, rfl⟩ : v128 = v128x ∧ Bu128 = Bu128x ∧ bu128 = bu128x := by cases e14_3; exact ⟨rfl, rfl, rfl⟩
      clear e14_3
      intro a142 w141 F142 S141
      have S143 : Sp R w141 (SA.own (.slice A139 (j + 1) c139) 69 19 (j + 1) (flatC Ty69.cells (vs ++ [ixE b34 v128 (ascF xs[i].fVersions[j].fMeta.fDescription) (ascF xs[i].fVersions[j].fDigest) Bu128 bu128 (someF xs[i].fVersions[j].fURLs)])) :: SA.blk g132 69 #[.bool false, .bool false, .string b34, .string ⟨#[]⟩, .string v128, .string (ascF (xs[i].fVersions[j]).fMeta.fDescription), .string ⟨#[]⟩, .string ⟨#[118, 50]⟩, .string ⟨#[]⟩, .string ⟨#[]⟩, .string ⟨#[]⟩, .string ⟨#[]⟩, .string ⟨#[]⟩, .slice none 0 0, .slice none 0 0, .slice none 0 0, .slice none 0 0, .slice Bu128 ((someF (xs[i].fVersions[j]).fURLs).length) bu128, .string (ascF (xs[i].fVersions[j]).fDigest)] :: SA.own (.slice Bu128 (someF (xs[i].fVersions[j]).fURLs).length bu128) 9 1 ((someF (xs[i].fVersions[j]).fURLs).length) (strs (someF (xs[i].fVersions[j]).fURLs)) :: SA.blk g36 103 #[.string b34, .slice Bv j bv] :: SA.stars (vs.map SA.uv) :: SA.own (.slice B out.length b) 103 2 out.length (flatC Ty103.cells out) :: SA.stars (out.map SA.nv) :: L) := S141
      refine op_sq0 F142 (s_st rfl (F142.e (.pointer (some ⟨g36, 1, none⟩))) (F142.e (.slice A139 (j + 1) c139)) S143.p3 (by kernel_rfl) rfl rfl rfl (cs := #[.string b34, .slice A139 (j + 1) c139]) (by kernel_rfl)) ?_
      rintro _ _ w144 rfl S144 F144
      refine wpList_nil ?_
      refine hK66 _ _ ?_; clear hK66 K66
      refine wp_region_lit ?_
      refine op_q F144 (.int .i64 (↑j)) ?_; intro a145 F145
      refine op_rq (v := .int .i64 (↑(j + 1))) F145 (r_add (z := ↑(j + 1)) rfl (F145.e (.int .i64 (↑j))) (F145.e (.int .i64 1)) (wr64 (by omega) (by omega) (by omega))) ?_; intro a146 F146
      refine op_q F146 (.int .i64 (↑(j + 1))) ?_; intro a147 F147
      refine wpList_nil ?_
      have S148 : Sp R w144 (SA.uv (ixE b34 v128 (ascF xs[i].fVersions[j].fMeta.fDescription) (ascF xs[i].fVersions[j].fDigest) Bu128 bu128 (someF xs[i].fVersions[j].fURLs)) :: SA.blk g36 103 #[.string b34, .slice A139 (j + 1) c139] :: SA.own (.slice A139 (j + 1) c139) 69 19 (j + 1) (flatC Ty69.cells (vs ++ [ixE b34 v128 (ascF xs[i].fVersions[j].fMeta.fDescription) (ascF xs[i].fVersions[j].fDigest) Bu128 bu128 (someF xs[i].fVersions[j].fURLs)])) :: SA.blk g132 69 #[.bool false, .bool false, .string b34, .string ⟨#[]⟩, .string v128, .string (ascF (xs[i].fVersions[j]).fMeta.fDescription), .string ⟨#[]⟩, .string ⟨#[118, 50]⟩, .string ⟨#[]⟩, .string ⟨#[]⟩, .string ⟨#[]⟩, .string ⟨#[]⟩, .string ⟨#[]⟩, .slice none 0 0, .slice none 0 0, .slice none 0 0, .slice none 0 0, .slice Bu128 ((someF (xs[i].fVersions[j]).fURLs).length) bu128, .string (ascF (xs[i].fVersions[j]).fDigest)] :: SA.stars (vs.map SA.uv) :: SA.own (.slice B out.length b) 103 2 out.length (flatC Ty103.cells out) :: SA.stars (out.map SA.nv) :: L) := (Sp.own0_of S144.p3 : Sp R w144 (SA.uv (ixE b34 v128 (ascF xs[i].fVersions[j].fMeta.fDescription) (ascF xs[i].fVersions[j].fDigest) Bu128 bu128 (someF xs[i].fVersions[j].fURLs)) :: _))
      have S149 : Sp R w144 (SA.stars ((vs ++ [ixE b34 v128 (ascF xs[i].fVersions[j].fMeta.fDescription) (ascF xs[i].fVersions[j].fDigest) Bu128 bu128 (someF xs[i].fVersions[j].fURLs)]).map SA.uv) :: SA.blk g36 103 #[.string b34, .slice A139 (j + 1) c139] :: SA.own (.slice A139 (j + 1) c139) 69 19 (j + 1) (flatC Ty69.cells (vs ++ [ixE b34 v128 (ascF xs[i].fVersions[j].fMeta.fDescription) (ascF xs[i].fVersions[j].fDigest) Bu128 bu128 (someF xs[i].fVersions[j].fURLs)])) :: SA.blk g132 69 #[.bool false, .bool false, .string b34, .string ⟨#[]⟩, .string v128, .string (ascF (xs[i].fVersions[j]).fMeta.fDescription), .string ⟨#[]⟩, .string ⟨#[118, 50]⟩, .string ⟨#[]⟩, .string ⟨#[]⟩, .string ⟨#[]⟩, .string ⟨#[]⟩, .string ⟨#[]⟩, .slice none 0 0, .slice none 0 0, .slice none 0 0, .slice none 0 0, .slice Bu128 ((someF (xs[i].fVersions[j]).fURLs).length) bu128, .string (ascF (xs[i].fVersions[j]).fDigest)] :: SA.own (.slice B out.length b) 103 2 out.length (flatC Ty103.cells out) :: SA.stars (out.map SA.nv) :: L) := by rw [List.map_append, List.map_cons, List.map_nil]; exact stars_snoc S148.p4.p1
      exact hK44 _ _ _ (by first | omega | (simp; omega)) ⟨A139, c139, vs ++ [ixE b34 v128 (ascF xs[i].fVersions[j].fMeta.fDescription) (ascF xs[i].fVersions[j].fDigest) Bu128 bu128 (someF xs[i].fVersions[j].fURLs)], j + 1, rfl, (F147.kk 0 (F147.kk 2 (F147.kk 3 (F147.kk 4 (F147.kk 5 (F147.kk 6 F147.nil)))))), S149.p3.drop.p4.p4.p2.p4.p4, (by first | omega | (with_reducible assumption) | (simp; done)), (by first | omega | (with_reducible assumption) | (simp; done)), (by simp [hvl]), (fun x hx => (List.mem_append.1 hx).elim (hvp x) (fun hx => by obtain rfl := List.mem_singleton.1 hx; obtain ⟨n, hn⟩ := hp0_128; subst hn; exact ⟨_, n, _, _, _, _, _, rfl, someF_len _⟩))⟩
    ·have F150 := F62.sb 35 (by kernel_rfl) hc63
     have F151 := F150.sb 36 (by kernel_rfl) hc63
     refine wp_cond_false (F151.ev (by kernel_rfl)) ?_
     refine wp_exit ?_
     refine ex_then ?_; clear hK45 K45
     refine ex_then ?_
     refine ex_in ?_
     refine hK40 _ _ ?_; clear hK40 K40
     refine wp_seq_k fun K152 hK152 => ?_
     subst hvl
     refine wp_region_lit ?_
     refine op_q F151 (.slice B out.length b) ?_; intro a153 F153
     refine op_q F153 (.int .i64 (↑out.length)) ?_; intro a154 F154
     refine op_q F154 (.int .i64 (↑out.length)) ?_; intro a155 F155
     refine wpList_nil ?_
     refine hK152 _ _ ?_; clear hK152 K152
     refine wp_seq_k fun K156 hK156 => ?_
     refine wp_block ?_
     refine fw_loop (fun m' a' w' => ∃ at_ : Nat, at_ = m' ∧ Fr 97 [] a' [(0, .slice (A) (xs.length) (c)), (2, .slice none 0 0), (3, .slice B out.length b), (4, .int .i64 (↑i)), (5, .pointer (some ⟨g36, 0, none⟩)), (7, .int .i64 (↑at_))] ∧ Sp R w' (SA.blk g36 103 #[.string b34, .slice Bv vs.length bv] :: SA.own (.slice Bv vs.length bv) 69 19 vs.length (flatC Ty69.cells vs) :: SA.stars (vs.map SA.uv) :: SA.own (.slice B out.length b) 103 2 out.length (flatC Ty103.cells out) :: SA.stars (out.map SA.nv) :: L) ∧ (at_ ≤ out.length) ∧ (∀ y ∈ out.drop at_, Op.bytesLess b34.toList y.fName.toList = true)) _ ⟨out.length, rfl, (F155.kk 0 (F155.kk 2 (F155.kk 3 (F155.kk 4 (F155.kk 5 (F155.kk 7 F155.nil)))))), S44.p4.p4.p4.p4.p4, (by first | omega | (with_reducible assumption) | (simp; done)), (fun y hy => by rw [List.drop_eq_nil_of_le (Nat.le_refl _)] at hy; cases hy)⟩ ?_
     rintro m157 a157 w157 ⟨at_, hm157, F157, S157, hat, hgt⟩ K157 hK157
     refine wp_seq_k fun K158 hK158 => ?_
     refine wp_seq_k fun K159 hK159 => ?_
     rcases btf (decide ((0 : Int) < ↑at_)) with hc160 | hc160
     ·skip
      have hc160p := of_decide_eq_true hc160
      have hi0 : 0 < at_ := by have := of_decide_eq_true hc160; omega
      have hlt_p : at_ - 1 < out.length := by omega
      obtain ⟨ad161, hA161⟩ := (own_rowsT1 (S157.ow 3 rfl) (by first | rfl | (simp; done) | omega) (by decide) (fun x => x.len) (by first | omega | (simp; omega))).addr (by simp; omega)
      refine wp_region_sepF (L0 := SA.blk g36 103 #[.string b34, .slice Bv vs.length bv] :: SA.own (.slice Bv vs.length bv) 69 19 vs.length (flatC Ty69.cells vs) :: SA.stars (vs.map SA.uv) :: SA.own (.slice B out.length b) 103 2 out.length (flatC Ty103.cells out) :: SA.stars (out.map SA.nv) :: L) [some [], some [(0, 57)], some [(1, 58)], some [(2, 59)], some [(2, 59)], some [(2, 59), (4, 61)], some [(2, 59), (3, 60), (5, 62)], some [(2, 59), (6, 63)], some [(2, 59), (7, 64)], some [(2, 59)], some [(2, 59), (9, 66)], some [(2, 59), (8, 65), (10, 67)], some [(2, 59), (11, 68)]] [.v 57 (.int .i64 (↑at_)), .v 58 (.bool true), .v 59 (.bool true), .v 60 (.slice B out.length b), .v 61 (.int .i64 (↑at_)), .v 62 (.int .i64 (↑(at_ - 1))), .v 63 (.pointer (some (ad161.add ((at_ - 1) * 2)))), .v 64 (.pointer (some (ad161.add ((at_ - 1) * 2)))), .v 65 (.string (out[at_ - 1].fName)), .v 66 (.pointer (some ⟨g36, 0, none⟩)), .v 67 (.string b34), .v 68 (.bool (!(Op.bytesLess (out[at_ - 1].fName).toList b34.toList || (out[at_ - 1].fName).toList == b34.toList))), .v 69 (.bool (!(Op.bytesLess (out[at_ - 1].fName).toList b34.toList || (out[at_ - 1].fName).toList == b34.toList)))] [] F157 rfl (by kernel_rfl) S157 ?_ ?_
      ·refine ⟨?_, ?_, ?_, ?_, ?_, ?_, ?_, ?_, ?_, ?_, ?_, ?_, ?_, trivial⟩
       ·intro w196 M196
        intro a196 F196 S196
        refine obl_of (by rfl) ?_
        exact s_p F196 (v := .int .i64 (↑at_)) (by kernel_rfl) (by kernel_rfl) (by kernel_rfl) S196
       ·intro w197 M197
        intro a197 F197 S197
        refine obl_of (by rfl) ?_
        exact s_pb F197 (b := decide ((0 : Int) < ↑at_)) hc160 (by kernel_rfl) (by kernel_rfl) (by kernel_rfl) S197
       ·intro w199 M199
        intro a199 F199 S199
        refine obl_of (by rfl) ?_
        exact s_p F199 (v := .bool true) (by kernel_rfl) (by kernel_rfl) (by kernel_rfl) S199
       ·intro w201 M201
        intro a201 F201 S201
        refine obl_yes (F201.wanted (q := true) (by kernel_rfl) (by intro t ht; injection ht with ht; subst ht; exact nble rfl)) ?_
        exact s_p F201 (v := .slice B out.length b) (by kernel_rfl) (by kernel_rfl) (by kernel_rfl) S201
       ·intro w203 M203
        intro a203 F203 S203
        refine obl_yes (F203.wanted (q := true) (by kernel_rfl) (by intro t ht; injection ht with ht; subst ht; exact nble rfl)) ?_
        exact s_p F203 (v := .int .i64 (↑at_)) (by kernel_rfl) (by kernel_rfl) (by kernel_rfl) S203
       ·intro w205 M205
        intro a205 F205 S205
        refine obl_yes (F205.wanted (q := true) (by kernel_rfl) (by intro t ht; injection ht with ht; subst ht; exact nble rfl)) ?_
        exact s_r (v := .int .i64 (↑(at_ - 1))) (r_sub (z := ↑(at_ - 1)) rfl (F205.e (.int .i64 (↑at_))) (F205.e (.int .i64 1)) (wr64 (by omega) (by omega) (by omega))) S205
       ·intro w208 M208
        intro a208 F208 S208
        refine obl_yes (F208.wanted (q := true) (by kernel_rfl) (by intro t ht; injection ht with ht; subst ht; exact nble rfl)) ?_
        exact s_r (v := .pointer (some (ad161.add ((at_ - 1) * 2)))) (r_ix rfl Try.underlying95 2 (by kernel_rfl) (F208.e (.slice B out.length b)) hA161 (F208.e (.int .i64 (↑(at_ - 1)))) (at_ - 1) (by first | rfl | omega | simp) (by first | omega | (simp; done) | (simp; omega)) (rfl)) S208
       ·intro w212 M212
        intro a212 F212 S212
        refine obl_yes (F212.wanted (q := true) (by kernel_rfl) (by intro t ht; injection ht with ht; subst ht; exact nble rfl)) ?_
        exact s_p F212 (v := .pointer (some (ad161.add ((at_ - 1) * 2)))) (by kernel_rfl) (by kernel_rfl) (by kernel_rfl) S212
       ·intro w215 M215
        intro a215 F215 S215
        refine obl_yes (F215.wanted (q := true) (by kernel_rfl) (by intro t ht; injection ht with ht; subst ht; exact nble rfl)) ?_
        exact s_r (v := .string (out[at_ - 1].fName)) (r_ld rfl (F215.e (.pointer (some (ad161.add ((at_ - 1) * 2))))) (v := .string (out[at_ - 1].fName)) (cell0 ((own_rowsT1 ((Sp.dropM S215.drop).ow 3 rfl) (by first | rfl | (simp; done) | omega) (by decide) (fun x => x.len) (by first | omega | (simp; omega))).elA hA161 (j := at_ - 1) (row := out[at_ - 1].cells) (by rw [List.getElem?_map, List.getElem?_eq_getElem hlt_p]; rfl)) rfl) Try.underlying9 rfl) S215
       ·intro w218 M218
        intro a218 F218 S218
        refine obl_yes (F218.wanted (q := true) (by kernel_rfl) (by intro t ht; injection ht with ht; subst ht; exact nble rfl)) ?_
        exact s_p F218 (v := .pointer (some ⟨g36, 0, none⟩)) (by kernel_rfl) (by kernel_rfl) (by kernel_rfl) S218
       ·intro w220 M220
        intro a220 F220 S220
        refine obl_yes (F220.wanted (q := true) (by kernel_rfl) (by intro t ht; injection ht with ht; subst ht; exact nble rfl)) ?_
        exact s_r (v := .string b34) (r_ld rfl (F220.e (.pointer (some ⟨g36, 0, none⟩))) (v := .string b34) (((Sp.dropM S220.drop).bk 0 rfl).cell 0) Try.underlying9 rfl) S220
       ·intro w223 M223
        intro a223 F223 S223
        refine obl_yes (F223.wanted (q := true) (by kernel_rfl) (by intro t ht; injection ht with ht; subst ht; exact nble rfl)) ?_
        exact s_p F223 (v := .bool (!(Op.bytesLess (out[at_ - 1].fName).toList b34.toList || (out[at_ - 1].fName).toList == b34.toList))) (by kernel_rfl) (by kernel_rfl) (by kernel_rfl) S223
       ·intro w227 M227
        intro a227 F227 S227
        refine obl_of (by rfl) ?_
        exact s_p F227 (v := .bool (!(Op.bytesLess (out[at_ - 1].fName).toList b34.toList || (out[at_ - 1].fName).toList == b34.toList))) (by kernel_rfl) (by kernel_rfl) (by kernel_rfl) S227
      ·intro a231 w230 F231 S230
       have S232 : Sp R w230 (SA.blk g36 103 #[.string b34, .slice Bv vs.length bv] :: SA.own (.slice Bv vs.length bv) 69 19 vs.length (flatC Ty69.cells vs) :: SA.stars (vs.map SA.uv) :: SA.own (.slice B out.length b) 103 2 out.length (flatC Ty103.cells out) :: SA.stars (out.map SA.nv) :: L) := S230
       refine wpList_nil ?_
       refine hK159 _ _ ?_; clear hK159 K159
       rcases btf (Op.bytesLess (out[at_ - 1].fName).toList b34.toList || (out[at_ - 1].fName).toList == b34.toList) with hc233 | hc233
       ·have F234 := F231.sb 68 (by kernel_rfl) (show (!(Op.bytesLess (out[at_ - 1].fName).toList b34.toList || (out[at_ - 1].fName).toList == b34.toList)) = false by rw [hc233]; rfl)
        have F235 := F234.sb 69 (by kernel_rfl) (show (!(Op.bytesLess (out[at_ - 1].fName).toList b34.toList || (out[at_ - 1].fName).toList == b34.toList)) = false by rw [hc233]; rfl)
        refine wp_cond_false (F235.ev (by kernel_rfl)) ?_
        refine wp_exit ?_
        refine ex_then ?_; clear hK158 K158
        refine ex_then ?_
        refine ex_in ?_
        refine hK156 _ _ ?_; clear hK156 K156
        refine wp_seq_k fun K236 hK236 => ?_
        refine wp_seq_k fun K237 hK237 => ?_
        refine wp_region_sepF (L0 := SA.blk g36 103 #[.string b34, .slice Bv vs.length bv] :: SA.own (.slice Bv vs.length bv) 69 19 vs.length (flatC Ty69.cells vs) :: SA.stars (vs.map SA.uv) :: SA.own (.slice B out.length b) 103 2 out.length (flatC Ty103.cells out) :: SA.stars (out.map SA.nv) :: L) [some [], some [(0, 72)], some [(1, 73)], some [(2, 74)], some [(2, 74)], some [(2, 74), (4, 76)], some [(2, 74), (3, 75), (5, 77)], some [(2, 74), (6, 78)], some [(2, 74), (7, 79)], some [(2, 74)], some [(2, 74), (9, 81)], some [(2, 74), (8, 80), (10, 82)], some [(2, 74), (11, 83)]] [.v 72 (.int .i64 (↑at_)), .v 73 (.bool true), .v 74 (.bool true), .v 75 (.slice B out.length b), .v 76 (.int .i64 (↑at_)), .v 77 (.int .i64 (↑(at_ - 1))), .v 78 (.pointer (some (ad161.add ((at_ - 1) * 2)))), .v 79 (.pointer (some (ad161.add ((at_ - 1) * 2)))), .v 80 (.string (out[at_ - 1].fName)), .v 81 (.pointer (some ⟨g36, 0, none⟩)), .v 82 (.string b34), .v 83 (.bool ((out[at_ - 1].fName).toList == b34.toList)), .v 84 (.bool ((out[at_ - 1].fName).toList == b34.toList))] [] F235 rfl (by kernel_rfl) S232 ?_ ?_
        ·refine ⟨?_, ?_, ?_, ?_, ?_, ?_, ?_, ?_, ?_, ?_, ?_, ?_, ?_, trivial⟩
         ·intro w272 M272
          intro a272 F272 S272
          refine obl_of (by rfl) ?_
          exact s_p F272 (v := .int .i64 (↑at_)) (by kernel_rfl) (by kernel_rfl) (by kernel_rfl) S272
         ·intro w273 M273
          intro a273 F273 S273
          refine obl_of (by rfl) ?_
          exact s_pb F273 (b := decide ((0 : Int) < ↑at_)) hc160 (by kernel_rfl) (by kernel_rfl) (by kernel_rfl) S273
         ·intro w275 M275
          intro a275 F275 S275
          refine obl_of (by rfl) ?_
          exact s_p F275 (v := .bool true) (by kernel_rfl) (by kernel_rfl) (by kernel_rfl) S275
         ·intro w277 M277
          intro a277 F277 S277
          refine obl_yes (F277.wanted (q := true) (by kernel_rfl) (by intro t ht; injection ht with ht; subst ht; exact nble rfl)) ?_
          exact s_p F277 (v := .slice B out.length b) (by kernel_rfl) (by kernel_rfl) (by kernel_rfl) S277
         ·intro w279 M279
          intro a279 F279 S279
          refine obl_yes (F279.wanted (q := true) (by kernel_rfl) (by intro t ht; injection ht with ht; subst ht; exact nble rfl)) ?_
          exact s_p F279 (v := .int .i64 (↑at_)) (by kernel_rfl) (by kernel_rfl) (by kernel_rfl) S279
         ·intro w281 M281
          intro a281 F281 S281
          refine obl_yes (F281.wanted (q := true) (by kernel_rfl) (by intro t ht; injection ht with ht; subst ht; exact nble rfl)) ?_
          exact s_r (v := .int .i64 (↑(at_ - 1))) (r_sub (z := ↑(at_ - 1)) rfl (F281.e (.int .i64 (↑at_))) (F281.e (.int .i64 1)) (wr64 (by omega) (by omega) (by omega))) S281
         ·intro w284 M284
          intro a284 F284 S284
          refine obl_yes (F284.wanted (q := true) (by kernel_rfl) (by intro t ht; injection ht with ht; subst ht; exact nble rfl)) ?_
          exact s_r (v := .pointer (some (ad161.add ((at_ - 1) * 2)))) (r_ix rfl Try.underlying95 2 (by kernel_rfl) (F284.e (.slice B out.length b)) hA161 (F284.e (.int .i64 (↑(at_ - 1)))) (at_ - 1) (by first | rfl | omega | simp) (by first | omega | (simp; done) | (simp; omega)) (rfl)) S284
         ·intro w288 M288
          intro a288 F288 S288
          refine obl_yes (F288.wanted (q := true) (by kernel_rfl) (by intro t ht; injection ht with ht; subst ht; exact nble rfl)) ?_
          exact s_p F288 (v := .pointer (some (ad161.add ((at_ - 1) * 2)))) (by kernel_rfl) (by kernel_rfl) (by kernel_rfl) S288
         ·intro w291 M291
          intro a291 F291 S291
          refine obl_yes (F291.wanted (q := true) (by kernel_rfl) (by intro t ht; injection ht with ht; subst ht; exact nble rfl)) ?_
          exact s_r (v := .string (out[at_ - 1].fName)) (r_ld rfl (F291.e (.pointer (some (ad161.add ((at_ - 1) * 2))))) (v := .string (out[at_ - 1].fName)) (cell0 ((own_rowsT1 ((Sp.dropM S291.drop).ow 3 rfl) (by first | rfl | (simp; done) | omega) (by decide) (fun x => x.len) (by first | omega | (simp; omega))).elA hA161 (j := at_ - 1) (row := out[at_ - 1].cells) (by rw [List.getElem?_map, List.getElem?_eq_getElem hlt_p]; rfl)) rfl) Try.underlying9 rfl) S291
         ·intro w294 M294
          intro a294 F294 S294
          refine obl_yes (F294.wanted (q := true) (by kernel_rfl) (by intro t ht; injection ht with ht; subst ht; exact nble rfl)) ?_
          exact s_p F294 (v := .pointer (some ⟨g36, 0, none⟩)) (by kernel_rfl) (by kernel_rfl) (by kernel_rfl) S294
         ·intro w296 M296
          intro a296 F296 S296
          refine obl_yes (F296.wanted (q := true) (by kernel_rfl) (by intro t ht; injection ht with ht; subst ht; exact nble rfl)) ?_
          exact s_r (v := .string b34) (r_ld rfl (F296.e (.pointer (some ⟨g36, 0, none⟩))) (v := .string b34) (((Sp.dropM S296.drop).bk 0 rfl).cell 0) Try.underlying9 rfl) S296
         ·intro w299 M299
          intro a299 F299 S299
          refine obl_yes (F299.wanted (q := true) (by kernel_rfl) (by intro t ht; injection ht with ht; subst ht; exact nble rfl)) ?_
          exact s_p F299 (v := .bool ((out[at_ - 1].fName).toList == b34.toList)) (by kernel_rfl) (by kernel_rfl) (by kernel_rfl) S299
         ·intro w303 M303
          intro a303 F303 S303
          refine obl_of (by rfl) ?_
          exact s_p F303 (v := .bool ((out[at_ - 1].fName).toList == b34.toList)) (by kernel_rfl) (by kernel_rfl) (by kernel_rfl) S303
        ·intro a307 w306 F307 S306
         have S308 : Sp R w306 (SA.blk g36 103 #[.string b34, .slice Bv vs.length bv] :: SA.own (.slice Bv vs.length bv) 69 19 vs.length (flatC Ty69.cells vs) :: SA.stars (vs.map SA.uv) :: SA.own (.slice B out.length b) 103 2 out.length (flatC Ty103.cells out) :: SA.stars (out.map SA.nv) :: L) := S306
         refine wpList_nil ?_
         refine hK237 _ _ ?_; clear hK237 K237
         rcases btf ((out[at_ - 1].fName).toList == b34.toList) with hc309 | hc309
         ·have F310 := F307.sb 83 (by kernel_rfl) hc309
          have F311 := F310.sb 84 (by kernel_rfl) hc309
          refine wp_cond_true (F311.ev (by kernel_rfl)) ?_
          refine wp_exit ?_
          refine ex_then ?_; clear hK236 K236
          refine ex_in ?_
          refine hK27 _ _ ?_; clear hK27 K27
          refine wp_region_lit ?_
          refine op_q F311 (.int .i64 (↑i)) ?_; intro a312 F312
          refine op_rq (v := .int .i64 (↑(i + 1))) F312 (r_add (z := ↑(i + 1)) rfl (F312.e (.int .i64 (↑i))) (F312.e (.int .i64 1)) (wr64 (by omega) (by omega) (by omega))) ?_; intro a313 F313
          refine op_q F313 (.int .i64 (↑(i + 1))) ?_; intro a314 F314
          refine wpList_nil ?_
          exact hK9 _ _ _ (by first | omega | (simp; omega)) ⟨B, b, out, i + 1, rfl, (F314.kk 0 (F314.kk 2 (F314.kk 3 (F314.kk 4 F314.nil)))), S308.drop.drop.drop.p1.p1, (by first | omega | (with_reducible assumption) | (simp; done)), (by first | omega | (with_reducible assumption) | (simp; done)), (by first | omega | (with_reducible assumption) | (simp; done)), (by first | omega | (with_reducible assumption) | (simp; done)), (by first | omega | (with_reducible assumption) | (simp; done))⟩
         ·have F315 := F307.sb 83 (by kernel_rfl) hc309
          have F316 := F315.sb 84 (by kernel_rfl) hc309
          refine wp_cond_false (F316.ev (by kernel_rfl)) ?_
          refine wp_skip ?_
          refine hK236 _ _ ?_; clear hK236 K236
          have hcap : out.length ≤ b := own_cap' (S308.ow 3 rfl)
          refine wp_region_sepF (L0 := SA.blk g36 103 #[.string b34, .slice Bv vs.length bv] :: SA.own (.slice Bv vs.length bv) 69 19 vs.length (flatC Ty69.cells vs) :: SA.stars (vs.map SA.uv) :: SA.own (.slice B out.length b) 103 2 out.length (flatC Ty103.cells out) :: SA.stars (out.map SA.nv) :: L) [some [], some [], some [], some [(0, 85), (1, 86), (2, 87)], some [], some [(4, 89)], some [], some [], some [(6, 91), (7, 92)], some [(4, 89), (5, 90), (8, 93)], some [(3, 88), (4, 89), (5, 90), (8, 93), (9, 94)], none] [.v 85 (.slice B out.length b), .v 86 (.int .i64 (↑at_)), .v 87 (.int .i64 (↑at_)), .v 88 (.slice (B) (at_) (at_)), .v 89 (.agg #[.string b34, .slice Bv vs.length bv]), .p 90 (SA.emp) (fun _ vv AA => ∃ g353 : Nat, vv = .slice (some ⟨g353, 0, none⟩) 1 1 ∧ AA = SA.blk g353 103 #[.string b34, .slice Bv vs.length bv]), .v 91 (.slice B out.length b), .v 92 (.int .i64 (↑at_)), .v 93 (.slice (subA B at_ 2 b) (out.length - at_) (b - at_)), .p 94 (SA.emp) (fun _ vv AA => ∃ A363 : Option Addr, ∃ c363 : Nat, vv = .slice A363 (1 + (out.length - at_)) c363 ∧ AA = SA.own (.slice A363 (1 + (out.length - at_)) c363) 103 2 (1 + (out.length - at_)) (flatC Ty103.cells ({ fName := b34, fVersions_a := Bv, fVersions_c := bv, fVersions := vs } :: out.drop at_))), .p 95 (SA.emp) (fun _ vv AA => ∃ A370 : Option Addr, ∃ c370 : Nat, vv = .slice A370 (out.take at_ ++ { fName := b34, fVersions_a := Bv, fVersions_c := bv, fVersions := vs } :: out.drop at_).length c370 ∧ AA = SA.own (.slice A370 (out.take at_ ++ { fName := b34, fVersions_a := Bv, fVersions_c := bv, fVersions := vs } :: out.drop at_).length c370) 103 2 ((out.take at_ ++ { fName := b34, fVersions_a := Bv, fVersions_c := bv, fVersions := vs } :: out.drop at_).length) (flatC Ty103.cells (out.take at_ ++ { fName := b34, fVersions_a := Bv, fVersions_c := bv, fVersions := vs } :: out.drop at_))), .n SA.emp (fun _ _ A => A = SA.emp)] [(9, 5)] F316 rfl (by kernel_rfl) S308.emp.emp.emp ?_ ?_
          ·refine ⟨?_, ?_, ?_, ?_, ?_, ?_, ?_, ?_, ?_, ?_, ?_, trivial⟩
           ·intro w344 M344
            intro a344 F344 S344
            refine obl_of (by rfl) ?_
            exact s_p F344 (v := .slice B out.length b) (by kernel_rfl) (by kernel_rfl) (by kernel_rfl) S344
           ·intro w345 M345
            intro a345 F345 S345
            refine obl_of (by rfl) ?_
            exact s_p F345 (v := .int .i64 (↑at_)) (by kernel_rfl) (by kernel_rfl) (by kernel_rfl) S345
           ·intro w346 M346
            intro a346 F346 S346
            refine obl_of (by rfl) ?_
            exact s_p F346 (v := .int .i64 (↑at_)) (by kernel_rfl) (by kernel_rfl) (by kernel_rfl) S346
           ·intro w347 M347
            intro a347 F347 S347
            refine obl_of (by rfl) ?_
            exact s_r (v := .slice (B) (at_) (at_)) (r_slc3 rfl Try.underlying95 2 (by kernel_rfl) (F347.e (.slice B out.length b)) (F347.e (.int .i64 (↑at_))) (F347.e (.int .i64 (↑at_))) at_ ⟨rfl, rfl⟩ (by omega)) S347
           ·intro w351 M351
            intro a351 F351 S351
            refine obl_of (by rfl) ?_
            exact s_r (v := .agg #[.string b34, .slice Bv vs.length bv]) (r_ldm rfl (F351.e (.pointer (some ⟨g36, 0, none⟩))) ((Sp.dropM S351.drop).bk 0 rfl) 2 (by kernel_rfl) Try.underlying103 rfl (by kernel_rfl) (v := #[.string b34, .slice Bv vs.length bv]) (by kernel_rfl)) S351
           ·intro w352 M352
            intro a352 F352 S352
            refine obl_of (by rfl) ?_
            exact s_news F352 103 #[.string b34, .slice Bv vs.length bv] 1 (by kernel_rfl) (by kernel_rfl) (by kernel_rfl) S352.drop
           ·intro w354 M354
            intro a354 F354 S354
            refine obl_of (by rfl) ?_
            exact s_p F354 (v := .slice B out.length b) (by kernel_rfl) (by kernel_rfl) (by kernel_rfl) S354
           ·intro w355 M355
            intro a355 F355 S355
            refine obl_of (by rfl) ?_
            exact s_p F355 (v := .int .i64 (↑at_)) (by kernel_rfl) (by kernel_rfl) (by kernel_rfl) S355
           ·intro w356 M356
            intro a356 F356 S356
            refine obl_of (by rfl) ?_
            exact s_r (v := .slice (subA B at_ 2 b) (out.length - at_) (b - at_)) (r_slcl rfl Try.underlying95 2 (by kernel_rfl) (F356.e (.slice B out.length b)) (F356.e (.int .i64 (↑at_))) at_ rfl (by omega)) S356
           ·intro w359 M359
            rintro _ _ ⟨g353, rfl, rfl⟩
            intro a359 F359 S359
            refine obl_of (by rfl) ?_
            exact s_app rfl Try.underlying95 2 _ tin103 rfl rfl (F359.e (.slice (some ⟨g353, 0, none⟩) 1 1)) (Sp.ofblk (sz := 2) (m := 1) (l := [Value.string b34, .slice Bv vs.length bv]) S359.swap.drop rfl (by omega) rfl) (flatC Ty103.cells (out.drop at_)) (F359.e (.slice (subA B at_ 2 b) (out.length - at_) (b - at_))) (sl_dropC Ty103.len (own_slN ((Sp.dropM S359.drop.drop).ow 3 rfl) (by omega)) hcap) (by rw [flatC_len Ty103.len, List.length_drop]) (flatC_one Ty103.one) (by omega) (by omega) (n' := 1 + (out.length - at_)) (by omega) (cs' := flatC Ty103.cells ({ fName := b34, fVersions_a := Bv, fVersions_c := bv, fVersions := vs } :: out.drop at_)) rfl
           ·intro w364 M364
            rintro _ _ ⟨g353, rfl, rfl⟩
            rintro _ _ ⟨A363, c363, rfl, rfl⟩ hA369
            intro a364 F364 S364
            refine obl_of (by rfl) ?_
            exact s_appF rfl Try.underlying95 2 _ tin103 rfl rfl (F364.e (.slice (B) (at_) (at_))) S364.drop (flatC Ty103.cells (out.take at_)) (sl_takeC Ty103.len (own_slN ((Sp.dropM S364.drop).ow 3 rfl) (by omega)) at_) (by rw [flatC_len Ty103.len, List.length_take]; congr 1; omega) (flatC Ty103.cells ({ fName := b34, fVersions_a := Bv, fVersions_c := bv, fVersions := vs } :: out.drop at_)) (F364.e (.slice A363 (1 + (out.length - at_)) c363)) (own_slN (Sp.owm S364.drop hA369) (by first | omega | (simp; omega))) (by rw [flatC_len Ty103.len, List.length_cons, List.length_drop]; omega) (flatC_one Ty103.one) (by omega) (by omega) (by omega) (n' := (out.take at_ ++ { fName := b34, fVersions_a := Bv, fVersions_c := bv, fVersions := vs } :: out.drop at_).length) (by rw [len_ins hat]; omega) (cs' := flatC Ty103.cells (out.take at_ ++ { fName := b34, fVersions_a := Bv, fVersions_c := bv, fVersions := vs } :: out.drop at_)) (by rw [flatC_app])
          ·rintro _ _ ⟨g353, rfl, rfl⟩
           rintro _ _ ⟨A363, c363, rfl, rfl⟩
           rintro _ _ ⟨A370, c370, rfl, rfl⟩
           intro a372 w371 F372 S371
           have S373 : Sp R w371 (SA.own (.slice A370 (out.take at_ ++ { fName := b34, fVersions_a := Bv, fVersions_c := bv, fVersions := vs } :: out.drop at_).length c370) 103 2 ((out.take at_ ++ { fName := b34, fVersions_a := Bv, fVersions_c := bv, fVersions := vs } :: out.drop at_).length) (flatC Ty103.cells (out.take at_ ++ { fName := b34, fVersions_a := Bv, fVersions_c := bv, fVersions := vs } :: out.drop at_)) :: SA.own (.slice A363 (1 + (out.length - at_)) c363) 103 2 (1 + (out.length - at_)) (flatC Ty103.cells ({ fName := b34, fVersions_a := Bv, fVersions_c := bv, fVersions := vs } :: out.drop at_)) :: SA.blk g36 103 #[.string b34, .slice Bv vs.length bv] :: SA.own (.slice Bv vs.length bv) 69 19 vs.length (flatC Ty69.cells vs) :: SA.stars (vs.map SA.uv) :: SA.own (.slice B out.length b) 103 2 out.length (flatC Ty103.cells out) :: SA.stars (out.map SA.nv) :: L) := S371
           refine op_q F372 (.slice A370 (out.take at_ ++ { fName := b34, fVersions_a := Bv, fVersions_c := bv, fVersions := vs } :: out.drop at_).length c370) ?_; intro a374 F374
           refine wpList_nil ?_
           refine hK27 _ _ ?_; clear hK27 K27
           refine wp_region_lit ?_
           refine op_q F374 (.int .i64 (↑i)) ?_; intro a375 F375
           refine op_rq (v := .int .i64 (↑(i + 1))) F375 (r_add (z := ↑(i + 1)) rfl (F375.e (.int .i64 (↑i))) (F375.e (.int .i64 1)) (wr64 (by omega) (by omega) (by omega))) ?_; intro a376 F376
           refine op_q F376 (.int .i64 (↑(i + 1))) ?_; intro a377 F377
           refine wpList_nil ?_
           have S378 : Sp R w371 (SA.nv { fName := b34, fVersions_a := Bv, fVersions_c := bv, fVersions := vs } :: SA.own (.slice A370 (out.take at_ ++ { fName := b34, fVersions_a := Bv, fVersions_c := bv, fVersions := vs } :: out.drop at_).length c370) 103 2 ((out.take at_ ++ { fName := b34, fVersions_a := Bv, fVersions_c := bv, fVersions := vs } :: out.drop at_).length) (flatC Ty103.cells (out.take at_ ++ { fName := b34, fVersions_a := Bv, fVersions_c := bv, fVersions := vs } :: out.drop at_)) :: SA.own (.slice A363 (1 + (out.length - at_)) c363) 103 2 (1 + (out.length - at_)) (flatC Ty103.cells ({ fName := b34, fVersions_a := Bv, fVersions_c := bv, fVersions := vs } :: out.drop at_)) :: SA.blk g36 103 #[.string b34, .slice Bv vs.length bv] :: SA.own (.slice B out.length b) 103 2 out.length (flatC Ty103.cells out) :: SA.stars (out.map SA.nv) :: L) := (Sp.star.2 S373.p4.p4 : Sp R w371 (SA.nv { fName := b34, fVersions_a := Bv, fVersions_c := bv, fVersions := vs } :: _))
           have S379 : Sp R w371 (SA.stars ((out.take at_ ++ { fName := b34, fVersions_a := Bv, fVersions_c := bv, fVersions := vs } :: out.drop at_).map SA.nv) :: SA.own (.slice A370 (out.take at_ ++ { fName := b34, fVersions_a := Bv, fVersions_c := bv, fVersions := vs } :: out.drop at_).length c370) 103 2 ((out.take at_ ++ { fName := b34, fVersions_a := Bv, fVersions_c := bv, fVersions := vs } :: out.drop at_).length) (flatC Ty103.cells (out.take at_ ++ { fName := b34, fVersions_a := Bv, fVersions_c := bv, fVersions := vs } :: out.drop at_)) :: SA.own (.slice A363 (1 + (out.length - at_)) c363) 103 2 (1 + (out.length - at_)) (flatC Ty103.cells ({ fName := b34, fVersions_a := Bv, fVersions_c := bv, fVersions := vs } :: out.drop at_)) :: SA.blk g36 103 #[.string b34, .slice Bv vs.length bv] :: SA.own (.slice B out.length b) 103 2 out.length (flatC Ty103.cells out) :: L) := stars_nv (at_ := at_) S378.p5.p1
           exact hK9 _ _ _ (by first | omega | (simp; omega)) ⟨A370, c370, (out.take at_ ++ { fName := b34, fVersions_a := Bv, fVersions_c := bv, fVersions := vs } :: out.drop at_), i + 1, rfl, (F377.kk 0 (F377.kk 2 (F377.kk 3 (F377.kk 4 F377.nil)))), S379.p2.drop.p2.drop.p2.drop.p1, (by first | omega | (with_reducible assumption) | (simp; done)), (by first | omega | (with_reducible assumption) | (simp; done)), (by rw [len_ins hat]; omega), (mem_ins hok ⟨hp0_34, (by show vs.length ≤ 5; omega), hvp⟩), (rise_ins hri (rise_low hri hi0 hlt_p (le_less hc233 hc309)) hgt)⟩
       ·have F380 := F231.sb 68 (by kernel_rfl) (show (!(Op.bytesLess (out[at_ - 1].fName).toList b34.toList || (out[at_ - 1].fName).toList == b34.toList)) = true by rw [hc233]; rfl)
        have F381 := F380.sb 69 (by kernel_rfl) (show (!(Op.bytesLess (out[at_ - 1].fName).toList b34.toList || (out[at_ - 1].fName).toList == b34.toList)) = true by rw [hc233]; rfl)
        refine wp_cond_true (F381.ev (by kernel_rfl)) ?_
        refine wp_skip ?_
        refine hK158 _ _ ?_; clear hK158 K158
        refine wp_block ?_
        refine wp_region_lit ?_
        refine op_q F381 (.int .i64 (↑at_)) ?_; intro a382 F382
        refine op_rq (v := .int .i64 (↑(at_ - 1))) F382 (r_sub (z := ↑(at_ - 1)) rfl (F382.e (.int .i64 (↑at_))) (F382.e (.int .i64 1)) (wr64 (by omega) (by omega) (by omega))) ?_; intro a383 F383
        refine op_q F383 (.int .i64 (↑(at_ - 1))) ?_; intro a384 F384
        refine wpList_nil ?_
        exact hK157 _ _ _ (by first | omega | (simp; omega)) ⟨at_ - 1, rfl, (F384.kk 0 (F384.kk 2 (F384.kk 3 (F384.kk 4 (F384.kk 5 (F384.kk 7 F384.nil)))))), S232.p4.p4.p4.p4.p4, (by first | omega | (with_reducible assumption) | (simp; done)), (rise_high hi0 hlt_p hgt (gt_less hc233))⟩
     ·skip
      have hc160p := of_decide_eq_false hc160
      refine wp_region_sepF (L0 := SA.blk g36 103 #[.string b34, .slice Bv vs.length bv] :: SA.own (.slice Bv vs.length bv) 69 19 vs.length (flatC Ty69.cells vs) :: SA.stars (vs.map SA.uv) :: SA.own (.slice B out.length b) 103 2 out.length (flatC Ty103.cells out) :: SA.stars (out.map SA.nv) :: L) [some [], some [(0, 57)], some [(1, 58)], some [(2, 59)], some [(2, 59)], some [(2, 59), (4, 61)], some [(2, 59), (3, 60), (5, 62)], some [(2, 59), (6, 63)], some [(2, 59), (7, 64)], some [(2, 59)], some [(2, 59), (9, 66)], some [(2, 59), (8, 65), (10, 67)], some [(2, 59), (11, 68)]] [.v 57 (.int .i64 (↑at_)), .v 58 (.bool false), .v 59 (.bool false), .v 60 undef, .v 61 undef, .v 62 undef, .v 63 undef, .v 64 undef, .v 65 undef, .v 66 undef, .v 67 undef, .v 68 undef, .v 69 (.bool false)] [] F157 rfl (by kernel_rfl) S157 ?_ ?_
      ·refine ⟨?_, ?_, ?_, ?_, ?_, ?_, ?_, ?_, ?_, ?_, ?_, ?_, ?_, trivial⟩
       ·intro w419 M419
        intro a419 F419 S419
        refine obl_of (by rfl) ?_
        exact s_p F419 (v := .int .i64 (↑at_)) (by kernel_rfl) (by kernel_rfl) (by kernel_rfl) S419
       ·intro w420 M420
        intro a420 F420 S420
        refine obl_of (by rfl) ?_
        exact s_pb F420 (b := decide ((0 : Int) < ↑at_)) hc160 (by kernel_rfl) (by kernel_rfl) (by kernel_rfl) S420
       ·intro w422 M422
        intro a422 F422 S422
        refine obl_of (by rfl) ?_
        exact s_p F422 (v := .bool false) (by kernel_rfl) (by kernel_rfl) (by kernel_rfl) S422
       ·intro w424 M424
        intro a424 F424 S424
        exact obl_no (by rfl) (F424.wanted (q := false) (by kernel_rfl) (by intro t ht; injection ht with ht; subst ht; exact nble rfl)) ⟨rfl, rfl⟩
       ·intro w426 M426
        intro a426 F426 S426
        exact obl_no (by rfl) (F426.wanted (q := false) (by kernel_rfl) (by intro t ht; injection ht with ht; subst ht; exact nble rfl)) ⟨rfl, rfl⟩
       ·intro w428 M428
        intro a428 F428 S428
        exact obl_no (by rfl) (F428.wanted (q := false) (by kernel_rfl) (by intro t ht; injection ht with ht; subst ht; exact nble rfl)) ⟨rfl, rfl⟩
       ·intro w431 M431
        intro a431 F431 S431
        exact obl_no (by rfl) (F431.wanted (q := false) (by kernel_rfl) (by intro t ht; injection ht with ht; subst ht; exact nble rfl)) ⟨rfl, rfl⟩
       ·intro w435 M435
        intro a435 F435 S435
        exact obl_no (by rfl) (F435.wanted (q := false) (by kernel_rfl) (by intro t ht; injection ht with ht; subst ht; exact nble rfl)) ⟨rfl, rfl⟩
       ·intro w438 M438
        intro a438 F438 S438
        exact obl_no (by rfl) (F438.wanted (q := false) (by kernel_rfl) (by intro t ht; injection ht with ht; subst ht; exact nble rfl)) ⟨rfl, rfl⟩
       ·intro w441 M441
        intro a441 F441 S441
        exact obl_no (by rfl) (F441.wanted (q := false) (by kernel_rfl) (by intro t ht; injection ht with ht; subst ht; exact nble rfl)) ⟨rfl, rfl⟩
       ·intro w443 M443
        intro a443 F443 S443
        exact obl_no (by rfl) (F443.wanted (q := false) (by kernel_rfl) (by intro t ht; injection ht with ht; subst ht; exact nble rfl)) ⟨rfl, rfl⟩
       ·intro w446 M446
        intro a446 F446 S446
        exact obl_no (by rfl) (F446.wanted (q := false) (by kernel_rfl) (by intro t ht; injection ht with ht; subst ht; exact nble rfl)) ⟨rfl, rfl⟩
       ·intro w450 M450
        intro a450 F450 S450
        refine obl_of (by rfl) ?_
        exact s_p F450 (v := .bool false) (by kernel_rfl) (by kernel_rfl) (by kernel_rfl) S450
      ·intro a454 w453 F454 S453
       have S455 : Sp R w453 (SA.blk g36 103 #[.string b34, .slice Bv vs.length bv] :: SA.own (.slice Bv vs.length bv) 69 19 vs.length (flatC Ty69.cells vs) :: SA.stars (vs.map SA.uv) :: SA.own (.slice B out.length b) 103 2 out.length (flatC Ty103.cells out) :: SA.stars (out.map SA.nv) :: L) := S453
       refine wpList_nil ?_
       refine hK159 _ _ ?_; clear hK159 K159
       refine wp_cond_false (F454.ev (by kernel_rfl)) ?_
       refine wp_exit ?_
       refine ex_then ?_; clear hK158 K158
       refine ex_then ?_
       refine ex_in ?_
       refine hK156 _ _ ?_; clear hK156 K156
       refine wp_seq_k fun K456 hK456 => ?_
       refine wp_seq_k fun K457 hK457 => ?_
       refine wp_region_sepF (L0 := SA.blk g36 103 #[.string b34, .slice Bv vs.length bv] :: SA.own (.slice Bv vs.length bv) 69 19 vs.length (flatC Ty69.cells vs) :: SA.stars (vs.map SA.uv) :: SA.own (.slice B out.length b) 103 2 out.length (flatC Ty103.cells out) :: SA.stars (out.map SA.nv) :: L) [some [], some [(0, 72)], some [(1, 73)], some [(2, 74)], some [(2, 74)], some [(2, 74), (4, 76)], some [(2, 74), (3, 75), (5, 77)], some [(2, 74), (6, 78)], some [(2, 74), (7, 79)], some [(2, 74)], some [(2, 74), (9, 81)], some [(2, 74), (8, 80), (10, 82)], some [(2, 74), (11, 83)]] [.v 72 (.int .i64 (↑at_)), .v 73 (.bool false), .v 74 (.bool false), .v 75 undef, .v 76 undef, .v 77 undef, .v 78 undef, .v 79 undef, .v 80 undef, .v 81 undef, .v 82 undef, .v 83 undef, .v 84 (.bool false)] [] F454 rfl (by kernel_rfl) S455 ?_ ?_
       ·refine ⟨?_, ?_, ?_, ?_, ?_, ?_, ?_, ?_, ?_, ?_, ?_, ?_, ?_, trivial⟩
        ·intro w492 M492
         intro a492 F492 S492
         refine obl_of (by rfl) ?_
         exact s_p F492 (v := .int .i64 (↑at_)) (by kernel_rfl) (by kernel_rfl) (by kernel_rfl) S492
        ·intro w493 M493
         intro a493 F493 S493
         refine obl_of (by rfl) ?_
         exact s_pb F493 (b := decide ((0 : Int) < ↑at_)) hc160 (by kernel_rfl) (by kernel_rfl) (by kernel_rfl) S493
        ·intro w495 M495
         intro a495 F495 S495
         refine obl_of (by rfl) ?_
         exact s_p F495 (v := .bool false) (by kernel_rfl) (by kernel_rfl) (by kernel_rfl) S495
        ·intro w497 M497
         intro a497 F497 S497
         exact obl_no (by rfl) (F497.wanted (q := false) (by kernel_rfl) (by intro t ht; injection ht with ht; subst ht; exact nble rfl)) ⟨rfl, rfl⟩
        ·intro w499 M499
         intro a499 F499 S499
         exact obl_no (by rfl) (F499.wanted (q := false) (by kernel_rfl) (by intro t ht; injection ht with ht; subst ht; exact nble rfl)) ⟨rfl, rfl⟩
        ·intro w501 M501
         intro a501 F501 S501
         exact obl_no (by rfl) (F501.wanted (q := false) (by kernel_rfl) (by intro t ht; injection ht with ht; subst ht; exact nble rfl)) ⟨rfl, rfl⟩
        ·intro w504 M504
         intro a504 F504 S504
         exact obl_no (by rfl) (F504.wanted (q := false) (by kernel_rfl) (by intro t ht; injection ht with ht; subst ht; exact nble rfl)) ⟨rfl, rfl⟩
        ·intro w508 M508
         intro a508 F508 S508
         exact obl_no (by rfl) (F508.wanted (q := false) (by kernel_rfl) (by intro t ht; injection ht with ht; subst ht; exact nble rfl)) ⟨rfl, rfl⟩
        ·intro w511 M511
         intro a511 F511 S511
         exact obl_no (by rfl) (F511.wanted (q := false) (by kernel_rfl) (by intro t ht; injection ht with ht; subst ht; exact nble rfl)) ⟨rfl, rfl⟩
        ·intro w514 M514
         intro a514 F514 S514
         exact obl_no (by rfl) (F514.wanted (q := false) (by kernel_rfl) (by intro t ht; injection ht with ht; subst ht; exact nble rfl)) ⟨rfl, rfl⟩
        ·intro w516 M516
         intro a516 F516 S516
         exact obl_no (by rfl) (F516.wanted (q := false) (by kernel_rfl) (by intro t ht; injection ht with ht; subst ht; exact nble rfl)) ⟨rfl, rfl⟩
        ·intro w519 M519
         intro a519 F519 S519
         exact obl_no (by rfl) (F519.wanted (q := false) (by kernel_rfl) (by intro t ht; injection ht with ht; subst ht; exact nble rfl)) ⟨rfl, rfl⟩
        ·intro w523 M523
         intro a523 F523 S523
         refine obl_of (by rfl) ?_
         exact s_p F523 (v := .bool false) (by kernel_rfl) (by kernel_rfl) (by kernel_rfl) S523
       ·intro a527 w526 F527 S526
        have S528 : Sp R w526 (SA.blk g36 103 #[.string b34, .slice Bv vs.length bv] :: SA.own (.slice Bv vs.length bv) 69 19 vs.length (flatC Ty69.cells vs) :: SA.stars (vs.map SA.uv) :: SA.own (.slice B out.length b) 103 2 out.length (flatC Ty103.cells out) :: SA.stars (out.map SA.nv) :: L) := S526
        refine wpList_nil ?_
        refine hK457 _ _ ?_; clear hK457 K457
        refine wp_cond_false (F527.ev (by kernel_rfl)) ?_
        refine wp_skip ?_
        refine hK456 _ _ ?_; clear hK456 K456
        have hcap : out.length ≤ b := own_cap' (S528.ow 3 rfl)
        refine wp_region_sepF (L0 := SA.blk g36 103 #[.string b34, .slice Bv vs.length bv] :: SA.own (.slice Bv vs.length bv) 69 19 vs.length (flatC Ty69.cells vs) :: SA.stars (vs.map SA.uv) :: SA.own (.slice B out.length b) 103 2 out.length (flatC Ty103.cells out) :: SA.stars (out.map SA.nv) :: L) [some [], some [], some [], some [(0, 85), (1, 86), (2, 87)], some [], some [(4, 89)], some [], some [], some [(6, 91), (7, 92)], some [(4, 89), (5, 90), (8, 93)], some [(3, 88), (4, 89), (5, 90), (8, 93), (9, 94)], none] [.v 85 (.slice B out.length b), .v 86 (.int .i64 (↑at_)), .v 87 (.int .i64 (↑at_)), .v 88 (.slice (B) (at_) (at_)), .v 89 (.agg #[.string b34, .slice Bv vs.length bv]), .p 90 (SA.emp) (fun _ vv AA => ∃ g565 : Nat, vv = .slice (some ⟨g565, 0, none⟩) 1 1 ∧ AA = SA.blk g565 103 #[.string b34, .slice Bv vs.length bv]), .v 91 (.slice B out.length b), .v 92 (.int .i64 (↑at_)), .v 93 (.slice (subA B at_ 2 b) (out.length - at_) (b - at_)), .p 94 (SA.emp) (fun _ vv AA => ∃ A575 : Option Addr, ∃ c575 : Nat, vv = .slice A575 (1 + (out.length - at_)) c575 ∧ AA = SA.own (.slice A575 (1 + (out.length - at_)) c575) 103 2 (1 + (out.length - at_)) (flatC Ty103.cells ({ fName := b34, fVersions_a := Bv, fVersions_c := bv, fVersions := vs } :: out.drop at_))), .p 95 (SA.emp) (fun _ vv AA => ∃ A582 : Option Addr, ∃ c582 : Nat, vv = .slice A582 (out.take at_ ++ { fName := b34, fVersions_a := Bv, fVersions_c := bv, fVersions := vs } :: out.drop at_).length c582 ∧ AA = SA.own (.slice A582 (out.take at_ ++ { fName := b34, fVersions_a := Bv, fVersions_c := bv, fVersions := vs } :: out.drop at_).length c582) 103 2 ((out.take at_ ++ { fName := b34, fVersions_a := Bv, fVersions_c := bv, fVersions := vs } :: out.drop at_).length) (flatC Ty103.cells (out.take at_ ++ { fName := b34, fVersions_a := Bv, fVersions_c := bv, fVersions := vs } :: out.drop at_))), .n SA.emp (fun _ _ A => A = SA.emp)] [(9, 5)] F527 rfl (by kernel_rfl) S528.emp.emp.emp ?_ ?_
        ·refine ⟨?_, ?_, ?_, ?_, ?_, ?_, ?_, ?_, ?_, ?_, ?_, trivial⟩
         ·intro w556 M556
          intro a556 F556 S556
          refine obl_of (by rfl) ?_
          exact s_p F556 (v := .slice B out.length b) (by kernel_rfl) (by kernel_rfl) (by kernel_rfl) S556
         ·intro w557 M557
          intro a557 F557 S557
          refine obl_of (by rfl) ?_
          exact s_p F557 (v := .int .i64 (↑at_)) (by kernel_rfl) (by kernel_rfl) (by kernel_rfl) S557
         ·intro w558 M558
          intro a558 F558 S558
          refine obl_of (by rfl) ?_
          exact s_p F558 (v := .int .i64 (↑at_)) (by kernel_rfl) (by kernel_rfl) (by kernel_rfl) S558
         ·intro w559 M559
          intro a559 F559 S559
          refine obl_of (by rfl) ?_
          exact s_r (v := .slice (B) (at_) (at_)) (r_slc3 rfl Try.underlying95 2 (by kernel_rfl) (F559.e (.slice B out.length b)) (F559.e (.int .i64 (↑at_))) (F559.e (.int .i64 (↑at_))) at_ ⟨rfl, rfl⟩ (by omega)) S559
         ·intro w563 M563
          intro a563 F563 S563
          refine obl_of (by rfl) ?_
          exact s_r (v := .agg #[.string b34, .slice Bv vs.length bv]) (r_ldm rfl (F563.e (.pointer (some ⟨g36, 0, none⟩))) ((Sp.dropM S563.drop).bk 0 rfl) 2 (by kernel_rfl) Try.underlying103 rfl (by kernel_rfl) (v := #[.string b34, .slice Bv vs.length bv]) (by kernel_rfl)) S563
         ·intro w564 M564
          intro a564 F564 S564
          refine obl_of (by rfl) ?_
          exact s_news F564 103 #[.string b34, .slice Bv vs.length bv] 1 (by kernel_rfl) (by kernel_rfl) (by kernel_rfl) S564.drop
         ·intro w566 M566
          intro a566 F566 S566
          refine obl_of (by rfl) ?_
          exact s_p F566 (v := .slice B out.length b) (by kernel_rfl) (by kernel_rfl) (by kernel_rfl) S566
         ·intro w567 M567
          intro a567 F567 S567
          refine obl_of (by rfl) ?_
          exact s_p F567 (v := .int .i64 (↑at_)) (by kernel_rfl) (by kernel_rfl) (by kernel_rfl) S567
         ·intro w568 M568
          intro a568 F568 S568
          refine obl_of (by rfl) ?_
          exact s_r (v := .slice (subA B at_ 2 b) (out.length - at_) (b - at_)) (r_slcl rfl Try.underlying95 2 (by kernel_rfl) (F568.e (.slice B out.length b)) (F568.e (.int .i64 (↑at_))) at_ rfl (by omega)) S568
         ·intro w571 M571
          rintro _ _ ⟨g565, rfl, rfl⟩
          intro a571 F571 S571
          refine obl_of (by rfl) ?_
          exact s_app rfl Try.underlying95 2 _ tin103 rfl rfl (F571.e (.slice (some ⟨g565, 0, none⟩) 1 1)) (Sp.ofblk (sz := 2) (m := 1) (l := [Value.string b34, .slice Bv vs.length bv]) S571.swap.drop rfl (by omega) rfl) (flatC Ty103.cells (out.drop at_)) (F571.e (.slice (subA B at_ 2 b) (out.length - at_) (b - at_))) (sl_dropC Ty103.len (own_slN ((Sp.dropM S571.drop.drop).ow 3 rfl) (by omega)) hcap) (by rw [flatC_len Ty103.len, List.length_drop]) (flatC_one Ty103.one) (by omega) (by omega) (n' := 1 + (out.length - at_)) (by omega) (cs' := flatC Ty103.cells ({ fName := b34, fVersions_a := Bv, fVersions_c := bv, fVersions := vs } :: out.drop at_)) rfl
         ·intro w576 M576
          rintro _ _ ⟨g565, rfl, rfl⟩
          rintro _ _ ⟨A575, c575, rfl, rfl⟩ hA581
          intro a576 F576 S576
          refine obl_of (by rfl) ?_
          exact s_appF rfl Try.underlying95 2 _ tin103 rfl rfl (F576.e (.slice (B) (at_) (at_))) S576.drop (flatC Ty103.cells (out.take at_)) (sl_takeC Ty103.len (own_slN ((Sp.dropM S576.drop).ow 3 rfl) (by omega)) at_) (by rw [flatC_len Ty103.len, List.length_take]; congr 1; omega) (flatC Ty103.cells ({ fName := b34, fVersions_a := Bv, fVersions_c := bv, fVersions := vs } :: out.drop at_)) (F576.e (.slice A575 (1 + (out.length - at_)) c575)) (own_slN (Sp.owm S576.drop hA581) (by first | omega | (simp; omega))) (by rw [flatC_len Ty103.len, List.length_cons, List.length_drop]; omega) (flatC_one Ty103.one) (by omega) (by omega) (by omega) (n' := (out.take at_ ++ { fName := b34, fVersions_a := Bv, fVersions_c := bv, fVersions := vs } :: out.drop at_).length) (by rw [len_ins hat]; omega) (cs' := flatC Ty103.cells (out.take at_ ++ { fName := b34, fVersions_a := Bv, fVersions_c := bv, fVersions := vs } :: out.drop at_)) (by rw [flatC_app])
        ·rintro _ _ ⟨g565, rfl, rfl⟩
         rintro _ _ ⟨A575, c575, rfl, rfl⟩
         rintro _ _ ⟨A582, c582, rfl, rfl⟩
         intro a584 w583 F584 S583
         have S585 : Sp R w583 (SA.own (.slice A582 (out.take at_ ++ { fName := b34, fVersions_a := Bv, fVersions_c := bv, fVersions := vs } :: out.drop at_).length c582) 103 2 ((out.take at_ ++ { fName := b34, fVersions_a := Bv, fVersions_c := bv, fVersions := vs } :: out.drop at_).length) (flatC Ty103.cells (out.take at_ ++ { fName := b34, fVersions_a := Bv, fVersions_c := bv, fVersions := vs } :: out.drop at_)) :: SA.own (.slice A575 (1 + (out.length - at_)) c575) 103 2 (1 + (out.length - at_)) (flatC Ty103.cells ({ fName := b34, fVersions_a := Bv, fVersions_c := bv, fVersions := vs } :: out.drop at_)) :: SA.blk g36 103 #[.string b34, .slice Bv vs.length bv] :: SA.own (.slice Bv vs.length bv) 69 19 vs.length (flatC Ty69.cells vs) :: SA.stars (vs.map SA.uv) :: SA.own (.slice B out.length b) 103 2 out.length (flatC Ty103.cells out) :: SA.stars (out.map SA.nv) :: L) := S583
         refine op_q F584 (.slice A582 (out.take at_ ++ { fName := b34, fVersions_a := Bv, fVersions_c := bv, fVersions := vs } :: out.drop at_).length c582) ?_; intro a586 F586
         refine wpList_nil ?_
         refine hK27 _ _ ?_; clear hK27 K27
         refine wp_region_lit ?_
         refine op_q F586 (.int .i64 (↑i)) ?_; intro a587 F587
         refine op_rq (v := .int .i64 (↑(i + 1))) F587 (r_add (z := ↑(i + 1)) rfl (F587.e (.int .i64 (↑i))) (F587.e (.int .i64 1)) (wr64 (by omega) (by omega) (by omega))) ?_; intro a588 F588
         refine op_q F588 (.int .i64 (↑(i + 1))) ?_; intro a589 F589
         refine wpList_nil ?_
         have S590 : Sp R w583 (SA.nv { fName := b34, fVersions_a := Bv, fVersions_c := bv, fVersions := vs } :: SA.own (.slice A582 (out.take at_ ++ { fName := b34, fVersions_a := Bv, fVersions_c := bv, fVersions := vs } :: out.drop at_).length c582) 103 2 ((out.take at_ ++ { fName := b34, fVersions_a := Bv, fVersions_c := bv, fVersions := vs } :: out.drop at_).length) (flatC Ty103.cells (out.take at_ ++ { fName := b34, fVersions_a := Bv, fVersions_c := bv, fVersions := vs } :: out.drop at_)) :: SA.own (.slice A575 (1 + (out.length - at_)) c575) 103 2 (1 + (out.length - at_)) (flatC Ty103.cells ({ fName := b34, fVersions_a := Bv, fVersions_c := bv, fVersions := vs } :: out.drop at_)) :: SA.blk g36 103 #[.string b34, .slice Bv vs.length bv] :: SA.own (.slice B out.length b) 103 2 out.length (flatC Ty103.cells out) :: SA.stars (out.map SA.nv) :: L) := (Sp.star.2 S585.p4.p4 : Sp R w583 (SA.nv { fName := b34, fVersions_a := Bv, fVersions_c := bv, fVersions := vs } :: _))
         have S591 : Sp R w583 (SA.stars ((out.take at_ ++ { fName := b34, fVersions_a := Bv, fVersions_c := bv, fVersions := vs } :: out.drop at_).map SA.nv) :: SA.own (.slice A582 (out.take at_ ++ { fName := b34, fVersions_a := Bv, fVersions_c := bv, fVersions := vs } :: out.drop at_).length c582) 103 2 ((out.take at_ ++ { fName := b34, fVersions_a := Bv, fVersions_c := bv, fVersions := vs } :: out.drop at_).length) (flatC Ty103.cells (out.take at_ ++ { fName := b34, fVersions_a := Bv, fVersions_c := bv, fVersions := vs } :: out.drop at_)) :: SA.own (.slice A575 (1 + (out.length - at_)) c575) 103 2 (1 + (out.length - at_)) (flatC Ty103.cells ({ fName := b34, fVersions_a := Bv, fVersions_c := bv, fVersions := vs } :: out.drop at_)) :: SA.blk g36 103 #[.string b34, .slice Bv vs.length bv] :: SA.own (.slice B out.length b) 103 2 out.length (flatC Ty103.cells out) :: L) := stars_nv (at_ := at_) S590.p5.p1
         exact hK9 _ _ _ (by first | omega | (simp; omega)) ⟨A582, c582, (out.take at_ ++ { fName := b34, fVersions_a := Bv, fVersions_c := bv, fVersions := vs } :: out.drop at_), i + 1, rfl, (F589.kk 0 (F589.kk 2 (F589.kk 3 (F589.kk 4 F589.nil)))), S591.p2.drop.p2.drop.p2.drop.p1, (by first | omega | (with_reducible assumption) | (simp; done)), (by first | omega | (with_reducible assumption) | (simp; done)), (by rw [len_ins hat]; omega), (mem_ins hok ⟨hp0_34, (by show vs.length ≤ 5; omega), hvp⟩), (rise_ins hri (rise_low0 (by have := of_decide_eq_false hc160; omega)) hgt)⟩
   ·have F592 := F55.sb 32 (by kernel_rfl) hc56
    have F593 := F592.sb 33 (by kernel_rfl) hc56
    refine op_kq F593 ?_; intro a594 F594
    refine op_kq F594 ?_; intro a595 F595
    refine op_q F595 (.bool false) ?_; intro a596 F596
    refine wpList_nil ?_
    refine hK46 _ _ ?_; clear hK46 K46
    refine wp_cond_false (F596.ev (by kernel_rfl)) ?_
    refine wp_exit ?_
    refine ex_then ?_; clear hK45 K45
    refine ex_then ?_
    refine ex_in ?_
    refine hK40 _ _ ?_; clear hK40 K40
    refine wp_seq_k fun K597 hK597 => ?_
    subst hvl
    refine wp_region_lit ?_
    refine op_q F596 (.slice B out.length b) ?_; intro a598 F598
    refine op_q F598 (.int .i64 (↑out.length)) ?_; intro a599 F599
    refine op_q F599 (.int .i64 (↑out.length)) ?_; intro a600 F600
    refine wpList_nil ?_
    refine hK597 _ _ ?_; clear hK597 K597
    refine wp_seq_k fun K601 hK601 => ?_
    refine wp_block ?_
    refine fw_loop (fun m' a' w' => ∃ at_ : Nat, at_ = m' ∧ Fr 97 [] a' [(0, .slice (A) (xs.length) (c)), (2, .slice none 0 0), (3, .slice B out.length b), (4, .int .i64 (↑i)), (5, .pointer (some ⟨g36, 0, none⟩)), (7, .int .i64 (↑at_))] ∧ Sp R w' (SA.blk g36 103 #[.string b34, .slice Bv vs.length bv] :: SA.own (.slice Bv vs.length bv) 69 19 vs.length (flatC Ty69.cells vs) :: SA.stars (vs.map SA.uv) :: SA.own (.slice B out.length b) 103 2 out.length (flatC Ty103.cells out) :: SA.stars (out.map SA.nv) :: L) ∧ (at_ ≤ out.length) ∧ (∀ y ∈ out.drop at_, Op.bytesLess b34.toList y.fName.toList = true)) _ ⟨out.length, rfl, (F600.kk 0 (F600.kk 2 (F600.kk 3 (F600.kk 4 (F600.kk 5 (F600.kk 7 F600.nil)))))), S44.p4.p4.p4.p4.p4, (by first | omega | (with_reducible assumption) | (simp; done)), (fun y hy => by rw [List.drop_eq_nil_of_le (Nat.le_refl _)] at hy; cases hy)⟩ ?_
    rintro m602 a602 w602 ⟨at_, hm602, F602, S602, hat, hgt⟩ K602 hK602
    refine wp_seq_k fun K603 hK603 => ?_
    refine wp_seq_k fun K604 hK604 => ?_
    rcases btf (decide ((0 : Int) < ↑at_)) with hc605 | hc605
    ·skip
     have hc605p := of_decide_eq_true hc605
     have hi0 : 0 < at_ := by have := of_decide_eq_true hc605; omega
     have hlt_p : at_ - 1 < out.length := by omega
     obtain ⟨ad606, hA606⟩ := (own_rowsT1 (S602.ow 3 rfl) (by first | rfl | (simp; done) | omega) (by decide) (fun x => x.len) (by first | omega | (simp; omega))).addr (by simp; omega)
     refine wp_region_sepF (L0 := SA.blk g36 103 #[.string b34, .slice Bv vs.length bv] :: SA.own (.slice Bv vs.length bv) 69 19 vs.length (flatC Ty69.cells vs) :: SA.stars (vs.map SA.uv) :: SA.own (.slice B out.length b) 103 2 out.length (flatC Ty103.cells out) :: SA.stars (out.map SA.nv) :: L) [some [], some [(0, 57)], some [(1, 58)], some [(2, 59)], some [(2, 59)], some [(2, 59), (4, 61)], some [(2, 59), (3, 60), (5, 62)], some [(2, 59), (6, 63)], some [(2, 59), (7, 64)], some [(2, 59)], some [(2, 59), (9, 66)], some [(2, 59), (8, 65), (10, 67)], some [(2, 59), (11, 68)]] [.v 57 (.int .i64 (↑at_)), .v 58 (.bool true), .v 59 (.bool true), .v 60 (.slice B out.length b), .v 61 (.int .i64 (↑at_)), .v 62 (.int .i64 (↑(at_ - 1))), .v 63 (.pointer (some (ad606.add ((at_ - 1) * 2)))), .v 64 (.pointer (some (ad606.add ((at_ - 1) * 2)))), .v 65 (.string (out[at_ - 1].fName)), .v 66 (.pointer (some ⟨g36, 0, none⟩)), .v 67 (.string b34), .v 68 (.bool (!(Op.bytesLess (out[at_ - 1].fName).toList b34.toList || (out[at_ - 1].fName).toList == b34.toList))), .v 69 (.bool (!(Op.bytesLess (out[at_ - 1].fName).toList b34.toList || (out[at_ - 1].fName).toList == b34.toList)))] [] F602 rfl (by kernel_rfl) S602 ?_ ?_
     ·refine ⟨?_, ?_, ?_, ?_, ?_, ?_, ?_, ?_, ?_, ?_, ?_, ?_, ?_, trivial⟩
      ·intro w641 M641
       intro a641 F641 S641
       refine obl_of (by rfl) ?_
       exact s_p F641 (v := .int .i64 (↑at_)) (by kernel_rfl) (by kernel_rfl) (by kernel_rfl) S641
      ·intro w642 M642
       intro a642 F642 S642
       refine obl_of (by rfl) ?_
       exact s_pb F642 (b := decide ((0 : Int) < ↑at_)) hc605 (by kernel_rfl) (by kernel_rfl) (by kernel_rfl) S642
      ·intro w644 M644
       intro a644 F644 S644
       refine obl_of (by rfl) ?_
       exact s_p F644 (v := .bool true) (by kernel_rfl) (by kernel_rfl) (by kernel_rfl) S644
      ·intro w646 M646
       intro a646 F646 S646
       refine obl_yes (F646.wanted (q := true) (by kernel_rfl) (by intro t ht; injection ht with ht; subst ht; exact nble rfl)) ?_
       exact s_p F646 (v := .slice B out.length b) (by kernel_rfl) (by kernel_rfl) (by kernel_rfl) S646
      ·intro w648 M648
       intro a648 F648 S648
       refine obl_yes (F648.wanted (q := true) (by kernel_rfl) (by intro t ht; injection ht with ht; subst ht; exact nble rfl)) ?_
       exact s_p F648 (v := .int .i64 (↑at_)) (by kernel_rfl) (by kernel_rfl) (by kernel_rfl) S648
      ·intro w650 M650
       intro a650 F650 S650
       refine obl_yes (F650.wanted (q := true) (by kernel_rfl) (by intro t ht; injection ht with ht; subst ht; exact nble rfl)) ?_
       exact s_r (v := .int .i64 (↑(at_ - 1))) (r_sub (z := ↑(at_ - 1)) rfl (F650.e (.int .i64 (↑at_))) (F650.e (.int .i64 1)) (wr64 (by omega) (by omega) (by omega))) S650
      ·intro w653 M653
       intro a653 F653 S653
       refine obl_yes (F653.wanted (q := true) (by kernel_rfl) (by intro t ht; injection ht with ht; subst ht; exact nble rfl)) ?_
       exact s_r (v := .pointer (some (ad606.add ((at_ - 1) * 2)))) (r_ix rfl Try.underlying95 2 (by kernel_rfl) (F653.e (.slice B out.length b)) hA606 (F653.e (.int .i64 (↑(at_ - 1)))) (at_ - 1) (by first | rfl | omega | simp) (by first | omega | (simp; done) | (simp; omega)) (rfl)) S653
      ·intro w657 M657
       intro a657 F657 S657
       refine obl_yes (F657.wanted (q := true) (by kernel_rfl) (by intro t ht; injection ht with ht; subst ht; exact nble rfl)) ?_
       exact s_p F657 (v := .pointer (some (ad606.add ((at_ - 1) * 2)))) (by kernel_rfl) (by kernel_rfl) (by kernel_rfl) S657
      ·intro w660 M660
       intro a660 F660 S660
       refine obl_yes (F660.wanted (q := true) (by kernel_rfl) (by intro t ht; injection ht with ht; subst ht; exact nble rfl)) ?_
       exact s_r (v := .string (out[at_ - 1].fName)) (r_ld rfl (F660.e (.pointer (some (ad606.add ((at_ - 1) * 2))))) (v := .string (out[at_ - 1].fName)) (cell0 ((own_rowsT1 ((Sp.dropM S660.drop).ow 3 rfl) (by first | rfl | (simp; done) | omega) (by decide) (fun x => x.len) (by first | omega | (simp; omega))).elA hA606 (j := at_ - 1) (row := out[at_ - 1].cells) (by rw [List.getElem?_map, List.getElem?_eq_getElem hlt_p]; rfl)) rfl) Try.underlying9 rfl) S660
      ·intro w663 M663
       intro a663 F663 S663
       refine obl_yes (F663.wanted (q := true) (by kernel_rfl) (by intro t ht; injection ht with ht; subst ht; exact nble rfl)) ?_
       exact s_p F663 (v := .pointer (some ⟨g36, 0, none⟩)) (by kernel_rfl) (by kernel_rfl) (by kernel_rfl) S663
      ·intro w665 M665
       intro a665 F665 S665
       refine obl_yes (F665.wanted (q := true) (by kernel_rfl) (by intro t ht; injection ht with ht; subst ht; exact nble rfl)) ?_
       exact s_r (v := .string b34) (r_ld rfl (F665.e (.pointer (some ⟨g36, 0, none⟩))) (v := .string b34) (((Sp.dropM S665.drop).bk 0 rfl).cell 0) Try.underlying9 rfl) S665
      ·intro w668 M668
       intro a668 F668 S668
       refine obl_yes (F668.wanted (q := true) (by kernel_rfl) (by intro t ht; injection ht with ht; subst ht; exact nble rfl)) ?_
       exact s_p F668 (v := .bool (!(Op.bytesLess (out[at_ - 1].fName).toList b34.toList || (out[at_ - 1].fName).toList == b34.toList))) (by kernel_rfl) (by kernel_rfl) (by kernel_rfl) S668
      ·intro w672 M672
       intro a672 F672 S672
       refine obl_of (by rfl) ?_
       exact s_p F672 (v := .bool (!(Op.bytesLess (out[at_ - 1].fName).toList b34.toList || (out[at_ - 1].fName).toList == b34.toList))) (by kernel_rfl) (by kernel_rfl) (by kernel_rfl) S672
     ·intro a676 w675 F676 S675
      have S677 : Sp R w675 (SA.blk g36 103 #[.string b34, .slice Bv vs.length bv] :: SA.own (.slice Bv vs.length bv) 69 19 vs.length (flatC Ty69.cells vs) :: SA.stars (vs.map SA.uv) :: SA.own (.slice B out.length b) 103 2 out.length (flatC Ty103.cells out) :: SA.stars (out.map SA.nv) :: L) := S675
      refine wpList_nil ?_
      refine hK604 _ _ ?_; clear hK604 K604
      rcases btf (Op.bytesLess (out[at_ - 1].fName).toList b34.toList || (out[at_ - 1].fName).toList == b34.toList) with hc678 | hc678
      ·have F679 := F676.sb 68 (by kernel_rfl) (show (!(Op.bytesLess (out[at_ - 1].fName).toList b34.toList || (out[at_ - 1].fName).toList == b34.toList)) = false by rw [hc678]; rfl)
       have F680 := F679.sb 69 (by kernel_rfl) (show (!(Op.bytesLess (out[at_ - 1].fName).toList b34.toList || (out[at_ - 1].fName).toList == b34.toList)) = false by rw [hc678]; rfl)
       refine wp_cond_false (F680.ev (by kernel_rfl)) ?_
       refine wp_exit ?_
       refine ex_then ?_; clear hK603 K603
       refine ex_then ?_
       refine ex_in ?_
       refine hK601 _ _ ?_; clear hK601 K601
       refine wp_seq_k fun K681 hK681 => ?_
       refine wp_seq_k fun K682 hK682 => ?_
       refine wp_region_sepF (L0 := SA.blk g36 103 #[.string b34, .slice Bv vs.length bv] :: SA.own (.slice Bv vs.length bv) 69 19 vs.length (flatC Ty69.cells vs) :: SA.stars (vs.map SA.uv) :: SA.own (.slice B out.length b) 103 2 out.length (flatC Ty103.cells out) :: SA.stars (out.map SA.nv) :: L) [some [], some [(0, 72)], some [(1, 73)], some [(2, 74)], some [(2, 74)], some [(2, 74), (4, 76)], some [(2, 74), (3, 75), (5, 77)], some [(2, 74), (6, 78)], some [(2, 74), (7, 79)], some [(2, 74)], some [(2, 74), (9, 81)], some [(2, 74), (8, 80), (10, 82)], some [(2, 74), (11, 83)]] [.v 72 (.int .i64 (↑at_)), .v 73 (.bool true), .v 74 (.bool true), .v 75 (.slice B out.length b), .v 76 (.int .i64 (↑at_)), .v 77 (.int .i64 (↑(at_ - 1))), .v 78 (.pointer (some (ad606.add ((at_ - 1) * 2)))), .v 79 (.pointer (some (ad606.add ((at_ - 1) * 2)))), .v 80 (.string (out[at_ - 1].fName)), .v 81 (.pointer (some ⟨g36, 0, none⟩)), .v 82 (.string b34), .v 83 (.bool ((out[at_ - 1].fName).toList == b34.toList)), .v 84 (.bool ((out[at_ - 1].fName).toList == b34.toList))] [] F680 rfl (by kernel_rfl) S677 ?_ ?_
       ·refine ⟨?_, ?_, ?_, ?_, ?_, ?_, ?_, ?_, ?_, ?_, ?_, ?_, ?_, trivial⟩
        ·intro w717 M717
         intro a717 F717 S717
         refine obl_of (by rfl) ?_
         exact s_p F717 (v := .int .i64 (↑at_)) (by kernel_rfl) (by kernel_rfl) (by kernel_rfl) S717
        ·intro w718 M718
         intro a718 F718 S718
         refine obl_of (by rfl) ?_
         exact s_pb F718 (b := decide ((0 : Int) < ↑at_)) hc605 (by kernel_rfl) (by kernel_rfl) (by kernel_rfl) S718
        ·intro w720 M720
         intro a720 F720 S720
         refine obl_of (by rfl) ?_
         exact s_p F720 (v := .bool true) (by kernel_rfl) (by kernel_rfl) (by kernel_rfl) S720
        ·intro w722 M722
         intro a722 F722 S722
         refine obl_yes (F722.wanted (q := true) (by kernel_rfl) (by intro t ht; injection ht with ht; subst ht; exact nble rfl)) ?_
         exact s_p F722 (v := .slice B out.length b) (by kernel_rfl) (by kernel_rfl) (by kernel_rfl) S722
        ·intro w724 M724
         intro a724 F724 S724
         refine obl_yes (F724.wanted (q := true) (by kernel_rfl) (by intro t ht; injection ht with ht; subst ht; exact nble rfl)) ?_
         exact s_p F724 (v := .int .i64 (↑at_)) (by kernel_rfl) (by kernel_rfl) (by kernel_rfl) S724
        ·intro w726 M726
         intro a726 F726 S726
         refine obl_yes (F726.wanted (q := true) (by kernel_rfl) (by intro t ht; injection ht with ht; subst ht; exact nble rfl)) ?_
         exact s_r (v := .int .i64 (↑(at_ - 1))) (r_sub (z := ↑(at_ - 1)) rfl (F726.e (.int .i64 (↑at_))) (F726.e (.int .i64 1)) (wr64 (by omega) (by omega) (by omega))) S726
        ·intro w729 M729
         intro a729 F729 S729
         refine obl_yes (F729.wanted (q := true) (by kernel_rfl) (by intro t ht; injection ht with ht; subst ht; exact nble rfl)) ?_
         exact s_r (v := .pointer (some (ad606.add ((at_ - 1) * 2)))) (r_ix rfl Try.underlying95 2 (by kernel_rfl) (F729.e (.slice B out.length b)) hA606 (F729.e (.int .i64 (↑(at_ - 1)))) (at_ - 1) (by first | rfl | omega | simp) (by first | omega | (simp; done) | (simp; omega)) (rfl)) S729
        ·intro w733 M733
         intro a733 F733 S733
         refine obl_yes (F733.wanted (q := true) (by kernel_rfl) (by intro t ht; injection ht with ht; subst ht; exact nble rfl)) ?_
         exact s_p F733 (v := .pointer (some (ad606.add ((at_ - 1) * 2)))) (by kernel_rfl) (by kernel_rfl) (by kernel_rfl) S733
        ·intro w736 M736
         intro a736 F736 S736
         refine obl_yes (F736.wanted (q := true) (by kernel_rfl) (by intro t ht; injection ht with ht; subst ht; exact nble rfl)) ?_
         exact s_r (v := .string (out[at_ - 1].fName)) (r_ld rfl (F736.e (.pointer (some (ad606.add ((at_ - 1) * 2))))) (v := .string (out[at_ - 1].fName)) (cell0 ((own_rowsT1 ((Sp.dropM S736.drop).ow 3 rfl) (by first | rfl | (simp; done) | omega) (by decide) (fun x => x.len) (by first | omega | (simp; omega))).elA hA606 (j := at_ - 1) (row := out[at_ - 1].cells) (by rw [List.getElem?_map, List.getElem?_eq_getElem hlt_p]; rfl)) rfl) Try.underlying9 rfl) S736
        ·intro w739 M739
         intro a739 F739 S739
         refine obl_yes (F739.wanted (q := true) (by kernel_rfl) (by intro t ht; injection ht with ht; subst ht; exact nble rfl)) ?_
         exact s_p F739 (v := .pointer (some ⟨g36, 0, none⟩)) (by kernel_rfl) (by kernel_rfl) (by kernel_rfl) S739
        ·intro w741 M741
         intro a741 F741 S741
         refine obl_yes (F741.wanted (q := true) (by kernel_rfl) (by intro t ht; injection ht with ht; subst ht; exact nble rfl)) ?_
         exact s_r (v := .string b34) (r_ld rfl (F741.e (.pointer (some ⟨g36, 0, none⟩))) (v := .string b34) (((Sp.dropM S741.drop).bk 0 rfl).cell 0) Try.underlying9 rfl) S741
        ·intro w744 M744
         intro a744 F744 S744
         refine obl_yes (F744.wanted (q := true) (by kernel_rfl) (by intro t ht; injection ht with ht; subst ht; exact nble rfl)) ?_
         exact s_p F744 (v := .bool ((out[at_ - 1].fName).toList == b34.toList)) (by kernel_rfl) (by kernel_rfl) (by kernel_rfl) S744
        ·intro w748 M748
         intro a748 F748 S748
         refine obl_of (by rfl) ?_
         exact s_p F748 (v := .bool ((out[at_ - 1].fName).toList == b34.toList)) (by kernel_rfl) (by kernel_rfl) (by kernel_rfl) S748
       ·intro a752 w751 F752 S751
        have S753 : Sp R w751 (SA.blk g36 103 #[.string b34, .slice Bv vs.length bv] :: SA.own (.slice Bv vs.length bv) 69 19 vs.length (flatC Ty69.cells vs) :: SA.stars (vs.map SA.uv) :: SA.own (.slice B out.length b) 103 2 out.length (flatC Ty103.cells out) :: SA.stars (out.map SA.nv) :: L) := S751
        refine wpList_nil ?_
        refine hK682 _ _ ?_; clear hK682 K682
        rcases btf ((out[at_ - 1].fName).toList == b34.toList) with hc754 | hc754
        ·have F755 := F752.sb 83 (by kernel_rfl) hc754
         have F756 := F755.sb 84 (by kernel_rfl) hc754
         refine wp_cond_true (F756.ev (by kernel_rfl)) ?_
         refine wp_exit ?_
         refine ex_then ?_; clear hK681 K681
         refine ex_in ?_
         refine hK27 _ _ ?_; clear hK27 K27
         refine wp_region_lit ?_
         refine op_q F756 (.int .i64 (↑i)) ?_; intro a757 F757
         refine op_rq (v := .int .i64 (↑(i + 1))) F757 (r_add (z := ↑(i + 1)) rfl (F757.e (.int .i64 (↑i))) (F757.e (.int .i64 1)) (wr64 (by omega) (by omega) (by omega))) ?_; intro a758 F758
         refine op_q F758 (.int .i64 (↑(i + 1))) ?_; intro a759 F759
         refine wpList_nil ?_
         exact hK9 _ _ _ (by first | omega | (simp; omega)) ⟨B, b, out, i + 1, rfl, (F759.kk 0 (F759.kk 2 (F759.kk 3 (F759.kk 4 F759.nil)))), S753.drop.drop.drop.p1.p1, (by first | omega | (with_reducible assumption) | (simp; done)), (by first | omega | (with_reducible assumption) | (simp; done)), (by first | omega | (with_reducible assumption) | (simp; done)), (by first | omega | (with_reducible assumption) | (simp; done)), (by first | omega | (with_reducible assumption) | (simp; done))⟩
        ·have F760 := F752.sb 83 (by kernel_rfl) hc754
         have F761 := F760.sb 84 (by kernel_rfl) hc754
         refine wp_cond_false (F761.ev (by kernel_rfl)) ?_
         refine wp_skip ?_
         refine hK681 _ _ ?_; clear hK681 K681
         have hcap : out.length ≤ b := own_cap' (S753.ow 3 rfl)
         refine wp_region_sepF (L0 := SA.blk g36 103 #[.string b34, .slice Bv vs.length bv] :: SA.own (.slice Bv vs.length bv) 69 19 vs.length (flatC Ty69.cells vs) :: SA.stars (vs.map SA.uv) :: SA.own (.slice B out.length b) 103 2 out.length (flatC Ty103.cells out) :: SA.stars (out.map SA.nv) :: L) [some [], some [], some [], some [(0, 85), (1, 86), (2, 87)], some [], some [(4, 89)], some [], some [], some [(6, 91), (7, 92)], some [(4, 89), (5, 90), (8, 93)], some [(3, 88), (4, 89), (5, 90), (8, 93), (9, 94)], none] [.v 85 (.slice B out.length b), .v 86 (.int .i64 (↑at_)), .v 87 (.int .i64 (↑at_)), .v 88 (.slice (B) (at_) (at_)), .v 89 (.agg #[.string b34, .slice Bv vs.length bv]), .p 90 (SA.emp) (fun _ vv AA => ∃ g798 : Nat, vv = .slice (some ⟨g798, 0, none⟩) 1 1 ∧ AA = SA.blk g798 103 #[.string b34, .slice Bv vs.length bv]), .v 91 (.slice B out.length b), .v 92 (.int .i64 (↑at_)), .v 93 (.slice (subA B at_ 2 b) (out.length - at_) (b - at_)), .p 94 (SA.emp) (fun _ vv AA => ∃ A808 : Option Addr, ∃ c808 : Nat, vv = .slice A808 (1 + (out.length - at_)) c808 ∧ AA = SA.own (.slice A808 (1 + (out.length - at_)) c808) 103 2 (1 + (out.length - at_)) (flatC Ty103.cells ({ fName := b34, fVersions_a := Bv, fVersions_c := bv, fVersions := vs } :: out.drop at_))), .p 95 (SA.emp) (fun _ vv AA => ∃ A815 : Option Addr, ∃ c815 : Nat, vv = .slice A815 (out.take at_ ++ { fName := b34, fVersions_a := Bv, fVersions_c := bv, fVersions := vs } :: out.drop at_).length c815 ∧ AA = SA.own (.slice A815 (out.take at_ ++ { fName := b34, fVersions_a := Bv, fVersions_c := bv, fVersions := vs } :: out.drop at_).length c815) 103 2 ((out.take at_ ++ { fName := b34, fVersions_a := Bv, fVersions_c := bv, fVersions := vs } :: out.drop at_).length) (flatC Ty103.cells (out.take at_ ++ { fName := b34, fVersions_a := Bv, fVersions_c := bv, fVersions := vs } :: out.drop at_))), .n SA.emp (fun _ _ A => A = SA.emp)] [(9, 5)] F761 rfl (by kernel_rfl) S753.emp.emp.emp ?_ ?_
         ·refine ⟨?_, ?_, ?_, ?_, ?_, ?_, ?_, ?_, ?_, ?_, ?_, trivial⟩
          ·intro w789 M789
           intro a789 F789 S789
           refine obl_of (by rfl) ?_
           exact s_p F789 (v := .slice B out.length b) (by kernel_rfl) (by kernel_rfl) (by kernel_rfl) S789
          ·intro w790 M790
           intro a790 F790 S790
           refine obl_of (by rfl) ?_
           exact s_p F790 (v := .int .i64 (↑at_)) (by kernel_rfl) (by kernel_rfl) (by kernel_rfl) S790
          ·intro w791 M791
           intro a791 F791 S791
           refine obl_of (by rfl) ?_
           exact s_p F791 (v := .int .i64 (↑at_)) (by kernel_rfl) (by kernel_rfl) (by kernel_rfl) S791
          ·intro w792 M792
           intro a792 F792 S792
           refine obl_of (by rfl) ?_
           exact s_r (v := .slice (B) (at_) (at_)) (r_slc3 rfl Try.underlying95 2 (by kernel_rfl) (F792.e (.slice B out.length b)) (F792.e (.int .i64 (↑at_))) (F792.e (.int .i64 (↑at_))) at_ ⟨rfl, rfl⟩ (by omega)) S792
          ·intro w796 M796
           intro a796 F796 S796
           refine obl_of (by rfl) ?_
           exact s_r (v := .agg #[.string b34, .slice Bv vs.length bv]) (r_ldm rfl (F796.e (.pointer (some ⟨g36, 0, none⟩))) ((Sp.dropM S796.drop).bk 0 rfl) 2 (by kernel_rfl) Try.underlying103 rfl (by kernel_rfl) (v := #[.string b34, .slice Bv vs.length bv]) (by kernel_rfl)) S796
          ·intro w797 M797
           intro a797 F797 S797
           refine obl_of (by rfl) ?_
           exact s_news F797 103 #[.string b34, .slice Bv vs.length bv] 1 (by kernel_rfl) (by kernel_rfl) (by kernel_rfl) S797.drop
          ·intro w799 M799
           intro a799 F799 S799
           refine obl_of (by rfl) ?_
           exact s_p F799 (v := .slice B out.length b) (by kernel_rfl) (by kernel_rfl) (by kernel_rfl) S799
          ·intro w800 M800
           intro a800 F800 S800
           refine obl_of (by rfl) ?_
           exact s_p F800 (v := .int .i64 (↑at_)) (by kernel_rfl) (by kernel_rfl) (by kernel_rfl) S800
          ·intro w801 M801
           intro a801 F801 S801
           refine obl_of (by rfl) ?_
           exact s_r (v := .slice (subA B at_ 2 b) (out.length - at_) (b - at_)) (r_slcl rfl Try.underlying95 2 (by kernel_rfl) (F801.e (.slice B out.length b)) (F801.e (.int .i64 (↑at_))) at_ rfl (by omega)) S801
          ·intro w804 M804
           rintro _ _ ⟨g798, rfl, rfl⟩
           intro a804 F804 S804
           refine obl_of (by rfl) ?_
           exact s_app rfl Try.underlying95 2 _ tin103 rfl rfl (F804.e (.slice (some ⟨g798, 0, none⟩) 1 1)) (Sp.ofblk (sz := 2) (m := 1) (l := [Value.string b34, .slice Bv vs.length bv]) S804.swap.drop rfl (by omega) rfl) (flatC Ty103.cells (out.drop at_)) (F804.e (.slice (subA B at_ 2 b) (out.length - at_) (b - at_))) (sl_dropC Ty103.len (own_slN ((Sp.dropM S804.drop.drop).ow 3 rfl) (by omega)) hcap) (by rw [flatC_len Ty103.len, List.length_drop]) (flatC_one Ty103.one) (by omega) (by omega) (n' := 1 + (out.length - at_)) (by omega) (cs' := flatC Ty103.cells ({ fName := b34, fVersions_a := Bv, fVersions_c := bv, fVersions := vs } :: out.drop at_)) rfl
          ·intro w809 M809
           rintro _ _ ⟨g798, rfl, rfl⟩
           rintro _ _ ⟨A808, c808, rfl, rfl⟩ hA814
           intro a809 F809 S809
           refine obl_of (by rfl) ?_
           exact s_appF rfl Try.underlying95 2 _ tin103 rfl rfl (F809.e (.slice (B) (at_) (at_))) S809.drop (flatC Ty103.cells (out.take at_)) (sl_takeC Ty103.len (own_slN ((Sp.dropM S809.drop).ow 3 rfl) (by omega)) at_) (by rw [flatC_len Ty103.len, List.length_take]; congr 1; omega) (flatC Ty103.cells ({ fName := b34, fVersions_a := Bv, fVersions_c := bv, fVersions := vs } :: out.drop at_)) (F809.e (.slice A808 (1 + (out.length - at_)) c808)) (own_slN (Sp.owm S809.drop hA814) (by first | omega | (simp; omega))) (by rw [flatC_len Ty103.len, List.length_cons, List.length_drop]; omega) (flatC_one Ty103.one) (by omega) (by omega) (by omega) (n' := (out.take at_ ++ { fName := b34, fVersions_a := Bv, fVersions_c := bv, fVersions := vs } :: out.drop at_).length) (by rw [len_ins hat]; omega) (cs' := flatC Ty103.cells (out.take at_ ++ { fName := b34, fVersions_a := Bv, fVersions_c := bv, fVersions := vs } :: out.drop at_)) (by rw [flatC_app])
         ·rintro _ _ ⟨g798, rfl, rfl⟩
          rintro _ _ ⟨A808, c808, rfl, rfl⟩
          rintro _ _ ⟨A815, c815, rfl, rfl⟩
          intro a817 w816 F817 S816
          have S818 : Sp R w816 (SA.own (.slice A815 (out.take at_ ++ { fName := b34, fVersions_a := Bv, fVersions_c := bv, fVersions := vs } :: out.drop at_).length c815) 103 2 ((out.take at_ ++ { fName := b34, fVersions_a := Bv, fVersions_c := bv, fVersions := vs } :: out.drop at_).length) (flatC Ty103.cells (out.take at_ ++ { fName := b34, fVersions_a := Bv, fVersions_c := bv, fVersions := vs } :: out.drop at_)) :: SA.own (.slice A808 (1 + (out.length - at_)) c808) 103 2 (1 + (out.length - at_)) (flatC Ty103.cells ({ fName := b34, fVersions_a := Bv, fVersions_c := bv, fVersions := vs } :: out.drop at_)) :: SA.blk g36 103 #[.string b34, .slice Bv vs.length bv] :: SA.own (.slice Bv vs.length bv) 69 19 vs.length (flatC Ty69.cells vs) :: SA.stars (vs.map SA.uv) :: SA.own (.slice B out.length b) 103 2 out.length (flatC Ty103.cells out) :: SA.stars (out.map SA.nv) :: L) := S816
          refine op_q F817 (.slice A815 (out.take at_ ++ { fName := b34, fVersions_a := Bv, fVersions_c := bv, fVersions := vs } :: out.drop at_).length c815) ?_; intro a819 F819
          refine wpList_nil ?_
          refine hK27 _ _ ?_; clear hK27 K27
          refine wp_region_lit ?_
          refine op_q F819 (.int .i64 (↑i)) ?_; intro a820 F820
          refine op_rq (v := .int .i64 (↑(i + 1))) F820 (r_add (z := ↑(i + 1)) rfl (F820.e (.int .i64 (↑i))) (F820.e (.int .i64 1)) (wr64 (by omega) (by omega) (by omega))) ?_; intro a821 F821
          refine op_q F821 (.int .i64 (↑(i + 1))) ?_; intro a822 F822
          refine wpList_nil ?_
          have S823 : Sp R w816 (SA.nv { fName := b34, fVersions_a := Bv, fVersions_c := bv, fVersions := vs } :: SA.own (.slice A815 (out.take at_ ++ { fName := b34, fVersions_a := Bv, fVersions_c := bv, fVersions := vs } :: out.drop at_).length c815) 103 2 ((out.take at_ ++ { fName := b34, fVersions_a := Bv, fVersions_c := bv, fVersions := vs } :: out.drop at_).length) (flatC Ty103.cells (out.take at_ ++ { fName := b34, fVersions_a := Bv, fVersions_c := bv, fVersions := vs } :: out.drop at_)) :: SA.own (.slice A808 (1 + (out.length - at_)) c808) 103 2 (1 + (out.length - at_)) (flatC Ty103.cells ({ fName := b34, fVersions_a := Bv, fVersions_c := bv, fVersions := vs } :: out.drop at_)) :: SA.blk g36 103 #[.string b34, .slice Bv vs.length bv] :: SA.own (.slice B out.length b) 103 2 out.length (flatC Ty103.cells out) :: SA.stars (out.map SA.nv) :: L) := (Sp.star.2 S818.p4.p4 : Sp R w816 (SA.nv { fName := b34, fVersions_a := Bv, fVersions_c := bv, fVersions := vs } :: _))
          have S824 : Sp R w816 (SA.stars ((out.take at_ ++ { fName := b34, fVersions_a := Bv, fVersions_c := bv, fVersions := vs } :: out.drop at_).map SA.nv) :: SA.own (.slice A815 (out.take at_ ++ { fName := b34, fVersions_a := Bv, fVersions_c := bv, fVersions := vs } :: out.drop at_).length c815) 103 2 ((out.take at_ ++ { fName := b34, fVersions_a := Bv, fVersions_c := bv, fVersions := vs } :: out.drop at_).length) (flatC Ty103.cells (out.take at_ ++ { fName := b34, fVersions_a := Bv, fVersions_c := bv, fVersions := vs } :: out.drop at_)) :: SA.own (.slice A808 (1 + (out.length - at_)) c808) 103 2 (1 + (out.length - at_)) (flatC Ty103.cells ({ fName := b34, fVersions_a := Bv, fVersions_c := bv, fVersions := vs } :: out.drop at_)) :: SA.blk g36 103 #[.string b34, .slice Bv vs.length bv] :: SA.own (.slice B out.length b) 103 2 out.length (flatC Ty103.cells out) :: L) := stars_nv (at_ := at_) S823.p5.p1
          exact hK9 _ _ _ (by first | omega | (simp; omega)) ⟨A815, c815, (out.take at_ ++ { fName := b34, fVersions_a := Bv, fVersions_c := bv, fVersions := vs } :: out.drop at_), i + 1, rfl, (F822.kk 0 (F822.kk 2 (F822.kk 3 (F822.kk 4 F822.nil)))), S824.p2.drop.p2.drop.p2.drop.p1, (by first | omega | (with_reducible assumption) | (simp; done)), (by first | omega | (with_reducible assumption) | (simp; done)), (by rw [len_ins hat]; omega), (mem_ins hok ⟨hp0_34, (by show vs.length ≤ 5; omega), hvp⟩), (rise_ins hri (rise_low hri hi0 hlt_p (le_less hc678 hc754)) hgt)⟩
      ·have F825 := F676.sb 68 (by kernel_rfl) (show (!(Op.bytesLess (out[at_ - 1].fName).toList b34.toList || (out[at_ - 1].fName).toList == b34.toList)) = true by rw [hc678]; rfl)
       have F826 := F825.sb 69 (by kernel_rfl) (show (!(Op.bytesLess (out[at_ - 1].fName).toList b34.toList || (out[at_ - 1].fName).toList == b34.toList)) = true by rw [hc678]; rfl)
       refine wp_cond_true (F826.ev (by kernel_rfl)) ?_
       refine wp_skip ?_
       refine hK603 _ _ ?_; clear hK603 K603
       refine wp_block ?_
       refine wp_region_lit ?_
       refine op_q F826 (.int .i64 (↑at_)) ?_; intro a827 F827
       refine op_rq (v := .int .i64 (↑(at_ - 1))) F827 (r_sub (z := ↑(at_ - 1)) rfl (F827.e (.int .i64 (↑at_))) (F827.e (.int .i64 1)) (wr64 (by omega) (by omega) (by omega))) ?_; intro a828 F828
       refine op_q F828 (.int .i64 (↑(at_ - 1))) ?_; intro a829 F829
       refine wpList_nil ?_
       exact hK602 _ _ _ (by first | omega | (simp; omega)) ⟨at_ - 1, rfl, (F829.kk 0 (F829.kk 2 (F829.kk 3 (F829.kk 4 (F829.kk 5 (F829.kk 7 F829.nil)))))), S677.p4.p4.p4.p4.p4, (by first | omega | (with_reducible assumption) | (simp; done)), (rise_high hi0 hlt_p hgt (gt_less hc678))⟩
    ·skip
     have hc605p := of_decide_eq_false hc605
     refine wp_region_sepF (L0 := SA.blk g36 103 #[.string b34, .slice Bv vs.length bv] :: SA.own (.slice Bv vs.length bv) 69 19 vs.length (flatC Ty69.cells vs) :: SA.stars (vs.map SA.uv) :: SA.own (.slice B out.length b) 103 2 out.length (flatC Ty103.cells out) :: SA.stars (out.map SA.nv) :: L) [some [], some [(0, 57)], some [(1, 58)], some [(2, 59)], some [(2, 59)], some [(2, 59), (4, 61)], some [(2, 59), (3, 60), (5, 62)], some [(2, 59), (6, 63)], some [(2, 59), (7, 64)], some [(2, 59)], some [(2, 59), (9, 66)], some [(2, 59), (8, 65), (10, 67)], some [(2, 59), (11, 68)]] [.v 57 (.int .i64 (↑at_)), .v 58 (.bool false), .v 59 (.bool false), .v 60 undef, .v 61 undef, .v 62 undef, .v 63 undef, .v 64 undef, .v 65 undef, .v 66 undef, .v 67 undef, .v 68 undef, .v 69 (.bool false)] [] F602 rfl (by kernel_rfl) S602 ?_ ?_
     ·refine ⟨?_, ?_, ?_, ?_, ?_, ?_, ?_, ?_, ?_, ?_, ?_, ?_, ?_, trivial⟩
      ·intro w864 M864
       intro a864 F864 S864
       refine obl_of (by rfl) ?_
       exact s_p F864 (v := .int .i64 (↑at_)) (by kernel_rfl) (by kernel_rfl) (by kernel_rfl) S864
      ·intro w865 M865
       intro a865 F865 S865
       refine obl_of (by rfl) ?_
       exact s_pb F865 (b := decide ((0 : Int) < ↑at_)) hc605 (by kernel_rfl) (by kernel_rfl) (by kernel_rfl) S865
      ·intro w867 M867
       intro a867 F867 S867
       refine obl_of (by rfl) ?_
       exact s_p F867 (v := .bool false) (by kernel_rfl) (by kernel_rfl) (by kernel_rfl) S867
      ·intro w869 M869
       intro a869 F869 S869
       exact obl_no (by rfl) (F869.wanted (q := false) (by kernel_rfl) (by intro t ht; injection ht with ht; subst ht; exact nble rfl)) ⟨rfl, rfl⟩
      ·intro w871 M871
       intro a871 F871 S871
       exact obl_no (by rfl) (F871.wanted (q := false) (by kernel_rfl) (by intro t ht; injection ht with ht; subst ht; exact nble rfl)) ⟨rfl, rfl⟩
      ·intro w873 M873
       intro a873 F873 S873
       exact obl_no (by rfl) (F873.wanted (q := false) (by kernel_rfl) (by intro t ht; injection ht with ht; subst ht; exact nble rfl)) ⟨rfl, rfl⟩
      ·intro w876 M876
       intro a876 F876 S876
       exact obl_no (by rfl) (F876.wanted (q := false) (by kernel_rfl) (by intro t ht; injection ht with ht; subst ht; exact nble rfl)) ⟨rfl, rfl⟩
      ·intro w880 M880
       intro a880 F880 S880
       exact obl_no (by rfl) (F880.wanted (q := false) (by kernel_rfl) (by intro t ht; injection ht with ht; subst ht; exact nble rfl)) ⟨rfl, rfl⟩
      ·intro w883 M883
       intro a883 F883 S883
       exact obl_no (by rfl) (F883.wanted (q := false) (by kernel_rfl) (by intro t ht; injection ht with ht; subst ht; exact nble rfl)) ⟨rfl, rfl⟩
      ·intro w886 M886
       intro a886 F886 S886
       exact obl_no (by rfl) (F886.wanted (q := false) (by kernel_rfl) (by intro t ht; injection ht with ht; subst ht; exact nble rfl)) ⟨rfl, rfl⟩
      ·intro w888 M888
       intro a888 F888 S888
       exact obl_no (by rfl) (F888.wanted (q := false) (by kernel_rfl) (by intro t ht; injection ht with ht; subst ht; exact nble rfl)) ⟨rfl, rfl⟩
      ·intro w891 M891
       intro a891 F891 S891
       exact obl_no (by rfl) (F891.wanted (q := false) (by kernel_rfl) (by intro t ht; injection ht with ht; subst ht; exact nble rfl)) ⟨rfl, rfl⟩
      ·intro w895 M895
       intro a895 F895 S895
       refine obl_of (by rfl) ?_
       exact s_p F895 (v := .bool false) (by kernel_rfl) (by kernel_rfl) (by kernel_rfl) S895
     ·intro a899 w898 F899 S898
      have S900 : Sp R w898 (SA.blk g36 103 #[.string b34, .slice Bv vs.length bv] :: SA.own (.slice Bv vs.length bv) 69 19 vs.length (flatC Ty69.cells vs) :: SA.stars (vs.map SA.uv) :: SA.own (.slice B out.length b) 103 2 out.length (flatC Ty103.cells out) :: SA.stars (out.map SA.nv) :: L) := S898
      refine wpList_nil ?_
      refine hK604 _ _ ?_; clear hK604 K604
      refine wp_cond_false (F899.ev (by kernel_rfl)) ?_
      refine wp_exit ?_
      refine ex_then ?_; clear hK603 K603
      refine ex_then ?_
      refine ex_in ?_
      refine hK601 _ _ ?_; clear hK601 K601
      refine wp_seq_k fun K901 hK901 => ?_
      refine wp_seq_k fun K902 hK902 => ?_
      refine wp_region_sepF (L0 := SA.blk g36 103 #[.string b34, .slice Bv vs.length bv] :: SA.own (.slice Bv vs.length bv) 69 19 vs.length (flatC Ty69.cells vs) :: SA.stars (vs.map SA.uv) :: SA.own (.slice B out.length b) 103 2 out.length (flatC Ty103.cells out) :: SA.stars (out.map SA.nv) :: L) [some [], some [(0, 72)], some [(1, 73)], some [(2, 74)], some [(2, 74)], some [(2, 74), (4, 76)], some [(2, 74), (3, 75), (5, 77)], some [(2, 74), (6, 78)], some [(2, 74), (7, 79)], some [(2, 74)], some [(2, 74), (9, 81)], some [(2, 74), (8, 80), (10, 82)], some [(2, 74), (11, 83)]] [.v 72 (.int .i64 (↑at_)), .v 73 (.bool false), .v 74 (.bool false), .v 75 undef, .v 76 undef, .v 77 undef, .v 78 undef, .v 79 undef, .v 80 undef, .v 81 undef, .v 82 undef, .v 83 undef, .v 84 (.bool false)] [] F899 rfl (by kernel_rfl) S900 ?_ ?_
      ·refine ⟨?_, ?_, ?_, ?_, ?_, ?_, ?_, ?_, ?_, ?_, ?_, ?_, ?_, trivial⟩
       ·intro w937 M937
        intro a937 F937 S937
        refine obl_of (by rfl) ?_
        exact s_p F937 (v := .int .i64 (↑at_)) (by kernel_rfl) (by kernel_rfl) (by kernel_rfl) S937
       ·intro w938 M938
        intro a938 F938 S938
        refine obl_of (by rfl) ?_
        exact s_pb F938 (b := decide ((0 : Int) < ↑at_)) hc605 (by kernel_rfl) (by kernel_rfl) (by kernel_rfl) S938
       ·intro w940 M940
        intro a940 F940 S940
        refine obl_of (by rfl) ?_
        exact s_p F940 (v := .bool false) (by kernel_rfl) (by kernel_rfl) (by kernel_rfl) S940
       ·intro w942 M942
        intro a942 F942 S942
        exact obl_no (by rfl) (F942.wanted (q := false) (by kernel_rfl) (by intro t ht; injection ht with ht; subst ht; exact nble rfl)) ⟨rfl, rfl⟩
       ·intro w944 M944
        intro a944 F944 S944
        exact obl_no (by rfl) (F944.wanted (q := false) (by kernel_rfl) (by intro t ht; injection ht with ht; subst ht; exact nble rfl)) ⟨rfl, rfl⟩
       ·intro w946 M946
        intro a946 F946 S946
        exact obl_no (by rfl) (F946.wanted (q := false) (by kernel_rfl) (by intro t ht; injection ht with ht; subst ht; exact nble rfl)) ⟨rfl, rfl⟩
       ·intro w949 M949
        intro a949 F949 S949
        exact obl_no (by rfl) (F949.wanted (q := false) (by kernel_rfl) (by intro t ht; injection ht with ht; subst ht; exact nble rfl)) ⟨rfl, rfl⟩
       ·intro w953 M953
        intro a953 F953 S953
        exact obl_no (by rfl) (F953.wanted (q := false) (by kernel_rfl) (by intro t ht; injection ht with ht; subst ht; exact nble rfl)) ⟨rfl, rfl⟩
       ·intro w956 M956
        intro a956 F956 S956
        exact obl_no (by rfl) (F956.wanted (q := false) (by kernel_rfl) (by intro t ht; injection ht with ht; subst ht; exact nble rfl)) ⟨rfl, rfl⟩
       ·intro w959 M959
        intro a959 F959 S959
        exact obl_no (by rfl) (F959.wanted (q := false) (by kernel_rfl) (by intro t ht; injection ht with ht; subst ht; exact nble rfl)) ⟨rfl, rfl⟩
       ·intro w961 M961
        intro a961 F961 S961
        exact obl_no (by rfl) (F961.wanted (q := false) (by kernel_rfl) (by intro t ht; injection ht with ht; subst ht; exact nble rfl)) ⟨rfl, rfl⟩
       ·intro w964 M964
        intro a964 F964 S964
        exact obl_no (by rfl) (F964.wanted (q := false) (by kernel_rfl) (by intro t ht; injection ht with ht; subst ht; exact nble rfl)) ⟨rfl, rfl⟩
       ·intro w968 M968
        intro a968 F968 S968
        refine obl_of (by rfl) ?_
        exact s_p F968 (v := .bool false) (by kernel_rfl) (by kernel_rfl) (by kernel_rfl) S968
      ·intro a972 w971 F972 S971
       have S973 : Sp R w971 (SA.blk g36 103 #[.string b34, .slice Bv vs.length bv] :: SA.own (.slice Bv vs.length bv) 69 19 vs.length (flatC Ty69.cells vs) :: SA.stars (vs.map SA.uv) :: SA.own (.slice B out.length b) 103 2 out.length (flatC Ty103.cells out) :: SA.stars (out.map SA.nv) :: L) := S971
       refine wpList_nil ?_
       refine hK902 _ _ ?_; clear hK902 K902
       refine wp_cond_false (F972.ev (by kernel_rfl)) ?_
       refine wp_skip ?_
       refine hK901 _ _ ?_; clear hK901 K901
       have hcap : out.length ≤ b := own_cap' (S973.ow 3 rfl)
       refine wp_region_sepF (L0 := SA.blk g36 103 #[.string b34, .slice Bv vs.length bv] :: SA.own (.slice Bv vs.length bv) 69 19 vs.length (flatC Ty69.cells vs) :: SA.stars (vs.map SA.uv) :: SA.own (.slice B out.length b) 103 2 out.length (flatC Ty103.cells out) :: SA.stars (out.map SA.nv) :: L) [some [], some [], some [], some [(0, 85), (1, 86), (2, 87)], some [], some [(4, 89)], some [], some [], some [(6, 91), (7, 92)], some [(4, 89), (5, 90), (8, 93)], some [(3, 88), (4, 89), (5, 90), (8, 93), (9, 94)], none] [.v 85 (.slice B out.length b), .v 86 (.int .i64 (↑at_)), .v 87 (.int .i64 (↑at_)), .v 88 (.slice (B) (at_) (at_)), .v 89 (.agg #[.string b34, .slice Bv vs.length bv]), .p 90 (SA.emp) (fun _ vv AA => ∃ g1010 : Nat, vv = .slice (some ⟨g1010, 0, none⟩) 1 1 ∧ AA = SA.blk g1010 103 #[.string b34, .slice Bv vs.length bv]), .v 91 (.slice B out.length b), .v 92 (.int .i64 (↑at_)), .v 93 (.slice (subA B at_ 2 b) (out.length - at_) (b - at_)), .p 94 (SA.emp) (fun _ vv AA => ∃ A1020 : Option Addr, ∃ c1020 : Nat, vv = .slice A1020 (1 + (out.length - at_)) c1020 ∧ AA = SA.own (.slice A1020 (1 + (out.length - at_)) c1020) 103 2 (1 + (out.length - at_)) (flatC Ty103.cells ({ fName := b34, fVersions_a := Bv, fVersions_c := bv, fVersions := vs } :: out.drop at_))), .p 95 (SA.emp) (fun _ vv AA => ∃ A1027 : Option Addr, ∃ c1027 : Nat, vv = .slice A1027 (out.take at_ ++ { fName := b34, fVersions_a := Bv, fVersions_c := bv, fVersions := vs } :: out.drop at_).length c1027 ∧ AA = SA.own (.slice A1027 (out.take at_ ++ { fName := b34, fVersions_a := Bv, fVersions_c := bv, fVersions := vs } :: out.drop at_).length c1027) 103 2 ((out.take at_ ++ { fName := b34, fVersions_a := Bv, fVersions_c := bv, fVersions := vs } :: out.drop at_).length) (flatC Ty103.cells (out.take at_ ++ { fName := b34, fVersions_a := Bv, fVersions_c := bv, fVersions := vs } :: out.drop at_))), .n SA.emp (fun _ _ A => A = SA.emp)] [(9, 5)] F972 rfl (by kernel_rfl) S973.emp.emp.emp ?_ ?_
       ·refine ⟨?_, ?_, ?_, ?_, ?_, ?_, ?_, ?_, ?_, ?_, ?_, trivial⟩
        ·intro w1001 M1001
         intro a1001 F1001 S1001
         refine obl_of (by rfl) ?_
         exact s_p F1001 (v := .slice B out.length b) (by kernel_rfl) (by kernel_rfl) (by kernel_rfl) S1001
        ·intro w1002 M1002
         intro a1002 F1002 S1002
         refine obl_of (by rfl) ?_
         exact s_p F1002 (v := .int .i64 (↑at_)) (by kernel_rfl) (by kernel_rfl) (by kernel_rfl) S1002
        ·intro w1003 M1003
         intro a1003 F1003 S1003
         refine obl_of (by rfl) ?_
         exact s_p F1003 (v := .int .i64 (↑at_)) (by kernel_rfl) (by kernel_rfl) (by kernel_rfl) S1003
        ·intro w1004 M1004
         intro a1004 F1004 S1004
         refine obl_of (by rfl) ?_
         exact s_r (v := .slice (B) (at_) (at_)) (r_slc3 rfl Try.underlying95 2 (by kernel_rfl) (F1004.e (.slice B out.length b)) (F1004.e (.int .i64 (↑at_))) (F1004.e (.int .i64 (↑at_))) at_ ⟨rfl, rfl⟩ (by omega)) S1004
        ·intro w1008 M1008
         intro a1008 F1008 S1008
         refine obl_of (by rfl) ?_
         exact s_r (v := .agg #[.string b34, .slice Bv vs.length bv]) (r_ldm rfl (F1008.e (.pointer (some ⟨g36, 0, none⟩))) ((Sp.dropM S1008.drop).bk 0 rfl) 2 (by kernel_rfl) Try.underlying103 rfl (by kernel_rfl) (v := #[.string b34, .slice Bv vs.length bv]) (by kernel_rfl)) S1008
        ·intro w1009 M1009
         intro a1009 F1009 S1009
         refine obl_of (by rfl) ?_
         exact s_news F1009 103 #[.string b34, .slice Bv vs.length bv] 1 (by kernel_rfl) (by kernel_rfl) (by kernel_rfl) S1009.drop
        ·intro w1011 M1011
         intro a1011 F1011 S1011
         refine obl_of (by rfl) ?_
         exact s_p F1011 (v := .slice B out.length b) (by kernel_rfl) (by kernel_rfl) (by kernel_rfl) S1011
        ·intro w1012 M1012
         intro a1012 F1012 S1012
         refine obl_of (by rfl) ?_
         exact s_p F1012 (v := .int .i64 (↑at_)) (by kernel_rfl) (by kernel_rfl) (by kernel_rfl) S1012
        ·intro w1013 M1013
         intro a1013 F1013 S1013
         refine obl_of (by rfl) ?_
         exact s_r (v := .slice (subA B at_ 2 b) (out.length - at_) (b - at_)) (r_slcl rfl Try.underlying95 2 (by kernel_rfl) (F1013.e (.slice B out.length b)) (F1013.e (.int .i64 (↑at_))) at_ rfl (by omega)) S1013
        ·intro w1016 M1016
         rintro _ _ ⟨g1010, rfl, rfl⟩
         intro a1016 F1016 S1016
         refine obl_of (by rfl) ?_
         exact s_app rfl Try.underlying95 2 _ tin103 rfl rfl (F1016.e (.slice (some ⟨g1010, 0, none⟩) 1 1)) (Sp.ofblk (sz := 2) (m := 1) (l := [Value.string b34, .slice Bv vs.length bv]) S1016.swap.drop rfl (by omega) rfl) (flatC Ty103.cells (out.drop at_)) (F1016.e (.slice (subA B at_ 2 b) (out.length - at_) (b - at_))) (sl_dropC Ty103.len (own_slN ((Sp.dropM S1016.drop.drop).ow 3 rfl) (by omega)) hcap) (by rw [flatC_len Ty103.len, List.length_drop]) (flatC_one Ty103.one) (by omega) (by omega) (n' := 1 + (out.length - at_)) (by omega) (cs' := flatC Ty103.cells ({ fName := b34, fVersions_a := Bv, fVersions_c := bv, fVersions := vs } :: out.drop at_)) rfl
        ·intro w1021 M1021
         rintro _ _ ⟨g1010, rfl, rfl⟩
         rintro _ _ ⟨A1020, c1020, rfl, rfl⟩ hA1026
         intro a1021 F1021 S1021
         refine obl_of (by rfl) ?_
         exact s_appF rfl Try.underlying95 2 _ tin103 rfl rfl (F1021.e (.slice (B) (at_) (at_))) S1021.drop (flatC Ty103.cells (out.take at_)) (sl_takeC Ty103.len (own_slN ((Sp.dropM S1021.drop).ow 3 rfl) (by omega)) at_) (by rw [flatC_len Ty103.len, List.length_take]; congr 1; omega) (flatC Ty103.cells ({ fName := b34, fVersions_a := Bv, fVersions_c := bv, fVersions := vs } :: out.drop at_)) (F1021.e (.slice A1020 (1 + (out.length - at_)) c1020)) (own_slN (Sp.owm S1021.drop hA1026) (by first | omega | (simp; omega))) (by rw [flatC_len Ty103.len, List.length_cons, List.length_drop]; omega) (flatC_one Ty103.one) (by omega) (by omega) (by omega) (n' := (out.take at_ ++ { fName := b34, fVersions_a := Bv, fVersions_c := bv, fVersions := vs } :: out.drop at_).length) (by rw [len_ins hat]; omega) (cs' := flatC Ty103.cells (out.take at_ ++ { fName := b34, fVersions_a := Bv, fVersions_c := bv, fVersions := vs } :: out.drop at_)) (by rw [flatC_app])
       ·rintro _ _ ⟨g1010, rfl, rfl⟩
        rintro _ _ ⟨A1020, c1020, rfl, rfl⟩
        rintro _ _ ⟨A1027, c1027, rfl, rfl⟩
        intro a1029 w1028 F1029 S1028
        have S1030 : Sp R w1028 (SA.own (.slice A1027 (out.take at_ ++ { fName := b34, fVersions_a := Bv, fVersions_c := bv, fVersions := vs } :: out.drop at_).length c1027) 103 2 ((out.take at_ ++ { fName := b34, fVersions_a := Bv, fVersions_c := bv, fVersions := vs } :: out.drop at_).length) (flatC Ty103.cells (out.take at_ ++ { fName := b34, fVersions_a := Bv, fVersions_c := bv, fVersions := vs } :: out.drop at_)) :: SA.own (.slice A1020 (1 + (out.length - at_)) c1020) 103 2 (1 + (out.length - at_)) (flatC Ty103.cells ({ fName := b34, fVersions_a := Bv, fVersions_c := bv, fVersions := vs } :: out.drop at_)) :: SA.blk g36 103 #[.string b34, .slice Bv vs.length bv] :: SA.own (.slice Bv vs.length bv) 69 19 vs.length (flatC Ty69.cells vs) :: SA.stars (vs.map SA.uv) :: SA.own (.slice B out.length b) 103 2 out.length (flatC Ty103.cells out) :: SA.stars (out.map SA.nv) :: L) := S1028
        refine op_q F1029 (.slice A1027 (out.take at_ ++ { fName := b34, fVersions_a := Bv, fVersions_c := bv, fVersions := vs } :: out.drop at_).length c1027) ?_; intro a1031 F1031
        refine wpList_nil ?_
        refine hK27 _ _ ?_; clear hK27 K27
        refine wp_region_lit ?_
        refine op_q F1031 (.int .i64 (↑i)) ?_; intro a1032 F1032
        refine op_rq (v := .int .i64 (↑(i + 1))) F1032 (r_add (z := ↑(i + 1)) rfl (F1032.e (.int .i64 (↑i))) (F1032.e (.int .i64 1)) (wr64 (by omega) (by omega) (by omega))) ?_; intro a1033 F1033
        refine op_q F1033 (.int .i64 (↑(i + 1))) ?_; intro a1034 F1034
        refine wpList_nil ?_
        have S1035 : Sp R w1028 (SA.nv { fName := b34, fVersions_a := Bv, fVersions_c := bv, fVersions := vs } :: SA.own (.slice A1027 (out.take at_ ++ { fName := b34, fVersions_a := Bv, fVersions_c := bv, fVersions := vs } :: out.drop at_).length c1027) 103 2 ((out.take at_ ++ { fName := b34, fVersions_a := Bv, fVersions_c := bv, fVersions := vs } :: out.drop at_).length) (flatC Ty103.cells (out.take at_ ++ { fName := b34, fVersions_a := Bv, fVersions_c := bv, fVersions := vs } :: out.drop at_)) :: SA.own (.slice A1020 (1 + (out.length - at_)) c1020) 103 2 (1 + (out.length - at_)) (flatC Ty103.cells ({ fName := b34, fVersions_a := Bv, fVersions_c := bv, fVersions := vs } :: out.drop at_)) :: SA.blk g36 103 #[.string b34, .slice Bv vs.length bv] :: SA.own (.slice B out.length b) 103 2 out.length (flatC Ty103.cells out) :: SA.stars (out.map SA.nv) :: L) := (Sp.star.2 S1030.p4.p4 : Sp R w1028 (SA.nv { fName := b34, fVersions_a := Bv, fVersions_c := bv, fVersions := vs } :: _))
        have S1036 : Sp R w1028 (SA.stars ((out.take at_ ++ { fName := b34, fVersions_a := Bv, fVersions_c := bv, fVersions := vs } :: out.drop at_).map SA.nv) :: SA.own (.slice A1027 (out.take at_ ++ { fName := b34, fVersions_a := Bv, fVersions_c := bv, fVersions := vs } :: out.drop at_).length c1027) 103 2 ((out.take at_ ++ { fName := b34, fVersions_a := Bv, fVersions_c := bv, fVersions := vs } :: out.drop at_).length) (flatC Ty103.cells (out.take at_ ++ { fName := b34, fVersions_a := Bv, fVersions_c := bv, fVersions := vs } :: out.drop at_)) :: SA.own (.slice A1020 (1 + (out.length - at_)) c1020) 103 2 (1 + (out.length - at_)) (flatC Ty103.cells ({ fName := b34, fVersions_a := Bv, fVersions_c := bv, fVersions := vs } :: out.drop at_)) :: SA.blk g36 103 #[.string b34, .slice Bv vs.length bv] :: SA.own (.slice B out.length b) 103 2 out.length (flatC Ty103.cells out) :: L) := stars_nv (at_ := at_) S1035.p5.p1
        exact hK9 _ _ _ (by first | omega | (simp; omega)) ⟨A1027, c1027, (out.take at_ ++ { fName := b34, fVersions_a := Bv, fVersions_c := bv, fVersions := vs } :: out.drop at_), i + 1, rfl, (F1034.kk 0 (F1034.kk 2 (F1034.kk 3 (F1034.kk 4 F1034.nil)))), S1036.p2.drop.p2.drop.p2.drop.p1, (by first | omega | (with_reducible assumption) | (simp; done)), (by first | omega | (with_reducible assumption) | (simp; done)), (by rw [len_ins hat]; omega), (mem_ins hok ⟨hp0_34, (by show vs.length ≤ 5; omega), hvp⟩), (rise_ins hri (rise_low0 (by have := of_decide_eq_false hc605; omega)) hgt)⟩
  ·have F1037 := F23.sb 14 (by kernel_rfl) hc24
   have F1038 := F1037.sb 15 (by kernel_rfl) hc24
   refine wp_cond_false (F1038.ev (by kernel_rfl)) ?_
   refine wp_exit ?_
   refine ex_then ?_; clear hK10 K10
   refine ex_then ?_
   refine ex_in ?_
   refine hK5 _ _ ?_; clear hK5 K5
   refine wp_seq_k fun K1039 hK1039 => ?_
   refine wp_region_lit ?_
   refine op_q F1038 (.slice B out.length b) ?_; intro a1040 F1040
   refine op_q F1040 (.slice B out.length b) ?_; intro a1041 F1041
   refine wpList_nil ?_
   refine hK1039 _ _ ?_; clear hK1039 K1039
   refine wp_ret ?_
   refine (F1041.res1 rfl (v := .slice B out.length b) (by kernel_rfl) ?_).1
   exact ⟨B, b, out, rfl, S9.p1.p1, (by first | (with_reducible assumption) | omega), (by first | (with_reducible assumption) | omega), (by first | (with_reducible assumption) | omega)⟩
 ·have F1042 := F16.sb 11 (by kernel_rfl) hc17
  have F1043 := F1042.sb 12 (by kernel_rfl) hc17
  refine op_kq F1043 ?_; intro a1044 F1044
  refine op_kq F1044 ?_; intro a1045 F1045
  refine op_q F1045 (.bool false) ?_; intro a1046 F1046
  refine wpList_nil ?_
  refine hK11 _ _ ?_; clear hK11 K11
  refine wp_cond_false (F1046.ev (by kernel_rfl)) ?_
  refine wp_exit ?_
  refine ex_then ?_; clear hK10 K10
  refine ex_then ?_
  refine ex_in ?_
  refine hK5 _ _ ?_; clear hK5 K5
  refine wp_seq_k fun K1047 hK1047 => ?_
  refine wp_region_lit ?_
  refine op_q F1046 (.slice B out.length b) ?_; intro a1048 F1048
  refine op_q F1048 (.slice B out.length b) ?_; intro a1049 F1049
  refine wpList_nil ?_
  refine hK1047 _ _ ?_; clear hK1047 K1047
  refine wp_ret ?_
  refine (F1049.res1 rfl (v := .slice B out.length b) (by kernel_rfl) ?_).1
  exact ⟨B, b, out, rfl, S9.p1.p1, (by first | (with_reducible assumption) | omega), (by first | (with_reducible assumption) | omega), (by first | (with_reducible assumption) | omega)⟩
end Go.Proofs.Ytkjcedlgljeoiaa

/- The walk of FnIndexGet. -/
namespace Go.Proofs.Ytkjcedlgljeoiaa
open Go.RowKit Go.Lib
set_option linter.unusedVariables false
set_option linter.unusedSimpArgs false
theorem Sp.nvAt {R : Ctx} {w : World} {L : List SA} {xs : List Ty103} (i : Nat) (S : Sp R w L) (hm : L[i]? = some (SA.stars (xs.map SA.nv))) (hok : ∀ x ∈ xs, NvOk x) : ∀ x ∈ xs, NamAt w x := fun x hx => by
  obtain ⟨L', S'⟩ := S.at i hm
  have S2 := Sp.stars.1 S'
  obtain ⟨j, hj⟩ := List.mem_iff_getElem?.1 (List.mem_append_left L' (List.mem_map.2 ⟨x, hx, rfl⟩ : SA.nv x ∈ xs.map SA.nv))
  obtain ⟨L2, S3⟩ := S2.at j hj
  have S4 := Sp.star.1 S3
  obtain ⟨_, h5, he⟩ := hok x hx
  exact ⟨own_rowsT1 (S4.ow 0 rfl) rfl (by decide) (fun x => x.len) (by omega), S4.uvAt 1 rfl fun e h => ixP_in (he e h)⟩
theorem nv_idx {xs : List Ty103} (h4 : xs.length ≤ 4) (hok : ∀ x ∈ xs, NvOk x) (hr : Rise xs) : IdxOk xs :=
  ⟨by omega, fun x hx => ⟨by have := (hok x hx).1.2.1; omega, by have := (hok x hx).2.1; omega, fun e he => in_ok (ixP_in ((hok x hx).2.2 e he))⟩, fun i j hi hj hij => List.pairwise_iff_getElem.1 hr i j hi hj hij⟩
theorem nv_plain {xs : List Ty103} (hok : ∀ x ∈ xs, NvOk x) : ∀ x ∈ xs, ∀ e ∈ x.fVersions, PlainE e := fun x hx e he => ixP_plain ((hok x hx).2.2 e he)
theorem idx_no {nm v : ByteArray} {xs : List Ty103} {y : Ty69} {has : Bool} {f : Int} (h : IdxR nm v xs y has f) (h2 : ∀ k, ∀ h : k < xs.length, xs[k].fName = nm → ∀ e ∈ xs[k].fVersions, gtst v e = false) : has = false ∧ f = 1 := by
  rcases h with ⟨h, h', _⟩ | ⟨_, _, k, hk, hn, j, hj, hg, _⟩
  · exact ⟨h, h'⟩
  · rw [h2 k hk hn _ (List.getElem_mem hj)] at hg; cases hg
theorem idx_yes {nm v : ByteArray} {xs : List Ty103} {y : Ty69} {has : Bool} {f : Int} (hx : IdxOk xs) (h : IdxR nm v xs y has f) {k : Nat} (hk : k < xs.length) (hn : xs[k].fName = nm) {j : Nat} (hj : j < xs[k].fVersions.length) (hg : gtst v xs[k].fVersions[j] = true) (hf : ∀ i, ∀ hi : i < xs[k].fVersions.length, i < j → gtst v xs[k].fVersions[i] = false) : has = true ∧ f = 0 ∧ entS y = entT xs[k].fVersions[j] := by
  rcases h with ⟨_, _, h⟩ | ⟨h, h', k', hk', hn', j', hj', hg', hf', he⟩
  · rw [h k hk hn _ (List.getElem_mem hj)] at hg; cases hg
  · obtain rfl := idx_one hx hk hk' (hn.trans hn'.symm)
    have : j = j' := by
      rcases Nat.lt_trichotomy j j' with c | c | c
      · rw [hf' j hj c] at hg; cases hg
      · exact c
      · rw [hf j' hj' c] at hg'; cases hg'
    subst this
    exact ⟨h, h', he⟩
theorem fits_nam {xs : List Ty103} (h : fits48 xs = true) : ∀ x ∈ xs, x.fName.size ≤ 2147483647 ∧ ∀ e ∈ x.fVersions, fits81 e = true := fun x hx => by
  simp only [fits48, Bool.and_eq_true, List.all_eq_true] at h
  have := h.2 x hx
  simp only [fits102, fits31, Bool.and_eq_true, decide_eq_true_eq, List.all_eq_true] at this
  exact ⟨by omega, this.2.2⟩
theorem indexGet_one (g gu : Nat) (R : Ctx) (L : List SA) (w : World) (S : Sp R w L) (h0 : Rf R L fun w => Blk w g 103 #[.string ⟨#[97]⟩, .slice (some ⟨gu, 0, none⟩) 1 1]) (h1 : Rf R L fun w => Blk w gu 69 #[.bool false, .bool false, .string ⟨#[97]⟩, .string ⟨#[]⟩, .string ⟨#[49, 46, 48, 46, 48]⟩, .string ⟨#[]⟩, .string ⟨#[]⟩, .string ⟨#[]⟩, .string ⟨#[]⟩, .string ⟨#[]⟩, .string ⟨#[]⟩, .string ⟨#[]⟩, .string ⟨#[]⟩, .slice none 0 0, .slice none 0 0, .slice none 0 0, .slice none 0 0, .slice none 0 0, .string ⟨#[]⟩]) :
  Calls Try.prog 52 #[.slice (some ⟨g, 0, none⟩) 1 1, .string ⟨#[97]⟩, .string ⟨#[49, 46, 48, 46, 48]⟩] w fun e w' => ∃ (y : Ty69) (f : Int), e = .returned (.tuple #[.agg #[.bool y.fNil, .bool y.fBare, .string y.fMeta.fName, .string y.fMeta.fHome, .string y.fMeta.fVersion, .string y.fMeta.fDescription, .string y.fMeta.fIcon, .string y.fMeta.fAPIVersion, .string y.fMeta.fCondition, .string y.fMeta.fTags, .string y.fMeta.fAppVersion, .string y.fMeta.fKubeVersion, .string y.fMeta.fType, .slice y.fMeta.fSources_a y.fMeta.fSources.length y.fMeta.fSources_c, .slice y.fMeta.fKeywords_a y.fMeta.fKeywords.length y.fMeta.fKeywords_c, .slice y.fMeta.fMaintainers_a y.fMeta.fMaintainers.length y.fMeta.fMaintainers_c, .slice y.fMeta.fDependencies_a y.fMeta.fDependencies.length y.fMeta.fDependencies_c, .slice y.fURLs_a y.fURLs.length y.fURLs_c, .string y.fDigest], .bool true, .int .i64 f]) ∧ Sp R w' (SA.ev y :: L) := by
 have hok : EntOk ({ fNil := false, fBare := false, fMeta := { fName := ⟨#[97]⟩, fVersion := ⟨#[49, 46, 48, 46, 48]⟩, fHome := ⟨#[]⟩, fDescription := ⟨#[]⟩, fIcon := ⟨#[]⟩, fAPIVersion := ⟨#[]⟩, fCondition := ⟨#[]⟩, fTags := ⟨#[]⟩, fAppVersion := ⟨#[]⟩, fKubeVersion := ⟨#[]⟩, fType := ⟨#[]⟩, fSources_a := none, fSources_c := 0, fSources := [], fKeywords_a := none, fKeywords_c := 0, fKeywords := [], fMaintainers_a := none, fMaintainers_c := 0, fMaintainers := [], fDependencies_a := none, fDependencies_c := 0, fDependencies := [] }, fURLs_a := none, fURLs_c := 0, fURLs := [], fDigest := ⟨#[]⟩ } : Ty69) := ⟨rfl, rfl, Nat.zero_le _, rfl, fun d hd => by cases hd⟩
 have hpl : PlainE ({ fNil := false, fBare := false, fMeta := { fName := ⟨#[97]⟩, fVersion := ⟨#[49, 46, 48, 46, 48]⟩, fHome := ⟨#[]⟩, fDescription := ⟨#[]⟩, fIcon := ⟨#[]⟩, fAPIVersion := ⟨#[]⟩, fCondition := ⟨#[]⟩, fTags := ⟨#[]⟩, fAppVersion := ⟨#[]⟩, fKubeVersion := ⟨#[]⟩, fType := ⟨#[]⟩, fSources_a := none, fSources_c := 0, fSources := [], fKeywords_a := none, fKeywords_c := 0, fKeywords := [], fMaintainers_a := none, fMaintainers_c := 0, fMaintainers := [], fDependencies_a := none, fDependencies_c := 0, fDependencies := [] }, fURLs_a := none, fURLs_c := 0, fURLs := [], fDigest := ⟨#[]⟩ } : Ty69) := ⟨by show (5 : Nat) ≤ 1000000; omega, show plainB ⟨#[49, 46, 48, 46, 48]⟩ = true by decide⟩
 refine (indexGet_sp ⟨#[97]⟩ ⟨#[49, 46, 48, 46, 48]⟩ (some ⟨g, 0, none⟩) 1 [({ fName := ⟨#[97]⟩, fVersions_a := some ⟨gu, 0, none⟩, fVersions_c := 1, fVersions := [({ fNil := false, fBare := false, fMeta := { fName := ⟨#[97]⟩, fVersion := ⟨#[49, 46, 48, 46, 48]⟩, fHome := ⟨#[]⟩, fDescription := ⟨#[]⟩, fIcon := ⟨#[]⟩, fAPIVersion := ⟨#[]⟩, fCondition := ⟨#[]⟩, fTags := ⟨#[]⟩, fAppVersion := ⟨#[]⟩, fKubeVersion := ⟨#[]⟩, fType := ⟨#[]⟩, fSources_a := none, fSources_c := 0, fSources := [], fKeywords_a := none, fKeywords_c := 0, fKeywords := [], fMaintainers_a := none, fMaintainers_c := 0, fMaintainers := [], fDependencies_a := none, fDependencies_c := 0, fDependencies := [] }, fURLs_a := none, fURLs_c := 0, fURLs := [], fDigest := ⟨#[]⟩ } : Ty69)] } : Ty103)] R L w S (fun w S => ?_) (fun w S x hx => ?_) ⟨by show (1 : Nat) ≤ 200; omega, fun x hx => ?_, fun i j hi hj hij => ?_⟩ (fun x hx e he => ?_) (by decide) (.inr (by decide)) (by decide)).mono ?_
 ·exact own_rowsT1 (n := 1) (c := 1) (e := 103) (own_of_blk (h0 w S) (Nat.zero_le _) rfl (by omega)) rfl (by decide) (fun x => x.len) (by omega)
 ·obtain rfl := List.mem_singleton.1 hx
  exact ⟨own_rowsT1 (n := 1) (c := 1) (e := 69) (own_of_blk (h1 w S) (Nat.zero_le _) rfl (by omega)) rfl (by decide) (fun x => x.len) (by omega), fun e he => by
   obtain rfl := List.mem_singleton.1 he
   exact ⟨Sl.nil, Sl.nil, Sl.nil, Rows.nil, Rows.nil, fun d hd => by cases hd⟩⟩
 ·obtain rfl := List.mem_singleton.1 hx
  exact ⟨by show (1 : Nat) ≤ 1000000; omega, by show (1 : Nat) ≤ 200; omega, fun e he => by obtain rfl := List.mem_singleton.1 he; exact hok⟩
 ·simp at hi hj; omega
 ·obtain rfl := List.mem_singleton.1 hx
  obtain rfl := List.mem_singleton.1 he
  exact hpl
 ·rintro e w' ⟨y, has, f, he, hS, hf⟩
  rcases hf with ⟨_, _, h⟩ | ⟨rfl, _, _⟩
  ·have := h 0 (by show 0 < 1; omega) rfl _ (List.mem_singleton.2 rfl)
   rw [gtst_eq (v := ⟨#[49, 46, 48, 46, 48]⟩) (x := ({ fNil := false, fBare := false, fMeta := { fName := ⟨#[97]⟩, fVersion := ⟨#[49, 46, 48, 46, 48]⟩, fHome := ⟨#[]⟩, fDescription := ⟨#[]⟩, fIcon := ⟨#[]⟩, fAPIVersion := ⟨#[]⟩, fCondition := ⟨#[]⟩, fTags := ⟨#[]⟩, fAppVersion := ⟨#[]⟩, fKubeVersion := ⟨#[]⟩, fType := ⟨#[]⟩, fSources_a := none, fSources_c := 0, fSources := [], fKeywords_a := none, fKeywords_c := 0, fKeywords := [], fMaintainers_a := none, fMaintainers_c := 0, fMaintainers := [], fDependencies_a := none, fDependencies_c := 0, fDependencies := [] }, fURLs_a := none, fURLs_c := 0, fURLs := [], fDigest := ⟨#[]⟩ } : Ty69)) (q := true) (by kernel_rfl) (beq_self_eq_true _)] at this; cases this
  ·exact ⟨y, f, he, hS⟩
set_option maxRecDepth 100000 in
set_option maxHeartbeats 20000000 in
theorem indexLaw_sp (A : Option Addr) (c : Nat) (xs : List Ty103) (n0 : ByteArray) (v0 : ByteArray) (q0 : Bool) (R : Ctx) (L : List SA) (w : World) (S : Sp R w (L)) (h0 : Rf R L fun w => Rows w (A) 2 (xs.map Ty103.cells)) (h1 : Rf R L fun w => Ty103.oks xs w)  :
  Calls Try.prog 11 #[.slice (A) (xs.length) (c), .string n0, .string v0, .bool q0] w fun e w' => e = .returned (.bool true) ∧ Sp R w' (L) := by
 have hl_xs : xs.length ≤ 9223372036854775807 := by have := (h0 _ S).1; simpa [strs, ptrs, pps] using this
 refine fw_enter (fn := Try.f11) rfl rfl 86 rfl (Nat.le_of_ble_eq_true rfl) ?_
 intro a0 F0
 refine wp_seq_k fun K1 hK1 => ?_
 refine wp_region_lit ?_
 refine op_q F0 (.bool false) ?_; intro a2 F2
 refine wpList_nil ?_
 refine hK1 _ _ ?_; clear hK1 K1
 refine wp_seq_k fun K3 hK3 => ?_
 refine wp_seq_k fun K4 hK4 => ?_
 refine wp_region_lit ?_
 refine op_q F2 (.slice (A) (xs.length) (c)) ?_; intro a5 F5
 refine op_cq F5 (f := 48) (args := #[.slice (A) (xs.length) (c)]) (fits48_any A c xs _ (h0 _ S) (h1 _ S)) ?_
 rintro _ w6 ⟨rfl, hb_6⟩
 refine ⟨_, rfl, ?_⟩
 intro a7 F7
 have S6 := S.below hb_6
 refine op_q F7 (.bool (!(fits48 xs))) ?_; intro a8 F8
 refine op_q F8 (.bool (!(fits48 xs))) ?_; intro a9 F9
 rcases btf (fits48 xs) with hc10 | hc10
 ·have hfx := fits_nam hc10
  have F11 := F9.sb 18 (by kernel_rfl) hc10
  have F12 := F11.sb 19 (by kernel_rfl) (show (!(fits48 xs)) = false by rw [hc10]; rfl)
  have F13 := F12.sb 20 (by kernel_rfl) (show (!(fits48 xs)) = false by rw [hc10]; rfl)
  refine op_wq F13 ?_
  refine op_q F13 (.string n0) ?_; intro a14 F14
  refine op_wq F14 ?_
  refine op_q F14 (.int .i64 (↑n0.size)) ?_; intro a15 F15
  refine op_wq F15 ?_
  refine op_q F15 (.bool (decide ((2147483647 : Int) < ↑n0.size))) ?_; intro a16 F16
  refine op_q F16 (.bool (decide ((2147483647 : Int) < ↑n0.size))) ?_; intro a17 F17
  refine op_q F17 (.bool (decide ((2147483647 : Int) < ↑n0.size))) ?_; intro a18 F18
  rcases btf (decide ((2147483647 : Int) < ↑n0.size)) with hc19 | hc19
  ·have hc19p := of_decide_eq_true hc19
   have F20 := F18.sb 23 (by kernel_rfl) hc19
   have F21 := F20.sb 24 (by kernel_rfl) hc19
   have F22 := F21.sb 25 (by kernel_rfl) hc19
   refine op_kq F22 ?_; intro a23 F23
   refine op_kq F23 ?_; intro a24 F24
   refine op_kq F24 ?_; intro a25 F25
   refine op_q F25 (.bool true) ?_; intro a26 F26
   refine wpList_nil ?_
   refine hK4 _ _ ?_; clear hK4 K4
   refine wp_cond_true (F26.ev (by kernel_rfl)) ?_
   refine wp_seq_k fun K27 hK27 => ?_
   refine wp_region_lit ?_
   refine op_q F26 (.bool true) ?_; intro a28 F28
   refine wpList_nil ?_
   refine hK27 _ _ ?_; clear hK27 K27
   refine wp_ret ?_
   refine ret_then ?_
   refine (F28.res1 rfl (v := .bool true) (by kernel_rfl) ?_).1
   exact ⟨rfl, S6⟩
  ·have hc19p := of_decide_eq_false hc19
   have F29 := F18.sb 23 (by kernel_rfl) hc19
   have F30 := F29.sb 24 (by kernel_rfl) hc19
   have F31 := F30.sb 25 (by kernel_rfl) hc19
   refine op_wq F31 ?_
   refine op_q F31 (.string v0) ?_; intro a32 F32
   refine op_wq F32 ?_
   refine op_q F32 (.int .i64 (↑v0.size)) ?_; intro a33 F33
   refine op_wq F33 ?_
   refine op_q F33 (.bool (decide ((2147483647 : Int) < ↑v0.size))) ?_; intro a34 F34
   refine op_q F34 (.bool (decide ((2147483647 : Int) < ↑v0.size))) ?_; intro a35 F35
   refine wpList_nil ?_
   refine hK4 _ _ ?_; clear hK4 K4
   rcases btf (decide ((2147483647 : Int) < ↑v0.size)) with hc36 | hc36
   ·have hc36p := of_decide_eq_true hc36
    have F37 := F35.sb 28 (by kernel_rfl) hc36
    have F38 := F37.sb 29 (by kernel_rfl) hc36
    refine wp_cond_true (F38.ev (by kernel_rfl)) ?_
    refine wp_seq_k fun K39 hK39 => ?_
    refine wp_region_lit ?_
    refine op_q F38 (.bool true) ?_; intro a40 F40
    refine wpList_nil ?_
    refine hK39 _ _ ?_; clear hK39 K39
    refine wp_ret ?_
    refine ret_then ?_
    refine (F40.res1 rfl (v := .bool true) (by kernel_rfl) ?_).1
    exact ⟨rfl, S6⟩
   ·have hc36p := of_decide_eq_false hc36
    have F41 := F35.sb 28 (by kernel_rfl) hc36
    have F42 := F41.sb 29 (by kernel_rfl) hc36
    refine wp_cond_false (F42.ev (by kernel_rfl)) ?_
    refine wp_skip ?_
    refine hK3 _ _ ?_; clear hK3 K3
    refine wp_seq_k fun K43 hK43 => ?_
    refine wp_region_lit ?_
    refine op_q F42 (.slice (A) (xs.length) (c)) ?_; intro a44 F44
    refine op_cq F44 (f := 49) (args := #[.slice (A) (xs.length) (c)]) (ixFit_sp A c xs _ _ _ S6 h0 h1 (by first | omega | (simp; done) | (simp; omega))) ?_
    rintro _ w45 ⟨B45, b45, out45, rfl, S45, hp0_45, hp1_45, hp2_45⟩
    refine ⟨_, rfl, ?_⟩
    intro a46 F46
    refine op_q F46 (.string n0) ?_; intro a47 F47
    refine op_cq F47 (f := 50) (args := #[.string n0]) (chWord_sp n0 _ _ _ S45 (by first | omega | (simp; done) | (simp; omega))) ?_
    rintro _ w48 ⟨b48, rfl, S48, hp0_48⟩
    refine ⟨_, rfl, ?_⟩
    intro a49 F49
    refine op_q F49 (.string v0) ?_; intro a50 F50
    refine op_cq F50 (f := 51) (args := #[.string v0]) (ixVersion_sp v0 _ _ _ S48 (by first | omega | (simp; done) | (simp; omega))) ?_
    rintro _ w51 ⟨v51, rfl, S51, hp0_51⟩
    refine ⟨_, rfl, ?_⟩
    intro a52 F52
    refine op_q F52 (.slice B45 out45.length b45) ?_; intro a53 F53
    refine op_q F53 (.string b48) ?_; intro a54 F54
    refine op_q F54 (.string v51) ?_; intro a55 F55
    refine wpList_nil ?_
    refine hK43 _ _ ?_; clear hK43 K43
    have hix := nv_idx hp0_45 hp1_45 hp2_45
    have hpl := nv_plain hp1_45
    have hbz := hp0_48.2.1
    have hvp8 : plainB v51 = true := by obtain ⟨n, hn⟩ := hp0_51; rw [hn]; exact ixv_plain n
    have hvs8 : v51.size ≤ 1000000 := by obtain ⟨n, hn⟩ := hp0_51; rw [hn]; show (5 : Nat) ≤ 1000000; omega
    refine fw_cut (fun a' w' => ∃ v : ByteArray, Fr 86 [] a' [(0, .slice B45 out45.length b45), (1, .string b48), (2, .string v), (8, .bool false)] ∧ Sp R w' (SA.own (.slice B45 out45.length b45) 103 2 out45.length (flatC Ty103.cells out45) :: SA.stars (out45.map SA.nv) :: L) ∧ ((v.toList == (⟨#[]⟩ : ByteArray).toList) = true ∨ plainB v = true) ∧ (v.size ≤ 1000000)) ?_ ?_
    ·intro K56 hK56
     refine wp_seq_k fun K57 hK57 => ?_
     refine wp_region_lit ?_
     refine op_q F55 (.bool q0) ?_; intro a58 F58
     refine wpList_nil ?_
     refine hK57 _ _ ?_; clear hK57 K57
     rcases btf (q0) with hc59 | hc59
     ·have F60 := F58.sb 3 (by kernel_rfl) hc59
      have F61 := F60.sb 36 (by kernel_rfl) hc59
      refine wp_cond_true (F61.ev (by kernel_rfl)) ?_
      refine wp_region_lit ?_
      refine op_q F61 (.string ⟨#[]⟩) ?_; intro a62 F62
      refine wpList_nil ?_
      exact hK56 _ _ ⟨⟨#[]⟩, (F62.kk 0 (F62.kk 1 (F62.kk 2 (F62.kk 8 F62.nil)))), S51.p1.p1, (.inl (beq_self_eq_true _)), (by decide)⟩
     ·have F63 := F58.sb 3 (by kernel_rfl) hc59
      have F64 := F63.sb 36 (by kernel_rfl) hc59
      refine wp_cond_false (F64.ev (by kernel_rfl)) ?_
      refine wp_skip ?_
      exact hK56 _ _ ⟨v51, (F64.kk 0 (F64.kk 1 (F64.kk 2 (F64.kk 8 F64.nil)))), S51.p1.p1, (.inr hvp8), hvs8⟩
    ·rintro a65 w65 ⟨v, F65, S65, hvp, hvs⟩
     refine wp_seq_k fun K66 hK66 => ?_
     refine wp_region_lit ?_
     refine op_q F65 (.slice B45 out45.length b45) ?_; intro a67 F67
     refine op_q F67 (.string b48) ?_; intro a68 F68
     refine op_q F68 (.string v) ?_; intro a69 F69
     refine op_cq F69 (f := 52) (args := #[.slice B45 out45.length b45, .string b48, .string v]) (indexGet_sp b48 v B45 b45 out45 _ _ _ S65 (fun w S => own_rowsT1 (S.ow 0 rfl) (by first | rfl | (simp; done) | omega) (by decide) (fun x => x.len) (by first | omega | (simp; omega))) (fun w S => S.nvAt 1 rfl hp1_45) hix hpl (by first | omega | (simp; done) | (simp; omega)) hvp (by first | omega | (simp; done) | (simp; omega))) ?_
     rintro _ w70 ⟨y70, has70, f70, rfl, S70, hp0_70⟩
     refine ⟨_, rfl, ?_⟩
     intro a71 F71
     refine op_q F71 (.tuple #[.agg (zq14 y70), .bool has70, .int .i64 f70]) ?_; intro a72 F72
     refine op_q F72 (.agg (zq14 y70)) ?_; intro a73 F73
     refine op_q F73 (.bool has70) ?_; intro a74 F74
     refine op_q F74 (.int .i64 f70) ?_; intro a75 F75
     refine op_sq F75 (s_newp F75 69 zq18 (by kernel_rfl) (by kernel_rfl) (by kernel_rfl) S70) ?_
     rintro _ _ w77 ⟨g75, rfl, rfl⟩ S77 a77 F77
     refine op_sq0 F77 (s_stb rfl (F77.e (.pointer (some ⟨g75, 0, none⟩))) (F77.e (.agg (zq14 y70))) S77 (by kernel_rfl) rfl (by kernel_rfl)) ?_
     rintro _ _ w78 rfl S78 F78
     refine op_q F78 (.bool has70) ?_; intro a79 F79
     refine op_q F79 (.int .i64 f70) ?_; intro a80 F80
     refine wpList_nil ?_
     refine hK66 _ _ ?_; clear hK66 K66
     refine wp_seq_k fun K81 hK81 => ?_
     refine wp_region_lit ?_
     refine op_q F80 (.slice B45 out45.length b45) ?_; intro a82 F82
     refine op_q F82 (.string b48) ?_; intro a83 F83
     refine op_q F83 (.string v) ?_; intro a84 F84
     refine op_cq F84 (f := 53) (args := #[.slice B45 out45.length b45, .string b48, .string v]) (ixGet_sp b48 v B45 b45 out45 _ _ _ S78 (fun w S => own_rowsT1 (S.ow 2 rfl) (by first | rfl | (simp; done) | omega) (by decide) (fun x => x.len) (by first | omega | (simp; omega))) (fun w S => S.nvAt 3 rfl hp1_45) hix hpl (by first | omega | (simp; done) | (simp; omega)) hvp) ?_
     rintro _ w85 ⟨y85, ok85, rfl, S85, hp0_85⟩
     refine ⟨_, rfl, ?_⟩
     intro a86 F86
     refine op_q F86 (.tuple #[.agg (zq14 y85), .bool ok85]) ?_; intro a87 F87
     refine op_q F87 (.agg (zq14 y85)) ?_; intro a88 F88
     refine op_q F88 (.bool ok85) ?_; intro a89 F89
     refine op_sq F89 (s_newp F89 69 zq18 (by kernel_rfl) (by kernel_rfl) (by kernel_rfl) S85) ?_
     rintro _ _ w91 ⟨g89, rfl, rfl⟩ S91 a91 F91
     refine op_sq0 F91 (s_stb rfl (F91.e (.pointer (some ⟨g89, 0, none⟩))) (F91.e (.agg (zq14 y85))) S91 (by kernel_rfl) rfl (by kernel_rfl)) ?_
     rintro _ _ w92 rfl S92 F92
     refine op_q F92 (.bool ok85) ?_; intro a93 F93
     refine wpList_nil ?_
     refine hK81 _ _ ?_; clear hK81 K81
     refine wp_seq_k fun K94 hK94 => ?_
     refine wp_region_lit ?_
     refine op_q F93 (.agg #[.string ⟨#[97]⟩, .string ⟨#[]⟩, .string ⟨#[49, 46, 48, 46, 48]⟩, .string ⟨#[]⟩, .string ⟨#[]⟩, .string ⟨#[]⟩, .string ⟨#[]⟩, .string ⟨#[]⟩, .string ⟨#[]⟩, .string ⟨#[]⟩, .string ⟨#[]⟩, .slice none 0 0, .slice none 0 0, .slice none 0 0, .slice none 0 0]) ?_; intro a95 F95
     refine op_q F95 (.agg #[.bool false, .bool false, .string ⟨#[97]⟩, .string ⟨#[]⟩, .string ⟨#[49, 46, 48, 46, 48]⟩, .string ⟨#[]⟩, .string ⟨#[]⟩, .string ⟨#[]⟩, .string ⟨#[]⟩, .string ⟨#[]⟩, .string ⟨#[]⟩, .string ⟨#[]⟩, .string ⟨#[]⟩, .slice none 0 0, .slice none 0 0, .slice none 0 0, .slice none 0 0, .slice none 0 0, .string ⟨#[]⟩]) ?_; intro a96 F96
     refine op_sq F96 (s_news F96 69 #[.bool false, .bool false, .string ⟨#[97]⟩, .string ⟨#[]⟩, .string ⟨#[49, 46, 48, 46, 48]⟩, .string ⟨#[]⟩, .string ⟨#[]⟩, .string ⟨#[]⟩, .string ⟨#[]⟩, .string ⟨#[]⟩, .string ⟨#[]⟩, .string ⟨#[]⟩, .string ⟨#[]⟩, .slice none 0 0, .slice none 0 0, .slice none 0 0, .slice none 0 0, .slice none 0 0, .string ⟨#[]⟩] 1 (by kernel_rfl) (by kernel_rfl) (by kernel_rfl) S92) ?_
     rintro _ _ w98 ⟨g96, rfl, rfl⟩ S98 a98 F98
     refine op_q F98 (.agg #[.string ⟨#[97]⟩, .slice (some ⟨g96, 0, none⟩) 1 1]) ?_; intro a99 F99
     refine op_sq F99 (s_news F99 103 #[.string ⟨#[97]⟩, .slice (some ⟨g96, 0, none⟩) 1 1] 1 (by kernel_rfl) (by kernel_rfl) (by kernel_rfl) S98) ?_
     rintro _ _ w101 ⟨g99, rfl, rfl⟩ S101 a101 F101
     refine op_cq F101 (f := 52) (args := #[.slice (some ⟨g99, 0, none⟩) 1 1, .string ⟨#[97]⟩, .string ⟨#[49, 46, 48, 46, 48]⟩]) (indexGet_one g99 g96 _ _ _ S101 (fun w S => S.bk 0 rfl) (fun w S => S.bk 1 rfl)) ?_
     rintro _ w102 ⟨y102, f102, rfl, S102⟩
     refine ⟨_, rfl, ?_⟩
     intro a103 F103
     refine op_q F103 (.tuple #[.agg (zq14 y102), .bool true, .int .i64 f102]) ?_; intro a104 F104
     refine op_q F104 (.agg (zq14 y102)) ?_; intro a105 F105
     refine op_q F105 (.bool true) ?_; intro a106 F106
     refine op_q F106 (.int .i64 f102) ?_; intro a107 F107
     refine op_sq F107 (s_newp F107 69 zq18 (by kernel_rfl) (by kernel_rfl) (by kernel_rfl) S102) ?_
     rintro _ _ w109 ⟨g107, rfl, rfl⟩ S109 a109 F109
     refine op_sq0 F109 (s_stb rfl (F109.e (.pointer (some ⟨g107, 0, none⟩))) (F109.e (.agg (zq14 y102))) S109 (by kernel_rfl) rfl (by kernel_rfl)) ?_
     rintro _ _ w110 rfl S110 F110
     refine op_q F110 (.bool true) ?_; intro a111 F111
     refine op_q F111 (.int .i64 f102) ?_; intro a112 F112
     refine wpList_nil ?_
     refine hK94 _ _ ?_; clear hK94 K94
     refine wp_seq_k fun K113 hK113 => ?_
     refine wp_seq_k fun K114 hK114 => ?_
     rcases hp0_85 with ⟨hok0, hall⟩ | ⟨hok0, k, hlt_k, hnk, j, hlt_j, hvt, hvn, hyx⟩
     ·subst hok0
      obtain ⟨hh0, hf0⟩ := idx_no hp0_70 hall
      subst hh0 hf0
      refine wp_region_lit ?_
      refine op_q F112 (.bool false) ?_; intro a115 F115
      refine op_q F115 (.bool true) ?_; intro a116 F116
      refine wpList_nil ?_
      refine hK114 _ _ ?_; clear hK114 K114
      refine wp_cond_true (F116.ev (by kernel_rfl)) ?_
      refine wp_seq_k fun K117 hK117 => ?_
      refine wp_region_lit ?_
      refine op_q F116 (.int .i64 1) ?_; intro a118 F118
      refine op_q F118 (.bool true) ?_; intro a119 F119
      refine op_q F119 (.bool true) ?_; intro a120 F120
      refine op_wq F120 ?_
      refine op_q F120 (.bool false) ?_; intro a121 F121
      refine op_wq F121 ?_
      refine op_q F121 (.bool true) ?_; intro a122 F122
      refine op_q F122 (.bool true) ?_; intro a123 F123
      refine op_q F123 (.bool true) ?_; intro a124 F124
      refine op_wq F124 ?_
      refine op_q F124 (.bool true) ?_; intro a125 F125
      refine op_q F125 (.bool true) ?_; intro a126 F126
      refine op_q F126 (.bool true) ?_; intro a127 F127
      refine wpList_nil ?_
      refine hK117 _ _ ?_; clear hK117 K117
      refine wp_ret ?_
      refine ret_then ?_
      refine (F127.res1 rfl (v := .bool true) (by kernel_rfl) ?_).1
      exact ⟨rfl, S110.drop.drop.drop.drop.drop.drop.drop.drop.drop⟩
     ·subst hok0
      obtain ⟨hh0, hf0, hee⟩ := idx_yes hix hp0_70 hlt_k hnk hlt_j hvt hvn
      subst hh0 hf0
      have hxin := ixP_in ((hp1_45 _ (List.getElem_mem hlt_k)).2.2 _ (List.getElem_mem hlt_j))
      rw [entT_in hxin] at hee
      subst hyx
      refine wp_region_lit ?_
      refine op_q F112 (.bool true) ?_; intro a128 F128
      refine op_q F128 (.bool false) ?_; intro a129 F129
      refine wpList_nil ?_
      refine hK114 _ _ ?_; clear hK114 K114
      refine wp_cond_false (F129.ev (by kernel_rfl)) ?_
      refine wp_skip ?_
      refine hK113 _ _ ?_; clear hK113 K113
      refine wp_seq_k fun K130 hK130 => ?_
      refine wp_region_lit ?_
      refine op_q F129 (.int .i64 0) ?_; intro a131 F131
      refine op_q F131 (.bool true) ?_; intro a132 F132
      refine op_q F132 (.bool true) ?_; intro a133 F133
      refine op_wq F133 ?_
      refine op_q F133 (.bool true) ?_; intro a134 F134
      refine op_q F134 (.bool true) ?_; intro a135 F135
      refine op_q F135 (.bool true) ?_; intro a136 F136
      refine op_wq F136 ?_
      refine op_rq (v := .agg (zq14 y70)) F136 (r_ldm rfl (F136.e (.pointer (some ⟨g75, 0, none⟩))) (S110.bk 5 rfl) 19 (by kernel_rfl) Try.underlying69 rfl (by kernel_rfl) (v := (zq14 y70)) (by kernel_rfl)) ?_; intro a137 F137
      refine op_wq F137 ?_
      refine op_rq (v := .agg #[.bool (out45[k].fVersions[j].fNil), .bool (out45[k].fVersions[j].fBare), .string (out45[k].fVersions[j].fMeta.fName), .string (out45[k].fVersions[j].fMeta.fHome), .string (out45[k].fVersions[j].fMeta.fVersion), .string (out45[k].fVersions[j].fMeta.fDescription), .string (out45[k].fVersions[j].fMeta.fIcon), .string (out45[k].fVersions[j].fMeta.fAPIVersion), .string (out45[k].fVersions[j].fMeta.fCondition), .string (out45[k].fVersions[j].fMeta.fTags), .string (out45[k].fVersions[j].fMeta.fAppVersion), .string (out45[k].fVersions[j].fMeta.fKubeVersion), .string (out45[k].fVersions[j].fMeta.fType), .slice out45[k].fVersions[j].fMeta.fSources_a out45[k].fVersions[j].fMeta.fSources.length out45[k].fVersions[j].fMeta.fSources_c, .slice out45[k].fVersions[j].fMeta.fKeywords_a out45[k].fVersions[j].fMeta.fKeywords.length out45[k].fVersions[j].fMeta.fKeywords_c, .slice out45[k].fVersions[j].fMeta.fMaintainers_a out45[k].fVersions[j].fMeta.fMaintainers.length out45[k].fVersions[j].fMeta.fMaintainers_c, .slice out45[k].fVersions[j].fMeta.fDependencies_a out45[k].fVersions[j].fMeta.fDependencies.length out45[k].fVersions[j].fMeta.fDependencies_c, .slice out45[k].fVersions[j].fURLs_a out45[k].fVersions[j].fURLs.length out45[k].fVersions[j].fURLs_c, .string (out45[k].fVersions[j].fDigest)]) F137 (r_ldm rfl (F137.e (.pointer (some ⟨g89, 0, none⟩))) (S110.bk 4 rfl) 19 (by kernel_rfl) Try.underlying69 rfl (by kernel_rfl) (v := #[.bool (out45[k].fVersions[j].fNil), .bool (out45[k].fVersions[j].fBare), .string (out45[k].fVersions[j].fMeta.fName), .string (out45[k].fVersions[j].fMeta.fHome), .string (out45[k].fVersions[j].fMeta.fVersion), .string (out45[k].fVersions[j].fMeta.fDescription), .string (out45[k].fVersions[j].fMeta.fIcon), .string (out45[k].fVersions[j].fMeta.fAPIVersion), .string (out45[k].fVersions[j].fMeta.fCondition), .string (out45[k].fVersions[j].fMeta.fTags), .string (out45[k].fVersions[j].fMeta.fAppVersion), .string (out45[k].fVersions[j].fMeta.fKubeVersion), .string (out45[k].fVersions[j].fMeta.fType), .slice out45[k].fVersions[j].fMeta.fSources_a out45[k].fVersions[j].fMeta.fSources.length out45[k].fVersions[j].fMeta.fSources_c, .slice out45[k].fVersions[j].fMeta.fKeywords_a out45[k].fVersions[j].fMeta.fKeywords.length out45[k].fVersions[j].fMeta.fKeywords_c, .slice out45[k].fVersions[j].fMeta.fMaintainers_a out45[k].fVersions[j].fMeta.fMaintainers.length out45[k].fVersions[j].fMeta.fMaintainers_c, .slice out45[k].fVersions[j].fMeta.fDependencies_a out45[k].fVersions[j].fMeta.fDependencies.length out45[k].fVersions[j].fMeta.fDependencies_c, .slice out45[k].fVersions[j].fURLs_a out45[k].fVersions[j].fURLs.length out45[k].fVersions[j].fURLs_c, .string (out45[k].fVersions[j].fDigest)]) (by kernel_rfl)) ?_; intro a138 F138
      refine op_wq F138 ?_
      refine op_cq F138 (f := 36) (args := #[.agg (zq14 y70), .agg #[.bool (out45[k].fVersions[j].fNil), .bool (out45[k].fVersions[j].fBare), .string (out45[k].fVersions[j].fMeta.fName), .string (out45[k].fVersions[j].fMeta.fHome), .string (out45[k].fVersions[j].fMeta.fVersion), .string (out45[k].fVersions[j].fMeta.fDescription), .string (out45[k].fVersions[j].fMeta.fIcon), .string (out45[k].fVersions[j].fMeta.fAPIVersion), .string (out45[k].fVersions[j].fMeta.fCondition), .string (out45[k].fVersions[j].fMeta.fTags), .string (out45[k].fVersions[j].fMeta.fAppVersion), .string (out45[k].fVersions[j].fMeta.fKubeVersion), .string (out45[k].fVersions[j].fMeta.fType), .slice out45[k].fVersions[j].fMeta.fSources_a out45[k].fVersions[j].fMeta.fSources.length out45[k].fVersions[j].fMeta.fSources_c, .slice out45[k].fVersions[j].fMeta.fKeywords_a out45[k].fVersions[j].fMeta.fKeywords.length out45[k].fVersions[j].fMeta.fKeywords_c, .slice out45[k].fVersions[j].fMeta.fMaintainers_a out45[k].fVersions[j].fMeta.fMaintainers.length out45[k].fVersions[j].fMeta.fMaintainers_c, .slice out45[k].fVersions[j].fMeta.fDependencies_a out45[k].fVersions[j].fMeta.fDependencies.length out45[k].fVersions[j].fMeta.fDependencies_c, .slice out45[k].fVersions[j].fURLs_a out45[k].fVersions[j].fURLs.length out45[k].fVersions[j].fURLs_c, .string (out45[k].fVersions[j].fDigest)]]) (sameEnt_yes y70 (out45[k].fVersions[j]) _ _ _ S110 (fun w S => (Sp.evAt 6 S rfl hee hxin).1) (fun w S => ((S.nvAt 8 rfl hp1_45 _ (List.getElem_mem hlt_k)).2 _ (List.getElem_mem hlt_j)).1) (fun w S => (Sp.evAt 6 S rfl hee hxin).2) (fun w S => ((S.nvAt 8 rfl hp1_45 _ (List.getElem_mem hlt_k)).2 _ (List.getElem_mem hlt_j)).2) (by with_reducible assumption)) ?_
      rintro _ w139 ⟨rfl, S139⟩
      refine ⟨_, rfl, ?_⟩
      intro a140 F140
      refine op_q F140 (.bool true) ?_; intro a141 F141
      refine op_q F141 (.bool true) ?_; intro a142 F142
      refine op_wq F142 ?_
      refine op_q F142 (.bool true) ?_; intro a143 F143
      refine op_q F143 (.bool true) ?_; intro a144 F144
      refine op_q F144 (.bool true) ?_; intro a145 F145
      refine wpList_nil ?_
      refine hK130 _ _ ?_; clear hK130 K130
      refine wp_ret ?_
      refine (F145.res1 rfl (v := .bool true) (by kernel_rfl) ?_).1
      exact ⟨rfl, S139.drop.drop.drop.drop.drop.drop.drop.drop.drop⟩
 ·have F146 := F9.sb 18 (by kernel_rfl) hc10
  have F147 := F146.sb 19 (by kernel_rfl) (show (!(fits48 xs)) = true by rw [hc10]; rfl)
  have F148 := F147.sb 20 (by kernel_rfl) (show (!(fits48 xs)) = true by rw [hc10]; rfl)
  refine op_kq F148 ?_; intro a149 F149
  refine op_kq F149 ?_; intro a150 F150
  refine op_kq F150 ?_; intro a151 F151
  refine op_q F151 (.bool true) ?_; intro a152 F152
  refine op_q F152 (.bool true) ?_; intro a153 F153
  refine op_kq F153 ?_; intro a154 F154
  refine op_kq F154 ?_; intro a155 F155
  refine op_kq F155 ?_; intro a156 F156
  refine op_q F156 (.bool true) ?_; intro a157 F157
  refine wpList_nil ?_
  refine hK4 _ _ ?_; clear hK4 K4
  refine wp_cond_true (F157.ev (by kernel_rfl)) ?_
  refine wp_seq_k fun K158 hK158 => ?_
  refine wp_region_lit ?_
  refine op_q F157 (.bool true) ?_; intro a159 F159
  refine wpList_nil ?_
  refine hK158 _ _ ?_; clear hK158 K158
  refine wp_ret ?_
  refine ret_then ?_
  refine (F159.res1 rfl (v := .bool true) (by kernel_rfl) ?_).1
  exact ⟨rfl, S6⟩
theorem fnIndexGet_walk (A : Option Addr) (c : Nat) (xs : List Ty103) (n0 : ByteArray) (v0 : ByteArray) (q0 : Bool) (w : World) (y0 : Rows w A 2 (xs.map Ty103.cells)) (_z0 : xs.length ≤ c) (u0 : ∀ x ∈ xs, x.ok w) (_y1 : n0.size ≤ maxLen) (_y2 : v0.size ≤ maxLen) : Calls Try.prog 11 #[.slice A xs.length c, .string n0, .string v0, .bool q0] w fun e w' => e = .returned (.bool true) ∧ Below w.heap.size w w' := by
  exact (indexLaw_sp A c xs n0 v0 q0 _ [] w (Sp.start w) (Rf.of fun _ hb => y0.below hb) (Rf.of fun _ hb => Ty103.oks.below u0 hb)).mono fun _ _ ⟨he, hS⟩ => ⟨he, Sp.below_of hS⟩
end Go.Proofs.Ytkjcedlgljeoiaa

