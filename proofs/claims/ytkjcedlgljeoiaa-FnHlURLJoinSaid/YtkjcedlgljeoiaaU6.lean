/- impl.URLJoin, spec.HlURL and the walk of FnHlURLJoin. -/
import Derived.Test.YtkjcedlgljeoiaaUj
import Derived.Test.YtkjcedlgljeoiaaU4
import Derived.Test.YtkjcedlgljeoiaaFz
import Derived.Test.YtkjcedlgljeoiaaOk
import Derived.Test.YtkjcedlgljeoiaaQ1
namespace Go.Proofs.Ytkjcedlgljeoiaa
open Go.RowKit Go.Lib
set_option linter.unusedVariables false
set_option linter.unusedSimpArgs false
theorem catch78 (x0 x1 : Nat) (w : World) :
    CallsD Try.prog 78 #[.pointer (some ⟨x0, 0, none⟩), .pointer (some ⟨x1, 0, none⟩)] .returning w fun e u' w' => e = .returned (.tuple #[]) ∧ u' = .returning ∧ w' = w := by
  refine callsD_of_wpS Try.func78 rfl fun c₀ cs hu => ?_
  apply wpS_seq
  apply wpS_region
  simp [wpOpsS, go_sem, recoverD, hu, Try.ntmps78, Exit.thenS]
  refine wpS_cond (t := false) (by simp [Act.eval, Array.replicate]) ?_
  simp only [Bool.false_eq_true, if_false]
  refine wpS_of_wp (wp_skip ?_)
  cases c₀
  simp_all [bodyPostS, results, Try.results78]
set_option maxRecDepth 100000 in
set_option maxHeartbeats 20000000 in
theorem implURLJoin_any (raw : ByteArray) (path : ByteArray) (pre : ByteArray) (B : Option Addr) (d : Nat) (more : List ByteArray) (R : Ctx) (L : List SA) (w : World) (S : Sp R w (L)) (h0 : Rf R L fun w => Sl w (B) (strs more)) (hu : UJ pre path raw) (hraw : raw.size ≤ 1000) (hw : ∀ x ∈ [path] ++ more, (x.toList == (⟨#[]⟩ : ByteArray).toList) = true ∨ wordB x ⟨#[47, 46, 95, 45]⟩ = true) (hxs : ∀ x ∈ [path] ++ more, x.size ≤ 300) (hm : more.length ≤ 20) :
    Calls Try.prog 29 #[.string raw, .slice (B) (more.length) (d)] w fun e w' => e = .returned (.tuple #[.string (slashP pre (joinP ([path] ++ more))), .int .i64 0]) ∧ Sp R w' (L) := by
  have hl_more : more.length ≤ 9223372036854775807 := by have := (h0 _ S).1; simpa [strs, ptrs] using this
  refine fw_enterD (fn := Try.f29) rfl rfl 18 rfl (Nat.le_of_ble_eq_true rfl) ?_
  intro a0 F0
  refine wp_seq_k fun K1 hK1 => ?_
  refine wp_region_lit ?_
  refine op_s F0 (s_newp F0 9 #[.string ⟨#[]⟩] (by kernel_rfl) (by kernel_rfl) (by kernel_rfl) S) rfl rfl rfl ?_
  rintro _ _ w3 ⟨g1, rfl, rfl⟩ S3 a3 F3
  refine op_s F3 (s_newp F3 3 #[.int .i64 0] (by kernel_rfl) (by kernel_rfl) (by kernel_rfl) S3) rfl rfl rfl ?_
  rintro _ _ w5 ⟨g3, rfl, rfl⟩ S5 a5 F5
  refine wpList_nil ?_
  refine hK1 _ _ ?_; clear hK1 K1
  refine wp_seq_k fun K6 hK6 => ?_
  refine wp_region_lit ?_
  refine op_p F5 (.func (.func 78) #[] #[.pointer (some ⟨g1, 0, none⟩), .pointer (some ⟨g3, 0, none⟩)]) (by kernel_rfl) rfl rfl rfl (by kernel_rfl) rfl ?_; intro a7 F7
  refine op_defer F7 ({ target := .fn (.func 78) #[.pointer (some ⟨g1, 0, none⟩), .pointer (some ⟨g3, 0, none⟩)], args := #[] }) (by kernel_rfl) (by kernel_rfl) rfl rfl rfl ?_; intro a8 F8
  refine wpList_nil ?_
  refine hK6 _ _ ?_; clear hK6 K6
  refine wp_seq_k fun K9 hK9 => ?_
  refine wp_region_lit ?_
  refine op_p F8 (.string raw) (by kernel_rfl) rfl rfl rfl (by kernel_rfl) rfl ?_; intro a10 F10
  refine op_p F10 (.slice (B) (more.length) (d)) (by kernel_rfl) rfl rfl rfl (by kernel_rfl) rfl ?_; intro a11 F11
  refine op_c F11 (f := 79) (args := #[.string raw, .slice (B) (more.length) (d)]) (by kernel_rfl) (by kernel_rfl) rfl (urlJoin_any raw path pre B d more _ _ _ S5 (fun w S => h0 w S.drop.drop) hu (by first | omega | (simp; done) | (simp; omega)) (by with_reducible assumption) (by first | omega | (simp; done) | (simp; omega)) (by first | omega | (simp; done) | (simp; omega))) rfl rfl rfl ?_
  rintro _ w12 ⟨rfl, S12⟩
  refine ⟨_, rfl, ?_⟩
  intro a13 F13
  refine op_p F13 (.tuple #[.string (slashP pre (joinP ([path] ++ more))), .nilIface]) (by kernel_rfl) rfl rfl rfl (by kernel_rfl) rfl ?_; intro a14 F14
  refine op_p F14 (.string (slashP pre (joinP ([path] ++ more)))) (by kernel_rfl) rfl rfl rfl (by kernel_rfl) rfl ?_; intro a15 F15
  refine op_p F15 (.nilIface) (by kernel_rfl) rfl rfl rfl (by kernel_rfl) rfl ?_; intro a16 F16
  refine op_p F16 (.string (slashP pre (joinP ([path] ++ more)))) (by kernel_rfl) rfl rfl rfl (by kernel_rfl) rfl ?_; intro a17 F17
  refine op_p F17 (.nilIface) (by kernel_rfl) rfl rfl rfl (by kernel_rfl) rfl ?_; intro a18 F18
  refine wpList_nil ?_
  refine hK9 _ _ ?_; clear hK9 K9
  refine wp_seq_k fun K19 hK19 => ?_
  refine wp_seq_k fun K20 hK20 => ?_
  refine wp_region_lit ?_
  refine op_p F18 (.nilIface) (by kernel_rfl) rfl rfl rfl (by kernel_rfl) rfl ?_; intro a21 F21
  refine op_p F21 (.bool false) (by kernel_rfl) rfl rfl rfl (by kernel_rfl) rfl ?_; intro a22 F22
  refine wpList_nil ?_
  refine hK20 _ _ ?_; clear hK20 K20
  refine wp_cond_false (F22.ev (by kernel_rfl)) ?_
  refine wp_skip ?_
  refine hK19 _ _ ?_; clear hK19 K19
  refine wp_seq_k fun K23 hK23 => ?_
  refine wp_region_lit ?_
  refine op_p F22 (.string (slashP pre (joinP ([path] ++ more)))) (by kernel_rfl) rfl rfl rfl (by kernel_rfl) rfl ?_; intro a24 F24
  refine op_s0 F24 (s_st rfl (F24.ev (v := .pointer (some ⟨g1, 0, none⟩)) (by kernel_rfl)) (F24.ev (v := .string (slashP pre (joinP ([path] ++ more)))) (by kernel_rfl)) S12.p1 (by kernel_rfl) rfl rfl rfl (cs := #[.string (slashP pre (joinP ([path] ++ more)))]) (by kernel_rfl)) rfl rfl ?_
  rintro _ _ w25 rfl S25 F25
  refine op_s0 F25 (s_st rfl (F25.ev (v := .pointer (some ⟨g3, 0, none⟩)) (by kernel_rfl)) (F25.ev (v := .int .i64 0) (by kernel_rfl)) S25.p1 (by kernel_rfl) rfl rfl rfl (cs := #[.int .i64 0]) (by kernel_rfl)) rfl rfl ?_
  rintro _ _ w26 rfl S26 F26
  refine wpList_nil ?_
  refine hK23 _ _ ?_; clear hK23 K23
  refine wp_ret ?_
  refine (F26.leaveD (f := 78) (args := #[.pointer (some ⟨g1, 0, none⟩), .pointer (some ⟨g3, 0, none⟩)]) (by simp [go_sem]) (catch78 g1 g3 _) (results2 Try.results29 (F26.rvc (p := ⟨g1, 0, none⟩) (by kernel_rfl) (load_one _ _ _ (.string (slashP pre (joinP ([path] ++ more)))) ((S26.bk 1 rfl).cell 0) _ Try.underlying9 rfl)) (F26.rvc (p := ⟨g3, 0, none⟩) (by kernel_rfl) (load_one _ _ _ (.int .i64 0) ((S26.bk 0 rfl).cell 0) _ Try.underlying3 rfl))) ?_).1
  exact ⟨rfl, S26.drop.drop⟩
set_option maxRecDepth 100000 in
set_option maxHeartbeats 20000000 in
theorem hlURL_any (pre : ByteArray) (path : ByteArray) (B : Option Addr) (d : Nat) (more : List ByteArray) (R : Ctx) (L : List SA) (w : World) (S : Sp R w (L)) (h0 : Rf R L fun w => Sl w (B) (strs more)) (hpz : pre.size ≤ 1000) (hxs : ∀ x ∈ [path] ++ more, x.size ≤ 300) (hm : more.length ≤ 20) :
    Calls Try.prog 30 #[.string pre, .string path, .slice (B) (more.length) (d)] w fun e w' => e = .returned (.string (slashP pre (joinP ([path] ++ more)))) ∧ Sp R w' (L) := by
  have hl_more : more.length ≤ 9223372036854775807 := by have := (h0 _ S).1; simpa [strs, ptrs] using this
  refine fw_enter (fn := Try.f30) rfl rfl 29 rfl (Nat.le_of_ble_eq_true rfl) ?_
  intro a0 F0
  refine wp_seq_k fun K1 hK1 => ?_
  refine wp_region_lit ?_
  refine op_p F0 (.string ⟨#[]⟩) (by kernel_rfl) rfl rfl rfl (by kernel_rfl) rfl ?_; intro a2 F2
  refine wpList_nil ?_
  refine hK1 _ _ ?_; clear hK1 K1
  refine wp_seq_k fun K3 hK3 => ?_
  refine wp_region_lit ?_
  refine op_p F2 (.string path) (by kernel_rfl) rfl rfl rfl (by kernel_rfl) rfl ?_; intro a4 F4
  refine op_s F4 (s_news F4 9 #[.string path] 1 (by kernel_rfl) (by kernel_rfl) (by kernel_rfl) S) rfl rfl rfl ?_
  rintro _ _ w6 ⟨g4, rfl, rfl⟩ S6 a6 F6
  refine op_p F6 (.slice (B) (more.length) (d)) (by kernel_rfl) rfl rfl rfl (by kernel_rfl) rfl ?_; intro a7 F7
  refine op_s F7 (s_app rfl Try.underlying22 1 _ tin9 rfl rfl (F7.ev (v := .slice (some ⟨g4, 0, none⟩) 1 1) (by kernel_rfl)) (Sp.ofblk (sz := 1) (m := 1) (l := [Value.string path]) S6 rfl (by omega) rfl) (strs more) (F7.ev (v := .slice (B) (more.length) (d)) (by kernel_rfl)) (h0 _ S6.drop) (by first | (simp [strs, ptrs]; done) | (simp [strs, ptrs]; omega)) (by intro u hu; obtain ⟨x, _, rfl⟩ := List.mem_map.1 hu; rfl) (by omega) (by omega) (n' := ([path] ++ more).length) (by first | (simp; done) | (simp; omega)) (cs' := strs ([path] ++ more)) (by simp [strs])) rfl rfl rfl ?_
  rintro _ _ w9 ⟨A8, c8, rfl, rfl⟩ S9 a9 F9
  refine op_c F9 (f := 80) (args := #[.slice A8 (([path] ++ more).length) c8]) (by kernel_rfl) (by kernel_rfl) rfl (hlJoin_any A8 c8 ([path] ++ more) _ _ _ S9 (fun w S => own_sl1 (S.ow 0 rfl) (by first | omega | (simp; omega))) (by simp; omega) (by first | omega | (simp; done) | (simp; omega))) rfl rfl rfl ?_
  rintro _ w10 ⟨rfl, S10⟩
  refine ⟨_, rfl, ?_⟩
  intro a11 F11
  refine op_p F11 (.string (joinP ([path] ++ more))) (by kernel_rfl) rfl rfl rfl (by kernel_rfl) rfl ?_; intro a12 F12
  refine wpList_nil ?_
  refine hK3 _ _ ?_; clear hK3 K3
  refine wp_seq_k fun K13 hK13 => ?_
  refine wp_seq_k fun K14 hK14 => ?_
  refine wp_region_lit ?_
  refine op_p F12 (.string pre) (by kernel_rfl) rfl rfl rfl (by kernel_rfl) rfl ?_; intro a15 F15
  refine op_p F15 (.bool (!(pre.toList == (⟨#[]⟩ : ByteArray).toList))) (by kernel_rfl) rfl rfl rfl (by kernel_rfl) rfl ?_; intro a16 F16
  refine op_p F16 (.bool (!(pre.toList == (⟨#[]⟩ : ByteArray).toList))) (by kernel_rfl) rfl rfl rfl (by kernel_rfl) rfl ?_; intro a17 F17
  rcases btf (pre.toList == (⟨#[]⟩ : ByteArray).toList) with hc18 | hc18
  · have F19 := F17.sb 14 (by kernel_rfl) (show (!(pre.toList == (⟨#[]⟩ : ByteArray).toList)) = false by rw [hc18]; rfl)
    have F20 := F19.sb 15 (by kernel_rfl) (show (!(pre.toList == (⟨#[]⟩ : ByteArray).toList)) = false by rw [hc18]; rfl)
    refine op_skip F20 (by kernel_rfl) rfl rfl rfl ?_; intro a21 F21
    refine op_skip F21 (by kernel_rfl) rfl rfl rfl ?_; intro a22 F22
    refine op_p F22 (.bool false) (by kernel_rfl) rfl rfl rfl (by kernel_rfl) rfl ?_; intro a23 F23
    refine op_p F23 (.bool false) (by kernel_rfl) rfl rfl rfl (by kernel_rfl) rfl ?_; intro a24 F24
    refine op_skip F24 (by kernel_rfl) rfl rfl rfl ?_; intro a25 F25
    refine op_skip F25 (by kernel_rfl) rfl rfl rfl ?_; intro a26 F26
    refine op_skip F26 (by kernel_rfl) rfl rfl rfl ?_; intro a27 F27
    refine op_p F27 (.bool false) (by kernel_rfl) rfl rfl rfl (by kernel_rfl) rfl ?_; intro a28 F28
    refine wpList_nil ?_
    refine hK14 _ _ ?_; clear hK14 K14
    refine wp_cond_false (F28.ev (by kernel_rfl)) ?_
    refine wp_skip ?_
    refine hK13 _ _ ?_; clear hK13 K13
    refine wp_seq_k fun K29 hK29 => ?_
    refine wp_region_lit ?_
    refine op_p F28 (.string pre) (by kernel_rfl) rfl rfl rfl (by kernel_rfl) rfl ?_; intro a30 F30
    refine op_p F30 (.string (joinP ([path] ++ more))) (by kernel_rfl) rfl rfl rfl (by kernel_rfl) rfl ?_; intro a31 F31
    refine op_r (v := .string (pre ++ (joinP ([path] ++ more)))) F31 (r_sadd rfl (F31.ev (v := .string pre) (by kernel_rfl)) (F31.ev (v := .string (joinP ([path] ++ more))) (by kernel_rfl)) (by show pre.size + (joinP ([path] ++ more)).size ≤ 9223372036854775807; have hjz : (joinP ([path] ++ more)).size ≤ 100000 := joinP_size hxs (by simp; omega); first | omega | (simp only [ByteArray.size_append]; omega) | (rw [ByteArray.size_append]; show _ + (1 + _) ≤ _; omega))) rfl rfl rfl ?_; intro a32 F32
    refine op_p F32 (.string (pre ++ (joinP ([path] ++ more)))) (by kernel_rfl) rfl rfl rfl (by kernel_rfl) rfl ?_; intro a33 F33
    refine wpList_nil ?_
    refine hK29 _ _ ?_; clear hK29 K29
    refine wp_ret ?_
    refine (F33.res1 rfl (v := .string (pre ++ (joinP ([path] ++ more)))) (by kernel_rfl) ?_).1
    exact ⟨(ret_str (slash_h hc18).symm), S10.drop⟩
  · have F34 := F17.sb 14 (by kernel_rfl) (show (!(pre.toList == (⟨#[]⟩ : ByteArray).toList)) = true by rw [hc18]; rfl)
    have F35 := F34.sb 15 (by kernel_rfl) (show (!(pre.toList == (⟨#[]⟩ : ByteArray).toList)) = true by rw [hc18]; rfl)
    refine op_want F35 (by kernel_rfl) rfl ?_
    refine op_p F35 (.string (joinP ([path] ++ more))) (by kernel_rfl) rfl rfl rfl (by kernel_rfl) rfl ?_; intro a36 F36
    refine op_want F36 (by kernel_rfl) rfl ?_
    refine op_p F36 (.bool (!((joinP ([path] ++ more)).toList == (⟨#[]⟩ : ByteArray).toList))) (by kernel_rfl) rfl rfl rfl (by kernel_rfl) rfl ?_; intro a37 F37
    refine op_p F37 (.bool (!((joinP ([path] ++ more)).toList == (⟨#[]⟩ : ByteArray).toList))) (by kernel_rfl) rfl rfl rfl (by kernel_rfl) rfl ?_; intro a38 F38
    refine op_p F38 (.bool (!((joinP ([path] ++ more)).toList == (⟨#[]⟩ : ByteArray).toList))) (by kernel_rfl) rfl rfl rfl (by kernel_rfl) rfl ?_; intro a39 F39
    rcases btf ((joinP ([path] ++ more)).toList == (⟨#[]⟩ : ByteArray).toList) with hc40 | hc40
    · have F41 := F39.sb 17 (by kernel_rfl) (show (!((joinP ([path] ++ more)).toList == (⟨#[]⟩ : ByteArray).toList)) = false by rw [hc40]; rfl)
      have F42 := F41.sb 18 (by kernel_rfl) (show (!((joinP ([path] ++ more)).toList == (⟨#[]⟩ : ByteArray).toList)) = false by rw [hc40]; rfl)
      have F43 := F42.sb 19 (by kernel_rfl) (show (!((joinP ([path] ++ more)).toList == (⟨#[]⟩ : ByteArray).toList)) = false by rw [hc40]; rfl)
      refine op_skip F43 (by kernel_rfl) rfl rfl rfl ?_; intro a44 F44
      refine op_skip F44 (by kernel_rfl) rfl rfl rfl ?_; intro a45 F45
      refine op_skip F45 (by kernel_rfl) rfl rfl rfl ?_; intro a46 F46
      refine op_p F46 (.bool false) (by kernel_rfl) rfl rfl rfl (by kernel_rfl) rfl ?_; intro a47 F47
      refine wpList_nil ?_
      refine hK14 _ _ ?_; clear hK14 K14
      refine wp_cond_false (F47.ev (by kernel_rfl)) ?_
      refine wp_skip ?_
      refine hK13 _ _ ?_; clear hK13 K13
      refine wp_seq_k fun K48 hK48 => ?_
      refine wp_region_lit ?_
      refine op_p F47 (.string pre) (by kernel_rfl) rfl rfl rfl (by kernel_rfl) rfl ?_; intro a49 F49
      refine op_p F49 (.string (joinP ([path] ++ more))) (by kernel_rfl) rfl rfl rfl (by kernel_rfl) rfl ?_; intro a50 F50
      refine op_r (v := .string (pre ++ (joinP ([path] ++ more)))) F50 (r_sadd rfl (F50.ev (v := .string pre) (by kernel_rfl)) (F50.ev (v := .string (joinP ([path] ++ more))) (by kernel_rfl)) (by show pre.size + (joinP ([path] ++ more)).size ≤ 9223372036854775807; have hjz : (joinP ([path] ++ more)).size ≤ 100000 := joinP_size hxs (by simp; omega); first | omega | (simp only [ByteArray.size_append]; omega) | (rw [ByteArray.size_append]; show _ + (1 + _) ≤ _; omega))) rfl rfl rfl ?_; intro a51 F51
      refine op_p F51 (.string (pre ++ (joinP ([path] ++ more)))) (by kernel_rfl) rfl rfl rfl (by kernel_rfl) rfl ?_; intro a52 F52
      refine wpList_nil ?_
      refine hK48 _ _ ?_; clear hK48 K48
      refine wp_ret ?_
      refine (F52.res1 rfl (v := .string (pre ++ (joinP ([path] ++ more)))) (by kernel_rfl) ?_).1
      exact ⟨(ret_str (slash_p hc40).symm), S10.drop⟩
    · have hjpos := ne_size hc40
      have F53 := F39.sb 17 (by kernel_rfl) (show (!((joinP ([path] ++ more)).toList == (⟨#[]⟩ : ByteArray).toList)) = true by rw [hc40]; rfl)
      have F54 := F53.sb 18 (by kernel_rfl) (show (!((joinP ([path] ++ more)).toList == (⟨#[]⟩ : ByteArray).toList)) = true by rw [hc40]; rfl)
      have F55 := F54.sb 19 (by kernel_rfl) (show (!((joinP ([path] ++ more)).toList == (⟨#[]⟩ : ByteArray).toList)) = true by rw [hc40]; rfl)
      refine op_want F55 (by kernel_rfl) rfl ?_
      refine op_p F55 (.string (joinP ([path] ++ more))) (by kernel_rfl) rfl rfl rfl (by kernel_rfl) rfl ?_; intro a56 F56
      refine op_want F56 (by kernel_rfl) rfl ?_
      refine op_r (v := .int .u8 (↑(joinP ([path] ++ more))[0].toNat)) F56 (r_index rfl Try.underlying9 (F56.ev (v := .string (joinP ([path] ++ more))) (by kernel_rfl)) (F56.ev (v := .int .i64 0) (by kernel_rfl)) 0 (by first | rfl | omega | simp) (by first | omega | (simp; done) | (simp; omega))) rfl rfl rfl ?_; intro a57 F57
      refine op_want F57 (by kernel_rfl) rfl ?_
      refine op_p F57 (.bool (!((↑(joinP ([path] ++ more))[0].toNat : Int) == 47))) (by kernel_rfl) rfl rfl rfl (by kernel_rfl) rfl ?_; intro a58 F58
      refine op_p F58 (.bool (!((↑(joinP ([path] ++ more))[0].toNat : Int) == 47))) (by kernel_rfl) rfl rfl rfl (by kernel_rfl) rfl ?_; intro a59 F59
      refine wpList_nil ?_
      refine hK14 _ _ ?_; clear hK14 K14
      rcases btf ((↑(joinP ([path] ++ more))[0].toNat : Int) == 47) with hc60 | hc60
      · have hc60p := eq_of_beq hc60
        have F61 := F59.sb 22 (by kernel_rfl) (show (!((↑(joinP ([path] ++ more))[0].toNat : Int) == 47)) = false by rw [hc60]; rfl)
        have F62 := F61.sb 23 (by kernel_rfl) (show (!((↑(joinP ([path] ++ more))[0].toNat : Int) == 47)) = false by rw [hc60]; rfl)
        refine wp_cond_false (F62.ev (by kernel_rfl)) ?_
        refine wp_skip ?_
        refine hK13 _ _ ?_; clear hK13 K13
        refine wp_seq_k fun K63 hK63 => ?_
        refine wp_region_lit ?_
        refine op_p F62 (.string pre) (by kernel_rfl) rfl rfl rfl (by kernel_rfl) rfl ?_; intro a64 F64
        refine op_p F64 (.string (joinP ([path] ++ more))) (by kernel_rfl) rfl rfl rfl (by kernel_rfl) rfl ?_; intro a65 F65
        refine op_r (v := .string (pre ++ (joinP ([path] ++ more)))) F65 (r_sadd rfl (F65.ev (v := .string pre) (by kernel_rfl)) (F65.ev (v := .string (joinP ([path] ++ more))) (by kernel_rfl)) (by show pre.size + (joinP ([path] ++ more)).size ≤ 9223372036854775807; have hjz : (joinP ([path] ++ more)).size ≤ 100000 := joinP_size hxs (by simp; omega); first | omega | (simp only [ByteArray.size_append]; omega) | (rw [ByteArray.size_append]; show _ + (1 + _) ≤ _; omega))) rfl rfl rfl ?_; intro a66 F66
        refine op_p F66 (.string (pre ++ (joinP ([path] ++ more)))) (by kernel_rfl) rfl rfl rfl (by kernel_rfl) rfl ?_; intro a67 F67
        refine wpList_nil ?_
        refine hK63 _ _ ?_; clear hK63 K63
        refine wp_ret ?_
        refine (F67.res1 rfl (v := .string (pre ++ (joinP ([path] ++ more)))) (by kernel_rfl) ?_).1
        exact ⟨(ret_str (slash_s hjpos hc60).symm), S10.drop⟩
      · have hc60p := ne_of_beq_false hc60
        have F68 := F59.sb 22 (by kernel_rfl) (show (!((↑(joinP ([path] ++ more))[0].toNat : Int) == 47)) = true by rw [hc60]; rfl)
        have F69 := F68.sb 23 (by kernel_rfl) (show (!((↑(joinP ([path] ++ more))[0].toNat : Int) == 47)) = true by rw [hc60]; rfl)
        refine wp_cond_true (F69.ev (by kernel_rfl)) ?_
        refine wp_region_lit ?_
        refine op_p F69 (.string (joinP ([path] ++ more))) (by kernel_rfl) rfl rfl rfl (by kernel_rfl) rfl ?_; intro a70 F70
        refine op_r (v := .string ((⟨#[47]⟩ : ByteArray) ++ (joinP ([path] ++ more)))) F70 (r_sadd rfl (F70.ev (v := .string ⟨#[47]⟩) (by kernel_rfl)) (F70.ev (v := .string (joinP ([path] ++ more))) (by kernel_rfl)) (by show 1 + (joinP ([path] ++ more)).size ≤ 9223372036854775807; have hjz : (joinP ([path] ++ more)).size ≤ 100000 := joinP_size hxs (by simp; omega); first | omega | (simp only [ByteArray.size_append]; omega) | (rw [ByteArray.size_append]; show _ + (1 + _) ≤ _; omega))) rfl rfl rfl ?_; intro a71 F71
        refine op_p F71 (.string ((⟨#[47]⟩ : ByteArray) ++ (joinP ([path] ++ more)))) (by kernel_rfl) rfl rfl rfl (by kernel_rfl) rfl ?_; intro a72 F72
        refine wpList_nil ?_
        refine hK13 _ _ ?_; clear hK13 K13
        refine wp_seq_k fun K73 hK73 => ?_
        refine wp_region_lit ?_
        refine op_p F72 (.string pre) (by kernel_rfl) rfl rfl rfl (by kernel_rfl) rfl ?_; intro a74 F74
        refine op_p F74 (.string ((⟨#[47]⟩ : ByteArray) ++ (joinP ([path] ++ more)))) (by kernel_rfl) rfl rfl rfl (by kernel_rfl) rfl ?_; intro a75 F75
        refine op_r (v := .string (pre ++ ((⟨#[47]⟩ : ByteArray) ++ (joinP ([path] ++ more))))) F75 (r_sadd rfl (F75.ev (v := .string pre) (by kernel_rfl)) (F75.ev (v := .string ((⟨#[47]⟩ : ByteArray) ++ (joinP ([path] ++ more)))) (by kernel_rfl)) (by show pre.size + ((⟨#[47]⟩ : ByteArray) ++ (joinP ([path] ++ more))).size ≤ 9223372036854775807; have hjz : (joinP ([path] ++ more)).size ≤ 100000 := joinP_size hxs (by simp; omega); first | omega | (simp only [ByteArray.size_append]; omega) | (rw [ByteArray.size_append]; show _ + (1 + _) ≤ _; omega))) rfl rfl rfl ?_; intro a76 F76
        refine op_p F76 (.string (pre ++ ((⟨#[47]⟩ : ByteArray) ++ (joinP ([path] ++ more))))) (by kernel_rfl) rfl rfl rfl (by kernel_rfl) rfl ?_; intro a77 F77
        refine wpList_nil ?_
        refine hK73 _ _ ?_; clear hK73 K73
        refine wp_ret ?_
        refine (F77.res1 rfl (v := .string (pre ++ ((⟨#[47]⟩ : ByteArray) ++ (joinP ([path] ++ more))))) (by kernel_rfl) ?_).1
        exact ⟨(ret_str (slash_n hc18 hc40 hjpos hc60).symm), S10.drop⟩
end Go.Proofs.Ytkjcedlgljeoiaa
