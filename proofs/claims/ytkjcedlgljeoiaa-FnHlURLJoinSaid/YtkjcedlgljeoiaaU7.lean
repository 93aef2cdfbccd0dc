/- The walk of FnHlURLJoin. -/
import Derived.Test.YtkjcedlgljeoiaaU6
import Derived.Test.YtkjcedlgljeoiaaFz
import Derived.Test.YtkjcedlgljeoiaaOk
import Derived.Test.YtkjcedlgljeoiaaQ1
import Derived.Test.YtkjcedlgljeoiaaP3
namespace Go.Proofs.Ytkjcedlgljeoiaa
open Go.RowKit Go.Lib
set_option linter.unusedVariables false
set_option linter.unusedSimpArgs false
def OkX (x : ByteArray) : Prop := (x.toList == (⟨#[]⟩ : ByteArray).toList) = true ∨ allB x ⟨#[47, 46, 45, 95]⟩ = true
def OkH (x : ByteArray) : Prop := (x.toList == (⟨#[]⟩ : ByteArray).toList) = true ∨ allB x ⟨#[]⟩ = true
theorem strs_getE3 {xs : List ByteArray} {k : Nat} (h : k < xs.length) : (strs xs)[k]? = some (.string xs[k]) := by simp [strs, h]
theorem fits3_len {xs : List ByteArray} (h : fits3 xs = true) : xs.length ≤ 2147483647 := by
  unfold fits3 at h
  rw [Bool.and_eq_true] at h
  exact of_decide_eq_true h.1
theorem short_len {xs : List ByteArray} (h : shortB xs = true) : xs.length ≤ 30 := by
  unfold shortB at h
  rw [Bool.and_eq_true] at h
  exact of_decide_eq_true h.1
theorem short_all {xs : List ByteArray} (h : shortB xs = true) : ∀ x ∈ xs, x.size ≤ 100 := fun x hx => by
  unfold shortB at h
  rw [Bool.and_eq_true, List.all_eq_true] at h
  have := h.2 x hx
  unfold shortS at this
  rw [Bool.and_eq_true] at this
  exact of_decide_eq_true this.1
theorem okx_all {host path : ByteArray} {more : List ByteArray} {k : Nat} (hk : ([host, path] ++ more).length ≤ k) (h : ∀ j, ∀ h : j < ([host, path] ++ more).length, j < k → OkX ([host, path] ++ more)[j]) : (∀ x ∈ [path] ++ more, (x.toList == (⟨#[]⟩ : ByteArray).toList) = true ∨ wordB x ⟨#[47, 46, 95, 45]⟩ = true) ∧ OkX path := by
  have h2 : ∀ x ∈ [host, path] ++ more, OkX x := fun x hx => by
    obtain ⟨j, hj, rfl⟩ := List.mem_iff_getElem.1 hx
    exact h j hj (by omega)
  refine ⟨fun x hx => ?_, h2 _ (by simp)⟩
  have h3 := h2 x (by simp at hx ⊢; exact .inr hx)
  unfold OkX at h3
  exact h3.imp id all_word
theorem h_zero {host path : ByteArray} {more : List ByteArray} {k : Nat} {hk : k < ([host, path] ++ more).length} (h0 : k = 0) (h : OkH ([host, path] ++ more)[k]) : OkH host := by subst h0; exact h
theorem path_or {path : ByteArray} (h : (path.toList == (⟨#[]⟩ : ByteArray).toList) = true) : path = ⟨#[]⟩ ∨ ∃ h : 0 < path.size, ((path[0].toNat : Int) == 47) = true := .inl (nil_of h)

set_option maxRecDepth 100000 in
set_option maxHeartbeats 20000000 in
theorem fnHlURLJoin_sp (host : ByteArray) (path : ByteArray) (A : Option Addr) (c : Nat) (more : List ByteArray) (b : Bool) (R : Ctx) (L : List SA) (w : World) (S : Sp R w (L)) (h0 : Rf R L fun w => Sl w (A) (strs more))  :
    Calls Try.prog 6 #[.string host, .string path, .slice (A) (more.length) (c), .bool b] w fun e w' => e = .returned (.bool true) ∧ Sp R w' (L) := by
  have hl_more : more.length ≤ 9223372036854775807 := by have := (h0 _ S).1; simpa [strs, ptrs] using this
  refine fw_enter (fn := Try.f6) rfl rfl 136 rfl (Nat.le_of_ble_eq_true rfl) ?_
  intro a0 F0
  refine wp_seq_k fun K1 hK1 => ?_
  refine wp_region_lit ?_
  refine op_p F0 (.bool false) (by kernel_rfl) rfl rfl rfl (by kernel_rfl) rfl ?_; intro a2 F2
  refine wpList_nil ?_
  refine hK1 _ _ ?_; clear hK1 K1
  refine wp_seq_k fun K3 hK3 => ?_
  refine wp_seq_k fun K4 hK4 => ?_
  refine wp_region_lit ?_
  refine op_p F2 (.string host) (by kernel_rfl) rfl rfl rfl (by kernel_rfl) rfl ?_; intro a5 F5
  refine op_p F5 (.int .i64 (↑host.size)) (by kernel_rfl) rfl rfl rfl (by kernel_rfl) rfl ?_; intro a6 F6
  refine op_p F6 (.bool (decide ((2147483647 : Int) < ↑host.size))) (by kernel_rfl) rfl rfl rfl (by kernel_rfl) rfl ?_; intro a7 F7
  refine op_p F7 (.bool (decide ((2147483647 : Int) < ↑host.size))) (by kernel_rfl) rfl rfl rfl (by kernel_rfl) rfl ?_; intro a8 F8
  rcases btf (decide ((2147483647 : Int) < ↑host.size)) with hc9 | hc9
  · have hc9p := of_decide_eq_true hc9
    have F10 := F8.sb 17 (by kernel_rfl) hc9
    have F11 := F10.sb 18 (by kernel_rfl) hc9
    refine op_skip F11 (by kernel_rfl) rfl rfl rfl ?_; intro a12 F12
    refine op_skip F12 (by kernel_rfl) rfl rfl rfl ?_; intro a13 F13
    refine op_skip F13 (by kernel_rfl) rfl rfl rfl ?_; intro a14 F14
    refine op_p F14 (.bool true) (by kernel_rfl) rfl rfl rfl (by kernel_rfl) rfl ?_; intro a15 F15
    refine op_p F15 (.bool true) (by kernel_rfl) rfl rfl rfl (by kernel_rfl) rfl ?_; intro a16 F16
    refine op_skip F16 (by kernel_rfl) rfl rfl rfl ?_; intro a17 F17
    refine op_skip F17 (by kernel_rfl) rfl rfl rfl ?_; intro a18 F18
    refine op_skip F18 (by kernel_rfl) rfl rfl rfl ?_; intro a19 F19
    refine op_p F19 (.bool true) (by kernel_rfl) rfl rfl rfl (by kernel_rfl) rfl ?_; intro a20 F20
    refine wpList_nil ?_
    refine hK4 _ _ ?_; clear hK4 K4
    refine wp_cond_true (F20.ev (by kernel_rfl)) ?_
    refine wp_seq_k fun K21 hK21 => ?_
    refine wp_region_lit ?_
    refine op_p F20 (.bool true) (by kernel_rfl) rfl rfl rfl (by kernel_rfl) rfl ?_; intro a22 F22
    refine wpList_nil ?_
    refine hK21 _ _ ?_; clear hK21 K21
    refine wp_ret ?_
    refine ret_then ?_
    refine (F22.res1 rfl (v := .bool true) (by kernel_rfl) ?_).1
    exact ⟨rfl, S⟩
  · have hc9p := of_decide_eq_false hc9
    have F23 := F8.sb 17 (by kernel_rfl) hc9
    have F24 := F23.sb 18 (by kernel_rfl) hc9
    refine op_want F24 (by kernel_rfl) rfl ?_
    refine op_p F24 (.string path) (by kernel_rfl) rfl rfl rfl (by kernel_rfl) rfl ?_; intro a25 F25
    refine op_want F25 (by kernel_rfl) rfl ?_
    refine op_p F25 (.int .i64 (↑path.size)) (by kernel_rfl) rfl rfl rfl (by kernel_rfl) rfl ?_; intro a26 F26
    refine op_want F26 (by kernel_rfl) rfl ?_
    refine op_p F26 (.bool (decide ((2147483647 : Int) < ↑path.size))) (by kernel_rfl) rfl rfl rfl (by kernel_rfl) rfl ?_; intro a27 F27
    refine op_p F27 (.bool (decide ((2147483647 : Int) < ↑path.size))) (by kernel_rfl) rfl rfl rfl (by kernel_rfl) rfl ?_; intro a28 F28
    refine op_p F28 (.bool (decide ((2147483647 : Int) < ↑path.size))) (by kernel_rfl) rfl rfl rfl (by kernel_rfl) rfl ?_; intro a29 F29
    rcases btf (decide ((2147483647 : Int) < ↑path.size)) with hc30 | hc30
    · have hc30p := of_decide_eq_true hc30
      have F31 := F29.sb 21 (by kernel_rfl) hc30
      have F32 := F31.sb 22 (by kernel_rfl) hc30
      have F33 := F32.sb 23 (by kernel_rfl) hc30
      refine op_skip F33 (by kernel_rfl) rfl rfl rfl ?_; intro a34 F34
      refine op_skip F34 (by kernel_rfl) rfl rfl rfl ?_; intro a35 F35
      refine op_skip F35 (by kernel_rfl) rfl rfl rfl ?_; intro a36 F36
      refine op_p F36 (.bool true) (by kernel_rfl) rfl rfl rfl (by kernel_rfl) rfl ?_; intro a37 F37
      refine wpList_nil ?_
      refine hK4 _ _ ?_; clear hK4 K4
      refine wp_cond_true (F37.ev (by kernel_rfl)) ?_
      refine wp_seq_k fun K38 hK38 => ?_
      refine wp_region_lit ?_
      refine op_p F37 (.bool true) (by kernel_rfl) rfl rfl rfl (by kernel_rfl) rfl ?_; intro a39 F39
      refine wpList_nil ?_
      refine hK38 _ _ ?_; clear hK38 K38
      refine wp_ret ?_
      refine ret_then ?_
      refine (F39.res1 rfl (v := .bool true) (by kernel_rfl) ?_).1
      exact ⟨rfl, S⟩
    · have hc30p := of_decide_eq_false hc30
      have F40 := F29.sb 21 (by kernel_rfl) hc30
      have F41 := F40.sb 22 (by kernel_rfl) hc30
      have F42 := F41.sb 23 (by kernel_rfl) hc30
      refine op_want F42 (by kernel_rfl) rfl ?_
      refine op_p F42 (.slice (A) (more.length) (c)) (by kernel_rfl) rfl rfl rfl (by kernel_rfl) rfl ?_; intro a43 F43
      refine op_want F43 (by kernel_rfl) rfl ?_
      refine op_c F43 (f := 27) (args := #[.slice (A) (more.length) (c)]) (by kernel_rfl) (by kernel_rfl) rfl (zzFits3_any A c more _ (h0 _ S)) rfl rfl rfl ?_
      rintro _ _ ⟨rfl, rfl⟩
      refine ⟨_, rfl, ?_⟩
      intro a45 F45
      refine op_want F45 (by kernel_rfl) rfl ?_
      refine op_p F45 (.bool (!(fits3 more))) (by kernel_rfl) rfl rfl rfl (by kernel_rfl) rfl ?_; intro a46 F46
      refine op_p F46 (.bool (!(fits3 more))) (by kernel_rfl) rfl rfl rfl (by kernel_rfl) rfl ?_; intro a47 F47
      refine wpList_nil ?_
      refine hK4 _ _ ?_; clear hK4 K4
      rcases btf (fits3 more) with hc48 | hc48
      · have hml := fits3_len hc48
        have F49 := F47.sb 25 (by kernel_rfl) hc48
        have F50 := F49.sb 26 (by kernel_rfl) (show (!(fits3 more)) = false by rw [hc48]; rfl)
        have F51 := F50.sb 27 (by kernel_rfl) (show (!(fits3 more)) = false by rw [hc48]; rfl)
        refine wp_cond_false (F51.ev (by kernel_rfl)) ?_
        refine wp_skip ?_
        refine hK3 _ _ ?_; clear hK3 K3
        refine wp_seq_k fun K52 hK52 => ?_
        refine wp_seq_k fun K53 hK53 => ?_
        refine wp_region_lit ?_
        refine op_p F51 (.string host) (by kernel_rfl) rfl rfl rfl (by kernel_rfl) rfl ?_; intro a54 F54
        refine op_p F54 (.string path) (by kernel_rfl) rfl rfl rfl (by kernel_rfl) rfl ?_; intro a55 F55
        refine op_s F55 (s_news F55 9 #[.string host, .string path] 2 (by kernel_rfl) (by kernel_rfl) (by kernel_rfl) S) rfl rfl rfl ?_
        rintro _ _ w57 ⟨g55, rfl, rfl⟩ S57 a57 F57
        refine op_p F57 (.slice (A) (more.length) (c)) (by kernel_rfl) rfl rfl rfl (by kernel_rfl) rfl ?_; intro a58 F58
        refine op_s F58 (s_app rfl Try.underlying22 1 _ tin9 rfl rfl (F58.ev (v := .slice (some ⟨g55, 0, none⟩) 2 2) (by kernel_rfl)) (Sp.ofblk (sz := 1) (m := 2) (l := [Value.string host, .string path]) S57 rfl (by omega) rfl) (strs more) (F58.ev (v := .slice (A) (more.length) (c)) (by kernel_rfl)) (h0 _ S57.drop) (by first | (simp [strs, ptrs]; done) | (simp [strs, ptrs]; omega)) (by intro u hu; obtain ⟨x, _, rfl⟩ := List.mem_map.1 hu; rfl) (by omega) (by omega) (n' := ([host, path] ++ more).length) (by first | (simp; done) | (simp; omega)) (cs' := strs ([host, path] ++ more)) (by simp [strs])) rfl rfl rfl ?_
        rintro _ _ w60 ⟨A59, c59, rfl, rfl⟩ S60 a60 F60
        refine op_c F60 (f := 19) (args := #[.slice A59 (([host, path] ++ more).length) c59]) (by kernel_rfl) (by kernel_rfl) rfl (hlShort_any A59 c59 ([host, path] ++ more) _ (own_sl1 (S60.ow 0 rfl) (by first | omega | (simp; omega)))) rfl rfl rfl ?_
        rintro _ _ ⟨rfl, rfl⟩
        refine ⟨_, rfl, ?_⟩
        intro a62 F62
        refine op_p F62 (.bool (!(shortB ([host, path] ++ more)))) (by kernel_rfl) rfl rfl rfl (by kernel_rfl) rfl ?_; intro a63 F63
        refine op_p F63 (.bool (!(shortB ([host, path] ++ more)))) (by kernel_rfl) rfl rfl rfl (by kernel_rfl) rfl ?_; intro a64 F64
        rcases btf (shortB ([host, path] ++ more)) with hc65 | hc65
        · have hl3 := short_len hc65
          have hl4 : ([host, path] ++ more).length = more.length + 2 := by simp
          have hsz := short_all hc65
          have hhz : host.size ≤ 100 := hsz _ (by simp)
          have hpaz : path.size ≤ 100 := hsz _ (by simp)
          have F66 := F64.sb 33 (by kernel_rfl) hc65
          have F67 := F66.sb 34 (by kernel_rfl) (show (!(shortB ([host, path] ++ more))) = false by rw [hc65]; rfl)
          have F68 := F67.sb 35 (by kernel_rfl) (show (!(shortB ([host, path] ++ more))) = false by rw [hc65]; rfl)
          refine op_want F68 (by kernel_rfl) rfl ?_
          refine op_p F68 (.slice (A) (more.length) (c)) (by kernel_rfl) rfl rfl rfl (by kernel_rfl) rfl ?_; intro a69 F69
          refine op_want F69 (by kernel_rfl) rfl ?_
          refine op_p F69 (.int .i64 (↑more.length)) (by kernel_rfl) rfl rfl rfl (by kernel_rfl) rfl ?_; intro a70 F70
          refine op_want F70 (by kernel_rfl) rfl ?_
          refine op_p F70 (.bool (decide ((6 : Int) < ↑more.length))) (by kernel_rfl) rfl rfl rfl (by kernel_rfl) rfl ?_; intro a71 F71
          refine op_p F71 (.bool (decide ((6 : Int) < ↑more.length))) (by kernel_rfl) rfl rfl rfl (by kernel_rfl) rfl ?_; intro a72 F72
          refine op_p F72 (.bool (decide ((6 : Int) < ↑more.length))) (by kernel_rfl) rfl rfl rfl (by kernel_rfl) rfl ?_; intro a73 F73
          rcases btf (decide ((6 : Int) < ↑more.length)) with hc74 | hc74
          · have hc74p := of_decide_eq_true hc74
            have F75 := F73.sb 38 (by kernel_rfl) hc74
            have F76 := F75.sb 39 (by kernel_rfl) hc74
            have F77 := F76.sb 40 (by kernel_rfl) hc74
            refine op_skip F77 (by kernel_rfl) rfl rfl rfl ?_; intro a78 F78
            refine op_skip F78 (by kernel_rfl) rfl rfl rfl ?_; intro a79 F79
            refine op_skip F79 (by kernel_rfl) rfl rfl rfl ?_; intro a80 F80
            refine op_p F80 (.bool true) (by kernel_rfl) rfl rfl rfl (by kernel_rfl) rfl ?_; intro a81 F81
            refine wpList_nil ?_
            refine hK53 _ _ ?_; clear hK53 K53
            refine wp_cond_true (F81.ev (by kernel_rfl)) ?_
            refine wp_seq_k fun K82 hK82 => ?_
            refine wp_region_lit ?_
            refine op_p F81 (.bool true) (by kernel_rfl) rfl rfl rfl (by kernel_rfl) rfl ?_; intro a83 F83
            refine wpList_nil ?_
            refine hK82 _ _ ?_; clear hK82 K82
            refine wp_ret ?_
            refine ret_then ?_
            refine (F83.res1 rfl (v := .bool true) (by kernel_rfl) ?_).1
            exact ⟨rfl, S60.drop⟩
          · have hc74p := of_decide_eq_false hc74
            have F84 := F73.sb 38 (by kernel_rfl) hc74
            have F85 := F84.sb 39 (by kernel_rfl) hc74
            have F86 := F85.sb 40 (by kernel_rfl) hc74
            refine op_want F86 (by kernel_rfl) rfl ?_
            refine op_p F86 (.string host) (by kernel_rfl) rfl rfl rfl (by kernel_rfl) rfl ?_; intro a87 F87
            refine op_want F87 (by kernel_rfl) rfl ?_
            refine op_p F87 (.int .i64 (↑host.size)) (by kernel_rfl) rfl rfl rfl (by kernel_rfl) rfl ?_; intro a88 F88
            refine op_want F88 (by kernel_rfl) rfl ?_
            refine op_p F88 (.bool (decide ((20 : Int) < ↑host.size))) (by kernel_rfl) rfl rfl rfl (by kernel_rfl) rfl ?_; intro a89 F89
            refine op_p F89 (.bool (decide ((20 : Int) < ↑host.size))) (by kernel_rfl) rfl rfl rfl (by kernel_rfl) rfl ?_; intro a90 F90
            refine wpList_nil ?_
            refine hK53 _ _ ?_; clear hK53 K53
            rcases btf (decide ((20 : Int) < ↑host.size)) with hc91 | hc91
            · have hc91p := of_decide_eq_true hc91
              have F92 := F90.sb 43 (by kernel_rfl) hc91
              have F93 := F92.sb 44 (by kernel_rfl) hc91
              refine wp_cond_true (F93.ev (by kernel_rfl)) ?_
              refine wp_seq_k fun K94 hK94 => ?_
              refine wp_region_lit ?_
              refine op_p F93 (.bool true) (by kernel_rfl) rfl rfl rfl (by kernel_rfl) rfl ?_; intro a95 F95
              refine wpList_nil ?_
              refine hK94 _ _ ?_; clear hK94 K94
              refine wp_ret ?_
              refine ret_then ?_
              refine (F95.res1 rfl (v := .bool true) (by kernel_rfl) ?_).1
              exact ⟨rfl, S60.drop⟩
            · have hc91p := of_decide_eq_false hc91
              have F96 := F90.sb 43 (by kernel_rfl) hc91
              have F97 := F96.sb 44 (by kernel_rfl) hc91
              refine wp_cond_false (F97.ev (by kernel_rfl)) ?_
              refine wp_skip ?_
              refine hK52 _ _ ?_; clear hK52 K52
              refine wp_seq_k fun K98 hK98 => ?_
              refine wp_seq_k fun K99 hK99 => ?_
              refine wp_region_lit ?_
              refine op_p F97 (.string host) (by kernel_rfl) rfl rfl rfl (by kernel_rfl) rfl ?_; intro a100 F100
              refine op_p F100 (.string path) (by kernel_rfl) rfl rfl rfl (by kernel_rfl) rfl ?_; intro a101 F101
              refine op_s F101 (s_news F101 9 #[.string host, .string path] 2 (by kernel_rfl) (by kernel_rfl) (by kernel_rfl) S60) rfl rfl rfl ?_
              rintro _ _ w103 ⟨g101, rfl, rfl⟩ S103 a103 F103
              refine op_p F103 (.slice (A) (more.length) (c)) (by kernel_rfl) rfl rfl rfl (by kernel_rfl) rfl ?_; intro a104 F104
              refine op_s F104 (s_app rfl Try.underlying22 1 _ tin9 rfl rfl (F104.ev (v := .slice (some ⟨g101, 0, none⟩) 2 2) (by kernel_rfl)) (Sp.ofblk (sz := 1) (m := 2) (l := [Value.string host, .string path]) S103 rfl (by omega) rfl) (strs more) (F104.ev (v := .slice (A) (more.length) (c)) (by kernel_rfl)) (h0 _ S103.drop.drop) (by first | (simp [strs, ptrs]; done) | (simp [strs, ptrs]; omega)) (by intro u hu; obtain ⟨x, _, rfl⟩ := List.mem_map.1 hu; rfl) (by omega) (by omega) (n' := ([host, path] ++ more).length) (by first | (simp; done) | (simp; omega)) (cs' := strs ([host, path] ++ more)) (by simp [strs])) rfl rfl rfl ?_
              rintro _ _ w106 ⟨A105, c105, rfl, rfl⟩ S106 a106 F106
              refine op_p F106 (.int .i64 (↑(([host, path] ++ more).length))) (by kernel_rfl) rfl rfl rfl (by kernel_rfl) rfl ?_; intro a107 F107
              refine op_p F107 (.int .i64 0) (by kernel_rfl) rfl rfl rfl (by kernel_rfl) rfl ?_; intro a108 F108
              refine wpList_nil ?_
              refine hK99 _ _ ?_; clear hK99 K99
              refine wp_block ?_
              refine fw_loop (fun m a' w' => ∃ k : Nat, ([host, path] ++ more).length - k = m ∧ Fr 136 [] a' [(0, .string host), (1, .string path), (2, .slice (A) (more.length) (c)), (3, .bool b), (15, .string host), (16, .int .i64 (↑host.size)), (17, .bool false), (18, .bool false), (19, .string path), (20, .int .i64 (↑path.size)), (21, .bool false), (22, .bool false), (23, .bool false), (24, .slice (A) (more.length) (c)), (25, .bool true), (26, .bool false), (27, .bool false), (28, .string host), (29, .string path), (30, .slice (some ⟨g55, 0, none⟩) 2 2), (31, .slice (A) (more.length) (c)), (32, .slice A59 (([host, path] ++ more).length) c59), (33, .bool true), (34, .bool false), (35, .bool false), (36, .slice (A) (more.length) (c)), (37, .int .i64 (↑more.length)), (38, .bool false), (39, .bool false), (40, .bool false), (41, .string host), (42, .int .i64 (↑host.size)), (43, .bool false), (44, .bool false), (45, .string host), (46, .string path), (47, .slice (some ⟨g101, 0, none⟩) 2 2), (48, .slice (A) (more.length) (c)), (49, .slice A105 (([host, path] ++ more).length) c105), (50, .int .i64 (↑(([host, path] ++ more).length))), (51, .int .i64 (↑k))] ∧ Sp R w' (SA.own (.slice A105 (([host, path] ++ more).length) c105) 9 1 (([host, path] ++ more).length) (strs ([host, path] ++ more)) :: SA.own (.slice A59 (([host, path] ++ more).length) c59) 9 1 (([host, path] ++ more).length) (strs ([host, path] ++ more)) :: L) ∧ (k ≤ ([host, path] ++ more).length) ∧ (∀ j, ∀ h : j < ([host, path] ++ more).length, j < k → OkX ([host, path] ++ more)[j]) ∧ (0 < k → OkH host)) _ ⟨0, rfl, (F108.k 0 (by kernel_rfl) (F108.k 1 (by kernel_rfl) (F108.k 2 (by kernel_rfl) (F108.k 3 (by kernel_rfl) (F108.k 15 (by kernel_rfl) (F108.k 16 (by kernel_rfl) (F108.k 17 (by kernel_rfl) (F108.k 18 (by kernel_rfl) (F108.k 19 (by kernel_rfl) (F108.k 20 (by kernel_rfl) (F108.k 21 (by kernel_rfl) (F108.k 22 (by kernel_rfl) (F108.k 23 (by kernel_rfl) (F108.k 24 (by kernel_rfl) (F108.k 25 (by kernel_rfl) (F108.k 26 (by kernel_rfl) (F108.k 27 (by kernel_rfl) (F108.k 28 (by kernel_rfl) (F108.k 29 (by kernel_rfl) (F108.k 30 (by kernel_rfl) (F108.k 31 (by kernel_rfl) (F108.k 32 (by kernel_rfl) (F108.k 33 (by kernel_rfl) (F108.k 34 (by kernel_rfl) (F108.k 35 (by kernel_rfl) (F108.k 36 (by kernel_rfl) (F108.k 37 (by kernel_rfl) (F108.k 38 (by kernel_rfl) (F108.k 39 (by kernel_rfl) (F108.k 40 (by kernel_rfl) (F108.k 41 (by kernel_rfl) (F108.k 42 (by kernel_rfl) (F108.k 43 (by kernel_rfl) (F108.k 44 (by kernel_rfl) (F108.k 45 (by kernel_rfl) (F108.k 46 (by kernel_rfl) (F108.k 47 (by kernel_rfl) (F108.k 48 (by kernel_rfl) (F108.k 49 (by kernel_rfl) (F108.k 50 (by kernel_rfl) (F108.k 51 (by kernel_rfl) F108.nil))))))))))))))))))))))))))))))))))))))))), S106.p1.p1, (by first | omega | (with_reducible assumption) | (simp; done)), (fun j h hj => absurd hj (Nat.not_lt_zero _)), (fun h => absurd h (Nat.not_lt_zero _))⟩ ?_
              rintro m109 a109 w109 ⟨k, hm109, F109, S109, hk, hA, hB⟩ K109 hK109
              by_cases hlt_k : k < ([host, path] ++ more).length
              · have hc_k : decide ((↑k : Int) < ↑(([host, path] ++ more).length)) = true := by first | (simp; done) | (simp; omega)
                obtain ⟨ad110, hA110⟩ := (own_sl1 (S109.ow 0 rfl) (by first | omega | (simp; omega))).addr (by first | (simp [strs]; done) | (simp [strs]; omega))
                have hxk := hsz _ (List.getElem_mem hlt_k)
                refine wp_seq_k fun K111 hK111 => ?_
                refine wp_region_lit ?_
                refine op_p F109 (.bool (decide ((↑k : Int) < ↑(([host, path] ++ more).length)))) (by kernel_rfl) rfl rfl rfl (by kernel_rfl) rfl ?_; intro a112 F112
                have F113 := F112.sb 52 (by kernel_rfl) hc_k
                refine wpList_nil ?_
                refine hK111 _ _ ?_; clear hK111 K111
                refine wp_seq_k fun K114 hK114 => ?_
                refine wp_cond_true (F113.ev (by kernel_rfl)) ?_
                refine wp_skip ?_
                refine hK114 _ _ ?_; clear hK114 K114
                refine wp_seq_k fun K115 hK115 => ?_
                refine wp_block ?_
                refine wp_seq_k fun K116 hK116 => ?_
                refine wp_region_lit ?_
                refine op_p F113 (.int .i64 (↑k)) (by kernel_rfl) rfl rfl rfl (by kernel_rfl) rfl ?_; intro a117 F117
                refine op_r (v := .pointer (some (ad110.add k))) F117 (r_ix rfl Try.underlying22 1 (by kernel_rfl) (F117.ev (v := .slice A105 (([host, path] ++ more).length) c105) (by kernel_rfl)) hA110 (F117.ev (v := .int .i64 (↑k)) (by kernel_rfl)) k (by first | rfl | omega | simp) (by first | omega | (simp; done) | (simp; omega)) (by simp only [Nat.mul_one])) rfl rfl rfl ?_; intro a118 F118
                refine op_r (v := .string (([host, path] ++ more)[k])) F118 (r_ld rfl (F118.ev (v := .pointer (some (ad110.add k))) (by kernel_rfl)) (v := .string (([host, path] ++ more)[k])) ((own_sl1 (S109.ow 0 rfl) (by first | omega | (simp; omega))).elA hA110 (j := k) (strs_getE3 hlt_k)) Try.underlying9 rfl) rfl rfl rfl ?_; intro a119 F119
                refine op_p F119 (.int .i64 (↑k)) (by kernel_rfl) rfl rfl rfl (by kernel_rfl) rfl ?_; intro a120 F120
                refine op_p F120 (.string (([host, path] ++ more)[k])) (by kernel_rfl) rfl rfl rfl (by kernel_rfl) rfl ?_; intro a121 F121
                refine wpList_nil ?_
                refine hK116 _ _ ?_; clear hK116 K116
                refine wp_seq_k fun K122 hK122 => ?_
                refine wp_region_lit ?_
                refine op_p F121 (.string (([host, path] ++ more)[k])) (by kernel_rfl) rfl rfl rfl (by kernel_rfl) rfl ?_; intro a123 F123
                refine op_p F123 (.bool (!((([host, path] ++ more)[k]).toList == (⟨#[]⟩ : ByteArray).toList))) (by kernel_rfl) rfl rfl rfl (by kernel_rfl) rfl ?_; intro a124 F124
                refine op_p F124 (.bool (!((([host, path] ++ more)[k]).toList == (⟨#[]⟩ : ByteArray).toList))) (by kernel_rfl) rfl rfl rfl (by kernel_rfl) rfl ?_; intro a125 F125
                rcases btf ((([host, path] ++ more)[k]).toList == (⟨#[]⟩ : ByteArray).toList) with hc126 | hc126
                · have F127 := F125.sb 57 (by kernel_rfl) (show (!((([host, path] ++ more)[k]).toList == (⟨#[]⟩ : ByteArray).toList)) = false by rw [hc126]; rfl)
                  have F128 := F127.sb 58 (by kernel_rfl) (show (!((([host, path] ++ more)[k]).toList == (⟨#[]⟩ : ByteArray).toList)) = false by rw [hc126]; rfl)
                  refine op_skip F128 (by kernel_rfl) rfl rfl rfl ?_; intro a129 F129
                  refine op_skip F129 (by kernel_rfl) rfl rfl rfl ?_; intro a130 F130
                  refine op_skip F130 (by kernel_rfl) rfl rfl rfl ?_; intro a131 F131
                  refine op_p F131 (.bool false) (by kernel_rfl) rfl rfl rfl (by kernel_rfl) rfl ?_; intro a132 F132
                  refine op_p F132 (.bool false) (by kernel_rfl) rfl rfl rfl (by kernel_rfl) rfl ?_; intro a133 F133
                  refine op_want F133 (by kernel_rfl) rfl ?_
                  refine op_p F133 (.int .i64 (↑k)) (by kernel_rfl) rfl rfl rfl (by kernel_rfl) rfl ?_; intro a134 F134
                  refine op_want F134 (by kernel_rfl) rfl ?_
                  refine op_p F134 (.bool ((↑k : Int) == 0)) (by kernel_rfl) rfl rfl rfl (by kernel_rfl) rfl ?_; intro a135 F135
                  refine op_want F135 (by kernel_rfl) rfl ?_
                  refine op_p F135 (.bool ((↑k : Int) == 0)) (by kernel_rfl) rfl rfl rfl (by kernel_rfl) rfl ?_; intro a136 F136
                  rcases btf ((↑k : Int) == 0) with hc137 | hc137
                  · have hc137p := eq_of_beq hc137
                    have F138 := F136.sb 65 (by kernel_rfl) hc137
                    have F139 := F138.sb 66 (by kernel_rfl) hc137
                    refine op_want F139 (by kernel_rfl) rfl ?_
                    refine op_p F139 (.string (([host, path] ++ more)[k])) (by kernel_rfl) rfl rfl rfl (by kernel_rfl) rfl ?_; intro a140 F140
                    refine op_want F140 (by kernel_rfl) rfl ?_
                    refine op_p F140 (.bool (!((([host, path] ++ more)[k]).toList == (⟨#[]⟩ : ByteArray).toList))) (by kernel_rfl) rfl rfl rfl (by kernel_rfl) rfl ?_; intro a141 F141
                    have F142 := F141.sb 68 (by kernel_rfl) (show (!((([host, path] ++ more)[k]).toList == (⟨#[]⟩ : ByteArray).toList)) = false by rw [hc126]; rfl)
                    refine op_want F142 (by kernel_rfl) rfl ?_
                    refine op_p F142 (.bool false) (by kernel_rfl) rfl rfl rfl (by kernel_rfl) rfl ?_; intro a143 F143
                    refine op_want F143 (by kernel_rfl) rfl ?_
                    refine op_p F143 (.bool false) (by kernel_rfl) rfl rfl rfl (by kernel_rfl) rfl ?_; intro a144 F144
                    refine op_skip F144 (by kernel_rfl) rfl rfl rfl ?_; intro a145 F145
                    refine op_skip F145 (by kernel_rfl) rfl rfl rfl ?_; intro a146 F146
                    refine op_skip F146 (by kernel_rfl) rfl rfl rfl ?_; intro a147 F147
                    refine op_want F147 (by kernel_rfl) rfl ?_
                    refine op_p F147 (.bool false) (by kernel_rfl) rfl rfl rfl (by kernel_rfl) rfl ?_; intro a148 F148
                    refine op_p F148 (.bool false) (by kernel_rfl) rfl rfl rfl (by kernel_rfl) rfl ?_; intro a149 F149
                    refine wpList_nil ?_
                    refine hK122 _ _ ?_; clear hK122 K122
                    refine wp_cond_false (F149.ev (by kernel_rfl)) ?_
                    refine wp_skip ?_
                    refine hK115 _ _ ?_; clear hK115 K115
                    refine wp_region_lit ?_
                    refine op_r (v := .int .i64 (↑(k + 1))) F149 (r_add (z := ↑(k + 1)) rfl (F149.ev (v := .int .i64 (↑k)) (by kernel_rfl)) (F149.ev (v := .int .i64 1) (by kernel_rfl)) (wr64 (by omega) (by omega) (by omega))) rfl rfl rfl ?_; intro a150 F150
                    refine op_p F150 (.int .i64 (↑(k + 1))) (by kernel_rfl) rfl rfl rfl (by kernel_rfl) rfl ?_; intro a151 F151
                    refine wpList_nil ?_
                    exact hK109 _ _ _ (by first | omega | (simp; omega)) ⟨k + 1, rfl, (F151.k 0 (by kernel_rfl) (F151.k 1 (by kernel_rfl) (F151.k 2 (by kernel_rfl) (F151.k 3 (by kernel_rfl) (F151.k 15 (by kernel_rfl) (F151.k 16 (by kernel_rfl) (F151.k 17 (by kernel_rfl) (F151.k 18 (by kernel_rfl) (F151.k 19 (by kernel_rfl) (F151.k 20 (by kernel_rfl) (F151.k 21 (by kernel_rfl) (F151.k 22 (by kernel_rfl) (F151.k 23 (by kernel_rfl) (F151.k 24 (by kernel_rfl) (F151.k 25 (by kernel_rfl) (F151.k 26 (by kernel_rfl) (F151.k 27 (by kernel_rfl) (F151.k 28 (by kernel_rfl) (F151.k 29 (by kernel_rfl) (F151.k 30 (by kernel_rfl) (F151.k 31 (by kernel_rfl) (F151.k 32 (by kernel_rfl) (F151.k 33 (by kernel_rfl) (F151.k 34 (by kernel_rfl) (F151.k 35 (by kernel_rfl) (F151.k 36 (by kernel_rfl) (F151.k 37 (by kernel_rfl) (F151.k 38 (by kernel_rfl) (F151.k 39 (by kernel_rfl) (F151.k 40 (by kernel_rfl) (F151.k 41 (by kernel_rfl) (F151.k 42 (by kernel_rfl) (F151.k 43 (by kernel_rfl) (F151.k 44 (by kernel_rfl) (F151.k 45 (by kernel_rfl) (F151.k 46 (by kernel_rfl) (F151.k 47 (by kernel_rfl) (F151.k 48 (by kernel_rfl) (F151.k 49 (by kernel_rfl) (F151.k 50 (by kernel_rfl) (F151.k 51 (by kernel_rfl) F151.nil))))))))))))))))))))))))))))))))))))))))), S109.p1.p1, (by first | omega | (with_reducible assumption) | (simp; done)), (fun j h hj => (Nat.lt_succ_iff_lt_or_eq.1 hj).elim (hA j h) (fun e => by subst e; exact (.inl hc126))), (fun _ => h_zero (by have := eq_of_beq hc137; omega) (.inl hc126))⟩
                  · have hc137p := ne_of_beq_false hc137
                    have F152 := F136.sb 65 (by kernel_rfl) hc137
                    have F153 := F152.sb 66 (by kernel_rfl) hc137
                    refine op_skip F153 (by kernel_rfl) rfl rfl rfl ?_; intro a154 F154
                    refine op_skip F154 (by kernel_rfl) rfl rfl rfl ?_; intro a155 F155
                    refine op_want F155 (by kernel_rfl) rfl ?_
                    refine op_p F155 (.bool false) (by kernel_rfl) rfl rfl rfl (by kernel_rfl) rfl ?_; intro a156 F156
                    refine op_want F156 (by kernel_rfl) rfl ?_
                    refine op_p F156 (.bool false) (by kernel_rfl) rfl rfl rfl (by kernel_rfl) rfl ?_; intro a157 F157
                    refine op_skip F157 (by kernel_rfl) rfl rfl rfl ?_; intro a158 F158
                    refine op_skip F158 (by kernel_rfl) rfl rfl rfl ?_; intro a159 F159
                    refine op_skip F159 (by kernel_rfl) rfl rfl rfl ?_; intro a160 F160
                    refine op_want F160 (by kernel_rfl) rfl ?_
                    refine op_p F160 (.bool false) (by kernel_rfl) rfl rfl rfl (by kernel_rfl) rfl ?_; intro a161 F161
                    refine op_p F161 (.bool false) (by kernel_rfl) rfl rfl rfl (by kernel_rfl) rfl ?_; intro a162 F162
                    refine wpList_nil ?_
                    refine hK122 _ _ ?_; clear hK122 K122
                    refine wp_cond_false (F162.ev (by kernel_rfl)) ?_
                    refine wp_skip ?_
                    refine hK115 _ _ ?_; clear hK115 K115
                    refine wp_region_lit ?_
                    refine op_r (v := .int .i64 (↑(k + 1))) F162 (r_add (z := ↑(k + 1)) rfl (F162.ev (v := .int .i64 (↑k)) (by kernel_rfl)) (F162.ev (v := .int .i64 1) (by kernel_rfl)) (wr64 (by omega) (by omega) (by omega))) rfl rfl rfl ?_; intro a163 F163
                    refine op_p F163 (.int .i64 (↑(k + 1))) (by kernel_rfl) rfl rfl rfl (by kernel_rfl) rfl ?_; intro a164 F164
                    refine wpList_nil ?_
                    exact hK109 _ _ _ (by first | omega | (simp; omega)) ⟨k + 1, rfl, (F164.k 0 (by kernel_rfl) (F164.k 1 (by kernel_rfl) (F164.k 2 (by kernel_rfl) (F164.k 3 (by kernel_rfl) (F164.k 15 (by kernel_rfl) (F164.k 16 (by kernel_rfl) (F164.k 17 (by kernel_rfl) (F164.k 18 (by kernel_rfl) (F164.k 19 (by kernel_rfl) (F164.k 20 (by kernel_rfl) (F164.k 21 (by kernel_rfl) (F164.k 22 (by kernel_rfl) (F164.k 23 (by kernel_rfl) (F164.k 24 (by kernel_rfl) (F164.k 25 (by kernel_rfl) (F164.k 26 (by kernel_rfl) (F164.k 27 (by kernel_rfl) (F164.k 28 (by kernel_rfl) (F164.k 29 (by kernel_rfl) (F164.k 30 (by kernel_rfl) (F164.k 31 (by kernel_rfl) (F164.k 32 (by kernel_rfl) (F164.k 33 (by kernel_rfl) (F164.k 34 (by kernel_rfl) (F164.k 35 (by kernel_rfl) (F164.k 36 (by kernel_rfl) (F164.k 37 (by kernel_rfl) (F164.k 38 (by kernel_rfl) (F164.k 39 (by kernel_rfl) (F164.k 40 (by kernel_rfl) (F164.k 41 (by kernel_rfl) (F164.k 42 (by kernel_rfl) (F164.k 43 (by kernel_rfl) (F164.k 44 (by kernel_rfl) (F164.k 45 (by kernel_rfl) (F164.k 46 (by kernel_rfl) (F164.k 47 (by kernel_rfl) (F164.k 48 (by kernel_rfl) (F164.k 49 (by kernel_rfl) (F164.k 50 (by kernel_rfl) (F164.k 51 (by kernel_rfl) F164.nil))))))))))))))))))))))))))))))))))))))))), S109.p1.p1, (by first | omega | (with_reducible assumption) | (simp; done)), (fun j h hj => (Nat.lt_succ_iff_lt_or_eq.1 hj).elim (hA j h) (fun e => by subst e; exact (.inl hc126))), (fun _ => hB (by have := beq_eq_false_iff_ne.1 hc137; omega))⟩
                · have F165 := F125.sb 57 (by kernel_rfl) (show (!((([host, path] ++ more)[k]).toList == (⟨#[]⟩ : ByteArray).toList)) = true by rw [hc126]; rfl)
                  have F166 := F165.sb 58 (by kernel_rfl) (show (!((([host, path] ++ more)[k]).toList == (⟨#[]⟩ : ByteArray).toList)) = true by rw [hc126]; rfl)
                  refine op_want F166 (by kernel_rfl) rfl ?_
                  refine op_p F166 (.string (([host, path] ++ more)[k])) (by kernel_rfl) rfl rfl rfl (by kernel_rfl) rfl ?_; intro a167 F167
                  refine op_want F167 (by kernel_rfl) rfl ?_
                  refine op_c F167 (f := 28) (args := #[.string (([host, path] ++ more)[k]), .string ⟨#[47, 46, 45, 95]⟩]) (by kernel_rfl) (by kernel_rfl) rfl (hlAll_any (([host, path] ++ more)[k]) ⟨#[47, 46, 45, 95]⟩ _ (by omega) (by decide)) rfl rfl rfl ?_
                  rintro _ _ ⟨rfl, rfl⟩
                  refine ⟨_, rfl, ?_⟩
                  intro a169 F169
                  refine op_want F169 (by kernel_rfl) rfl ?_
                  refine op_p F169 (.bool (!(allB (([host, path] ++ more)[k]) ⟨#[47, 46, 45, 95]⟩))) (by kernel_rfl) rfl rfl rfl (by kernel_rfl) rfl ?_; intro a170 F170
                  refine op_p F170 (.bool (!(allB (([host, path] ++ more)[k]) ⟨#[47, 46, 45, 95]⟩))) (by kernel_rfl) rfl rfl rfl (by kernel_rfl) rfl ?_; intro a171 F171
                  refine op_p F171 (.bool (!(allB (([host, path] ++ more)[k]) ⟨#[47, 46, 45, 95]⟩))) (by kernel_rfl) rfl rfl rfl (by kernel_rfl) rfl ?_; intro a172 F172
                  rcases btf (allB (([host, path] ++ more)[k]) ⟨#[47, 46, 45, 95]⟩) with hc173 | hc173
                  · have F174 := F172.sb 60 (by kernel_rfl) hc173
                    have F175 := F174.sb 61 (by kernel_rfl) (show (!(allB (([host, path] ++ more)[k]) ⟨#[47, 46, 45, 95]⟩)) = false by rw [hc173]; rfl)
                    have F176 := F175.sb 62 (by kernel_rfl) (show (!(allB (([host, path] ++ more)[k]) ⟨#[47, 46, 45, 95]⟩)) = false by rw [hc173]; rfl)
                    have F177 := F176.sb 63 (by kernel_rfl) (show (!(allB (([host, path] ++ more)[k]) ⟨#[47, 46, 45, 95]⟩)) = false by rw [hc173]; rfl)
                    refine op_want F177 (by kernel_rfl) rfl ?_
                    refine op_p F177 (.int .i64 (↑k)) (by kernel_rfl) rfl rfl rfl (by kernel_rfl) rfl ?_; intro a178 F178
                    refine op_want F178 (by kernel_rfl) rfl ?_
                    refine op_p F178 (.bool ((↑k : Int) == 0)) (by kernel_rfl) rfl rfl rfl (by kernel_rfl) rfl ?_; intro a179 F179
                    refine op_want F179 (by kernel_rfl) rfl ?_
                    refine op_p F179 (.bool ((↑k : Int) == 0)) (by kernel_rfl) rfl rfl rfl (by kernel_rfl) rfl ?_; intro a180 F180
                    rcases btf ((↑k : Int) == 0) with hc181 | hc181
                    · have hc181p := eq_of_beq hc181
                      have F182 := F180.sb 65 (by kernel_rfl) hc181
                      have F183 := F182.sb 66 (by kernel_rfl) hc181
                      refine op_want F183 (by kernel_rfl) rfl ?_
                      refine op_p F183 (.string (([host, path] ++ more)[k])) (by kernel_rfl) rfl rfl rfl (by kernel_rfl) rfl ?_; intro a184 F184
                      refine op_want F184 (by kernel_rfl) rfl ?_
                      refine op_p F184 (.bool (!((([host, path] ++ more)[k]).toList == (⟨#[]⟩ : ByteArray).toList))) (by kernel_rfl) rfl rfl rfl (by kernel_rfl) rfl ?_; intro a185 F185
                      have F186 := F185.sb 68 (by kernel_rfl) (show (!((([host, path] ++ more)[k]).toList == (⟨#[]⟩ : ByteArray).toList)) = true by rw [hc126]; rfl)
                      refine op_want F186 (by kernel_rfl) rfl ?_
                      refine op_p F186 (.bool true) (by kernel_rfl) rfl rfl rfl (by kernel_rfl) rfl ?_; intro a187 F187
                      refine op_want F187 (by kernel_rfl) rfl ?_
                      refine op_p F187 (.bool true) (by kernel_rfl) rfl rfl rfl (by kernel_rfl) rfl ?_; intro a188 F188
                      refine op_want F188 (by kernel_rfl) rfl ?_
                      refine op_p F188 (.string (([host, path] ++ more)[k])) (by kernel_rfl) rfl rfl rfl (by kernel_rfl) rfl ?_; intro a189 F189
                      refine op_want F189 (by kernel_rfl) rfl ?_
                      refine op_c F189 (f := 28) (args := #[.string (([host, path] ++ more)[k]), .string ⟨#[]⟩]) (by kernel_rfl) (by kernel_rfl) rfl (hlAll_any (([host, path] ++ more)[k]) ⟨#[]⟩ _ (by omega) (by decide)) rfl rfl rfl ?_
                      rintro _ _ ⟨rfl, rfl⟩
                      refine ⟨_, rfl, ?_⟩
                      intro a191 F191
                      refine op_want F191 (by kernel_rfl) rfl ?_
                      refine op_p F191 (.bool (!(allB (([host, path] ++ more)[k]) ⟨#[]⟩))) (by kernel_rfl) rfl rfl rfl (by kernel_rfl) rfl ?_; intro a192 F192
                      refine op_want F192 (by kernel_rfl) rfl ?_
                      refine op_p F192 (.bool (!(allB (([host, path] ++ more)[k]) ⟨#[]⟩))) (by kernel_rfl) rfl rfl rfl (by kernel_rfl) rfl ?_; intro a193 F193
                      refine op_p F193 (.bool (!(allB (([host, path] ++ more)[k]) ⟨#[]⟩))) (by kernel_rfl) rfl rfl rfl (by kernel_rfl) rfl ?_; intro a194 F194
                      refine wpList_nil ?_
                      refine hK122 _ _ ?_; clear hK122 K122
                      rcases btf (allB (([host, path] ++ more)[k]) ⟨#[]⟩) with hc195 | hc195
                      · have F196 := F194.sb 72 (by kernel_rfl) hc195
                        have F197 := F196.sb 73 (by kernel_rfl) (show (!(allB (([host, path] ++ more)[k]) ⟨#[]⟩)) = false by rw [hc195]; rfl)
                        have F198 := F197.sb 74 (by kernel_rfl) (show (!(allB (([host, path] ++ more)[k]) ⟨#[]⟩)) = false by rw [hc195]; rfl)
                        have F199 := F198.sb 75 (by kernel_rfl) (show (!(allB (([host, path] ++ more)[k]) ⟨#[]⟩)) = false by rw [hc195]; rfl)
                        refine wp_cond_false (F199.ev (by kernel_rfl)) ?_
                        refine wp_skip ?_
                        refine hK115 _ _ ?_; clear hK115 K115
                        refine wp_region_lit ?_
                        refine op_r (v := .int .i64 (↑(k + 1))) F199 (r_add (z := ↑(k + 1)) rfl (F199.ev (v := .int .i64 (↑k)) (by kernel_rfl)) (F199.ev (v := .int .i64 1) (by kernel_rfl)) (wr64 (by omega) (by omega) (by omega))) rfl rfl rfl ?_; intro a200 F200
                        refine op_p F200 (.int .i64 (↑(k + 1))) (by kernel_rfl) rfl rfl rfl (by kernel_rfl) rfl ?_; intro a201 F201
                        refine wpList_nil ?_
                        exact hK109 _ _ _ (by first | omega | (simp; omega)) ⟨k + 1, rfl, (F201.k 0 (by kernel_rfl) (F201.k 1 (by kernel_rfl) (F201.k 2 (by kernel_rfl) (F201.k 3 (by kernel_rfl) (F201.k 15 (by kernel_rfl) (F201.k 16 (by kernel_rfl) (F201.k 17 (by kernel_rfl) (F201.k 18 (by kernel_rfl) (F201.k 19 (by kernel_rfl) (F201.k 20 (by kernel_rfl) (F201.k 21 (by kernel_rfl) (F201.k 22 (by kernel_rfl) (F201.k 23 (by kernel_rfl) (F201.k 24 (by kernel_rfl) (F201.k 25 (by kernel_rfl) (F201.k 26 (by kernel_rfl) (F201.k 27 (by kernel_rfl) (F201.k 28 (by kernel_rfl) (F201.k 29 (by kernel_rfl) (F201.k 30 (by kernel_rfl) (F201.k 31 (by kernel_rfl) (F201.k 32 (by kernel_rfl) (F201.k 33 (by kernel_rfl) (F201.k 34 (by kernel_rfl) (F201.k 35 (by kernel_rfl) (F201.k 36 (by kernel_rfl) (F201.k 37 (by kernel_rfl) (F201.k 38 (by kernel_rfl) (F201.k 39 (by kernel_rfl) (F201.k 40 (by kernel_rfl) (F201.k 41 (by kernel_rfl) (F201.k 42 (by kernel_rfl) (F201.k 43 (by kernel_rfl) (F201.k 44 (by kernel_rfl) (F201.k 45 (by kernel_rfl) (F201.k 46 (by kernel_rfl) (F201.k 47 (by kernel_rfl) (F201.k 48 (by kernel_rfl) (F201.k 49 (by kernel_rfl) (F201.k 50 (by kernel_rfl) (F201.k 51 (by kernel_rfl) F201.nil))))))))))))))))))))))))))))))))))))))))), S109.p1.p1, (by first | omega | (with_reducible assumption) | (simp; done)), (fun j h hj => (Nat.lt_succ_iff_lt_or_eq.1 hj).elim (hA j h) (fun e => by subst e; exact (.inr hc173))), (fun _ => h_zero (by have := eq_of_beq hc181; omega) (.inr hc195))⟩
                      · have F202 := F194.sb 72 (by kernel_rfl) hc195
                        have F203 := F202.sb 73 (by kernel_rfl) (show (!(allB (([host, path] ++ more)[k]) ⟨#[]⟩)) = true by rw [hc195]; rfl)
                        have F204 := F203.sb 74 (by kernel_rfl) (show (!(allB (([host, path] ++ more)[k]) ⟨#[]⟩)) = true by rw [hc195]; rfl)
                        have F205 := F204.sb 75 (by kernel_rfl) (show (!(allB (([host, path] ++ more)[k]) ⟨#[]⟩)) = true by rw [hc195]; rfl)
                        refine wp_cond_true (F205.ev (by kernel_rfl)) ?_
                        refine wp_seq_k fun K206 hK206 => ?_
                        refine wp_region_lit ?_
                        refine op_p F205 (.bool true) (by kernel_rfl) rfl rfl rfl (by kernel_rfl) rfl ?_; intro a207 F207
                        refine wpList_nil ?_
                        refine hK206 _ _ ?_; clear hK206 K206
                        refine wp_ret ?_
                        refine ret_in ?_
                        refine ret_then ?_
                        refine ret_then ?_
                        refine ret_in ?_
                        refine ret_then ?_
                        refine (F207.res1 rfl (v := .bool true) (by kernel_rfl) ?_).1
                        exact ⟨rfl, S109.drop.drop⟩
                    · have hc181p := ne_of_beq_false hc181
                      have F208 := F180.sb 65 (by kernel_rfl) hc181
                      have F209 := F208.sb 66 (by kernel_rfl) hc181
                      refine op_skip F209 (by kernel_rfl) rfl rfl rfl ?_; intro a210 F210
                      refine op_skip F210 (by kernel_rfl) rfl rfl rfl ?_; intro a211 F211
                      refine op_want F211 (by kernel_rfl) rfl ?_
                      refine op_p F211 (.bool false) (by kernel_rfl) rfl rfl rfl (by kernel_rfl) rfl ?_; intro a212 F212
                      refine op_want F212 (by kernel_rfl) rfl ?_
                      refine op_p F212 (.bool false) (by kernel_rfl) rfl rfl rfl (by kernel_rfl) rfl ?_; intro a213 F213
                      refine op_skip F213 (by kernel_rfl) rfl rfl rfl ?_; intro a214 F214
                      refine op_skip F214 (by kernel_rfl) rfl rfl rfl ?_; intro a215 F215
                      refine op_skip F215 (by kernel_rfl) rfl rfl rfl ?_; intro a216 F216
                      refine op_want F216 (by kernel_rfl) rfl ?_
                      refine op_p F216 (.bool false) (by kernel_rfl) rfl rfl rfl (by kernel_rfl) rfl ?_; intro a217 F217
                      refine op_p F217 (.bool false) (by kernel_rfl) rfl rfl rfl (by kernel_rfl) rfl ?_; intro a218 F218
                      refine wpList_nil ?_
                      refine hK122 _ _ ?_; clear hK122 K122
                      refine wp_cond_false (F218.ev (by kernel_rfl)) ?_
                      refine wp_skip ?_
                      refine hK115 _ _ ?_; clear hK115 K115
                      refine wp_region_lit ?_
                      refine op_r (v := .int .i64 (↑(k + 1))) F218 (r_add (z := ↑(k + 1)) rfl (F218.ev (v := .int .i64 (↑k)) (by kernel_rfl)) (F218.ev (v := .int .i64 1) (by kernel_rfl)) (wr64 (by omega) (by omega) (by omega))) rfl rfl rfl ?_; intro a219 F219
                      refine op_p F219 (.int .i64 (↑(k + 1))) (by kernel_rfl) rfl rfl rfl (by kernel_rfl) rfl ?_; intro a220 F220
                      refine wpList_nil ?_
                      exact hK109 _ _ _ (by first | omega | (simp; omega)) ⟨k + 1, rfl, (F220.k 0 (by kernel_rfl) (F220.k 1 (by kernel_rfl) (F220.k 2 (by kernel_rfl) (F220.k 3 (by kernel_rfl) (F220.k 15 (by kernel_rfl) (F220.k 16 (by kernel_rfl) (F220.k 17 (by kernel_rfl) (F220.k 18 (by kernel_rfl) (F220.k 19 (by kernel_rfl) (F220.k 20 (by kernel_rfl) (F220.k 21 (by kernel_rfl) (F220.k 22 (by kernel_rfl) (F220.k 23 (by kernel_rfl) (F220.k 24 (by kernel_rfl) (F220.k 25 (by kernel_rfl) (F220.k 26 (by kernel_rfl) (F220.k 27 (by kernel_rfl) (F220.k 28 (by kernel_rfl) (F220.k 29 (by kernel_rfl) (F220.k 30 (by kernel_rfl) (F220.k 31 (by kernel_rfl) (F220.k 32 (by kernel_rfl) (F220.k 33 (by kernel_rfl) (F220.k 34 (by kernel_rfl) (F220.k 35 (by kernel_rfl) (F220.k 36 (by kernel_rfl) (F220.k 37 (by kernel_rfl) (F220.k 38 (by kernel_rfl) (F220.k 39 (by kernel_rfl) (F220.k 40 (by kernel_rfl) (F220.k 41 (by kernel_rfl) (F220.k 42 (by kernel_rfl) (F220.k 43 (by kernel_rfl) (F220.k 44 (by kernel_rfl) (F220.k 45 (by kernel_rfl) (F220.k 46 (by kernel_rfl) (F220.k 47 (by kernel_rfl) (F220.k 48 (by kernel_rfl) (F220.k 49 (by kernel_rfl) (F220.k 50 (by kernel_rfl) (F220.k 51 (by kernel_rfl) F220.nil))))))))))))))))))))))))))))))))))))))))), S109.p1.p1, (by first | omega | (with_reducible assumption) | (simp; done)), (fun j h hj => (Nat.lt_succ_iff_lt_or_eq.1 hj).elim (hA j h) (fun e => by subst e; exact (.inr hc173))), (fun _ => hB (by have := beq_eq_false_iff_ne.1 hc181; omega))⟩
                  · have F221 := F172.sb 60 (by kernel_rfl) hc173
                    have F222 := F221.sb 61 (by kernel_rfl) (show (!(allB (([host, path] ++ more)[k]) ⟨#[47, 46, 45, 95]⟩)) = true by rw [hc173]; rfl)
                    have F223 := F222.sb 62 (by kernel_rfl) (show (!(allB (([host, path] ++ more)[k]) ⟨#[47, 46, 45, 95]⟩)) = true by rw [hc173]; rfl)
                    have F224 := F223.sb 63 (by kernel_rfl) (show (!(allB (([host, path] ++ more)[k]) ⟨#[47, 46, 45, 95]⟩)) = true by rw [hc173]; rfl)
                    refine op_skip F224 (by kernel_rfl) rfl rfl rfl ?_; intro a225 F225
                    refine op_skip F225 (by kernel_rfl) rfl rfl rfl ?_; intro a226 F226
                    refine op_skip F226 (by kernel_rfl) rfl rfl rfl ?_; intro a227 F227
                    refine op_skip F227 (by kernel_rfl) rfl rfl rfl ?_; intro a228 F228
                    refine op_skip F228 (by kernel_rfl) rfl rfl rfl ?_; intro a229 F229
                    refine op_skip F229 (by kernel_rfl) rfl rfl rfl ?_; intro a230 F230
                    refine op_skip F230 (by kernel_rfl) rfl rfl rfl ?_; intro a231 F231
                    refine op_skip F231 (by kernel_rfl) rfl rfl rfl ?_; intro a232 F232
                    refine op_skip F232 (by kernel_rfl) rfl rfl rfl ?_; intro a233 F233
                    refine op_skip F233 (by kernel_rfl) rfl rfl rfl ?_; intro a234 F234
                    refine op_skip F234 (by kernel_rfl) rfl rfl rfl ?_; intro a235 F235
                    refine op_p F235 (.bool true) (by kernel_rfl) rfl rfl rfl (by kernel_rfl) rfl ?_; intro a236 F236
                    refine wpList_nil ?_
                    refine hK122 _ _ ?_; clear hK122 K122
                    refine wp_cond_true (F236.ev (by kernel_rfl)) ?_
                    refine wp_seq_k fun K237 hK237 => ?_
                    refine wp_region_lit ?_
                    refine op_p F236 (.bool true) (by kernel_rfl) rfl rfl rfl (by kernel_rfl) rfl ?_; intro a238 F238
                    refine wpList_nil ?_
                    refine hK237 _ _ ?_; clear hK237 K237
                    refine wp_ret ?_
                    refine ret_in ?_
                    refine ret_then ?_
                    refine ret_then ?_
                    refine ret_in ?_
                    refine ret_then ?_
                    refine (F238.res1 rfl (v := .bool true) (by kernel_rfl) ?_).1
                    exact ⟨rfl, S109.drop.drop⟩
              · have hc_k : decide ((↑k : Int) < ↑(([host, path] ++ more).length)) = false := by first | (simp; done) | (simp; omega)
                have hall := okx_all (by omega) hA
                have hw := hall.1
                have hpx := hall.2
                have hhx := hB (by simp at *; omega)
                have hxs : ∀ x ∈ [path] ++ more, x.size ≤ 300 := fun x hx => by have := hsz x (by simp at hx ⊢; exact .inr hx); omega
                have hm : more.length ≤ 20 := by simp at *; omega
                refine wp_seq_k fun K239 hK239 => ?_
                refine wp_region_lit ?_
                refine op_p F109 (.bool (decide ((↑k : Int) < ↑(([host, path] ++ more).length)))) (by kernel_rfl) rfl rfl rfl (by kernel_rfl) rfl ?_; intro a240 F240
                have F241 := F240.sb 52 (by kernel_rfl) hc_k
                refine wpList_nil ?_
                refine hK239 _ _ ?_; clear hK239 K239
                refine wp_seq_k fun K242 hK242 => ?_
                refine wp_cond_false (F241.ev (by kernel_rfl)) ?_
                refine wp_exit ?_
                refine ex_then ?_; clear hK242 K242
                refine ex_then ?_
                refine ex_in ?_
                refine hK98 _ _ ?_; clear hK98 K98
                refine wp_seq_k fun K243 hK243 => ?_
                refine wp_seq_k fun K244 hK244 => ?_
                refine wp_region_lit ?_
                refine op_p F241 (.string host) (by kernel_rfl) rfl rfl rfl (by kernel_rfl) rfl ?_; intro a245 F245
                refine op_p F245 (.int .i64 (↑host.size)) (by kernel_rfl) rfl rfl rfl (by kernel_rfl) rfl ?_; intro a246 F246
                refine op_p F246 (.int .i64 0) (by kernel_rfl) rfl rfl rfl (by kernel_rfl) rfl ?_; intro a247 F247
                refine wpList_nil ?_
                refine hK244 _ _ ?_; clear hK244 K244
                refine wp_block ?_
                refine fw_loop (fun m a' w' => ∃ i : Nat, host.size - i = m ∧ Fr 136 [] a' [(0, .string host), (1, .string path), (2, .slice (A) (more.length) (c)), (3, .bool b), (15, .string host), (16, .int .i64 (↑host.size)), (17, .bool false), (18, .bool false), (19, .string path), (20, .int .i64 (↑path.size)), (21, .bool false), (22, .bool false), (23, .bool false), (24, .slice (A) (more.length) (c)), (25, .bool true), (26, .bool false), (27, .bool false), (28, .string host), (29, .string path), (30, .slice (some ⟨g55, 0, none⟩) 2 2), (31, .slice (A) (more.length) (c)), (32, .slice A59 (([host, path] ++ more).length) c59), (33, .bool true), (34, .bool false), (35, .bool false), (36, .slice (A) (more.length) (c)), (37, .int .i64 (↑more.length)), (38, .bool false), (39, .bool false), (40, .bool false), (41, .string host), (42, .int .i64 (↑host.size)), (43, .bool false), (44, .bool false), (45, .string host), (46, .string path), (47, .slice (some ⟨g101, 0, none⟩) 2 2), (48, .slice (A) (more.length) (c)), (49, .slice A105 (([host, path] ++ more).length) c105), (50, .int .i64 (↑(([host, path] ++ more).length))), (51, .int .i64 (↑k)), (52, .bool false), (77, .string host), (78, .int .i64 (↑host.size)), (79, .int .i64 (↑i))] ∧ Sp R w' (SA.own (.slice A105 (([host, path] ++ more).length) c105) 9 1 (([host, path] ++ more).length) (strs ([host, path] ++ more)) :: SA.own (.slice A59 (([host, path] ++ more).length) c59) 9 1 (([host, path] ++ more).length) (strs ([host, path] ++ more)) :: L) ∧ (i ≤ host.size)) _ ⟨0, rfl, (F247.k 0 (by kernel_rfl) (F247.k 1 (by kernel_rfl) (F247.k 2 (by kernel_rfl) (F247.k 3 (by kernel_rfl) (F247.k 15 (by kernel_rfl) (F247.k 16 (by kernel_rfl) (F247.k 17 (by kernel_rfl) (F247.k 18 (by kernel_rfl) (F247.k 19 (by kernel_rfl) (F247.k 20 (by kernel_rfl) (F247.k 21 (by kernel_rfl) (F247.k 22 (by kernel_rfl) (F247.k 23 (by kernel_rfl) (F247.k 24 (by kernel_rfl) (F247.k 25 (by kernel_rfl) (F247.k 26 (by kernel_rfl) (F247.k 27 (by kernel_rfl) (F247.k 28 (by kernel_rfl) (F247.k 29 (by kernel_rfl) (F247.k 30 (by kernel_rfl) (F247.k 31 (by kernel_rfl) (F247.k 32 (by kernel_rfl) (F247.k 33 (by kernel_rfl) (F247.k 34 (by kernel_rfl) (F247.k 35 (by kernel_rfl) (F247.k 36 (by kernel_rfl) (F247.k 37 (by kernel_rfl) (F247.k 38 (by kernel_rfl) (F247.k 39 (by kernel_rfl) (F247.k 40 (by kernel_rfl) (F247.k 41 (by kernel_rfl) (F247.k 42 (by kernel_rfl) (F247.k 43 (by kernel_rfl) (F247.k 44 (by kernel_rfl) (F247.k 45 (by kernel_rfl) (F247.k 46 (by kernel_rfl) (F247.k 47 (by kernel_rfl) (F247.k 48 (by kernel_rfl) (F247.k 49 (by kernel_rfl) (F247.k 50 (by kernel_rfl) (F247.k 51 (by kernel_rfl) (F247.k 52 (by kernel_rfl) (F247.k 77 (by kernel_rfl) (F247.k 78 (by kernel_rfl) (F247.k 79 (by kernel_rfl) F247.nil))))))))))))))))))))))))))))))))))))))))))))), S109.p1.p1, (by first | omega | (with_reducible assumption) | (simp; done))⟩ ?_
                rintro m248 a248 w248 ⟨i, hm248, F248, S248, hi⟩ K248 hK248
                by_cases hlt_i : i < host.size
                · have hc_i : decide ((↑i : Int) < ↑host.size) = true := by first | (simp; done) | (simp; omega)
                  refine wp_seq_k fun K249 hK249 => ?_
                  refine wp_region_lit ?_
                  refine op_p F248 (.bool (decide ((↑i : Int) < ↑host.size))) (by kernel_rfl) rfl rfl rfl (by kernel_rfl) rfl ?_; intro a250 F250
                  have F251 := F250.sb 80 (by kernel_rfl) hc_i
                  refine wpList_nil ?_
                  refine hK249 _ _ ?_; clear hK249 K249
                  refine wp_seq_k fun K252 hK252 => ?_
                  refine wp_cond_true (F251.ev (by kernel_rfl)) ?_
                  refine wp_skip ?_
                  refine hK252 _ _ ?_; clear hK252 K252
                  refine wp_seq_k fun K253 hK253 => ?_
                  refine wp_block ?_
                  refine wp_seq_k fun K254 hK254 => ?_
                  refine wp_region_lit ?_
                  refine op_p F251 (.int .i64 (↑i)) (by kernel_rfl) rfl rfl rfl (by kernel_rfl) rfl ?_; intro a255 F255
                  refine op_p F255 (.int .i64 (↑i)) (by kernel_rfl) rfl rfl rfl (by kernel_rfl) rfl ?_; intro a256 F256
                  refine wpList_nil ?_
                  refine hK254 _ _ ?_; clear hK254 K254
                  refine wp_seq_k fun K257 hK257 => ?_
                  refine wp_region_lit ?_
                  refine op_p F256 (.string host) (by kernel_rfl) rfl rfl rfl (by kernel_rfl) rfl ?_; intro a258 F258
                  refine op_p F258 (.int .i64 (↑i)) (by kernel_rfl) rfl rfl rfl (by kernel_rfl) rfl ?_; intro a259 F259
                  refine op_r (v := .int .u8 (↑host[i].toNat)) F259 (r_index rfl Try.underlying9 (F259.ev (v := .string host) (by kernel_rfl)) (F259.ev (v := .int .i64 (↑i)) (by kernel_rfl)) i (by first | rfl | omega | simp) (by first | omega | (simp; done) | (simp; omega))) rfl rfl rfl ?_; intro a260 F260
                  refine op_p F260 (.bool (decide ((↑host[i].toNat : Int) < 97))) (by kernel_rfl) rfl rfl rfl (by kernel_rfl) rfl ?_; intro a261 F261
                  refine op_p F261 (.bool (decide ((↑host[i].toNat : Int) < 97))) (by kernel_rfl) rfl rfl rfl (by kernel_rfl) rfl ?_; intro a262 F262
                  rcases btf (decide ((↑host[i].toNat : Int) < 97)) with hc263 | hc263
                  · have hc263p := of_decide_eq_true hc263
                    have F264 := F262.sb 85 (by kernel_rfl) hc263
                    have F265 := F264.sb 86 (by kernel_rfl) hc263
                    refine op_skip F265 (by kernel_rfl) rfl rfl rfl ?_; intro a266 F266
                    refine op_skip F266 (by kernel_rfl) rfl rfl rfl ?_; intro a267 F267
                    refine op_skip F267 (by kernel_rfl) rfl rfl rfl ?_; intro a268 F268
                    refine op_skip F268 (by kernel_rfl) rfl rfl rfl ?_; intro a269 F269
                    refine op_p F269 (.bool true) (by kernel_rfl) rfl rfl rfl (by kernel_rfl) rfl ?_; intro a270 F270
                    refine wpList_nil ?_
                    refine hK257 _ _ ?_; clear hK257 K257
                    refine wp_cond_true (F270.ev (by kernel_rfl)) ?_
                    refine wp_seq_k fun K271 hK271 => ?_
                    refine wp_region_lit ?_
                    refine op_p F270 (.bool true) (by kernel_rfl) rfl rfl rfl (by kernel_rfl) rfl ?_; intro a272 F272
                    refine wpList_nil ?_
                    refine hK271 _ _ ?_; clear hK271 K271
                    refine wp_ret ?_
                    refine ret_in ?_
                    refine ret_then ?_
                    refine ret_then ?_
                    refine ret_in ?_
                    refine ret_then ?_
                    refine (F272.res1 rfl (v := .bool true) (by kernel_rfl) ?_).1
                    exact ⟨rfl, S248.drop.drop⟩
                  · have hc263p := of_decide_eq_false hc263
                    have F273 := F262.sb 85 (by kernel_rfl) hc263
                    have F274 := F273.sb 86 (by kernel_rfl) hc263
                    refine op_want F274 (by kernel_rfl) rfl ?_
                    refine op_p F274 (.string host) (by kernel_rfl) rfl rfl rfl (by kernel_rfl) rfl ?_; intro a275 F275
                    refine op_want F275 (by kernel_rfl) rfl ?_
                    refine op_p F275 (.int .i64 (↑i)) (by kernel_rfl) rfl rfl rfl (by kernel_rfl) rfl ?_; intro a276 F276
                    refine op_want F276 (by kernel_rfl) rfl ?_
                    refine op_r (v := .int .u8 (↑host[i].toNat)) F276 (r_index rfl Try.underlying9 (F276.ev (v := .string host) (by kernel_rfl)) (F276.ev (v := .int .i64 (↑i)) (by kernel_rfl)) i (by first | rfl | omega | simp) (by first | omega | (simp; done) | (simp; omega))) rfl rfl rfl ?_; intro a277 F277
                    refine op_want F277 (by kernel_rfl) rfl ?_
                    refine op_p F277 (.bool (decide ((122 : Int) < ↑host[i].toNat))) (by kernel_rfl) rfl rfl rfl (by kernel_rfl) rfl ?_; intro a278 F278
                    refine op_p F278 (.bool (decide ((122 : Int) < ↑host[i].toNat))) (by kernel_rfl) rfl rfl rfl (by kernel_rfl) rfl ?_; intro a279 F279
                    refine wpList_nil ?_
                    refine hK257 _ _ ?_; clear hK257 K257
                    rcases btf (decide ((122 : Int) < ↑host[i].toNat)) with hc280 | hc280
                    · have hc280p := of_decide_eq_true hc280
                      have F281 := F279.sb 90 (by kernel_rfl) hc280
                      have F282 := F281.sb 91 (by kernel_rfl) hc280
                      refine wp_cond_true (F282.ev (by kernel_rfl)) ?_
                      refine wp_seq_k fun K283 hK283 => ?_
                      refine wp_region_lit ?_
                      refine op_p F282 (.bool true) (by kernel_rfl) rfl rfl rfl (by kernel_rfl) rfl ?_; intro a284 F284
                      refine wpList_nil ?_
                      refine hK283 _ _ ?_; clear hK283 K283
                      refine wp_ret ?_
                      refine ret_in ?_
                      refine ret_then ?_
                      refine ret_then ?_
                      refine ret_in ?_
                      refine ret_then ?_
                      refine (F284.res1 rfl (v := .bool true) (by kernel_rfl) ?_).1
                      exact ⟨rfl, S248.drop.drop⟩
                    · have hc280p := of_decide_eq_false hc280
                      have F285 := F279.sb 90 (by kernel_rfl) hc280
                      have F286 := F285.sb 91 (by kernel_rfl) hc280
                      refine wp_cond_false (F286.ev (by kernel_rfl)) ?_
                      refine wp_skip ?_
                      refine hK253 _ _ ?_; clear hK253 K253
                      refine wp_region_lit ?_
                      refine op_r (v := .int .i64 (↑(i + 1))) F286 (r_add (z := ↑(i + 1)) rfl (F286.ev (v := .int .i64 (↑i)) (by kernel_rfl)) (F286.ev (v := .int .i64 1) (by kernel_rfl)) (wr64 (by omega) (by omega) (by omega))) rfl rfl rfl ?_; intro a287 F287
                      refine op_p F287 (.int .i64 (↑(i + 1))) (by kernel_rfl) rfl rfl rfl (by kernel_rfl) rfl ?_; intro a288 F288
                      refine wpList_nil ?_
                      exact hK248 _ _ _ (by first | omega | (simp; omega)) ⟨i + 1, rfl, (F288.k 0 (by kernel_rfl) (F288.k 1 (by kernel_rfl) (F288.k 2 (by kernel_rfl) (F288.k 3 (by kernel_rfl) (F288.k 15 (by kernel_rfl) (F288.k 16 (by kernel_rfl) (F288.k 17 (by kernel_rfl) (F288.k 18 (by kernel_rfl) (F288.k 19 (by kernel_rfl) (F288.k 20 (by kernel_rfl) (F288.k 21 (by kernel_rfl) (F288.k 22 (by kernel_rfl) (F288.k 23 (by kernel_rfl) (F288.k 24 (by kernel_rfl) (F288.k 25 (by kernel_rfl) (F288.k 26 (by kernel_rfl) (F288.k 27 (by kernel_rfl) (F288.k 28 (by kernel_rfl) (F288.k 29 (by kernel_rfl) (F288.k 30 (by kernel_rfl) (F288.k 31 (by kernel_rfl) (F288.k 32 (by kernel_rfl) (F288.k 33 (by kernel_rfl) (F288.k 34 (by kernel_rfl) (F288.k 35 (by kernel_rfl) (F288.k 36 (by kernel_rfl) (F288.k 37 (by kernel_rfl) (F288.k 38 (by kernel_rfl) (F288.k 39 (by kernel_rfl) (F288.k 40 (by kernel_rfl) (F288.k 41 (by kernel_rfl) (F288.k 42 (by kernel_rfl) (F288.k 43 (by kernel_rfl) (F288.k 44 (by kernel_rfl) (F288.k 45 (by kernel_rfl) (F288.k 46 (by kernel_rfl) (F288.k 47 (by kernel_rfl) (F288.k 48 (by kernel_rfl) (F288.k 49 (by kernel_rfl) (F288.k 50 (by kernel_rfl) (F288.k 51 (by kernel_rfl) (F288.k 52 (by kernel_rfl) (F288.k 77 (by kernel_rfl) (F288.k 78 (by kernel_rfl) (F288.k 79 (by kernel_rfl) F288.nil))))))))))))))))))))))))))))))))))))))))))))), S248.p1.p1, (by first | omega | (with_reducible assumption) | (simp; done))⟩
                · have hc_i : decide ((↑i : Int) < ↑host.size) = false := by first | (simp; done) | (simp; omega)
                  obtain rfl : i = host.size := by omega
                  refine wp_seq_k fun K289 hK289 => ?_
                  refine wp_region_lit ?_
                  refine op_p F248 (.bool (decide ((↑host.size : Int) < ↑host.size))) (by kernel_rfl) rfl rfl rfl (by kernel_rfl) rfl ?_; intro a290 F290
                  have F291 := F290.sb 80 (by kernel_rfl) hc_i
                  refine wpList_nil ?_
                  refine hK289 _ _ ?_; clear hK289 K289
                  refine wp_seq_k fun K292 hK292 => ?_
                  refine wp_cond_false (F291.ev (by kernel_rfl)) ?_
                  refine wp_exit ?_
                  refine ex_then ?_; clear hK292 K292
                  refine ex_then ?_
                  refine ex_in ?_
                  refine hK243 _ _ ?_; clear hK243 K243
                  refine wp_seq_k fun K293 hK293 => ?_
                  refine wp_region_lit ?_
                  refine op_p F291 (.string ⟨#[]⟩) (by kernel_rfl) rfl rfl rfl (by kernel_rfl) rfl ?_; intro a294 F294
                  refine wpList_nil ?_
                  refine hK293 _ _ ?_; clear hK293 K293
                  refine wp_seq_k fun K295 hK295 => ?_
                  refine wp_seq_k fun K296 hK296 => ?_
                  refine wp_region_lit ?_
                  refine op_p F294 (.string host) (by kernel_rfl) rfl rfl rfl (by kernel_rfl) rfl ?_; intro a297 F297
                  refine op_p F297 (.bool (!(host.toList == (⟨#[]⟩ : ByteArray).toList))) (by kernel_rfl) rfl rfl rfl (by kernel_rfl) rfl ?_; intro a298 F298
                  refine wpList_nil ?_
                  refine hK296 _ _ ?_; clear hK296 K296
                  rcases btf (host.toList == (⟨#[]⟩ : ByteArray).toList) with hc299 | hc299
                  · have F300 := F298.sb 94 (by kernel_rfl) (show (!(host.toList == (⟨#[]⟩ : ByteArray).toList)) = false by rw [hc299]; rfl)
                    refine wp_cond_false (F300.ev (by kernel_rfl)) ?_
                    refine wp_seq_k fun K301 hK301 => ?_
                    refine wp_region_lit ?_
                    refine op_p F300 (.string path) (by kernel_rfl) rfl rfl rfl (by kernel_rfl) rfl ?_; intro a302 F302
                    refine op_p F302 (.int .i64 (↑path.size)) (by kernel_rfl) rfl rfl rfl (by kernel_rfl) rfl ?_; intro a303 F303
                    refine op_p F303 (.bool (decide ((1 : Int) < ↑path.size))) (by kernel_rfl) rfl rfl rfl (by kernel_rfl) rfl ?_; intro a304 F304
                    refine op_p F304 (.bool (decide ((1 : Int) < ↑path.size))) (by kernel_rfl) rfl rfl rfl (by kernel_rfl) rfl ?_; intro a305 F305
                    rcases btf (decide ((1 : Int) < ↑path.size)) with hc306 | hc306
                    · have hc306p := of_decide_eq_true hc306
                      have F307 := F305.sb 109 (by kernel_rfl) hc306
                      have F308 := F307.sb 110 (by kernel_rfl) hc306
                      refine op_want F308 (by kernel_rfl) rfl ?_
                      refine op_p F308 (.string path) (by kernel_rfl) rfl rfl rfl (by kernel_rfl) rfl ?_; intro a309 F309
                      refine op_want F309 (by kernel_rfl) rfl ?_
                      refine op_r (v := .string (path.extract 0 2)) F309 (r_slh rfl Try.underlying9 (F309.ev (v := .string path) (by kernel_rfl)) (F309.ev (v := .int .i64 2) (by kernel_rfl))  0 2 (by first | rfl | omega | (simp; done) | (simp; omega)) (by first | omega | (simp; done) | (simp; omega)) (rfl)) rfl rfl rfl ?_; intro a310 F310
                      refine op_want F310 (by kernel_rfl) rfl ?_
                      refine op_p F310 (.bool ((path.extract 0 2).toList == (⟨#[47, 47]⟩ : ByteArray).toList)) (by kernel_rfl) rfl rfl rfl (by kernel_rfl) rfl ?_; intro a311 F311
                      refine op_p F311 (.bool ((path.extract 0 2).toList == (⟨#[47, 47]⟩ : ByteArray).toList)) (by kernel_rfl) rfl rfl rfl (by kernel_rfl) rfl ?_; intro a312 F312
                      refine wpList_nil ?_
                      refine hK301 _ _ ?_; clear hK301 K301
                      rcases btf ((path.extract 0 2).toList == (⟨#[47, 47]⟩ : ByteArray).toList) with hc313 | hc313
                      · have F314 := F312.sb 113 (by kernel_rfl) hc313
                        have F315 := F314.sb 114 (by kernel_rfl) hc313
                        refine wp_cond_true (F315.ev (by kernel_rfl)) ?_
                        refine wp_seq_k fun K316 hK316 => ?_
                        refine wp_region_lit ?_
                        refine op_p F315 (.bool true) (by kernel_rfl) rfl rfl rfl (by kernel_rfl) rfl ?_; intro a317 F317
                        refine wpList_nil ?_
                        refine hK316 _ _ ?_; clear hK316 K316
                        refine wp_ret ?_
                        refine ret_then ?_
                        refine (F317.res1 rfl (v := .bool true) (by kernel_rfl) ?_).1
                        exact ⟨rfl, S248.drop.drop⟩
                      · have F318 := F312.sb 113 (by kernel_rfl) hc313
                        have F319 := F318.sb 114 (by kernel_rfl) hc313
                        refine wp_cond_false (F319.ev (by kernel_rfl)) ?_
                        refine wp_skip ?_
                        refine hK295 _ _ ?_; clear hK295 K295
                        refine wp_seq_k fun K320 hK320 => ?_
                        refine wp_region_lit ?_
                        refine op_p F319 (.string ⟨#[]⟩) (by kernel_rfl) rfl rfl rfl (by kernel_rfl) rfl ?_; intro a321 F321
                        refine op_p F321 (.string path) (by kernel_rfl) rfl rfl rfl (by kernel_rfl) rfl ?_; intro a322 F322
                        refine op_r (v := .string ((⟨#[]⟩ : ByteArray) ++ path)) F322 (r_sadd rfl (F322.ev (v := .string ⟨#[]⟩) (by kernel_rfl)) (F322.ev (v := .string path) (by kernel_rfl)) (by show 0 + path.size ≤ 9223372036854775807; first | omega | (simp only [ByteArray.size_append]; omega) | (show 7 + _ ≤ _; omega) | (show 8 + _ ≤ _; omega) | (rw [ByteArray.size_append]; show 7 + _ + _ ≤ _; omega) | (rw [ByteArray.size_append]; show 8 + _ + _ ≤ _; omega))) rfl rfl rfl ?_; intro a323 F323
                        refine op_p F323 (.slice (A) (more.length) (c)) (by kernel_rfl) rfl rfl rfl (by kernel_rfl) rfl ?_; intro a324 F324
                        have hu := uj_nil hpx (.inr hc313)
                        have hrz : ((⟨#[]⟩ : ByteArray) ++ path).size ≤ 1000 := by rw [ByteArray.size_append]; show 0 + _ ≤ _; omega
                        have hpz : (⟨#[]⟩ : ByteArray).size ≤ 1000 := Nat.zero_le _
                        refine op_c F324 (f := 29) (args := #[.string ((⟨#[]⟩ : ByteArray) ++ path), .slice (A) (more.length) (c)]) (by kernel_rfl) (by kernel_rfl) rfl (implURLJoin_any ((⟨#[]⟩ : ByteArray) ++ path) path (⟨#[]⟩ : ByteArray) A c more _ _ _ S248 (fun w S => h0 w S.drop.drop) hu (by first | omega | (simp; done) | (simp; omega)) (by with_reducible assumption) (by first | omega | (simp; done) | (simp; omega)) (by first | omega | (simp; done) | (simp; omega))) rfl rfl rfl ?_
                        rintro _ w325 ⟨rfl, S325⟩
                        refine ⟨_, rfl, ?_⟩
                        intro a326 F326
                        refine op_p F326 (.tuple #[.string (slashP (⟨#[]⟩ : ByteArray) (joinP ([path] ++ more))), .int .i64 0]) (by kernel_rfl) rfl rfl rfl (by kernel_rfl) rfl ?_; intro a327 F327
                        refine op_p F327 (.string (slashP (⟨#[]⟩ : ByteArray) (joinP ([path] ++ more)))) (by kernel_rfl) rfl rfl rfl (by kernel_rfl) rfl ?_; intro a328 F328
                        refine op_p F328 (.int .i64 0) (by kernel_rfl) rfl rfl rfl (by kernel_rfl) rfl ?_; intro a329 F329
                        refine op_p F329 (.string (slashP (⟨#[]⟩ : ByteArray) (joinP ([path] ++ more)))) (by kernel_rfl) rfl rfl rfl (by kernel_rfl) rfl ?_; intro a330 F330
                        refine op_p F330 (.int .i64 0) (by kernel_rfl) rfl rfl rfl (by kernel_rfl) rfl ?_; intro a331 F331
                        refine wpList_nil ?_
                        refine hK320 _ _ ?_; clear hK320 K320
                        refine wp_seq_k fun K332 hK332 => ?_
                        refine wp_region_lit ?_
                        refine op_p F331 (.int .i64 0) (by kernel_rfl) rfl rfl rfl (by kernel_rfl) rfl ?_; intro a333 F333
                        refine op_p F333 (.bool true) (by kernel_rfl) rfl rfl rfl (by kernel_rfl) rfl ?_; intro a334 F334
                        refine op_p F334 (.bool true) (by kernel_rfl) rfl rfl rfl (by kernel_rfl) rfl ?_; intro a335 F335
                        refine op_want F335 (by kernel_rfl) rfl ?_
                        refine op_p F335 (.string (slashP (⟨#[]⟩ : ByteArray) (joinP ([path] ++ more)))) (by kernel_rfl) rfl rfl rfl (by kernel_rfl) rfl ?_; intro a336 F336
                        refine op_want F336 (by kernel_rfl) rfl ?_
                        refine op_p F336 (.string ⟨#[]⟩) (by kernel_rfl) rfl rfl rfl (by kernel_rfl) rfl ?_; intro a337 F337
                        refine op_want F337 (by kernel_rfl) rfl ?_
                        refine op_p F337 (.string path) (by kernel_rfl) rfl rfl rfl (by kernel_rfl) rfl ?_; intro a338 F338
                        refine op_want F338 (by kernel_rfl) rfl ?_
                        refine op_p F338 (.slice (A) (more.length) (c)) (by kernel_rfl) rfl rfl rfl (by kernel_rfl) rfl ?_; intro a339 F339
                        refine op_want F339 (by kernel_rfl) rfl ?_
                        refine op_c F339 (f := 30) (args := #[.string ⟨#[]⟩, .string path, .slice (A) (more.length) (c)]) (by kernel_rfl) (by kernel_rfl) rfl (hlURL_any ⟨#[]⟩ path A c more _ _ _ S325 (fun w S => h0 w S.drop.drop) (by first | omega | (simp; done) | (simp; omega)) (by first | omega | (simp; done) | (simp; omega)) (by first | omega | (simp; done) | (simp; omega))) rfl rfl rfl ?_
                        rintro _ w340 ⟨rfl, S340⟩
                        refine ⟨_, rfl, ?_⟩
                        intro a341 F341
                        refine op_want F341 (by kernel_rfl) rfl ?_
                        refine op_p F341 (.bool ((slashP (⟨#[]⟩ : ByteArray) (joinP ([path] ++ more))).toList == (slashP ⟨#[]⟩ (joinP ([path] ++ more))).toList)) (by kernel_rfl) rfl rfl rfl (by kernel_rfl) rfl ?_; intro a342 F342
                        refine op_p F342 (.bool ((slashP (⟨#[]⟩ : ByteArray) (joinP ([path] ++ more))).toList == (slashP ⟨#[]⟩ (joinP ([path] ++ more))).toList)) (by kernel_rfl) rfl rfl rfl (by kernel_rfl) rfl ?_; intro a343 F343
                        refine op_p F343 (.bool ((slashP (⟨#[]⟩ : ByteArray) (joinP ([path] ++ more))).toList == (slashP ⟨#[]⟩ (joinP ([path] ++ more))).toList)) (by kernel_rfl) rfl rfl rfl (by kernel_rfl) rfl ?_; intro a344 F344
                        have hc345 : ((slashP (⟨#[]⟩ : ByteArray) (joinP ([path] ++ more))).toList == (slashP ⟨#[]⟩ (joinP ([path] ++ more))).toList) = true := (beq_self_eq_true _)
                        have F346 := F344.sb 131 (by kernel_rfl) hc345
                        have F347 := F346.sb 132 (by kernel_rfl) hc345
                        have F348 := F347.sb 133 (by kernel_rfl) hc345
                        refine op_want F348 (by kernel_rfl) rfl ?_
                        refine op_c F348 (f := 23) (args := #[]) (by kernel_rfl) (by kernel_rfl) rfl (hlLives_any  _ ) rfl rfl rfl ?_
                        rintro _ w349 ⟨rfl, hb_349⟩
                        refine ⟨_, rfl, ?_⟩
                        intro a350 F350
                        have S349 := S340.below hb_349
                        refine op_p F350 (.bool true) (by kernel_rfl) rfl rfl rfl (by kernel_rfl) rfl ?_; intro a351 F351
                        refine op_p F351 (.bool true) (by kernel_rfl) rfl rfl rfl (by kernel_rfl) rfl ?_; intro a352 F352
                        refine wpList_nil ?_
                        refine hK332 _ _ ?_; clear hK332 K332
                        refine wp_ret ?_
                        refine (F352.res1 rfl (v := .bool true) (by kernel_rfl) ?_).1
                        exact ⟨rfl, S349.drop.drop⟩
                    · have hc306p := of_decide_eq_false hc306
                      have F353 := F305.sb 109 (by kernel_rfl) hc306
                      have F354 := F353.sb 110 (by kernel_rfl) hc306
                      refine op_skip F354 (by kernel_rfl) rfl rfl rfl ?_; intro a355 F355
                      refine op_skip F355 (by kernel_rfl) rfl rfl rfl ?_; intro a356 F356
                      refine op_skip F356 (by kernel_rfl) rfl rfl rfl ?_; intro a357 F357
                      refine op_p F357 (.bool false) (by kernel_rfl) rfl rfl rfl (by kernel_rfl) rfl ?_; intro a358 F358
                      refine wpList_nil ?_
                      refine hK301 _ _ ?_; clear hK301 K301
                      refine wp_cond_false (F358.ev (by kernel_rfl)) ?_
                      refine wp_skip ?_
                      refine hK295 _ _ ?_; clear hK295 K295
                      refine wp_seq_k fun K359 hK359 => ?_
                      refine wp_region_lit ?_
                      refine op_p F358 (.string ⟨#[]⟩) (by kernel_rfl) rfl rfl rfl (by kernel_rfl) rfl ?_; intro a360 F360
                      refine op_p F360 (.string path) (by kernel_rfl) rfl rfl rfl (by kernel_rfl) rfl ?_; intro a361 F361
                      refine op_r (v := .string ((⟨#[]⟩ : ByteArray) ++ path)) F361 (r_sadd rfl (F361.ev (v := .string ⟨#[]⟩) (by kernel_rfl)) (F361.ev (v := .string path) (by kernel_rfl)) (by show 0 + path.size ≤ 9223372036854775807; first | omega | (simp only [ByteArray.size_append]; omega) | (show 7 + _ ≤ _; omega) | (show 8 + _ ≤ _; omega) | (rw [ByteArray.size_append]; show 7 + _ + _ ≤ _; omega) | (rw [ByteArray.size_append]; show 8 + _ + _ ≤ _; omega))) rfl rfl rfl ?_; intro a362 F362
                      refine op_p F362 (.slice (A) (more.length) (c)) (by kernel_rfl) rfl rfl rfl (by kernel_rfl) rfl ?_; intro a363 F363
                      have hu := uj_nil hpx (.inl (by have := of_decide_eq_false hc306; omega))
                      have hrz : ((⟨#[]⟩ : ByteArray) ++ path).size ≤ 1000 := by rw [ByteArray.size_append]; show 0 + _ ≤ _; omega
                      have hpz : (⟨#[]⟩ : ByteArray).size ≤ 1000 := Nat.zero_le _
                      refine op_c F363 (f := 29) (args := #[.string ((⟨#[]⟩ : ByteArray) ++ path), .slice (A) (more.length) (c)]) (by kernel_rfl) (by kernel_rfl) rfl (implURLJoin_any ((⟨#[]⟩ : ByteArray) ++ path) path (⟨#[]⟩ : ByteArray) A c more _ _ _ S248 (fun w S => h0 w S.drop.drop) hu (by first | omega | (simp; done) | (simp; omega)) (by with_reducible assumption) (by first | omega | (simp; done) | (simp; omega)) (by first | omega | (simp; done) | (simp; omega))) rfl rfl rfl ?_
                      rintro _ w364 ⟨rfl, S364⟩
                      refine ⟨_, rfl, ?_⟩
                      intro a365 F365
                      refine op_p F365 (.tuple #[.string (slashP (⟨#[]⟩ : ByteArray) (joinP ([path] ++ more))), .int .i64 0]) (by kernel_rfl) rfl rfl rfl (by kernel_rfl) rfl ?_; intro a366 F366
                      refine op_p F366 (.string (slashP (⟨#[]⟩ : ByteArray) (joinP ([path] ++ more)))) (by kernel_rfl) rfl rfl rfl (by kernel_rfl) rfl ?_; intro a367 F367
                      refine op_p F367 (.int .i64 0) (by kernel_rfl) rfl rfl rfl (by kernel_rfl) rfl ?_; intro a368 F368
                      refine op_p F368 (.string (slashP (⟨#[]⟩ : ByteArray) (joinP ([path] ++ more)))) (by kernel_rfl) rfl rfl rfl (by kernel_rfl) rfl ?_; intro a369 F369
                      refine op_p F369 (.int .i64 0) (by kernel_rfl) rfl rfl rfl (by kernel_rfl) rfl ?_; intro a370 F370
                      refine wpList_nil ?_
                      refine hK359 _ _ ?_; clear hK359 K359
                      refine wp_seq_k fun K371 hK371 => ?_
                      refine wp_region_lit ?_
                      refine op_p F370 (.int .i64 0) (by kernel_rfl) rfl rfl rfl (by kernel_rfl) rfl ?_; intro a372 F372
                      refine op_p F372 (.bool true) (by kernel_rfl) rfl rfl rfl (by kernel_rfl) rfl ?_; intro a373 F373
                      refine op_p F373 (.bool true) (by kernel_rfl) rfl rfl rfl (by kernel_rfl) rfl ?_; intro a374 F374
                      refine op_want F374 (by kernel_rfl) rfl ?_
                      refine op_p F374 (.string (slashP (⟨#[]⟩ : ByteArray) (joinP ([path] ++ more)))) (by kernel_rfl) rfl rfl rfl (by kernel_rfl) rfl ?_; intro a375 F375
                      refine op_want F375 (by kernel_rfl) rfl ?_
                      refine op_p F375 (.string ⟨#[]⟩) (by kernel_rfl) rfl rfl rfl (by kernel_rfl) rfl ?_; intro a376 F376
                      refine op_want F376 (by kernel_rfl) rfl ?_
                      refine op_p F376 (.string path) (by kernel_rfl) rfl rfl rfl (by kernel_rfl) rfl ?_; intro a377 F377
                      refine op_want F377 (by kernel_rfl) rfl ?_
                      refine op_p F377 (.slice (A) (more.length) (c)) (by kernel_rfl) rfl rfl rfl (by kernel_rfl) rfl ?_; intro a378 F378
                      refine op_want F378 (by kernel_rfl) rfl ?_
                      refine op_c F378 (f := 30) (args := #[.string ⟨#[]⟩, .string path, .slice (A) (more.length) (c)]) (by kernel_rfl) (by kernel_rfl) rfl (hlURL_any ⟨#[]⟩ path A c more _ _ _ S364 (fun w S => h0 w S.drop.drop) (by first | omega | (simp; done) | (simp; omega)) (by first | omega | (simp; done) | (simp; omega)) (by first | omega | (simp; done) | (simp; omega))) rfl rfl rfl ?_
                      rintro _ w379 ⟨rfl, S379⟩
                      refine ⟨_, rfl, ?_⟩
                      intro a380 F380
                      refine op_want F380 (by kernel_rfl) rfl ?_
                      refine op_p F380 (.bool ((slashP (⟨#[]⟩ : ByteArray) (joinP ([path] ++ more))).toList == (slashP ⟨#[]⟩ (joinP ([path] ++ more))).toList)) (by kernel_rfl) rfl rfl rfl (by kernel_rfl) rfl ?_; intro a381 F381
                      refine op_p F381 (.bool ((slashP (⟨#[]⟩ : ByteArray) (joinP ([path] ++ more))).toList == (slashP ⟨#[]⟩ (joinP ([path] ++ more))).toList)) (by kernel_rfl) rfl rfl rfl (by kernel_rfl) rfl ?_; intro a382 F382
                      refine op_p F382 (.bool ((slashP (⟨#[]⟩ : ByteArray) (joinP ([path] ++ more))).toList == (slashP ⟨#[]⟩ (joinP ([path] ++ more))).toList)) (by kernel_rfl) rfl rfl rfl (by kernel_rfl) rfl ?_; intro a383 F383
                      have hc384 : ((slashP (⟨#[]⟩ : ByteArray) (joinP ([path] ++ more))).toList == (slashP ⟨#[]⟩ (joinP ([path] ++ more))).toList) = true := (beq_self_eq_true _)
                      have F385 := F383.sb 131 (by kernel_rfl) hc384
                      have F386 := F385.sb 132 (by kernel_rfl) hc384
                      have F387 := F386.sb 133 (by kernel_rfl) hc384
                      refine op_want F387 (by kernel_rfl) rfl ?_
                      refine op_c F387 (f := 23) (args := #[]) (by kernel_rfl) (by kernel_rfl) rfl (hlLives_any  _ ) rfl rfl rfl ?_
                      rintro _ w388 ⟨rfl, hb_388⟩
                      refine ⟨_, rfl, ?_⟩
                      intro a389 F389
                      have S388 := S379.below hb_388
                      refine op_p F389 (.bool true) (by kernel_rfl) rfl rfl rfl (by kernel_rfl) rfl ?_; intro a390 F390
                      refine op_p F390 (.bool true) (by kernel_rfl) rfl rfl rfl (by kernel_rfl) rfl ?_; intro a391 F391
                      refine wpList_nil ?_
                      refine hK371 _ _ ?_; clear hK371 K371
                      refine wp_ret ?_
                      refine (F391.res1 rfl (v := .bool true) (by kernel_rfl) ?_).1
                      exact ⟨rfl, S388.drop.drop⟩
                  · have F392 := F298.sb 94 (by kernel_rfl) (show (!(host.toList == (⟨#[]⟩ : ByteArray).toList)) = true by rw [hc299]; rfl)
                    refine wp_cond_true (F392.ev (by kernel_rfl)) ?_
                    refine wp_seq_k fun K393 hK393 => ?_
                    refine wp_seq_k fun K394 hK394 => ?_
                    refine wp_region_lit ?_
                    refine op_p F392 (.string path) (by kernel_rfl) rfl rfl rfl (by kernel_rfl) rfl ?_; intro a395 F395
                    refine op_p F395 (.bool (!(path.toList == (⟨#[]⟩ : ByteArray).toList))) (by kernel_rfl) rfl rfl rfl (by kernel_rfl) rfl ?_; intro a396 F396
                    refine op_p F396 (.bool (!(path.toList == (⟨#[]⟩ : ByteArray).toList))) (by kernel_rfl) rfl rfl rfl (by kernel_rfl) rfl ?_; intro a397 F397
                    rcases btf (path.toList == (⟨#[]⟩ : ByteArray).toList) with hc398 | hc398
                    · have F399 := F397.sb 96 (by kernel_rfl) (show (!(path.toList == (⟨#[]⟩ : ByteArray).toList)) = false by rw [hc398]; rfl)
                      have F400 := F399.sb 97 (by kernel_rfl) (show (!(path.toList == (⟨#[]⟩ : ByteArray).toList)) = false by rw [hc398]; rfl)
                      refine op_skip F400 (by kernel_rfl) rfl rfl rfl ?_; intro a401 F401
                      refine op_skip F401 (by kernel_rfl) rfl rfl rfl ?_; intro a402 F402
                      refine op_skip F402 (by kernel_rfl) rfl rfl rfl ?_; intro a403 F403
                      refine op_p F403 (.bool false) (by kernel_rfl) rfl rfl rfl (by kernel_rfl) rfl ?_; intro a404 F404
                      refine wpList_nil ?_
                      refine hK394 _ _ ?_; clear hK394 K394
                      refine wp_cond_false (F404.ev (by kernel_rfl)) ?_
                      refine wp_skip ?_
                      refine hK393 _ _ ?_; clear hK393 K393
                      refine wp_seq_k fun K405 hK405 => ?_
                      refine wp_region_lit ?_
                      refine op_p F404 (.string host) (by kernel_rfl) rfl rfl rfl (by kernel_rfl) rfl ?_; intro a406 F406
                      refine op_r (v := .string ((⟨#[104, 116, 116, 112, 58, 47, 47]⟩ : ByteArray) ++ host)) F406 (r_sadd rfl (F406.ev (v := .string ⟨#[104, 116, 116, 112, 58, 47, 47]⟩) (by kernel_rfl)) (F406.ev (v := .string host) (by kernel_rfl)) (by show 7 + host.size ≤ 9223372036854775807; first | omega | (simp only [ByteArray.size_append]; omega) | (show 7 + _ ≤ _; omega) | (show 8 + _ ≤ _; omega) | (rw [ByteArray.size_append]; show 7 + _ + _ ≤ _; omega) | (rw [ByteArray.size_append]; show 8 + _ + _ ≤ _; omega))) rfl rfl rfl ?_; intro a407 F407
                      refine op_p F407 (.string ((⟨#[104, 116, 116, 112, 58, 47, 47]⟩ : ByteArray) ++ host)) (by kernel_rfl) rfl rfl rfl (by kernel_rfl) rfl ?_; intro a408 F408
                      refine wpList_nil ?_
                      refine hK405 _ _ ?_; clear hK405 K405
                      refine wp_seq_k fun K409 hK409 => ?_
                      refine wp_region_lit ?_
                      refine op_p F408 (.bool b) (by kernel_rfl) rfl rfl rfl (by kernel_rfl) rfl ?_; intro a410 F410
                      refine wpList_nil ?_
                      refine hK409 _ _ ?_; clear hK409 K409
                      rcases btf (b) with hc411 | hc411
                      · have F412 := F410.sb 3 (by kernel_rfl) hc411
                        have F413 := F412.sb 104 (by kernel_rfl) hc411
                        refine wp_cond_true (F413.ev (by kernel_rfl)) ?_
                        refine wp_region_lit ?_
                        refine op_p F413 (.string host) (by kernel_rfl) rfl rfl rfl (by kernel_rfl) rfl ?_; intro a414 F414
                        refine op_r (v := .string ((⟨#[104, 116, 116, 112, 115, 58, 47, 47]⟩ : ByteArray) ++ host)) F414 (r_sadd rfl (F414.ev (v := .string ⟨#[104, 116, 116, 112, 115, 58, 47, 47]⟩) (by kernel_rfl)) (F414.ev (v := .string host) (by kernel_rfl)) (by show 8 + host.size ≤ 9223372036854775807; first | omega | (simp only [ByteArray.size_append]; omega) | (show 7 + _ ≤ _; omega) | (show 8 + _ ≤ _; omega) | (rw [ByteArray.size_append]; show 7 + _ + _ ≤ _; omega) | (rw [ByteArray.size_append]; show 8 + _ + _ ≤ _; omega))) rfl rfl rfl ?_; intro a415 F415
                        refine op_p F415 (.string ((⟨#[104, 116, 116, 112, 115, 58, 47, 47]⟩ : ByteArray) ++ host)) (by kernel_rfl) rfl rfl rfl (by kernel_rfl) rfl ?_; intro a416 F416
                        refine wpList_nil ?_
                        refine hK295 _ _ ?_; clear hK295 K295
                        refine wp_seq_k fun K417 hK417 => ?_
                        refine wp_region_lit ?_
                        refine op_p F416 (.string ((⟨#[104, 116, 116, 112, 115, 58, 47, 47]⟩ : ByteArray) ++ host)) (by kernel_rfl) rfl rfl rfl (by kernel_rfl) rfl ?_; intro a418 F418
                        refine op_p F418 (.string path) (by kernel_rfl) rfl rfl rfl (by kernel_rfl) rfl ?_; intro a419 F419
                        refine op_r (v := .string (((⟨#[104, 116, 116, 112, 115, 58, 47, 47]⟩ : ByteArray) ++ host) ++ path)) F419 (r_sadd rfl (F419.ev (v := .string ((⟨#[104, 116, 116, 112, 115, 58, 47, 47]⟩ : ByteArray) ++ host)) (by kernel_rfl)) (F419.ev (v := .string path) (by kernel_rfl)) (by show ((⟨#[104, 116, 116, 112, 115, 58, 47, 47]⟩ : ByteArray) ++ host).size + path.size ≤ 9223372036854775807; first | omega | (simp only [ByteArray.size_append]; omega) | (show 7 + _ ≤ _; omega) | (show 8 + _ ≤ _; omega) | (rw [ByteArray.size_append]; show 7 + _ + _ ≤ _; omega) | (rw [ByteArray.size_append]; show 8 + _ + _ ≤ _; omega))) rfl rfl rfl ?_; intro a420 F420
                        refine op_p F420 (.slice (A) (more.length) (c)) (by kernel_rfl) rfl rfl rfl (by kernel_rfl) rfl ?_; intro a421 F421
                        have hu := uj_law true (q := _) rfl (hhx.resolve_left (by rw [hc299]; simp)) (path_or hc398)
                        have hrz : (((⟨#[104, 116, 116, 112, 115, 58, 47, 47]⟩ : ByteArray) ++ host) ++ path).size ≤ 1000 := by rw [ByteArray.size_append, ByteArray.size_append]; show 8 + _ + _ ≤ _; omega
                        have hpz : ((⟨#[104, 116, 116, 112, 115, 58, 47, 47]⟩ : ByteArray) ++ host).size ≤ 1000 := by rw [ByteArray.size_append]; show 8 + _ ≤ _; omega
                        refine op_c F421 (f := 29) (args := #[.string (((⟨#[104, 116, 116, 112, 115, 58, 47, 47]⟩ : ByteArray) ++ host) ++ path), .slice (A) (more.length) (c)]) (by kernel_rfl) (by kernel_rfl) rfl (implURLJoin_any (((⟨#[104, 116, 116, 112, 115, 58, 47, 47]⟩ : ByteArray) ++ host) ++ path) path ((⟨#[104, 116, 116, 112, 115, 58, 47, 47]⟩ : ByteArray) ++ host) A c more _ _ _ S248 (fun w S => h0 w S.drop.drop) hu (by first | omega | (simp; done) | (simp; omega)) (by with_reducible assumption) (by first | omega | (simp; done) | (simp; omega)) (by first | omega | (simp; done) | (simp; omega))) rfl rfl rfl ?_
                        rintro _ w422 ⟨rfl, S422⟩
                        refine ⟨_, rfl, ?_⟩
                        intro a423 F423
                        refine op_p F423 (.tuple #[.string (slashP ((⟨#[104, 116, 116, 112, 115, 58, 47, 47]⟩ : ByteArray) ++ host) (joinP ([path] ++ more))), .int .i64 0]) (by kernel_rfl) rfl rfl rfl (by kernel_rfl) rfl ?_; intro a424 F424
                        refine op_p F424 (.string (slashP ((⟨#[104, 116, 116, 112, 115, 58, 47, 47]⟩ : ByteArray) ++ host) (joinP ([path] ++ more)))) (by kernel_rfl) rfl rfl rfl (by kernel_rfl) rfl ?_; intro a425 F425
                        refine op_p F425 (.int .i64 0) (by kernel_rfl) rfl rfl rfl (by kernel_rfl) rfl ?_; intro a426 F426
                        refine op_p F426 (.string (slashP ((⟨#[104, 116, 116, 112, 115, 58, 47, 47]⟩ : ByteArray) ++ host) (joinP ([path] ++ more)))) (by kernel_rfl) rfl rfl rfl (by kernel_rfl) rfl ?_; intro a427 F427
                        refine op_p F427 (.int .i64 0) (by kernel_rfl) rfl rfl rfl (by kernel_rfl) rfl ?_; intro a428 F428
                        refine wpList_nil ?_
                        refine hK417 _ _ ?_; clear hK417 K417
                        refine wp_seq_k fun K429 hK429 => ?_
                        refine wp_region_lit ?_
                        refine op_p F428 (.int .i64 0) (by kernel_rfl) rfl rfl rfl (by kernel_rfl) rfl ?_; intro a430 F430
                        refine op_p F430 (.bool true) (by kernel_rfl) rfl rfl rfl (by kernel_rfl) rfl ?_; intro a431 F431
                        refine op_p F431 (.bool true) (by kernel_rfl) rfl rfl rfl (by kernel_rfl) rfl ?_; intro a432 F432
                        refine op_want F432 (by kernel_rfl) rfl ?_
                        refine op_p F432 (.string (slashP ((⟨#[104, 116, 116, 112, 115, 58, 47, 47]⟩ : ByteArray) ++ host) (joinP ([path] ++ more)))) (by kernel_rfl) rfl rfl rfl (by kernel_rfl) rfl ?_; intro a433 F433
                        refine op_want F433 (by kernel_rfl) rfl ?_
                        refine op_p F433 (.string ((⟨#[104, 116, 116, 112, 115, 58, 47, 47]⟩ : ByteArray) ++ host)) (by kernel_rfl) rfl rfl rfl (by kernel_rfl) rfl ?_; intro a434 F434
                        refine op_want F434 (by kernel_rfl) rfl ?_
                        refine op_p F434 (.string path) (by kernel_rfl) rfl rfl rfl (by kernel_rfl) rfl ?_; intro a435 F435
                        refine op_want F435 (by kernel_rfl) rfl ?_
                        refine op_p F435 (.slice (A) (more.length) (c)) (by kernel_rfl) rfl rfl rfl (by kernel_rfl) rfl ?_; intro a436 F436
                        refine op_want F436 (by kernel_rfl) rfl ?_
                        refine op_c F436 (f := 30) (args := #[.string ((⟨#[104, 116, 116, 112, 115, 58, 47, 47]⟩ : ByteArray) ++ host), .string path, .slice (A) (more.length) (c)]) (by kernel_rfl) (by kernel_rfl) rfl (hlURL_any ((⟨#[104, 116, 116, 112, 115, 58, 47, 47]⟩ : ByteArray) ++ host) path A c more _ _ _ S422 (fun w S => h0 w S.drop.drop) (by first | omega | (simp; done) | (simp; omega)) (by first | omega | (simp; done) | (simp; omega)) (by first | omega | (simp; done) | (simp; omega))) rfl rfl rfl ?_
                        rintro _ w437 ⟨rfl, S437⟩
                        refine ⟨_, rfl, ?_⟩
                        intro a438 F438
                        refine op_want F438 (by kernel_rfl) rfl ?_
                        have hs439 : ((slashP ((⟨#[104, 116, 116, 112, 115, 58, 47, 47]⟩ : ByteArray) ++ host) (joinP ([path] ++ more))).toList == (slashP ((⟨#[104, 116, 116, 112, 115, 58, 47, 47]⟩ : ByteArray) ++ host) (joinP ([path] ++ more))).toList) = true := beq_self_eq_true _
                        refine op_p F438 (.bool ((slashP ((⟨#[104, 116, 116, 112, 115, 58, 47, 47]⟩ : ByteArray) ++ host) (joinP ([path] ++ more))).toList == (slashP ((⟨#[104, 116, 116, 112, 115, 58, 47, 47]⟩ : ByteArray) ++ host) (joinP ([path] ++ more))).toList)) (by kernel_rfl) rfl rfl rfl (by kernel_rfl) rfl ?_; intro a440 F440
                        have F441 := F440.sb 131 (by kernel_rfl) hs439
                        refine op_p F441 (.bool true) (by kernel_rfl) rfl rfl rfl (by kernel_rfl) rfl ?_; intro a442 F442
                        refine op_p F442 (.bool true) (by kernel_rfl) rfl rfl rfl (by kernel_rfl) rfl ?_; intro a443 F443
                        refine op_want F443 (by kernel_rfl) rfl ?_
                        refine op_c F443 (f := 23) (args := #[]) (by kernel_rfl) (by kernel_rfl) rfl (hlLives_any  _ ) rfl rfl rfl ?_
                        rintro _ w444 ⟨rfl, hb_444⟩
                        refine ⟨_, rfl, ?_⟩
                        intro a445 F445
                        have S444 := S437.below hb_444
                        refine op_p F445 (.bool true) (by kernel_rfl) rfl rfl rfl (by kernel_rfl) rfl ?_; intro a446 F446
                        refine op_p F446 (.bool true) (by kernel_rfl) rfl rfl rfl (by kernel_rfl) rfl ?_; intro a447 F447
                        refine wpList_nil ?_
                        refine hK429 _ _ ?_; clear hK429 K429
                        refine wp_ret ?_
                        refine (F447.res1 rfl (v := .bool true) (by kernel_rfl) ?_).1
                        exact ⟨rfl, S444.drop.drop⟩
                      · have F448 := F410.sb 3 (by kernel_rfl) hc411
                        have F449 := F448.sb 104 (by kernel_rfl) hc411
                        refine wp_cond_false (F449.ev (by kernel_rfl)) ?_
                        refine wp_skip ?_
                        refine hK295 _ _ ?_; clear hK295 K295
                        refine wp_seq_k fun K450 hK450 => ?_
                        refine wp_region_lit ?_
                        refine op_p F449 (.string ((⟨#[104, 116, 116, 112, 58, 47, 47]⟩ : ByteArray) ++ host)) (by kernel_rfl) rfl rfl rfl (by kernel_rfl) rfl ?_; intro a451 F451
                        refine op_p F451 (.string path) (by kernel_rfl) rfl rfl rfl (by kernel_rfl) rfl ?_; intro a452 F452
                        refine op_r (v := .string (((⟨#[104, 116, 116, 112, 58, 47, 47]⟩ : ByteArray) ++ host) ++ path)) F452 (r_sadd rfl (F452.ev (v := .string ((⟨#[104, 116, 116, 112, 58, 47, 47]⟩ : ByteArray) ++ host)) (by kernel_rfl)) (F452.ev (v := .string path) (by kernel_rfl)) (by show ((⟨#[104, 116, 116, 112, 58, 47, 47]⟩ : ByteArray) ++ host).size + path.size ≤ 9223372036854775807; first | omega | (simp only [ByteArray.size_append]; omega) | (show 7 + _ ≤ _; omega) | (show 8 + _ ≤ _; omega) | (rw [ByteArray.size_append]; show 7 + _ + _ ≤ _; omega) | (rw [ByteArray.size_append]; show 8 + _ + _ ≤ _; omega))) rfl rfl rfl ?_; intro a453 F453
                        refine op_p F453 (.slice (A) (more.length) (c)) (by kernel_rfl) rfl rfl rfl (by kernel_rfl) rfl ?_; intro a454 F454
                        have hu := uj_law false (q := _) rfl (hhx.resolve_left (by rw [hc299]; simp)) (path_or hc398)
                        have hrz : (((⟨#[104, 116, 116, 112, 58, 47, 47]⟩ : ByteArray) ++ host) ++ path).size ≤ 1000 := by rw [ByteArray.size_append, ByteArray.size_append]; show 7 + _ + _ ≤ _; omega
                        have hpz : ((⟨#[104, 116, 116, 112, 58, 47, 47]⟩ : ByteArray) ++ host).size ≤ 1000 := by rw [ByteArray.size_append]; show 7 + _ ≤ _; omega
                        refine op_c F454 (f := 29) (args := #[.string (((⟨#[104, 116, 116, 112, 58, 47, 47]⟩ : ByteArray) ++ host) ++ path), .slice (A) (more.length) (c)]) (by kernel_rfl) (by kernel_rfl) rfl (implURLJoin_any (((⟨#[104, 116, 116, 112, 58, 47, 47]⟩ : ByteArray) ++ host) ++ path) path ((⟨#[104, 116, 116, 112, 58, 47, 47]⟩ : ByteArray) ++ host) A c more _ _ _ S248 (fun w S => h0 w S.drop.drop) hu (by first | omega | (simp; done) | (simp; omega)) (by with_reducible assumption) (by first | omega | (simp; done) | (simp; omega)) (by first | omega | (simp; done) | (simp; omega))) rfl rfl rfl ?_
                        rintro _ w455 ⟨rfl, S455⟩
                        refine ⟨_, rfl, ?_⟩
                        intro a456 F456
                        refine op_p F456 (.tuple #[.string (slashP ((⟨#[104, 116, 116, 112, 58, 47, 47]⟩ : ByteArray) ++ host) (joinP ([path] ++ more))), .int .i64 0]) (by kernel_rfl) rfl rfl rfl (by kernel_rfl) rfl ?_; intro a457 F457
                        refine op_p F457 (.string (slashP ((⟨#[104, 116, 116, 112, 58, 47, 47]⟩ : ByteArray) ++ host) (joinP ([path] ++ more)))) (by kernel_rfl) rfl rfl rfl (by kernel_rfl) rfl ?_; intro a458 F458
                        refine op_p F458 (.int .i64 0) (by kernel_rfl) rfl rfl rfl (by kernel_rfl) rfl ?_; intro a459 F459
                        refine op_p F459 (.string (slashP ((⟨#[104, 116, 116, 112, 58, 47, 47]⟩ : ByteArray) ++ host) (joinP ([path] ++ more)))) (by kernel_rfl) rfl rfl rfl (by kernel_rfl) rfl ?_; intro a460 F460
                        refine op_p F460 (.int .i64 0) (by kernel_rfl) rfl rfl rfl (by kernel_rfl) rfl ?_; intro a461 F461
                        refine wpList_nil ?_
                        refine hK450 _ _ ?_; clear hK450 K450
                        refine wp_seq_k fun K462 hK462 => ?_
                        refine wp_region_lit ?_
                        refine op_p F461 (.int .i64 0) (by kernel_rfl) rfl rfl rfl (by kernel_rfl) rfl ?_; intro a463 F463
                        refine op_p F463 (.bool true) (by kernel_rfl) rfl rfl rfl (by kernel_rfl) rfl ?_; intro a464 F464
                        refine op_p F464 (.bool true) (by kernel_rfl) rfl rfl rfl (by kernel_rfl) rfl ?_; intro a465 F465
                        refine op_want F465 (by kernel_rfl) rfl ?_
                        refine op_p F465 (.string (slashP ((⟨#[104, 116, 116, 112, 58, 47, 47]⟩ : ByteArray) ++ host) (joinP ([path] ++ more)))) (by kernel_rfl) rfl rfl rfl (by kernel_rfl) rfl ?_; intro a466 F466
                        refine op_want F466 (by kernel_rfl) rfl ?_
                        refine op_p F466 (.string ((⟨#[104, 116, 116, 112, 58, 47, 47]⟩ : ByteArray) ++ host)) (by kernel_rfl) rfl rfl rfl (by kernel_rfl) rfl ?_; intro a467 F467
                        refine op_want F467 (by kernel_rfl) rfl ?_
                        refine op_p F467 (.string path) (by kernel_rfl) rfl rfl rfl (by kernel_rfl) rfl ?_; intro a468 F468
                        refine op_want F468 (by kernel_rfl) rfl ?_
                        refine op_p F468 (.slice (A) (more.length) (c)) (by kernel_rfl) rfl rfl rfl (by kernel_rfl) rfl ?_; intro a469 F469
                        refine op_want F469 (by kernel_rfl) rfl ?_
                        refine op_c F469 (f := 30) (args := #[.string ((⟨#[104, 116, 116, 112, 58, 47, 47]⟩ : ByteArray) ++ host), .string path, .slice (A) (more.length) (c)]) (by kernel_rfl) (by kernel_rfl) rfl (hlURL_any ((⟨#[104, 116, 116, 112, 58, 47, 47]⟩ : ByteArray) ++ host) path A c more _ _ _ S455 (fun w S => h0 w S.drop.drop) (by first | omega | (simp; done) | (simp; omega)) (by first | omega | (simp; done) | (simp; omega)) (by first | omega | (simp; done) | (simp; omega))) rfl rfl rfl ?_
                        rintro _ w470 ⟨rfl, S470⟩
                        refine ⟨_, rfl, ?_⟩
                        intro a471 F471
                        refine op_want F471 (by kernel_rfl) rfl ?_
                        have hs472 : ((slashP ((⟨#[104, 116, 116, 112, 58, 47, 47]⟩ : ByteArray) ++ host) (joinP ([path] ++ more))).toList == (slashP ((⟨#[104, 116, 116, 112, 58, 47, 47]⟩ : ByteArray) ++ host) (joinP ([path] ++ more))).toList) = true := beq_self_eq_true _
                        refine op_p F471 (.bool ((slashP ((⟨#[104, 116, 116, 112, 58, 47, 47]⟩ : ByteArray) ++ host) (joinP ([path] ++ more))).toList == (slashP ((⟨#[104, 116, 116, 112, 58, 47, 47]⟩ : ByteArray) ++ host) (joinP ([path] ++ more))).toList)) (by kernel_rfl) rfl rfl rfl (by kernel_rfl) rfl ?_; intro a473 F473
                        have F474 := F473.sb 131 (by kernel_rfl) hs472
                        refine op_p F474 (.bool true) (by kernel_rfl) rfl rfl rfl (by kernel_rfl) rfl ?_; intro a475 F475
                        refine op_p F475 (.bool true) (by kernel_rfl) rfl rfl rfl (by kernel_rfl) rfl ?_; intro a476 F476
                        refine op_want F476 (by kernel_rfl) rfl ?_
                        refine op_c F476 (f := 23) (args := #[]) (by kernel_rfl) (by kernel_rfl) rfl (hlLives_any  _ ) rfl rfl rfl ?_
                        rintro _ w477 ⟨rfl, hb_477⟩
                        refine ⟨_, rfl, ?_⟩
                        intro a478 F478
                        have S477 := S470.below hb_477
                        refine op_p F478 (.bool true) (by kernel_rfl) rfl rfl rfl (by kernel_rfl) rfl ?_; intro a479 F479
                        refine op_p F479 (.bool true) (by kernel_rfl) rfl rfl rfl (by kernel_rfl) rfl ?_; intro a480 F480
                        refine wpList_nil ?_
                        refine hK462 _ _ ?_; clear hK462 K462
                        refine wp_ret ?_
                        refine (F480.res1 rfl (v := .bool true) (by kernel_rfl) ?_).1
                        exact ⟨rfl, S477.drop.drop⟩
                    · have hppos := ne_size hc398
                      have F481 := F397.sb 96 (by kernel_rfl) (show (!(path.toList == (⟨#[]⟩ : ByteArray).toList)) = true by rw [hc398]; rfl)
                      have F482 := F481.sb 97 (by kernel_rfl) (show (!(path.toList == (⟨#[]⟩ : ByteArray).toList)) = true by rw [hc398]; rfl)
                      refine op_want F482 (by kernel_rfl) rfl ?_
                      refine op_p F482 (.string path) (by kernel_rfl) rfl rfl rfl (by kernel_rfl) rfl ?_; intro a483 F483
                      refine op_want F483 (by kernel_rfl) rfl ?_
                      refine op_r (v := .int .u8 (↑path[0].toNat)) F483 (r_index rfl Try.underlying9 (F483.ev (v := .string path) (by kernel_rfl)) (F483.ev (v := .int .i64 0) (by kernel_rfl)) 0 (by first | rfl | omega | simp) (by first | omega | (simp; done) | (simp; omega))) rfl rfl rfl ?_; intro a484 F484
                      refine op_want F484 (by kernel_rfl) rfl ?_
                      refine op_p F484 (.bool (!((↑path[0].toNat : Int) == 47))) (by kernel_rfl) rfl rfl rfl (by kernel_rfl) rfl ?_; intro a485 F485
                      refine op_p F485 (.bool (!((↑path[0].toNat : Int) == 47))) (by kernel_rfl) rfl rfl rfl (by kernel_rfl) rfl ?_; intro a486 F486
                      refine wpList_nil ?_
                      refine hK394 _ _ ?_; clear hK394 K394
                      rcases btf ((↑path[0].toNat : Int) == 47) with hc487 | hc487
                      · have hc487p := eq_of_beq hc487
                        have F488 := F486.sb 100 (by kernel_rfl) (show (!((↑path[0].toNat : Int) == 47)) = false by rw [hc487]; rfl)
                        have F489 := F488.sb 101 (by kernel_rfl) (show (!((↑path[0].toNat : Int) == 47)) = false by rw [hc487]; rfl)
                        refine wp_cond_false (F489.ev (by kernel_rfl)) ?_
                        refine wp_skip ?_
                        refine hK393 _ _ ?_; clear hK393 K393
                        refine wp_seq_k fun K490 hK490 => ?_
                        refine wp_region_lit ?_
                        refine op_p F489 (.string host) (by kernel_rfl) rfl rfl rfl (by kernel_rfl) rfl ?_; intro a491 F491
                        refine op_r (v := .string ((⟨#[104, 116, 116, 112, 58, 47, 47]⟩ : ByteArray) ++ host)) F491 (r_sadd rfl (F491.ev (v := .string ⟨#[104, 116, 116, 112, 58, 47, 47]⟩) (by kernel_rfl)) (F491.ev (v := .string host) (by kernel_rfl)) (by show 7 + host.size ≤ 9223372036854775807; first | omega | (simp only [ByteArray.size_append]; omega) | (show 7 + _ ≤ _; omega) | (show 8 + _ ≤ _; omega) | (rw [ByteArray.size_append]; show 7 + _ + _ ≤ _; omega) | (rw [ByteArray.size_append]; show 8 + _ + _ ≤ _; omega))) rfl rfl rfl ?_; intro a492 F492
                        refine op_p F492 (.string ((⟨#[104, 116, 116, 112, 58, 47, 47]⟩ : ByteArray) ++ host)) (by kernel_rfl) rfl rfl rfl (by kernel_rfl) rfl ?_; intro a493 F493
                        refine wpList_nil ?_
                        refine hK490 _ _ ?_; clear hK490 K490
                        refine wp_seq_k fun K494 hK494 => ?_
                        refine wp_region_lit ?_
                        refine op_p F493 (.bool b) (by kernel_rfl) rfl rfl rfl (by kernel_rfl) rfl ?_; intro a495 F495
                        refine wpList_nil ?_
                        refine hK494 _ _ ?_; clear hK494 K494
                        rcases btf (b) with hc496 | hc496
                        · have F497 := F495.sb 3 (by kernel_rfl) hc496
                          have F498 := F497.sb 104 (by kernel_rfl) hc496
                          refine wp_cond_true (F498.ev (by kernel_rfl)) ?_
                          refine wp_region_lit ?_
                          refine op_p F498 (.string host) (by kernel_rfl) rfl rfl rfl (by kernel_rfl) rfl ?_; intro a499 F499
                          refine op_r (v := .string ((⟨#[104, 116, 116, 112, 115, 58, 47, 47]⟩ : ByteArray) ++ host)) F499 (r_sadd rfl (F499.ev (v := .string ⟨#[104, 116, 116, 112, 115, 58, 47, 47]⟩) (by kernel_rfl)) (F499.ev (v := .string host) (by kernel_rfl)) (by show 8 + host.size ≤ 9223372036854775807; first | omega | (simp only [ByteArray.size_append]; omega) | (show 7 + _ ≤ _; omega) | (show 8 + _ ≤ _; omega) | (rw [ByteArray.size_append]; show 7 + _ + _ ≤ _; omega) | (rw [ByteArray.size_append]; show 8 + _ + _ ≤ _; omega))) rfl rfl rfl ?_; intro a500 F500
                          refine op_p F500 (.string ((⟨#[104, 116, 116, 112, 115, 58, 47, 47]⟩ : ByteArray) ++ host)) (by kernel_rfl) rfl rfl rfl (by kernel_rfl) rfl ?_; intro a501 F501
                          refine wpList_nil ?_
                          refine hK295 _ _ ?_; clear hK295 K295
                          refine wp_seq_k fun K502 hK502 => ?_
                          refine wp_region_lit ?_
                          refine op_p F501 (.string ((⟨#[104, 116, 116, 112, 115, 58, 47, 47]⟩ : ByteArray) ++ host)) (by kernel_rfl) rfl rfl rfl (by kernel_rfl) rfl ?_; intro a503 F503
                          refine op_p F503 (.string path) (by kernel_rfl) rfl rfl rfl (by kernel_rfl) rfl ?_; intro a504 F504
                          refine op_r (v := .string (((⟨#[104, 116, 116, 112, 115, 58, 47, 47]⟩ : ByteArray) ++ host) ++ path)) F504 (r_sadd rfl (F504.ev (v := .string ((⟨#[104, 116, 116, 112, 115, 58, 47, 47]⟩ : ByteArray) ++ host)) (by kernel_rfl)) (F504.ev (v := .string path) (by kernel_rfl)) (by show ((⟨#[104, 116, 116, 112, 115, 58, 47, 47]⟩ : ByteArray) ++ host).size + path.size ≤ 9223372036854775807; first | omega | (simp only [ByteArray.size_append]; omega) | (show 7 + _ ≤ _; omega) | (show 8 + _ ≤ _; omega) | (rw [ByteArray.size_append]; show 7 + _ + _ ≤ _; omega) | (rw [ByteArray.size_append]; show 8 + _ + _ ≤ _; omega))) rfl rfl rfl ?_; intro a505 F505
                          refine op_p F505 (.slice (A) (more.length) (c)) (by kernel_rfl) rfl rfl rfl (by kernel_rfl) rfl ?_; intro a506 F506
                          have hu := uj_law true (q := _) rfl (hhx.resolve_left (by rw [hc299]; simp)) (.inr ⟨hppos, hc487⟩)
                          have hrz : (((⟨#[104, 116, 116, 112, 115, 58, 47, 47]⟩ : ByteArray) ++ host) ++ path).size ≤ 1000 := by rw [ByteArray.size_append, ByteArray.size_append]; show 8 + _ + _ ≤ _; omega
                          have hpz : ((⟨#[104, 116, 116, 112, 115, 58, 47, 47]⟩ : ByteArray) ++ host).size ≤ 1000 := by rw [ByteArray.size_append]; show 8 + _ ≤ _; omega
                          refine op_c F506 (f := 29) (args := #[.string (((⟨#[104, 116, 116, 112, 115, 58, 47, 47]⟩ : ByteArray) ++ host) ++ path), .slice (A) (more.length) (c)]) (by kernel_rfl) (by kernel_rfl) rfl (implURLJoin_any (((⟨#[104, 116, 116, 112, 115, 58, 47, 47]⟩ : ByteArray) ++ host) ++ path) path ((⟨#[104, 116, 116, 112, 115, 58, 47, 47]⟩ : ByteArray) ++ host) A c more _ _ _ S248 (fun w S => h0 w S.drop.drop) hu (by first | omega | (simp; done) | (simp; omega)) (by with_reducible assumption) (by first | omega | (simp; done) | (simp; omega)) (by first | omega | (simp; done) | (simp; omega))) rfl rfl rfl ?_
                          rintro _ w507 ⟨rfl, S507⟩
                          refine ⟨_, rfl, ?_⟩
                          intro a508 F508
                          refine op_p F508 (.tuple #[.string (slashP ((⟨#[104, 116, 116, 112, 115, 58, 47, 47]⟩ : ByteArray) ++ host) (joinP ([path] ++ more))), .int .i64 0]) (by kernel_rfl) rfl rfl rfl (by kernel_rfl) rfl ?_; intro a509 F509
                          refine op_p F509 (.string (slashP ((⟨#[104, 116, 116, 112, 115, 58, 47, 47]⟩ : ByteArray) ++ host) (joinP ([path] ++ more)))) (by kernel_rfl) rfl rfl rfl (by kernel_rfl) rfl ?_; intro a510 F510
                          refine op_p F510 (.int .i64 0) (by kernel_rfl) rfl rfl rfl (by kernel_rfl) rfl ?_; intro a511 F511
                          refine op_p F511 (.string (slashP ((⟨#[104, 116, 116, 112, 115, 58, 47, 47]⟩ : ByteArray) ++ host) (joinP ([path] ++ more)))) (by kernel_rfl) rfl rfl rfl (by kernel_rfl) rfl ?_; intro a512 F512
                          refine op_p F512 (.int .i64 0) (by kernel_rfl) rfl rfl rfl (by kernel_rfl) rfl ?_; intro a513 F513
                          refine wpList_nil ?_
                          refine hK502 _ _ ?_; clear hK502 K502
                          refine wp_seq_k fun K514 hK514 => ?_
                          refine wp_region_lit ?_
                          refine op_p F513 (.int .i64 0) (by kernel_rfl) rfl rfl rfl (by kernel_rfl) rfl ?_; intro a515 F515
                          refine op_p F515 (.bool true) (by kernel_rfl) rfl rfl rfl (by kernel_rfl) rfl ?_; intro a516 F516
                          refine op_p F516 (.bool true) (by kernel_rfl) rfl rfl rfl (by kernel_rfl) rfl ?_; intro a517 F517
                          refine op_want F517 (by kernel_rfl) rfl ?_
                          refine op_p F517 (.string (slashP ((⟨#[104, 116, 116, 112, 115, 58, 47, 47]⟩ : ByteArray) ++ host) (joinP ([path] ++ more)))) (by kernel_rfl) rfl rfl rfl (by kernel_rfl) rfl ?_; intro a518 F518
                          refine op_want F518 (by kernel_rfl) rfl ?_
                          refine op_p F518 (.string ((⟨#[104, 116, 116, 112, 115, 58, 47, 47]⟩ : ByteArray) ++ host)) (by kernel_rfl) rfl rfl rfl (by kernel_rfl) rfl ?_; intro a519 F519
                          refine op_want F519 (by kernel_rfl) rfl ?_
                          refine op_p F519 (.string path) (by kernel_rfl) rfl rfl rfl (by kernel_rfl) rfl ?_; intro a520 F520
                          refine op_want F520 (by kernel_rfl) rfl ?_
                          refine op_p F520 (.slice (A) (more.length) (c)) (by kernel_rfl) rfl rfl rfl (by kernel_rfl) rfl ?_; intro a521 F521
                          refine op_want F521 (by kernel_rfl) rfl ?_
                          refine op_c F521 (f := 30) (args := #[.string ((⟨#[104, 116, 116, 112, 115, 58, 47, 47]⟩ : ByteArray) ++ host), .string path, .slice (A) (more.length) (c)]) (by kernel_rfl) (by kernel_rfl) rfl (hlURL_any ((⟨#[104, 116, 116, 112, 115, 58, 47, 47]⟩ : ByteArray) ++ host) path A c more _ _ _ S507 (fun w S => h0 w S.drop.drop) (by first | omega | (simp; done) | (simp; omega)) (by first | omega | (simp; done) | (simp; omega)) (by first | omega | (simp; done) | (simp; omega))) rfl rfl rfl ?_
                          rintro _ w522 ⟨rfl, S522⟩
                          refine ⟨_, rfl, ?_⟩
                          intro a523 F523
                          refine op_want F523 (by kernel_rfl) rfl ?_
                          have hs524 : ((slashP ((⟨#[104, 116, 116, 112, 115, 58, 47, 47]⟩ : ByteArray) ++ host) (joinP ([path] ++ more))).toList == (slashP ((⟨#[104, 116, 116, 112, 115, 58, 47, 47]⟩ : ByteArray) ++ host) (joinP ([path] ++ more))).toList) = true := beq_self_eq_true _
                          refine op_p F523 (.bool ((slashP ((⟨#[104, 116, 116, 112, 115, 58, 47, 47]⟩ : ByteArray) ++ host) (joinP ([path] ++ more))).toList == (slashP ((⟨#[104, 116, 116, 112, 115, 58, 47, 47]⟩ : ByteArray) ++ host) (joinP ([path] ++ more))).toList)) (by kernel_rfl) rfl rfl rfl (by kernel_rfl) rfl ?_; intro a525 F525
                          have F526 := F525.sb 131 (by kernel_rfl) hs524
                          refine op_p F526 (.bool true) (by kernel_rfl) rfl rfl rfl (by kernel_rfl) rfl ?_; intro a527 F527
                          refine op_p F527 (.bool true) (by kernel_rfl) rfl rfl rfl (by kernel_rfl) rfl ?_; intro a528 F528
                          refine op_want F528 (by kernel_rfl) rfl ?_
                          refine op_c F528 (f := 23) (args := #[]) (by kernel_rfl) (by kernel_rfl) rfl (hlLives_any  _ ) rfl rfl rfl ?_
                          rintro _ w529 ⟨rfl, hb_529⟩
                          refine ⟨_, rfl, ?_⟩
                          intro a530 F530
                          have S529 := S522.below hb_529
                          refine op_p F530 (.bool true) (by kernel_rfl) rfl rfl rfl (by kernel_rfl) rfl ?_; intro a531 F531
                          refine op_p F531 (.bool true) (by kernel_rfl) rfl rfl rfl (by kernel_rfl) rfl ?_; intro a532 F532
                          refine wpList_nil ?_
                          refine hK514 _ _ ?_; clear hK514 K514
                          refine wp_ret ?_
                          refine (F532.res1 rfl (v := .bool true) (by kernel_rfl) ?_).1
                          exact ⟨rfl, S529.drop.drop⟩
                        · have F533 := F495.sb 3 (by kernel_rfl) hc496
                          have F534 := F533.sb 104 (by kernel_rfl) hc496
                          refine wp_cond_false (F534.ev (by kernel_rfl)) ?_
                          refine wp_skip ?_
                          refine hK295 _ _ ?_; clear hK295 K295
                          refine wp_seq_k fun K535 hK535 => ?_
                          refine wp_region_lit ?_
                          refine op_p F534 (.string ((⟨#[104, 116, 116, 112, 58, 47, 47]⟩ : ByteArray) ++ host)) (by kernel_rfl) rfl rfl rfl (by kernel_rfl) rfl ?_; intro a536 F536
                          refine op_p F536 (.string path) (by kernel_rfl) rfl rfl rfl (by kernel_rfl) rfl ?_; intro a537 F537
                          refine op_r (v := .string (((⟨#[104, 116, 116, 112, 58, 47, 47]⟩ : ByteArray) ++ host) ++ path)) F537 (r_sadd rfl (F537.ev (v := .string ((⟨#[104, 116, 116, 112, 58, 47, 47]⟩ : ByteArray) ++ host)) (by kernel_rfl)) (F537.ev (v := .string path) (by kernel_rfl)) (by show ((⟨#[104, 116, 116, 112, 58, 47, 47]⟩ : ByteArray) ++ host).size + path.size ≤ 9223372036854775807; first | omega | (simp only [ByteArray.size_append]; omega) | (show 7 + _ ≤ _; omega) | (show 8 + _ ≤ _; omega) | (rw [ByteArray.size_append]; show 7 + _ + _ ≤ _; omega) | (rw [ByteArray.size_append]; show 8 + _ + _ ≤ _; omega))) rfl rfl rfl ?_; intro a538 F538
                          refine op_p F538 (.slice (A) (more.length) (c)) (by kernel_rfl) rfl rfl rfl (by kernel_rfl) rfl ?_; intro a539 F539
                          have hu := uj_law false (q := _) rfl (hhx.resolve_left (by rw [hc299]; simp)) (.inr ⟨hppos, hc487⟩)
                          have hrz : (((⟨#[104, 116, 116, 112, 58, 47, 47]⟩ : ByteArray) ++ host) ++ path).size ≤ 1000 := by rw [ByteArray.size_append, ByteArray.size_append]; show 7 + _ + _ ≤ _; omega
                          have hpz : ((⟨#[104, 116, 116, 112, 58, 47, 47]⟩ : ByteArray) ++ host).size ≤ 1000 := by rw [ByteArray.size_append]; show 7 + _ ≤ _; omega
                          refine op_c F539 (f := 29) (args := #[.string (((⟨#[104, 116, 116, 112, 58, 47, 47]⟩ : ByteArray) ++ host) ++ path), .slice (A) (more.length) (c)]) (by kernel_rfl) (by kernel_rfl) rfl (implURLJoin_any (((⟨#[104, 116, 116, 112, 58, 47, 47]⟩ : ByteArray) ++ host) ++ path) path ((⟨#[104, 116, 116, 112, 58, 47, 47]⟩ : ByteArray) ++ host) A c more _ _ _ S248 (fun w S => h0 w S.drop.drop) hu (by first | omega | (simp; done) | (simp; omega)) (by with_reducible assumption) (by first | omega | (simp; done) | (simp; omega)) (by first | omega | (simp; done) | (simp; omega))) rfl rfl rfl ?_
                          rintro _ w540 ⟨rfl, S540⟩
                          refine ⟨_, rfl, ?_⟩
                          intro a541 F541
                          refine op_p F541 (.tuple #[.string (slashP ((⟨#[104, 116, 116, 112, 58, 47, 47]⟩ : ByteArray) ++ host) (joinP ([path] ++ more))), .int .i64 0]) (by kernel_rfl) rfl rfl rfl (by kernel_rfl) rfl ?_; intro a542 F542
                          refine op_p F542 (.string (slashP ((⟨#[104, 116, 116, 112, 58, 47, 47]⟩ : ByteArray) ++ host) (joinP ([path] ++ more)))) (by kernel_rfl) rfl rfl rfl (by kernel_rfl) rfl ?_; intro a543 F543
                          refine op_p F543 (.int .i64 0) (by kernel_rfl) rfl rfl rfl (by kernel_rfl) rfl ?_; intro a544 F544
                          refine op_p F544 (.string (slashP ((⟨#[104, 116, 116, 112, 58, 47, 47]⟩ : ByteArray) ++ host) (joinP ([path] ++ more)))) (by kernel_rfl) rfl rfl rfl (by kernel_rfl) rfl ?_; intro a545 F545
                          refine op_p F545 (.int .i64 0) (by kernel_rfl) rfl rfl rfl (by kernel_rfl) rfl ?_; intro a546 F546
                          refine wpList_nil ?_
                          refine hK535 _ _ ?_; clear hK535 K535
                          refine wp_seq_k fun K547 hK547 => ?_
                          refine wp_region_lit ?_
                          refine op_p F546 (.int .i64 0) (by kernel_rfl) rfl rfl rfl (by kernel_rfl) rfl ?_; intro a548 F548
                          refine op_p F548 (.bool true) (by kernel_rfl) rfl rfl rfl (by kernel_rfl) rfl ?_; intro a549 F549
                          refine op_p F549 (.bool true) (by kernel_rfl) rfl rfl rfl (by kernel_rfl) rfl ?_; intro a550 F550
                          refine op_want F550 (by kernel_rfl) rfl ?_
                          refine op_p F550 (.string (slashP ((⟨#[104, 116, 116, 112, 58, 47, 47]⟩ : ByteArray) ++ host) (joinP ([path] ++ more)))) (by kernel_rfl) rfl rfl rfl (by kernel_rfl) rfl ?_; intro a551 F551
                          refine op_want F551 (by kernel_rfl) rfl ?_
                          refine op_p F551 (.string ((⟨#[104, 116, 116, 112, 58, 47, 47]⟩ : ByteArray) ++ host)) (by kernel_rfl) rfl rfl rfl (by kernel_rfl) rfl ?_; intro a552 F552
                          refine op_want F552 (by kernel_rfl) rfl ?_
                          refine op_p F552 (.string path) (by kernel_rfl) rfl rfl rfl (by kernel_rfl) rfl ?_; intro a553 F553
                          refine op_want F553 (by kernel_rfl) rfl ?_
                          refine op_p F553 (.slice (A) (more.length) (c)) (by kernel_rfl) rfl rfl rfl (by kernel_rfl) rfl ?_; intro a554 F554
                          refine op_want F554 (by kernel_rfl) rfl ?_
                          refine op_c F554 (f := 30) (args := #[.string ((⟨#[104, 116, 116, 112, 58, 47, 47]⟩ : ByteArray) ++ host), .string path, .slice (A) (more.length) (c)]) (by kernel_rfl) (by kernel_rfl) rfl (hlURL_any ((⟨#[104, 116, 116, 112, 58, 47, 47]⟩ : ByteArray) ++ host) path A c more _ _ _ S540 (fun w S => h0 w S.drop.drop) (by first | omega | (simp; done) | (simp; omega)) (by first | omega | (simp; done) | (simp; omega)) (by first | omega | (simp; done) | (simp; omega))) rfl rfl rfl ?_
                          rintro _ w555 ⟨rfl, S555⟩
                          refine ⟨_, rfl, ?_⟩
                          intro a556 F556
                          refine op_want F556 (by kernel_rfl) rfl ?_
                          have hs557 : ((slashP ((⟨#[104, 116, 116, 112, 58, 47, 47]⟩ : ByteArray) ++ host) (joinP ([path] ++ more))).toList == (slashP ((⟨#[104, 116, 116, 112, 58, 47, 47]⟩ : ByteArray) ++ host) (joinP ([path] ++ more))).toList) = true := beq_self_eq_true _
                          refine op_p F556 (.bool ((slashP ((⟨#[104, 116, 116, 112, 58, 47, 47]⟩ : ByteArray) ++ host) (joinP ([path] ++ more))).toList == (slashP ((⟨#[104, 116, 116, 112, 58, 47, 47]⟩ : ByteArray) ++ host) (joinP ([path] ++ more))).toList)) (by kernel_rfl) rfl rfl rfl (by kernel_rfl) rfl ?_; intro a558 F558
                          have F559 := F558.sb 131 (by kernel_rfl) hs557
                          refine op_p F559 (.bool true) (by kernel_rfl) rfl rfl rfl (by kernel_rfl) rfl ?_; intro a560 F560
                          refine op_p F560 (.bool true) (by kernel_rfl) rfl rfl rfl (by kernel_rfl) rfl ?_; intro a561 F561
                          refine op_want F561 (by kernel_rfl) rfl ?_
                          refine op_c F561 (f := 23) (args := #[]) (by kernel_rfl) (by kernel_rfl) rfl (hlLives_any  _ ) rfl rfl rfl ?_
                          rintro _ w562 ⟨rfl, hb_562⟩
                          refine ⟨_, rfl, ?_⟩
                          intro a563 F563
                          have S562 := S555.below hb_562
                          refine op_p F563 (.bool true) (by kernel_rfl) rfl rfl rfl (by kernel_rfl) rfl ?_; intro a564 F564
                          refine op_p F564 (.bool true) (by kernel_rfl) rfl rfl rfl (by kernel_rfl) rfl ?_; intro a565 F565
                          refine wpList_nil ?_
                          refine hK547 _ _ ?_; clear hK547 K547
                          refine wp_ret ?_
                          refine (F565.res1 rfl (v := .bool true) (by kernel_rfl) ?_).1
                          exact ⟨rfl, S562.drop.drop⟩
                      · have hc487p := ne_of_beq_false hc487
                        have F566 := F486.sb 100 (by kernel_rfl) (show (!((↑path[0].toNat : Int) == 47)) = true by rw [hc487]; rfl)
                        have F567 := F566.sb 101 (by kernel_rfl) (show (!((↑path[0].toNat : Int) == 47)) = true by rw [hc487]; rfl)
                        refine wp_cond_true (F567.ev (by kernel_rfl)) ?_
                        refine wp_seq_k fun K568 hK568 => ?_
                        refine wp_region_lit ?_
                        refine op_p F567 (.bool true) (by kernel_rfl) rfl rfl rfl (by kernel_rfl) rfl ?_; intro a569 F569
                        refine wpList_nil ?_
                        refine hK568 _ _ ?_; clear hK568 K568
                        refine wp_ret ?_
                        refine ret_then ?_
                        refine ret_then ?_
                        refine (F569.res1 rfl (v := .bool true) (by kernel_rfl) ?_).1
                        exact ⟨rfl, S248.drop.drop⟩
        · have F570 := F64.sb 33 (by kernel_rfl) hc65
          have F571 := F570.sb 34 (by kernel_rfl) (show (!(shortB ([host, path] ++ more))) = true by rw [hc65]; rfl)
          have F572 := F571.sb 35 (by kernel_rfl) (show (!(shortB ([host, path] ++ more))) = true by rw [hc65]; rfl)
          refine op_skip F572 (by kernel_rfl) rfl rfl rfl ?_; intro a573 F573
          refine op_skip F573 (by kernel_rfl) rfl rfl rfl ?_; intro a574 F574
          refine op_skip F574 (by kernel_rfl) rfl rfl rfl ?_; intro a575 F575
          refine op_p F575 (.bool true) (by kernel_rfl) rfl rfl rfl (by kernel_rfl) rfl ?_; intro a576 F576
          refine op_p F576 (.bool true) (by kernel_rfl) rfl rfl rfl (by kernel_rfl) rfl ?_; intro a577 F577
          refine op_skip F577 (by kernel_rfl) rfl rfl rfl ?_; intro a578 F578
          refine op_skip F578 (by kernel_rfl) rfl rfl rfl ?_; intro a579 F579
          refine op_skip F579 (by kernel_rfl) rfl rfl rfl ?_; intro a580 F580
          refine op_p F580 (.bool true) (by kernel_rfl) rfl rfl rfl (by kernel_rfl) rfl ?_; intro a581 F581
          refine wpList_nil ?_
          refine hK53 _ _ ?_; clear hK53 K53
          refine wp_cond_true (F581.ev (by kernel_rfl)) ?_
          refine wp_seq_k fun K582 hK582 => ?_
          refine wp_region_lit ?_
          refine op_p F581 (.bool true) (by kernel_rfl) rfl rfl rfl (by kernel_rfl) rfl ?_; intro a583 F583
          refine wpList_nil ?_
          refine hK582 _ _ ?_; clear hK582 K582
          refine wp_ret ?_
          refine ret_then ?_
          refine (F583.res1 rfl (v := .bool true) (by kernel_rfl) ?_).1
          exact ⟨rfl, S60.drop⟩
      · have F584 := F47.sb 25 (by kernel_rfl) hc48
        have F585 := F584.sb 26 (by kernel_rfl) (show (!(fits3 more)) = true by rw [hc48]; rfl)
        have F586 := F585.sb 27 (by kernel_rfl) (show (!(fits3 more)) = true by rw [hc48]; rfl)
        refine wp_cond_true (F586.ev (by kernel_rfl)) ?_
        refine wp_seq_k fun K587 hK587 => ?_
        refine wp_region_lit ?_
        refine op_p F586 (.bool true) (by kernel_rfl) rfl rfl rfl (by kernel_rfl) rfl ?_; intro a588 F588
        refine wpList_nil ?_
        refine hK587 _ _ ?_; clear hK587 K587
        refine wp_ret ?_
        refine ret_then ?_
        refine (F588.res1 rfl (v := .bool true) (by kernel_rfl) ?_).1
        exact ⟨rfl, S⟩
theorem fnHlURLJoin_walk (host path : ByteArray) (A : Option Addr) (c : Nat) (more : List ByteArray) (b : Bool) (w : World) (_y0 : host.size ≤ maxLen) (_y1 : path.size ≤ maxLen) (y2 : Sl w A (strs more)) :
    Calls Try.prog 6 #[.string host, .string path, .slice A more.length c, .bool b] w fun e w' => e = .returned (.bool true) ∧ Below w.heap.size w w' :=
  (fnHlURLJoin_sp host path A c more b _ [] w (Sp.start w) (Rf.of fun _ hb => y2.below hb)).mono fun _ _ ⟨he, hS⟩ => ⟨he, Sp.below_of hS⟩
end Go.Proofs.Ytkjcedlgljeoiaa
