/- The walk of FnHlExpand. -/
import Derived.Test.YtkjcedlgljeoiaaX7
import Derived.Test.YtkjcedlgljeoiaaFz
import Derived.Test.YtkjcedlgljeoiaaOk
namespace Go.Proofs.Ytkjcedlgljeoiaa
open Go.RowKit Go.Lib
set_option linter.unusedVariables false
set_option linter.unusedSimpArgs false
theorem fits18_sz {xs : List Ty108} (h : fits18 xs = true) : (∀ x ∈ xs, x.fKey.size ≤ 2147483647) ∧ ∀ x ∈ xs, x.fText.size ≤ 2147483647 := by
  simp only [fits18, Bool.and_eq_true, List.all_eq_true] at h
  refine ⟨fun x hx => ?_, fun x hx => ?_⟩ <;> (have h2 := h.2 x hx; simp only [fits68, Bool.and_eq_true, decide_eq_true_eq] at h2; omega)
theorem shortS_sz {s : ByteArray} (h : shortS s = true) : s.size ≤ 100 ∧ ∀ j, ∀ h : j < s.size, s[j].toNat ≤ 127 := by
  simp only [shortS, Bool.and_eq_true, decide_eq_true_eq, List.all_eq_true] at h
  refine ⟨h.1, fun j hj => h.2 _ ?_⟩
  have : s[j] = s.data.toList[j]'(by simpa using hj) := by simp [ByteArray.getElem_eq_getElem_data]
  rw [this]
  exact List.getElem_mem _
set_option maxRecDepth 100000 in
set_option maxHeartbeats 20000000 in
theorem implExpand_any (A : Option Addr) (c : Nat) (xs : List Ty108) (s : ByteArray) (R : Ctx) (L : List SA) (w : World) (S : Sp R w (L)) (h0 : Rf R L fun w => Rows w (A) 2 (xs.map Ty108.cells)) (hs : s.size ≤ 1000) (hM : ∀ x ∈ xs, x.fText.size ≤ 2147483647) :
    Calls Try.prog 21 #[.string s, .slice (A) (xs.length) (c)] w fun e w' => e = .returned (.string (exF xs s 0)) ∧ Sp R w' (L) := by
  have hl_xs : xs.length ≤ 9223372036854775807 := by have := (h0 _ S).1; simpa [strs, ptrs] using this
  refine fw_enter (fn := Try.f21) rfl rfl 8 rfl (Nat.le_of_ble_eq_true rfl) ?_
  intro a0 F0
  refine wp_seq_k fun K1 hK1 => ?_
  refine wp_region_lit ?_
  refine op_s F0 (s_newp F0 40 #[.slice (A) (xs.length) (c)] (by kernel_rfl) (by kernel_rfl) (by kernel_rfl) S) rfl rfl rfl ?_
  rintro _ _ w3 ⟨g1, rfl, rfl⟩ S3 a3 F3
  refine op_p F3 (.string ⟨#[]⟩) (by kernel_rfl) rfl rfl rfl (by kernel_rfl) rfl ?_; intro a4 F4
  refine wpList_nil ?_
  refine hK1 _ _ ?_; clear hK1 K1
  refine wp_seq_k fun K5 hK5 => ?_
  refine wp_region_lit ?_
  refine op_p F4 (.string s) (by kernel_rfl) rfl rfl rfl (by kernel_rfl) rfl ?_; intro a6 F6
  refine op_p F6 (.func (.func 70) #[] #[.pointer (some ⟨g1, 0, none⟩)]) (by kernel_rfl) rfl rfl rfl (by kernel_rfl) rfl ?_; intro a7 F7
  refine op_c F7 (f := 69) (args := #[.string s, .func (.func 70) #[] #[.pointer (some ⟨g1, 0, none⟩)]]) (by kernel_rfl) (by kernel_rfl) rfl (expand_any A c xs s g1 _ _ _ S3 (fun w S => h0 w S.drop) (fun w S => S.bk 0 rfl) (by first | omega | (simp; done) | (simp; omega)) (by first | omega | (simp; done) | (simp; omega))) rfl rfl rfl ?_
  rintro _ w8 ⟨rfl, S8⟩
  refine ⟨_, rfl, ?_⟩
  intro a9 F9
  refine op_p F9 (.string (exF xs s 0)) (by kernel_rfl) rfl rfl rfl (by kernel_rfl) rfl ?_; intro a10 F10
  refine wpList_nil ?_
  refine hK5 _ _ ?_; clear hK5 K5
  refine wp_ret ?_
  refine (F10.res1 rfl (v := .string (exF xs s 0)) (by kernel_rfl) ?_).1
  exact ⟨rfl, S8.drop⟩
set_option maxRecDepth 100000 in
set_option maxHeartbeats 20000000 in
theorem fnHlExpand_sp (A : Option Addr) (c : Nat) (xs : List Ty108) (s : ByteArray) (R : Ctx) (L : List SA) (w : World) (S : Sp R w (L)) (h0 : Rf R L fun w => Rows w (A) 2 (xs.map Ty108.cells)) (h1 : Rf R L fun w => Ty108.oks xs w) (hc : xs.length ≤ c) :
    Calls Try.prog 4 #[.string s, .slice (A) (xs.length) (c)] w fun e w' => e = .returned (.bool true) ∧ Sp R w' (L) := by
  have hl_xs : xs.length ≤ 9223372036854775807 := by have := (h0 _ S).1; simpa [strs, ptrs] using this
  refine fw_enter (fn := Try.f4) rfl rfl 32 rfl (Nat.le_of_ble_eq_true rfl) ?_
  intro a0 F0
  refine wp_seq_k fun K1 hK1 => ?_
  refine wp_region_lit ?_
  refine op_p F0 (.bool false) (by kernel_rfl) rfl rfl rfl (by kernel_rfl) rfl ?_; intro a2 F2
  refine wpList_nil ?_
  refine hK1 _ _ ?_; clear hK1 K1
  refine wp_seq_k fun K3 hK3 => ?_
  refine wp_seq_k fun K4 hK4 => ?_
  refine wp_region_lit ?_
  refine op_p F2 (.string s) (by kernel_rfl) rfl rfl rfl (by kernel_rfl) rfl ?_; intro a5 F5
  refine op_p F5 (.int .i64 (↑s.size)) (by kernel_rfl) rfl rfl rfl (by kernel_rfl) rfl ?_; intro a6 F6
  refine op_p F6 (.bool (decide ((2147483647 : Int) < ↑s.size))) (by kernel_rfl) rfl rfl rfl (by kernel_rfl) rfl ?_; intro a7 F7
  refine op_p F7 (.bool (decide ((2147483647 : Int) < ↑s.size))) (by kernel_rfl) rfl rfl rfl (by kernel_rfl) rfl ?_; intro a8 F8
  rcases btf (decide ((2147483647 : Int) < ↑s.size)) with hc9 | hc9
  · have hc9p := of_decide_eq_true hc9
    have F10 := F8.sb 7 (by kernel_rfl) hc9
    have F11 := F10.sb 8 (by kernel_rfl) hc9
    refine op_skip F11 (by kernel_rfl) rfl rfl rfl ?_; intro a12 F12
    refine op_skip F12 (by kernel_rfl) rfl rfl rfl ?_; intro a13 F13
    refine op_skip F13 (by kernel_rfl) rfl rfl rfl ?_; intro a14 F14
    refine op_p F14 (.bool true) (by kernel_rfl) rfl rfl rfl (by kernel_rfl) rfl ?_; intro a15 F15
    refine wpList_nil ?_
    refine hK4 _ _ ?_; clear hK4 K4
    refine wp_cond_true (F15.ev (by kernel_rfl)) ?_
    refine wp_seq_k fun K16 hK16 => ?_
    refine wp_region_lit ?_
    refine op_p F15 (.bool true) (by kernel_rfl) rfl rfl rfl (by kernel_rfl) rfl ?_; intro a17 F17
    refine wpList_nil ?_
    refine hK16 _ _ ?_; clear hK16 K16
    refine wp_ret ?_
    refine ret_then ?_
    refine (F17.res1 rfl (v := .bool true) (by kernel_rfl) ?_).1
    exact ⟨rfl, S⟩
  · have hc9p := of_decide_eq_false hc9
    have F18 := F8.sb 7 (by kernel_rfl) hc9
    have F19 := F18.sb 8 (by kernel_rfl) hc9
    refine op_want F19 (by kernel_rfl) rfl ?_
    refine op_p F19 (.slice (A) (xs.length) (c)) (by kernel_rfl) rfl rfl rfl (by kernel_rfl) rfl ?_; intro a20 F20
    refine op_want F20 (by kernel_rfl) rfl ?_
    refine op_c F20 (f := 18) (args := #[.slice (A) (xs.length) (c)]) (by kernel_rfl) (by kernel_rfl) rfl (fits18_any A c xs _ (h0 _ S) (h1 _ S)) rfl rfl rfl ?_
    rintro _ w21 ⟨rfl, hb_21⟩
    refine ⟨_, rfl, ?_⟩
    intro a22 F22
    have S21 := S.below hb_21
    refine op_want F22 (by kernel_rfl) rfl ?_
    refine op_p F22 (.bool (!(fits18 xs))) (by kernel_rfl) rfl rfl rfl (by kernel_rfl) rfl ?_; intro a23 F23
    refine op_p F23 (.bool (!(fits18 xs))) (by kernel_rfl) rfl rfl rfl (by kernel_rfl) rfl ?_; intro a24 F24
    refine wpList_nil ?_
    refine hK4 _ _ ?_; clear hK4 K4
    rcases btf (fits18 xs) with hc25 | hc25
    · have hk := (fits18_sz hc25).1
      have hM := (fits18_sz hc25).2
      have F26 := F24.sb 10 (by kernel_rfl) hc25
      have F27 := F26.sb 11 (by kernel_rfl) (show (!(fits18 xs)) = false by rw [hc25]; rfl)
      have F28 := F27.sb 12 (by kernel_rfl) (show (!(fits18 xs)) = false by rw [hc25]; rfl)
      refine wp_cond_false (F28.ev (by kernel_rfl)) ?_
      refine wp_skip ?_
      refine hK3 _ _ ?_; clear hK3 K3
      refine wp_seq_k fun K29 hK29 => ?_
      refine wp_seq_k fun K30 hK30 => ?_
      refine wp_region_lit ?_
      refine op_p F28 (.string s) (by kernel_rfl) rfl rfl rfl (by kernel_rfl) rfl ?_; intro a31 F31
      refine op_s F31 (s_news F31 9 #[.string s] 1 (by kernel_rfl) (by kernel_rfl) (by kernel_rfl) S21) rfl rfl rfl ?_
      rintro _ _ w33 ⟨g31, rfl, rfl⟩ S33 a33 F33
      refine op_c F33 (f := 19) (args := #[.slice (some ⟨g31, 0, none⟩) 1 1]) (by kernel_rfl) (by kernel_rfl) rfl (hlShort1 s g31 _ (S33.bk 0 rfl)) rfl rfl rfl ?_
      rintro _ _ ⟨rfl, rfl⟩
      refine ⟨_, rfl, ?_⟩
      intro a35 F35
      refine op_p F35 (.bool (!(shortS s))) (by kernel_rfl) rfl rfl rfl (by kernel_rfl) rfl ?_; intro a36 F36
      refine op_p F36 (.bool (!(shortS s))) (by kernel_rfl) rfl rfl rfl (by kernel_rfl) rfl ?_; intro a37 F37
      rcases btf (shortS s) with hc38 | hc38
      · have hs := (shortS_sz hc38).1
        have ha := (shortS_sz hc38).2
        have F39 := F37.sb 15 (by kernel_rfl) hc38
        have F40 := F39.sb 16 (by kernel_rfl) (show (!(shortS s)) = false by rw [hc38]; rfl)
        have F41 := F40.sb 17 (by kernel_rfl) (show (!(shortS s)) = false by rw [hc38]; rfl)
        refine op_want F41 (by kernel_rfl) rfl ?_
        refine op_p F41 (.slice (A) (xs.length) (c)) (by kernel_rfl) rfl rfl rfl (by kernel_rfl) rfl ?_; intro a42 F42
        refine op_want F42 (by kernel_rfl) rfl ?_
        refine op_c F42 (f := 20) (args := #[.slice (A) (xs.length) (c)]) (by kernel_rfl) (by kernel_rfl) rfl (hlEnv_any A c xs _ (h0 _ S33.drop) (by first | omega | (simp; done) | (simp; omega)) (by first | omega | (simp; done) | (simp; omega))) rfl rfl rfl ?_
        rintro _ w43 ⟨b43, rfl, hb_43⟩
        refine ⟨_, rfl, ?_⟩
        intro a44 F44
        have S43 := S33.below hb_43
        refine op_want F44 (by kernel_rfl) rfl ?_
        refine op_p F44 (.bool (!(b43))) (by kernel_rfl) rfl rfl rfl (by kernel_rfl) rfl ?_; intro a45 F45
        refine op_p F45 (.bool (!(b43))) (by kernel_rfl) rfl rfl rfl (by kernel_rfl) rfl ?_; intro a46 F46
        refine wpList_nil ?_
        refine hK30 _ _ ?_; clear hK30 K30
        rcases btf (b43) with hc47 | hc47
        · have F48 := F46.sb 19 (by kernel_rfl) hc47
          have F49 := F48.sb 20 (by kernel_rfl) (show (!(b43)) = false by rw [hc47]; rfl)
          have F50 := F49.sb 21 (by kernel_rfl) (show (!(b43)) = false by rw [hc47]; rfl)
          refine wp_cond_false (F50.ev (by kernel_rfl)) ?_
          refine wp_skip ?_
          refine hK29 _ _ ?_; clear hK29 K29
          refine wp_seq_k fun K51 hK51 => ?_
          refine wp_region_lit ?_
          refine op_p F50 (.string s) (by kernel_rfl) rfl rfl rfl (by kernel_rfl) rfl ?_; intro a52 F52
          refine op_p F52 (.slice (A) (xs.length) (c)) (by kernel_rfl) rfl rfl rfl (by kernel_rfl) rfl ?_; intro a53 F53
          refine op_c F53 (f := 21) (args := #[.string s, .slice (A) (xs.length) (c)]) (by kernel_rfl) (by kernel_rfl) rfl (implExpand_any A c xs s _ _ _ S43 (fun w S => h0 w S.drop) (by first | omega | (simp; done) | (simp; omega)) (by first | omega | (simp; done) | (simp; omega))) rfl rfl rfl ?_
          rintro _ w54 ⟨rfl, S54⟩
          refine ⟨_, rfl, ?_⟩
          intro a55 F55
          refine op_p F55 (.string s) (by kernel_rfl) rfl rfl rfl (by kernel_rfl) rfl ?_; intro a56 F56
          refine op_p F56 (.slice (A) (xs.length) (c)) (by kernel_rfl) rfl rfl rfl (by kernel_rfl) rfl ?_; intro a57 F57
          refine op_c F57 (f := 22) (args := #[.string s, .slice (A) (xs.length) (c)]) (by kernel_rfl) (by kernel_rfl) rfl (hlExpanded_any A c xs s _ _ _ S54 (fun w S => h0 w S.drop) (by first | omega | (simp; done) | (simp; omega)) (by first | omega | (simp; done) | (simp; omega)) (by first | omega | (simp; done) | (simp; omega))) rfl rfl rfl ?_
          rintro _ w58 ⟨rfl, S58⟩
          refine ⟨_, rfl, ?_⟩
          intro a59 F59
          have hs60 : ((exF xs s 0).toList == (exF xs s 0).toList) = true := beq_self_eq_true _
          refine op_p F59 (.bool ((exF xs s 0).toList == (exF xs s 0).toList)) (by kernel_rfl) rfl rfl rfl (by kernel_rfl) rfl ?_; intro a61 F61
          have F62 := F61.sb 28 (by kernel_rfl) hs60
          refine op_p F62 (.bool true) (by kernel_rfl) rfl rfl rfl (by kernel_rfl) rfl ?_; intro a63 F63
          refine op_want F63 (by kernel_rfl) rfl ?_
          refine op_c F63 (f := 23) (args := #[]) (by kernel_rfl) (by kernel_rfl) rfl (hlLives_any  _ ) rfl rfl rfl ?_
          rintro _ w64 ⟨rfl, hb_64⟩
          refine ⟨_, rfl, ?_⟩
          intro a65 F65
          have S64 := S58.below hb_64
          refine op_p F65 (.bool true) (by kernel_rfl) rfl rfl rfl (by kernel_rfl) rfl ?_; intro a66 F66
          refine op_p F66 (.bool true) (by kernel_rfl) rfl rfl rfl (by kernel_rfl) rfl ?_; intro a67 F67
          refine wpList_nil ?_
          refine hK51 _ _ ?_; clear hK51 K51
          refine wp_ret ?_
          refine (F67.res1 rfl (v := .bool true) (by kernel_rfl) ?_).1
          exact ⟨rfl, S64.drop⟩
        · have F68 := F46.sb 19 (by kernel_rfl) hc47
          have F69 := F68.sb 20 (by kernel_rfl) (show (!(b43)) = true by rw [hc47]; rfl)
          have F70 := F69.sb 21 (by kernel_rfl) (show (!(b43)) = true by rw [hc47]; rfl)
          refine wp_cond_true (F70.ev (by kernel_rfl)) ?_
          refine wp_seq_k fun K71 hK71 => ?_
          refine wp_region_lit ?_
          refine op_p F70 (.bool true) (by kernel_rfl) rfl rfl rfl (by kernel_rfl) rfl ?_; intro a72 F72
          refine wpList_nil ?_
          refine hK71 _ _ ?_; clear hK71 K71
          refine wp_ret ?_
          refine ret_then ?_
          refine (F72.res1 rfl (v := .bool true) (by kernel_rfl) ?_).1
          exact ⟨rfl, S43.drop⟩
      · have F73 := F37.sb 15 (by kernel_rfl) hc38
        have F74 := F73.sb 16 (by kernel_rfl) (show (!(shortS s)) = true by rw [hc38]; rfl)
        have F75 := F74.sb 17 (by kernel_rfl) (show (!(shortS s)) = true by rw [hc38]; rfl)
        refine op_skip F75 (by kernel_rfl) rfl rfl rfl ?_; intro a76 F76
        refine op_skip F76 (by kernel_rfl) rfl rfl rfl ?_; intro a77 F77
        refine op_skip F77 (by kernel_rfl) rfl rfl rfl ?_; intro a78 F78
        refine op_p F78 (.bool true) (by kernel_rfl) rfl rfl rfl (by kernel_rfl) rfl ?_; intro a79 F79
        refine wpList_nil ?_
        refine hK30 _ _ ?_; clear hK30 K30
        refine wp_cond_true (F79.ev (by kernel_rfl)) ?_
        refine wp_seq_k fun K80 hK80 => ?_
        refine wp_region_lit ?_
        refine op_p F79 (.bool true) (by kernel_rfl) rfl rfl rfl (by kernel_rfl) rfl ?_; intro a81 F81
        refine wpList_nil ?_
        refine hK80 _ _ ?_; clear hK80 K80
        refine wp_ret ?_
        refine ret_then ?_
        refine (F81.res1 rfl (v := .bool true) (by kernel_rfl) ?_).1
        exact ⟨rfl, S33.drop⟩
    · have F82 := F24.sb 10 (by kernel_rfl) hc25
      have F83 := F82.sb 11 (by kernel_rfl) (show (!(fits18 xs)) = true by rw [hc25]; rfl)
      have F84 := F83.sb 12 (by kernel_rfl) (show (!(fits18 xs)) = true by rw [hc25]; rfl)
      refine wp_cond_true (F84.ev (by kernel_rfl)) ?_
      refine wp_seq_k fun K85 hK85 => ?_
      refine wp_region_lit ?_
      refine op_p F84 (.bool true) (by kernel_rfl) rfl rfl rfl (by kernel_rfl) rfl ?_; intro a86 F86
      refine wpList_nil ?_
      refine hK85 _ _ ?_; clear hK85 K85
      refine wp_ret ?_
      refine ret_then ?_
      refine (F86.res1 rfl (v := .bool true) (by kernel_rfl) ?_).1
      exact ⟨rfl, S21⟩
theorem fnHlExpand_walk (s : ByteArray) (A : Option Addr) (c : Nat) (xs : List Ty108) (w : World) (_y : s.size ≤ maxLen) (y1 : Rows w A 2 (xs.map Ty108.cells)) (z1 : xs.length ≤ c) (u1 : ∀ x ∈ xs, x.ok w) :
    Calls Try.prog 4 #[.string s, .slice A xs.length c] w fun e w' => e = .returned (.bool true) ∧ Below w.heap.size w w' :=
  (fnHlExpand_sp A c xs s _ [] w (Sp.start w) (Rf.of fun _ hb => y1.below hb) (Rf.of fun _ hb => Ty108.oks.below u1 hb) z1).mono fun _ _ ⟨he, hS⟩ => ⟨he, Sp.below_of hS⟩
end Go.Proofs.Ytkjcedlgljeoiaa
