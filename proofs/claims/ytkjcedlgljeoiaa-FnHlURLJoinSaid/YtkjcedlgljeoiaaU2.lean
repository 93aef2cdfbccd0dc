/- plain.Clean. -/
import Derived.Test.YtkjcedlgljeoiaaU1
namespace Go.Proofs.Ytkjcedlgljeoiaa
open Go.RowKit Go.Lib
set_option linter.unusedVariables false
set_option linter.unusedSimpArgs false
set_option maxRecDepth 100000 in
set_option maxHeartbeats 20000000 in
theorem clean_any (s : ByteArray) (R : Ctx) (L : List SA) (w : World) (S : Sp R w (L))  (hs : s.size ≤ 10000) :
    Calls Try.prog 193 #[.string s] w fun e w' => e = .returned (.string (cleanP s)) ∧ Sp R w' (L) := by
  refine fw_enter (fn := Try.f193) rfl rfl 98 rfl (Nat.le_of_ble_eq_true rfl) ?_
  intro a0 F0
  refine wp_seq_k fun K1 hK1 => ?_
  refine wp_region_lit ?_
  refine op_p F0 (.string ⟨#[]⟩) (by kernel_rfl) rfl rfl rfl (by kernel_rfl) rfl ?_; intro a2 F2
  refine wpList_nil ?_
  refine hK1 _ _ ?_; clear hK1 K1
  refine wp_seq_k fun K3 hK3 => ?_
  refine wp_seq_k fun K4 hK4 => ?_
  refine wp_region_lit ?_
  refine op_p F2 (.string s) (by kernel_rfl) rfl rfl rfl (by kernel_rfl) rfl ?_; intro a5 F5
  refine op_p F5 (.bool (s.toList == (⟨#[]⟩ : ByteArray).toList)) (by kernel_rfl) rfl rfl rfl (by kernel_rfl) rfl ?_; intro a6 F6
  refine wpList_nil ?_
  refine hK4 _ _ ?_; clear hK4 K4
  rcases btf (s.toList == (⟨#[]⟩ : ByteArray).toList) with hc7 | hc7
  · have F8 := F6.sb 12 (by kernel_rfl) hc7
    refine wp_cond_true (F8.ev (by kernel_rfl)) ?_
    refine wp_seq_k fun K9 hK9 => ?_
    refine wp_region_lit ?_
    refine op_p F8 (.string ⟨#[46]⟩) (by kernel_rfl) rfl rfl rfl (by kernel_rfl) rfl ?_; intro a10 F10
    refine wpList_nil ?_
    refine hK9 _ _ ?_; clear hK9 K9
    refine wp_ret ?_
    refine ret_then ?_
    refine (F10.res1 rfl (v := .string ⟨#[46]⟩) (by kernel_rfl) ?_).1
    exact ⟨(ret_str (by unfold cleanP; rw [if_pos hc7])), S⟩
  · have hpos := ne_size hc7
    have F11 := F6.sb 12 (by kernel_rfl) hc7
    refine wp_cond_false (F11.ev (by kernel_rfl)) ?_
    refine wp_skip ?_
    refine hK3 _ _ ?_; clear hK3 K3
    refine wp_seq_k fun K12 hK12 => ?_
    refine wp_region_lit ?_
    refine op_p F11 (.string s) (by kernel_rfl) rfl rfl rfl (by kernel_rfl) rfl ?_; intro a13 F13
    refine op_r (v := .int .u8 (↑s[0].toNat)) F13 (r_index rfl Try.underlying9 (F13.ev (v := .string s) (by kernel_rfl)) (F13.ev (v := .int .i64 0) (by kernel_rfl)) 0 (by first | rfl | omega | simp) (by first | omega | (simp; done) | (simp; omega))) rfl rfl rfl ?_; intro a14 F14
    refine op_p F14 (.bool ((↑s[0].toNat : Int) == 47)) (by kernel_rfl) rfl rfl rfl (by kernel_rfl) rfl ?_; intro a15 F15
    refine op_p F15 (.bool ((↑s[0].toNat : Int) == 47)) (by kernel_rfl) rfl rfl rfl (by kernel_rfl) rfl ?_; intro a16 F16
    refine wpList_nil ?_
    refine hK12 _ _ ?_; clear hK12 K12
    refine wp_seq_k fun K17 hK17 => ?_
    refine wp_region_lit ?_
    refine op_p F16 (.slice none 0 0) (by kernel_rfl) rfl rfl rfl (by kernel_rfl) rfl ?_; intro a18 F18
    refine wpList_nil ?_
    refine hK17 _ _ ?_; clear hK17 K17
    refine wp_seq_k fun K19 hK19 => ?_
    refine wp_region_lit ?_
    refine op_p F18 (.int .i64 0) (by kernel_rfl) rfl rfl rfl (by kernel_rfl) rfl ?_; intro a20 F20
    refine wpList_nil ?_
    refine hK19 _ _ ?_; clear hK19 K19
    refine wp_seq_k fun K21 hK21 => ?_
    refine wp_seq_k fun K22 hK22 => ?_
    refine wp_region_lit ?_
    refine op_p F20 (.int .i64 0) (by kernel_rfl) rfl rfl rfl (by kernel_rfl) rfl ?_; intro a23 F23
    refine wpList_nil ?_
    refine hK22 _ _ ?_; clear hK22 K22
    refine wp_block ?_
    refine fw_loop (fun m a' w' => ∃ Ab : Option Addr, ∃ cb : Nat, ∃ l : List ByteArray, ∃ f : Nat, ∃ i : Nat, ∃ K : Nat, s.size + 1 - i = m ∧ Fr 98 [] a' [(0, .string s), (2, .string ⟨#[]⟩), (3, .bool ((↑s[0].toNat : Int) == 47)), (4, .slice Ab l.length cb), (5, .int .i64 (↑f)), (6, .int .i64 (↑i)), (11, .string s), (12, .bool false), (13, .string s), (14, .int .u8 (↑s[0].toNat)), (15, .bool ((↑s[0].toNat : Int) == 47))] ∧ Sp R w' (SA.own (.slice Ab l.length cb) 9 1 l.length (strs l) :: L) ∧ (f ≤ i) ∧ (i ≤ s.size + 1) ∧ (s.size + 1 ≤ K + f) ∧ (∀ j, ∀ h : j < s.size, f ≤ j → j < i → s[j].toNat ≠ 47) ∧ (i ≤ s.size → (splitF ⟨#[47]⟩ K (s.extract f s.size)).foldl (push ((↑s[0].toNat : Int) == 47)) l = stk ((↑s[0].toNat : Int) == 47) s) ∧ (s.size < i → l = stk ((↑s[0].toNat : Int) == 47) s) ∧ (l.length ≤ i) ∧ (∀ x ∈ l, x.size ≤ s.size)) _ ⟨none, 0, [], 0, 0, s.size + 1, rfl, (F23.k 0 (by kernel_rfl) (F23.k 2 (by kernel_rfl) (F23.k 3 (by kernel_rfl) (F23.k 4 (by kernel_rfl) (F23.k 5 (by kernel_rfl) (F23.k 6 (by kernel_rfl) (F23.k 11 (by kernel_rfl) (F23.k 12 (by kernel_rfl) (F23.k 13 (by kernel_rfl) (F23.k 14 (by kernel_rfl) (F23.k 15 (by kernel_rfl) F23.nil))))))))))), (Sp.nilown S), (by first | omega | (with_reducible assumption) | (simp; done)), (by first | omega | (with_reducible assumption) | (simp; done)), (by first | omega | (with_reducible assumption) | (simp; done)), (fun j hj h1 h2 => by omega), (fun _ => by rw [ext_whole]; rfl), (fun h => by omega), (by simp), (fun x hx => by cases hx)⟩ ?_
    rintro m24 a24 w24 ⟨Ab, cb, l, f, i, K, hm24, F24, S24, hf, hi, hK, hno, he, he2, hl, hx⟩ K24 hK24
    refine wp_seq_k fun K25 hK25 => ?_
    refine wp_seq_k fun K26 hK26 => ?_
    refine wp_region_lit ?_
    refine op_p F24 (.int .i64 (↑i)) (by kernel_rfl) rfl rfl rfl (by kernel_rfl) rfl ?_; intro a27 F27
    refine op_p F27 (.string s) (by kernel_rfl) rfl rfl rfl (by kernel_rfl) rfl ?_; intro a28 F28
    refine op_p F28 (.int .i64 (↑s.size)) (by kernel_rfl) rfl rfl rfl (by kernel_rfl) rfl ?_; intro a29 F29
    refine op_p F29 (.bool (decide ((↑i : Int) ≤ ↑s.size))) (by kernel_rfl) rfl rfl rfl (by kernel_rfl) rfl ?_; intro a30 F30
    refine wpList_nil ?_
    refine hK26 _ _ ?_; clear hK26 K26
    rcases btf (decide ((↑i : Int) ≤ ↑s.size)) with hc31 | hc31
    · have hc31p := of_decide_eq_true hc31
      have F32 := F30.sb 19 (by kernel_rfl) hc31
      refine wp_cond_true (F32.ev (by kernel_rfl)) ?_
      refine wp_skip ?_
      refine hK25 _ _ ?_; clear hK25 K25
      refine wp_seq_k fun K33 hK33 => ?_
      refine wp_block ?_
      refine wp_seq_k fun K34 hK34 => ?_
      refine wp_seq_k fun K35 hK35 => ?_
      refine wp_region_lit ?_
      refine op_p F32 (.int .i64 (↑i)) (by kernel_rfl) rfl rfl rfl (by kernel_rfl) rfl ?_; intro a36 F36
      refine op_p F36 (.string s) (by kernel_rfl) rfl rfl rfl (by kernel_rfl) rfl ?_; intro a37 F37
      refine op_p F37 (.int .i64 (↑s.size)) (by kernel_rfl) rfl rfl rfl (by kernel_rfl) rfl ?_; intro a38 F38
      refine op_p F38 (.bool (decide ((↑i : Int) < ↑s.size))) (by kernel_rfl) rfl rfl rfl (by kernel_rfl) rfl ?_; intro a39 F39
      refine op_p F39 (.bool (decide ((↑i : Int) < ↑s.size))) (by kernel_rfl) rfl rfl rfl (by kernel_rfl) rfl ?_; intro a40 F40
      rcases btf (decide ((↑i : Int) < ↑s.size)) with hc41 | hc41
      · have hc41p := of_decide_eq_true hc41
        have F42 := F40.sb 25 (by kernel_rfl) hc41
        have F43 := F42.sb 26 (by kernel_rfl) hc41
        refine op_want F43 (by kernel_rfl) rfl ?_
        refine op_p F43 (.string s) (by kernel_rfl) rfl rfl rfl (by kernel_rfl) rfl ?_; intro a44 F44
        refine op_want F44 (by kernel_rfl) rfl ?_
        refine op_p F44 (.int .i64 (↑i)) (by kernel_rfl) rfl rfl rfl (by kernel_rfl) rfl ?_; intro a45 F45
        refine op_want F45 (by kernel_rfl) rfl ?_
        refine op_r (v := .int .u8 (↑s[i].toNat)) F45 (r_index rfl Try.underlying9 (F45.ev (v := .string s) (by kernel_rfl)) (F45.ev (v := .int .i64 (↑i)) (by kernel_rfl)) i (by first | rfl | omega | simp) (by first | omega | (simp; done) | (simp; omega))) rfl rfl rfl ?_; intro a46 F46
        refine op_want F46 (by kernel_rfl) rfl ?_
        refine op_p F46 (.bool (!((↑s[i].toNat : Int) == 47))) (by kernel_rfl) rfl rfl rfl (by kernel_rfl) rfl ?_; intro a47 F47
        refine op_p F47 (.bool (!((↑s[i].toNat : Int) == 47))) (by kernel_rfl) rfl rfl rfl (by kernel_rfl) rfl ?_; intro a48 F48
        refine wpList_nil ?_
        refine hK35 _ _ ?_; clear hK35 K35
        rcases btf ((↑s[i].toNat : Int) == 47) with hc49 | hc49
        · have hc49p := eq_of_beq hc49
          have F50 := F48.sb 30 (by kernel_rfl) (show (!((↑s[i].toNat : Int) == 47)) = false by rw [hc49]; rfl)
          have F51 := F50.sb 31 (by kernel_rfl) (show (!((↑s[i].toNat : Int) == 47)) = false by rw [hc49]; rfl)
          refine wp_cond_false (F51.ev (by kernel_rfl)) ?_
          refine wp_skip ?_
          refine hK34 _ _ ?_; clear hK34 K34
          refine wp_seq_k fun K52 hK52 => ?_
          refine wp_region_lit ?_
          refine op_p F51 (.string s) (by kernel_rfl) rfl rfl rfl (by kernel_rfl) rfl ?_; intro a53 F53
          refine op_p F53 (.int .i64 (↑f)) (by kernel_rfl) rfl rfl rfl (by kernel_rfl) rfl ?_; intro a54 F54
          refine op_p F54 (.int .i64 (↑i)) (by kernel_rfl) rfl rfl rfl (by kernel_rfl) rfl ?_; intro a55 F55
          refine op_r (v := .string (s.extract f i)) F55 (r_sllh rfl Try.underlying9 (F55.ev (v := .string s) (by kernel_rfl)) (F55.ev (v := .int .i64 (↑f)) (by kernel_rfl)) (F55.ev (v := .int .i64 (↑i)) (by kernel_rfl))  f i (by first | rfl | omega | (simp; done) | (simp; omega)) (by first | omega | (simp; done) | (simp; omega)) (rfl)) rfl rfl rfl ?_; intro a56 F56
          refine op_p F56 (.string (s.extract f i)) (by kernel_rfl) rfl rfl rfl (by kernel_rfl) rfl ?_; intro a57 F57
          refine wpList_nil ?_
          refine hK52 _ _ ?_; clear hK52 K52
          refine wp_seq_k fun K58 hK58 => ?_
          refine wp_region_lit ?_
          refine op_p F57 (.int .i64 (↑i)) (by kernel_rfl) rfl rfl rfl (by kernel_rfl) rfl ?_; intro a59 F59
          refine op_r (v := .int .i64 (↑(i + 1))) F59 (r_add (z := ↑(i + 1)) rfl (F59.ev (v := .int .i64 (↑i)) (by kernel_rfl)) (F59.ev (v := .int .i64 1) (by kernel_rfl)) (wr64 (by omega) (by omega) (by omega))) rfl rfl rfl ?_; intro a60 F60
          refine op_p F60 (.int .i64 (↑(i + 1))) (by kernel_rfl) rfl rfl rfl (by kernel_rfl) rfl ?_; intro a61 F61
          refine wpList_nil ?_
          refine hK58 _ _ ?_; clear hK58 K58
          refine wp_block ?_
          refine wp_seq_k fun K62 hK62 => ?_
          refine wp_region_lit ?_
          refine op_p F61 (.string (s.extract f i)) (by kernel_rfl) rfl rfl rfl (by kernel_rfl) rfl ?_; intro a63 F63
          refine op_p F63 (.bool ((s.extract f i).toList == (⟨#[]⟩ : ByteArray).toList)) (by kernel_rfl) rfl rfl rfl (by kernel_rfl) rfl ?_; intro a64 F64
          refine op_p F64 (.bool ((s.extract f i).toList == (⟨#[]⟩ : ByteArray).toList)) (by kernel_rfl) rfl rfl rfl (by kernel_rfl) rfl ?_; intro a65 F65
          rcases btf ((s.extract f i).toList == (⟨#[]⟩ : ByteArray).toList) with hc66 | hc66
          · have F67 := F65.sb 44 (by kernel_rfl) hc66
            have F68 := F67.sb 45 (by kernel_rfl) hc66
            refine op_skip F68 (by kernel_rfl) rfl rfl rfl ?_; intro a69 F69
            refine op_skip F69 (by kernel_rfl) rfl rfl rfl ?_; intro a70 F70
            refine op_p F70 (.bool true) (by kernel_rfl) rfl rfl rfl (by kernel_rfl) rfl ?_; intro a71 F71
            refine op_p F71 (.bool true) (by kernel_rfl) rfl rfl rfl (by kernel_rfl) rfl ?_; intro a72 F72
            refine wpList_nil ?_
            refine hK62 _ _ ?_; clear hK62 K62
            refine wp_cond_true (F72.ev (by kernel_rfl)) ?_
            refine wp_skip ?_
            refine hK33 _ _ ?_; clear hK33 K33
            refine wp_region_lit ?_
            refine op_p F72 (.int .i64 (↑i)) (by kernel_rfl) rfl rfl rfl (by kernel_rfl) rfl ?_; intro a73 F73
            refine op_r (v := .int .i64 (↑(i + 1))) F73 (r_add (z := ↑(i + 1)) rfl (F73.ev (v := .int .i64 (↑i)) (by kernel_rfl)) (F73.ev (v := .int .i64 1) (by kernel_rfl)) (wr64 (by omega) (by omega) (by omega))) rfl rfl rfl ?_; intro a74 F74
            refine op_p F74 (.int .i64 (↑(i + 1))) (by kernel_rfl) rfl rfl rfl (by kernel_rfl) rfl ?_; intro a75 F75
            refine wpList_nil ?_
            have hp : push ((↑s[0].toNat : Int) == 47) l (s.extract f i) = l := by
              unfold push; simp only [hc66, Bool.false_eq_true, if_true, if_false]
            have hxs : ∀ x ∈ push ((↑s[0].toNat : Int) == 47) l (s.extract f i), x.size ≤ s.size := push_all hx (by simp only [ByteArray.size_extract]; omega)
            have hls : (push ((↑s[0].toNat : Int) == 47) l (s.extract f i)).length ≤ i + 1 := by have := push_len (r := ((↑s[0].toNat : Int) == 47)) (l := l) (p := s.extract f i); omega
            rw [hp] at hxs hls
            have hlt : i < s.size := by omega
            obtain ⟨K2, hK2, he3⟩ := stk_step (r := ((↑s[0].toNat : Int) == 47)) hf hlt hno (by omega) hK (he (by omega))
            rw [hp] at he3
            exact hK24 _ _ _ (by first | omega | (simp; omega)) ⟨Ab, cb, l, i + 1, i + 1, K2, rfl, (F75.k 0 (by kernel_rfl) (F75.k 2 (by kernel_rfl) (F75.k 3 (by kernel_rfl) (F75.k 4 (by kernel_rfl) (F75.k 5 (by kernel_rfl) (F75.k 6 (by kernel_rfl) (F75.k 11 (by kernel_rfl) (F75.k 12 (by kernel_rfl) (F75.k 13 (by kernel_rfl) (F75.k 14 (by kernel_rfl) (F75.k 15 (by kernel_rfl) F75.nil))))))))))), S24, (by first | omega | (with_reducible assumption) | (simp; done)), (by first | omega | (with_reducible assumption) | (simp; done)), hK2, (fun j hj h1 h2 => by omega), (fun _ => he3), (fun h => by omega), hls, hxs⟩
          · have F76 := F65.sb 44 (by kernel_rfl) hc66
            have F77 := F76.sb 45 (by kernel_rfl) hc66
            refine op_want F77 (by kernel_rfl) rfl ?_
            refine op_p F77 (.string (s.extract f i)) (by kernel_rfl) rfl rfl rfl (by kernel_rfl) rfl ?_; intro a78 F78
            refine op_want F78 (by kernel_rfl) rfl ?_
            refine op_p F78 (.bool ((s.extract f i).toList == (⟨#[46]⟩ : ByteArray).toList)) (by kernel_rfl) rfl rfl rfl (by kernel_rfl) rfl ?_; intro a79 F79
            refine op_p F79 (.bool ((s.extract f i).toList == (⟨#[46]⟩ : ByteArray).toList)) (by kernel_rfl) rfl rfl rfl (by kernel_rfl) rfl ?_; intro a80 F80
            refine op_p F80 (.bool ((s.extract f i).toList == (⟨#[46]⟩ : ByteArray).toList)) (by kernel_rfl) rfl rfl rfl (by kernel_rfl) rfl ?_; intro a81 F81
            refine wpList_nil ?_
            refine hK62 _ _ ?_; clear hK62 K62
            rcases btf ((s.extract f i).toList == (⟨#[46]⟩ : ByteArray).toList) with hc82 | hc82
            · have F83 := F81.sb 47 (by kernel_rfl) hc82
              have F84 := F83.sb 48 (by kernel_rfl) hc82
              have F85 := F84.sb 42 (by kernel_rfl) hc82
              refine wp_cond_true (F85.ev (by kernel_rfl)) ?_
              refine wp_skip ?_
              refine hK33 _ _ ?_; clear hK33 K33
              refine wp_region_lit ?_
              refine op_p F85 (.int .i64 (↑i)) (by kernel_rfl) rfl rfl rfl (by kernel_rfl) rfl ?_; intro a86 F86
              refine op_r (v := .int .i64 (↑(i + 1))) F86 (r_add (z := ↑(i + 1)) rfl (F86.ev (v := .int .i64 (↑i)) (by kernel_rfl)) (F86.ev (v := .int .i64 1) (by kernel_rfl)) (wr64 (by omega) (by omega) (by omega))) rfl rfl rfl ?_; intro a87 F87
              refine op_p F87 (.int .i64 (↑(i + 1))) (by kernel_rfl) rfl rfl rfl (by kernel_rfl) rfl ?_; intro a88 F88
              refine wpList_nil ?_
              have hp : push ((↑s[0].toNat : Int) == 47) l (s.extract f i) = l := by
                unfold push; simp only [hc66, hc82, Bool.false_eq_true, if_true, if_false]
              have hxs : ∀ x ∈ push ((↑s[0].toNat : Int) == 47) l (s.extract f i), x.size ≤ s.size := push_all hx (by simp only [ByteArray.size_extract]; omega)
              have hls : (push ((↑s[0].toNat : Int) == 47) l (s.extract f i)).length ≤ i + 1 := by have := push_len (r := ((↑s[0].toNat : Int) == 47)) (l := l) (p := s.extract f i); omega
              rw [hp] at hxs hls
              have hlt : i < s.size := by omega
              obtain ⟨K2, hK2, he3⟩ := stk_step (r := ((↑s[0].toNat : Int) == 47)) hf hlt hno (by omega) hK (he (by omega))
              rw [hp] at he3
              exact hK24 _ _ _ (by first | omega | (simp; omega)) ⟨Ab, cb, l, i + 1, i + 1, K2, rfl, (F88.k 0 (by kernel_rfl) (F88.k 2 (by kernel_rfl) (F88.k 3 (by kernel_rfl) (F88.k 4 (by kernel_rfl) (F88.k 5 (by kernel_rfl) (F88.k 6 (by kernel_rfl) (F88.k 11 (by kernel_rfl) (F88.k 12 (by kernel_rfl) (F88.k 13 (by kernel_rfl) (F88.k 14 (by kernel_rfl) (F88.k 15 (by kernel_rfl) F88.nil))))))))))), S24, (by first | omega | (with_reducible assumption) | (simp; done)), (by first | omega | (with_reducible assumption) | (simp; done)), hK2, (fun j hj h1 h2 => by omega), (fun _ => he3), (fun h => by omega), hls, hxs⟩
            · have F89 := F81.sb 47 (by kernel_rfl) hc82
              have F90 := F89.sb 48 (by kernel_rfl) hc82
              have F91 := F90.sb 42 (by kernel_rfl) hc82
              refine wp_cond_false (F91.ev (by kernel_rfl)) ?_
              refine wp_seq_k fun K92 hK92 => ?_
              refine wp_region_lit ?_
              refine op_p F91 (.string (s.extract f i)) (by kernel_rfl) rfl rfl rfl (by kernel_rfl) rfl ?_; intro a93 F93
              refine op_p F93 (.bool ((s.extract f i).toList == (⟨#[46, 46]⟩ : ByteArray).toList)) (by kernel_rfl) rfl rfl rfl (by kernel_rfl) rfl ?_; intro a94 F94
              refine op_p F94 (.bool ((s.extract f i).toList == (⟨#[46, 46]⟩ : ByteArray).toList)) (by kernel_rfl) rfl rfl rfl (by kernel_rfl) rfl ?_; intro a95 F95
              rcases btf ((s.extract f i).toList == (⟨#[46, 46]⟩ : ByteArray).toList) with hc96 | hc96
              · have F97 := F95.sb 51 (by kernel_rfl) hc96
                have F98 := F97.sb 52 (by kernel_rfl) hc96
                refine op_want F98 (by kernel_rfl) rfl ?_
                refine op_p F98 (.slice Ab l.length cb) (by kernel_rfl) rfl rfl rfl (by kernel_rfl) rfl ?_; intro a99 F99
                refine op_want F99 (by kernel_rfl) rfl ?_
                refine op_p F99 (.int .i64 (↑l.length)) (by kernel_rfl) rfl rfl rfl (by kernel_rfl) rfl ?_; intro a100 F100
                refine op_want F100 (by kernel_rfl) rfl ?_
                refine op_p F100 (.bool (decide ((0 : Int) < ↑l.length))) (by kernel_rfl) rfl rfl rfl (by kernel_rfl) rfl ?_; intro a101 F101
                refine op_p F101 (.bool (decide ((0 : Int) < ↑l.length))) (by kernel_rfl) rfl rfl rfl (by kernel_rfl) rfl ?_; intro a102 F102
                refine op_p F102 (.bool (decide ((0 : Int) < ↑l.length))) (by kernel_rfl) rfl rfl rfl (by kernel_rfl) rfl ?_; intro a103 F103
                rcases btf (decide ((0 : Int) < ↑l.length)) with hc104 | hc104
                · have hc104p := of_decide_eq_true hc104
                  have hl0 : 0 < l.length := by omega
                  have hll := lst_at hl0
                  obtain ⟨ad105, hA105⟩ := (own_sl1 (S24.ow 0 rfl) (by omega)).addr (by simp [strs]; omega)
                  have F106 := F103.sb 55 (by kernel_rfl) hc104
                  have F107 := F106.sb 56 (by kernel_rfl) hc104
                  have F108 := F107.sb 57 (by kernel_rfl) hc104
                  refine op_want F108 (by kernel_rfl) rfl ?_
                  refine op_p F108 (.slice Ab l.length cb) (by kernel_rfl) rfl rfl rfl (by kernel_rfl) rfl ?_; intro a109 F109
                  refine op_want F109 (by kernel_rfl) rfl ?_
                  refine op_p F109 (.slice Ab l.length cb) (by kernel_rfl) rfl rfl rfl (by kernel_rfl) rfl ?_; intro a110 F110
                  refine op_want F110 (by kernel_rfl) rfl ?_
                  refine op_p F110 (.int .i64 (↑l.length)) (by kernel_rfl) rfl rfl rfl (by kernel_rfl) rfl ?_; intro a111 F111
                  refine op_want F111 (by kernel_rfl) rfl ?_
                  refine op_r (v := .int .i64 (↑l.length - 1)) F111 (r_sub (z := (↑l.length - 1)) rfl (F111.ev (v := .int .i64 (↑l.length)) (by kernel_rfl)) (F111.ev (v := .int .i64 1) (by kernel_rfl)) (wr64 (by omega) (by omega) (by omega))) rfl rfl rfl ?_; intro a112 F112
                  refine op_want F112 (by kernel_rfl) rfl ?_
                  refine op_r (v := .pointer (some (ad105.add (l.length - 1)))) F112 (r_ix rfl Try.underlying22 1 (by kernel_rfl) (F112.ev (v := .slice Ab l.length cb) (by kernel_rfl)) hA105 (F112.ev (v := .int .i64 (↑l.length - 1)) (by kernel_rfl)) (l.length - 1) (by first | rfl | omega | simp) (by first | omega | (simp; done) | (simp; omega)) (by simp only [Nat.mul_one])) rfl rfl rfl ?_; intro a113 F113
                  refine op_want F113 (by kernel_rfl) rfl ?_
                  refine op_r (v := .string (l[l.length - 1])) F113 (r_ld rfl (F113.ev (v := .pointer (some (ad105.add (l.length - 1)))) (by kernel_rfl)) (v := .string (l[l.length - 1])) ((own_sl1 (S24.ow 0 rfl) (by omega)).elA hA105 (j := l.length - 1) (by simp [strs])) Try.underlying9 rfl) rfl rfl rfl ?_; intro a114 F114
                  refine op_want F114 (by kernel_rfl) rfl ?_
                  refine op_p F114 (.bool (!((l[l.length - 1]).toList == (⟨#[46, 46]⟩ : ByteArray).toList))) (by kernel_rfl) rfl rfl rfl (by kernel_rfl) rfl ?_; intro a115 F115
                  refine op_p F115 (.bool (!((l[l.length - 1]).toList == (⟨#[46, 46]⟩ : ByteArray).toList))) (by kernel_rfl) rfl rfl rfl (by kernel_rfl) rfl ?_; intro a116 F116
                  refine op_p F116 (.bool (!((l[l.length - 1]).toList == (⟨#[46, 46]⟩ : ByteArray).toList))) (by kernel_rfl) rfl rfl rfl (by kernel_rfl) rfl ?_; intro a117 F117
                  refine wpList_nil ?_
                  refine hK92 _ _ ?_; clear hK92 K92
                  rcases btf ((l[l.length - 1]).toList == (⟨#[46, 46]⟩ : ByteArray).toList) with hc118 | hc118
                  · have F119 := F117.sb 64 (by kernel_rfl) (show (!((l[l.length - 1]).toList == (⟨#[46, 46]⟩ : ByteArray).toList)) = false by rw [hc118]; rfl)
                    have F120 := F119.sb 65 (by kernel_rfl) (show (!((l[l.length - 1]).toList == (⟨#[46, 46]⟩ : ByteArray).toList)) = false by rw [hc118]; rfl)
                    have F121 := F120.sb 49 (by kernel_rfl) (show (!((l[l.length - 1]).toList == (⟨#[46, 46]⟩ : ByteArray).toList)) = false by rw [hc118]; rfl)
                    refine wp_cond_false (F121.ev (by kernel_rfl)) ?_
                    refine wp_seq_k fun K122 hK122 => ?_
                    refine wp_region_lit ?_
                    refine op_p F121 (.string (s.extract f i)) (by kernel_rfl) rfl rfl rfl (by kernel_rfl) rfl ?_; intro a123 F123
                    refine op_p F123 (.bool ((s.extract f i).toList == (⟨#[46, 46]⟩ : ByteArray).toList)) (by kernel_rfl) rfl rfl rfl (by kernel_rfl) rfl ?_; intro a124 F124
                    have F125 := F124.sb 73 (by kernel_rfl) hc96
                    refine op_p F125 (.bool true) (by kernel_rfl) rfl rfl rfl (by kernel_rfl) rfl ?_; intro a126 F126
                    refine op_want F126 (by kernel_rfl) rfl ?_
                    refine op_p F126 (.bool ((↑s[0].toNat : Int) == 47)) (by kernel_rfl) rfl rfl rfl (by kernel_rfl) rfl ?_; intro a127 F127
                    refine op_p F127 (.bool ((↑s[0].toNat : Int) == 47)) (by kernel_rfl) rfl rfl rfl (by kernel_rfl) rfl ?_; intro a128 F128
                    refine op_p F128 (.bool ((↑s[0].toNat : Int) == 47)) (by kernel_rfl) rfl rfl rfl (by kernel_rfl) rfl ?_; intro a129 F129
                    refine wpList_nil ?_
                    refine hK122 _ _ ?_; clear hK122 K122
                    rcases btf ((↑s[0].toNat : Int) == 47) with hc130 | hc130
                    · have hc130p := eq_of_beq hc130
                      have F131 := F129.sb 15 (by kernel_rfl) hc130
                      have F132 := F131.sb 3 (by kernel_rfl) hc130
                      have F133 := F132.sb 75 (by kernel_rfl) hc130
                      have F134 := F133.sb 76 (by kernel_rfl) hc130
                      have F135 := F134.sb 71 (by kernel_rfl) hc130
                      refine wp_cond_true (F135.ev (by kernel_rfl)) ?_
                      refine wp_skip ?_
                      refine hK33 _ _ ?_; clear hK33 K33
                      refine wp_region_lit ?_
                      refine op_p F135 (.int .i64 (↑i)) (by kernel_rfl) rfl rfl rfl (by kernel_rfl) rfl ?_; intro a136 F136
                      refine op_r (v := .int .i64 (↑(i + 1))) F136 (r_add (z := ↑(i + 1)) rfl (F136.ev (v := .int .i64 (↑i)) (by kernel_rfl)) (F136.ev (v := .int .i64 1) (by kernel_rfl)) (wr64 (by omega) (by omega) (by omega))) rfl rfl rfl ?_; intro a137 F137
                      refine op_p F137 (.int .i64 (↑(i + 1))) (by kernel_rfl) rfl rfl rfl (by kernel_rfl) rfl ?_; intro a138 F138
                      refine wpList_nil ?_
                      have hp : push ((↑s[0].toNat : Int) == 47) l (s.extract f i) = l := by
                        unfold push; simp only [hc66, hc82, hc96, hc118, hc130, hll, if_pos hl0, Bool.false_eq_true, if_true, if_false]
                      have hxs : ∀ x ∈ push ((↑s[0].toNat : Int) == 47) l (s.extract f i), x.size ≤ s.size := push_all hx (by simp only [ByteArray.size_extract]; omega)
                      have hls : (push ((↑s[0].toNat : Int) == 47) l (s.extract f i)).length ≤ i + 1 := by have := push_len (r := ((↑s[0].toNat : Int) == 47)) (l := l) (p := s.extract f i); omega
                      rw [hp] at hxs hls
                      have hlt : i < s.size := by omega
                      obtain ⟨K2, hK2, he3⟩ := stk_step (r := ((↑s[0].toNat : Int) == 47)) hf hlt hno (by omega) hK (he (by omega))
                      rw [hp] at he3
                      exact hK24 _ _ _ (by first | omega | (simp; omega)) ⟨Ab, cb, l, i + 1, i + 1, K2, rfl, (F138.k 0 (by kernel_rfl) (F138.k 2 (by kernel_rfl) (F138.k 3 (by rw [hc130]; kernel_rfl) (F138.k 4 (by kernel_rfl) (F138.k 5 (by kernel_rfl) (F138.k 6 (by kernel_rfl) (F138.k 11 (by kernel_rfl) (F138.k 12 (by kernel_rfl) (F138.k 13 (by kernel_rfl) (F138.k 14 (by kernel_rfl) (F138.k 15 (by rw [hc130]; kernel_rfl) F138.nil))))))))))), S24, (by first | omega | (with_reducible assumption) | (simp; done)), (by first | omega | (with_reducible assumption) | (simp; done)), hK2, (fun j hj h1 h2 => by omega), (fun _ => he3), (fun h => by omega), hls, hxs⟩
                    · have hc130p := ne_of_beq_false hc130
                      have F139 := F129.sb 15 (by kernel_rfl) hc130
                      have F140 := F139.sb 3 (by kernel_rfl) hc130
                      have F141 := F140.sb 75 (by kernel_rfl) hc130
                      have F142 := F141.sb 76 (by kernel_rfl) hc130
                      have F143 := F142.sb 71 (by kernel_rfl) hc130
                      refine wp_cond_false (F143.ev (by kernel_rfl)) ?_
                      refine wp_region_lit ?_
                      refine op_p F143 (.slice Ab l.length cb) (by kernel_rfl) rfl rfl rfl (by kernel_rfl) rfl ?_; intro a144 F144
                      refine op_p F144 (.string (s.extract f i)) (by kernel_rfl) rfl rfl rfl (by kernel_rfl) rfl ?_; intro a145 F145
                      refine op_s F145 (s_news F145 9 #[.string (s.extract f i)] 1 (by kernel_rfl) (by kernel_rfl) (by kernel_rfl) S24) rfl rfl rfl ?_
                      rintro _ _ w147 ⟨g145, rfl, rfl⟩ S147 a147 F147
                      refine op_s F147 (s_app rfl Try.underlying22 1 _ tin9 rfl rfl (F147.ev (v := .slice Ab l.length cb) (by kernel_rfl)) S147.p1 ([Value.string (s.extract f i)]) (F147.ev (v := .slice (some ⟨g145, 0, none⟩) 1 1) (by kernel_rfl)) ((S147.bk 0 rfl).sl (by simp)) rfl (by simp [Value.oneCell']) (by omega) (by omega) (n' := (l ++ [s.extract f i]).length) (by first | (simp; done) | (simp; omega)) (cs' := strs (l ++ [s.extract f i])) (by simp [strs])) rfl rfl rfl ?_
                      rintro _ _ w149 ⟨A148, c148, rfl, rfl⟩ S149 a149 F149
                      refine op_p F149 (.slice A148 ((l ++ [s.extract f i]).length) c148) (by kernel_rfl) rfl rfl rfl (by kernel_rfl) rfl ?_; intro a150 F150
                      refine wpList_nil ?_
                      refine hK33 _ _ ?_; clear hK33 K33
                      refine wp_region_lit ?_
                      refine op_p F150 (.int .i64 (↑i)) (by kernel_rfl) rfl rfl rfl (by kernel_rfl) rfl ?_; intro a151 F151
                      refine op_r (v := .int .i64 (↑(i + 1))) F151 (r_add (z := ↑(i + 1)) rfl (F151.ev (v := .int .i64 (↑i)) (by kernel_rfl)) (F151.ev (v := .int .i64 1) (by kernel_rfl)) (wr64 (by omega) (by omega) (by omega))) rfl rfl rfl ?_; intro a152 F152
                      refine op_p F152 (.int .i64 (↑(i + 1))) (by kernel_rfl) rfl rfl rfl (by kernel_rfl) rfl ?_; intro a153 F153
                      refine wpList_nil ?_
                      have hp : push ((↑s[0].toNat : Int) == 47) l (s.extract f i) = l ++ [s.extract f i] := by
                        unfold push; simp only [hc66, hc82, hc96, hc118, hc130, hll, if_pos hl0, Bool.false_eq_true, if_true, if_false]
                      have hxs : ∀ x ∈ push ((↑s[0].toNat : Int) == 47) l (s.extract f i), x.size ≤ s.size := push_all hx (by simp only [ByteArray.size_extract]; omega)
                      have hls : (push ((↑s[0].toNat : Int) == 47) l (s.extract f i)).length ≤ i + 1 := by have := push_len (r := ((↑s[0].toNat : Int) == 47)) (l := l) (p := s.extract f i); omega
                      rw [hp] at hxs hls
                      have hlt : i < s.size := by omega
                      obtain ⟨K2, hK2, he3⟩ := stk_step (r := ((↑s[0].toNat : Int) == 47)) hf hlt hno (by omega) hK (he (by omega))
                      rw [hp] at he3
                      exact hK24 _ _ _ (by first | omega | (simp; omega)) ⟨A148, c148, l ++ [s.extract f i], i + 1, i + 1, K2, rfl, (F153.k 0 (by kernel_rfl) (F153.k 2 (by kernel_rfl) (F153.k 3 (by rw [hc130]; kernel_rfl) (F153.k 4 (by kernel_rfl) (F153.k 5 (by kernel_rfl) (F153.k 6 (by kernel_rfl) (F153.k 11 (by kernel_rfl) (F153.k 12 (by kernel_rfl) (F153.k 13 (by kernel_rfl) (F153.k 14 (by kernel_rfl) (F153.k 15 (by rw [hc130]; kernel_rfl) F153.nil))))))))))), S149.p1.drop, (by first | omega | (with_reducible assumption) | (simp; done)), (by first | omega | (with_reducible assumption) | (simp; done)), hK2, (fun j hj h1 h2 => by omega), (fun _ => he3), (fun h => by omega), hls, hxs⟩
                  · have F154 := F117.sb 64 (by kernel_rfl) (show (!((l[l.length - 1]).toList == (⟨#[46, 46]⟩ : ByteArray).toList)) = true by rw [hc118]; rfl)
                    have F155 := F154.sb 65 (by kernel_rfl) (show (!((l[l.length - 1]).toList == (⟨#[46, 46]⟩ : ByteArray).toList)) = true by rw [hc118]; rfl)
                    have F156 := F155.sb 49 (by kernel_rfl) (show (!((l[l.length - 1]).toList == (⟨#[46, 46]⟩ : ByteArray).toList)) = true by rw [hc118]; rfl)
                    refine wp_cond_true (F156.ev (by kernel_rfl)) ?_
                    refine wp_region_lit ?_
                    refine op_p F156 (.slice Ab l.length cb) (by kernel_rfl) rfl rfl rfl (by kernel_rfl) rfl ?_; intro a157 F157
                    refine op_p F157 (.slice Ab l.length cb) (by kernel_rfl) rfl rfl rfl (by kernel_rfl) rfl ?_; intro a158 F158
                    refine op_p F158 (.int .i64 (↑l.length)) (by kernel_rfl) rfl rfl rfl (by kernel_rfl) rfl ?_; intro a159 F159
                    refine op_r (v := .int .i64 (↑l.length - 1)) F159 (r_sub (z := (↑l.length - 1)) rfl (F159.ev (v := .int .i64 (↑l.length)) (by kernel_rfl)) (F159.ev (v := .int .i64 1) (by kernel_rfl)) (wr64 (by omega) (by omega) (by omega))) rfl rfl rfl ?_; intro a160 F160
                    refine op_s F160 (s_shr rfl Try.underlying22 1 (by kernel_rfl) (F160.ev (v := .slice Ab l.length cb) (by kernel_rfl)) (F160.ev (v := .int .i64 (↑l.length - 1)) (by kernel_rfl)) l.dropLast.length (by first | rfl | omega | (simp; done) | (simp; omega)) (by first | omega | (simp; done) | (simp; omega)) S24 (cs' := strs l.dropLast) (by simp [strs, List.dropLast_eq_take, List.map_take])) rfl rfl rfl ?_
                    rintro _ _ w161 ⟨rfl, rfl⟩ S161 a161 F161
                    refine op_p F161 (.slice Ab l.dropLast.length cb) (by kernel_rfl) rfl rfl rfl (by kernel_rfl) rfl ?_; intro a162 F162
                    refine wpList_nil ?_
                    refine hK33 _ _ ?_; clear hK33 K33
                    refine wp_region_lit ?_
                    refine op_p F162 (.int .i64 (↑i)) (by kernel_rfl) rfl rfl rfl (by kernel_rfl) rfl ?_; intro a163 F163
                    refine op_r (v := .int .i64 (↑(i + 1))) F163 (r_add (z := ↑(i + 1)) rfl (F163.ev (v := .int .i64 (↑i)) (by kernel_rfl)) (F163.ev (v := .int .i64 1) (by kernel_rfl)) (wr64 (by omega) (by omega) (by omega))) rfl rfl rfl ?_; intro a164 F164
                    refine op_p F164 (.int .i64 (↑(i + 1))) (by kernel_rfl) rfl rfl rfl (by kernel_rfl) rfl ?_; intro a165 F165
                    refine wpList_nil ?_
                    have hp : push ((↑s[0].toNat : Int) == 47) l (s.extract f i) = l.dropLast := by
                      unfold push; simp only [hc66, hc82, hc96, hc118, hll, if_pos hl0, Bool.false_eq_true, if_true, if_false]
                    have hxs : ∀ x ∈ push ((↑s[0].toNat : Int) == 47) l (s.extract f i), x.size ≤ s.size := push_all hx (by simp only [ByteArray.size_extract]; omega)
                    have hls : (push ((↑s[0].toNat : Int) == 47) l (s.extract f i)).length ≤ i + 1 := by have := push_len (r := ((↑s[0].toNat : Int) == 47)) (l := l) (p := s.extract f i); omega
                    rw [hp] at hxs hls
                    have hlt : i < s.size := by omega
                    obtain ⟨K2, hK2, he3⟩ := stk_step (r := ((↑s[0].toNat : Int) == 47)) hf hlt hno (by omega) hK (he (by omega))
                    rw [hp] at he3
                    exact hK24 _ _ _ (by first | omega | (simp; omega)) ⟨Ab, cb, l.dropLast, i + 1, i + 1, K2, rfl, (F165.k 0 (by kernel_rfl) (F165.k 2 (by kernel_rfl) (F165.k 3 (by kernel_rfl) (F165.k 4 (by kernel_rfl) (F165.k 5 (by kernel_rfl) (F165.k 6 (by kernel_rfl) (F165.k 11 (by kernel_rfl) (F165.k 12 (by kernel_rfl) (F165.k 13 (by kernel_rfl) (F165.k 14 (by kernel_rfl) (F165.k 15 (by kernel_rfl) F165.nil))))))))))), S161, (by first | omega | (with_reducible assumption) | (simp; done)), (by first | omega | (with_reducible assumption) | (simp; done)), hK2, (fun j hj h1 h2 => by omega), (fun _ => he3), (fun h => by omega), hls, hxs⟩
                · have hc104p := of_decide_eq_false hc104
                  have F166 := F103.sb 55 (by kernel_rfl) hc104
                  have F167 := F166.sb 56 (by kernel_rfl) hc104
                  have F168 := F167.sb 57 (by kernel_rfl) hc104
                  refine op_skip F168 (by kernel_rfl) rfl rfl rfl ?_; intro a169 F169
                  refine op_skip F169 (by kernel_rfl) rfl rfl rfl ?_; intro a170 F170
                  refine op_skip F170 (by kernel_rfl) rfl rfl rfl ?_; intro a171 F171
                  refine op_skip F171 (by kernel_rfl) rfl rfl rfl ?_; intro a172 F172
                  refine op_skip F172 (by kernel_rfl) rfl rfl rfl ?_; intro a173 F173
                  refine op_skip F173 (by kernel_rfl) rfl rfl rfl ?_; intro a174 F174
                  refine op_skip F174 (by kernel_rfl) rfl rfl rfl ?_; intro a175 F175
                  refine op_p F175 (.bool false) (by kernel_rfl) rfl rfl rfl (by kernel_rfl) rfl ?_; intro a176 F176
                  refine op_p F176 (.bool false) (by kernel_rfl) rfl rfl rfl (by kernel_rfl) rfl ?_; intro a177 F177
                  refine wpList_nil ?_
                  refine hK92 _ _ ?_; clear hK92 K92
                  refine wp_cond_false (F177.ev (by kernel_rfl)) ?_
                  refine wp_seq_k fun K178 hK178 => ?_
                  refine wp_region_lit ?_
                  refine op_p F177 (.string (s.extract f i)) (by kernel_rfl) rfl rfl rfl (by kernel_rfl) rfl ?_; intro a179 F179
                  refine op_p F179 (.bool ((s.extract f i).toList == (⟨#[46, 46]⟩ : ByteArray).toList)) (by kernel_rfl) rfl rfl rfl (by kernel_rfl) rfl ?_; intro a180 F180
                  have F181 := F180.sb 73 (by kernel_rfl) hc96
                  refine op_p F181 (.bool true) (by kernel_rfl) rfl rfl rfl (by kernel_rfl) rfl ?_; intro a182 F182
                  refine op_want F182 (by kernel_rfl) rfl ?_
                  refine op_p F182 (.bool ((↑s[0].toNat : Int) == 47)) (by kernel_rfl) rfl rfl rfl (by kernel_rfl) rfl ?_; intro a183 F183
                  refine op_p F183 (.bool ((↑s[0].toNat : Int) == 47)) (by kernel_rfl) rfl rfl rfl (by kernel_rfl) rfl ?_; intro a184 F184
                  refine op_p F184 (.bool ((↑s[0].toNat : Int) == 47)) (by kernel_rfl) rfl rfl rfl (by kernel_rfl) rfl ?_; intro a185 F185
                  refine wpList_nil ?_
                  refine hK178 _ _ ?_; clear hK178 K178
                  rcases btf ((↑s[0].toNat : Int) == 47) with hc186 | hc186
                  · have hc186p := eq_of_beq hc186
                    have F187 := F185.sb 15 (by kernel_rfl) hc186
                    have F188 := F187.sb 3 (by kernel_rfl) hc186
                    have F189 := F188.sb 75 (by kernel_rfl) hc186
                    have F190 := F189.sb 76 (by kernel_rfl) hc186
                    have F191 := F190.sb 71 (by kernel_rfl) hc186
                    refine wp_cond_true (F191.ev (by kernel_rfl)) ?_
                    refine wp_skip ?_
                    refine hK33 _ _ ?_; clear hK33 K33
                    refine wp_region_lit ?_
                    refine op_p F191 (.int .i64 (↑i)) (by kernel_rfl) rfl rfl rfl (by kernel_rfl) rfl ?_; intro a192 F192
                    refine op_r (v := .int .i64 (↑(i + 1))) F192 (r_add (z := ↑(i + 1)) rfl (F192.ev (v := .int .i64 (↑i)) (by kernel_rfl)) (F192.ev (v := .int .i64 1) (by kernel_rfl)) (wr64 (by omega) (by omega) (by omega))) rfl rfl rfl ?_; intro a193 F193
                    refine op_p F193 (.int .i64 (↑(i + 1))) (by kernel_rfl) rfl rfl rfl (by kernel_rfl) rfl ?_; intro a194 F194
                    refine wpList_nil ?_
                    have hp : push ((↑s[0].toNat : Int) == 47) l (s.extract f i) = l := by
                      unfold push; simp only [hc66, hc82, hc96, hc186, if_neg (show ¬ 0 < l.length by omega), Bool.false_eq_true, if_true, if_false]
                    have hxs : ∀ x ∈ push ((↑s[0].toNat : Int) == 47) l (s.extract f i), x.size ≤ s.size := push_all hx (by simp only [ByteArray.size_extract]; omega)
                    have hls : (push ((↑s[0].toNat : Int) == 47) l (s.extract f i)).length ≤ i + 1 := by have := push_len (r := ((↑s[0].toNat : Int) == 47)) (l := l) (p := s.extract f i); omega
                    rw [hp] at hxs hls
                    have hlt : i < s.size := by omega
                    obtain ⟨K2, hK2, he3⟩ := stk_step (r := ((↑s[0].toNat : Int) == 47)) hf hlt hno (by omega) hK (he (by omega))
                    rw [hp] at he3
                    exact hK24 _ _ _ (by first | omega | (simp; omega)) ⟨Ab, cb, l, i + 1, i + 1, K2, rfl, (F194.k 0 (by kernel_rfl) (F194.k 2 (by kernel_rfl) (F194.k 3 (by rw [hc186]; kernel_rfl) (F194.k 4 (by kernel_rfl) (F194.k 5 (by kernel_rfl) (F194.k 6 (by kernel_rfl) (F194.k 11 (by kernel_rfl) (F194.k 12 (by kernel_rfl) (F194.k 13 (by kernel_rfl) (F194.k 14 (by kernel_rfl) (F194.k 15 (by rw [hc186]; kernel_rfl) F194.nil))))))))))), S24, (by first | omega | (with_reducible assumption) | (simp; done)), (by first | omega | (with_reducible assumption) | (simp; done)), hK2, (fun j hj h1 h2 => by omega), (fun _ => he3), (fun h => by omega), hls, hxs⟩
                  · have hc186p := ne_of_beq_false hc186
                    have F195 := F185.sb 15 (by kernel_rfl) hc186
                    have F196 := F195.sb 3 (by kernel_rfl) hc186
                    have F197 := F196.sb 75 (by kernel_rfl) hc186
                    have F198 := F197.sb 76 (by kernel_rfl) hc186
                    have F199 := F198.sb 71 (by kernel_rfl) hc186
                    refine wp_cond_false (F199.ev (by kernel_rfl)) ?_
                    refine wp_region_lit ?_
                    refine op_p F199 (.slice Ab l.length cb) (by kernel_rfl) rfl rfl rfl (by kernel_rfl) rfl ?_; intro a200 F200
                    refine op_p F200 (.string (s.extract f i)) (by kernel_rfl) rfl rfl rfl (by kernel_rfl) rfl ?_; intro a201 F201
                    refine op_s F201 (s_news F201 9 #[.string (s.extract f i)] 1 (by kernel_rfl) (by kernel_rfl) (by kernel_rfl) S24) rfl rfl rfl ?_
                    rintro _ _ w203 ⟨g201, rfl, rfl⟩ S203 a203 F203
                    refine op_s F203 (s_app rfl Try.underlying22 1 _ tin9 rfl rfl (F203.ev (v := .slice Ab l.length cb) (by kernel_rfl)) S203.p1 ([Value.string (s.extract f i)]) (F203.ev (v := .slice (some ⟨g201, 0, none⟩) 1 1) (by kernel_rfl)) ((S203.bk 0 rfl).sl (by simp)) rfl (by simp [Value.oneCell']) (by omega) (by omega) (n' := (l ++ [s.extract f i]).length) (by first | (simp; done) | (simp; omega)) (cs' := strs (l ++ [s.extract f i])) (by simp [strs])) rfl rfl rfl ?_
                    rintro _ _ w205 ⟨A204, c204, rfl, rfl⟩ S205 a205 F205
                    refine op_p F205 (.slice A204 ((l ++ [s.extract f i]).length) c204) (by kernel_rfl) rfl rfl rfl (by kernel_rfl) rfl ?_; intro a206 F206
                    refine wpList_nil ?_
                    refine hK33 _ _ ?_; clear hK33 K33
                    refine wp_region_lit ?_
                    refine op_p F206 (.int .i64 (↑i)) (by kernel_rfl) rfl rfl rfl (by kernel_rfl) rfl ?_; intro a207 F207
                    refine op_r (v := .int .i64 (↑(i + 1))) F207 (r_add (z := ↑(i + 1)) rfl (F207.ev (v := .int .i64 (↑i)) (by kernel_rfl)) (F207.ev (v := .int .i64 1) (by kernel_rfl)) (wr64 (by omega) (by omega) (by omega))) rfl rfl rfl ?_; intro a208 F208
                    refine op_p F208 (.int .i64 (↑(i + 1))) (by kernel_rfl) rfl rfl rfl (by kernel_rfl) rfl ?_; intro a209 F209
                    refine wpList_nil ?_
                    have hp : push ((↑s[0].toNat : Int) == 47) l (s.extract f i) = l ++ [s.extract f i] := by
                      unfold push; simp only [hc66, hc82, hc96, hc186, if_neg (show ¬ 0 < l.length by omega), Bool.false_eq_true, if_true, if_false]
                    have hxs : ∀ x ∈ push ((↑s[0].toNat : Int) == 47) l (s.extract f i), x.size ≤ s.size := push_all hx (by simp only [ByteArray.size_extract]; omega)
                    have hls : (push ((↑s[0].toNat : Int) == 47) l (s.extract f i)).length ≤ i + 1 := by have := push_len (r := ((↑s[0].toNat : Int) == 47)) (l := l) (p := s.extract f i); omega
                    rw [hp] at hxs hls
                    have hlt : i < s.size := by omega
                    obtain ⟨K2, hK2, he3⟩ := stk_step (r := ((↑s[0].toNat : Int) == 47)) hf hlt hno (by omega) hK (he (by omega))
                    rw [hp] at he3
                    exact hK24 _ _ _ (by first | omega | (simp; omega)) ⟨A204, c204, l ++ [s.extract f i], i + 1, i + 1, K2, rfl, (F209.k 0 (by kernel_rfl) (F209.k 2 (by kernel_rfl) (F209.k 3 (by rw [hc186]; kernel_rfl) (F209.k 4 (by kernel_rfl) (F209.k 5 (by kernel_rfl) (F209.k 6 (by kernel_rfl) (F209.k 11 (by kernel_rfl) (F209.k 12 (by kernel_rfl) (F209.k 13 (by kernel_rfl) (F209.k 14 (by kernel_rfl) (F209.k 15 (by rw [hc186]; kernel_rfl) F209.nil))))))))))), S205.p1.drop, (by first | omega | (with_reducible assumption) | (simp; done)), (by first | omega | (with_reducible assumption) | (simp; done)), hK2, (fun j hj h1 h2 => by omega), (fun _ => he3), (fun h => by omega), hls, hxs⟩
              · have F210 := F95.sb 51 (by kernel_rfl) hc96
                have F211 := F210.sb 52 (by kernel_rfl) hc96
                refine op_skip F211 (by kernel_rfl) rfl rfl rfl ?_; intro a212 F212
                refine op_skip F212 (by kernel_rfl) rfl rfl rfl ?_; intro a213 F213
                refine op_skip F213 (by kernel_rfl) rfl rfl rfl ?_; intro a214 F214
                refine op_p F214 (.bool false) (by kernel_rfl) rfl rfl rfl (by kernel_rfl) rfl ?_; intro a215 F215
                refine op_p F215 (.bool false) (by kernel_rfl) rfl rfl rfl (by kernel_rfl) rfl ?_; intro a216 F216
                refine op_skip F216 (by kernel_rfl) rfl rfl rfl ?_; intro a217 F217
                refine op_skip F217 (by kernel_rfl) rfl rfl rfl ?_; intro a218 F218
                refine op_skip F218 (by kernel_rfl) rfl rfl rfl ?_; intro a219 F219
                refine op_skip F219 (by kernel_rfl) rfl rfl rfl ?_; intro a220 F220
                refine op_skip F220 (by kernel_rfl) rfl rfl rfl ?_; intro a221 F221
                refine op_skip F221 (by kernel_rfl) rfl rfl rfl ?_; intro a222 F222
                refine op_skip F222 (by kernel_rfl) rfl rfl rfl ?_; intro a223 F223
                refine op_p F223 (.bool false) (by kernel_rfl) rfl rfl rfl (by kernel_rfl) rfl ?_; intro a224 F224
                refine op_p F224 (.bool false) (by kernel_rfl) rfl rfl rfl (by kernel_rfl) rfl ?_; intro a225 F225
                refine wpList_nil ?_
                refine hK92 _ _ ?_; clear hK92 K92
                refine wp_cond_false (F225.ev (by kernel_rfl)) ?_
                refine wp_seq_k fun K226 hK226 => ?_
                refine wp_region_lit ?_
                refine op_p F225 (.string (s.extract f i)) (by kernel_rfl) rfl rfl rfl (by kernel_rfl) rfl ?_; intro a227 F227
                refine op_p F227 (.bool ((s.extract f i).toList == (⟨#[46, 46]⟩ : ByteArray).toList)) (by kernel_rfl) rfl rfl rfl (by kernel_rfl) rfl ?_; intro a228 F228
                have F229 := F228.sb 73 (by kernel_rfl) hc96
                refine op_p F229 (.bool false) (by kernel_rfl) rfl rfl rfl (by kernel_rfl) rfl ?_; intro a230 F230
                refine op_skip F230 (by kernel_rfl) rfl rfl rfl ?_; intro a231 F231
                refine op_p F231 (.bool false) (by kernel_rfl) rfl rfl rfl (by kernel_rfl) rfl ?_; intro a232 F232
                refine op_p F232 (.bool false) (by kernel_rfl) rfl rfl rfl (by kernel_rfl) rfl ?_; intro a233 F233
                refine wpList_nil ?_
                refine hK226 _ _ ?_; clear hK226 K226
                refine wp_cond_false (F233.ev (by kernel_rfl)) ?_
                refine wp_region_lit ?_
                refine op_p F233 (.slice Ab l.length cb) (by kernel_rfl) rfl rfl rfl (by kernel_rfl) rfl ?_; intro a234 F234
                refine op_p F234 (.string (s.extract f i)) (by kernel_rfl) rfl rfl rfl (by kernel_rfl) rfl ?_; intro a235 F235
                refine op_s F235 (s_news F235 9 #[.string (s.extract f i)] 1 (by kernel_rfl) (by kernel_rfl) (by kernel_rfl) S24) rfl rfl rfl ?_
                rintro _ _ w237 ⟨g235, rfl, rfl⟩ S237 a237 F237
                refine op_s F237 (s_app rfl Try.underlying22 1 _ tin9 rfl rfl (F237.ev (v := .slice Ab l.length cb) (by kernel_rfl)) S237.p1 ([Value.string (s.extract f i)]) (F237.ev (v := .slice (some ⟨g235, 0, none⟩) 1 1) (by kernel_rfl)) ((S237.bk 0 rfl).sl (by simp)) rfl (by simp [Value.oneCell']) (by omega) (by omega) (n' := (l ++ [s.extract f i]).length) (by first | (simp; done) | (simp; omega)) (cs' := strs (l ++ [s.extract f i])) (by simp [strs])) rfl rfl rfl ?_
                rintro _ _ w239 ⟨A238, c238, rfl, rfl⟩ S239 a239 F239
                refine op_p F239 (.slice A238 ((l ++ [s.extract f i]).length) c238) (by kernel_rfl) rfl rfl rfl (by kernel_rfl) rfl ?_; intro a240 F240
                refine wpList_nil ?_
                refine hK33 _ _ ?_; clear hK33 K33
                refine wp_region_lit ?_
                refine op_p F240 (.int .i64 (↑i)) (by kernel_rfl) rfl rfl rfl (by kernel_rfl) rfl ?_; intro a241 F241
                refine op_r (v := .int .i64 (↑(i + 1))) F241 (r_add (z := ↑(i + 1)) rfl (F241.ev (v := .int .i64 (↑i)) (by kernel_rfl)) (F241.ev (v := .int .i64 1) (by kernel_rfl)) (wr64 (by omega) (by omega) (by omega))) rfl rfl rfl ?_; intro a242 F242
                refine op_p F242 (.int .i64 (↑(i + 1))) (by kernel_rfl) rfl rfl rfl (by kernel_rfl) rfl ?_; intro a243 F243
                refine wpList_nil ?_
                have hp : push ((↑s[0].toNat : Int) == 47) l (s.extract f i) = l ++ [s.extract f i] := by
                  unfold push; simp only [hc66, hc82, hc96, Bool.false_eq_true, if_true, if_false]
                have hxs : ∀ x ∈ push ((↑s[0].toNat : Int) == 47) l (s.extract f i), x.size ≤ s.size := push_all hx (by simp only [ByteArray.size_extract]; omega)
                have hls : (push ((↑s[0].toNat : Int) == 47) l (s.extract f i)).length ≤ i + 1 := by have := push_len (r := ((↑s[0].toNat : Int) == 47)) (l := l) (p := s.extract f i); omega
                rw [hp] at hxs hls
                have hlt : i < s.size := by omega
                obtain ⟨K2, hK2, he3⟩ := stk_step (r := ((↑s[0].toNat : Int) == 47)) hf hlt hno (by omega) hK (he (by omega))
                rw [hp] at he3
                exact hK24 _ _ _ (by first | omega | (simp; omega)) ⟨A238, c238, l ++ [s.extract f i], i + 1, i + 1, K2, rfl, (F243.k 0 (by kernel_rfl) (F243.k 2 (by kernel_rfl) (F243.k 3 (by kernel_rfl) (F243.k 4 (by kernel_rfl) (F243.k 5 (by kernel_rfl) (F243.k 6 (by kernel_rfl) (F243.k 11 (by kernel_rfl) (F243.k 12 (by kernel_rfl) (F243.k 13 (by kernel_rfl) (F243.k 14 (by kernel_rfl) (F243.k 15 (by kernel_rfl) F243.nil))))))))))), S239.p1.drop, (by first | omega | (with_reducible assumption) | (simp; done)), (by first | omega | (with_reducible assumption) | (simp; done)), hK2, (fun j hj h1 h2 => by omega), (fun _ => he3), (fun h => by omega), hls, hxs⟩
        · have hc49p := ne_of_beq_false hc49
          have F244 := F48.sb 30 (by kernel_rfl) (show (!((↑s[i].toNat : Int) == 47)) = true by rw [hc49]; rfl)
          have F245 := F244.sb 31 (by kernel_rfl) (show (!((↑s[i].toNat : Int) == 47)) = true by rw [hc49]; rfl)
          refine wp_cond_true (F245.ev (by kernel_rfl)) ?_
          refine wp_exit ?_
          refine ex_then ?_; clear hK34 K34
          refine ex_in ?_
          refine hK33 _ _ ?_; clear hK33 K33
          refine wp_region_lit ?_
          refine op_p F245 (.int .i64 (↑i)) (by kernel_rfl) rfl rfl rfl (by kernel_rfl) rfl ?_; intro a246 F246
          refine op_r (v := .int .i64 (↑(i + 1))) F246 (r_add (z := ↑(i + 1)) rfl (F246.ev (v := .int .i64 (↑i)) (by kernel_rfl)) (F246.ev (v := .int .i64 1) (by kernel_rfl)) (wr64 (by omega) (by omega) (by omega))) rfl rfl rfl ?_; intro a247 F247
          refine op_p F247 (.int .i64 (↑(i + 1))) (by kernel_rfl) rfl rfl rfl (by kernel_rfl) rfl ?_; intro a248 F248
          refine wpList_nil ?_
          exact hK24 _ _ _ (by first | omega | (simp; omega)) ⟨Ab, cb, l, f, i + 1, K, rfl, (F248.k 0 (by kernel_rfl) (F248.k 2 (by kernel_rfl) (F248.k 3 (by kernel_rfl) (F248.k 4 (by kernel_rfl) (F248.k 5 (by kernel_rfl) (F248.k 6 (by kernel_rfl) (F248.k 11 (by kernel_rfl) (F248.k 12 (by kernel_rfl) (F248.k 13 (by kernel_rfl) (F248.k 14 (by kernel_rfl) (F248.k 15 (by kernel_rfl) F248.nil))))))))))), S24, (by first | omega | (with_reducible assumption) | (simp; done)), (by first | omega | (with_reducible assumption) | (simp; done)), (by first | omega | (with_reducible assumption) | (simp; done)), (fun j hj h1 h2 => if h3 : j < i then hno j hj h1 h3 else (by have e3 : j = i := (by omega); subst e3; omega)), (fun h => he (by omega)), (fun h => by omega), (by first | omega | (with_reducible assumption) | (simp; done)), hx⟩
      · have hc41p := of_decide_eq_false hc41
        have F249 := F40.sb 25 (by kernel_rfl) hc41
        have F250 := F249.sb 26 (by kernel_rfl) hc41
        refine op_skip F250 (by kernel_rfl) rfl rfl rfl ?_; intro a251 F251
        refine op_skip F251 (by kernel_rfl) rfl rfl rfl ?_; intro a252 F252
        refine op_skip F252 (by kernel_rfl) rfl rfl rfl ?_; intro a253 F253
        refine op_skip F253 (by kernel_rfl) rfl rfl rfl ?_; intro a254 F254
        refine op_p F254 (.bool false) (by kernel_rfl) rfl rfl rfl (by kernel_rfl) rfl ?_; intro a255 F255
        refine wpList_nil ?_
        refine hK35 _ _ ?_; clear hK35 K35
        refine wp_cond_false (F255.ev (by kernel_rfl)) ?_
        refine wp_skip ?_
        refine hK34 _ _ ?_; clear hK34 K34
        refine wp_seq_k fun K256 hK256 => ?_
        refine wp_region_lit ?_
        refine op_p F255 (.string s) (by kernel_rfl) rfl rfl rfl (by kernel_rfl) rfl ?_; intro a257 F257
        refine op_p F257 (.int .i64 (↑f)) (by kernel_rfl) rfl rfl rfl (by kernel_rfl) rfl ?_; intro a258 F258
        refine op_p F258 (.int .i64 (↑i)) (by kernel_rfl) rfl rfl rfl (by kernel_rfl) rfl ?_; intro a259 F259
        refine op_r (v := .string (s.extract f i)) F259 (r_sllh rfl Try.underlying9 (F259.ev (v := .string s) (by kernel_rfl)) (F259.ev (v := .int .i64 (↑f)) (by kernel_rfl)) (F259.ev (v := .int .i64 (↑i)) (by kernel_rfl))  f i (by first | rfl | omega | (simp; done) | (simp; omega)) (by first | omega | (simp; done) | (simp; omega)) (rfl)) rfl rfl rfl ?_; intro a260 F260
        refine op_p F260 (.string (s.extract f i)) (by kernel_rfl) rfl rfl rfl (by kernel_rfl) rfl ?_; intro a261 F261
        refine wpList_nil ?_
        refine hK256 _ _ ?_; clear hK256 K256
        refine wp_seq_k fun K262 hK262 => ?_
        refine wp_region_lit ?_
        refine op_p F261 (.int .i64 (↑i)) (by kernel_rfl) rfl rfl rfl (by kernel_rfl) rfl ?_; intro a263 F263
        refine op_r (v := .int .i64 (↑(i + 1))) F263 (r_add (z := ↑(i + 1)) rfl (F263.ev (v := .int .i64 (↑i)) (by kernel_rfl)) (F263.ev (v := .int .i64 1) (by kernel_rfl)) (wr64 (by omega) (by omega) (by omega))) rfl rfl rfl ?_; intro a264 F264
        refine op_p F264 (.int .i64 (↑(i + 1))) (by kernel_rfl) rfl rfl rfl (by kernel_rfl) rfl ?_; intro a265 F265
        refine wpList_nil ?_
        refine hK262 _ _ ?_; clear hK262 K262
        refine wp_block ?_
        refine wp_seq_k fun K266 hK266 => ?_
        refine wp_region_lit ?_
        refine op_p F265 (.string (s.extract f i)) (by kernel_rfl) rfl rfl rfl (by kernel_rfl) rfl ?_; intro a267 F267
        refine op_p F267 (.bool ((s.extract f i).toList == (⟨#[]⟩ : ByteArray).toList)) (by kernel_rfl) rfl rfl rfl (by kernel_rfl) rfl ?_; intro a268 F268
        refine op_p F268 (.bool ((s.extract f i).toList == (⟨#[]⟩ : ByteArray).toList)) (by kernel_rfl) rfl rfl rfl (by kernel_rfl) rfl ?_; intro a269 F269
        rcases btf ((s.extract f i).toList == (⟨#[]⟩ : ByteArray).toList) with hc270 | hc270
        · have F271 := F269.sb 44 (by kernel_rfl) hc270
          have F272 := F271.sb 45 (by kernel_rfl) hc270
          refine op_skip F272 (by kernel_rfl) rfl rfl rfl ?_; intro a273 F273
          refine op_skip F273 (by kernel_rfl) rfl rfl rfl ?_; intro a274 F274
          refine op_p F274 (.bool true) (by kernel_rfl) rfl rfl rfl (by kernel_rfl) rfl ?_; intro a275 F275
          refine op_p F275 (.bool true) (by kernel_rfl) rfl rfl rfl (by kernel_rfl) rfl ?_; intro a276 F276
          refine wpList_nil ?_
          refine hK266 _ _ ?_; clear hK266 K266
          refine wp_cond_true (F276.ev (by kernel_rfl)) ?_
          refine wp_skip ?_
          refine hK33 _ _ ?_; clear hK33 K33
          refine wp_region_lit ?_
          refine op_p F276 (.int .i64 (↑i)) (by kernel_rfl) rfl rfl rfl (by kernel_rfl) rfl ?_; intro a277 F277
          refine op_r (v := .int .i64 (↑(i + 1))) F277 (r_add (z := ↑(i + 1)) rfl (F277.ev (v := .int .i64 (↑i)) (by kernel_rfl)) (F277.ev (v := .int .i64 1) (by kernel_rfl)) (wr64 (by omega) (by omega) (by omega))) rfl rfl rfl ?_; intro a278 F278
          refine op_p F278 (.int .i64 (↑(i + 1))) (by kernel_rfl) rfl rfl rfl (by kernel_rfl) rfl ?_; intro a279 F279
          refine wpList_nil ?_
          have hp : push ((↑s[0].toNat : Int) == 47) l (s.extract f i) = l := by
            unfold push; simp only [hc270, Bool.false_eq_true, if_true, if_false]
          have hxs : ∀ x ∈ push ((↑s[0].toNat : Int) == 47) l (s.extract f i), x.size ≤ s.size := push_all hx (by simp only [ByteArray.size_extract]; omega)
          have hls : (push ((↑s[0].toNat : Int) == 47) l (s.extract f i)).length ≤ i + 1 := by have := push_len (r := ((↑s[0].toNat : Int) == 47)) (l := l) (p := s.extract f i); omega
          rw [hp] at hxs hls
          have hi2 : i = s.size := by omega
          have he3 : l = stk ((↑s[0].toNat : Int) == 47) s := by rw [← hp, hi2]; exact stk_last (fun j hj h1 => hno j hj h1 (by omega)) (he (by omega))
          exact hK24 _ _ _ (by first | omega | (simp; omega)) ⟨Ab, cb, l, i + 1, i + 1, s.size + 1, rfl, (F279.k 0 (by kernel_rfl) (F279.k 2 (by kernel_rfl) (F279.k 3 (by kernel_rfl) (F279.k 4 (by kernel_rfl) (F279.k 5 (by kernel_rfl) (F279.k 6 (by kernel_rfl) (F279.k 11 (by kernel_rfl) (F279.k 12 (by kernel_rfl) (F279.k 13 (by kernel_rfl) (F279.k 14 (by kernel_rfl) (F279.k 15 (by kernel_rfl) F279.nil))))))))))), S24, (by first | omega | (with_reducible assumption) | (simp; done)), (by first | omega | (with_reducible assumption) | (simp; done)), (by omega), (fun j hj h1 h2 => by omega), (fun h => by omega), (fun _ => he3), hls, hxs⟩
        · have F280 := F269.sb 44 (by kernel_rfl) hc270
          have F281 := F280.sb 45 (by kernel_rfl) hc270
          refine op_want F281 (by kernel_rfl) rfl ?_
          refine op_p F281 (.string (s.extract f i)) (by kernel_rfl) rfl rfl rfl (by kernel_rfl) rfl ?_; intro a282 F282
          refine op_want F282 (by kernel_rfl) rfl ?_
          refine op_p F282 (.bool ((s.extract f i).toList == (⟨#[46]⟩ : ByteArray).toList)) (by kernel_rfl) rfl rfl rfl (by kernel_rfl) rfl ?_; intro a283 F283
          refine op_p F283 (.bool ((s.extract f i).toList == (⟨#[46]⟩ : ByteArray).toList)) (by kernel_rfl) rfl rfl rfl (by kernel_rfl) rfl ?_; intro a284 F284
          refine op_p F284 (.bool ((s.extract f i).toList == (⟨#[46]⟩ : ByteArray).toList)) (by kernel_rfl) rfl rfl rfl (by kernel_rfl) rfl ?_; intro a285 F285
          refine wpList_nil ?_
          refine hK266 _ _ ?_; clear hK266 K266
          rcases btf ((s.extract f i).toList == (⟨#[46]⟩ : ByteArray).toList) with hc286 | hc286
          · have F287 := F285.sb 47 (by kernel_rfl) hc286
            have F288 := F287.sb 48 (by kernel_rfl) hc286
            have F289 := F288.sb 42 (by kernel_rfl) hc286
            refine wp_cond_true (F289.ev (by kernel_rfl)) ?_
            refine wp_skip ?_
            refine hK33 _ _ ?_; clear hK33 K33
            refine wp_region_lit ?_
            refine op_p F289 (.int .i64 (↑i)) (by kernel_rfl) rfl rfl rfl (by kernel_rfl) rfl ?_; intro a290 F290
            refine op_r (v := .int .i64 (↑(i + 1))) F290 (r_add (z := ↑(i + 1)) rfl (F290.ev (v := .int .i64 (↑i)) (by kernel_rfl)) (F290.ev (v := .int .i64 1) (by kernel_rfl)) (wr64 (by omega) (by omega) (by omega))) rfl rfl rfl ?_; intro a291 F291
            refine op_p F291 (.int .i64 (↑(i + 1))) (by kernel_rfl) rfl rfl rfl (by kernel_rfl) rfl ?_; intro a292 F292
            refine wpList_nil ?_
            have hp : push ((↑s[0].toNat : Int) == 47) l (s.extract f i) = l := by
              unfold push; simp only [hc270, hc286, Bool.false_eq_true, if_true, if_false]
            have hxs : ∀ x ∈ push ((↑s[0].toNat : Int) == 47) l (s.extract f i), x.size ≤ s.size := push_all hx (by simp only [ByteArray.size_extract]; omega)
            have hls : (push ((↑s[0].toNat : Int) == 47) l (s.extract f i)).length ≤ i + 1 := by have := push_len (r := ((↑s[0].toNat : Int) == 47)) (l := l) (p := s.extract f i); omega
            rw [hp] at hxs hls
            have hi2 : i = s.size := by omega
            have he3 : l = stk ((↑s[0].toNat : Int) == 47) s := by rw [← hp, hi2]; exact stk_last (fun j hj h1 => hno j hj h1 (by omega)) (he (by omega))
            exact hK24 _ _ _ (by first | omega | (simp; omega)) ⟨Ab, cb, l, i + 1, i + 1, s.size + 1, rfl, (F292.k 0 (by kernel_rfl) (F292.k 2 (by kernel_rfl) (F292.k 3 (by kernel_rfl) (F292.k 4 (by kernel_rfl) (F292.k 5 (by kernel_rfl) (F292.k 6 (by kernel_rfl) (F292.k 11 (by kernel_rfl) (F292.k 12 (by kernel_rfl) (F292.k 13 (by kernel_rfl) (F292.k 14 (by kernel_rfl) (F292.k 15 (by kernel_rfl) F292.nil))))))))))), S24, (by first | omega | (with_reducible assumption) | (simp; done)), (by first | omega | (with_reducible assumption) | (simp; done)), (by omega), (fun j hj h1 h2 => by omega), (fun h => by omega), (fun _ => he3), hls, hxs⟩
          · have F293 := F285.sb 47 (by kernel_rfl) hc286
            have F294 := F293.sb 48 (by kernel_rfl) hc286
            have F295 := F294.sb 42 (by kernel_rfl) hc286
            refine wp_cond_false (F295.ev (by kernel_rfl)) ?_
            refine wp_seq_k fun K296 hK296 => ?_
            refine wp_region_lit ?_
            refine op_p F295 (.string (s.extract f i)) (by kernel_rfl) rfl rfl rfl (by kernel_rfl) rfl ?_; intro a297 F297
            refine op_p F297 (.bool ((s.extract f i).toList == (⟨#[46, 46]⟩ : ByteArray).toList)) (by kernel_rfl) rfl rfl rfl (by kernel_rfl) rfl ?_; intro a298 F298
            refine op_p F298 (.bool ((s.extract f i).toList == (⟨#[46, 46]⟩ : ByteArray).toList)) (by kernel_rfl) rfl rfl rfl (by kernel_rfl) rfl ?_; intro a299 F299
            rcases btf ((s.extract f i).toList == (⟨#[46, 46]⟩ : ByteArray).toList) with hc300 | hc300
            · have F301 := F299.sb 51 (by kernel_rfl) hc300
              have F302 := F301.sb 52 (by kernel_rfl) hc300
              refine op_want F302 (by kernel_rfl) rfl ?_
              refine op_p F302 (.slice Ab l.length cb) (by kernel_rfl) rfl rfl rfl (by kernel_rfl) rfl ?_; intro a303 F303
              refine op_want F303 (by kernel_rfl) rfl ?_
              refine op_p F303 (.int .i64 (↑l.length)) (by kernel_rfl) rfl rfl rfl (by kernel_rfl) rfl ?_; intro a304 F304
              refine op_want F304 (by kernel_rfl) rfl ?_
              refine op_p F304 (.bool (decide ((0 : Int) < ↑l.length))) (by kernel_rfl) rfl rfl rfl (by kernel_rfl) rfl ?_; intro a305 F305
              refine op_p F305 (.bool (decide ((0 : Int) < ↑l.length))) (by kernel_rfl) rfl rfl rfl (by kernel_rfl) rfl ?_; intro a306 F306
              refine op_p F306 (.bool (decide ((0 : Int) < ↑l.length))) (by kernel_rfl) rfl rfl rfl (by kernel_rfl) rfl ?_; intro a307 F307
              rcases btf (decide ((0 : Int) < ↑l.length)) with hc308 | hc308
              · have hc308p := of_decide_eq_true hc308
                have hl0 : 0 < l.length := by omega
                have hll := lst_at hl0
                obtain ⟨ad309, hA309⟩ := (own_sl1 (S24.ow 0 rfl) (by omega)).addr (by simp [strs]; omega)
                have F310 := F307.sb 55 (by kernel_rfl) hc308
                have F311 := F310.sb 56 (by kernel_rfl) hc308
                have F312 := F311.sb 57 (by kernel_rfl) hc308
                refine op_want F312 (by kernel_rfl) rfl ?_
                refine op_p F312 (.slice Ab l.length cb) (by kernel_rfl) rfl rfl rfl (by kernel_rfl) rfl ?_; intro a313 F313
                refine op_want F313 (by kernel_rfl) rfl ?_
                refine op_p F313 (.slice Ab l.length cb) (by kernel_rfl) rfl rfl rfl (by kernel_rfl) rfl ?_; intro a314 F314
                refine op_want F314 (by kernel_rfl) rfl ?_
                refine op_p F314 (.int .i64 (↑l.length)) (by kernel_rfl) rfl rfl rfl (by kernel_rfl) rfl ?_; intro a315 F315
                refine op_want F315 (by kernel_rfl) rfl ?_
                refine op_r (v := .int .i64 (↑l.length - 1)) F315 (r_sub (z := (↑l.length - 1)) rfl (F315.ev (v := .int .i64 (↑l.length)) (by kernel_rfl)) (F315.ev (v := .int .i64 1) (by kernel_rfl)) (wr64 (by omega) (by omega) (by omega))) rfl rfl rfl ?_; intro a316 F316
                refine op_want F316 (by kernel_rfl) rfl ?_
                refine op_r (v := .pointer (some (ad309.add (l.length - 1)))) F316 (r_ix rfl Try.underlying22 1 (by kernel_rfl) (F316.ev (v := .slice Ab l.length cb) (by kernel_rfl)) hA309 (F316.ev (v := .int .i64 (↑l.length - 1)) (by kernel_rfl)) (l.length - 1) (by first | rfl | omega | simp) (by first | omega | (simp; done) | (simp; omega)) (by simp only [Nat.mul_one])) rfl rfl rfl ?_; intro a317 F317
                refine op_want F317 (by kernel_rfl) rfl ?_
                refine op_r (v := .string (l[l.length - 1])) F317 (r_ld rfl (F317.ev (v := .pointer (some (ad309.add (l.length - 1)))) (by kernel_rfl)) (v := .string (l[l.length - 1])) ((own_sl1 (S24.ow 0 rfl) (by omega)).elA hA309 (j := l.length - 1) (by simp [strs])) Try.underlying9 rfl) rfl rfl rfl ?_; intro a318 F318
                refine op_want F318 (by kernel_rfl) rfl ?_
                refine op_p F318 (.bool (!((l[l.length - 1]).toList == (⟨#[46, 46]⟩ : ByteArray).toList))) (by kernel_rfl) rfl rfl rfl (by kernel_rfl) rfl ?_; intro a319 F319
                refine op_p F319 (.bool (!((l[l.length - 1]).toList == (⟨#[46, 46]⟩ : ByteArray).toList))) (by kernel_rfl) rfl rfl rfl (by kernel_rfl) rfl ?_; intro a320 F320
                refine op_p F320 (.bool (!((l[l.length - 1]).toList == (⟨#[46, 46]⟩ : ByteArray).toList))) (by kernel_rfl) rfl rfl rfl (by kernel_rfl) rfl ?_; intro a321 F321
                refine wpList_nil ?_
                refine hK296 _ _ ?_; clear hK296 K296
                rcases btf ((l[l.length - 1]).toList == (⟨#[46, 46]⟩ : ByteArray).toList) with hc322 | hc322
                · have F323 := F321.sb 64 (by kernel_rfl) (show (!((l[l.length - 1]).toList == (⟨#[46, 46]⟩ : ByteArray).toList)) = false by rw [hc322]; rfl)
                  have F324 := F323.sb 65 (by kernel_rfl) (show (!((l[l.length - 1]).toList == (⟨#[46, 46]⟩ : ByteArray).toList)) = false by rw [hc322]; rfl)
                  have F325 := F324.sb 49 (by kernel_rfl) (show (!((l[l.length - 1]).toList == (⟨#[46, 46]⟩ : ByteArray).toList)) = false by rw [hc322]; rfl)
                  refine wp_cond_false (F325.ev (by kernel_rfl)) ?_
                  refine wp_seq_k fun K326 hK326 => ?_
                  refine wp_region_lit ?_
                  refine op_p F325 (.string (s.extract f i)) (by kernel_rfl) rfl rfl rfl (by kernel_rfl) rfl ?_; intro a327 F327
                  refine op_p F327 (.bool ((s.extract f i).toList == (⟨#[46, 46]⟩ : ByteArray).toList)) (by kernel_rfl) rfl rfl rfl (by kernel_rfl) rfl ?_; intro a328 F328
                  have F329 := F328.sb 73 (by kernel_rfl) hc300
                  refine op_p F329 (.bool true) (by kernel_rfl) rfl rfl rfl (by kernel_rfl) rfl ?_; intro a330 F330
                  refine op_want F330 (by kernel_rfl) rfl ?_
                  refine op_p F330 (.bool ((↑s[0].toNat : Int) == 47)) (by kernel_rfl) rfl rfl rfl (by kernel_rfl) rfl ?_; intro a331 F331
                  refine op_p F331 (.bool ((↑s[0].toNat : Int) == 47)) (by kernel_rfl) rfl rfl rfl (by kernel_rfl) rfl ?_; intro a332 F332
                  refine op_p F332 (.bool ((↑s[0].toNat : Int) == 47)) (by kernel_rfl) rfl rfl rfl (by kernel_rfl) rfl ?_; intro a333 F333
                  refine wpList_nil ?_
                  refine hK326 _ _ ?_; clear hK326 K326
                  rcases btf ((↑s[0].toNat : Int) == 47) with hc334 | hc334
                  · have hc334p := eq_of_beq hc334
                    have F335 := F333.sb 15 (by kernel_rfl) hc334
                    have F336 := F335.sb 3 (by kernel_rfl) hc334
                    have F337 := F336.sb 75 (by kernel_rfl) hc334
                    have F338 := F337.sb 76 (by kernel_rfl) hc334
                    have F339 := F338.sb 71 (by kernel_rfl) hc334
                    refine wp_cond_true (F339.ev (by kernel_rfl)) ?_
                    refine wp_skip ?_
                    refine hK33 _ _ ?_; clear hK33 K33
                    refine wp_region_lit ?_
                    refine op_p F339 (.int .i64 (↑i)) (by kernel_rfl) rfl rfl rfl (by kernel_rfl) rfl ?_; intro a340 F340
                    refine op_r (v := .int .i64 (↑(i + 1))) F340 (r_add (z := ↑(i + 1)) rfl (F340.ev (v := .int .i64 (↑i)) (by kernel_rfl)) (F340.ev (v := .int .i64 1) (by kernel_rfl)) (wr64 (by omega) (by omega) (by omega))) rfl rfl rfl ?_; intro a341 F341
                    refine op_p F341 (.int .i64 (↑(i + 1))) (by kernel_rfl) rfl rfl rfl (by kernel_rfl) rfl ?_; intro a342 F342
                    refine wpList_nil ?_
                    have hp : push ((↑s[0].toNat : Int) == 47) l (s.extract f i) = l := by
                      unfold push; simp only [hc270, hc286, hc300, hc322, hc334, hll, if_pos hl0, Bool.false_eq_true, if_true, if_false]
                    have hxs : ∀ x ∈ push ((↑s[0].toNat : Int) == 47) l (s.extract f i), x.size ≤ s.size := push_all hx (by simp only [ByteArray.size_extract]; omega)
                    have hls : (push ((↑s[0].toNat : Int) == 47) l (s.extract f i)).length ≤ i + 1 := by have := push_len (r := ((↑s[0].toNat : Int) == 47)) (l := l) (p := s.extract f i); omega
                    rw [hp] at hxs hls
                    have hi2 : i = s.size := by omega
                    have he3 : l = stk ((↑s[0].toNat : Int) == 47) s := by rw [← hp, hi2]; exact stk_last (fun j hj h1 => hno j hj h1 (by omega)) (he (by omega))
                    exact hK24 _ _ _ (by first | omega | (simp; omega)) ⟨Ab, cb, l, i + 1, i + 1, s.size + 1, rfl, (F342.k 0 (by kernel_rfl) (F342.k 2 (by kernel_rfl) (F342.k 3 (by rw [hc334]; kernel_rfl) (F342.k 4 (by kernel_rfl) (F342.k 5 (by kernel_rfl) (F342.k 6 (by kernel_rfl) (F342.k 11 (by kernel_rfl) (F342.k 12 (by kernel_rfl) (F342.k 13 (by kernel_rfl) (F342.k 14 (by kernel_rfl) (F342.k 15 (by rw [hc334]; kernel_rfl) F342.nil))))))))))), S24, (by first | omega | (with_reducible assumption) | (simp; done)), (by first | omega | (with_reducible assumption) | (simp; done)), (by omega), (fun j hj h1 h2 => by omega), (fun h => by omega), (fun _ => he3), hls, hxs⟩
                  · have hc334p := ne_of_beq_false hc334
                    have F343 := F333.sb 15 (by kernel_rfl) hc334
                    have F344 := F343.sb 3 (by kernel_rfl) hc334
                    have F345 := F344.sb 75 (by kernel_rfl) hc334
                    have F346 := F345.sb 76 (by kernel_rfl) hc334
                    have F347 := F346.sb 71 (by kernel_rfl) hc334
                    refine wp_cond_false (F347.ev (by kernel_rfl)) ?_
                    refine wp_region_lit ?_
                    refine op_p F347 (.slice Ab l.length cb) (by kernel_rfl) rfl rfl rfl (by kernel_rfl) rfl ?_; intro a348 F348
                    refine op_p F348 (.string (s.extract f i)) (by kernel_rfl) rfl rfl rfl (by kernel_rfl) rfl ?_; intro a349 F349
                    refine op_s F349 (s_news F349 9 #[.string (s.extract f i)] 1 (by kernel_rfl) (by kernel_rfl) (by kernel_rfl) S24) rfl rfl rfl ?_
                    rintro _ _ w351 ⟨g349, rfl, rfl⟩ S351 a351 F351
                    refine op_s F351 (s_app rfl Try.underlying22 1 _ tin9 rfl rfl (F351.ev (v := .slice Ab l.length cb) (by kernel_rfl)) S351.p1 ([Value.string (s.extract f i)]) (F351.ev (v := .slice (some ⟨g349, 0, none⟩) 1 1) (by kernel_rfl)) ((S351.bk 0 rfl).sl (by simp)) rfl (by simp [Value.oneCell']) (by omega) (by omega) (n' := (l ++ [s.extract f i]).length) (by first | (simp; done) | (simp; omega)) (cs' := strs (l ++ [s.extract f i])) (by simp [strs])) rfl rfl rfl ?_
                    rintro _ _ w353 ⟨A352, c352, rfl, rfl⟩ S353 a353 F353
                    refine op_p F353 (.slice A352 ((l ++ [s.extract f i]).length) c352) (by kernel_rfl) rfl rfl rfl (by kernel_rfl) rfl ?_; intro a354 F354
                    refine wpList_nil ?_
                    refine hK33 _ _ ?_; clear hK33 K33
                    refine wp_region_lit ?_
                    refine op_p F354 (.int .i64 (↑i)) (by kernel_rfl) rfl rfl rfl (by kernel_rfl) rfl ?_; intro a355 F355
                    refine op_r (v := .int .i64 (↑(i + 1))) F355 (r_add (z := ↑(i + 1)) rfl (F355.ev (v := .int .i64 (↑i)) (by kernel_rfl)) (F355.ev (v := .int .i64 1) (by kernel_rfl)) (wr64 (by omega) (by omega) (by omega))) rfl rfl rfl ?_; intro a356 F356
                    refine op_p F356 (.int .i64 (↑(i + 1))) (by kernel_rfl) rfl rfl rfl (by kernel_rfl) rfl ?_; intro a357 F357
                    refine wpList_nil ?_
                    have hp : push ((↑s[0].toNat : Int) == 47) l (s.extract f i) = l ++ [s.extract f i] := by
                      unfold push; simp only [hc270, hc286, hc300, hc322, hc334, hll, if_pos hl0, Bool.false_eq_true, if_true, if_false]
                    have hxs : ∀ x ∈ push ((↑s[0].toNat : Int) == 47) l (s.extract f i), x.size ≤ s.size := push_all hx (by simp only [ByteArray.size_extract]; omega)
                    have hls : (push ((↑s[0].toNat : Int) == 47) l (s.extract f i)).length ≤ i + 1 := by have := push_len (r := ((↑s[0].toNat : Int) == 47)) (l := l) (p := s.extract f i); omega
                    rw [hp] at hxs hls
                    have hi2 : i = s.size := by omega
                    have he3 : l ++ [s.extract f i] = stk ((↑s[0].toNat : Int) == 47) s := by rw [← hp, hi2]; exact stk_last (fun j hj h1 => hno j hj h1 (by omega)) (he (by omega))
                    exact hK24 _ _ _ (by first | omega | (simp; omega)) ⟨A352, c352, l ++ [s.extract f i], i + 1, i + 1, s.size + 1, rfl, (F357.k 0 (by kernel_rfl) (F357.k 2 (by kernel_rfl) (F357.k 3 (by rw [hc334]; kernel_rfl) (F357.k 4 (by kernel_rfl) (F357.k 5 (by kernel_rfl) (F357.k 6 (by kernel_rfl) (F357.k 11 (by kernel_rfl) (F357.k 12 (by kernel_rfl) (F357.k 13 (by kernel_rfl) (F357.k 14 (by kernel_rfl) (F357.k 15 (by rw [hc334]; kernel_rfl) F357.nil))))))))))), S353.p1.drop, (by first | omega | (with_reducible assumption) | (simp; done)), (by first | omega | (with_reducible assumption) | (simp; done)), (by omega), (fun j hj h1 h2 => by omega), (fun h => by omega), (fun _ => he3), hls, hxs⟩
                · have F358 := F321.sb 64 (by kernel_rfl) (show (!((l[l.length - 1]).toList == (⟨#[46, 46]⟩ : ByteArray).toList)) = true by rw [hc322]; rfl)
                  have F359 := F358.sb 65 (by kernel_rfl) (show (!((l[l.length - 1]).toList == (⟨#[46, 46]⟩ : ByteArray).toList)) = true by rw [hc322]; rfl)
                  have F360 := F359.sb 49 (by kernel_rfl) (show (!((l[l.length - 1]).toList == (⟨#[46, 46]⟩ : ByteArray).toList)) = true by rw [hc322]; rfl)
                  refine wp_cond_true (F360.ev (by kernel_rfl)) ?_
                  refine wp_region_lit ?_
                  refine op_p F360 (.slice Ab l.length cb) (by kernel_rfl) rfl rfl rfl (by kernel_rfl) rfl ?_; intro a361 F361
                  refine op_p F361 (.slice Ab l.length cb) (by kernel_rfl) rfl rfl rfl (by kernel_rfl) rfl ?_; intro a362 F362
                  refine op_p F362 (.int .i64 (↑l.length)) (by kernel_rfl) rfl rfl rfl (by kernel_rfl) rfl ?_; intro a363 F363
                  refine op_r (v := .int .i64 (↑l.length - 1)) F363 (r_sub (z := (↑l.length - 1)) rfl (F363.ev (v := .int .i64 (↑l.length)) (by kernel_rfl)) (F363.ev (v := .int .i64 1) (by kernel_rfl)) (wr64 (by omega) (by omega) (by omega))) rfl rfl rfl ?_; intro a364 F364
                  refine op_s F364 (s_shr rfl Try.underlying22 1 (by kernel_rfl) (F364.ev (v := .slice Ab l.length cb) (by kernel_rfl)) (F364.ev (v := .int .i64 (↑l.length - 1)) (by kernel_rfl)) l.dropLast.length (by first | rfl | omega | (simp; done) | (simp; omega)) (by first | omega | (simp; done) | (simp; omega)) S24 (cs' := strs l.dropLast) (by simp [strs, List.dropLast_eq_take, List.map_take])) rfl rfl rfl ?_
                  rintro _ _ w365 ⟨rfl, rfl⟩ S365 a365 F365
                  refine op_p F365 (.slice Ab l.dropLast.length cb) (by kernel_rfl) rfl rfl rfl (by kernel_rfl) rfl ?_; intro a366 F366
                  refine wpList_nil ?_
                  refine hK33 _ _ ?_; clear hK33 K33
                  refine wp_region_lit ?_
                  refine op_p F366 (.int .i64 (↑i)) (by kernel_rfl) rfl rfl rfl (by kernel_rfl) rfl ?_; intro a367 F367
                  refine op_r (v := .int .i64 (↑(i + 1))) F367 (r_add (z := ↑(i + 1)) rfl (F367.ev (v := .int .i64 (↑i)) (by kernel_rfl)) (F367.ev (v := .int .i64 1) (by kernel_rfl)) (wr64 (by omega) (by omega) (by omega))) rfl rfl rfl ?_; intro a368 F368
                  refine op_p F368 (.int .i64 (↑(i + 1))) (by kernel_rfl) rfl rfl rfl (by kernel_rfl) rfl ?_; intro a369 F369
                  refine wpList_nil ?_
                  have hp : push ((↑s[0].toNat : Int) == 47) l (s.extract f i) = l.dropLast := by
                    unfold push; simp only [hc270, hc286, hc300, hc322, hll, if_pos hl0, Bool.false_eq_true, if_true, if_false]
                  have hxs : ∀ x ∈ push ((↑s[0].toNat : Int) == 47) l (s.extract f i), x.size ≤ s.size := push_all hx (by simp only [ByteArray.size_extract]; omega)
                  have hls : (push ((↑s[0].toNat : Int) == 47) l (s.extract f i)).length ≤ i + 1 := by have := push_len (r := ((↑s[0].toNat : Int) == 47)) (l := l) (p := s.extract f i); omega
                  rw [hp] at hxs hls
                  have hi2 : i = s.size := by omega
                  have he3 : l.dropLast = stk ((↑s[0].toNat : Int) == 47) s := by rw [← hp, hi2]; exact stk_last (fun j hj h1 => hno j hj h1 (by omega)) (he (by omega))
                  exact hK24 _ _ _ (by first | omega | (simp; omega)) ⟨Ab, cb, l.dropLast, i + 1, i + 1, s.size + 1, rfl, (F369.k 0 (by kernel_rfl) (F369.k 2 (by kernel_rfl) (F369.k 3 (by kernel_rfl) (F369.k 4 (by kernel_rfl) (F369.k 5 (by kernel_rfl) (F369.k 6 (by kernel_rfl) (F369.k 11 (by kernel_rfl) (F369.k 12 (by kernel_rfl) (F369.k 13 (by kernel_rfl) (F369.k 14 (by kernel_rfl) (F369.k 15 (by kernel_rfl) F369.nil))))))))))), S365, (by first | omega | (with_reducible assumption) | (simp; done)), (by first | omega | (with_reducible assumption) | (simp; done)), (by omega), (fun j hj h1 h2 => by omega), (fun h => by omega), (fun _ => he3), hls, hxs⟩
              · have hc308p := of_decide_eq_false hc308
                have F370 := F307.sb 55 (by kernel_rfl) hc308
                have F371 := F370.sb 56 (by kernel_rfl) hc308
                have F372 := F371.sb 57 (by kernel_rfl) hc308
                refine op_skip F372 (by kernel_rfl) rfl rfl rfl ?_; intro a373 F373
                refine op_skip F373 (by kernel_rfl) rfl rfl rfl ?_; intro a374 F374
                refine op_skip F374 (by kernel_rfl) rfl rfl rfl ?_; intro a375 F375
                refine op_skip F375 (by kernel_rfl) rfl rfl rfl ?_; intro a376 F376
                refine op_skip F376 (by kernel_rfl) rfl rfl rfl ?_; intro a377 F377
                refine op_skip F377 (by kernel_rfl) rfl rfl rfl ?_; intro a378 F378
                refine op_skip F378 (by kernel_rfl) rfl rfl rfl ?_; intro a379 F379
                refine op_p F379 (.bool false) (by kernel_rfl) rfl rfl rfl (by kernel_rfl) rfl ?_; intro a380 F380
                refine op_p F380 (.bool false) (by kernel_rfl) rfl rfl rfl (by kernel_rfl) rfl ?_; intro a381 F381
                refine wpList_nil ?_
                refine hK296 _ _ ?_; clear hK296 K296
                refine wp_cond_false (F381.ev (by kernel_rfl)) ?_
                refine wp_seq_k fun K382 hK382 => ?_
                refine wp_region_lit ?_
                refine op_p F381 (.string (s.extract f i)) (by kernel_rfl) rfl rfl rfl (by kernel_rfl) rfl ?_; intro a383 F383
                refine op_p F383 (.bool ((s.extract f i).toList == (⟨#[46, 46]⟩ : ByteArray).toList)) (by kernel_rfl) rfl rfl rfl (by kernel_rfl) rfl ?_; intro a384 F384
                have F385 := F384.sb 73 (by kernel_rfl) hc300
                refine op_p F385 (.bool true) (by kernel_rfl) rfl rfl rfl (by kernel_rfl) rfl ?_; intro a386 F386
                refine op_want F386 (by kernel_rfl) rfl ?_
                refine op_p F386 (.bool ((↑s[0].toNat : Int) == 47)) (by kernel_rfl) rfl rfl rfl (by kernel_rfl) rfl ?_; intro a387 F387
                refine op_p F387 (.bool ((↑s[0].toNat : Int) == 47)) (by kernel_rfl) rfl rfl rfl (by kernel_rfl) rfl ?_; intro a388 F388
                refine op_p F388 (.bool ((↑s[0].toNat : Int) == 47)) (by kernel_rfl) rfl rfl rfl (by kernel_rfl) rfl ?_; intro a389 F389
                refine wpList_nil ?_
                refine hK382 _ _ ?_; clear hK382 K382
                rcases btf ((↑s[0].toNat : Int) == 47) with hc390 | hc390
                · have hc390p := eq_of_beq hc390
                  have F391 := F389.sb 15 (by kernel_rfl) hc390
                  have F392 := F391.sb 3 (by kernel_rfl) hc390
                  have F393 := F392.sb 75 (by kernel_rfl) hc390
                  have F394 := F393.sb 76 (by kernel_rfl) hc390
                  have F395 := F394.sb 71 (by kernel_rfl) hc390
                  refine wp_cond_true (F395.ev (by kernel_rfl)) ?_
                  refine wp_skip ?_
                  refine hK33 _ _ ?_; clear hK33 K33
                  refine wp_region_lit ?_
                  refine op_p F395 (.int .i64 (↑i)) (by kernel_rfl) rfl rfl rfl (by kernel_rfl) rfl ?_; intro a396 F396
                  refine op_r (v := .int .i64 (↑(i + 1))) F396 (r_add (z := ↑(i + 1)) rfl (F396.ev (v := .int .i64 (↑i)) (by kernel_rfl)) (F396.ev (v := .int .i64 1) (by kernel_rfl)) (wr64 (by omega) (by omega) (by omega))) rfl rfl rfl ?_; intro a397 F397
                  refine op_p F397 (.int .i64 (↑(i + 1))) (by kernel_rfl) rfl rfl rfl (by kernel_rfl) rfl ?_; intro a398 F398
                  refine wpList_nil ?_
                  have hp : push ((↑s[0].toNat : Int) == 47) l (s.extract f i) = l := by
                    unfold push; simp only [hc270, hc286, hc300, hc390, if_neg (show ¬ 0 < l.length by omega), Bool.false_eq_true, if_true, if_false]
                  have hxs : ∀ x ∈ push ((↑s[0].toNat : Int) == 47) l (s.extract f i), x.size ≤ s.size := push_all hx (by simp only [ByteArray.size_extract]; omega)
                  have hls : (push ((↑s[0].toNat : Int) == 47) l (s.extract f i)).length ≤ i + 1 := by have := push_len (r := ((↑s[0].toNat : Int) == 47)) (l := l) (p := s.extract f i); omega
                  rw [hp] at hxs hls
                  have hi2 : i = s.size := by omega
                  have he3 : l = stk ((↑s[0].toNat : Int) == 47) s := by rw [← hp, hi2]; exact stk_last (fun j hj h1 => hno j hj h1 (by omega)) (he (by omega))
                  exact hK24 _ _ _ (by first | omega | (simp; omega)) ⟨Ab, cb, l, i + 1, i + 1, s.size + 1, rfl, (F398.k 0 (by kernel_rfl) (F398.k 2 (by kernel_rfl) (F398.k 3 (by rw [hc390]; kernel_rfl) (F398.k 4 (by kernel_rfl) (F398.k 5 (by kernel_rfl) (F398.k 6 (by kernel_rfl) (F398.k 11 (by kernel_rfl) (F398.k 12 (by kernel_rfl) (F398.k 13 (by kernel_rfl) (F398.k 14 (by kernel_rfl) (F398.k 15 (by rw [hc390]; kernel_rfl) F398.nil))))))))))), S24, (by first | omega | (with_reducible assumption) | (simp; done)), (by first | omega | (with_reducible assumption) | (simp; done)), (by omega), (fun j hj h1 h2 => by omega), (fun h => by omega), (fun _ => he3), hls, hxs⟩
                · have hc390p := ne_of_beq_false hc390
                  have F399 := F389.sb 15 (by kernel_rfl) hc390
                  have F400 := F399.sb 3 (by kernel_rfl) hc390
                  have F401 := F400.sb 75 (by kernel_rfl) hc390
                  have F402 := F401.sb 76 (by kernel_rfl) hc390
                  have F403 := F402.sb 71 (by kernel_rfl) hc390
                  refine wp_cond_false (F403.ev (by kernel_rfl)) ?_
                  refine wp_region_lit ?_
                  refine op_p F403 (.slice Ab l.length cb) (by kernel_rfl) rfl rfl rfl (by kernel_rfl) rfl ?_; intro a404 F404
                  refine op_p F404 (.string (s.extract f i)) (by kernel_rfl) rfl rfl rfl (by kernel_rfl) rfl ?_; intro a405 F405
                  refine op_s F405 (s_news F405 9 #[.string (s.extract f i)] 1 (by kernel_rfl) (by kernel_rfl) (by kernel_rfl) S24) rfl rfl rfl ?_
                  rintro _ _ w407 ⟨g405, rfl, rfl⟩ S407 a407 F407
                  refine op_s F407 (s_app rfl Try.underlying22 1 _ tin9 rfl rfl (F407.ev (v := .slice Ab l.length cb) (by kernel_rfl)) S407.p1 ([Value.string (s.extract f i)]) (F407.ev (v := .slice (some ⟨g405, 0, none⟩) 1 1) (by kernel_rfl)) ((S407.bk 0 rfl).sl (by simp)) rfl (by simp [Value.oneCell']) (by omega) (by omega) (n' := (l ++ [s.extract f i]).length) (by first | (simp; done) | (simp; omega)) (cs' := strs (l ++ [s.extract f i])) (by simp [strs])) rfl rfl rfl ?_
                  rintro _ _ w409 ⟨A408, c408, rfl, rfl⟩ S409 a409 F409
                  refine op_p F409 (.slice A408 ((l ++ [s.extract f i]).length) c408) (by kernel_rfl) rfl rfl rfl (by kernel_rfl) rfl ?_; intro a410 F410
                  refine wpList_nil ?_
                  refine hK33 _ _ ?_; clear hK33 K33
                  refine wp_region_lit ?_
                  refine op_p F410 (.int .i64 (↑i)) (by kernel_rfl) rfl rfl rfl (by kernel_rfl) rfl ?_; intro a411 F411
                  refine op_r (v := .int .i64 (↑(i + 1))) F411 (r_add (z := ↑(i + 1)) rfl (F411.ev (v := .int .i64 (↑i)) (by kernel_rfl)) (F411.ev (v := .int .i64 1) (by kernel_rfl)) (wr64 (by omega) (by omega) (by omega))) rfl rfl rfl ?_; intro a412 F412
                  refine op_p F412 (.int .i64 (↑(i + 1))) (by kernel_rfl) rfl rfl rfl (by kernel_rfl) rfl ?_; intro a413 F413
                  refine wpList_nil ?_
                  have hp : push ((↑s[0].toNat : Int) == 47) l (s.extract f i) = l ++ [s.extract f i] := by
                    unfold push; simp only [hc270, hc286, hc300, hc390, if_neg (show ¬ 0 < l.length by omega), Bool.false_eq_true, if_true, if_false]
                  have hxs : ∀ x ∈ push ((↑s[0].toNat : Int) == 47) l (s.extract f i), x.size ≤ s.size := push_all hx (by simp only [ByteArray.size_extract]; omega)
                  have hls : (push ((↑s[0].toNat : Int) == 47) l (s.extract f i)).length ≤ i + 1 := by have := push_len (r := ((↑s[0].toNat : Int) == 47)) (l := l) (p := s.extract f i); omega
                  rw [hp] at hxs hls
                  have hi2 : i = s.size := by omega
                  have he3 : l ++ [s.extract f i] = stk ((↑s[0].toNat : Int) == 47) s := by rw [← hp, hi2]; exact stk_last (fun j hj h1 => hno j hj h1 (by omega)) (he (by omega))
                  exact hK24 _ _ _ (by first | omega | (simp; omega)) ⟨A408, c408, l ++ [s.extract f i], i + 1, i + 1, s.size + 1, rfl, (F413.k 0 (by kernel_rfl) (F413.k 2 (by kernel_rfl) (F413.k 3 (by rw [hc390]; kernel_rfl) (F413.k 4 (by kernel_rfl) (F413.k 5 (by kernel_rfl) (F413.k 6 (by kernel_rfl) (F413.k 11 (by kernel_rfl) (F413.k 12 (by kernel_rfl) (F413.k 13 (by kernel_rfl) (F413.k 14 (by kernel_rfl) (F413.k 15 (by rw [hc390]; kernel_rfl) F413.nil))))))))))), S409.p1.drop, (by first | omega | (with_reducible assumption) | (simp; done)), (by first | omega | (with_reducible assumption) | (simp; done)), (by omega), (fun j hj h1 h2 => by omega), (fun h => by omega), (fun _ => he3), hls, hxs⟩
            · have F414 := F299.sb 51 (by kernel_rfl) hc300
              have F415 := F414.sb 52 (by kernel_rfl) hc300
              refine op_skip F415 (by kernel_rfl) rfl rfl rfl ?_; intro a416 F416
              refine op_skip F416 (by kernel_rfl) rfl rfl rfl ?_; intro a417 F417
              refine op_skip F417 (by kernel_rfl) rfl rfl rfl ?_; intro a418 F418
              refine op_p F418 (.bool false) (by kernel_rfl) rfl rfl rfl (by kernel_rfl) rfl ?_; intro a419 F419
              refine op_p F419 (.bool false) (by kernel_rfl) rfl rfl rfl (by kernel_rfl) rfl ?_; intro a420 F420
              refine op_skip F420 (by kernel_rfl) rfl rfl rfl ?_; intro a421 F421
              refine op_skip F421 (by kernel_rfl) rfl rfl rfl ?_; intro a422 F422
              refine op_skip F422 (by kernel_rfl) rfl rfl rfl ?_; intro a423 F423
              refine op_skip F423 (by kernel_rfl) rfl rfl rfl ?_; intro a424 F424
              refine op_skip F424 (by kernel_rfl) rfl rfl rfl ?_; intro a425 F425
              refine op_skip F425 (by kernel_rfl) rfl rfl rfl ?_; intro a426 F426
              refine op_skip F426 (by kernel_rfl) rfl rfl rfl ?_; intro a427 F427
              refine op_p F427 (.bool false) (by kernel_rfl) rfl rfl rfl (by kernel_rfl) rfl ?_; intro a428 F428
              refine op_p F428 (.bool false) (by kernel_rfl) rfl rfl rfl (by kernel_rfl) rfl ?_; intro a429 F429
              refine wpList_nil ?_
              refine hK296 _ _ ?_; clear hK296 K296
              refine wp_cond_false (F429.ev (by kernel_rfl)) ?_
              refine wp_seq_k fun K430 hK430 => ?_
              refine wp_region_lit ?_
              refine op_p F429 (.string (s.extract f i)) (by kernel_rfl) rfl rfl rfl (by kernel_rfl) rfl ?_; intro a431 F431
              refine op_p F431 (.bool ((s.extract f i).toList == (⟨#[46, 46]⟩ : ByteArray).toList)) (by kernel_rfl) rfl rfl rfl (by kernel_rfl) rfl ?_; intro a432 F432
              have F433 := F432.sb 73 (by kernel_rfl) hc300
              refine op_p F433 (.bool false) (by kernel_rfl) rfl rfl rfl (by kernel_rfl) rfl ?_; intro a434 F434
              refine op_skip F434 (by kernel_rfl) rfl rfl rfl ?_; intro a435 F435
              refine op_p F435 (.bool false) (by kernel_rfl) rfl rfl rfl (by kernel_rfl) rfl ?_; intro a436 F436
              refine op_p F436 (.bool false) (by kernel_rfl) rfl rfl rfl (by kernel_rfl) rfl ?_; intro a437 F437
              refine wpList_nil ?_
              refine hK430 _ _ ?_; clear hK430 K430
              refine wp_cond_false (F437.ev (by kernel_rfl)) ?_
              refine wp_region_lit ?_
              refine op_p F437 (.slice Ab l.length cb) (by kernel_rfl) rfl rfl rfl (by kernel_rfl) rfl ?_; intro a438 F438
              refine op_p F438 (.string (s.extract f i)) (by kernel_rfl) rfl rfl rfl (by kernel_rfl) rfl ?_; intro a439 F439
              refine op_s F439 (s_news F439 9 #[.string (s.extract f i)] 1 (by kernel_rfl) (by kernel_rfl) (by kernel_rfl) S24) rfl rfl rfl ?_
              rintro _ _ w441 ⟨g439, rfl, rfl⟩ S441 a441 F441
              refine op_s F441 (s_app rfl Try.underlying22 1 _ tin9 rfl rfl (F441.ev (v := .slice Ab l.length cb) (by kernel_rfl)) S441.p1 ([Value.string (s.extract f i)]) (F441.ev (v := .slice (some ⟨g439, 0, none⟩) 1 1) (by kernel_rfl)) ((S441.bk 0 rfl).sl (by simp)) rfl (by simp [Value.oneCell']) (by omega) (by omega) (n' := (l ++ [s.extract f i]).length) (by first | (simp; done) | (simp; omega)) (cs' := strs (l ++ [s.extract f i])) (by simp [strs])) rfl rfl rfl ?_
              rintro _ _ w443 ⟨A442, c442, rfl, rfl⟩ S443 a443 F443
              refine op_p F443 (.slice A442 ((l ++ [s.extract f i]).length) c442) (by kernel_rfl) rfl rfl rfl (by kernel_rfl) rfl ?_; intro a444 F444
              refine wpList_nil ?_
              refine hK33 _ _ ?_; clear hK33 K33
              refine wp_region_lit ?_
              refine op_p F444 (.int .i64 (↑i)) (by kernel_rfl) rfl rfl rfl (by kernel_rfl) rfl ?_; intro a445 F445
              refine op_r (v := .int .i64 (↑(i + 1))) F445 (r_add (z := ↑(i + 1)) rfl (F445.ev (v := .int .i64 (↑i)) (by kernel_rfl)) (F445.ev (v := .int .i64 1) (by kernel_rfl)) (wr64 (by omega) (by omega) (by omega))) rfl rfl rfl ?_; intro a446 F446
              refine op_p F446 (.int .i64 (↑(i + 1))) (by kernel_rfl) rfl rfl rfl (by kernel_rfl) rfl ?_; intro a447 F447
              refine wpList_nil ?_
              have hp : push ((↑s[0].toNat : Int) == 47) l (s.extract f i) = l ++ [s.extract f i] := by
                unfold push; simp only [hc270, hc286, hc300, Bool.false_eq_true, if_true, if_false]
              have hxs : ∀ x ∈ push ((↑s[0].toNat : Int) == 47) l (s.extract f i), x.size ≤ s.size := push_all hx (by simp only [ByteArray.size_extract]; omega)
              have hls : (push ((↑s[0].toNat : Int) == 47) l (s.extract f i)).length ≤ i + 1 := by have := push_len (r := ((↑s[0].toNat : Int) == 47)) (l := l) (p := s.extract f i); omega
              rw [hp] at hxs hls
              have hi2 : i = s.size := by omega
              have he3 : l ++ [s.extract f i] = stk ((↑s[0].toNat : Int) == 47) s := by rw [← hp, hi2]; exact stk_last (fun j hj h1 => hno j hj h1 (by omega)) (he (by omega))
              exact hK24 _ _ _ (by first | omega | (simp; omega)) ⟨A442, c442, l ++ [s.extract f i], i + 1, i + 1, s.size + 1, rfl, (F447.k 0 (by kernel_rfl) (F447.k 2 (by kernel_rfl) (F447.k 3 (by kernel_rfl) (F447.k 4 (by kernel_rfl) (F447.k 5 (by kernel_rfl) (F447.k 6 (by kernel_rfl) (F447.k 11 (by kernel_rfl) (F447.k 12 (by kernel_rfl) (F447.k 13 (by kernel_rfl) (F447.k 14 (by kernel_rfl) (F447.k 15 (by kernel_rfl) F447.nil))))))))))), S443.p1.drop, (by first | omega | (with_reducible assumption) | (simp; done)), (by first | omega | (with_reducible assumption) | (simp; done)), (by omega), (fun j hj h1 h2 => by omega), (fun h => by omega), (fun _ => he3), hls, hxs⟩
    · have hc31p := of_decide_eq_false hc31
      have F448 := F30.sb 19 (by kernel_rfl) hc31
      refine wp_cond_false (F448.ev (by kernel_rfl)) ?_
      refine wp_exit ?_
      refine ex_then ?_; clear hK25 K25
      refine ex_then ?_
      refine ex_in ?_
      refine hK21 _ _ ?_; clear hK21 K21
      refine wp_seq_k fun K449 hK449 => ?_
      refine wp_region_lit ?_
      refine op_p F448 (.string ⟨#[]⟩) (by kernel_rfl) rfl rfl rfl (by kernel_rfl) rfl ?_; intro a450 F450
      refine wpList_nil ?_
      refine hK449 _ _ ?_; clear hK449 K449
      refine wp_seq_k fun K451 hK451 => ?_
      refine wp_seq_k fun K452 hK452 => ?_
      refine wp_region_lit ?_
      refine op_p F450 (.slice Ab l.length cb) (by kernel_rfl) rfl rfl rfl (by kernel_rfl) rfl ?_; intro a453 F453
      refine op_p F453 (.int .i64 (↑l.length)) (by kernel_rfl) rfl rfl rfl (by kernel_rfl) rfl ?_; intro a454 F454
      refine op_p F454 (.int .i64 0) (by kernel_rfl) rfl rfl rfl (by kernel_rfl) rfl ?_; intro a455 F455
      refine wpList_nil ?_
      refine hK452 _ _ ?_; clear hK452 K452
      refine wp_block ?_
      have hst := he2 (by omega)
      have hx2 : ∀ x ∈ l, x.size ≤ 100000 := fun x hxm => by have := hx x hxm; omega
      refine fw_loop (fun m a' w' => ∃ k : Nat, ∃ o : ByteArray, l.length - k = m ∧ Fr 98 [] a' [(0, .string s), (2, .string ⟨#[]⟩), (3, .bool ((↑s[0].toNat : Int) == 47)), (4, .slice Ab l.length cb), (5, .int .i64 (↑f)), (6, .int .i64 (↑i)), (8, .string o), (11, .string s), (12, .bool false), (13, .string s), (14, .int .u8 (↑s[0].toNat)), (15, .bool ((↑s[0].toNat : Int) == 47)), (16, .int .i64 (↑i)), (17, .string s), (18, .int .i64 (↑s.size)), (19, .bool false), (77, .slice Ab l.length cb), (78, .int .i64 (↑l.length)), (79, .int .i64 (↑k))] ∧ Sp R w' (SA.own (.slice Ab l.length cb) 9 1 l.length (strs l) :: L) ∧ (k ≤ l.length) ∧ (o = joinF ⟨#[47]⟩ (l.take k))) _ ⟨0, ⟨#[]⟩, rfl, (F455.k 0 (by kernel_rfl) (F455.k 2 (by kernel_rfl) (F455.k 3 (by kernel_rfl) (F455.k 4 (by kernel_rfl) (F455.k 5 (by kernel_rfl) (F455.k 6 (by kernel_rfl) (F455.k 8 (by kernel_rfl) (F455.k 11 (by kernel_rfl) (F455.k 12 (by kernel_rfl) (F455.k 13 (by kernel_rfl) (F455.k 14 (by kernel_rfl) (F455.k 15 (by kernel_rfl) (F455.k 16 (by kernel_rfl) (F455.k 17 (by kernel_rfl) (F455.k 18 (by kernel_rfl) (F455.k 19 (by kernel_rfl) (F455.k 77 (by kernel_rfl) (F455.k 78 (by kernel_rfl) (F455.k 79 (by kernel_rfl) F455.nil))))))))))))))))))), S24, (by first | omega | (with_reducible assumption) | (simp; done)), rfl⟩ ?_
      rintro m456 a456 w456 ⟨k, o, hm456, F456, S456, hk, ho⟩ K456 hK456
      by_cases hlt_k : k < l.length
      · have hc_k : decide ((↑k : Int) < ↑l.length) = true := by first | (simp; done) | (simp; omega)
        have hjl := joinF_le (sep := ⟨#[47]⟩) (k := k) hx2
        have hxk := hx2 _ (List.getElem_mem hlt_k)
        have hkb : k * (100000 + (⟨#[47]⟩ : ByteArray).size) ≤ 100000 * 101000 := Nat.mul_le_mul (by omega) (by decide)
        obtain ⟨ad457, hA457⟩ := (own_sl1 (S456.ow 0 rfl) (by omega)).addr (by simp [strs, ptrs]; omega)
        refine wp_seq_k fun K458 hK458 => ?_
        refine wp_region_lit ?_
        refine op_p F456 (.bool (decide ((↑k : Int) < ↑l.length))) (by kernel_rfl) rfl rfl rfl (by kernel_rfl) rfl ?_; intro a459 F459
        have F460 := F459.sb 80 (by kernel_rfl) hc_k
        refine wpList_nil ?_
        refine hK458 _ _ ?_; clear hK458 K458
        refine wp_seq_k fun K461 hK461 => ?_
        refine wp_cond_true (F460.ev (by kernel_rfl)) ?_
        refine wp_skip ?_
        refine hK461 _ _ ?_; clear hK461 K461
        refine wp_seq_k fun K462 hK462 => ?_
        refine wp_block ?_
        refine wp_seq_k fun K463 hK463 => ?_
        refine wp_region_lit ?_
        refine op_p F460 (.int .i64 (↑k)) (by kernel_rfl) rfl rfl rfl (by kernel_rfl) rfl ?_; intro a464 F464
        refine op_r (v := .pointer (some (ad457.add k))) F464 (r_ix rfl Try.underlying22 1 (by kernel_rfl) (F464.ev (v := .slice Ab l.length cb) (by kernel_rfl)) hA457 (F464.ev (v := .int .i64 (↑k)) (by kernel_rfl)) k (by first | rfl | omega | simp) (by first | omega | (simp; done) | (simp; omega)) (by simp only [Nat.mul_one])) rfl rfl rfl ?_; intro a465 F465
        refine op_r (v := .string l[k]) F465 (r_ld rfl (F465.ev (v := .pointer (some (ad457.add k))) (by kernel_rfl)) (v := .string l[k]) ((own_sl1 (S456.ow 0 rfl) (by omega)).elA hA457 (j := k) (by simp [strs, hlt_k])) Try.underlying9 rfl) rfl rfl rfl ?_; intro a466 F466
        refine op_p F466 (.int .i64 (↑k)) (by kernel_rfl) rfl rfl rfl (by kernel_rfl) rfl ?_; intro a467 F467
        refine op_p F467 (.string l[k]) (by kernel_rfl) rfl rfl rfl (by kernel_rfl) rfl ?_; intro a468 F468
        refine wpList_nil ?_
        refine hK463 _ _ ?_; clear hK463 K463
        refine wp_seq_k fun K469 hK469 => ?_
        refine wp_seq_k fun K470 hK470 => ?_
        refine wp_region_lit ?_
        refine op_p F468 (.int .i64 (↑k)) (by kernel_rfl) rfl rfl rfl (by kernel_rfl) rfl ?_; intro a471 F471
        refine op_p F471 (.bool (decide ((0 : Int) < ↑k))) (by kernel_rfl) rfl rfl rfl (by kernel_rfl) rfl ?_; intro a472 F472
        refine wpList_nil ?_
        refine hK470 _ _ ?_; clear hK470 K470
        rcases btf (decide ((0 : Int) < ↑k)) with hc473 | hc473
        · have hc473p := of_decide_eq_true hc473
          have F474 := F472.sb 85 (by kernel_rfl) hc473
          refine wp_cond_true (F474.ev (by kernel_rfl)) ?_
          refine wp_region_lit ?_
          refine op_p F474 (.string o) (by kernel_rfl) rfl rfl rfl (by kernel_rfl) rfl ?_; intro a475 F475
          refine op_r (v := .string (o ++ (⟨#[47]⟩ : ByteArray))) F475 (r_sadd rfl (F475.ev (v := .string o) (by kernel_rfl)) (F475.ev (v := .string ⟨#[47]⟩) (by kernel_rfl)) (by show o.size + 1 ≤ 9223372036854775807; first | omega | (subst ho; first | omega | (rw [ByteArray.size_append]; show _ + 1 + _ ≤ _; omega)) | (have hjl := joinF_le (sep := ⟨#[47]⟩) (k := l.length) hx2; rw [← hst] at hoo; subst hoo; have hkb : l.length * (100000 + (⟨#[47]⟩ : ByteArray).size) ≤ 100000 * 101000 := Nat.mul_le_mul (by omega) (by decide); rw [List.take_length] at hjl; omega))) rfl rfl rfl ?_; intro a476 F476
          refine op_p F476 (.string (o ++ (⟨#[47]⟩ : ByteArray))) (by kernel_rfl) rfl rfl rfl (by kernel_rfl) rfl ?_; intro a477 F477
          refine wpList_nil ?_
          refine hK469 _ _ ?_; clear hK469 K469
          refine wp_region_lit ?_
          refine op_p F477 (.string (o ++ (⟨#[47]⟩ : ByteArray))) (by kernel_rfl) rfl rfl rfl (by kernel_rfl) rfl ?_; intro a478 F478
          refine op_p F478 (.string l[k]) (by kernel_rfl) rfl rfl rfl (by kernel_rfl) rfl ?_; intro a479 F479
          refine op_r (v := .string ((o ++ (⟨#[47]⟩ : ByteArray)) ++ l[k])) F479 (r_sadd rfl (F479.ev (v := .string (o ++ (⟨#[47]⟩ : ByteArray))) (by kernel_rfl)) (F479.ev (v := .string l[k]) (by kernel_rfl)) (by show (o ++ (⟨#[47]⟩ : ByteArray)).size + l[k].size ≤ 9223372036854775807; first | omega | (subst ho; first | omega | (rw [ByteArray.size_append]; show _ + 1 + _ ≤ _; omega)) | (have hjl := joinF_le (sep := ⟨#[47]⟩) (k := l.length) hx2; rw [← hst] at hoo; subst hoo; have hkb : l.length * (100000 + (⟨#[47]⟩ : ByteArray).size) ≤ 100000 * 101000 := Nat.mul_le_mul (by omega) (by decide); rw [List.take_length] at hjl; omega))) rfl rfl rfl ?_; intro a480 F480
          refine op_p F480 (.string ((o ++ (⟨#[47]⟩ : ByteArray)) ++ l[k])) (by kernel_rfl) rfl rfl rfl (by kernel_rfl) rfl ?_; intro a481 F481
          refine wpList_nil ?_
          refine hK462 _ _ ?_; clear hK462 K462
          refine wp_region_lit ?_
          refine op_r (v := .int .i64 (↑(k + 1))) F481 (r_add (z := ↑(k + 1)) rfl (F481.ev (v := .int .i64 (↑k)) (by kernel_rfl)) (F481.ev (v := .int .i64 1) (by kernel_rfl)) (wr64 (by omega) (by omega) (by omega))) rfl rfl rfl ?_; intro a482 F482
          refine op_p F482 (.int .i64 (↑(k + 1))) (by kernel_rfl) rfl rfl rfl (by kernel_rfl) rfl ?_; intro a483 F483
          refine wpList_nil ?_
          exact hK456 _ _ _ (by first | omega | (simp; omega)) ⟨k + 1, ((o ++ (⟨#[47]⟩ : ByteArray)) ++ l[k]), rfl, (F483.k 0 (by kernel_rfl) (F483.k 2 (by kernel_rfl) (F483.k 3 (by kernel_rfl) (F483.k 4 (by kernel_rfl) (F483.k 5 (by kernel_rfl) (F483.k 6 (by kernel_rfl) (F483.k 8 (by kernel_rfl) (F483.k 11 (by kernel_rfl) (F483.k 12 (by kernel_rfl) (F483.k 13 (by kernel_rfl) (F483.k 14 (by kernel_rfl) (F483.k 15 (by kernel_rfl) (F483.k 16 (by kernel_rfl) (F483.k 17 (by kernel_rfl) (F483.k 18 (by kernel_rfl) (F483.k 19 (by kernel_rfl) (F483.k 77 (by kernel_rfl) (F483.k 78 (by kernel_rfl) (F483.k 79 (by kernel_rfl) F483.nil))))))))))))))))))), S456, (by first | omega | (with_reducible assumption) | (simp; done)), (by subst ho; exact (joinF_take ⟨#[47]⟩ l k hlt_k (by omega)).symm)⟩
        · have hc473p := of_decide_eq_false hc473
          have F484 := F472.sb 85 (by kernel_rfl) hc473
          refine wp_cond_false (F484.ev (by kernel_rfl)) ?_
          refine wp_skip ?_
          refine hK469 _ _ ?_; clear hK469 K469
          refine wp_region_lit ?_
          refine op_p F484 (.string o) (by kernel_rfl) rfl rfl rfl (by kernel_rfl) rfl ?_; intro a485 F485
          refine op_p F485 (.string l[k]) (by kernel_rfl) rfl rfl rfl (by kernel_rfl) rfl ?_; intro a486 F486
          refine op_r (v := .string (o ++ l[k])) F486 (r_sadd rfl (F486.ev (v := .string o) (by kernel_rfl)) (F486.ev (v := .string l[k]) (by kernel_rfl)) (by show o.size + l[k].size ≤ 9223372036854775807; first | omega | (subst ho; first | omega | (rw [ByteArray.size_append]; show _ + 1 + _ ≤ _; omega)) | (have hjl := joinF_le (sep := ⟨#[47]⟩) (k := l.length) hx2; rw [← hst] at hoo; subst hoo; have hkb : l.length * (100000 + (⟨#[47]⟩ : ByteArray).size) ≤ 100000 * 101000 := Nat.mul_le_mul (by omega) (by decide); rw [List.take_length] at hjl; omega))) rfl rfl rfl ?_; intro a487 F487
          refine op_p F487 (.string (o ++ l[k])) (by kernel_rfl) rfl rfl rfl (by kernel_rfl) rfl ?_; intro a488 F488
          refine wpList_nil ?_
          refine hK462 _ _ ?_; clear hK462 K462
          refine wp_region_lit ?_
          refine op_r (v := .int .i64 (↑(k + 1))) F488 (r_add (z := ↑(k + 1)) rfl (F488.ev (v := .int .i64 (↑k)) (by kernel_rfl)) (F488.ev (v := .int .i64 1) (by kernel_rfl)) (wr64 (by omega) (by omega) (by omega))) rfl rfl rfl ?_; intro a489 F489
          refine op_p F489 (.int .i64 (↑(k + 1))) (by kernel_rfl) rfl rfl rfl (by kernel_rfl) rfl ?_; intro a490 F490
          refine wpList_nil ?_
          exact hK456 _ _ _ (by first | omega | (simp; omega)) ⟨k + 1, (o ++ l[k]), rfl, (F490.k 0 (by kernel_rfl) (F490.k 2 (by kernel_rfl) (F490.k 3 (by kernel_rfl) (F490.k 4 (by kernel_rfl) (F490.k 5 (by kernel_rfl) (F490.k 6 (by kernel_rfl) (F490.k 8 (by kernel_rfl) (F490.k 11 (by kernel_rfl) (F490.k 12 (by kernel_rfl) (F490.k 13 (by kernel_rfl) (F490.k 14 (by kernel_rfl) (F490.k 15 (by kernel_rfl) (F490.k 16 (by kernel_rfl) (F490.k 17 (by kernel_rfl) (F490.k 18 (by kernel_rfl) (F490.k 19 (by kernel_rfl) (F490.k 77 (by kernel_rfl) (F490.k 78 (by kernel_rfl) (F490.k 79 (by kernel_rfl) F490.nil))))))))))))))))))), S456, (by first | omega | (with_reducible assumption) | (simp; done)), (by subst ho; exact joinF_one hlt_k (by omega))⟩
      · have hc_k : decide ((↑k : Int) < ↑l.length) = false := by first | (simp; done) | (simp; omega)
        have hoo : o = joinF ⟨#[47]⟩ (stk ((↑s[0].toNat : Int) == 47) s) := by rw [ho, List.take_of_length_le (by omega), hst]
        refine wp_seq_k fun K491 hK491 => ?_
        refine wp_region_lit ?_
        refine op_p F456 (.bool (decide ((↑k : Int) < ↑l.length))) (by kernel_rfl) rfl rfl rfl (by kernel_rfl) rfl ?_; intro a492 F492
        have F493 := F492.sb 80 (by kernel_rfl) hc_k
        refine wpList_nil ?_
        refine hK491 _ _ ?_; clear hK491 K491
        refine wp_seq_k fun K494 hK494 => ?_
        refine wp_cond_false (F493.ev (by kernel_rfl)) ?_
        refine wp_exit ?_
        refine ex_then ?_; clear hK494 K494
        refine ex_then ?_
        refine ex_in ?_
        refine hK451 _ _ ?_; clear hK451 K451
        refine wp_seq_k fun K495 hK495 => ?_
        refine wp_seq_k fun K496 hK496 => ?_
        refine wp_region_lit ?_
        refine op_p F493 (.bool ((↑s[0].toNat : Int) == 47)) (by kernel_rfl) rfl rfl rfl (by kernel_rfl) rfl ?_; intro a497 F497
        refine wpList_nil ?_
        refine hK496 _ _ ?_; clear hK496 K496
        rcases btf ((↑s[0].toNat : Int) == 47) with hc498 | hc498
        · have hc498p := eq_of_beq hc498
          have F499 := F497.sb 15 (by kernel_rfl) hc498
          have F500 := F499.sb 3 (by kernel_rfl) hc498
          have F501 := F500.sb 92 (by kernel_rfl) hc498
          refine wp_cond_true (F501.ev (by kernel_rfl)) ?_
          refine wp_seq_k fun K502 hK502 => ?_
          refine wp_region_lit ?_
          refine op_p F501 (.string o) (by kernel_rfl) rfl rfl rfl (by kernel_rfl) rfl ?_; intro a503 F503
          refine op_r (v := .string ((⟨#[47]⟩ : ByteArray) ++ o)) F503 (r_sadd rfl (F503.ev (v := .string ⟨#[47]⟩) (by kernel_rfl)) (F503.ev (v := .string o) (by kernel_rfl)) (by show 1 + o.size ≤ 9223372036854775807; first | omega | (subst ho; first | omega | (rw [ByteArray.size_append]; show _ + 1 + _ ≤ _; omega)) | (have hjl := joinF_le (sep := ⟨#[47]⟩) (k := l.length) hx2; rw [← hst] at hoo; subst hoo; have hkb : l.length * (100000 + (⟨#[47]⟩ : ByteArray).size) ≤ 100000 * 101000 := Nat.mul_le_mul (by omega) (by decide); rw [List.take_length] at hjl; omega))) rfl rfl rfl ?_; intro a504 F504
          refine op_p F504 (.string ((⟨#[47]⟩ : ByteArray) ++ o)) (by kernel_rfl) rfl rfl rfl (by kernel_rfl) rfl ?_; intro a505 F505
          refine wpList_nil ?_
          refine hK502 _ _ ?_; clear hK502 K502
          refine wp_ret ?_
          refine ret_then ?_
          refine (F505.res1 rfl (v := .string ((⟨#[47]⟩ : ByteArray) ++ o)) (by kernel_rfl) ?_).1
          exact ⟨(ret_str (by rw [hoo, hc498, cleanP_r hc7 hpos hc498])), S456.drop⟩
        · have hc498p := ne_of_beq_false hc498
          have F506 := F497.sb 15 (by kernel_rfl) hc498
          have F507 := F506.sb 3 (by kernel_rfl) hc498
          have F508 := F507.sb 92 (by kernel_rfl) hc498
          refine wp_cond_false (F508.ev (by kernel_rfl)) ?_
          refine wp_skip ?_
          refine hK495 _ _ ?_; clear hK495 K495
          refine wp_seq_k fun K509 hK509 => ?_
          refine wp_seq_k fun K510 hK510 => ?_
          refine wp_region_lit ?_
          refine op_p F508 (.string o) (by kernel_rfl) rfl rfl rfl (by kernel_rfl) rfl ?_; intro a511 F511
          refine op_p F511 (.bool (o.toList == (⟨#[]⟩ : ByteArray).toList)) (by kernel_rfl) rfl rfl rfl (by kernel_rfl) rfl ?_; intro a512 F512
          refine wpList_nil ?_
          refine hK510 _ _ ?_; clear hK510 K510
          rcases btf (o.toList == (⟨#[]⟩ : ByteArray).toList) with hc513 | hc513
          · have F514 := F512.sb 96 (by kernel_rfl) hc513
            refine wp_cond_true (F514.ev (by kernel_rfl)) ?_
            refine wp_seq_k fun K515 hK515 => ?_
            refine wp_region_lit ?_
            refine op_p F514 (.string ⟨#[46]⟩) (by kernel_rfl) rfl rfl rfl (by kernel_rfl) rfl ?_; intro a516 F516
            refine wpList_nil ?_
            refine hK515 _ _ ?_; clear hK515 K515
            refine wp_ret ?_
            refine ret_then ?_
            refine (F516.res1 rfl (v := .string ⟨#[46]⟩) (by kernel_rfl) ?_).1
            exact ⟨(ret_str (by rw [hoo, hc498] at hc513; rw [cleanP_e hc7 hpos hc498 hc513])), S456.drop⟩
          · have F517 := F512.sb 96 (by kernel_rfl) hc513
            refine wp_cond_false (F517.ev (by kernel_rfl)) ?_
            refine wp_skip ?_
            refine hK509 _ _ ?_; clear hK509 K509
            refine wp_seq_k fun K518 hK518 => ?_
            refine wp_region_lit ?_
            refine op_p F517 (.string o) (by kernel_rfl) rfl rfl rfl (by kernel_rfl) rfl ?_; intro a519 F519
            refine op_p F519 (.string o) (by kernel_rfl) rfl rfl rfl (by kernel_rfl) rfl ?_; intro a520 F520
            refine wpList_nil ?_
            refine hK518 _ _ ?_; clear hK518 K518
            refine wp_ret ?_
            refine (F520.res1 rfl (v := .string o) (by kernel_rfl) ?_).1
            exact ⟨(ret_str (by rw [hoo, hc498] at hc513; rw [hoo, hc498]; rw [cleanP_n hc7 hpos hc498 hc513])), S456.drop⟩
end Go.Proofs.Ytkjcedlgljeoiaa
