/- spec.HlExpanded, by the quick walk. -/
import Derived.Test.YtkjcedlgljeoiaaX6
namespace Go.Proofs.Ytkjcedlgljeoiaa
open Go.RowKit Go.Lib
set_option linter.unusedVariables false
set_option linter.unusedSimpArgs false
theorem und_hit {xs : List Ty108} {s : ByteArray} {q : Nat} (hu : undF xs s = undF (xs.take q) s) (h1 : 1 ≤ q) (h : q - 1 < xs.length) (e : (xs[q - 1].fKey.toList == s.toList) = true) : undF xs s = xs[q - 1].fText := by
  rw [hu]
  have h2 := undF_take (xs := xs) (s := s) h
  rw [show q - 1 + 1 = q by omega] at h2
  rw [h2, if_pos e]
theorem und_miss {xs : List Ty108} {s : ByteArray} {q : Nat} (hu : undF xs s = undF (xs.take q) s) (h1 : 1 ≤ q) (h : q - 1 < xs.length) (e : (xs[q - 1].fKey.toList == s.toList) = false) : undF xs s = undF (xs.take (q - 1)) s := by
  rw [hu]
  have h2 := undF_take (xs := xs) (s := s) h
  rw [show q - 1 + 1 = q by omega] at h2
  rw [h2, if_neg (by rw [e]; simp)]
theorem exd_var {xs : List Ty108} {s b b2 : ByteArray} {j n : Nat} (h : j + 1 < s.size) (e : s[j].toNat = 36) (hn : n = (vrF s j).2) (he : b ++ exF xs s j = exF xs s 0) (hb : b2 = b ++ pcF xs (vrF s j)) : b2 ++ exF xs s (j + n + 1) = exF xs s 0 := by
  subst hb; subst hn
  rw [← he, exF_var h e, show j + 1 + (vrF s j).2 = j + (vrF s j).2 + 1 by omega]
  simp only [ByteArray.append_assoc]
theorem exd_one {xs : List Ty108} {s b : ByteArray} {j : Nat} (h : j < s.size) (hn : s[j].toNat ≠ 36 ∨ j + 1 = s.size) (he : b ++ exF xs s j = exF xs s 0) : b ++ s.extract j (j + 1) ++ exF xs s (j + 1) = exF xs s 0 := by
  rw [← he, exF_one h hn]
  simp only [ByteArray.append_assoc]
set_option maxRecDepth 100000 in
set_option maxHeartbeats 20000000 in
theorem hlExpanded_any (A : Option Addr) (c : Nat) (xs : List Ty108) (s : ByteArray) (R : Ctx) (L : List SA) (w : World) (S : Sp R w (L)) (h0 : Rf R L fun w => Rows w (A) 2 (xs.map Ty108.cells)) (hs : s.size ≤ 1000) (hM : ∀ x ∈ xs, x.fText.size ≤ 2147483647) (ha : ∀ j, ∀ h : j < s.size, s[j].toNat ≤ 127) :
    Calls Try.prog 22 #[.string s, .slice (A) (xs.length) (c)] w fun e w' => e = .returned (.string (exF xs s 0)) ∧ Sp R w' (L) := by
  have hl_xs : xs.length ≤ 9223372036854775807 := by have := (h0 _ S).1; simpa [strs, ptrs] using this
  refine fw_enter (fn := Try.f22) rfl rfl 79 rfl (Nat.le_of_ble_eq_true rfl) ?_
  intro a0 F0
  refine wp_seq_k fun K1 hK1 => ?_
  refine wp_region_lit ?_
  refine op_p F0 (.string ⟨#[]⟩) (by kernel_rfl) rfl rfl rfl (by kernel_rfl) rfl ?_; intro a2 F2
  refine wpList_nil ?_
  refine hK1 _ _ ?_; clear hK1 K1
  refine wp_seq_k fun K3 hK3 => ?_
  refine wp_region_lit ?_
  refine op_p F2 (.string ⟨#[]⟩) (by kernel_rfl) rfl rfl rfl (by kernel_rfl) rfl ?_; intro a4 F4
  refine wpList_nil ?_
  refine hK3 _ _ ?_; clear hK3 K3
  refine wp_seq_k fun K5 hK5 => ?_
  refine wp_seq_k fun K6 hK6 => ?_
  refine wp_region_lit ?_
  refine op_p F4 (.int .i64 0) (by kernel_rfl) rfl rfl rfl (by kernel_rfl) rfl ?_; intro a7 F7
  refine wpList_nil ?_
  refine hK6 _ _ ?_; clear hK6 K6
  refine wp_block ?_
  refine fw_loop (fun m a' w' => ∃ b : ByteArray, ∃ j : Nat, s.size - j = m ∧ Fr 79 [] a' [(0, .string s), (1, .slice (A) (xs.length) (c)), (4, .string ⟨#[]⟩), (5, .string b), (6, .int .i64 (↑j))] ∧ Sp R w' (L) ∧ (j ≤ s.size) ∧ (b ++ exF xs s j = exF xs s 0) ∧ (b.size ≤ j * 4294967296)) _ ⟨⟨#[]⟩, 0, rfl, (F7.k 0 (by kernel_rfl) (F7.k 1 (by kernel_rfl) (F7.k 4 (by kernel_rfl) (F7.k 5 (by kernel_rfl) (F7.k 6 (by kernel_rfl) F7.nil))))), S, (by first | omega | (with_reducible assumption) | (simp; done)), (emp_app _), (by decide)⟩ ?_
  rintro m8 a8 w8 ⟨b, j, hm8, F8, S8, hj, he, hz⟩ K8 hK8
  by_cases hlt_j : j < s.size
  · have hc_j : decide ((↑j : Int) < ↑s.size) = true := by first | (simp; done) | (simp; omega)
    have hvl : ∀ h : j + 1 < s.size, j + 1 + (shF (s.extract (j + 1) s.size)).2 ≤ s.size := fun h => vrF_le h
    have hus : (undF xs (shF (s.extract (j + 1) s.size)).1).size ≤ 2147483647 := undF_size hM
    refine wp_seq_k fun K9 hK9 => ?_
    refine wp_seq_k fun K10 hK10 => ?_
    refine wp_region_lit ?_
    refine op_p F8 (.int .i64 (↑j)) (by kernel_rfl) rfl rfl rfl (by kernel_rfl) rfl ?_; intro a11 F11
    refine op_p F11 (.string s) (by kernel_rfl) rfl rfl rfl (by kernel_rfl) rfl ?_; intro a12 F12
    refine op_p F12 (.int .i64 (↑s.size)) (by kernel_rfl) rfl rfl rfl (by kernel_rfl) rfl ?_; intro a13 F13
    refine op_p F13 (.bool (decide ((↑j : Int) < ↑s.size))) (by kernel_rfl) rfl rfl rfl (by kernel_rfl) rfl ?_; intro a14 F14
    have F15 := F14.sb 13 (by kernel_rfl) hc_j
    refine wpList_nil ?_
    refine hK10 _ _ ?_; clear hK10 K10
    refine wp_cond_true (F15.ev (by kernel_rfl)) ?_
    refine wp_skip ?_
    refine hK9 _ _ ?_; clear hK9 K9
    refine wp_seq_k fun K16 hK16 => ?_
    refine wp_block ?_
    refine wp_seq_k fun K17 hK17 => ?_
    refine wp_seq_k fun K18 hK18 => ?_
    refine wp_region_lit ?_
    refine op_p F15 (.string s) (by kernel_rfl) rfl rfl rfl (by kernel_rfl) rfl ?_; intro a19 F19
    refine op_p F19 (.int .i64 (↑j)) (by kernel_rfl) rfl rfl rfl (by kernel_rfl) rfl ?_; intro a20 F20
    refine op_r (v := .int .u8 (↑s[j].toNat)) F20 (r_index rfl Try.underlying9 (F20.ev (v := .string s) (by kernel_rfl)) (F20.ev (v := .int .i64 (↑j)) (by kernel_rfl)) j (by first | rfl | omega | simp) (by first | omega | (simp; done) | (simp; omega))) rfl rfl rfl ?_; intro a21 F21
    refine op_p F21 (.bool (!((↑s[j].toNat : Int) == 36))) (by kernel_rfl) rfl rfl rfl (by kernel_rfl) rfl ?_; intro a22 F22
    refine op_p F22 (.bool (!((↑s[j].toNat : Int) == 36))) (by kernel_rfl) rfl rfl rfl (by kernel_rfl) rfl ?_; intro a23 F23
    rcases btf ((↑s[j].toNat : Int) == 36) with hc24 | hc24
    · have hc24p := eq_of_beq hc24
      have F25 := F23.sb 19 (by kernel_rfl) (show (!((↑s[j].toNat : Int) == 36)) = false by rw [hc24]; rfl)
      have F26 := F25.sb 20 (by kernel_rfl) (show (!((↑s[j].toNat : Int) == 36)) = false by rw [hc24]; rfl)
      refine op_want F26 (by kernel_rfl) rfl ?_
      refine op_p F26 (.int .i64 (↑j)) (by kernel_rfl) rfl rfl rfl (by kernel_rfl) rfl ?_; intro a27 F27
      refine op_want F27 (by kernel_rfl) rfl ?_
      refine op_r (v := .int .i64 (↑(j + 1))) F27 (r_add (z := ↑(j + 1)) rfl (F27.ev (v := .int .i64 (↑j)) (by kernel_rfl)) (F27.ev (v := .int .i64 1) (by kernel_rfl)) (wr64 (by omega) (by omega) (by omega))) rfl rfl rfl ?_; intro a28 F28
      refine op_want F28 (by kernel_rfl) rfl ?_
      refine op_p F28 (.string s) (by kernel_rfl) rfl rfl rfl (by kernel_rfl) rfl ?_; intro a29 F29
      refine op_want F29 (by kernel_rfl) rfl ?_
      refine op_p F29 (.int .i64 (↑s.size)) (by kernel_rfl) rfl rfl rfl (by kernel_rfl) rfl ?_; intro a30 F30
      refine op_want F30 (by kernel_rfl) rfl ?_
      refine op_p F30 (.bool ((↑(j + 1) : Int) == ↑s.size)) (by kernel_rfl) rfl rfl rfl (by kernel_rfl) rfl ?_; intro a31 F31
      refine op_p F31 (.bool ((↑(j + 1) : Int) == ↑s.size)) (by kernel_rfl) rfl rfl rfl (by kernel_rfl) rfl ?_; intro a32 F32
      refine wpList_nil ?_
      refine hK18 _ _ ?_; clear hK18 K18
      rcases btf ((↑(j + 1) : Int) == ↑s.size) with hc33 | hc33
      · have hc33p := eq_of_beq hc33
        have F34 := F32.sb 25 (by kernel_rfl) hc33
        have F35 := F34.sb 26 (by kernel_rfl) hc33
        refine wp_cond_true (F35.ev (by kernel_rfl)) ?_
        refine wp_seq_k fun K36 hK36 => ?_
        refine wp_region_lit ?_
        refine op_p F35 (.string b) (by kernel_rfl) rfl rfl rfl (by kernel_rfl) rfl ?_; intro a37 F37
        refine op_p F37 (.string s) (by kernel_rfl) rfl rfl rfl (by kernel_rfl) rfl ?_; intro a38 F38
        refine op_p F38 (.int .i64 (↑j)) (by kernel_rfl) rfl rfl rfl (by kernel_rfl) rfl ?_; intro a39 F39
        refine op_p F39 (.int .i64 (↑j)) (by kernel_rfl) rfl rfl rfl (by kernel_rfl) rfl ?_; intro a40 F40
        refine op_r (v := .int .i64 (↑(j + 1))) F40 (r_add (z := ↑(j + 1)) rfl (F40.ev (v := .int .i64 (↑j)) (by kernel_rfl)) (F40.ev (v := .int .i64 1) (by kernel_rfl)) (wr64 (by omega) (by omega) (by omega))) rfl rfl rfl ?_; intro a41 F41
        refine op_r (v := .string (s.extract j (j + 1))) F41 (r_sllh rfl Try.underlying9 (F41.ev (v := .string s) (by kernel_rfl)) (F41.ev (v := .int .i64 (↑j)) (by kernel_rfl)) (F41.ev (v := .int .i64 (↑(j + 1))) (by kernel_rfl))  j (j + 1) (by first | rfl | omega | (simp; done) | (simp; omega)) (by first | omega | (simp; done) | (simp; omega)) (rfl)) rfl rfl rfl ?_; intro a42 F42
        refine op_r (v := .string (b ++ (s.extract j (j + 1)))) F42 (r_sadd rfl (F42.ev (v := .string b) (by kernel_rfl)) (F42.ev (v := .string (s.extract j (j + 1))) (by kernel_rfl)) (by first | omega | (simp only [ByteArray.size_append, ByteArray.size_extract, sz1]; omega) | (have := hM _ (List.getElem_mem hq); simp only [ByteArray.size_append, sz1]; omega) | (have := hM _ (List.getElem_mem hq); omega))) rfl rfl rfl ?_; intro a43 F43
        refine op_p F43 (.string (b ++ (s.extract j (j + 1)))) (by kernel_rfl) rfl rfl rfl (by kernel_rfl) rfl ?_; intro a44 F44
        refine wpList_nil ?_
        refine hK36 _ _ ?_; clear hK36 K36
        refine wp_exit ?_
        refine ex_then ?_; clear hK17 K17
        refine ex_in ?_
        refine hK16 _ _ ?_; clear hK16 K16
        refine wp_region_lit ?_
        refine op_p F44 (.int .i64 (↑j)) (by kernel_rfl) rfl rfl rfl (by kernel_rfl) rfl ?_; intro a45 F45
        refine op_r (v := .int .i64 (↑(j + 1))) F45 (r_add (z := ↑(j + 1)) rfl (F45.ev (v := .int .i64 (↑j)) (by kernel_rfl)) (F45.ev (v := .int .i64 1) (by kernel_rfl)) (wr64 (by omega) (by omega) (by omega))) rfl rfl rfl ?_; intro a46 F46
        refine op_p F46 (.int .i64 (↑(j + 1))) (by kernel_rfl) rfl rfl rfl (by kernel_rfl) rfl ?_; intro a47 F47
        refine wpList_nil ?_
        exact hK8 _ _ _ (by first | omega | (simp; omega)) ⟨b ++ (s.extract j (j + 1)), j + 1, rfl, (F47.k 0 (by kernel_rfl) (F47.k 1 (by kernel_rfl) (F47.k 4 (by kernel_rfl) (F47.k 5 (by kernel_rfl) (F47.k 6 (by kernel_rfl) F47.nil))))), S8, (by first | omega | (with_reducible assumption) | (simp; done)), (exd_one hlt_j (Or.inr (by omega)) he), (by simp only [ByteArray.size_append, ByteArray.size_extract]; omega)⟩
      · have hc33p := ne_of_beq_false hc33
        have F48 := F32.sb 25 (by kernel_rfl) hc33
        have F49 := F48.sb 26 (by kernel_rfl) hc33
        refine wp_cond_false (F49.ev (by kernel_rfl)) ?_
        refine wp_skip ?_
        refine hK17 _ _ ?_; clear hK17 K17
        refine wp_seq_k fun K50 hK50 => ?_
        refine wp_region_lit ?_
        refine op_p F49 (.string s) (by kernel_rfl) rfl rfl rfl (by kernel_rfl) rfl ?_; intro a51 F51
        refine op_p F51 (.int .i64 (↑j)) (by kernel_rfl) rfl rfl rfl (by kernel_rfl) rfl ?_; intro a52 F52
        refine op_r (v := .int .i64 (↑(j + 1))) F52 (r_add (z := ↑(j + 1)) rfl (F52.ev (v := .int .i64 (↑j)) (by kernel_rfl)) (F52.ev (v := .int .i64 1) (by kernel_rfl)) (wr64 (by omega) (by omega) (by omega))) rfl rfl rfl ?_; intro a53 F53
        refine op_r (v := .string (s.extract (j + 1) s.size)) F53 (r_sll rfl Try.underlying9 (F53.ev (v := .string s) (by kernel_rfl)) (F53.ev (v := .int .i64 (↑(j + 1))) (by kernel_rfl))  (j + 1) s.size (by first | rfl | omega | (simp; done) | (simp; omega)) (by first | omega | (simp; done) | (simp; omega)) (rfl)) rfl rfl rfl ?_; intro a54 F54
        refine op_c F54 (f := 72) (args := #[.string (s.extract (j + 1) s.size)]) (by kernel_rfl) (by kernel_rfl) rfl (hlVariable_any (s.extract (j + 1) s.size) _ (by simp; omega) (by simp; omega) (by intro k hk; rw [ByteArray.getElem_extract]; exact ha _ _)) rfl rfl rfl ?_
        rintro _ w55 ⟨rfl, hb_55⟩
        refine ⟨_, rfl, ?_⟩
        intro a56 F56
        have S55 := S8.below hb_55
        refine op_p F56 (.tuple #[.string ((shF (s.extract (j + 1) s.size)).1), .int .i64 (↑(shF (s.extract (j + 1) s.size)).2)]) (by kernel_rfl) rfl rfl rfl (by kernel_rfl) rfl ?_; intro a57 F57
        refine op_p F57 (.string ((shF (s.extract (j + 1) s.size)).1)) (by kernel_rfl) rfl rfl rfl (by kernel_rfl) rfl ?_; intro a58 F58
        refine op_p F58 (.int .i64 (↑(shF (s.extract (j + 1) s.size)).2)) (by kernel_rfl) rfl rfl rfl (by kernel_rfl) rfl ?_; intro a59 F59
        refine op_p F59 (.string ((shF (s.extract (j + 1) s.size)).1)) (by kernel_rfl) rfl rfl rfl (by kernel_rfl) rfl ?_; intro a60 F60
        refine op_p F60 (.int .i64 (↑(shF (s.extract (j + 1) s.size)).2)) (by kernel_rfl) rfl rfl rfl (by kernel_rfl) rfl ?_; intro a61 F61
        refine wpList_nil ?_
        refine hK50 _ _ ?_; clear hK50 K50
        refine wp_seq_k fun K62 hK62 => ?_
        refine wp_seq_k fun K63 hK63 => ?_
        refine wp_region_lit ?_
        refine op_p F61 (.string ((shF (s.extract (j + 1) s.size)).1)) (by kernel_rfl) rfl rfl rfl (by kernel_rfl) rfl ?_; intro a64 F64
        refine op_p F64 (.bool (((shF (s.extract (j + 1) s.size)).1).toList == (⟨#[]⟩ : ByteArray).toList)) (by kernel_rfl) rfl rfl rfl (by kernel_rfl) rfl ?_; intro a65 F65
        refine op_p F65 (.bool (((shF (s.extract (j + 1) s.size)).1).toList == (⟨#[]⟩ : ByteArray).toList)) (by kernel_rfl) rfl rfl rfl (by kernel_rfl) rfl ?_; intro a66 F66
        rcases btf (((shF (s.extract (j + 1) s.size)).1).toList == (⟨#[]⟩ : ByteArray).toList) with hc67 | hc67
        · have F68 := F66.sb 43 (by kernel_rfl) hc67
          have F69 := F68.sb 44 (by kernel_rfl) hc67
          refine op_want F69 (by kernel_rfl) rfl ?_
          refine op_p F69 (.int .i64 (↑(shF (s.extract (j + 1) s.size)).2)) (by kernel_rfl) rfl rfl rfl (by kernel_rfl) rfl ?_; intro a70 F70
          refine op_want F70 (by kernel_rfl) rfl ?_
          refine op_p F70 (.bool ((↑(shF (s.extract (j + 1) s.size)).2 : Int) == 0)) (by kernel_rfl) rfl rfl rfl (by kernel_rfl) rfl ?_; intro a71 F71
          refine op_p F71 (.bool ((↑(shF (s.extract (j + 1) s.size)).2 : Int) == 0)) (by kernel_rfl) rfl rfl rfl (by kernel_rfl) rfl ?_; intro a72 F72
          refine wpList_nil ?_
          refine hK63 _ _ ?_; clear hK63 K63
          rcases btf ((↑(shF (s.extract (j + 1) s.size)).2 : Int) == 0) with hc73 | hc73
          · have hc73p := eq_of_beq hc73
            have F74 := F72.sb 46 (by kernel_rfl) hc73
            have F75 := F74.sb 47 (by kernel_rfl) hc73
            refine wp_cond_true (F75.ev (by kernel_rfl)) ?_
            refine wp_region_lit ?_
            refine op_p F75 (.string b) (by kernel_rfl) rfl rfl rfl (by kernel_rfl) rfl ?_; intro a76 F76
            refine op_r (v := .string (b ++ (⟨#[36]⟩ : ByteArray))) F76 (r_sadd rfl (F76.ev (v := .string b) (by kernel_rfl)) (F76.ev (v := .string ⟨#[36]⟩) (by kernel_rfl)) (by first | omega | (simp only [ByteArray.size_append, ByteArray.size_extract, sz1]; omega) | (have := hM _ (List.getElem_mem hq); simp only [ByteArray.size_append, sz1]; omega) | (have := hM _ (List.getElem_mem hq); omega))) rfl rfl rfl ?_; intro a77 F77
            refine op_p F77 (.string (b ++ (⟨#[36]⟩ : ByteArray))) (by kernel_rfl) rfl rfl rfl (by kernel_rfl) rfl ?_; intro a78 F78
            refine wpList_nil ?_
            refine hK62 _ _ ?_; clear hK62 K62
            refine fw_cut (fun a' w' => ∃ b2 : ByteArray, Fr 79 [] a' [(0, .string s), (1, .slice (A) (xs.length) (c)), (4, .string ⟨#[]⟩), (5, .string b2), (6, .int .i64 (↑j)), (7, .string ((shF (s.extract (j + 1) s.size)).1)), (8, .int .i64 (↑(shF (s.extract (j + 1) s.size)).2)), (10, .int .i64 (↑j)), (11, .string s), (12, .int .i64 (↑s.size)), (13, .bool true), (16, .string s), (17, .int .i64 (↑j)), (18, .int .u8 (↑s[j].toNat)), (19, .bool false), (20, .bool false), (21, .int .i64 (↑j)), (22, .int .i64 (↑(j + 1))), (23, .string s), (24, .int .i64 (↑s.size)), (25, .bool false), (26, .bool false), (34, .tuple #[.string ((shF (s.extract (j + 1) s.size)).1), .int .i64 (↑(shF (s.extract (j + 1) s.size)).2)]), (35, .string s), (36, .int .i64 (↑j)), (37, .int .i64 (↑(j + 1))), (38, .string (s.extract (j + 1) s.size)), (39, .tuple #[.string ((shF (s.extract (j + 1) s.size)).1), .int .i64 (↑(shF (s.extract (j + 1) s.size)).2)]), (40, .string ((shF (s.extract (j + 1) s.size)).1)), (41, .int .i64 (↑(shF (s.extract (j + 1) s.size)).2)), (42, .string ((shF (s.extract (j + 1) s.size)).1)), (43, .bool true), (44, .bool true), (45, .int .i64 (↑(shF (s.extract (j + 1) s.size)).2)), (46, .bool true), (47, .bool true), (48, .string b), (49, .string (b ++ (⟨#[36]⟩ : ByteArray)))] ∧ Sp R w' (L) ∧ (b2 = b ++ pcF xs (vrF s j)) ∧ (j + 1 < s.size) ∧ (s[j].toNat = 36)) ?_ ?_
            · intro K79 hK79
              refine wp_seq_k fun K80 hK80 => ?_
              refine wp_region_lit ?_
              refine op_p F78 (.slice (A) (xs.length) (c)) (by kernel_rfl) rfl rfl rfl (by kernel_rfl) rfl ?_; intro a81 F81
              refine op_p F81 (.int .i64 (↑xs.length)) (by kernel_rfl) rfl rfl rfl (by kernel_rfl) rfl ?_; intro a82 F82
              refine op_r (v := .int .i64 (↑xs.length - 1)) F82 (r_sub (z := (↑xs.length - 1)) rfl (F82.ev (v := .int .i64 (↑xs.length)) (by kernel_rfl)) (F82.ev (v := .int .i64 1) (by kernel_rfl)) (wr64 (by omega) (by omega) (by omega))) rfl rfl rfl ?_; intro a83 F83
              refine op_p F83 (.int .i64 (↑xs.length - 1)) (by kernel_rfl) rfl rfl rfl (by kernel_rfl) rfl ?_; intro a84 F84
              refine wpList_nil ?_
              refine hK80 _ _ ?_; clear hK80 K80
              refine wp_block ?_
              refine fw_loop (fun m a' w' => ∃ q : Nat, q = m ∧ Fr 79 [] a' [(0, .string s), (1, .slice (A) (xs.length) (c)), (4, .string ⟨#[]⟩), (5, .string (b ++ (⟨#[36]⟩ : ByteArray))), (6, .int .i64 (↑j)), (7, .string ((shF (s.extract (j + 1) s.size)).1)), (8, .int .i64 (↑(shF (s.extract (j + 1) s.size)).2)), (9, .int .i64 (↑q - 1)), (10, .int .i64 (↑j)), (11, .string s), (12, .int .i64 (↑s.size)), (13, .bool true), (16, .string s), (17, .int .i64 (↑j)), (18, .int .u8 (↑s[j].toNat)), (19, .bool false), (20, .bool false), (21, .int .i64 (↑j)), (22, .int .i64 (↑(j + 1))), (23, .string s), (24, .int .i64 (↑s.size)), (25, .bool false), (26, .bool false), (34, .tuple #[.string ((shF (s.extract (j + 1) s.size)).1), .int .i64 (↑(shF (s.extract (j + 1) s.size)).2)]), (35, .string s), (36, .int .i64 (↑j)), (37, .int .i64 (↑(j + 1))), (38, .string (s.extract (j + 1) s.size)), (39, .tuple #[.string ((shF (s.extract (j + 1) s.size)).1), .int .i64 (↑(shF (s.extract (j + 1) s.size)).2)]), (40, .string ((shF (s.extract (j + 1) s.size)).1)), (41, .int .i64 (↑(shF (s.extract (j + 1) s.size)).2)), (42, .string ((shF (s.extract (j + 1) s.size)).1)), (43, .bool true), (44, .bool true), (45, .int .i64 (↑(shF (s.extract (j + 1) s.size)).2)), (46, .bool true), (47, .bool true), (48, .string b), (49, .string (b ++ (⟨#[36]⟩ : ByteArray))), (50, .slice (A) (xs.length) (c)), (51, .int .i64 (↑xs.length)), (52, .int .i64 (↑xs.length - 1))] ∧ Sp R w' (L) ∧ (q ≤ xs.length) ∧ (undF xs (shF (s.extract (j + 1) s.size)).1 = undF (xs.take q) (shF (s.extract (j + 1) s.size)).1)) _ ⟨xs.length, rfl, (F84.k 0 (by kernel_rfl) (F84.k 1 (by kernel_rfl) (F84.k 4 (by kernel_rfl) (F84.k 5 (by kernel_rfl) (F84.k 6 (by kernel_rfl) (F84.k 7 (by kernel_rfl) (F84.k 8 (by kernel_rfl) (F84.k 9 (by kernel_rfl) (F84.k 10 (by kernel_rfl) (F84.k 11 (by kernel_rfl) (F84.k 12 (by kernel_rfl) (F84.k 13 (by kernel_rfl) (F84.k 16 (by kernel_rfl) (F84.k 17 (by kernel_rfl) (F84.k 18 (by kernel_rfl) (F84.k 19 (by kernel_rfl) (F84.k 20 (by kernel_rfl) (F84.k 21 (by kernel_rfl) (F84.k 22 (by kernel_rfl) (F84.k 23 (by kernel_rfl) (F84.k 24 (by kernel_rfl) (F84.k 25 (by kernel_rfl) (F84.k 26 (by kernel_rfl) (F84.k 34 (by kernel_rfl) (F84.k 35 (by kernel_rfl) (F84.k 36 (by kernel_rfl) (F84.k 37 (by kernel_rfl) (F84.k 38 (by kernel_rfl) (F84.k 39 (by kernel_rfl) (F84.k 40 (by kernel_rfl) (F84.k 41 (by kernel_rfl) (F84.k 42 (by kernel_rfl) (F84.k 43 (by kernel_rfl) (F84.k 44 (by kernel_rfl) (F84.k 45 (by kernel_rfl) (F84.k 46 (by kernel_rfl) (F84.k 47 (by kernel_rfl) (F84.k 48 (by kernel_rfl) (F84.k 49 (by kernel_rfl) (F84.k 50 (by kernel_rfl) (F84.k 51 (by kernel_rfl) (F84.k 52 (by kernel_rfl) F84.nil)))))))))))))))))))))))))))))))))))))))))), S55, (by first | omega | (with_reducible assumption) | (simp; done)), (by rw [List.take_length])⟩ ?_
              rintro m85 a85 w85 ⟨q, hm85, F85, S85, hq0, hu⟩ K85 hK85
              refine wp_seq_k fun K86 hK86 => ?_
              refine wp_seq_k fun K87 hK87 => ?_
              refine wp_region_lit ?_
              refine op_p F85 (.int .i64 (↑q - 1)) (by kernel_rfl) rfl rfl rfl (by kernel_rfl) rfl ?_; intro a88 F88
              refine op_p F88 (.bool (decide ((0 : Int) ≤ (↑q - 1)))) (by kernel_rfl) rfl rfl rfl (by kernel_rfl) rfl ?_; intro a89 F89
              refine op_p F89 (.bool (decide ((0 : Int) ≤ (↑q - 1)))) (by kernel_rfl) rfl rfl rfl (by kernel_rfl) rfl ?_; intro a90 F90
              rcases btf (decide ((0 : Int) ≤ (↑q - 1))) with hc91 | hc91
              · have hq1 : 1 ≤ q := by have := of_decide_eq_true hc91; omega
                have hq : q - 1 < xs.length := by omega
                obtain ⟨ad92, hA92⟩ := (h0 _ S85).addr (by simp; omega)
                have F93 := F90.sb 54 (by kernel_rfl) hc91
                have F94 := F93.sb 55 (by kernel_rfl) hc91
                refine op_want F94 (by kernel_rfl) rfl ?_
                refine op_p F94 (.string ((shF (s.extract (j + 1) s.size)).1)) (by kernel_rfl) rfl rfl rfl (by kernel_rfl) rfl ?_; intro a95 F95
                refine op_want F95 (by kernel_rfl) rfl ?_
                refine op_p F95 (.bool (!(((shF (s.extract (j + 1) s.size)).1).toList == (⟨#[]⟩ : ByteArray).toList))) (by kernel_rfl) rfl rfl rfl (by kernel_rfl) rfl ?_; intro a96 F96
                have F97 := F96.sb 57 (by kernel_rfl) (show (!(((shF (s.extract (j + 1) s.size)).1).toList == (⟨#[]⟩ : ByteArray).toList)) = false by rw [hc67]; rfl)
                refine op_p F97 (.bool false) (by kernel_rfl) rfl rfl rfl (by kernel_rfl) rfl ?_; intro a98 F98
                refine wpList_nil ?_
                refine hK87 _ _ ?_; clear hK87 K87
                refine wp_cond_false (F98.ev (by kernel_rfl)) ?_
                refine wp_exit ?_
                refine ex_then ?_; clear hK86 K86
                refine ex_then ?_
                refine ex_in ?_
                exact hK79 _ _ ⟨b ++ (⟨#[36]⟩ : ByteArray), (F98.k 0 (by kernel_rfl) (F98.k 1 (by kernel_rfl) (F98.k 4 (by kernel_rfl) (F98.k 5 (by kernel_rfl) (F98.k 6 (by kernel_rfl) (F98.k 7 (by kernel_rfl) (F98.k 8 (by kernel_rfl) (F98.k 10 (by kernel_rfl) (F98.k 11 (by kernel_rfl) (F98.k 12 (by kernel_rfl) (F98.k 13 (by kernel_rfl) (F98.k 16 (by kernel_rfl) (F98.k 17 (by kernel_rfl) (F98.k 18 (by kernel_rfl) (F98.k 19 (by kernel_rfl) (F98.k 20 (by kernel_rfl) (F98.k 21 (by kernel_rfl) (F98.k 22 (by kernel_rfl) (F98.k 23 (by kernel_rfl) (F98.k 24 (by kernel_rfl) (F98.k 25 (by kernel_rfl) (F98.k 26 (by kernel_rfl) (F98.k 34 (by kernel_rfl) (F98.k 35 (by kernel_rfl) (F98.k 36 (by kernel_rfl) (F98.k 37 (by kernel_rfl) (F98.k 38 (by kernel_rfl) (F98.k 39 (by kernel_rfl) (F98.k 40 (by kernel_rfl) (F98.k 41 (by kernel_rfl) (F98.k 42 (by kernel_rfl) (F98.k 43 (by kernel_rfl) (F98.k 44 (by kernel_rfl) (F98.k 45 (by kernel_rfl) (F98.k 46 (by kernel_rfl) (F98.k 47 (by kernel_rfl) (F98.k 48 (by kernel_rfl) (F98.k 49 (by kernel_rfl) F98.nil)))))))))))))))))))))))))))))))))))))), S85, (by rw [show vrF s j = shF (s.extract (j + 1) s.size) from rfl, (pc_dol (p := shF (s.extract (j + 1) s.size)) hc67 (by omega))]), (by first | omega | (with_reducible assumption) | (simp; done)), (by first | omega | (with_reducible assumption) | (simp; done))⟩
              · have hc91p := of_decide_eq_false hc91
                have F99 := F90.sb 54 (by kernel_rfl) hc91
                have F100 := F99.sb 55 (by kernel_rfl) hc91
                refine op_skip F100 (by kernel_rfl) rfl rfl rfl ?_; intro a101 F101
                refine op_skip F101 (by kernel_rfl) rfl rfl rfl ?_; intro a102 F102
                refine op_p F102 (.bool false) (by kernel_rfl) rfl rfl rfl (by kernel_rfl) rfl ?_; intro a103 F103
                refine wpList_nil ?_
                refine hK87 _ _ ?_; clear hK87 K87
                refine wp_cond_false (F103.ev (by kernel_rfl)) ?_
                refine wp_exit ?_
                refine ex_then ?_; clear hK86 K86
                refine ex_then ?_
                refine ex_in ?_
                exact hK79 _ _ ⟨b ++ (⟨#[36]⟩ : ByteArray), (F103.k 0 (by kernel_rfl) (F103.k 1 (by kernel_rfl) (F103.k 4 (by kernel_rfl) (F103.k 5 (by kernel_rfl) (F103.k 6 (by kernel_rfl) (F103.k 7 (by kernel_rfl) (F103.k 8 (by kernel_rfl) (F103.k 10 (by kernel_rfl) (F103.k 11 (by kernel_rfl) (F103.k 12 (by kernel_rfl) (F103.k 13 (by kernel_rfl) (F103.k 16 (by kernel_rfl) (F103.k 17 (by kernel_rfl) (F103.k 18 (by kernel_rfl) (F103.k 19 (by kernel_rfl) (F103.k 20 (by kernel_rfl) (F103.k 21 (by kernel_rfl) (F103.k 22 (by kernel_rfl) (F103.k 23 (by kernel_rfl) (F103.k 24 (by kernel_rfl) (F103.k 25 (by kernel_rfl) (F103.k 26 (by kernel_rfl) (F103.k 34 (by kernel_rfl) (F103.k 35 (by kernel_rfl) (F103.k 36 (by kernel_rfl) (F103.k 37 (by kernel_rfl) (F103.k 38 (by kernel_rfl) (F103.k 39 (by kernel_rfl) (F103.k 40 (by kernel_rfl) (F103.k 41 (by kernel_rfl) (F103.k 42 (by kernel_rfl) (F103.k 43 (by kernel_rfl) (F103.k 44 (by kernel_rfl) (F103.k 45 (by kernel_rfl) (F103.k 46 (by kernel_rfl) (F103.k 47 (by kernel_rfl) (F103.k 48 (by kernel_rfl) (F103.k 49 (by kernel_rfl) F103.nil)))))))))))))))))))))))))))))))))))))), S85, (by rw [show vrF s j = shF (s.extract (j + 1) s.size) from rfl, (pc_dol (p := shF (s.extract (j + 1) s.size)) hc67 (by omega))]), (by first | omega | (with_reducible assumption) | (simp; done)), (by first | omega | (with_reducible assumption) | (simp; done))⟩
            · rintro a104 w104 ⟨b2, F104, S104, hb2, hj1, e36⟩
              refine wp_region_lit ?_
              refine op_p F104 (.int .i64 (↑j)) (by kernel_rfl) rfl rfl rfl (by kernel_rfl) rfl ?_; intro a105 F105
              refine op_p F105 (.int .i64 (↑(shF (s.extract (j + 1) s.size)).2)) (by kernel_rfl) rfl rfl rfl (by kernel_rfl) rfl ?_; intro a106 F106
              refine op_r (v := .int .i64 (↑j + ↑(shF (s.extract (j + 1) s.size)).2)) F106 (r_add (z := (↑j + ↑(shF (s.extract (j + 1) s.size)).2)) rfl (F106.ev (v := .int .i64 (↑j)) (by kernel_rfl)) (F106.ev (v := .int .i64 (↑(shF (s.extract (j + 1) s.size)).2)) (by kernel_rfl)) (wr64 (by omega) (by omega) (by omega))) rfl rfl rfl ?_; intro a107 F107
              refine op_p F107 (.int .i64 (↑j + ↑(shF (s.extract (j + 1) s.size)).2)) (by kernel_rfl) rfl rfl rfl (by kernel_rfl) rfl ?_; intro a108 F108
              refine wpList_nil ?_
              refine hK16 _ _ ?_; clear hK16 K16
              refine wp_region_lit ?_
              refine op_p F108 (.int .i64 (↑j + ↑(shF (s.extract (j + 1) s.size)).2)) (by kernel_rfl) rfl rfl rfl (by kernel_rfl) rfl ?_; intro a109 F109
              refine op_r (v := .int .i64 ((↑j + ↑(shF (s.extract (j + 1) s.size)).2) + 1)) F109 (r_add (z := ((↑j + ↑(shF (s.extract (j + 1) s.size)).2) + 1)) rfl (F109.ev (v := .int .i64 (↑j + ↑(shF (s.extract (j + 1) s.size)).2)) (by kernel_rfl)) (F109.ev (v := .int .i64 1) (by kernel_rfl)) (wr64 (by omega) (by omega) (by omega))) rfl rfl rfl ?_; intro a110 F110
              refine op_p F110 (.int .i64 ((↑j + ↑(shF (s.extract (j + 1) s.size)).2) + 1)) (by kernel_rfl) rfl rfl rfl (by kernel_rfl) rfl ?_; intro a111 F111
              refine wpList_nil ?_
              exact hK8 _ _ _ (by first | omega | (simp; omega)) ⟨b2, _, rfl, (F111.k 0 (by kernel_rfl) (F111.k 1 (by kernel_rfl) (F111.k 4 (by kernel_rfl) (F111.k 5 (by kernel_rfl) (F111.k 6 (by kernel_rfl) F111.nil))))), S104, (by first | omega | (with_reducible assumption) | (simp; done)), (exd_var (n := (shF (s.extract (j + 1) s.size)).2) hj1 e36 rfl he hb2), (by have := pcF_size (xs := xs) (n := 2147483647) (by omega) hM (vrF s j); rw [hb2, ByteArray.size_append]; omega)⟩
          · have hc73p := ne_of_beq_false hc73
            have F112 := F72.sb 46 (by kernel_rfl) hc73
            have F113 := F112.sb 47 (by kernel_rfl) hc73
            refine wp_cond_false (F113.ev (by kernel_rfl)) ?_
            refine wp_skip ?_
            refine hK62 _ _ ?_; clear hK62 K62
            refine fw_cut (fun a' w' => ∃ b2 : ByteArray, Fr 79 [] a' [(0, .string s), (1, .slice (A) (xs.length) (c)), (4, .string ⟨#[]⟩), (5, .string b2), (6, .int .i64 (↑j)), (7, .string ((shF (s.extract (j + 1) s.size)).1)), (8, .int .i64 (↑(shF (s.extract (j + 1) s.size)).2)), (10, .int .i64 (↑j)), (11, .string s), (12, .int .i64 (↑s.size)), (13, .bool true), (16, .string s), (17, .int .i64 (↑j)), (18, .int .u8 (↑s[j].toNat)), (19, .bool false), (20, .bool false), (21, .int .i64 (↑j)), (22, .int .i64 (↑(j + 1))), (23, .string s), (24, .int .i64 (↑s.size)), (25, .bool false), (26, .bool false), (34, .tuple #[.string ((shF (s.extract (j + 1) s.size)).1), .int .i64 (↑(shF (s.extract (j + 1) s.size)).2)]), (35, .string s), (36, .int .i64 (↑j)), (37, .int .i64 (↑(j + 1))), (38, .string (s.extract (j + 1) s.size)), (39, .tuple #[.string ((shF (s.extract (j + 1) s.size)).1), .int .i64 (↑(shF (s.extract (j + 1) s.size)).2)]), (40, .string ((shF (s.extract (j + 1) s.size)).1)), (41, .int .i64 (↑(shF (s.extract (j + 1) s.size)).2)), (42, .string ((shF (s.extract (j + 1) s.size)).1)), (43, .bool true), (44, .bool true), (45, .int .i64 (↑(shF (s.extract (j + 1) s.size)).2)), (46, .bool false), (47, .bool false)] ∧ Sp R w' (L) ∧ (b2 = b ++ pcF xs (vrF s j)) ∧ (j + 1 < s.size) ∧ (s[j].toNat = 36)) ?_ ?_
            · intro K114 hK114
              refine wp_seq_k fun K115 hK115 => ?_
              refine wp_region_lit ?_
              refine op_p F113 (.slice (A) (xs.length) (c)) (by kernel_rfl) rfl rfl rfl (by kernel_rfl) rfl ?_; intro a116 F116
              refine op_p F116 (.int .i64 (↑xs.length)) (by kernel_rfl) rfl rfl rfl (by kernel_rfl) rfl ?_; intro a117 F117
              refine op_r (v := .int .i64 (↑xs.length - 1)) F117 (r_sub (z := (↑xs.length - 1)) rfl (F117.ev (v := .int .i64 (↑xs.length)) (by kernel_rfl)) (F117.ev (v := .int .i64 1) (by kernel_rfl)) (wr64 (by omega) (by omega) (by omega))) rfl rfl rfl ?_; intro a118 F118
              refine op_p F118 (.int .i64 (↑xs.length - 1)) (by kernel_rfl) rfl rfl rfl (by kernel_rfl) rfl ?_; intro a119 F119
              refine wpList_nil ?_
              refine hK115 _ _ ?_; clear hK115 K115
              refine wp_block ?_
              refine fw_loop (fun m a' w' => ∃ q : Nat, q = m ∧ Fr 79 [] a' [(0, .string s), (1, .slice (A) (xs.length) (c)), (4, .string ⟨#[]⟩), (5, .string b), (6, .int .i64 (↑j)), (7, .string ((shF (s.extract (j + 1) s.size)).1)), (8, .int .i64 (↑(shF (s.extract (j + 1) s.size)).2)), (9, .int .i64 (↑q - 1)), (10, .int .i64 (↑j)), (11, .string s), (12, .int .i64 (↑s.size)), (13, .bool true), (16, .string s), (17, .int .i64 (↑j)), (18, .int .u8 (↑s[j].toNat)), (19, .bool false), (20, .bool false), (21, .int .i64 (↑j)), (22, .int .i64 (↑(j + 1))), (23, .string s), (24, .int .i64 (↑s.size)), (25, .bool false), (26, .bool false), (34, .tuple #[.string ((shF (s.extract (j + 1) s.size)).1), .int .i64 (↑(shF (s.extract (j + 1) s.size)).2)]), (35, .string s), (36, .int .i64 (↑j)), (37, .int .i64 (↑(j + 1))), (38, .string (s.extract (j + 1) s.size)), (39, .tuple #[.string ((shF (s.extract (j + 1) s.size)).1), .int .i64 (↑(shF (s.extract (j + 1) s.size)).2)]), (40, .string ((shF (s.extract (j + 1) s.size)).1)), (41, .int .i64 (↑(shF (s.extract (j + 1) s.size)).2)), (42, .string ((shF (s.extract (j + 1) s.size)).1)), (43, .bool true), (44, .bool true), (45, .int .i64 (↑(shF (s.extract (j + 1) s.size)).2)), (46, .bool false), (47, .bool false), (50, .slice (A) (xs.length) (c)), (51, .int .i64 (↑xs.length)), (52, .int .i64 (↑xs.length - 1))] ∧ Sp R w' (L) ∧ (q ≤ xs.length) ∧ (undF xs (shF (s.extract (j + 1) s.size)).1 = undF (xs.take q) (shF (s.extract (j + 1) s.size)).1)) _ ⟨xs.length, rfl, (F119.k 0 (by kernel_rfl) (F119.k 1 (by kernel_rfl) (F119.k 4 (by kernel_rfl) (F119.k 5 (by kernel_rfl) (F119.k 6 (by kernel_rfl) (F119.k 7 (by kernel_rfl) (F119.k 8 (by kernel_rfl) (F119.k 9 (by kernel_rfl) (F119.k 10 (by kernel_rfl) (F119.k 11 (by kernel_rfl) (F119.k 12 (by kernel_rfl) (F119.k 13 (by kernel_rfl) (F119.k 16 (by kernel_rfl) (F119.k 17 (by kernel_rfl) (F119.k 18 (by kernel_rfl) (F119.k 19 (by kernel_rfl) (F119.k 20 (by kernel_rfl) (F119.k 21 (by kernel_rfl) (F119.k 22 (by kernel_rfl) (F119.k 23 (by kernel_rfl) (F119.k 24 (by kernel_rfl) (F119.k 25 (by kernel_rfl) (F119.k 26 (by kernel_rfl) (F119.k 34 (by kernel_rfl) (F119.k 35 (by kernel_rfl) (F119.k 36 (by kernel_rfl) (F119.k 37 (by kernel_rfl) (F119.k 38 (by kernel_rfl) (F119.k 39 (by kernel_rfl) (F119.k 40 (by kernel_rfl) (F119.k 41 (by kernel_rfl) (F119.k 42 (by kernel_rfl) (F119.k 43 (by kernel_rfl) (F119.k 44 (by kernel_rfl) (F119.k 45 (by kernel_rfl) (F119.k 46 (by kernel_rfl) (F119.k 47 (by kernel_rfl) (F119.k 50 (by kernel_rfl) (F119.k 51 (by kernel_rfl) (F119.k 52 (by kernel_rfl) F119.nil)))))))))))))))))))))))))))))))))))))))), S55, (by first | omega | (with_reducible assumption) | (simp; done)), (by rw [List.take_length])⟩ ?_
              rintro m120 a120 w120 ⟨q, hm120, F120, S120, hq0, hu⟩ K120 hK120
              refine wp_seq_k fun K121 hK121 => ?_
              refine wp_seq_k fun K122 hK122 => ?_
              refine wp_region_lit ?_
              refine op_p F120 (.int .i64 (↑q - 1)) (by kernel_rfl) rfl rfl rfl (by kernel_rfl) rfl ?_; intro a123 F123
              refine op_p F123 (.bool (decide ((0 : Int) ≤ (↑q - 1)))) (by kernel_rfl) rfl rfl rfl (by kernel_rfl) rfl ?_; intro a124 F124
              refine op_p F124 (.bool (decide ((0 : Int) ≤ (↑q - 1)))) (by kernel_rfl) rfl rfl rfl (by kernel_rfl) rfl ?_; intro a125 F125
              rcases btf (decide ((0 : Int) ≤ (↑q - 1))) with hc126 | hc126
              · have hq1 : 1 ≤ q := by have := of_decide_eq_true hc126; omega
                have hq : q - 1 < xs.length := by omega
                obtain ⟨ad127, hA127⟩ := (h0 _ S120).addr (by simp; omega)
                have F128 := F125.sb 54 (by kernel_rfl) hc126
                have F129 := F128.sb 55 (by kernel_rfl) hc126
                refine op_want F129 (by kernel_rfl) rfl ?_
                refine op_p F129 (.string ((shF (s.extract (j + 1) s.size)).1)) (by kernel_rfl) rfl rfl rfl (by kernel_rfl) rfl ?_; intro a130 F130
                refine op_want F130 (by kernel_rfl) rfl ?_
                refine op_p F130 (.bool (!(((shF (s.extract (j + 1) s.size)).1).toList == (⟨#[]⟩ : ByteArray).toList))) (by kernel_rfl) rfl rfl rfl (by kernel_rfl) rfl ?_; intro a131 F131
                have F132 := F131.sb 57 (by kernel_rfl) (show (!(((shF (s.extract (j + 1) s.size)).1).toList == (⟨#[]⟩ : ByteArray).toList)) = false by rw [hc67]; rfl)
                refine op_p F132 (.bool false) (by kernel_rfl) rfl rfl rfl (by kernel_rfl) rfl ?_; intro a133 F133
                refine wpList_nil ?_
                refine hK122 _ _ ?_; clear hK122 K122
                refine wp_cond_false (F133.ev (by kernel_rfl)) ?_
                refine wp_exit ?_
                refine ex_then ?_; clear hK121 K121
                refine ex_then ?_
                refine ex_in ?_
                exact hK114 _ _ ⟨b, (F133.k 0 (by kernel_rfl) (F133.k 1 (by kernel_rfl) (F133.k 4 (by kernel_rfl) (F133.k 5 (by kernel_rfl) (F133.k 6 (by kernel_rfl) (F133.k 7 (by kernel_rfl) (F133.k 8 (by kernel_rfl) (F133.k 10 (by kernel_rfl) (F133.k 11 (by kernel_rfl) (F133.k 12 (by kernel_rfl) (F133.k 13 (by kernel_rfl) (F133.k 16 (by kernel_rfl) (F133.k 17 (by kernel_rfl) (F133.k 18 (by kernel_rfl) (F133.k 19 (by kernel_rfl) (F133.k 20 (by kernel_rfl) (F133.k 21 (by kernel_rfl) (F133.k 22 (by kernel_rfl) (F133.k 23 (by kernel_rfl) (F133.k 24 (by kernel_rfl) (F133.k 25 (by kernel_rfl) (F133.k 26 (by kernel_rfl) (F133.k 34 (by kernel_rfl) (F133.k 35 (by kernel_rfl) (F133.k 36 (by kernel_rfl) (F133.k 37 (by kernel_rfl) (F133.k 38 (by kernel_rfl) (F133.k 39 (by kernel_rfl) (F133.k 40 (by kernel_rfl) (F133.k 41 (by kernel_rfl) (F133.k 42 (by kernel_rfl) (F133.k 43 (by kernel_rfl) (F133.k 44 (by kernel_rfl) (F133.k 45 (by kernel_rfl) (F133.k 46 (by kernel_rfl) (F133.k 47 (by kernel_rfl) F133.nil)))))))))))))))))))))))))))))))))))), S120, (by rw [show vrF s j = shF (s.extract (j + 1) s.size) from rfl, (pc_emp (p := shF (s.extract (j + 1) s.size)) hc67 (by omega))]; exact (app_emp _).symm), (by first | omega | (with_reducible assumption) | (simp; done)), (by first | omega | (with_reducible assumption) | (simp; done))⟩
              · have hc126p := of_decide_eq_false hc126
                have F134 := F125.sb 54 (by kernel_rfl) hc126
                have F135 := F134.sb 55 (by kernel_rfl) hc126
                refine op_skip F135 (by kernel_rfl) rfl rfl rfl ?_; intro a136 F136
                refine op_skip F136 (by kernel_rfl) rfl rfl rfl ?_; intro a137 F137
                refine op_p F137 (.bool false) (by kernel_rfl) rfl rfl rfl (by kernel_rfl) rfl ?_; intro a138 F138
                refine wpList_nil ?_
                refine hK122 _ _ ?_; clear hK122 K122
                refine wp_cond_false (F138.ev (by kernel_rfl)) ?_
                refine wp_exit ?_
                refine ex_then ?_; clear hK121 K121
                refine ex_then ?_
                refine ex_in ?_
                exact hK114 _ _ ⟨b, (F138.k 0 (by kernel_rfl) (F138.k 1 (by kernel_rfl) (F138.k 4 (by kernel_rfl) (F138.k 5 (by kernel_rfl) (F138.k 6 (by kernel_rfl) (F138.k 7 (by kernel_rfl) (F138.k 8 (by kernel_rfl) (F138.k 10 (by kernel_rfl) (F138.k 11 (by kernel_rfl) (F138.k 12 (by kernel_rfl) (F138.k 13 (by kernel_rfl) (F138.k 16 (by kernel_rfl) (F138.k 17 (by kernel_rfl) (F138.k 18 (by kernel_rfl) (F138.k 19 (by kernel_rfl) (F138.k 20 (by kernel_rfl) (F138.k 21 (by kernel_rfl) (F138.k 22 (by kernel_rfl) (F138.k 23 (by kernel_rfl) (F138.k 24 (by kernel_rfl) (F138.k 25 (by kernel_rfl) (F138.k 26 (by kernel_rfl) (F138.k 34 (by kernel_rfl) (F138.k 35 (by kernel_rfl) (F138.k 36 (by kernel_rfl) (F138.k 37 (by kernel_rfl) (F138.k 38 (by kernel_rfl) (F138.k 39 (by kernel_rfl) (F138.k 40 (by kernel_rfl) (F138.k 41 (by kernel_rfl) (F138.k 42 (by kernel_rfl) (F138.k 43 (by kernel_rfl) (F138.k 44 (by kernel_rfl) (F138.k 45 (by kernel_rfl) (F138.k 46 (by kernel_rfl) (F138.k 47 (by kernel_rfl) F138.nil)))))))))))))))))))))))))))))))))))), S120, (by rw [show vrF s j = shF (s.extract (j + 1) s.size) from rfl, (pc_emp (p := shF (s.extract (j + 1) s.size)) hc67 (by omega))]; exact (app_emp _).symm), (by first | omega | (with_reducible assumption) | (simp; done)), (by first | omega | (with_reducible assumption) | (simp; done))⟩
            · rintro a139 w139 ⟨b2, F139, S139, hb2, hj1, e36⟩
              refine wp_region_lit ?_
              refine op_p F139 (.int .i64 (↑j)) (by kernel_rfl) rfl rfl rfl (by kernel_rfl) rfl ?_; intro a140 F140
              refine op_p F140 (.int .i64 (↑(shF (s.extract (j + 1) s.size)).2)) (by kernel_rfl) rfl rfl rfl (by kernel_rfl) rfl ?_; intro a141 F141
              refine op_r (v := .int .i64 (↑j + ↑(shF (s.extract (j + 1) s.size)).2)) F141 (r_add (z := (↑j + ↑(shF (s.extract (j + 1) s.size)).2)) rfl (F141.ev (v := .int .i64 (↑j)) (by kernel_rfl)) (F141.ev (v := .int .i64 (↑(shF (s.extract (j + 1) s.size)).2)) (by kernel_rfl)) (wr64 (by omega) (by omega) (by omega))) rfl rfl rfl ?_; intro a142 F142
              refine op_p F142 (.int .i64 (↑j + ↑(shF (s.extract (j + 1) s.size)).2)) (by kernel_rfl) rfl rfl rfl (by kernel_rfl) rfl ?_; intro a143 F143
              refine wpList_nil ?_
              refine hK16 _ _ ?_; clear hK16 K16
              refine wp_region_lit ?_
              refine op_p F143 (.int .i64 (↑j + ↑(shF (s.extract (j + 1) s.size)).2)) (by kernel_rfl) rfl rfl rfl (by kernel_rfl) rfl ?_; intro a144 F144
              refine op_r (v := .int .i64 ((↑j + ↑(shF (s.extract (j + 1) s.size)).2) + 1)) F144 (r_add (z := ((↑j + ↑(shF (s.extract (j + 1) s.size)).2) + 1)) rfl (F144.ev (v := .int .i64 (↑j + ↑(shF (s.extract (j + 1) s.size)).2)) (by kernel_rfl)) (F144.ev (v := .int .i64 1) (by kernel_rfl)) (wr64 (by omega) (by omega) (by omega))) rfl rfl rfl ?_; intro a145 F145
              refine op_p F145 (.int .i64 ((↑j + ↑(shF (s.extract (j + 1) s.size)).2) + 1)) (by kernel_rfl) rfl rfl rfl (by kernel_rfl) rfl ?_; intro a146 F146
              refine wpList_nil ?_
              exact hK8 _ _ _ (by first | omega | (simp; omega)) ⟨b2, _, rfl, (F146.k 0 (by kernel_rfl) (F146.k 1 (by kernel_rfl) (F146.k 4 (by kernel_rfl) (F146.k 5 (by kernel_rfl) (F146.k 6 (by kernel_rfl) F146.nil))))), S139, (by first | omega | (with_reducible assumption) | (simp; done)), (exd_var (n := (shF (s.extract (j + 1) s.size)).2) hj1 e36 rfl he hb2), (by have := pcF_size (xs := xs) (n := 2147483647) (by omega) hM (vrF s j); rw [hb2, ByteArray.size_append]; omega)⟩
        · have F147 := F66.sb 43 (by kernel_rfl) hc67
          have F148 := F147.sb 44 (by kernel_rfl) hc67
          refine op_skip F148 (by kernel_rfl) rfl rfl rfl ?_; intro a149 F149
          refine op_skip F149 (by kernel_rfl) rfl rfl rfl ?_; intro a150 F150
          refine op_p F150 (.bool false) (by kernel_rfl) rfl rfl rfl (by kernel_rfl) rfl ?_; intro a151 F151
          refine wpList_nil ?_
          refine hK63 _ _ ?_; clear hK63 K63
          refine wp_cond_false (F151.ev (by kernel_rfl)) ?_
          refine wp_skip ?_
          refine hK62 _ _ ?_; clear hK62 K62
          refine fw_cut (fun a' w' => ∃ b2 : ByteArray, Fr 79 [] a' [(0, .string s), (1, .slice (A) (xs.length) (c)), (4, .string ⟨#[]⟩), (5, .string b2), (6, .int .i64 (↑j)), (7, .string ((shF (s.extract (j + 1) s.size)).1)), (8, .int .i64 (↑(shF (s.extract (j + 1) s.size)).2)), (10, .int .i64 (↑j)), (11, .string s), (12, .int .i64 (↑s.size)), (13, .bool true), (16, .string s), (17, .int .i64 (↑j)), (18, .int .u8 (↑s[j].toNat)), (19, .bool false), (20, .bool false), (21, .int .i64 (↑j)), (22, .int .i64 (↑(j + 1))), (23, .string s), (24, .int .i64 (↑s.size)), (25, .bool false), (26, .bool false), (34, .tuple #[.string ((shF (s.extract (j + 1) s.size)).1), .int .i64 (↑(shF (s.extract (j + 1) s.size)).2)]), (35, .string s), (36, .int .i64 (↑j)), (37, .int .i64 (↑(j + 1))), (38, .string (s.extract (j + 1) s.size)), (39, .tuple #[.string ((shF (s.extract (j + 1) s.size)).1), .int .i64 (↑(shF (s.extract (j + 1) s.size)).2)]), (40, .string ((shF (s.extract (j + 1) s.size)).1)), (41, .int .i64 (↑(shF (s.extract (j + 1) s.size)).2)), (42, .string ((shF (s.extract (j + 1) s.size)).1)), (43, .bool false), (44, .bool false), (47, .bool false)] ∧ Sp R w' (L) ∧ (b2 = b ++ pcF xs (vrF s j)) ∧ (j + 1 < s.size) ∧ (s[j].toNat = 36)) ?_ ?_
          · intro K152 hK152
            refine wp_seq_k fun K153 hK153 => ?_
            refine wp_region_lit ?_
            refine op_p F151 (.slice (A) (xs.length) (c)) (by kernel_rfl) rfl rfl rfl (by kernel_rfl) rfl ?_; intro a154 F154
            refine op_p F154 (.int .i64 (↑xs.length)) (by kernel_rfl) rfl rfl rfl (by kernel_rfl) rfl ?_; intro a155 F155
            refine op_r (v := .int .i64 (↑xs.length - 1)) F155 (r_sub (z := (↑xs.length - 1)) rfl (F155.ev (v := .int .i64 (↑xs.length)) (by kernel_rfl)) (F155.ev (v := .int .i64 1) (by kernel_rfl)) (wr64 (by omega) (by omega) (by omega))) rfl rfl rfl ?_; intro a156 F156
            refine op_p F156 (.int .i64 (↑xs.length - 1)) (by kernel_rfl) rfl rfl rfl (by kernel_rfl) rfl ?_; intro a157 F157
            refine wpList_nil ?_
            refine hK153 _ _ ?_; clear hK153 K153
            refine wp_block ?_
            refine fw_loop (fun m a' w' => ∃ q : Nat, q = m ∧ Fr 79 [] a' [(0, .string s), (1, .slice (A) (xs.length) (c)), (4, .string ⟨#[]⟩), (5, .string b), (6, .int .i64 (↑j)), (7, .string ((shF (s.extract (j + 1) s.size)).1)), (8, .int .i64 (↑(shF (s.extract (j + 1) s.size)).2)), (9, .int .i64 (↑q - 1)), (10, .int .i64 (↑j)), (11, .string s), (12, .int .i64 (↑s.size)), (13, .bool true), (16, .string s), (17, .int .i64 (↑j)), (18, .int .u8 (↑s[j].toNat)), (19, .bool false), (20, .bool false), (21, .int .i64 (↑j)), (22, .int .i64 (↑(j + 1))), (23, .string s), (24, .int .i64 (↑s.size)), (25, .bool false), (26, .bool false), (34, .tuple #[.string ((shF (s.extract (j + 1) s.size)).1), .int .i64 (↑(shF (s.extract (j + 1) s.size)).2)]), (35, .string s), (36, .int .i64 (↑j)), (37, .int .i64 (↑(j + 1))), (38, .string (s.extract (j + 1) s.size)), (39, .tuple #[.string ((shF (s.extract (j + 1) s.size)).1), .int .i64 (↑(shF (s.extract (j + 1) s.size)).2)]), (40, .string ((shF (s.extract (j + 1) s.size)).1)), (41, .int .i64 (↑(shF (s.extract (j + 1) s.size)).2)), (42, .string ((shF (s.extract (j + 1) s.size)).1)), (43, .bool false), (44, .bool false), (47, .bool false), (50, .slice (A) (xs.length) (c)), (51, .int .i64 (↑xs.length)), (52, .int .i64 (↑xs.length - 1))] ∧ Sp R w' (L) ∧ (q ≤ xs.length) ∧ (undF xs (shF (s.extract (j + 1) s.size)).1 = undF (xs.take q) (shF (s.extract (j + 1) s.size)).1)) _ ⟨xs.length, rfl, (F157.k 0 (by kernel_rfl) (F157.k 1 (by kernel_rfl) (F157.k 4 (by kernel_rfl) (F157.k 5 (by kernel_rfl) (F157.k 6 (by kernel_rfl) (F157.k 7 (by kernel_rfl) (F157.k 8 (by kernel_rfl) (F157.k 9 (by kernel_rfl) (F157.k 10 (by kernel_rfl) (F157.k 11 (by kernel_rfl) (F157.k 12 (by kernel_rfl) (F157.k 13 (by kernel_rfl) (F157.k 16 (by kernel_rfl) (F157.k 17 (by kernel_rfl) (F157.k 18 (by kernel_rfl) (F157.k 19 (by kernel_rfl) (F157.k 20 (by kernel_rfl) (F157.k 21 (by kernel_rfl) (F157.k 22 (by kernel_rfl) (F157.k 23 (by kernel_rfl) (F157.k 24 (by kernel_rfl) (F157.k 25 (by kernel_rfl) (F157.k 26 (by kernel_rfl) (F157.k 34 (by kernel_rfl) (F157.k 35 (by kernel_rfl) (F157.k 36 (by kernel_rfl) (F157.k 37 (by kernel_rfl) (F157.k 38 (by kernel_rfl) (F157.k 39 (by kernel_rfl) (F157.k 40 (by kernel_rfl) (F157.k 41 (by kernel_rfl) (F157.k 42 (by kernel_rfl) (F157.k 43 (by kernel_rfl) (F157.k 44 (by kernel_rfl) (F157.k 47 (by kernel_rfl) (F157.k 50 (by kernel_rfl) (F157.k 51 (by kernel_rfl) (F157.k 52 (by kernel_rfl) F157.nil)))))))))))))))))))))))))))))))))))))), S55, (by first | omega | (with_reducible assumption) | (simp; done)), (by rw [List.take_length])⟩ ?_
            rintro m158 a158 w158 ⟨q, hm158, F158, S158, hq0, hu⟩ K158 hK158
            refine wp_seq_k fun K159 hK159 => ?_
            refine wp_seq_k fun K160 hK160 => ?_
            refine wp_region_lit ?_
            refine op_p F158 (.int .i64 (↑q - 1)) (by kernel_rfl) rfl rfl rfl (by kernel_rfl) rfl ?_; intro a161 F161
            refine op_p F161 (.bool (decide ((0 : Int) ≤ (↑q - 1)))) (by kernel_rfl) rfl rfl rfl (by kernel_rfl) rfl ?_; intro a162 F162
            refine op_p F162 (.bool (decide ((0 : Int) ≤ (↑q - 1)))) (by kernel_rfl) rfl rfl rfl (by kernel_rfl) rfl ?_; intro a163 F163
            rcases btf (decide ((0 : Int) ≤ (↑q - 1))) with hc164 | hc164
            · have hq1 : 1 ≤ q := by have := of_decide_eq_true hc164; omega
              have hq : q - 1 < xs.length := by omega
              obtain ⟨ad165, hA165⟩ := (h0 _ S158).addr (by simp; omega)
              have F166 := F163.sb 54 (by kernel_rfl) hc164
              have F167 := F166.sb 55 (by kernel_rfl) hc164
              refine op_want F167 (by kernel_rfl) rfl ?_
              refine op_p F167 (.string ((shF (s.extract (j + 1) s.size)).1)) (by kernel_rfl) rfl rfl rfl (by kernel_rfl) rfl ?_; intro a168 F168
              refine op_want F168 (by kernel_rfl) rfl ?_
              refine op_p F168 (.bool (!(((shF (s.extract (j + 1) s.size)).1).toList == (⟨#[]⟩ : ByteArray).toList))) (by kernel_rfl) rfl rfl rfl (by kernel_rfl) rfl ?_; intro a169 F169
              have F170 := F169.sb 57 (by kernel_rfl) (show (!(((shF (s.extract (j + 1) s.size)).1).toList == (⟨#[]⟩ : ByteArray).toList)) = true by rw [hc67]; rfl)
              refine op_p F170 (.bool true) (by kernel_rfl) rfl rfl rfl (by kernel_rfl) rfl ?_; intro a171 F171
              refine wpList_nil ?_
              refine hK160 _ _ ?_; clear hK160 K160
              refine wp_cond_true (F171.ev (by kernel_rfl)) ?_
              refine wp_skip ?_
              refine hK159 _ _ ?_; clear hK159 K159
              refine wp_seq_k fun K172 hK172 => ?_
              refine wp_block ?_
              refine wp_seq_k fun K173 hK173 => ?_
              refine wp_region_lit ?_
              refine op_p F171 (.slice (A) (xs.length) (c)) (by kernel_rfl) rfl rfl rfl (by kernel_rfl) rfl ?_; intro a174 F174
              refine op_p F174 (.int .i64 (↑q - 1)) (by kernel_rfl) rfl rfl rfl (by kernel_rfl) rfl ?_; intro a175 F175
              refine op_r (v := .pointer (some (ad165.add ((q - 1) * 2)))) F175 (r_ix rfl Try.underlying40 2 (by kernel_rfl) (F175.ev (v := .slice (A) (xs.length) (c)) (by kernel_rfl)) hA165 (F175.ev (v := .int .i64 (↑q - 1)) (by kernel_rfl)) (q - 1) (by first | rfl | omega | simp) (by first | omega | (simp; done) | (simp; omega)) (rfl)) rfl rfl rfl ?_; intro a176 F176
              refine op_p F176 (.pointer (some (ad165.add ((q - 1) * 2)))) (by kernel_rfl) rfl rfl rfl (by kernel_rfl) rfl ?_; intro a177 F177
              refine op_r (v := .string (xs[q - 1].fKey)) F177 (r_ld rfl (F177.ev (v := .pointer (some (ad165.add ((q - 1) * 2)))) (by kernel_rfl)) (v := .string (xs[q - 1].fKey)) (cell0 ((h0 _ S158).elA hA165 (j := q - 1) (row := xs[q - 1].cells) (by rw [List.getElem?_map, List.getElem?_eq_getElem hq]; rfl)) rfl) Try.underlying9 rfl) rfl rfl rfl ?_; intro a178 F178
              refine op_p F178 (.string ((shF (s.extract (j + 1) s.size)).1)) (by kernel_rfl) rfl rfl rfl (by kernel_rfl) rfl ?_; intro a179 F179
              refine op_p F179 (.bool ((xs[q - 1].fKey).toList == ((shF (s.extract (j + 1) s.size)).1).toList)) (by kernel_rfl) rfl rfl rfl (by kernel_rfl) rfl ?_; intro a180 F180
              refine wpList_nil ?_
              refine hK173 _ _ ?_; clear hK173 K173
              rcases btf ((xs[q - 1].fKey).toList == ((shF (s.extract (j + 1) s.size)).1).toList) with hc181 | hc181
              · have F182 := F180.sb 67 (by kernel_rfl) hc181
                refine wp_cond_true (F182.ev (by kernel_rfl)) ?_
                refine wp_seq_k fun K183 hK183 => ?_
                refine wp_region_lit ?_
                refine op_p F182 (.string b) (by kernel_rfl) rfl rfl rfl (by kernel_rfl) rfl ?_; intro a184 F184
                refine op_p F184 (.slice (A) (xs.length) (c)) (by kernel_rfl) rfl rfl rfl (by kernel_rfl) rfl ?_; intro a185 F185
                refine op_p F185 (.int .i64 (↑q - 1)) (by kernel_rfl) rfl rfl rfl (by kernel_rfl) rfl ?_; intro a186 F186
                refine op_r (v := .pointer (some (ad165.add ((q - 1) * 2)))) F186 (r_ix rfl Try.underlying40 2 (by kernel_rfl) (F186.ev (v := .slice (A) (xs.length) (c)) (by kernel_rfl)) hA165 (F186.ev (v := .int .i64 (↑q - 1)) (by kernel_rfl)) (q - 1) (by first | rfl | omega | simp) (by first | omega | (simp; done) | (simp; omega)) (rfl)) rfl rfl rfl ?_; intro a187 F187
                refine op_p F187 (.pointer (some ⟨(ad165.add ((q - 1) * 2)).block, (ad165.add ((q - 1) * 2)).off + 1, none⟩)) (by kernel_rfl) rfl rfl rfl (by kernel_rfl) rfl ?_; intro a188 F188
                refine op_r (v := .string (xs[q - 1].fText)) F188 (r_ld rfl (F188.ev (v := .pointer (some ⟨(ad165.add ((q - 1) * 2)).block, (ad165.add ((q - 1) * 2)).off + 1, none⟩)) (by kernel_rfl)) (v := .string (xs[q - 1].fText)) (cellj ((h0 _ S158).elA hA165 (j := q - 1) (row := xs[q - 1].cells) (by rw [List.getElem?_map, List.getElem?_eq_getElem hq]; rfl)) 0 rfl) Try.underlying9 rfl) rfl rfl rfl ?_; intro a189 F189
                refine op_r (v := .string (b ++ (xs[q - 1].fText))) F189 (r_sadd rfl (F189.ev (v := .string b) (by kernel_rfl)) (F189.ev (v := .string (xs[q - 1].fText)) (by kernel_rfl)) (by first | omega | (simp only [ByteArray.size_append, ByteArray.size_extract, sz1]; omega) | (have := hM _ (List.getElem_mem hq); simp only [ByteArray.size_append, sz1]; omega) | (have := hM _ (List.getElem_mem hq); omega))) rfl rfl rfl ?_; intro a190 F190
                refine op_p F190 (.string (b ++ (xs[q - 1].fText))) (by kernel_rfl) rfl rfl rfl (by kernel_rfl) rfl ?_; intro a191 F191
                refine wpList_nil ?_
                refine hK183 _ _ ?_; clear hK183 K183
                refine wp_exit ?_
                refine ex_out rfl ?_
                refine ex_then ?_; clear hK172 K172
                refine ex_then ?_
                refine ex_in ?_
                exact hK152 _ _ ⟨b ++ (xs[q - 1].fText), (F191.k 0 (by kernel_rfl) (F191.k 1 (by kernel_rfl) (F191.k 4 (by kernel_rfl) (F191.k 5 (by kernel_rfl) (F191.k 6 (by kernel_rfl) (F191.k 7 (by kernel_rfl) (F191.k 8 (by kernel_rfl) (F191.k 10 (by kernel_rfl) (F191.k 11 (by kernel_rfl) (F191.k 12 (by kernel_rfl) (F191.k 13 (by kernel_rfl) (F191.k 16 (by kernel_rfl) (F191.k 17 (by kernel_rfl) (F191.k 18 (by kernel_rfl) (F191.k 19 (by kernel_rfl) (F191.k 20 (by kernel_rfl) (F191.k 21 (by kernel_rfl) (F191.k 22 (by kernel_rfl) (F191.k 23 (by kernel_rfl) (F191.k 24 (by kernel_rfl) (F191.k 25 (by kernel_rfl) (F191.k 26 (by kernel_rfl) (F191.k 34 (by kernel_rfl) (F191.k 35 (by kernel_rfl) (F191.k 36 (by kernel_rfl) (F191.k 37 (by kernel_rfl) (F191.k 38 (by kernel_rfl) (F191.k 39 (by kernel_rfl) (F191.k 40 (by kernel_rfl) (F191.k 41 (by kernel_rfl) (F191.k 42 (by kernel_rfl) (F191.k 43 (by kernel_rfl) (F191.k 44 (by kernel_rfl) (F191.k 47 (by kernel_rfl) F191.nil)))))))))))))))))))))))))))))))))), S158, (by rw [show vrF s j = shF (s.extract (j + 1) s.size) from rfl, (pc_und (p := shF (s.extract (j + 1) s.size)) hc67), und_hit hu hq1 hq hc181]), (by first | omega | (with_reducible assumption) | (simp; done)), (by first | omega | (with_reducible assumption) | (simp; done))⟩
              · have F192 := F180.sb 67 (by kernel_rfl) hc181
                refine wp_cond_false (F192.ev (by kernel_rfl)) ?_
                refine wp_skip ?_
                refine hK172 _ _ ?_; clear hK172 K172
                refine wp_region_lit ?_
                refine op_p F192 (.int .i64 (↑q - 1)) (by kernel_rfl) rfl rfl rfl (by kernel_rfl) rfl ?_; intro a193 F193
                refine op_r (v := .int .i64 (↑(q - 1) - 1)) F193 (r_sub (z := (↑(q - 1) - 1)) rfl (F193.ev (v := .int .i64 (↑q - 1)) (by kernel_rfl)) (F193.ev (v := .int .i64 1) (by kernel_rfl)) (wr64 (by omega) (by omega) (by omega))) rfl rfl rfl ?_; intro a194 F194
                refine op_p F194 (.int .i64 (↑(q - 1) - 1)) (by kernel_rfl) rfl rfl rfl (by kernel_rfl) rfl ?_; intro a195 F195
                refine wpList_nil ?_
                exact hK158 _ _ _ (by first | omega | (simp; omega)) ⟨q - 1, rfl, (F195.k 0 (by kernel_rfl) (F195.k 1 (by kernel_rfl) (F195.k 4 (by kernel_rfl) (F195.k 5 (by kernel_rfl) (F195.k 6 (by kernel_rfl) (F195.k 7 (by kernel_rfl) (F195.k 8 (by kernel_rfl) (F195.k 9 (by kernel_rfl) (F195.k 10 (by kernel_rfl) (F195.k 11 (by kernel_rfl) (F195.k 12 (by kernel_rfl) (F195.k 13 (by kernel_rfl) (F195.k 16 (by kernel_rfl) (F195.k 17 (by kernel_rfl) (F195.k 18 (by kernel_rfl) (F195.k 19 (by kernel_rfl) (F195.k 20 (by kernel_rfl) (F195.k 21 (by kernel_rfl) (F195.k 22 (by kernel_rfl) (F195.k 23 (by kernel_rfl) (F195.k 24 (by kernel_rfl) (F195.k 25 (by kernel_rfl) (F195.k 26 (by kernel_rfl) (F195.k 34 (by kernel_rfl) (F195.k 35 (by kernel_rfl) (F195.k 36 (by kernel_rfl) (F195.k 37 (by kernel_rfl) (F195.k 38 (by kernel_rfl) (F195.k 39 (by kernel_rfl) (F195.k 40 (by kernel_rfl) (F195.k 41 (by kernel_rfl) (F195.k 42 (by kernel_rfl) (F195.k 43 (by kernel_rfl) (F195.k 44 (by kernel_rfl) (F195.k 47 (by kernel_rfl) (F195.k 50 (by kernel_rfl) (F195.k 51 (by kernel_rfl) (F195.k 52 (by kernel_rfl) F195.nil)))))))))))))))))))))))))))))))))))))), S158, (by first | omega | (with_reducible assumption) | (simp; done)), (und_miss hu hq1 hq hc181)⟩
            · have hc164p := of_decide_eq_false hc164
              have F196 := F163.sb 54 (by kernel_rfl) hc164
              have F197 := F196.sb 55 (by kernel_rfl) hc164
              refine op_skip F197 (by kernel_rfl) rfl rfl rfl ?_; intro a198 F198
              refine op_skip F198 (by kernel_rfl) rfl rfl rfl ?_; intro a199 F199
              refine op_p F199 (.bool false) (by kernel_rfl) rfl rfl rfl (by kernel_rfl) rfl ?_; intro a200 F200
              refine wpList_nil ?_
              refine hK160 _ _ ?_; clear hK160 K160
              refine wp_cond_false (F200.ev (by kernel_rfl)) ?_
              refine wp_exit ?_
              refine ex_then ?_; clear hK159 K159
              refine ex_then ?_
              refine ex_in ?_
              exact hK152 _ _ ⟨b, (F200.k 0 (by kernel_rfl) (F200.k 1 (by kernel_rfl) (F200.k 4 (by kernel_rfl) (F200.k 5 (by kernel_rfl) (F200.k 6 (by kernel_rfl) (F200.k 7 (by kernel_rfl) (F200.k 8 (by kernel_rfl) (F200.k 10 (by kernel_rfl) (F200.k 11 (by kernel_rfl) (F200.k 12 (by kernel_rfl) (F200.k 13 (by kernel_rfl) (F200.k 16 (by kernel_rfl) (F200.k 17 (by kernel_rfl) (F200.k 18 (by kernel_rfl) (F200.k 19 (by kernel_rfl) (F200.k 20 (by kernel_rfl) (F200.k 21 (by kernel_rfl) (F200.k 22 (by kernel_rfl) (F200.k 23 (by kernel_rfl) (F200.k 24 (by kernel_rfl) (F200.k 25 (by kernel_rfl) (F200.k 26 (by kernel_rfl) (F200.k 34 (by kernel_rfl) (F200.k 35 (by kernel_rfl) (F200.k 36 (by kernel_rfl) (F200.k 37 (by kernel_rfl) (F200.k 38 (by kernel_rfl) (F200.k 39 (by kernel_rfl) (F200.k 40 (by kernel_rfl) (F200.k 41 (by kernel_rfl) (F200.k 42 (by kernel_rfl) (F200.k 43 (by kernel_rfl) (F200.k 44 (by kernel_rfl) (F200.k 47 (by kernel_rfl) F200.nil)))))))))))))))))))))))))))))))))), S158, (by rw [show vrF s j = shF (s.extract (j + 1) s.size) from rfl, (pc_und (p := shF (s.extract (j + 1) s.size)) hc67), hu, show q = 0 by omega]; exact (app_emp _).symm), (by first | omega | (with_reducible assumption) | (simp; done)), (by first | omega | (with_reducible assumption) | (simp; done))⟩
          · rintro a201 w201 ⟨b2, F201, S201, hb2, hj1, e36⟩
            refine wp_region_lit ?_
            refine op_p F201 (.int .i64 (↑j)) (by kernel_rfl) rfl rfl rfl (by kernel_rfl) rfl ?_; intro a202 F202
            refine op_p F202 (.int .i64 (↑(shF (s.extract (j + 1) s.size)).2)) (by kernel_rfl) rfl rfl rfl (by kernel_rfl) rfl ?_; intro a203 F203
            refine op_r (v := .int .i64 (↑j + ↑(shF (s.extract (j + 1) s.size)).2)) F203 (r_add (z := (↑j + ↑(shF (s.extract (j + 1) s.size)).2)) rfl (F203.ev (v := .int .i64 (↑j)) (by kernel_rfl)) (F203.ev (v := .int .i64 (↑(shF (s.extract (j + 1) s.size)).2)) (by kernel_rfl)) (wr64 (by omega) (by omega) (by omega))) rfl rfl rfl ?_; intro a204 F204
            refine op_p F204 (.int .i64 (↑j + ↑(shF (s.extract (j + 1) s.size)).2)) (by kernel_rfl) rfl rfl rfl (by kernel_rfl) rfl ?_; intro a205 F205
            refine wpList_nil ?_
            refine hK16 _ _ ?_; clear hK16 K16
            refine wp_region_lit ?_
            refine op_p F205 (.int .i64 (↑j + ↑(shF (s.extract (j + 1) s.size)).2)) (by kernel_rfl) rfl rfl rfl (by kernel_rfl) rfl ?_; intro a206 F206
            refine op_r (v := .int .i64 ((↑j + ↑(shF (s.extract (j + 1) s.size)).2) + 1)) F206 (r_add (z := ((↑j + ↑(shF (s.extract (j + 1) s.size)).2) + 1)) rfl (F206.ev (v := .int .i64 (↑j + ↑(shF (s.extract (j + 1) s.size)).2)) (by kernel_rfl)) (F206.ev (v := .int .i64 1) (by kernel_rfl)) (wr64 (by omega) (by omega) (by omega))) rfl rfl rfl ?_; intro a207 F207
            refine op_p F207 (.int .i64 ((↑j + ↑(shF (s.extract (j + 1) s.size)).2) + 1)) (by kernel_rfl) rfl rfl rfl (by kernel_rfl) rfl ?_; intro a208 F208
            refine wpList_nil ?_
            exact hK8 _ _ _ (by first | omega | (simp; omega)) ⟨b2, _, rfl, (F208.k 0 (by kernel_rfl) (F208.k 1 (by kernel_rfl) (F208.k 4 (by kernel_rfl) (F208.k 5 (by kernel_rfl) (F208.k 6 (by kernel_rfl) F208.nil))))), S201, (by first | omega | (with_reducible assumption) | (simp; done)), (exd_var (n := (shF (s.extract (j + 1) s.size)).2) hj1 e36 rfl he hb2), (by have := pcF_size (xs := xs) (n := 2147483647) (by omega) hM (vrF s j); rw [hb2, ByteArray.size_append]; omega)⟩
    · have hc24p := ne_of_beq_false hc24
      have F209 := F23.sb 19 (by kernel_rfl) (show (!((↑s[j].toNat : Int) == 36)) = true by rw [hc24]; rfl)
      have F210 := F209.sb 20 (by kernel_rfl) (show (!((↑s[j].toNat : Int) == 36)) = true by rw [hc24]; rfl)
      refine op_skip F210 (by kernel_rfl) rfl rfl rfl ?_; intro a211 F211
      refine op_skip F211 (by kernel_rfl) rfl rfl rfl ?_; intro a212 F212
      refine op_skip F212 (by kernel_rfl) rfl rfl rfl ?_; intro a213 F213
      refine op_skip F213 (by kernel_rfl) rfl rfl rfl ?_; intro a214 F214
      refine op_skip F214 (by kernel_rfl) rfl rfl rfl ?_; intro a215 F215
      refine op_p F215 (.bool true) (by kernel_rfl) rfl rfl rfl (by kernel_rfl) rfl ?_; intro a216 F216
      refine wpList_nil ?_
      refine hK18 _ _ ?_; clear hK18 K18
      refine wp_cond_true (F216.ev (by kernel_rfl)) ?_
      refine wp_seq_k fun K217 hK217 => ?_
      refine wp_region_lit ?_
      refine op_p F216 (.string b) (by kernel_rfl) rfl rfl rfl (by kernel_rfl) rfl ?_; intro a218 F218
      refine op_p F218 (.string s) (by kernel_rfl) rfl rfl rfl (by kernel_rfl) rfl ?_; intro a219 F219
      refine op_p F219 (.int .i64 (↑j)) (by kernel_rfl) rfl rfl rfl (by kernel_rfl) rfl ?_; intro a220 F220
      refine op_p F220 (.int .i64 (↑j)) (by kernel_rfl) rfl rfl rfl (by kernel_rfl) rfl ?_; intro a221 F221
      refine op_r (v := .int .i64 (↑(j + 1))) F221 (r_add (z := ↑(j + 1)) rfl (F221.ev (v := .int .i64 (↑j)) (by kernel_rfl)) (F221.ev (v := .int .i64 1) (by kernel_rfl)) (wr64 (by omega) (by omega) (by omega))) rfl rfl rfl ?_; intro a222 F222
      refine op_r (v := .string (s.extract j (j + 1))) F222 (r_sllh rfl Try.underlying9 (F222.ev (v := .string s) (by kernel_rfl)) (F222.ev (v := .int .i64 (↑j)) (by kernel_rfl)) (F222.ev (v := .int .i64 (↑(j + 1))) (by kernel_rfl))  j (j + 1) (by first | rfl | omega | (simp; done) | (simp; omega)) (by first | omega | (simp; done) | (simp; omega)) (rfl)) rfl rfl rfl ?_; intro a223 F223
      refine op_r (v := .string (b ++ (s.extract j (j + 1)))) F223 (r_sadd rfl (F223.ev (v := .string b) (by kernel_rfl)) (F223.ev (v := .string (s.extract j (j + 1))) (by kernel_rfl)) (by first | omega | (simp only [ByteArray.size_append, ByteArray.size_extract, sz1]; omega) | (have := hM _ (List.getElem_mem hq); simp only [ByteArray.size_append, sz1]; omega) | (have := hM _ (List.getElem_mem hq); omega))) rfl rfl rfl ?_; intro a224 F224
      refine op_p F224 (.string (b ++ (s.extract j (j + 1)))) (by kernel_rfl) rfl rfl rfl (by kernel_rfl) rfl ?_; intro a225 F225
      refine wpList_nil ?_
      refine hK217 _ _ ?_; clear hK217 K217
      refine wp_exit ?_
      refine ex_then ?_; clear hK17 K17
      refine ex_in ?_
      refine hK16 _ _ ?_; clear hK16 K16
      refine wp_region_lit ?_
      refine op_p F225 (.int .i64 (↑j)) (by kernel_rfl) rfl rfl rfl (by kernel_rfl) rfl ?_; intro a226 F226
      refine op_r (v := .int .i64 (↑(j + 1))) F226 (r_add (z := ↑(j + 1)) rfl (F226.ev (v := .int .i64 (↑j)) (by kernel_rfl)) (F226.ev (v := .int .i64 1) (by kernel_rfl)) (wr64 (by omega) (by omega) (by omega))) rfl rfl rfl ?_; intro a227 F227
      refine op_p F227 (.int .i64 (↑(j + 1))) (by kernel_rfl) rfl rfl rfl (by kernel_rfl) rfl ?_; intro a228 F228
      refine wpList_nil ?_
      exact hK8 _ _ _ (by first | omega | (simp; omega)) ⟨b ++ (s.extract j (j + 1)), j + 1, rfl, (F228.k 0 (by kernel_rfl) (F228.k 1 (by kernel_rfl) (F228.k 4 (by kernel_rfl) (F228.k 5 (by kernel_rfl) (F228.k 6 (by kernel_rfl) F228.nil))))), S8, (by first | omega | (with_reducible assumption) | (simp; done)), (exd_one hlt_j (Or.inl (by omega)) he), (by simp only [ByteArray.size_append, ByteArray.size_extract]; omega)⟩
  · have hc_j : decide ((↑j : Int) < ↑s.size) = false := by first | (simp; done) | (simp; omega)
    obtain rfl : j = s.size := by omega
    refine wp_seq_k fun K229 hK229 => ?_
    refine wp_seq_k fun K230 hK230 => ?_
    refine wp_region_lit ?_
    refine op_p F8 (.int .i64 (↑s.size)) (by kernel_rfl) rfl rfl rfl (by kernel_rfl) rfl ?_; intro a231 F231
    refine op_p F231 (.string s) (by kernel_rfl) rfl rfl rfl (by kernel_rfl) rfl ?_; intro a232 F232
    refine op_p F232 (.int .i64 (↑s.size)) (by kernel_rfl) rfl rfl rfl (by kernel_rfl) rfl ?_; intro a233 F233
    refine op_p F233 (.bool (decide ((↑s.size : Int) < ↑s.size))) (by kernel_rfl) rfl rfl rfl (by kernel_rfl) rfl ?_; intro a234 F234
    have F235 := F234.sb 13 (by kernel_rfl) hc_j
    refine wpList_nil ?_
    refine hK230 _ _ ?_; clear hK230 K230
    refine wp_cond_false (F235.ev (by kernel_rfl)) ?_
    refine wp_exit ?_
    refine ex_then ?_; clear hK229 K229
    refine ex_then ?_
    refine ex_in ?_
    refine hK5 _ _ ?_; clear hK5 K5
    refine wp_seq_k fun K236 hK236 => ?_
    refine wp_region_lit ?_
    refine op_p F235 (.string b) (by kernel_rfl) rfl rfl rfl (by kernel_rfl) rfl ?_; intro a237 F237
    refine op_p F237 (.string b) (by kernel_rfl) rfl rfl rfl (by kernel_rfl) rfl ?_; intro a238 F238
    refine wpList_nil ?_
    refine hK236 _ _ ?_; clear hK236 K236
    refine wp_ret ?_
    refine (F238.res1 rfl (v := .string b) (by kernel_rfl) ?_).1
    exact ⟨(ret_str (by have h := he; rw [exF_end (Nat.le_refl _), app_emp] at h; exact h)), S8⟩
end Go.Proofs.Ytkjcedlgljeoiaa
