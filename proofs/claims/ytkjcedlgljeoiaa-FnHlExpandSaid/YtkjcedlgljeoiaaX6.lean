/- plain.Expand, by the quick walk. -/
import Derived.Test.YtkjcedlgljeoiaaFb
import Derived.Test.YtkjcedlgljeoiaaTy
import Derived.Test.YtkjcedlgljeoiaaTz
import Derived.Test.YtkjcedlgljeoiaaX5
namespace Go.Proofs.Ytkjcedlgljeoiaa
open Go.RowKit Go.Lib
set_option linter.unusedVariables false
set_option linter.unusedSimpArgs false
theorem emp_app (x : ByteArray) : (⟨#[]⟩ : ByteArray) ++ x = x := by apply ByteArray.ext; simp [ByteArray.data_append]
theorem app_emp (x : ByteArray) : x ++ (⟨#[]⟩ : ByteArray) = x := by apply ByteArray.ext; simp [ByteArray.data_append]
theorem ext_same (s : ByteArray) (k : Nat) : s.extract k k = ⟨#[]⟩ := by
  apply ByteArray.ext
  apply Array.eq_empty_of_size_eq_zero
  show (s.extract k k).size = 0
  simp
theorem sz0 : (⟨#[]⟩ : ByteArray).size = 0 := rfl
theorem sz1 (c : UInt8) : (⟨#[c]⟩ : ByteArray).size = 1 := rfl
theorem exp_var {xs : List Ty108} {s b b2 : ByteArray} {i j n : Nat} (h : j + 1 < s.size) (e : s[j].toNat = 36) (hn : n = (vrF s j).2) (he : b ++ s.extract i j ++ exF xs s j = exF xs s 0) (hb : b2 = b ++ s.extract i j ++ pcF xs (vrF s j)) :
    b2 ++ s.extract (j + n + 1) (j + n + 1) ++ exF xs s (j + n + 1) = exF xs s 0 := by
  subst hb; subst hn
  rw [← he, exF_var h e, ext_same, show j + 1 + (vrF s j).2 = j + (vrF s j).2 + 1 by omega]
  simp only [ByteArray.append_assoc, emp_app]
theorem exp_one {xs : List Ty108} {s b : ByteArray} {i j : Nat} (hij : i ≤ j) (h : j < s.size) (hn : s[j].toNat ≠ 36 ∨ j + 1 = s.size) (he : b ++ s.extract i j ++ exF xs s j = exF xs s 0) : b ++ s.extract i (j + 1) ++ exF xs s (j + 1) = exF xs s 0 := by
  rw [← he, ext_step hij h, exF_one h hn]
  simp only [ByteArray.append_assoc]
theorem pc_und {xs : List Ty108} {p : ByteArray × Nat} (h : (p.1.toList == (⟨#[]⟩ : ByteArray).toList) = false) : pcF xs p = undF xs p.1 := by
  have h2 : (p.1.toList == []) = false := by rw [bytes_eqc]; rw [bytes_eqd] at h; exact h
  unfold pcF; rw [h2]; rfl
theorem pc_dol {xs : List Ty108} {p : ByteArray × Nat} (h : (p.1.toList == (⟨#[]⟩ : ByteArray).toList) = true) (hn : p.2 = 0) : pcF xs p = ⟨#[36]⟩ := by
  have h2 : (p.1.toList == []) = true := by rw [bytes_eqc]; rw [bytes_eqd] at h; exact h
  unfold pcF; rw [if_pos h2, if_pos hn]
theorem pc_emp {xs : List Ty108} {p : ByteArray × Nat} (h : (p.1.toList == (⟨#[]⟩ : ByteArray).toList) = true) (hn : 0 < p.2) : pcF xs p = ⟨#[]⟩ := by
  have h2 : (p.1.toList == []) = true := by rw [bytes_eqc]; rw [bytes_eqd] at h; exact h
  unfold pcF; rw [if_pos h2, if_neg (by omega)]
set_option maxRecDepth 100000 in
set_option maxHeartbeats 20000000 in
theorem expand_any (A : Option Addr) (c : Nat) (xs : List Ty108) (s : ByteArray) (gb : Nat) (R : Ctx) (L : List SA) (w : World) (S : Sp R w (L)) (h0 : Rf R L fun w => Rows w (A) 2 (xs.map Ty108.cells)) (h1 : Rf R L fun w => Blk w (gb) 40 #[.slice (A) (xs.length) (c)]) (hs : s.size ≤ 1000) (hM : ∀ x ∈ xs, x.fText.size ≤ 2147483647) :
    Calls Try.prog 69 #[.string s, .func (.func 70) #[] #[.pointer (some ⟨gb, 0, none⟩)]] w fun e w' => e = .returned (.string (exF xs s 0)) ∧ Sp R w' (L) := by
  have hl_xs : xs.length ≤ 9223372036854775807 := by have := (h0 _ S).1; simpa [strs, ptrs] using this
  refine fw_enter (fn := Try.f69) rfl rfl 80 rfl (Nat.le_of_ble_eq_true rfl) ?_
  intro a0 F0
  refine wp_seq_k fun K1 hK1 => ?_
  refine wp_region_lit ?_
  refine op_p F0 (.string ⟨#[]⟩) (by kernel_rfl) rfl rfl rfl (by kernel_rfl) rfl ?_; intro a2 F2
  refine wpList_nil ?_
  refine hK1 _ _ ?_; clear hK1 K1
  refine wp_seq_k fun K3 hK3 => ?_
  refine wp_region_lit ?_
  refine op_p F2 (.slice none 0 0) (by kernel_rfl) rfl rfl rfl (by kernel_rfl) rfl ?_; intro a4 F4
  refine wpList_nil ?_
  refine hK3 _ _ ?_; clear hK3 K3
  refine wp_seq_k fun K5 hK5 => ?_
  refine wp_region_lit ?_
  refine op_p F4 (.int .i64 0) (by kernel_rfl) rfl rfl rfl (by kernel_rfl) rfl ?_; intro a6 F6
  refine wpList_nil ?_
  refine hK5 _ _ ?_; clear hK5 K5
  refine wp_seq_k fun K7 hK7 => ?_
  refine wp_seq_k fun K8 hK8 => ?_
  refine wp_region_lit ?_
  refine op_p F6 (.int .i64 0) (by kernel_rfl) rfl rfl rfl (by kernel_rfl) rfl ?_; intro a9 F9
  refine wpList_nil ?_
  refine hK8 _ _ ?_; clear hK8 K8
  refine wp_block ?_
  refine fw_loop (fun m a' w' => ∃ Ab : Option Addr, ∃ cb : Nat, ∃ b : ByteArray, ∃ i : Nat, ∃ j : Nat, s.size - j = m ∧ Fr 80 [] a' [(0, .string s), (1, .func (.func 70) #[] #[.pointer (some ⟨gb, 0, none⟩)]), (4, .string ⟨#[]⟩), (5, .slice Ab b.size cb), (6, .int .i64 (↑i)), (7, .int .i64 (↑j))] ∧ Sp R w' (SA.own (.slice Ab b.size cb) 5 1 b.size (strCells b) :: L) ∧ (i ≤ j) ∧ (j ≤ s.size) ∧ (Ab = none → i = 0) ∧ (b ++ s.extract i j ++ exF xs s j = exF xs s 0) ∧ (b.size + (j - i) ≤ j * 4294967296)) _ ⟨none, 0, ⟨#[]⟩, 0, 0, rfl, (F9.k 0 (by kernel_rfl) (F9.k 1 (by kernel_rfl) (F9.k 4 (by kernel_rfl) (F9.k 5 (by kernel_rfl) (F9.k 6 (by kernel_rfl) (F9.k 7 (by kernel_rfl) F9.nil)))))), (Sp.nilown S), (by first | omega | (with_reducible assumption) | (simp; done)), (by first | omega | (with_reducible assumption) | (simp; done)), (fun _ => rfl), (by rw [ext_same]; simp only [emp_app]), (by decide)⟩ ?_
  rintro m10 a10 w10 ⟨Ab, cb, b, i, j, hm10, F10, S10, hij, hj, hn, he, hz⟩ K10 hK10
  by_cases hlt_j : j < s.size
  · have hc_j : decide ((↑j : Int) < ↑s.size) = true := by first | (simp; done) | (simp; omega)
    have hvl : ∀ h : j + 1 < s.size, j + 1 + (shF (s.extract (j + 1) s.size)).2 ≤ s.size := fun h => vrF_le h
    have hps := pcF_size (xs := xs) (n := 2147483647) (by omega) hM (shF (s.extract (j + 1) s.size))
    have hus : (undF xs (shF (s.extract (j + 1) s.size)).1).size ≤ 2147483647 := undF_size hM
    refine wp_seq_k fun K11 hK11 => ?_
    refine wp_seq_k fun K12 hK12 => ?_
    refine wp_region_lit ?_
    refine op_p F10 (.int .i64 (↑j)) (by kernel_rfl) rfl rfl rfl (by kernel_rfl) rfl ?_; intro a13 F13
    refine op_p F13 (.string s) (by kernel_rfl) rfl rfl rfl (by kernel_rfl) rfl ?_; intro a14 F14
    refine op_p F14 (.int .i64 (↑s.size)) (by kernel_rfl) rfl rfl rfl (by kernel_rfl) rfl ?_; intro a15 F15
    refine op_p F15 (.bool (decide ((↑j : Int) < ↑s.size))) (by kernel_rfl) rfl rfl rfl (by kernel_rfl) rfl ?_; intro a16 F16
    have F17 := F16.sb 13 (by kernel_rfl) hc_j
    refine wpList_nil ?_
    refine hK12 _ _ ?_; clear hK12 K12
    refine wp_cond_true (F17.ev (by kernel_rfl)) ?_
    refine wp_skip ?_
    refine hK11 _ _ ?_; clear hK11 K11
    refine wp_seq_k fun K18 hK18 => ?_
    refine wp_block ?_
    refine wp_seq_k fun K19 hK19 => ?_
    refine wp_region_lit ?_
    refine op_p F17 (.string s) (by kernel_rfl) rfl rfl rfl (by kernel_rfl) rfl ?_; intro a20 F20
    refine op_p F20 (.int .i64 (↑j)) (by kernel_rfl) rfl rfl rfl (by kernel_rfl) rfl ?_; intro a21 F21
    refine op_r (v := .int .u8 (↑s[j].toNat)) F21 (r_index rfl Try.underlying9 (F21.ev (v := .string s) (by kernel_rfl)) (F21.ev (v := .int .i64 (↑j)) (by kernel_rfl)) j (by first | rfl | omega | simp) (by first | omega | (simp; done) | (simp; omega))) rfl rfl rfl ?_; intro a22 F22
    refine op_p F22 (.bool ((↑s[j].toNat : Int) == 36)) (by kernel_rfl) rfl rfl rfl (by kernel_rfl) rfl ?_; intro a23 F23
    refine op_p F23 (.bool ((↑s[j].toNat : Int) == 36)) (by kernel_rfl) rfl rfl rfl (by kernel_rfl) rfl ?_; intro a24 F24
    rcases btf ((↑s[j].toNat : Int) == 36) with hc25 | hc25
    · have hc25p := eq_of_beq hc25
      have F26 := F24.sb 19 (by kernel_rfl) hc25
      have F27 := F26.sb 20 (by kernel_rfl) hc25
      refine op_want F27 (by kernel_rfl) rfl ?_
      refine op_p F27 (.int .i64 (↑j)) (by kernel_rfl) rfl rfl rfl (by kernel_rfl) rfl ?_; intro a28 F28
      refine op_want F28 (by kernel_rfl) rfl ?_
      refine op_r (v := .int .i64 (↑(j + 1))) F28 (r_add (z := ↑(j + 1)) rfl (F28.ev (v := .int .i64 (↑j)) (by kernel_rfl)) (F28.ev (v := .int .i64 1) (by kernel_rfl)) (wr64 (by omega) (by omega) (by omega))) rfl rfl rfl ?_; intro a29 F29
      refine op_want F29 (by kernel_rfl) rfl ?_
      refine op_p F29 (.string s) (by kernel_rfl) rfl rfl rfl (by kernel_rfl) rfl ?_; intro a30 F30
      refine op_want F30 (by kernel_rfl) rfl ?_
      refine op_p F30 (.int .i64 (↑s.size)) (by kernel_rfl) rfl rfl rfl (by kernel_rfl) rfl ?_; intro a31 F31
      refine op_want F31 (by kernel_rfl) rfl ?_
      refine op_p F31 (.bool (decide ((↑(j + 1) : Int) < ↑s.size))) (by kernel_rfl) rfl rfl rfl (by kernel_rfl) rfl ?_; intro a32 F32
      refine op_p F32 (.bool (decide ((↑(j + 1) : Int) < ↑s.size))) (by kernel_rfl) rfl rfl rfl (by kernel_rfl) rfl ?_; intro a33 F33
      refine wpList_nil ?_
      refine hK19 _ _ ?_; clear hK19 K19
      rcases btf (decide ((↑(j + 1) : Int) < ↑s.size)) with hc34 | hc34
      · have hc34p := of_decide_eq_true hc34
        have F35 := F33.sb 25 (by kernel_rfl) hc34
        have F36 := F35.sb 26 (by kernel_rfl) hc34
        refine wp_cond_true (F36.ev (by kernel_rfl)) ?_
        refine wp_seq_k fun K37 hK37 => ?_
        refine wp_seq_k fun K38 hK38 => ?_
        refine wp_region_lit ?_
        refine op_p F36 (.slice Ab b.size cb) (by kernel_rfl) rfl rfl rfl (by kernel_rfl) rfl ?_; intro a39 F39
        rcases own_nil_or (S10.ow 0 rfl) with ⟨hA40, hm40, hc40⟩ | ⟨gn40, hA40⟩
        · subst hA40
          obtain rfl := bytes_nil hm40
          obtain rfl : i = 0 := hn rfl
          subst hc40
          refine op_p F39 (.bool true) (by kernel_rfl) rfl rfl rfl (by kernel_rfl) rfl ?_; intro a41 F41
          refine wpList_nil ?_
          refine hK38 _ _ ?_; clear hK38 K38
          refine wp_cond_true (F41.ev (by kernel_rfl)) ?_
          refine wp_region_lit ?_
          refine op_p F41 (.string s) (by kernel_rfl) rfl rfl rfl (by kernel_rfl) rfl ?_; intro a42 F42
          refine op_p F42 (.int .i64 (↑s.size)) (by kernel_rfl) rfl rfl rfl (by kernel_rfl) rfl ?_; intro a43 F43
          refine op_r (v := .int .i64 (↑(2 * s.size))) F43 (r_mul (z := ↑(2 * s.size)) rfl (F43.ev (v := .int .i64 2) (by kernel_rfl)) (F43.ev (v := .int .i64 (↑s.size)) (by kernel_rfl)) (wr64 (by omega) (by omega) (by omega))) rfl rfl rfl ?_; intro a44 F44
          refine op_s F44 (s_mkb rfl Try.underlying148 tin5 (2 * s.size) (F44.ev (v := .int .i64 0) (by kernel_rfl)) (F44.ev (v := .int .i64 (↑(2 * s.size))) (by kernel_rfl)) (by first | rfl | omega) (by omega) S10) rfl rfl rfl ?_
          rintro _ _ w46 ⟨g44, c44, rfl, rfl⟩ S46 a46 F46
          refine op_p F46 (.slice (some ⟨g44, 0, none⟩) (⟨#[]⟩ : ByteArray).size c44) (by kernel_rfl) rfl rfl rfl (by kernel_rfl) rfl ?_; intro a47 F47
          refine wpList_nil ?_
          refine hK37 _ _ ?_; clear hK37 K37
          refine wp_seq_k fun K48 hK48 => ?_
          refine wp_region_lit ?_
          refine op_p F47 (.slice (some ⟨g44, 0, none⟩) (⟨#[]⟩ : ByteArray).size c44) (by kernel_rfl) rfl rfl rfl (by kernel_rfl) rfl ?_; intro a49 F49
          refine op_p F49 (.string s) (by kernel_rfl) rfl rfl rfl (by kernel_rfl) rfl ?_; intro a50 F50
          refine op_p F50 (.int .i64 (↑0)) (by kernel_rfl) rfl rfl rfl (by kernel_rfl) rfl ?_; intro a51 F51
          refine op_p F51 (.int .i64 (↑j)) (by kernel_rfl) rfl rfl rfl (by kernel_rfl) rfl ?_; intro a52 F52
          refine op_r (v := .string (s.extract 0 j)) F52 (r_sllh rfl Try.underlying9 (F52.ev (v := .string s) (by kernel_rfl)) (F52.ev (v := .int .i64 (↑0)) (by kernel_rfl)) (F52.ev (v := .int .i64 (↑j)) (by kernel_rfl))  0 j (by first | rfl | omega | (simp; done) | (simp; omega)) (by first | omega | (simp; done) | (simp; omega)) (rfl)) rfl rfl rfl ?_; intro a53 F53
          refine op_s F53 (s_apps rfl Try.underlying148 Try.underlying9 tin5 (F53.ev (v := .slice (some ⟨g44, 0, none⟩) (⟨#[]⟩ : ByteArray).size c44) (by kernel_rfl)) S46 (F53.ev (v := .string (s.extract 0 j)) (by kernel_rfl)) (by first | omega | (simp only [ByteArray.size_append, ByteArray.size_extract, sz0, sz1]; omega)) (r := (⟨#[]⟩ : ByteArray) ++ (s.extract 0 j)) rfl) rfl rfl rfl ?_
          rintro _ _ w55 ⟨A53, c53, rfl, hnn53, rfl⟩ S55 a55 F55
          refine op_p F55 (.slice A53 ((⟨#[]⟩ : ByteArray) ++ (s.extract 0 j)).size c53) (by kernel_rfl) rfl rfl rfl (by kernel_rfl) rfl ?_; intro a56 F56
          refine wpList_nil ?_
          refine hK48 _ _ ?_; clear hK48 K48
          refine wp_seq_k fun K57 hK57 => ?_
          refine wp_region_lit ?_
          refine op_p F56 (.string s) (by kernel_rfl) rfl rfl rfl (by kernel_rfl) rfl ?_; intro a58 F58
          refine op_p F58 (.int .i64 (↑j)) (by kernel_rfl) rfl rfl rfl (by kernel_rfl) rfl ?_; intro a59 F59
          refine op_r (v := .int .i64 (↑(j + 1))) F59 (r_add (z := ↑(j + 1)) rfl (F59.ev (v := .int .i64 (↑j)) (by kernel_rfl)) (F59.ev (v := .int .i64 1) (by kernel_rfl)) (wr64 (by omega) (by omega) (by omega))) rfl rfl rfl ?_; intro a60 F60
          refine op_r (v := .string (s.extract (j + 1) s.size)) F60 (r_sll rfl Try.underlying9 (F60.ev (v := .string s) (by kernel_rfl)) (F60.ev (v := .int .i64 (↑(j + 1))) (by kernel_rfl))  (j + 1) s.size (by first | rfl | omega | (simp; done) | (simp; omega)) (by first | omega | (simp; done) | (simp; omega)) (rfl)) rfl rfl rfl ?_; intro a61 F61
          refine op_c F61 (f := 133) (args := #[.string (s.extract (j + 1) s.size)]) (by kernel_rfl) (by kernel_rfl) rfl (shellName_any (s.extract (j + 1) s.size) _ (by simp; omega) (by simp; omega)) rfl rfl rfl ?_
          rintro _ _ ⟨rfl, rfl⟩
          refine ⟨_, rfl, ?_⟩
          intro a63 F63
          refine op_p F63 (.tuple #[.string ((shF (s.extract (j + 1) s.size)).1), .int .i64 (↑(shF (s.extract (j + 1) s.size)).2)]) (by kernel_rfl) rfl rfl rfl (by kernel_rfl) rfl ?_; intro a64 F64
          refine op_p F64 (.string ((shF (s.extract (j + 1) s.size)).1)) (by kernel_rfl) rfl rfl rfl (by kernel_rfl) rfl ?_; intro a65 F65
          refine op_p F65 (.int .i64 (↑(shF (s.extract (j + 1) s.size)).2)) (by kernel_rfl) rfl rfl rfl (by kernel_rfl) rfl ?_; intro a66 F66
          refine op_p F66 (.string ((shF (s.extract (j + 1) s.size)).1)) (by kernel_rfl) rfl rfl rfl (by kernel_rfl) rfl ?_; intro a67 F67
          refine op_p F67 (.int .i64 (↑(shF (s.extract (j + 1) s.size)).2)) (by kernel_rfl) rfl rfl rfl (by kernel_rfl) rfl ?_; intro a68 F68
          refine wpList_nil ?_
          refine hK57 _ _ ?_; clear hK57 K57
          refine wp_seq_k fun K69 hK69 => ?_
          refine wp_seq_k fun K70 hK70 => ?_
          refine wp_region_lit ?_
          refine op_p F68 (.string ((shF (s.extract (j + 1) s.size)).1)) (by kernel_rfl) rfl rfl rfl (by kernel_rfl) rfl ?_; intro a71 F71
          refine op_p F71 (.bool (((shF (s.extract (j + 1) s.size)).1).toList == (⟨#[]⟩ : ByteArray).toList)) (by kernel_rfl) rfl rfl rfl (by kernel_rfl) rfl ?_; intro a72 F72
          refine op_p F72 (.bool (((shF (s.extract (j + 1) s.size)).1).toList == (⟨#[]⟩ : ByteArray).toList)) (by kernel_rfl) rfl rfl rfl (by kernel_rfl) rfl ?_; intro a73 F73
          rcases btf (((shF (s.extract (j + 1) s.size)).1).toList == (⟨#[]⟩ : ByteArray).toList) with hc74 | hc74
          · have F75 := F73.sb 48 (by kernel_rfl) hc74
            have F76 := F75.sb 49 (by kernel_rfl) hc74
            refine op_want F76 (by kernel_rfl) rfl ?_
            refine op_p F76 (.int .i64 (↑(shF (s.extract (j + 1) s.size)).2)) (by kernel_rfl) rfl rfl rfl (by kernel_rfl) rfl ?_; intro a77 F77
            refine op_want F77 (by kernel_rfl) rfl ?_
            refine op_p F77 (.bool (decide ((0 : Int) < ↑(shF (s.extract (j + 1) s.size)).2))) (by kernel_rfl) rfl rfl rfl (by kernel_rfl) rfl ?_; intro a78 F78
            refine op_p F78 (.bool (decide ((0 : Int) < ↑(shF (s.extract (j + 1) s.size)).2))) (by kernel_rfl) rfl rfl rfl (by kernel_rfl) rfl ?_; intro a79 F79
            refine wpList_nil ?_
            refine hK70 _ _ ?_; clear hK70 K70
            rcases btf (decide ((0 : Int) < ↑(shF (s.extract (j + 1) s.size)).2)) with hc80 | hc80
            · have hc80p := of_decide_eq_true hc80
              have F81 := F79.sb 51 (by kernel_rfl) hc80
              have F82 := F81.sb 52 (by kernel_rfl) hc80
              refine wp_cond_true (F82.ev (by kernel_rfl)) ?_
              refine wp_skip ?_
              refine hK69 _ _ ?_; clear hK69 K69
              refine wp_seq_k fun K83 hK83 => ?_
              refine wp_region_lit ?_
              refine op_p F82 (.int .i64 (↑j)) (by kernel_rfl) rfl rfl rfl (by kernel_rfl) rfl ?_; intro a84 F84
              refine op_p F84 (.int .i64 (↑(shF (s.extract (j + 1) s.size)).2)) (by kernel_rfl) rfl rfl rfl (by kernel_rfl) rfl ?_; intro a85 F85
              refine op_r (v := .int .i64 (↑j + ↑(shF (s.extract (j + 1) s.size)).2)) F85 (r_add (z := (↑j + ↑(shF (s.extract (j + 1) s.size)).2)) rfl (F85.ev (v := .int .i64 (↑j)) (by kernel_rfl)) (F85.ev (v := .int .i64 (↑(shF (s.extract (j + 1) s.size)).2)) (by kernel_rfl)) (wr64 (by omega) (by omega) (by omega))) rfl rfl rfl ?_; intro a86 F86
              refine op_p F86 (.int .i64 (↑j + ↑(shF (s.extract (j + 1) s.size)).2)) (by kernel_rfl) rfl rfl rfl (by kernel_rfl) rfl ?_; intro a87 F87
              refine wpList_nil ?_
              refine hK83 _ _ ?_; clear hK83 K83
              refine wp_region_lit ?_
              refine op_p F87 (.int .i64 (↑j + ↑(shF (s.extract (j + 1) s.size)).2)) (by kernel_rfl) rfl rfl rfl (by kernel_rfl) rfl ?_; intro a88 F88
              refine op_r (v := .int .i64 ((↑j + ↑(shF (s.extract (j + 1) s.size)).2) + 1)) F88 (r_add (z := ((↑j + ↑(shF (s.extract (j + 1) s.size)).2) + 1)) rfl (F88.ev (v := .int .i64 (↑j + ↑(shF (s.extract (j + 1) s.size)).2)) (by kernel_rfl)) (F88.ev (v := .int .i64 1) (by kernel_rfl)) (wr64 (by omega) (by omega) (by omega))) rfl rfl rfl ?_; intro a89 F89
              refine op_p F89 (.int .i64 ((↑j + ↑(shF (s.extract (j + 1) s.size)).2) + 1)) (by kernel_rfl) rfl rfl rfl (by kernel_rfl) rfl ?_; intro a90 F90
              refine wpList_nil ?_
              refine hK18 _ _ ?_; clear hK18 K18
              refine wp_region_lit ?_
              refine op_p F90 (.int .i64 (↑j + ↑(shF (s.extract (j + 1) s.size)).2)) (by kernel_rfl) rfl rfl rfl (by kernel_rfl) rfl ?_; intro a91 F91
              refine op_r (v := .int .i64 ((↑j + ↑(shF (s.extract (j + 1) s.size)).2) + 1)) F91 (r_add (z := ((↑j + ↑(shF (s.extract (j + 1) s.size)).2) + 1)) rfl (F91.ev (v := .int .i64 (↑j + ↑(shF (s.extract (j + 1) s.size)).2)) (by kernel_rfl)) (F91.ev (v := .int .i64 1) (by kernel_rfl)) (wr64 (by omega) (by omega) (by omega))) rfl rfl rfl ?_; intro a92 F92
              refine op_p F92 (.int .i64 ((↑j + ↑(shF (s.extract (j + 1) s.size)).2) + 1)) (by kernel_rfl) rfl rfl rfl (by kernel_rfl) rfl ?_; intro a93 F93
              refine wpList_nil ?_
              exact hK10 _ _ _ (by first | omega | (simp; omega)) ⟨A53, c53, (⟨#[]⟩ : ByteArray) ++ (s.extract 0 j), _, _, rfl, (F93.k 0 (by kernel_rfl) (F93.k 1 (by kernel_rfl) (F93.k 4 (by kernel_rfl) (F93.k 5 (by kernel_rfl) (F93.k 6 (by kernel_rfl) (F93.k 7 (by kernel_rfl) F93.nil)))))), S55.p1.drop, (by first | omega | (with_reducible assumption) | (simp; done)), (by first | omega | (with_reducible assumption) | (simp; done)), (fun e => absurd e (hnn53 (by intro e; cases e))), (exp_var (n := (shF (s.extract (j + 1) s.size)).2) (b := ⟨#[]⟩) (i := 0) (by omega) (by omega) rfl he (by rw [show vrF s j = shF (s.extract (j + 1) s.size) from rfl, (pc_emp (p := shF (s.extract (j + 1) s.size)) hc74 (by omega))]; (try simp only [app_emp, emp_app]); first | done | rfl | rw [show s[j] = (36 : UInt8) from UInt8.toNat_inj.1 (by show _ = 36; omega)])), (by simp only [ByteArray.size_append, ByteArray.size_extract, sz0, sz1]; omega)⟩
            · have hc80p := of_decide_eq_false hc80
              have F94 := F79.sb 51 (by kernel_rfl) hc80
              have F95 := F94.sb 52 (by kernel_rfl) hc80
              refine wp_cond_false (F95.ev (by kernel_rfl)) ?_
              refine wp_seq_k fun K96 hK96 => ?_
              refine wp_region_lit ?_
              refine op_p F95 (.string ((shF (s.extract (j + 1) s.size)).1)) (by kernel_rfl) rfl rfl rfl (by kernel_rfl) rfl ?_; intro a97 F97
              refine op_p F97 (.bool (((shF (s.extract (j + 1) s.size)).1).toList == (⟨#[]⟩ : ByteArray).toList)) (by kernel_rfl) rfl rfl rfl (by kernel_rfl) rfl ?_; intro a98 F98
              have F99 := F98.sb 54 (by kernel_rfl) hc74
              refine wpList_nil ?_
              refine hK96 _ _ ?_; clear hK96 K96
              refine wp_cond_true (F99.ev (by kernel_rfl)) ?_
              refine wp_region_lit ?_
              refine op_p F99 (.slice A53 ((⟨#[]⟩ : ByteArray) ++ (s.extract 0 j)).size c53) (by kernel_rfl) rfl rfl rfl (by kernel_rfl) rfl ?_; intro a100 F100
              refine op_p F100 (.string s) (by kernel_rfl) rfl rfl rfl (by kernel_rfl) rfl ?_; intro a101 F101
              refine op_p F101 (.int .i64 (↑j)) (by kernel_rfl) rfl rfl rfl (by kernel_rfl) rfl ?_; intro a102 F102
              refine op_r (v := .int .u8 (↑s[j].toNat)) F102 (r_index rfl Try.underlying9 (F102.ev (v := .string s) (by kernel_rfl)) (F102.ev (v := .int .i64 (↑j)) (by kernel_rfl)) j (by first | rfl | omega | simp) (by first | omega | (simp; done) | (simp; omega))) rfl rfl rfl ?_; intro a103 F103
              refine op_s F103 (s_news F103 5 #[.int .u8 (↑s[j].toNat)] 1 (by kernel_rfl) (by kernel_rfl) (by kernel_rfl) S55) rfl rfl rfl ?_
              rintro _ _ w105 ⟨g103, rfl, rfl⟩ S105 a105 F105
              refine op_s F105 (s_appb rfl Try.underlying148 tin5 (↑s[j]) (F105.ev (v := .slice A53 ((⟨#[]⟩ : ByteArray) ++ (s.extract 0 j)).size c53) (by kernel_rfl)) S105.p1 (F105.ev (v := .slice (some ⟨g103, 0, none⟩) 1 1) (by kernel_rfl)) ((S105.bk 0 rfl).sl (by simp)) (by first | omega | (simp only [ByteArray.size_append, ByteArray.size_extract, sz0, sz1]; omega)) (r := ((⟨#[]⟩ : ByteArray) ++ (s.extract 0 j)) ++ ⟨#[↑s[j]]⟩) rfl) rfl rfl rfl ?_
              rintro _ _ w107 ⟨A105, c105, rfl, hnn105, rfl⟩ S107 a107 F107
              refine op_p F107 (.slice A105 (((⟨#[]⟩ : ByteArray) ++ (s.extract 0 j)) ++ ⟨#[↑s[j]]⟩).size c105) (by kernel_rfl) rfl rfl rfl (by kernel_rfl) rfl ?_; intro a108 F108
              refine wpList_nil ?_
              refine hK69 _ _ ?_; clear hK69 K69
              refine wp_seq_k fun K109 hK109 => ?_
              refine wp_region_lit ?_
              refine op_p F108 (.int .i64 (↑j)) (by kernel_rfl) rfl rfl rfl (by kernel_rfl) rfl ?_; intro a110 F110
              refine op_p F110 (.int .i64 (↑(shF (s.extract (j + 1) s.size)).2)) (by kernel_rfl) rfl rfl rfl (by kernel_rfl) rfl ?_; intro a111 F111
              refine op_r (v := .int .i64 (↑j + ↑(shF (s.extract (j + 1) s.size)).2)) F111 (r_add (z := (↑j + ↑(shF (s.extract (j + 1) s.size)).2)) rfl (F111.ev (v := .int .i64 (↑j)) (by kernel_rfl)) (F111.ev (v := .int .i64 (↑(shF (s.extract (j + 1) s.size)).2)) (by kernel_rfl)) (wr64 (by omega) (by omega) (by omega))) rfl rfl rfl ?_; intro a112 F112
              refine op_p F112 (.int .i64 (↑j + ↑(shF (s.extract (j + 1) s.size)).2)) (by kernel_rfl) rfl rfl rfl (by kernel_rfl) rfl ?_; intro a113 F113
              refine wpList_nil ?_
              refine hK109 _ _ ?_; clear hK109 K109
              refine wp_region_lit ?_
              refine op_p F113 (.int .i64 (↑j + ↑(shF (s.extract (j + 1) s.size)).2)) (by kernel_rfl) rfl rfl rfl (by kernel_rfl) rfl ?_; intro a114 F114
              refine op_r (v := .int .i64 ((↑j + ↑(shF (s.extract (j + 1) s.size)).2) + 1)) F114 (r_add (z := ((↑j + ↑(shF (s.extract (j + 1) s.size)).2) + 1)) rfl (F114.ev (v := .int .i64 (↑j + ↑(shF (s.extract (j + 1) s.size)).2)) (by kernel_rfl)) (F114.ev (v := .int .i64 1) (by kernel_rfl)) (wr64 (by omega) (by omega) (by omega))) rfl rfl rfl ?_; intro a115 F115
              refine op_p F115 (.int .i64 ((↑j + ↑(shF (s.extract (j + 1) s.size)).2) + 1)) (by kernel_rfl) rfl rfl rfl (by kernel_rfl) rfl ?_; intro a116 F116
              refine wpList_nil ?_
              refine hK18 _ _ ?_; clear hK18 K18
              refine wp_region_lit ?_
              refine op_p F116 (.int .i64 (↑j + ↑(shF (s.extract (j + 1) s.size)).2)) (by kernel_rfl) rfl rfl rfl (by kernel_rfl) rfl ?_; intro a117 F117
              refine op_r (v := .int .i64 ((↑j + ↑(shF (s.extract (j + 1) s.size)).2) + 1)) F117 (r_add (z := ((↑j + ↑(shF (s.extract (j + 1) s.size)).2) + 1)) rfl (F117.ev (v := .int .i64 (↑j + ↑(shF (s.extract (j + 1) s.size)).2)) (by kernel_rfl)) (F117.ev (v := .int .i64 1) (by kernel_rfl)) (wr64 (by omega) (by omega) (by omega))) rfl rfl rfl ?_; intro a118 F118
              refine op_p F118 (.int .i64 ((↑j + ↑(shF (s.extract (j + 1) s.size)).2) + 1)) (by kernel_rfl) rfl rfl rfl (by kernel_rfl) rfl ?_; intro a119 F119
              refine wpList_nil ?_
              exact hK10 _ _ _ (by first | omega | (simp; omega)) ⟨A105, c105, ((⟨#[]⟩ : ByteArray) ++ (s.extract 0 j)) ++ ⟨#[↑s[j]]⟩, _, _, rfl, (F119.k 0 (by kernel_rfl) (F119.k 1 (by kernel_rfl) (F119.k 4 (by kernel_rfl) (F119.k 5 (by kernel_rfl) (F119.k 6 (by kernel_rfl) (F119.k 7 (by kernel_rfl) F119.nil)))))), S107.p1.drop.p1.drop, (by first | omega | (with_reducible assumption) | (simp; done)), (by first | omega | (with_reducible assumption) | (simp; done)), (fun e => absurd e hnn105), (exp_var (n := (shF (s.extract (j + 1) s.size)).2) (b := ⟨#[]⟩) (i := 0) (by omega) (by omega) rfl he (by rw [show vrF s j = shF (s.extract (j + 1) s.size) from rfl, (pc_dol (p := shF (s.extract (j + 1) s.size)) hc74 (by omega))]; (try simp only [app_emp, emp_app]); first | done | rfl | rw [show s[j] = (36 : UInt8) from UInt8.toNat_inj.1 (by show _ = 36; omega)])), (by simp only [ByteArray.size_append, ByteArray.size_extract, sz0, sz1]; omega)⟩
          · have F120 := F73.sb 48 (by kernel_rfl) hc74
            have F121 := F120.sb 49 (by kernel_rfl) hc74
            refine op_skip F121 (by kernel_rfl) rfl rfl rfl ?_; intro a122 F122
            refine op_skip F122 (by kernel_rfl) rfl rfl rfl ?_; intro a123 F123
            refine op_p F123 (.bool false) (by kernel_rfl) rfl rfl rfl (by kernel_rfl) rfl ?_; intro a124 F124
            refine wpList_nil ?_
            refine hK70 _ _ ?_; clear hK70 K70
            refine wp_cond_false (F124.ev (by kernel_rfl)) ?_
            refine wp_seq_k fun K125 hK125 => ?_
            refine wp_region_lit ?_
            refine op_p F124 (.string ((shF (s.extract (j + 1) s.size)).1)) (by kernel_rfl) rfl rfl rfl (by kernel_rfl) rfl ?_; intro a126 F126
            refine op_p F126 (.bool (((shF (s.extract (j + 1) s.size)).1).toList == (⟨#[]⟩ : ByteArray).toList)) (by kernel_rfl) rfl rfl rfl (by kernel_rfl) rfl ?_; intro a127 F127
            have F128 := F127.sb 54 (by kernel_rfl) hc74
            refine wpList_nil ?_
            refine hK125 _ _ ?_; clear hK125 K125
            refine wp_cond_false (F128.ev (by kernel_rfl)) ?_
            refine wp_region_lit ?_
            refine op_p F128 (.slice A53 ((⟨#[]⟩ : ByteArray) ++ (s.extract 0 j)).size c53) (by kernel_rfl) rfl rfl rfl (by kernel_rfl) rfl ?_; intro a129 F129
            refine op_p F129 (.func (.func 70) #[] #[.pointer (some ⟨gb, 0, none⟩)]) (by kernel_rfl) rfl rfl rfl (by kernel_rfl) rfl ?_; intro a130 F130
            refine op_p F130 (.string ((shF (s.extract (j + 1) s.size)).1)) (by kernel_rfl) rfl rfl rfl (by kernel_rfl) rfl ?_; intro a131 F131
            refine op_c F131 (f := 70) (args := #[.string ((shF (s.extract (j + 1) s.size)).1), .pointer (some ⟨gb, 0, none⟩)]) (by kernel_rfl) (by kernel_rfl) rfl (exClo_any A _ xs ((shF (s.extract (j + 1) s.size)).1) gb _ (h0 _ S55.drop.drop) (h1 _ S55.drop.drop)) rfl rfl rfl ?_
            rintro _ w132 ⟨rfl, hb_132⟩
            refine ⟨_, rfl, ?_⟩
            intro a133 F133
            have S132 := S55.below hb_132
            refine op_s F133 (s_apps rfl Try.underlying148 Try.underlying9 tin5 (F133.ev (v := .slice A53 ((⟨#[]⟩ : ByteArray) ++ (s.extract 0 j)).size c53) (by kernel_rfl)) S132 (F133.ev (v := .string (undF xs ((shF (s.extract (j + 1) s.size)).1))) (by kernel_rfl)) (by first | omega | (simp only [ByteArray.size_append, ByteArray.size_extract, sz0, sz1]; omega)) (r := ((⟨#[]⟩ : ByteArray) ++ (s.extract 0 j)) ++ (undF xs ((shF (s.extract (j + 1) s.size)).1))) rfl) rfl rfl rfl ?_
            rintro _ _ w135 ⟨A133, c133, rfl, hnn133, rfl⟩ S135 a135 F135
            refine op_p F135 (.slice A133 (((⟨#[]⟩ : ByteArray) ++ (s.extract 0 j)) ++ (undF xs ((shF (s.extract (j + 1) s.size)).1))).size c133) (by kernel_rfl) rfl rfl rfl (by kernel_rfl) rfl ?_; intro a136 F136
            refine wpList_nil ?_
            refine hK69 _ _ ?_; clear hK69 K69
            refine wp_seq_k fun K137 hK137 => ?_
            refine wp_region_lit ?_
            refine op_p F136 (.int .i64 (↑j)) (by kernel_rfl) rfl rfl rfl (by kernel_rfl) rfl ?_; intro a138 F138
            refine op_p F138 (.int .i64 (↑(shF (s.extract (j + 1) s.size)).2)) (by kernel_rfl) rfl rfl rfl (by kernel_rfl) rfl ?_; intro a139 F139
            refine op_r (v := .int .i64 (↑j + ↑(shF (s.extract (j + 1) s.size)).2)) F139 (r_add (z := (↑j + ↑(shF (s.extract (j + 1) s.size)).2)) rfl (F139.ev (v := .int .i64 (↑j)) (by kernel_rfl)) (F139.ev (v := .int .i64 (↑(shF (s.extract (j + 1) s.size)).2)) (by kernel_rfl)) (wr64 (by omega) (by omega) (by omega))) rfl rfl rfl ?_; intro a140 F140
            refine op_p F140 (.int .i64 (↑j + ↑(shF (s.extract (j + 1) s.size)).2)) (by kernel_rfl) rfl rfl rfl (by kernel_rfl) rfl ?_; intro a141 F141
            refine wpList_nil ?_
            refine hK137 _ _ ?_; clear hK137 K137
            refine wp_region_lit ?_
            refine op_p F141 (.int .i64 (↑j + ↑(shF (s.extract (j + 1) s.size)).2)) (by kernel_rfl) rfl rfl rfl (by kernel_rfl) rfl ?_; intro a142 F142
            refine op_r (v := .int .i64 ((↑j + ↑(shF (s.extract (j + 1) s.size)).2) + 1)) F142 (r_add (z := ((↑j + ↑(shF (s.extract (j + 1) s.size)).2) + 1)) rfl (F142.ev (v := .int .i64 (↑j + ↑(shF (s.extract (j + 1) s.size)).2)) (by kernel_rfl)) (F142.ev (v := .int .i64 1) (by kernel_rfl)) (wr64 (by omega) (by omega) (by omega))) rfl rfl rfl ?_; intro a143 F143
            refine op_p F143 (.int .i64 ((↑j + ↑(shF (s.extract (j + 1) s.size)).2) + 1)) (by kernel_rfl) rfl rfl rfl (by kernel_rfl) rfl ?_; intro a144 F144
            refine wpList_nil ?_
            refine hK18 _ _ ?_; clear hK18 K18
            refine wp_region_lit ?_
            refine op_p F144 (.int .i64 (↑j + ↑(shF (s.extract (j + 1) s.size)).2)) (by kernel_rfl) rfl rfl rfl (by kernel_rfl) rfl ?_; intro a145 F145
            refine op_r (v := .int .i64 ((↑j + ↑(shF (s.extract (j + 1) s.size)).2) + 1)) F145 (r_add (z := ((↑j + ↑(shF (s.extract (j + 1) s.size)).2) + 1)) rfl (F145.ev (v := .int .i64 (↑j + ↑(shF (s.extract (j + 1) s.size)).2)) (by kernel_rfl)) (F145.ev (v := .int .i64 1) (by kernel_rfl)) (wr64 (by omega) (by omega) (by omega))) rfl rfl rfl ?_; intro a146 F146
            refine op_p F146 (.int .i64 ((↑j + ↑(shF (s.extract (j + 1) s.size)).2) + 1)) (by kernel_rfl) rfl rfl rfl (by kernel_rfl) rfl ?_; intro a147 F147
            refine wpList_nil ?_
            exact hK10 _ _ _ (by first | omega | (simp; omega)) ⟨A133, c133, ((⟨#[]⟩ : ByteArray) ++ (s.extract 0 j)) ++ (undF xs ((shF (s.extract (j + 1) s.size)).1)), _, _, rfl, (F147.k 0 (by kernel_rfl) (F147.k 1 (by kernel_rfl) (F147.k 4 (by kernel_rfl) (F147.k 5 (by kernel_rfl) (F147.k 6 (by kernel_rfl) (F147.k 7 (by kernel_rfl) F147.nil)))))), S135.p1.drop, (by first | omega | (with_reducible assumption) | (simp; done)), (by first | omega | (with_reducible assumption) | (simp; done)), (fun e => absurd e (hnn133 (hnn53 (by intro e; cases e)))), (exp_var (n := (shF (s.extract (j + 1) s.size)).2) (b := ⟨#[]⟩) (i := 0) (by omega) (by omega) rfl he (by rw [show vrF s j = shF (s.extract (j + 1) s.size) from rfl, (pc_und (p := shF (s.extract (j + 1) s.size)) hc74)]; (try simp only [app_emp, emp_app]); first | done | rfl | rw [show s[j] = (36 : UInt8) from UInt8.toNat_inj.1 (by show _ = 36; omega)])), (by simp only [ByteArray.size_append, ByteArray.size_extract, sz0, sz1]; omega)⟩
        · subst hA40
          refine op_p F39 (.bool false) (by kernel_rfl) rfl rfl rfl (by kernel_rfl) rfl ?_; intro a148 F148
          refine wpList_nil ?_
          refine hK38 _ _ ?_; clear hK38 K38
          refine wp_cond_false (F148.ev (by kernel_rfl)) ?_
          refine wp_skip ?_
          refine hK37 _ _ ?_; clear hK37 K37
          refine wp_seq_k fun K149 hK149 => ?_
          refine wp_region_lit ?_
          refine op_p F148 (.slice (some ⟨gn40, 0, none⟩) b.size cb) (by kernel_rfl) rfl rfl rfl (by kernel_rfl) rfl ?_; intro a150 F150
          refine op_p F150 (.string s) (by kernel_rfl) rfl rfl rfl (by kernel_rfl) rfl ?_; intro a151 F151
          refine op_p F151 (.int .i64 (↑i)) (by kernel_rfl) rfl rfl rfl (by kernel_rfl) rfl ?_; intro a152 F152
          refine op_p F152 (.int .i64 (↑j)) (by kernel_rfl) rfl rfl rfl (by kernel_rfl) rfl ?_; intro a153 F153
          refine op_r (v := .string (s.extract i j)) F153 (r_sllh rfl Try.underlying9 (F153.ev (v := .string s) (by kernel_rfl)) (F153.ev (v := .int .i64 (↑i)) (by kernel_rfl)) (F153.ev (v := .int .i64 (↑j)) (by kernel_rfl))  i j (by first | rfl | omega | (simp; done) | (simp; omega)) (by first | omega | (simp; done) | (simp; omega)) (rfl)) rfl rfl rfl ?_; intro a154 F154
          refine op_s F154 (s_apps rfl Try.underlying148 Try.underlying9 tin5 (F154.ev (v := .slice (some ⟨gn40, 0, none⟩) b.size cb) (by kernel_rfl)) S10 (F154.ev (v := .string (s.extract i j)) (by kernel_rfl)) (by first | omega | (simp only [ByteArray.size_append, ByteArray.size_extract, sz0, sz1]; omega)) (r := b ++ (s.extract i j)) rfl) rfl rfl rfl ?_
          rintro _ _ w156 ⟨A154, c154, rfl, hnn154, rfl⟩ S156 a156 F156
          refine op_p F156 (.slice A154 (b ++ (s.extract i j)).size c154) (by kernel_rfl) rfl rfl rfl (by kernel_rfl) rfl ?_; intro a157 F157
          refine wpList_nil ?_
          refine hK149 _ _ ?_; clear hK149 K149
          refine wp_seq_k fun K158 hK158 => ?_
          refine wp_region_lit ?_
          refine op_p F157 (.string s) (by kernel_rfl) rfl rfl rfl (by kernel_rfl) rfl ?_; intro a159 F159
          refine op_p F159 (.int .i64 (↑j)) (by kernel_rfl) rfl rfl rfl (by kernel_rfl) rfl ?_; intro a160 F160
          refine op_r (v := .int .i64 (↑(j + 1))) F160 (r_add (z := ↑(j + 1)) rfl (F160.ev (v := .int .i64 (↑j)) (by kernel_rfl)) (F160.ev (v := .int .i64 1) (by kernel_rfl)) (wr64 (by omega) (by omega) (by omega))) rfl rfl rfl ?_; intro a161 F161
          refine op_r (v := .string (s.extract (j + 1) s.size)) F161 (r_sll rfl Try.underlying9 (F161.ev (v := .string s) (by kernel_rfl)) (F161.ev (v := .int .i64 (↑(j + 1))) (by kernel_rfl))  (j + 1) s.size (by first | rfl | omega | (simp; done) | (simp; omega)) (by first | omega | (simp; done) | (simp; omega)) (rfl)) rfl rfl rfl ?_; intro a162 F162
          refine op_c F162 (f := 133) (args := #[.string (s.extract (j + 1) s.size)]) (by kernel_rfl) (by kernel_rfl) rfl (shellName_any (s.extract (j + 1) s.size) _ (by simp; omega) (by simp; omega)) rfl rfl rfl ?_
          rintro _ _ ⟨rfl, rfl⟩
          refine ⟨_, rfl, ?_⟩
          intro a164 F164
          refine op_p F164 (.tuple #[.string ((shF (s.extract (j + 1) s.size)).1), .int .i64 (↑(shF (s.extract (j + 1) s.size)).2)]) (by kernel_rfl) rfl rfl rfl (by kernel_rfl) rfl ?_; intro a165 F165
          refine op_p F165 (.string ((shF (s.extract (j + 1) s.size)).1)) (by kernel_rfl) rfl rfl rfl (by kernel_rfl) rfl ?_; intro a166 F166
          refine op_p F166 (.int .i64 (↑(shF (s.extract (j + 1) s.size)).2)) (by kernel_rfl) rfl rfl rfl (by kernel_rfl) rfl ?_; intro a167 F167
          refine op_p F167 (.string ((shF (s.extract (j + 1) s.size)).1)) (by kernel_rfl) rfl rfl rfl (by kernel_rfl) rfl ?_; intro a168 F168
          refine op_p F168 (.int .i64 (↑(shF (s.extract (j + 1) s.size)).2)) (by kernel_rfl) rfl rfl rfl (by kernel_rfl) rfl ?_; intro a169 F169
          refine wpList_nil ?_
          refine hK158 _ _ ?_; clear hK158 K158
          refine wp_seq_k fun K170 hK170 => ?_
          refine wp_seq_k fun K171 hK171 => ?_
          refine wp_region_lit ?_
          refine op_p F169 (.string ((shF (s.extract (j + 1) s.size)).1)) (by kernel_rfl) rfl rfl rfl (by kernel_rfl) rfl ?_; intro a172 F172
          refine op_p F172 (.bool (((shF (s.extract (j + 1) s.size)).1).toList == (⟨#[]⟩ : ByteArray).toList)) (by kernel_rfl) rfl rfl rfl (by kernel_rfl) rfl ?_; intro a173 F173
          refine op_p F173 (.bool (((shF (s.extract (j + 1) s.size)).1).toList == (⟨#[]⟩ : ByteArray).toList)) (by kernel_rfl) rfl rfl rfl (by kernel_rfl) rfl ?_; intro a174 F174
          rcases btf (((shF (s.extract (j + 1) s.size)).1).toList == (⟨#[]⟩ : ByteArray).toList) with hc175 | hc175
          · have F176 := F174.sb 48 (by kernel_rfl) hc175
            have F177 := F176.sb 49 (by kernel_rfl) hc175
            refine op_want F177 (by kernel_rfl) rfl ?_
            refine op_p F177 (.int .i64 (↑(shF (s.extract (j + 1) s.size)).2)) (by kernel_rfl) rfl rfl rfl (by kernel_rfl) rfl ?_; intro a178 F178
            refine op_want F178 (by kernel_rfl) rfl ?_
            refine op_p F178 (.bool (decide ((0 : Int) < ↑(shF (s.extract (j + 1) s.size)).2))) (by kernel_rfl) rfl rfl rfl (by kernel_rfl) rfl ?_; intro a179 F179
            refine op_p F179 (.bool (decide ((0 : Int) < ↑(shF (s.extract (j + 1) s.size)).2))) (by kernel_rfl) rfl rfl rfl (by kernel_rfl) rfl ?_; intro a180 F180
            refine wpList_nil ?_
            refine hK171 _ _ ?_; clear hK171 K171
            rcases btf (decide ((0 : Int) < ↑(shF (s.extract (j + 1) s.size)).2)) with hc181 | hc181
            · have hc181p := of_decide_eq_true hc181
              have F182 := F180.sb 51 (by kernel_rfl) hc181
              have F183 := F182.sb 52 (by kernel_rfl) hc181
              refine wp_cond_true (F183.ev (by kernel_rfl)) ?_
              refine wp_skip ?_
              refine hK170 _ _ ?_; clear hK170 K170
              refine wp_seq_k fun K184 hK184 => ?_
              refine wp_region_lit ?_
              refine op_p F183 (.int .i64 (↑j)) (by kernel_rfl) rfl rfl rfl (by kernel_rfl) rfl ?_; intro a185 F185
              refine op_p F185 (.int .i64 (↑(shF (s.extract (j + 1) s.size)).2)) (by kernel_rfl) rfl rfl rfl (by kernel_rfl) rfl ?_; intro a186 F186
              refine op_r (v := .int .i64 (↑j + ↑(shF (s.extract (j + 1) s.size)).2)) F186 (r_add (z := (↑j + ↑(shF (s.extract (j + 1) s.size)).2)) rfl (F186.ev (v := .int .i64 (↑j)) (by kernel_rfl)) (F186.ev (v := .int .i64 (↑(shF (s.extract (j + 1) s.size)).2)) (by kernel_rfl)) (wr64 (by omega) (by omega) (by omega))) rfl rfl rfl ?_; intro a187 F187
              refine op_p F187 (.int .i64 (↑j + ↑(shF (s.extract (j + 1) s.size)).2)) (by kernel_rfl) rfl rfl rfl (by kernel_rfl) rfl ?_; intro a188 F188
              refine wpList_nil ?_
              refine hK184 _ _ ?_; clear hK184 K184
              refine wp_region_lit ?_
              refine op_p F188 (.int .i64 (↑j + ↑(shF (s.extract (j + 1) s.size)).2)) (by kernel_rfl) rfl rfl rfl (by kernel_rfl) rfl ?_; intro a189 F189
              refine op_r (v := .int .i64 ((↑j + ↑(shF (s.extract (j + 1) s.size)).2) + 1)) F189 (r_add (z := ((↑j + ↑(shF (s.extract (j + 1) s.size)).2) + 1)) rfl (F189.ev (v := .int .i64 (↑j + ↑(shF (s.extract (j + 1) s.size)).2)) (by kernel_rfl)) (F189.ev (v := .int .i64 1) (by kernel_rfl)) (wr64 (by omega) (by omega) (by omega))) rfl rfl rfl ?_; intro a190 F190
              refine op_p F190 (.int .i64 ((↑j + ↑(shF (s.extract (j + 1) s.size)).2) + 1)) (by kernel_rfl) rfl rfl rfl (by kernel_rfl) rfl ?_; intro a191 F191
              refine wpList_nil ?_
              refine hK18 _ _ ?_; clear hK18 K18
              refine wp_region_lit ?_
              refine op_p F191 (.int .i64 (↑j + ↑(shF (s.extract (j + 1) s.size)).2)) (by kernel_rfl) rfl rfl rfl (by kernel_rfl) rfl ?_; intro a192 F192
              refine op_r (v := .int .i64 ((↑j + ↑(shF (s.extract (j + 1) s.size)).2) + 1)) F192 (r_add (z := ((↑j + ↑(shF (s.extract (j + 1) s.size)).2) + 1)) rfl (F192.ev (v := .int .i64 (↑j + ↑(shF (s.extract (j + 1) s.size)).2)) (by kernel_rfl)) (F192.ev (v := .int .i64 1) (by kernel_rfl)) (wr64 (by omega) (by omega) (by omega))) rfl rfl rfl ?_; intro a193 F193
              refine op_p F193 (.int .i64 ((↑j + ↑(shF (s.extract (j + 1) s.size)).2) + 1)) (by kernel_rfl) rfl rfl rfl (by kernel_rfl) rfl ?_; intro a194 F194
              refine wpList_nil ?_
              exact hK10 _ _ _ (by first | omega | (simp; omega)) ⟨A154, c154, b ++ (s.extract i j), _, _, rfl, (F194.k 0 (by kernel_rfl) (F194.k 1 (by kernel_rfl) (F194.k 4 (by kernel_rfl) (F194.k 5 (by kernel_rfl) (F194.k 6 (by kernel_rfl) (F194.k 7 (by kernel_rfl) F194.nil)))))), S156, (by first | omega | (with_reducible assumption) | (simp; done)), (by first | omega | (with_reducible assumption) | (simp; done)), (fun e => absurd e (hnn154 (by intro e; cases e))), (exp_var (n := (shF (s.extract (j + 1) s.size)).2) (b := b) (i := i) (by omega) (by omega) rfl he (by rw [show vrF s j = shF (s.extract (j + 1) s.size) from rfl, (pc_emp (p := shF (s.extract (j + 1) s.size)) hc175 (by omega))]; (try simp only [app_emp, emp_app]); first | done | rfl | rw [show s[j] = (36 : UInt8) from UInt8.toNat_inj.1 (by show _ = 36; omega)])), (by simp only [ByteArray.size_append, ByteArray.size_extract, sz0, sz1]; omega)⟩
            · have hc181p := of_decide_eq_false hc181
              have F195 := F180.sb 51 (by kernel_rfl) hc181
              have F196 := F195.sb 52 (by kernel_rfl) hc181
              refine wp_cond_false (F196.ev (by kernel_rfl)) ?_
              refine wp_seq_k fun K197 hK197 => ?_
              refine wp_region_lit ?_
              refine op_p F196 (.string ((shF (s.extract (j + 1) s.size)).1)) (by kernel_rfl) rfl rfl rfl (by kernel_rfl) rfl ?_; intro a198 F198
              refine op_p F198 (.bool (((shF (s.extract (j + 1) s.size)).1).toList == (⟨#[]⟩ : ByteArray).toList)) (by kernel_rfl) rfl rfl rfl (by kernel_rfl) rfl ?_; intro a199 F199
              have F200 := F199.sb 54 (by kernel_rfl) hc175
              refine wpList_nil ?_
              refine hK197 _ _ ?_; clear hK197 K197
              refine wp_cond_true (F200.ev (by kernel_rfl)) ?_
              refine wp_region_lit ?_
              refine op_p F200 (.slice A154 (b ++ (s.extract i j)).size c154) (by kernel_rfl) rfl rfl rfl (by kernel_rfl) rfl ?_; intro a201 F201
              refine op_p F201 (.string s) (by kernel_rfl) rfl rfl rfl (by kernel_rfl) rfl ?_; intro a202 F202
              refine op_p F202 (.int .i64 (↑j)) (by kernel_rfl) rfl rfl rfl (by kernel_rfl) rfl ?_; intro a203 F203
              refine op_r (v := .int .u8 (↑s[j].toNat)) F203 (r_index rfl Try.underlying9 (F203.ev (v := .string s) (by kernel_rfl)) (F203.ev (v := .int .i64 (↑j)) (by kernel_rfl)) j (by first | rfl | omega | simp) (by first | omega | (simp; done) | (simp; omega))) rfl rfl rfl ?_; intro a204 F204
              refine op_s F204 (s_news F204 5 #[.int .u8 (↑s[j].toNat)] 1 (by kernel_rfl) (by kernel_rfl) (by kernel_rfl) S156) rfl rfl rfl ?_
              rintro _ _ w206 ⟨g204, rfl, rfl⟩ S206 a206 F206
              refine op_s F206 (s_appb rfl Try.underlying148 tin5 (↑s[j]) (F206.ev (v := .slice A154 (b ++ (s.extract i j)).size c154) (by kernel_rfl)) S206.p1 (F206.ev (v := .slice (some ⟨g204, 0, none⟩) 1 1) (by kernel_rfl)) ((S206.bk 0 rfl).sl (by simp)) (by first | omega | (simp only [ByteArray.size_append, ByteArray.size_extract, sz0, sz1]; omega)) (r := (b ++ (s.extract i j)) ++ ⟨#[↑s[j]]⟩) rfl) rfl rfl rfl ?_
              rintro _ _ w208 ⟨A206, c206, rfl, hnn206, rfl⟩ S208 a208 F208
              refine op_p F208 (.slice A206 ((b ++ (s.extract i j)) ++ ⟨#[↑s[j]]⟩).size c206) (by kernel_rfl) rfl rfl rfl (by kernel_rfl) rfl ?_; intro a209 F209
              refine wpList_nil ?_
              refine hK170 _ _ ?_; clear hK170 K170
              refine wp_seq_k fun K210 hK210 => ?_
              refine wp_region_lit ?_
              refine op_p F209 (.int .i64 (↑j)) (by kernel_rfl) rfl rfl rfl (by kernel_rfl) rfl ?_; intro a211 F211
              refine op_p F211 (.int .i64 (↑(shF (s.extract (j + 1) s.size)).2)) (by kernel_rfl) rfl rfl rfl (by kernel_rfl) rfl ?_; intro a212 F212
              refine op_r (v := .int .i64 (↑j + ↑(shF (s.extract (j + 1) s.size)).2)) F212 (r_add (z := (↑j + ↑(shF (s.extract (j + 1) s.size)).2)) rfl (F212.ev (v := .int .i64 (↑j)) (by kernel_rfl)) (F212.ev (v := .int .i64 (↑(shF (s.extract (j + 1) s.size)).2)) (by kernel_rfl)) (wr64 (by omega) (by omega) (by omega))) rfl rfl rfl ?_; intro a213 F213
              refine op_p F213 (.int .i64 (↑j + ↑(shF (s.extract (j + 1) s.size)).2)) (by kernel_rfl) rfl rfl rfl (by kernel_rfl) rfl ?_; intro a214 F214
              refine wpList_nil ?_
              refine hK210 _ _ ?_; clear hK210 K210
              refine wp_region_lit ?_
              refine op_p F214 (.int .i64 (↑j + ↑(shF (s.extract (j + 1) s.size)).2)) (by kernel_rfl) rfl rfl rfl (by kernel_rfl) rfl ?_; intro a215 F215
              refine op_r (v := .int .i64 ((↑j + ↑(shF (s.extract (j + 1) s.size)).2) + 1)) F215 (r_add (z := ((↑j + ↑(shF (s.extract (j + 1) s.size)).2) + 1)) rfl (F215.ev (v := .int .i64 (↑j + ↑(shF (s.extract (j + 1) s.size)).2)) (by kernel_rfl)) (F215.ev (v := .int .i64 1) (by kernel_rfl)) (wr64 (by omega) (by omega) (by omega))) rfl rfl rfl ?_; intro a216 F216
              refine op_p F216 (.int .i64 ((↑j + ↑(shF (s.extract (j + 1) s.size)).2) + 1)) (by kernel_rfl) rfl rfl rfl (by kernel_rfl) rfl ?_; intro a217 F217
              refine wpList_nil ?_
              refine hK18 _ _ ?_; clear hK18 K18
              refine wp_region_lit ?_
              refine op_p F217 (.int .i64 (↑j + ↑(shF (s.extract (j + 1) s.size)).2)) (by kernel_rfl) rfl rfl rfl (by kernel_rfl) rfl ?_; intro a218 F218
              refine op_r (v := .int .i64 ((↑j + ↑(shF (s.extract (j + 1) s.size)).2) + 1)) F218 (r_add (z := ((↑j + ↑(shF (s.extract (j + 1) s.size)).2) + 1)) rfl (F218.ev (v := .int .i64 (↑j + ↑(shF (s.extract (j + 1) s.size)).2)) (by kernel_rfl)) (F218.ev (v := .int .i64 1) (by kernel_rfl)) (wr64 (by omega) (by omega) (by omega))) rfl rfl rfl ?_; intro a219 F219
              refine op_p F219 (.int .i64 ((↑j + ↑(shF (s.extract (j + 1) s.size)).2) + 1)) (by kernel_rfl) rfl rfl rfl (by kernel_rfl) rfl ?_; intro a220 F220
              refine wpList_nil ?_
              exact hK10 _ _ _ (by first | omega | (simp; omega)) ⟨A206, c206, (b ++ (s.extract i j)) ++ ⟨#[↑s[j]]⟩, _, _, rfl, (F220.k 0 (by kernel_rfl) (F220.k 1 (by kernel_rfl) (F220.k 4 (by kernel_rfl) (F220.k 5 (by kernel_rfl) (F220.k 6 (by kernel_rfl) (F220.k 7 (by kernel_rfl) F220.nil)))))), S208.p1.drop, (by first | omega | (with_reducible assumption) | (simp; done)), (by first | omega | (with_reducible assumption) | (simp; done)), (fun e => absurd e hnn206), (exp_var (n := (shF (s.extract (j + 1) s.size)).2) (b := b) (i := i) (by omega) (by omega) rfl he (by rw [show vrF s j = shF (s.extract (j + 1) s.size) from rfl, (pc_dol (p := shF (s.extract (j + 1) s.size)) hc175 (by omega))]; (try simp only [app_emp, emp_app]); first | done | rfl | rw [show s[j] = (36 : UInt8) from UInt8.toNat_inj.1 (by show _ = 36; omega)])), (by simp only [ByteArray.size_append, ByteArray.size_extract, sz0, sz1]; omega)⟩
          · have F221 := F174.sb 48 (by kernel_rfl) hc175
            have F222 := F221.sb 49 (by kernel_rfl) hc175
            refine op_skip F222 (by kernel_rfl) rfl rfl rfl ?_; intro a223 F223
            refine op_skip F223 (by kernel_rfl) rfl rfl rfl ?_; intro a224 F224
            refine op_p F224 (.bool false) (by kernel_rfl) rfl rfl rfl (by kernel_rfl) rfl ?_; intro a225 F225
            refine wpList_nil ?_
            refine hK171 _ _ ?_; clear hK171 K171
            refine wp_cond_false (F225.ev (by kernel_rfl)) ?_
            refine wp_seq_k fun K226 hK226 => ?_
            refine wp_region_lit ?_
            refine op_p F225 (.string ((shF (s.extract (j + 1) s.size)).1)) (by kernel_rfl) rfl rfl rfl (by kernel_rfl) rfl ?_; intro a227 F227
            refine op_p F227 (.bool (((shF (s.extract (j + 1) s.size)).1).toList == (⟨#[]⟩ : ByteArray).toList)) (by kernel_rfl) rfl rfl rfl (by kernel_rfl) rfl ?_; intro a228 F228
            have F229 := F228.sb 54 (by kernel_rfl) hc175
            refine wpList_nil ?_
            refine hK226 _ _ ?_; clear hK226 K226
            refine wp_cond_false (F229.ev (by kernel_rfl)) ?_
            refine wp_region_lit ?_
            refine op_p F229 (.slice A154 (b ++ (s.extract i j)).size c154) (by kernel_rfl) rfl rfl rfl (by kernel_rfl) rfl ?_; intro a230 F230
            refine op_p F230 (.func (.func 70) #[] #[.pointer (some ⟨gb, 0, none⟩)]) (by kernel_rfl) rfl rfl rfl (by kernel_rfl) rfl ?_; intro a231 F231
            refine op_p F231 (.string ((shF (s.extract (j + 1) s.size)).1)) (by kernel_rfl) rfl rfl rfl (by kernel_rfl) rfl ?_; intro a232 F232
            refine op_c F232 (f := 70) (args := #[.string ((shF (s.extract (j + 1) s.size)).1), .pointer (some ⟨gb, 0, none⟩)]) (by kernel_rfl) (by kernel_rfl) rfl (exClo_any A _ xs ((shF (s.extract (j + 1) s.size)).1) gb _ (h0 _ S156.drop) (h1 _ S156.drop)) rfl rfl rfl ?_
            rintro _ w233 ⟨rfl, hb_233⟩
            refine ⟨_, rfl, ?_⟩
            intro a234 F234
            have S233 := S156.below hb_233
            refine op_s F234 (s_apps rfl Try.underlying148 Try.underlying9 tin5 (F234.ev (v := .slice A154 (b ++ (s.extract i j)).size c154) (by kernel_rfl)) S233 (F234.ev (v := .string (undF xs ((shF (s.extract (j + 1) s.size)).1))) (by kernel_rfl)) (by first | omega | (simp only [ByteArray.size_append, ByteArray.size_extract, sz0, sz1]; omega)) (r := (b ++ (s.extract i j)) ++ (undF xs ((shF (s.extract (j + 1) s.size)).1))) rfl) rfl rfl rfl ?_
            rintro _ _ w236 ⟨A234, c234, rfl, hnn234, rfl⟩ S236 a236 F236
            refine op_p F236 (.slice A234 ((b ++ (s.extract i j)) ++ (undF xs ((shF (s.extract (j + 1) s.size)).1))).size c234) (by kernel_rfl) rfl rfl rfl (by kernel_rfl) rfl ?_; intro a237 F237
            refine wpList_nil ?_
            refine hK170 _ _ ?_; clear hK170 K170
            refine wp_seq_k fun K238 hK238 => ?_
            refine wp_region_lit ?_
            refine op_p F237 (.int .i64 (↑j)) (by kernel_rfl) rfl rfl rfl (by kernel_rfl) rfl ?_; intro a239 F239
            refine op_p F239 (.int .i64 (↑(shF (s.extract (j + 1) s.size)).2)) (by kernel_rfl) rfl rfl rfl (by kernel_rfl) rfl ?_; intro a240 F240
            refine op_r (v := .int .i64 (↑j + ↑(shF (s.extract (j + 1) s.size)).2)) F240 (r_add (z := (↑j + ↑(shF (s.extract (j + 1) s.size)).2)) rfl (F240.ev (v := .int .i64 (↑j)) (by kernel_rfl)) (F240.ev (v := .int .i64 (↑(shF (s.extract (j + 1) s.size)).2)) (by kernel_rfl)) (wr64 (by omega) (by omega) (by omega))) rfl rfl rfl ?_; intro a241 F241
            refine op_p F241 (.int .i64 (↑j + ↑(shF (s.extract (j + 1) s.size)).2)) (by kernel_rfl) rfl rfl rfl (by kernel_rfl) rfl ?_; intro a242 F242
            refine wpList_nil ?_
            refine hK238 _ _ ?_; clear hK238 K238
            refine wp_region_lit ?_
            refine op_p F242 (.int .i64 (↑j + ↑(shF (s.extract (j + 1) s.size)).2)) (by kernel_rfl) rfl rfl rfl (by kernel_rfl) rfl ?_; intro a243 F243
            refine op_r (v := .int .i64 ((↑j + ↑(shF (s.extract (j + 1) s.size)).2) + 1)) F243 (r_add (z := ((↑j + ↑(shF (s.extract (j + 1) s.size)).2) + 1)) rfl (F243.ev (v := .int .i64 (↑j + ↑(shF (s.extract (j + 1) s.size)).2)) (by kernel_rfl)) (F243.ev (v := .int .i64 1) (by kernel_rfl)) (wr64 (by omega) (by omega) (by omega))) rfl rfl rfl ?_; intro a244 F244
            refine op_p F244 (.int .i64 ((↑j + ↑(shF (s.extract (j + 1) s.size)).2) + 1)) (by kernel_rfl) rfl rfl rfl (by kernel_rfl) rfl ?_; intro a245 F245
            refine wpList_nil ?_
            refine hK18 _ _ ?_; clear hK18 K18
            refine wp_region_lit ?_
            refine op_p F245 (.int .i64 (↑j + ↑(shF (s.extract (j + 1) s.size)).2)) (by kernel_rfl) rfl rfl rfl (by kernel_rfl) rfl ?_; intro a246 F246
            refine op_r (v := .int .i64 ((↑j + ↑(shF (s.extract (j + 1) s.size)).2) + 1)) F246 (r_add (z := ((↑j + ↑(shF (s.extract (j + 1) s.size)).2) + 1)) rfl (F246.ev (v := .int .i64 (↑j + ↑(shF (s.extract (j + 1) s.size)).2)) (by kernel_rfl)) (F246.ev (v := .int .i64 1) (by kernel_rfl)) (wr64 (by omega) (by omega) (by omega))) rfl rfl rfl ?_; intro a247 F247
            refine op_p F247 (.int .i64 ((↑j + ↑(shF (s.extract (j + 1) s.size)).2) + 1)) (by kernel_rfl) rfl rfl rfl (by kernel_rfl) rfl ?_; intro a248 F248
            refine wpList_nil ?_
            exact hK10 _ _ _ (by first | omega | (simp; omega)) ⟨A234, c234, (b ++ (s.extract i j)) ++ (undF xs ((shF (s.extract (j + 1) s.size)).1)), _, _, rfl, (F248.k 0 (by kernel_rfl) (F248.k 1 (by kernel_rfl) (F248.k 4 (by kernel_rfl) (F248.k 5 (by kernel_rfl) (F248.k 6 (by kernel_rfl) (F248.k 7 (by kernel_rfl) F248.nil)))))), S236, (by first | omega | (with_reducible assumption) | (simp; done)), (by first | omega | (with_reducible assumption) | (simp; done)), (fun e => absurd e (hnn234 (hnn154 (by intro e; cases e)))), (exp_var (n := (shF (s.extract (j + 1) s.size)).2) (b := b) (i := i) (by omega) (by omega) rfl he (by rw [show vrF s j = shF (s.extract (j + 1) s.size) from rfl, (pc_und (p := shF (s.extract (j + 1) s.size)) hc175)]; (try simp only [app_emp, emp_app]); first | done | rfl | rw [show s[j] = (36 : UInt8) from UInt8.toNat_inj.1 (by show _ = 36; omega)])), (by simp only [ByteArray.size_append, ByteArray.size_extract, sz0, sz1]; omega)⟩
      · have hc34p := of_decide_eq_false hc34
        have F249 := F33.sb 25 (by kernel_rfl) hc34
        have F250 := F249.sb 26 (by kernel_rfl) hc34
        refine wp_cond_false (F250.ev (by kernel_rfl)) ?_
        refine wp_skip ?_
        refine hK18 _ _ ?_; clear hK18 K18
        refine wp_region_lit ?_
        refine op_p F250 (.int .i64 (↑j)) (by kernel_rfl) rfl rfl rfl (by kernel_rfl) rfl ?_; intro a251 F251
        refine op_r (v := .int .i64 (↑(j + 1))) F251 (r_add (z := ↑(j + 1)) rfl (F251.ev (v := .int .i64 (↑j)) (by kernel_rfl)) (F251.ev (v := .int .i64 1) (by kernel_rfl)) (wr64 (by omega) (by omega) (by omega))) rfl rfl rfl ?_; intro a252 F252
        refine op_p F252 (.int .i64 (↑(j + 1))) (by kernel_rfl) rfl rfl rfl (by kernel_rfl) rfl ?_; intro a253 F253
        refine wpList_nil ?_
        exact hK10 _ _ _ (by first | omega | (simp; omega)) ⟨Ab, cb, b, i, j + 1, rfl, (F253.k 0 (by kernel_rfl) (F253.k 1 (by kernel_rfl) (F253.k 4 (by kernel_rfl) (F253.k 5 (by kernel_rfl) (F253.k 6 (by kernel_rfl) (F253.k 7 (by kernel_rfl) F253.nil)))))), S10, (by first | omega | (with_reducible assumption) | (simp; done)), (by first | omega | (with_reducible assumption) | (simp; done)), hn, (exp_one hij hlt_j (Or.inr (by omega)) he), (by first | omega | (with_reducible assumption) | (simp; done))⟩
    · have hc25p := ne_of_beq_false hc25
      have F254 := F24.sb 19 (by kernel_rfl) hc25
      have F255 := F254.sb 20 (by kernel_rfl) hc25
      refine op_skip F255 (by kernel_rfl) rfl rfl rfl ?_; intro a256 F256
      refine op_skip F256 (by kernel_rfl) rfl rfl rfl ?_; intro a257 F257
      refine op_skip F257 (by kernel_rfl) rfl rfl rfl ?_; intro a258 F258
      refine op_skip F258 (by kernel_rfl) rfl rfl rfl ?_; intro a259 F259
      refine op_skip F259 (by kernel_rfl) rfl rfl rfl ?_; intro a260 F260
      refine op_p F260 (.bool false) (by kernel_rfl) rfl rfl rfl (by kernel_rfl) rfl ?_; intro a261 F261
      refine wpList_nil ?_
      refine hK19 _ _ ?_; clear hK19 K19
      refine wp_cond_false (F261.ev (by kernel_rfl)) ?_
      refine wp_skip ?_
      refine hK18 _ _ ?_; clear hK18 K18
      refine wp_region_lit ?_
      refine op_p F261 (.int .i64 (↑j)) (by kernel_rfl) rfl rfl rfl (by kernel_rfl) rfl ?_; intro a262 F262
      refine op_r (v := .int .i64 (↑(j + 1))) F262 (r_add (z := ↑(j + 1)) rfl (F262.ev (v := .int .i64 (↑j)) (by kernel_rfl)) (F262.ev (v := .int .i64 1) (by kernel_rfl)) (wr64 (by omega) (by omega) (by omega))) rfl rfl rfl ?_; intro a263 F263
      refine op_p F263 (.int .i64 (↑(j + 1))) (by kernel_rfl) rfl rfl rfl (by kernel_rfl) rfl ?_; intro a264 F264
      refine wpList_nil ?_
      exact hK10 _ _ _ (by first | omega | (simp; omega)) ⟨Ab, cb, b, i, j + 1, rfl, (F264.k 0 (by kernel_rfl) (F264.k 1 (by kernel_rfl) (F264.k 4 (by kernel_rfl) (F264.k 5 (by kernel_rfl) (F264.k 6 (by kernel_rfl) (F264.k 7 (by kernel_rfl) F264.nil)))))), S10, (by first | omega | (with_reducible assumption) | (simp; done)), (by first | omega | (with_reducible assumption) | (simp; done)), hn, (exp_one hij hlt_j (Or.inl (by omega)) he), (by first | omega | (with_reducible assumption) | (simp; done))⟩
  · have hc_j : decide ((↑j : Int) < ↑s.size) = false := by first | (simp; done) | (simp; omega)
    obtain rfl : j = s.size := by omega
    refine wp_seq_k fun K265 hK265 => ?_
    refine wp_seq_k fun K266 hK266 => ?_
    refine wp_region_lit ?_
    refine op_p F10 (.int .i64 (↑s.size)) (by kernel_rfl) rfl rfl rfl (by kernel_rfl) rfl ?_; intro a267 F267
    refine op_p F267 (.string s) (by kernel_rfl) rfl rfl rfl (by kernel_rfl) rfl ?_; intro a268 F268
    refine op_p F268 (.int .i64 (↑s.size)) (by kernel_rfl) rfl rfl rfl (by kernel_rfl) rfl ?_; intro a269 F269
    refine op_p F269 (.bool (decide ((↑s.size : Int) < ↑s.size))) (by kernel_rfl) rfl rfl rfl (by kernel_rfl) rfl ?_; intro a270 F270
    have F271 := F270.sb 13 (by kernel_rfl) hc_j
    refine wpList_nil ?_
    refine hK266 _ _ ?_; clear hK266 K266
    refine wp_cond_false (F271.ev (by kernel_rfl)) ?_
    refine wp_exit ?_
    refine ex_then ?_; clear hK265 K265
    refine ex_then ?_
    refine ex_in ?_
    refine hK7 _ _ ?_; clear hK7 K7
    refine wp_seq_k fun K272 hK272 => ?_
    refine wp_seq_k fun K273 hK273 => ?_
    refine wp_region_lit ?_
    refine op_p F271 (.slice Ab b.size cb) (by kernel_rfl) rfl rfl rfl (by kernel_rfl) rfl ?_; intro a274 F274
    rcases own_nil_or (S10.ow 0 rfl) with ⟨hA275, hm275, hc275⟩ | ⟨gn275, hA275⟩
    · subst hA275
      obtain rfl := bytes_nil hm275
      obtain rfl : i = 0 := hn rfl
      subst hc275
      refine op_p F274 (.bool true) (by kernel_rfl) rfl rfl rfl (by kernel_rfl) rfl ?_; intro a276 F276
      refine wpList_nil ?_
      refine hK273 _ _ ?_; clear hK273 K273
      refine wp_cond_true (F276.ev (by kernel_rfl)) ?_
      refine wp_seq_k fun K277 hK277 => ?_
      refine wp_region_lit ?_
      refine op_p F276 (.string s) (by kernel_rfl) rfl rfl rfl (by kernel_rfl) rfl ?_; intro a278 F278
      refine op_p F278 (.string s) (by kernel_rfl) rfl rfl rfl (by kernel_rfl) rfl ?_; intro a279 F279
      refine wpList_nil ?_
      refine hK277 _ _ ?_; clear hK277 K277
      refine wp_ret ?_
      refine ret_then ?_
      refine (F279.res1 rfl (v := .string s) (by kernel_rfl) ?_).1
      exact ⟨(ret_str (by have h := he; rw [exF_end (Nat.le_refl _), app_emp] at h; first | exact h | (rw [emp_app] at h; rw [← h]; simp))), S10.drop⟩
    · subst hA275
      refine op_p F274 (.bool false) (by kernel_rfl) rfl rfl rfl (by kernel_rfl) rfl ?_; intro a280 F280
      refine wpList_nil ?_
      refine hK273 _ _ ?_; clear hK273 K273
      refine wp_cond_false (F280.ev (by kernel_rfl)) ?_
      refine wp_skip ?_
      refine hK272 _ _ ?_; clear hK272 K272
      refine wp_seq_k fun K281 hK281 => ?_
      refine wp_region_sep (L0 := SA.own (.slice (some ⟨gn275, 0, none⟩) b.size cb) 5 1 b.size (strCells b) :: L) [some [], some [(0, 74)], some [], some [], some [(2, 76), (3, 77)], some [(1, 75), (4, 78)], some [(5, 79)]] [(SA.emp, fun u A => u = .slice (some ⟨gn275, 0, none⟩) b.size cb ∧ A = SA.emp), (SA.emp, fun u A => u = .string b ∧ A = SA.emp), (SA.emp, fun u A => u = .string s ∧ A = SA.emp), (SA.emp, fun u A => u = .int .i64 (↑i) ∧ A = SA.emp), (SA.emp, fun u A => u = .string (s.extract i s.size) ∧ A = SA.emp), (SA.emp, fun u A => u = .string (b ++ (s.extract i s.size)) ∧ A = SA.emp), (SA.emp, fun u A => u = .string (b ++ (s.extract i s.size)) ∧ A = SA.emp)] 80 rfl F280.size rfl (by kernel_rfl) S10.emp.emp.emp.emp.emp.emp.emp ?_ ?_
      · refine ⟨?_, ?_, ?_, ?_, ?_, ?_, ?_, trivial⟩
        · intro w295 M295 S295
          refine deps_nil ?_
          refine obl_of (by rfl) ?_
          exact s_p F280 (v := .slice (some ⟨gn275, 0, none⟩) b.size cb) (by kernel_rfl) (by kernel_rfl) (by kernel_rfl) S295
        · intro w296 M296 S296
          rintro _ _ ⟨rfl, rfl⟩ hA297
          have F297 := F280.put (d := 74) (v := .slice (some ⟨gn275, 0, none⟩) b.size cb) (by decide)
          refine deps_nil ?_
          refine obl_of (by rfl) ?_
          exact s_r (v := .string b) (r_b2s rfl Try.underlying148 Try.underlying5 Try.underlying9 (F297.ev (v := .slice (some ⟨gn275, 0, none⟩) b.size cb) (by kernel_rfl)) ((Sp.dropM S296.drop).ow 0 rfl)) S296
        · intro w298 M298 S298
          refine deps_nil ?_
          refine obl_of (by rfl) ?_
          exact s_p F280 (v := .string s) (by kernel_rfl) (by kernel_rfl) (by kernel_rfl) S298
        · intro w299 M299 S299
          refine deps_nil ?_
          refine obl_of (by rfl) ?_
          exact s_p F280 (v := .int .i64 (↑i)) (by kernel_rfl) (by kernel_rfl) (by kernel_rfl) S299
        · intro w300 M300 S300
          rintro _ _ ⟨rfl, rfl⟩ hA301
          have F301 := F280.put (d := 76) (v := .string s) (by decide)
          rintro _ _ ⟨rfl, rfl⟩ hA302
          have F302 := F301.put (d := 77) (v := .int .i64 (↑i)) (by decide)
          refine deps_nil ?_
          refine obl_of (by rfl) ?_
          exact s_r (v := .string (s.extract i s.size)) (r_sll rfl Try.underlying9 (F302.ev (v := .string s) (by kernel_rfl)) (F302.ev (v := .int .i64 (↑i)) (by kernel_rfl))  i s.size (by first | rfl | omega | (simp; done) | (simp; omega)) (by first | omega | (simp; done) | (simp; omega)) (rfl)) S300
        · intro w303 M303 S303
          rintro _ _ ⟨rfl, rfl⟩ hA304
          have F304 := F280.put (d := 75) (v := .string b) (by decide)
          rintro _ _ ⟨rfl, rfl⟩ hA305
          have F305 := F304.put (d := 78) (v := .string (s.extract i s.size)) (by decide)
          refine deps_nil ?_
          refine obl_of (by rfl) ?_
          exact s_r (v := .string (b ++ (s.extract i s.size))) (r_sadd rfl (F305.ev (v := .string b) (by kernel_rfl)) (F305.ev (v := .string (s.extract i s.size)) (by kernel_rfl)) (by first | omega | (simp only [ByteArray.size_append, ByteArray.size_extract]; omega) | (simp; omega))) S303
        · intro w306 M306 S306
          rintro _ _ ⟨rfl, rfl⟩ hA307
          have F307 := F280.put (d := 79) (v := .string (b ++ (s.extract i s.size))) (by decide)
          refine deps_nil ?_
          refine obl_of (by rfl) ?_
          exact s_p F307 (v := .string (b ++ (s.extract i s.size))) (by kernel_rfl) (by kernel_rfl) (by kernel_rfl) S306
      · rintro _ _ ⟨rfl, rfl⟩
        have F309 := F280.put (d := 74) (v := .slice (some ⟨gn275, 0, none⟩) b.size cb) (by decide)
        rintro _ _ ⟨rfl, rfl⟩
        have F310 := F309.put (d := 75) (v := .string b) (by decide)
        rintro _ _ ⟨rfl, rfl⟩
        have F311 := F310.put (d := 76) (v := .string s) (by decide)
        rintro _ _ ⟨rfl, rfl⟩
        have F312 := F311.put (d := 77) (v := .int .i64 (↑i)) (by decide)
        rintro _ _ ⟨rfl, rfl⟩
        have F313 := F312.put (d := 78) (v := .string (s.extract i s.size)) (by decide)
        rintro _ _ ⟨rfl, rfl⟩
        have F314 := F313.put (d := 79) (v := .string (b ++ (s.extract i s.size))) (by decide)
        rintro _ _ ⟨rfl, rfl⟩
        have F315 := F314.put (d := 4) (v := .string (b ++ (s.extract i s.size))) (by decide)
        intro w308 S308
        have S316 := S308.drop
        have S317 := S316.drop
        have S318 := S317.drop
        have S319 := S318.drop
        have S320 := S319.drop
        have S321 := S320.drop
        have S322 := S321.drop
        refine wpList_nil ?_
        refine hK281 _ _ ?_; clear hK281 K281
        refine wp_ret ?_
        refine (F315.res1 rfl (v := .string (b ++ (s.extract i s.size))) (by kernel_rfl) ?_).1
        exact ⟨(ret_str (by have h := he; rw [exF_end (Nat.le_refl _), app_emp] at h; first | exact h | (rw [emp_app] at h; rw [← h]; simp))), S322.drop⟩
end Go.Proofs.Ytkjcedlgljeoiaa
