/- spec.HlJoin, HlURL. -/
import Derived.Test.YtkjcedlgljeoiaaU3
namespace Go.Proofs.Ytkjcedlgljeoiaa
open Go.RowKit Go.Lib
set_option linter.unusedVariables false
set_option linter.unusedSimpArgs false
theorem pieces47_any (s : ByteArray) (ps : List ByteArray) (w : World) (hs : s.size ≤ 1000000) (hps : ps = splitF ⟨#[47]⟩ (s.size + 1) s) :
    Calls Try.prog 91 #[.string s, .int .u8 47] w fun e w' => ∃ (A : Option Addr) (c : Nat), e = .returned (.slice A ps.length c) ∧ w'.ownsRow w.heap.size 9 1 (.slice A ps.length c) ps.length (strs ps) ∧ Below w.heap.size w w' := by
  subst hps
  refine (pieces_any s 47 w hs).mono fun e w' ⟨v, he, ho, hb⟩ => ?_
  obtain ⟨A, c, rfl, _⟩ := own_form ho
  exact ⟨A, c, he, ho, hb⟩
theorem split_size {s : ByteArray} {c : UInt8} : ∀ (K : Nat), ∀ x ∈ splitF ⟨#[c]⟩ K s, x.size ≤ s.size := fun K x hx => by
  have h := splitF_sum ⟨#[c]⟩ K s
  have h2 : ∀ l : List ByteArray, x ∈ l → x.size ≤ szSum l := fun l => by
    induction l with
    | nil => intro h; cases h
    | cons a l ih =>
      intro h
      simp only [szSum, List.map_cons, List.sum_cons]
      rcases List.mem_cons.1 h with rfl | h
      · omega
      · have := ih h; simp only [szSum] at this; omega
  have := h2 _ hx
  omega
theorem joinF_ne2 {xs : List ByteArray} {o : ByteArray} (ho : o = joinF ⟨#[47]⟩ (neL xs)) (h : (o.toList == (⟨#[]⟩ : ByteArray).toList) = false) : neL xs ≠ [] := fun hh => by
  rw [ho, joinF_nil2 hh] at h; simp at h
theorem fold_take {r : Bool} {ps : List ByteArray} {k : Nat} (h : k < ps.length) : (ps.take (k + 1)).foldl (push r) [] = push r ((ps.take k).foldl (push r) []) ps[k] := by
  rw [take_snoc h, List.foldl_append]; rfl
set_option maxRecDepth 100000 in
set_option maxHeartbeats 20000000 in
theorem hlJoin_any (A : Option Addr) (c : Nat) (xs : List ByteArray) (R : Ctx) (L : List SA) (w : World) (S : Sp R w (L)) (h0 : Rf R L fun w => Sl w (A) (strs xs)) (hn : xs.length ≤ 30) (hx : ∀ x ∈ xs, x.size ≤ 300) :
    Calls Try.prog 80 #[.slice (A) (xs.length) (c)] w fun e w' => e = .returned (.string (joinP xs)) ∧ Sp R w' (L) := by
  have hl_xs : xs.length ≤ 9223372036854775807 := by have := (h0 _ S).1; simpa [strs, ptrs] using this
  refine fw_enter (fn := Try.f80) rfl rfl 89 rfl (Nat.le_of_ble_eq_true rfl) ?_
  intro a0 F0
  refine wp_seq_k fun K1 hK1 => ?_
  refine wp_region_lit ?_
  refine op_p F0 (.string ⟨#[]⟩) (by kernel_rfl) rfl rfl rfl (by kernel_rfl) rfl ?_; intro a2 F2
  refine wpList_nil ?_
  refine hK1 _ _ ?_; clear hK1 K1
  refine wp_seq_k fun K3 hK3 => ?_
  refine wp_region_lit ?_
  refine op_p F2 (.string ⟨#[]⟩) (by kernel_rfl) rfl rfl rfl (by kernel_rfl) rfl ?_; intro a4 F4
  refine wpList_nil ?_
  refine hK3 _ _ ?_; clear hK3 K3
  refine wp_seq_k fun K5 hK5 => ?_
  refine wp_seq_k fun K6 hK6 => ?_
  refine wp_region_lit ?_
  refine op_p F4 (.slice (A) (xs.length) (c)) (by kernel_rfl) rfl rfl rfl (by kernel_rfl) rfl ?_; intro a7 F7
  refine op_p F7 (.int .i64 (↑xs.length)) (by kernel_rfl) rfl rfl rfl (by kernel_rfl) rfl ?_; intro a8 F8
  refine op_p F8 (.int .i64 0) (by kernel_rfl) rfl rfl rfl (by kernel_rfl) rfl ?_; intro a9 F9
  refine wpList_nil ?_
  refine hK6 _ _ ?_; clear hK6 K6
  refine wp_block ?_
  refine fw_loop (fun m a' w' => ∃ k : Nat, ∃ o : ByteArray, xs.length - k = m ∧ Fr 89 [] a' [(0, .slice (A) (xs.length) (c)), (2, .string ⟨#[]⟩), (3, .string o), (11, .slice (A) (xs.length) (c)), (12, .int .i64 (↑xs.length)), (13, .int .i64 (↑k))] ∧ Sp R w' (L) ∧ (k ≤ xs.length) ∧ (o = joinF ⟨#[47]⟩ (neL (xs.take k)))) _ ⟨0, ⟨#[]⟩, rfl, (F9.k 0 (by kernel_rfl) (F9.k 2 (by kernel_rfl) (F9.k 3 (by kernel_rfl) (F9.k 11 (by kernel_rfl) (F9.k 12 (by kernel_rfl) (F9.k 13 (by kernel_rfl) F9.nil)))))), S, (by first | omega | (with_reducible assumption) | (simp; done)), rfl⟩ ?_
  rintro m10 a10 w10 ⟨k, o, hm10, F10, S10, hk, ho⟩ K10 hK10
  by_cases hlt_k : k < xs.length
  · have hc_k : decide ((↑k : Int) < ↑xs.length) = true := by first | (simp; done) | (simp; omega)
    have hxk := hx _ (List.getElem_mem hlt_k)
    have hjl := neL_size (k := k) hx
    rw [← ho] at hjl
    obtain ⟨ad11, hA11⟩ := (h0 _ S10).addr (by simp [strs, ptrs]; omega)
    refine wp_seq_k fun K12 hK12 => ?_
    refine wp_region_lit ?_
    refine op_p F10 (.bool (decide ((↑k : Int) < ↑xs.length))) (by kernel_rfl) rfl rfl rfl (by kernel_rfl) rfl ?_; intro a13 F13
    have F14 := F13.sb 14 (by kernel_rfl) hc_k
    refine wpList_nil ?_
    refine hK12 _ _ ?_; clear hK12 K12
    refine wp_seq_k fun K15 hK15 => ?_
    refine wp_cond_true (F14.ev (by kernel_rfl)) ?_
    refine wp_skip ?_
    refine hK15 _ _ ?_; clear hK15 K15
    refine wp_seq_k fun K16 hK16 => ?_
    refine wp_block ?_
    refine wp_seq_k fun K17 hK17 => ?_
    refine wp_region_lit ?_
    refine op_r (v := .pointer (some (ad11.add k))) F14 (r_ix rfl Try.underlying22 1 (by kernel_rfl) (F14.ev (v := .slice (A) (xs.length) (c)) (by kernel_rfl)) hA11 (F14.ev (v := .int .i64 (↑k)) (by kernel_rfl)) k (by first | rfl | omega | simp) (by first | omega | (simp; done) | (simp; omega)) (by simp only [Nat.mul_one])) rfl rfl rfl ?_; intro a18 F18
    refine op_r (v := .string xs[k]) F18 (r_ld rfl (F18.ev (v := .pointer (some (ad11.add k))) (by kernel_rfl)) (v := .string xs[k]) ((h0 _ S10).elA hA11 (j := k) (by simp [strs, hlt_k])) Try.underlying9 rfl) rfl rfl rfl ?_; intro a19 F19
    refine op_p F19 (.string xs[k]) (by kernel_rfl) rfl rfl rfl (by kernel_rfl) rfl ?_; intro a20 F20
    refine wpList_nil ?_
    refine hK17 _ _ ?_; clear hK17 K17
    refine wp_seq_k fun K21 hK21 => ?_
    refine wp_seq_k fun K22 hK22 => ?_
    refine wp_region_lit ?_
    refine op_p F20 (.string xs[k]) (by kernel_rfl) rfl rfl rfl (by kernel_rfl) rfl ?_; intro a23 F23
    refine op_p F23 (.bool (xs[k].toList == (⟨#[]⟩ : ByteArray).toList)) (by kernel_rfl) rfl rfl rfl (by kernel_rfl) rfl ?_; intro a24 F24
    refine wpList_nil ?_
    refine hK22 _ _ ?_; clear hK22 K22
    rcases btf (xs[k].toList == (⟨#[]⟩ : ByteArray).toList) with hc25 | hc25
    · have F26 := F24.sb 18 (by kernel_rfl) hc25
      refine wp_cond_true (F26.ev (by kernel_rfl)) ?_
      refine wp_exit ?_
      refine ex_then ?_; clear hK21 K21
      refine ex_in ?_
      refine hK16 _ _ ?_; clear hK16 K16
      refine wp_region_lit ?_
      refine op_r (v := .int .i64 (↑(k + 1))) F26 (r_add (z := ↑(k + 1)) rfl (F26.ev (v := .int .i64 (↑k)) (by kernel_rfl)) (F26.ev (v := .int .i64 1) (by kernel_rfl)) (wr64 (by omega) (by omega) (by omega))) rfl rfl rfl ?_; intro a27 F27
      refine op_p F27 (.int .i64 (↑(k + 1))) (by kernel_rfl) rfl rfl rfl (by kernel_rfl) rfl ?_; intro a28 F28
      refine wpList_nil ?_
      exact hK10 _ _ _ (by first | omega | (simp; omega)) ⟨k + 1, o, rfl, (F28.k 0 (by kernel_rfl) (F28.k 2 (by kernel_rfl) (F28.k 3 (by kernel_rfl) (F28.k 11 (by kernel_rfl) (F28.k 12 (by kernel_rfl) (F28.k 13 (by kernel_rfl) F28.nil)))))), S10, (by first | omega | (with_reducible assumption) | (simp; done)), (by rw [neL_no hlt_k hc25]; exact ho)⟩
    · have F29 := F24.sb 18 (by kernel_rfl) hc25
      refine wp_cond_false (F29.ev (by kernel_rfl)) ?_
      refine wp_skip ?_
      refine hK21 _ _ ?_; clear hK21 K21
      refine wp_seq_k fun K30 hK30 => ?_
      refine wp_seq_k fun K31 hK31 => ?_
      refine wp_region_lit ?_
      refine op_p F29 (.string o) (by kernel_rfl) rfl rfl rfl (by kernel_rfl) rfl ?_; intro a32 F32
      refine op_p F32 (.bool (!(o.toList == (⟨#[]⟩ : ByteArray).toList))) (by kernel_rfl) rfl rfl rfl (by kernel_rfl) rfl ?_; intro a33 F33
      refine wpList_nil ?_
      refine hK31 _ _ ?_; clear hK31 K31
      rcases btf (o.toList == (⟨#[]⟩ : ByteArray).toList) with hc34 | hc34
      · have F35 := F33.sb 20 (by kernel_rfl) (show (!(o.toList == (⟨#[]⟩ : ByteArray).toList)) = false by rw [hc34]; rfl)
        refine wp_cond_false (F35.ev (by kernel_rfl)) ?_
        refine wp_skip ?_
        refine hK30 _ _ ?_; clear hK30 K30
        refine wp_region_lit ?_
        refine op_p F35 (.string o) (by kernel_rfl) rfl rfl rfl (by kernel_rfl) rfl ?_; intro a36 F36
        refine op_p F36 (.string xs[k]) (by kernel_rfl) rfl rfl rfl (by kernel_rfl) rfl ?_; intro a37 F37
        refine op_r (v := .string (o ++ xs[k])) F37 (r_sadd rfl (F37.ev (v := .string o) (by kernel_rfl)) (F37.ev (v := .string xs[k]) (by kernel_rfl)) (by show o.size + xs[k].size ≤ 9223372036854775807; first | omega | (rw [ByteArray.size_append]; show _ + 1 + _ ≤ _; omega) | (have hjl := joinF_le (sep := ⟨#[47]⟩) (k := l.length) hxl; rw [List.take_length] at hjl; have hkb : l.length * (100000 + (⟨#[47]⟩ : ByteArray).size) ≤ 100000 * 101000 := Nat.mul_le_mul (by omega) (by decide); omega))) rfl rfl rfl ?_; intro a38 F38
        refine op_p F38 (.string (o ++ xs[k])) (by kernel_rfl) rfl rfl rfl (by kernel_rfl) rfl ?_; intro a39 F39
        refine wpList_nil ?_
        refine hK16 _ _ ?_; clear hK16 K16
        refine wp_region_lit ?_
        refine op_r (v := .int .i64 (↑(k + 1))) F39 (r_add (z := ↑(k + 1)) rfl (F39.ev (v := .int .i64 (↑k)) (by kernel_rfl)) (F39.ev (v := .int .i64 1) (by kernel_rfl)) (wr64 (by omega) (by omega) (by omega))) rfl rfl rfl ?_; intro a40 F40
        refine op_p F40 (.int .i64 (↑(k + 1))) (by kernel_rfl) rfl rfl rfl (by kernel_rfl) rfl ?_; intro a41 F41
        refine wpList_nil ?_
        exact hK10 _ _ _ (by first | omega | (simp; omega)) ⟨k + 1, (o ++ xs[k]), rfl, (F41.k 0 (by kernel_rfl) (F41.k 2 (by kernel_rfl) (F41.k 3 (by kernel_rfl) (F41.k 11 (by kernel_rfl) (F41.k 12 (by kernel_rfl) (F41.k 13 (by kernel_rfl) F41.nil)))))), S10, (by first | omega | (with_reducible assumption) | (simp; done)), (by have hne := joinF_ne (by rw [← ho]; exact hc34); rw [neL_yes hlt_k hc25, hne, ho, joinF_nil2 hne]; exact emp_app2 _)⟩
      · have hpos := ne_size hc34
        have F42 := F33.sb 20 (by kernel_rfl) (show (!(o.toList == (⟨#[]⟩ : ByteArray).toList)) = true by rw [hc34]; rfl)
        refine wp_cond_true (F42.ev (by kernel_rfl)) ?_
        refine wp_region_lit ?_
        refine op_p F42 (.string o) (by kernel_rfl) rfl rfl rfl (by kernel_rfl) rfl ?_; intro a43 F43
        refine op_r (v := .string (o ++ (⟨#[47]⟩ : ByteArray))) F43 (r_sadd rfl (F43.ev (v := .string o) (by kernel_rfl)) (F43.ev (v := .string ⟨#[47]⟩) (by kernel_rfl)) (by show o.size + 1 ≤ 9223372036854775807; first | omega | (rw [ByteArray.size_append]; show _ + 1 + _ ≤ _; omega) | (have hjl := joinF_le (sep := ⟨#[47]⟩) (k := l.length) hxl; rw [List.take_length] at hjl; have hkb : l.length * (100000 + (⟨#[47]⟩ : ByteArray).size) ≤ 100000 * 101000 := Nat.mul_le_mul (by omega) (by decide); omega))) rfl rfl rfl ?_; intro a44 F44
        refine op_p F44 (.string (o ++ (⟨#[47]⟩ : ByteArray))) (by kernel_rfl) rfl rfl rfl (by kernel_rfl) rfl ?_; intro a45 F45
        refine wpList_nil ?_
        refine hK30 _ _ ?_; clear hK30 K30
        refine wp_region_lit ?_
        refine op_p F45 (.string (o ++ (⟨#[47]⟩ : ByteArray))) (by kernel_rfl) rfl rfl rfl (by kernel_rfl) rfl ?_; intro a46 F46
        refine op_p F46 (.string xs[k]) (by kernel_rfl) rfl rfl rfl (by kernel_rfl) rfl ?_; intro a47 F47
        refine op_r (v := .string ((o ++ (⟨#[47]⟩ : ByteArray)) ++ xs[k])) F47 (r_sadd rfl (F47.ev (v := .string (o ++ (⟨#[47]⟩ : ByteArray))) (by kernel_rfl)) (F47.ev (v := .string xs[k]) (by kernel_rfl)) (by show (o ++ (⟨#[47]⟩ : ByteArray)).size + xs[k].size ≤ 9223372036854775807; first | omega | (rw [ByteArray.size_append]; show _ + 1 + _ ≤ _; omega) | (have hjl := joinF_le (sep := ⟨#[47]⟩) (k := l.length) hxl; rw [List.take_length] at hjl; have hkb : l.length * (100000 + (⟨#[47]⟩ : ByteArray).size) ≤ 100000 * 101000 := Nat.mul_le_mul (by omega) (by decide); omega))) rfl rfl rfl ?_; intro a48 F48
        refine op_p F48 (.string ((o ++ (⟨#[47]⟩ : ByteArray)) ++ xs[k])) (by kernel_rfl) rfl rfl rfl (by kernel_rfl) rfl ?_; intro a49 F49
        refine wpList_nil ?_
        refine hK16 _ _ ?_; clear hK16 K16
        refine wp_region_lit ?_
        refine op_r (v := .int .i64 (↑(k + 1))) F49 (r_add (z := ↑(k + 1)) rfl (F49.ev (v := .int .i64 (↑k)) (by kernel_rfl)) (F49.ev (v := .int .i64 1) (by kernel_rfl)) (wr64 (by omega) (by omega) (by omega))) rfl rfl rfl ?_; intro a50 F50
        refine op_p F50 (.int .i64 (↑(k + 1))) (by kernel_rfl) rfl rfl rfl (by kernel_rfl) rfl ?_; intro a51 F51
        refine wpList_nil ?_
        exact hK10 _ _ _ (by first | omega | (simp; omega)) ⟨k + 1, ((o ++ (⟨#[47]⟩ : ByteArray)) ++ xs[k]), rfl, (F51.k 0 (by kernel_rfl) (F51.k 2 (by kernel_rfl) (F51.k 3 (by kernel_rfl) (F51.k 11 (by kernel_rfl) (F51.k 12 (by kernel_rfl) (F51.k 13 (by kernel_rfl) F51.nil)))))), S10, (by first | omega | (with_reducible assumption) | (simp; done)), (by rw [neL_yes hlt_k hc25, joinF_grow (joinF_ne2 ho hc34), ← ho])⟩
  · have hc_k : decide ((↑k : Int) < ↑xs.length) = false := by first | (simp; done) | (simp; omega)
    have hoo : o = joinF ⟨#[47]⟩ (neL xs) := by rw [ho, List.take_of_length_le (by omega)]
    have hjl := neL_size (k := xs.length) hx
    rw [List.take_length, ← hoo] at hjl
    refine wp_seq_k fun K52 hK52 => ?_
    refine wp_region_lit ?_
    refine op_p F10 (.bool (decide ((↑k : Int) < ↑xs.length))) (by kernel_rfl) rfl rfl rfl (by kernel_rfl) rfl ?_; intro a53 F53
    have F54 := F53.sb 14 (by kernel_rfl) hc_k
    refine wpList_nil ?_
    refine hK52 _ _ ?_; clear hK52 K52
    refine wp_seq_k fun K55 hK55 => ?_
    refine wp_cond_false (F54.ev (by kernel_rfl)) ?_
    refine wp_exit ?_
    refine ex_then ?_; clear hK55 K55
    refine ex_then ?_
    refine ex_in ?_
    refine hK5 _ _ ?_; clear hK5 K5
    refine wp_seq_k fun K56 hK56 => ?_
    refine wp_seq_k fun K57 hK57 => ?_
    refine wp_region_lit ?_
    refine op_p F54 (.string o) (by kernel_rfl) rfl rfl rfl (by kernel_rfl) rfl ?_; intro a58 F58
    refine op_p F58 (.bool (o.toList == (⟨#[]⟩ : ByteArray).toList)) (by kernel_rfl) rfl rfl rfl (by kernel_rfl) rfl ?_; intro a59 F59
    refine wpList_nil ?_
    refine hK57 _ _ ?_; clear hK57 K57
    rcases btf (o.toList == (⟨#[]⟩ : ByteArray).toList) with hc60 | hc60
    · have F61 := F59.sb 28 (by kernel_rfl) hc60
      refine wp_cond_true (F61.ev (by kernel_rfl)) ?_
      refine wp_seq_k fun K62 hK62 => ?_
      refine wp_region_lit ?_
      refine op_p F61 (.string ⟨#[]⟩) (by kernel_rfl) rfl rfl rfl (by kernel_rfl) rfl ?_; intro a63 F63
      refine wpList_nil ?_
      refine hK62 _ _ ?_; clear hK62 K62
      refine wp_ret ?_
      refine ret_then ?_
      refine (F63.res1 rfl (v := .string ⟨#[]⟩) (by kernel_rfl) ?_).1
      exact ⟨(ret_str (joinP_e (joinF_ne (by rw [← hoo]; exact hc60))).symm), S10⟩
    · have hpos := ne_size hc60
      have F64 := F59.sb 28 (by kernel_rfl) hc60
      refine wp_cond_false (F64.ev (by kernel_rfl)) ?_
      refine wp_skip ?_
      refine hK56 _ _ ?_; clear hK56 K56
      refine wp_seq_k fun K65 hK65 => ?_
      refine wp_region_lit ?_
      refine op_p F64 (.string o) (by kernel_rfl) rfl rfl rfl (by kernel_rfl) rfl ?_; intro a66 F66
      refine op_r (v := .int .u8 (↑o[0].toNat)) F66 (r_index rfl Try.underlying9 (F66.ev (v := .string o) (by kernel_rfl)) (F66.ev (v := .int .i64 0) (by kernel_rfl)) 0 (by first | rfl | omega | simp) (by first | omega | (simp; done) | (simp; omega))) rfl rfl rfl ?_; intro a67 F67
      refine op_p F67 (.bool ((↑o[0].toNat : Int) == 47)) (by kernel_rfl) rfl rfl rfl (by kernel_rfl) rfl ?_; intro a68 F68
      refine op_p F68 (.bool ((↑o[0].toNat : Int) == 47)) (by kernel_rfl) rfl rfl rfl (by kernel_rfl) rfl ?_; intro a69 F69
      refine wpList_nil ?_
      refine hK65 _ _ ?_; clear hK65 K65
      refine wp_seq_k fun K70 hK70 => ?_
      refine wp_region_lit ?_
      refine op_p F69 (.slice none 0 0) (by kernel_rfl) rfl rfl rfl (by kernel_rfl) rfl ?_; intro a71 F71
      refine wpList_nil ?_
      refine hK70 _ _ ?_; clear hK70 K70
      refine wp_seq_k fun K72 hK72 => ?_
      refine wp_seq_k fun K73 hK73 => ?_
      refine wp_region_lit ?_
      refine op_p F71 (.string o) (by kernel_rfl) rfl rfl rfl (by kernel_rfl) rfl ?_; intro a74 F74
      obtain ⟨ps, hps⟩ : ∃ ps, ps = splitF ⟨#[47]⟩ (o.size + 1) o := ⟨_, rfl⟩
      refine op_c F74 (f := 91) (args := #[.string o, .int .u8 47]) (by kernel_rfl) (by kernel_rfl) rfl (pieces47_any o ps _ (by first | omega | (simp; done) | (simp; omega)) hps) rfl rfl rfl ?_
      rintro _ w75 ⟨A75, c75, rfl, hp0_75, hb_75⟩
      refine ⟨_, rfl, ?_⟩
      intro a76 F76
      have S75 := S10.newown hb_75 hp0_75
      refine op_p F76 (.int .i64 (↑ps.length)) (by kernel_rfl) rfl rfl rfl (by kernel_rfl) rfl ?_; intro a77 F77
      refine op_p F77 (.int .i64 0) (by kernel_rfl) rfl rfl rfl (by kernel_rfl) rfl ?_; intro a78 F78
      refine wpList_nil ?_
      refine hK73 _ _ ?_; clear hK73 K73
      refine wp_block ?_
      have hpz : ∀ x ∈ ps, x.size ≤ o.size := by rw [hps]; exact split_size _
      have hpl : ps.length ≤ o.size + 1 := by rw [hps]; exact splitF_len _ (by decide) _ _
      refine fw_loop (fun m a' w' => ∃ Ab : Option Addr, ∃ cb : Nat, ∃ l : List ByteArray, ∃ k : Nat, ps.length - k = m ∧ Fr 89 [] a' [(0, .slice (A) (xs.length) (c)), (2, .string ⟨#[]⟩), (3, .string o), (6, .bool ((↑o[0].toNat : Int) == 47)), (7, .slice Ab l.length cb), (11, .slice (A) (xs.length) (c)), (12, .int .i64 (↑xs.length)), (14, .bool false), (27, .string o), (28, .bool false), (29, .string o), (30, .int .u8 (↑o[0].toNat)), (31, .bool ((↑o[0].toNat : Int) == 47)), (32, .string o), (33, .slice A75 (ps.length) c75), (34, .int .i64 (↑ps.length)), (35, .int .i64 (↑k))] ∧ Sp R w' (SA.own (.slice Ab l.length cb) 9 1 l.length (strs l) :: SA.own (.slice A75 ps.length c75) 9 1 ps.length (strs ps) :: L) ∧ (k ≤ ps.length) ∧ (l = (ps.take k).foldl (push ((↑o[0].toNat : Int) == 47)) []) ∧ (l.length ≤ k) ∧ (∀ x ∈ l, x.size ≤ o.size)) _ ⟨none, 0, [], 0, rfl, (F78.k 0 (by kernel_rfl) (F78.k 2 (by kernel_rfl) (F78.k 3 (by kernel_rfl) (F78.k 6 (by kernel_rfl) (F78.k 7 (by kernel_rfl) (F78.k 11 (by kernel_rfl) (F78.k 12 (by kernel_rfl) (F78.k 14 (by kernel_rfl) (F78.k 27 (by kernel_rfl) (F78.k 28 (by kernel_rfl) (F78.k 29 (by kernel_rfl) (F78.k 30 (by kernel_rfl) (F78.k 31 (by kernel_rfl) (F78.k 32 (by kernel_rfl) (F78.k 33 (by kernel_rfl) (F78.k 34 (by kernel_rfl) (F78.k 35 (by kernel_rfl) F78.nil))))))))))))))))), (Sp.nilown S75), (by first | omega | (with_reducible assumption) | (simp; done)), rfl, (by simp), (fun x hx => by cases hx)⟩ ?_
      rintro m79 a79 w79 ⟨Ab, cb, l, k, hm79, F79, S79, hk, he, hl, hxl⟩ K79 hK79
      by_cases hlt_k : k < ps.length
      · have hc_k : decide ((↑k : Int) < ↑ps.length) = true := by first | (simp; done) | (simp; omega)
        obtain ⟨ad80, hA80⟩ := (own_sl1 (S79.ow 1 rfl) (by omega)).addr (by simp [strs]; omega)
        refine wp_seq_k fun K81 hK81 => ?_
        refine wp_region_lit ?_
        refine op_p F79 (.bool (decide ((↑k : Int) < ↑ps.length))) (by kernel_rfl) rfl rfl rfl (by kernel_rfl) rfl ?_; intro a82 F82
        have F83 := F82.sb 36 (by kernel_rfl) hc_k
        refine wpList_nil ?_
        refine hK81 _ _ ?_; clear hK81 K81
        refine wp_seq_k fun K84 hK84 => ?_
        refine wp_cond_true (F83.ev (by kernel_rfl)) ?_
        refine wp_skip ?_
        refine hK84 _ _ ?_; clear hK84 K84
        refine wp_seq_k fun K85 hK85 => ?_
        refine wp_block ?_
        refine wp_seq_k fun K86 hK86 => ?_
        refine wp_region_lit ?_
        refine op_r (v := .pointer (some (ad80.add k))) F83 (r_ix rfl Try.underlying22 1 (by kernel_rfl) (F83.ev (v := .slice A75 (ps.length) c75) (by kernel_rfl)) hA80 (F83.ev (v := .int .i64 (↑k)) (by kernel_rfl)) k (by first | rfl | omega | simp) (by first | omega | (simp; done) | (simp; omega)) (by simp only [Nat.mul_one])) rfl rfl rfl ?_; intro a87 F87
        refine op_r (v := .string ps[k]) F87 (r_ld rfl (F87.ev (v := .pointer (some (ad80.add k))) (by kernel_rfl)) (v := .string ps[k]) ((own_sl1 (S79.ow 1 rfl) (by omega)).elA hA80 (j := k) (by simp [strs, hlt_k])) Try.underlying9 rfl) rfl rfl rfl ?_; intro a88 F88
        refine op_p F88 (.string ps[k]) (by kernel_rfl) rfl rfl rfl (by kernel_rfl) rfl ?_; intro a89 F89
        refine wpList_nil ?_
        refine hK86 _ _ ?_; clear hK86 K86
        refine wp_block ?_
        refine wp_seq_k fun K90 hK90 => ?_
        refine wp_region_lit ?_
        refine op_p F89 (.string ps[k]) (by kernel_rfl) rfl rfl rfl (by kernel_rfl) rfl ?_; intro a91 F91
        refine op_p F91 (.bool (ps[k].toList == (⟨#[]⟩ : ByteArray).toList)) (by kernel_rfl) rfl rfl rfl (by kernel_rfl) rfl ?_; intro a92 F92
        refine op_p F92 (.bool (ps[k].toList == (⟨#[]⟩ : ByteArray).toList)) (by kernel_rfl) rfl rfl rfl (by kernel_rfl) rfl ?_; intro a93 F93
        rcases btf (ps[k].toList == (⟨#[]⟩ : ByteArray).toList) with hc94 | hc94
        · have F95 := F93.sb 45 (by kernel_rfl) hc94
          have F96 := F95.sb 46 (by kernel_rfl) hc94
          refine op_skip F96 (by kernel_rfl) rfl rfl rfl ?_; intro a97 F97
          refine op_skip F97 (by kernel_rfl) rfl rfl rfl ?_; intro a98 F98
          refine op_p F98 (.bool true) (by kernel_rfl) rfl rfl rfl (by kernel_rfl) rfl ?_; intro a99 F99
          refine op_p F99 (.bool true) (by kernel_rfl) rfl rfl rfl (by kernel_rfl) rfl ?_; intro a100 F100
          refine wpList_nil ?_
          refine hK90 _ _ ?_; clear hK90 K90
          refine wp_cond_true (F100.ev (by kernel_rfl)) ?_
          refine wp_skip ?_
          refine hK85 _ _ ?_; clear hK85 K85
          refine wp_region_lit ?_
          refine op_r (v := .int .i64 (↑(k + 1))) F100 (r_add (z := ↑(k + 1)) rfl (F100.ev (v := .int .i64 (↑k)) (by kernel_rfl)) (F100.ev (v := .int .i64 1) (by kernel_rfl)) (wr64 (by omega) (by omega) (by omega))) rfl rfl rfl ?_; intro a101 F101
          refine op_p F101 (.int .i64 (↑(k + 1))) (by kernel_rfl) rfl rfl rfl (by kernel_rfl) rfl ?_; intro a102 F102
          refine wpList_nil ?_
          have hp : push ((↑o[0].toNat : Int) == 47) l ps[k] = l := by
            unfold push; simp only [hc94, Bool.false_eq_true, if_true, if_false]
          have hxs : ∀ x ∈ push ((↑o[0].toNat : Int) == 47) l ps[k], x.size ≤ o.size := push_all hxl (hpz _ (List.getElem_mem hlt_k))
          have hls : (push ((↑o[0].toNat : Int) == 47) l ps[k]).length ≤ k + 1 := by have := push_len (r := ((↑o[0].toNat : Int) == 47)) (l := l) (p := ps[k]); omega
          rw [hp] at hxs hls
          exact hK79 _ _ _ (by first | omega | (simp; omega)) ⟨Ab, cb, l, k + 1, rfl, (F102.k 0 (by kernel_rfl) (F102.k 2 (by kernel_rfl) (F102.k 3 (by kernel_rfl) (F102.k 6 (by kernel_rfl) (F102.k 7 (by kernel_rfl) (F102.k 11 (by kernel_rfl) (F102.k 12 (by kernel_rfl) (F102.k 14 (by kernel_rfl) (F102.k 27 (by kernel_rfl) (F102.k 28 (by kernel_rfl) (F102.k 29 (by kernel_rfl) (F102.k 30 (by kernel_rfl) (F102.k 31 (by kernel_rfl) (F102.k 32 (by kernel_rfl) (F102.k 33 (by kernel_rfl) (F102.k 34 (by kernel_rfl) (F102.k 35 (by kernel_rfl) F102.nil))))))))))))))))), S79.p1.p1, (by first | omega | (with_reducible assumption) | (simp; done)), (by rw [fold_take hlt_k, ← he, hp]), hls, hxs⟩
        · have F103 := F93.sb 45 (by kernel_rfl) hc94
          have F104 := F103.sb 46 (by kernel_rfl) hc94
          refine op_want F104 (by kernel_rfl) rfl ?_
          refine op_p F104 (.string ps[k]) (by kernel_rfl) rfl rfl rfl (by kernel_rfl) rfl ?_; intro a105 F105
          refine op_want F105 (by kernel_rfl) rfl ?_
          refine op_p F105 (.bool (ps[k].toList == (⟨#[46]⟩ : ByteArray).toList)) (by kernel_rfl) rfl rfl rfl (by kernel_rfl) rfl ?_; intro a106 F106
          refine op_p F106 (.bool (ps[k].toList == (⟨#[46]⟩ : ByteArray).toList)) (by kernel_rfl) rfl rfl rfl (by kernel_rfl) rfl ?_; intro a107 F107
          refine op_p F107 (.bool (ps[k].toList == (⟨#[46]⟩ : ByteArray).toList)) (by kernel_rfl) rfl rfl rfl (by kernel_rfl) rfl ?_; intro a108 F108
          refine wpList_nil ?_
          refine hK90 _ _ ?_; clear hK90 K90
          rcases btf (ps[k].toList == (⟨#[46]⟩ : ByteArray).toList) with hc109 | hc109
          · have F110 := F108.sb 48 (by kernel_rfl) hc109
            have F111 := F110.sb 49 (by kernel_rfl) hc109
            have F112 := F111.sb 43 (by kernel_rfl) hc109
            refine wp_cond_true (F112.ev (by kernel_rfl)) ?_
            refine wp_skip ?_
            refine hK85 _ _ ?_; clear hK85 K85
            refine wp_region_lit ?_
            refine op_r (v := .int .i64 (↑(k + 1))) F112 (r_add (z := ↑(k + 1)) rfl (F112.ev (v := .int .i64 (↑k)) (by kernel_rfl)) (F112.ev (v := .int .i64 1) (by kernel_rfl)) (wr64 (by omega) (by omega) (by omega))) rfl rfl rfl ?_; intro a113 F113
            refine op_p F113 (.int .i64 (↑(k + 1))) (by kernel_rfl) rfl rfl rfl (by kernel_rfl) rfl ?_; intro a114 F114
            refine wpList_nil ?_
            have hp : push ((↑o[0].toNat : Int) == 47) l ps[k] = l := by
              unfold push; simp only [hc94, hc109, Bool.false_eq_true, if_true, if_false]
            have hxs : ∀ x ∈ push ((↑o[0].toNat : Int) == 47) l ps[k], x.size ≤ o.size := push_all hxl (hpz _ (List.getElem_mem hlt_k))
            have hls : (push ((↑o[0].toNat : Int) == 47) l ps[k]).length ≤ k + 1 := by have := push_len (r := ((↑o[0].toNat : Int) == 47)) (l := l) (p := ps[k]); omega
            rw [hp] at hxs hls
            exact hK79 _ _ _ (by first | omega | (simp; omega)) ⟨Ab, cb, l, k + 1, rfl, (F114.k 0 (by kernel_rfl) (F114.k 2 (by kernel_rfl) (F114.k 3 (by kernel_rfl) (F114.k 6 (by kernel_rfl) (F114.k 7 (by kernel_rfl) (F114.k 11 (by kernel_rfl) (F114.k 12 (by kernel_rfl) (F114.k 14 (by kernel_rfl) (F114.k 27 (by kernel_rfl) (F114.k 28 (by kernel_rfl) (F114.k 29 (by kernel_rfl) (F114.k 30 (by kernel_rfl) (F114.k 31 (by kernel_rfl) (F114.k 32 (by kernel_rfl) (F114.k 33 (by kernel_rfl) (F114.k 34 (by kernel_rfl) (F114.k 35 (by kernel_rfl) F114.nil))))))))))))))))), S79.p1.p1, (by first | omega | (with_reducible assumption) | (simp; done)), (by rw [fold_take hlt_k, ← he, hp]), hls, hxs⟩
          · have F115 := F108.sb 48 (by kernel_rfl) hc109
            have F116 := F115.sb 49 (by kernel_rfl) hc109
            have F117 := F116.sb 43 (by kernel_rfl) hc109
            refine wp_cond_false (F117.ev (by kernel_rfl)) ?_
            refine wp_seq_k fun K118 hK118 => ?_
            refine wp_region_lit ?_
            refine op_p F117 (.string ps[k]) (by kernel_rfl) rfl rfl rfl (by kernel_rfl) rfl ?_; intro a119 F119
            refine op_p F119 (.bool (ps[k].toList == (⟨#[46, 46]⟩ : ByteArray).toList)) (by kernel_rfl) rfl rfl rfl (by kernel_rfl) rfl ?_; intro a120 F120
            refine op_p F120 (.bool (ps[k].toList == (⟨#[46, 46]⟩ : ByteArray).toList)) (by kernel_rfl) rfl rfl rfl (by kernel_rfl) rfl ?_; intro a121 F121
            rcases btf (ps[k].toList == (⟨#[46, 46]⟩ : ByteArray).toList) with hc122 | hc122
            · have F123 := F121.sb 52 (by kernel_rfl) hc122
              have F124 := F123.sb 53 (by kernel_rfl) hc122
              refine op_want F124 (by kernel_rfl) rfl ?_
              refine op_p F124 (.slice Ab l.length cb) (by kernel_rfl) rfl rfl rfl (by kernel_rfl) rfl ?_; intro a125 F125
              refine op_want F125 (by kernel_rfl) rfl ?_
              refine op_p F125 (.int .i64 (↑l.length)) (by kernel_rfl) rfl rfl rfl (by kernel_rfl) rfl ?_; intro a126 F126
              refine op_want F126 (by kernel_rfl) rfl ?_
              refine op_p F126 (.bool (decide ((0 : Int) < ↑l.length))) (by kernel_rfl) rfl rfl rfl (by kernel_rfl) rfl ?_; intro a127 F127
              refine op_p F127 (.bool (decide ((0 : Int) < ↑l.length))) (by kernel_rfl) rfl rfl rfl (by kernel_rfl) rfl ?_; intro a128 F128
              refine op_p F128 (.bool (decide ((0 : Int) < ↑l.length))) (by kernel_rfl) rfl rfl rfl (by kernel_rfl) rfl ?_; intro a129 F129
              rcases btf (decide ((0 : Int) < ↑l.length)) with hc130 | hc130
              · have hc130p := of_decide_eq_true hc130
                have hl0 : 0 < l.length := by omega
                have hll := lst_at hl0
                obtain ⟨ad131, hA131⟩ := (own_sl1 (S79.ow 0 rfl) (by omega)).addr (by simp [strs]; omega)
                have F132 := F129.sb 56 (by kernel_rfl) hc130
                have F133 := F132.sb 57 (by kernel_rfl) hc130
                have F134 := F133.sb 58 (by kernel_rfl) hc130
                refine op_want F134 (by kernel_rfl) rfl ?_
                refine op_p F134 (.slice Ab l.length cb) (by kernel_rfl) rfl rfl rfl (by kernel_rfl) rfl ?_; intro a135 F135
                refine op_want F135 (by kernel_rfl) rfl ?_
                refine op_p F135 (.slice Ab l.length cb) (by kernel_rfl) rfl rfl rfl (by kernel_rfl) rfl ?_; intro a136 F136
                refine op_want F136 (by kernel_rfl) rfl ?_
                refine op_p F136 (.int .i64 (↑l.length)) (by kernel_rfl) rfl rfl rfl (by kernel_rfl) rfl ?_; intro a137 F137
                refine op_want F137 (by kernel_rfl) rfl ?_
                refine op_r (v := .int .i64 (↑l.length - 1)) F137 (r_sub (z := (↑l.length - 1)) rfl (F137.ev (v := .int .i64 (↑l.length)) (by kernel_rfl)) (F137.ev (v := .int .i64 1) (by kernel_rfl)) (wr64 (by omega) (by omega) (by omega))) rfl rfl rfl ?_; intro a138 F138
                refine op_want F138 (by kernel_rfl) rfl ?_
                refine op_r (v := .pointer (some (ad131.add (l.length - 1)))) F138 (r_ix rfl Try.underlying22 1 (by kernel_rfl) (F138.ev (v := .slice Ab l.length cb) (by kernel_rfl)) hA131 (F138.ev (v := .int .i64 (↑l.length - 1)) (by kernel_rfl)) (l.length - 1) (by first | rfl | omega | simp) (by first | omega | (simp; done) | (simp; omega)) (by simp only [Nat.mul_one])) rfl rfl rfl ?_; intro a139 F139
                refine op_want F139 (by kernel_rfl) rfl ?_
                refine op_r (v := .string (l[l.length - 1])) F139 (r_ld rfl (F139.ev (v := .pointer (some (ad131.add (l.length - 1)))) (by kernel_rfl)) (v := .string (l[l.length - 1])) ((own_sl1 (S79.ow 0 rfl) (by omega)).elA hA131 (j := l.length - 1) (by simp [strs])) Try.underlying9 rfl) rfl rfl rfl ?_; intro a140 F140
                refine op_want F140 (by kernel_rfl) rfl ?_
                refine op_p F140 (.bool (!((l[l.length - 1]).toList == (⟨#[46, 46]⟩ : ByteArray).toList))) (by kernel_rfl) rfl rfl rfl (by kernel_rfl) rfl ?_; intro a141 F141
                refine op_p F141 (.bool (!((l[l.length - 1]).toList == (⟨#[46, 46]⟩ : ByteArray).toList))) (by kernel_rfl) rfl rfl rfl (by kernel_rfl) rfl ?_; intro a142 F142
                refine op_p F142 (.bool (!((l[l.length - 1]).toList == (⟨#[46, 46]⟩ : ByteArray).toList))) (by kernel_rfl) rfl rfl rfl (by kernel_rfl) rfl ?_; intro a143 F143
                refine wpList_nil ?_
                refine hK118 _ _ ?_; clear hK118 K118
                rcases btf ((l[l.length - 1]).toList == (⟨#[46, 46]⟩ : ByteArray).toList) with hc144 | hc144
                · have F145 := F143.sb 65 (by kernel_rfl) (show (!((l[l.length - 1]).toList == (⟨#[46, 46]⟩ : ByteArray).toList)) = false by rw [hc144]; rfl)
                  have F146 := F145.sb 66 (by kernel_rfl) (show (!((l[l.length - 1]).toList == (⟨#[46, 46]⟩ : ByteArray).toList)) = false by rw [hc144]; rfl)
                  have F147 := F146.sb 50 (by kernel_rfl) (show (!((l[l.length - 1]).toList == (⟨#[46, 46]⟩ : ByteArray).toList)) = false by rw [hc144]; rfl)
                  refine wp_cond_false (F147.ev (by kernel_rfl)) ?_
                  refine wp_seq_k fun K148 hK148 => ?_
                  refine wp_region_lit ?_
                  refine op_p F147 (.string ps[k]) (by kernel_rfl) rfl rfl rfl (by kernel_rfl) rfl ?_; intro a149 F149
                  refine op_p F149 (.bool (ps[k].toList == (⟨#[46, 46]⟩ : ByteArray).toList)) (by kernel_rfl) rfl rfl rfl (by kernel_rfl) rfl ?_; intro a150 F150
                  have F151 := F150.sb 74 (by kernel_rfl) hc122
                  refine op_p F151 (.bool true) (by kernel_rfl) rfl rfl rfl (by kernel_rfl) rfl ?_; intro a152 F152
                  refine op_want F152 (by kernel_rfl) rfl ?_
                  refine op_p F152 (.bool ((↑o[0].toNat : Int) == 47)) (by kernel_rfl) rfl rfl rfl (by kernel_rfl) rfl ?_; intro a153 F153
                  refine op_p F153 (.bool ((↑o[0].toNat : Int) == 47)) (by kernel_rfl) rfl rfl rfl (by kernel_rfl) rfl ?_; intro a154 F154
                  refine op_p F154 (.bool ((↑o[0].toNat : Int) == 47)) (by kernel_rfl) rfl rfl rfl (by kernel_rfl) rfl ?_; intro a155 F155
                  refine wpList_nil ?_
                  refine hK148 _ _ ?_; clear hK148 K148
                  rcases btf ((↑o[0].toNat : Int) == 47) with hc156 | hc156
                  · have hc156p := eq_of_beq hc156
                    have F157 := F155.sb 31 (by kernel_rfl) hc156
                    have F158 := F157.sb 6 (by kernel_rfl) hc156
                    have F159 := F158.sb 76 (by kernel_rfl) hc156
                    have F160 := F159.sb 77 (by kernel_rfl) hc156
                    have F161 := F160.sb 72 (by kernel_rfl) hc156
                    refine wp_cond_true (F161.ev (by kernel_rfl)) ?_
                    refine wp_skip ?_
                    refine hK85 _ _ ?_; clear hK85 K85
                    refine wp_region_lit ?_
                    refine op_r (v := .int .i64 (↑(k + 1))) F161 (r_add (z := ↑(k + 1)) rfl (F161.ev (v := .int .i64 (↑k)) (by kernel_rfl)) (F161.ev (v := .int .i64 1) (by kernel_rfl)) (wr64 (by omega) (by omega) (by omega))) rfl rfl rfl ?_; intro a162 F162
                    refine op_p F162 (.int .i64 (↑(k + 1))) (by kernel_rfl) rfl rfl rfl (by kernel_rfl) rfl ?_; intro a163 F163
                    refine wpList_nil ?_
                    have hp : push ((↑o[0].toNat : Int) == 47) l ps[k] = l := by
                      unfold push; simp only [hc94, hc109, hc122, hc144, hc156, hll, if_pos hl0, Bool.false_eq_true, if_true, if_false]
                    have hxs : ∀ x ∈ push ((↑o[0].toNat : Int) == 47) l ps[k], x.size ≤ o.size := push_all hxl (hpz _ (List.getElem_mem hlt_k))
                    have hls : (push ((↑o[0].toNat : Int) == 47) l ps[k]).length ≤ k + 1 := by have := push_len (r := ((↑o[0].toNat : Int) == 47)) (l := l) (p := ps[k]); omega
                    rw [hp] at hxs hls
                    exact hK79 _ _ _ (by first | omega | (simp; omega)) ⟨Ab, cb, l, k + 1, rfl, (F163.k 0 (by kernel_rfl) (F163.k 2 (by kernel_rfl) (F163.k 3 (by kernel_rfl) (F163.k 6 (by rw [hc156]; kernel_rfl) (F163.k 7 (by kernel_rfl) (F163.k 11 (by kernel_rfl) (F163.k 12 (by kernel_rfl) (F163.k 14 (by kernel_rfl) (F163.k 27 (by kernel_rfl) (F163.k 28 (by kernel_rfl) (F163.k 29 (by kernel_rfl) (F163.k 30 (by kernel_rfl) (F163.k 31 (by rw [hc156]; kernel_rfl) (F163.k 32 (by kernel_rfl) (F163.k 33 (by kernel_rfl) (F163.k 34 (by kernel_rfl) (F163.k 35 (by kernel_rfl) F163.nil))))))))))))))))), S79.p1.p1, (by first | omega | (with_reducible assumption) | (simp; done)), (by rw [fold_take hlt_k, ← he, hp]), hls, hxs⟩
                  · have hc156p := ne_of_beq_false hc156
                    have F164 := F155.sb 31 (by kernel_rfl) hc156
                    have F165 := F164.sb 6 (by kernel_rfl) hc156
                    have F166 := F165.sb 76 (by kernel_rfl) hc156
                    have F167 := F166.sb 77 (by kernel_rfl) hc156
                    have F168 := F167.sb 72 (by kernel_rfl) hc156
                    refine wp_cond_false (F168.ev (by kernel_rfl)) ?_
                    refine wp_region_lit ?_
                    refine op_p F168 (.slice Ab l.length cb) (by kernel_rfl) rfl rfl rfl (by kernel_rfl) rfl ?_; intro a169 F169
                    refine op_p F169 (.string ps[k]) (by kernel_rfl) rfl rfl rfl (by kernel_rfl) rfl ?_; intro a170 F170
                    refine op_s F170 (s_news F170 9 #[.string ps[k]] 1 (by kernel_rfl) (by kernel_rfl) (by kernel_rfl) S79) rfl rfl rfl ?_
                    rintro _ _ w172 ⟨g170, rfl, rfl⟩ S172 a172 F172
                    refine op_s F172 (s_app rfl Try.underlying22 1 _ tin9 rfl rfl (F172.ev (v := .slice Ab l.length cb) (by kernel_rfl)) S172.p1 ([Value.string ps[k]]) (F172.ev (v := .slice (some ⟨g170, 0, none⟩) 1 1) (by kernel_rfl)) ((S172.bk 0 rfl).sl (by simp)) rfl (by simp [Value.oneCell']) (by omega) (by omega) (n' := (l ++ [ps[k]]).length) (by first | (simp; done) | (simp; omega)) (cs' := strs (l ++ [ps[k]])) (by simp [strs])) rfl rfl rfl ?_
                    rintro _ _ w174 ⟨A173, c173, rfl, rfl⟩ S174 a174 F174
                    refine op_p F174 (.slice A173 ((l ++ [ps[k]]).length) c173) (by kernel_rfl) rfl rfl rfl (by kernel_rfl) rfl ?_; intro a175 F175
                    refine wpList_nil ?_
                    refine hK85 _ _ ?_; clear hK85 K85
                    refine wp_region_lit ?_
                    refine op_r (v := .int .i64 (↑(k + 1))) F175 (r_add (z := ↑(k + 1)) rfl (F175.ev (v := .int .i64 (↑k)) (by kernel_rfl)) (F175.ev (v := .int .i64 1) (by kernel_rfl)) (wr64 (by omega) (by omega) (by omega))) rfl rfl rfl ?_; intro a176 F176
                    refine op_p F176 (.int .i64 (↑(k + 1))) (by kernel_rfl) rfl rfl rfl (by kernel_rfl) rfl ?_; intro a177 F177
                    refine wpList_nil ?_
                    have hp : push ((↑o[0].toNat : Int) == 47) l ps[k] = l ++ [ps[k]] := by
                      unfold push; simp only [hc94, hc109, hc122, hc144, hc156, hll, if_pos hl0, Bool.false_eq_true, if_true, if_false]
                    have hxs : ∀ x ∈ push ((↑o[0].toNat : Int) == 47) l ps[k], x.size ≤ o.size := push_all hxl (hpz _ (List.getElem_mem hlt_k))
                    have hls : (push ((↑o[0].toNat : Int) == 47) l ps[k]).length ≤ k + 1 := by have := push_len (r := ((↑o[0].toNat : Int) == 47)) (l := l) (p := ps[k]); omega
                    rw [hp] at hxs hls
                    exact hK79 _ _ _ (by first | omega | (simp; omega)) ⟨A173, c173, l ++ [ps[k]], k + 1, rfl, (F177.k 0 (by kernel_rfl) (F177.k 2 (by kernel_rfl) (F177.k 3 (by kernel_rfl) (F177.k 6 (by rw [hc156]; kernel_rfl) (F177.k 7 (by kernel_rfl) (F177.k 11 (by kernel_rfl) (F177.k 12 (by kernel_rfl) (F177.k 14 (by kernel_rfl) (F177.k 27 (by kernel_rfl) (F177.k 28 (by kernel_rfl) (F177.k 29 (by kernel_rfl) (F177.k 30 (by kernel_rfl) (F177.k 31 (by rw [hc156]; kernel_rfl) (F177.k 32 (by kernel_rfl) (F177.k 33 (by kernel_rfl) (F177.k 34 (by kernel_rfl) (F177.k 35 (by kernel_rfl) F177.nil))))))))))))))))), S174.p1.drop.p1.p1, (by first | omega | (with_reducible assumption) | (simp; done)), (by rw [fold_take hlt_k, ← he, hp]), hls, hxs⟩
                · have F178 := F143.sb 65 (by kernel_rfl) (show (!((l[l.length - 1]).toList == (⟨#[46, 46]⟩ : ByteArray).toList)) = true by rw [hc144]; rfl)
                  have F179 := F178.sb 66 (by kernel_rfl) (show (!((l[l.length - 1]).toList == (⟨#[46, 46]⟩ : ByteArray).toList)) = true by rw [hc144]; rfl)
                  have F180 := F179.sb 50 (by kernel_rfl) (show (!((l[l.length - 1]).toList == (⟨#[46, 46]⟩ : ByteArray).toList)) = true by rw [hc144]; rfl)
                  refine wp_cond_true (F180.ev (by kernel_rfl)) ?_
                  refine wp_region_lit ?_
                  refine op_p F180 (.slice Ab l.length cb) (by kernel_rfl) rfl rfl rfl (by kernel_rfl) rfl ?_; intro a181 F181
                  refine op_p F181 (.slice Ab l.length cb) (by kernel_rfl) rfl rfl rfl (by kernel_rfl) rfl ?_; intro a182 F182
                  refine op_p F182 (.int .i64 (↑l.length)) (by kernel_rfl) rfl rfl rfl (by kernel_rfl) rfl ?_; intro a183 F183
                  refine op_r (v := .int .i64 (↑l.length - 1)) F183 (r_sub (z := (↑l.length - 1)) rfl (F183.ev (v := .int .i64 (↑l.length)) (by kernel_rfl)) (F183.ev (v := .int .i64 1) (by kernel_rfl)) (wr64 (by omega) (by omega) (by omega))) rfl rfl rfl ?_; intro a184 F184
                  refine op_s F184 (s_shr rfl Try.underlying22 1 (by kernel_rfl) (F184.ev (v := .slice Ab l.length cb) (by kernel_rfl)) (F184.ev (v := .int .i64 (↑l.length - 1)) (by kernel_rfl)) l.dropLast.length (by first | rfl | omega | (simp; done) | (simp; omega)) (by first | omega | (simp; done) | (simp; omega)) S79 (cs' := strs l.dropLast) (by simp [strs, List.dropLast_eq_take, List.map_take])) rfl rfl rfl ?_
                  rintro _ _ w185 ⟨rfl, rfl⟩ S185 a185 F185
                  refine op_p F185 (.slice Ab l.dropLast.length cb) (by kernel_rfl) rfl rfl rfl (by kernel_rfl) rfl ?_; intro a186 F186
                  refine wpList_nil ?_
                  refine hK85 _ _ ?_; clear hK85 K85
                  refine wp_region_lit ?_
                  refine op_r (v := .int .i64 (↑(k + 1))) F186 (r_add (z := ↑(k + 1)) rfl (F186.ev (v := .int .i64 (↑k)) (by kernel_rfl)) (F186.ev (v := .int .i64 1) (by kernel_rfl)) (wr64 (by omega) (by omega) (by omega))) rfl rfl rfl ?_; intro a187 F187
                  refine op_p F187 (.int .i64 (↑(k + 1))) (by kernel_rfl) rfl rfl rfl (by kernel_rfl) rfl ?_; intro a188 F188
                  refine wpList_nil ?_
                  have hp : push ((↑o[0].toNat : Int) == 47) l ps[k] = l.dropLast := by
                    unfold push; simp only [hc94, hc109, hc122, hc144, hll, if_pos hl0, Bool.false_eq_true, if_true, if_false]
                  have hxs : ∀ x ∈ push ((↑o[0].toNat : Int) == 47) l ps[k], x.size ≤ o.size := push_all hxl (hpz _ (List.getElem_mem hlt_k))
                  have hls : (push ((↑o[0].toNat : Int) == 47) l ps[k]).length ≤ k + 1 := by have := push_len (r := ((↑o[0].toNat : Int) == 47)) (l := l) (p := ps[k]); omega
                  rw [hp] at hxs hls
                  exact hK79 _ _ _ (by first | omega | (simp; omega)) ⟨Ab, cb, l.dropLast, k + 1, rfl, (F188.k 0 (by kernel_rfl) (F188.k 2 (by kernel_rfl) (F188.k 3 (by kernel_rfl) (F188.k 6 (by kernel_rfl) (F188.k 7 (by kernel_rfl) (F188.k 11 (by kernel_rfl) (F188.k 12 (by kernel_rfl) (F188.k 14 (by kernel_rfl) (F188.k 27 (by kernel_rfl) (F188.k 28 (by kernel_rfl) (F188.k 29 (by kernel_rfl) (F188.k 30 (by kernel_rfl) (F188.k 31 (by kernel_rfl) (F188.k 32 (by kernel_rfl) (F188.k 33 (by kernel_rfl) (F188.k 34 (by kernel_rfl) (F188.k 35 (by kernel_rfl) F188.nil))))))))))))))))), S185.p1.p1, (by first | omega | (with_reducible assumption) | (simp; done)), (by rw [fold_take hlt_k, ← he, hp]), hls, hxs⟩
              · have hc130p := of_decide_eq_false hc130
                have F189 := F129.sb 56 (by kernel_rfl) hc130
                have F190 := F189.sb 57 (by kernel_rfl) hc130
                have F191 := F190.sb 58 (by kernel_rfl) hc130
                refine op_skip F191 (by kernel_rfl) rfl rfl rfl ?_; intro a192 F192
                refine op_skip F192 (by kernel_rfl) rfl rfl rfl ?_; intro a193 F193
                refine op_skip F193 (by kernel_rfl) rfl rfl rfl ?_; intro a194 F194
                refine op_skip F194 (by kernel_rfl) rfl rfl rfl ?_; intro a195 F195
                refine op_skip F195 (by kernel_rfl) rfl rfl rfl ?_; intro a196 F196
                refine op_skip F196 (by kernel_rfl) rfl rfl rfl ?_; intro a197 F197
                refine op_skip F197 (by kernel_rfl) rfl rfl rfl ?_; intro a198 F198
                refine op_p F198 (.bool false) (by kernel_rfl) rfl rfl rfl (by kernel_rfl) rfl ?_; intro a199 F199
                refine op_p F199 (.bool false) (by kernel_rfl) rfl rfl rfl (by kernel_rfl) rfl ?_; intro a200 F200
                refine wpList_nil ?_
                refine hK118 _ _ ?_; clear hK118 K118
                refine wp_cond_false (F200.ev (by kernel_rfl)) ?_
                refine wp_seq_k fun K201 hK201 => ?_
                refine wp_region_lit ?_
                refine op_p F200 (.string ps[k]) (by kernel_rfl) rfl rfl rfl (by kernel_rfl) rfl ?_; intro a202 F202
                refine op_p F202 (.bool (ps[k].toList == (⟨#[46, 46]⟩ : ByteArray).toList)) (by kernel_rfl) rfl rfl rfl (by kernel_rfl) rfl ?_; intro a203 F203
                have F204 := F203.sb 74 (by kernel_rfl) hc122
                refine op_p F204 (.bool true) (by kernel_rfl) rfl rfl rfl (by kernel_rfl) rfl ?_; intro a205 F205
                refine op_want F205 (by kernel_rfl) rfl ?_
                refine op_p F205 (.bool ((↑o[0].toNat : Int) == 47)) (by kernel_rfl) rfl rfl rfl (by kernel_rfl) rfl ?_; intro a206 F206
                refine op_p F206 (.bool ((↑o[0].toNat : Int) == 47)) (by kernel_rfl) rfl rfl rfl (by kernel_rfl) rfl ?_; intro a207 F207
                refine op_p F207 (.bool ((↑o[0].toNat : Int) == 47)) (by kernel_rfl) rfl rfl rfl (by kernel_rfl) rfl ?_; intro a208 F208
                refine wpList_nil ?_
                refine hK201 _ _ ?_; clear hK201 K201
                rcases btf ((↑o[0].toNat : Int) == 47) with hc209 | hc209
                · have hc209p := eq_of_beq hc209
                  have F210 := F208.sb 31 (by kernel_rfl) hc209
                  have F211 := F210.sb 6 (by kernel_rfl) hc209
                  have F212 := F211.sb 76 (by kernel_rfl) hc209
                  have F213 := F212.sb 77 (by kernel_rfl) hc209
                  have F214 := F213.sb 72 (by kernel_rfl) hc209
                  refine wp_cond_true (F214.ev (by kernel_rfl)) ?_
                  refine wp_skip ?_
                  refine hK85 _ _ ?_; clear hK85 K85
                  refine wp_region_lit ?_
                  refine op_r (v := .int .i64 (↑(k + 1))) F214 (r_add (z := ↑(k + 1)) rfl (F214.ev (v := .int .i64 (↑k)) (by kernel_rfl)) (F214.ev (v := .int .i64 1) (by kernel_rfl)) (wr64 (by omega) (by omega) (by omega))) rfl rfl rfl ?_; intro a215 F215
                  refine op_p F215 (.int .i64 (↑(k + 1))) (by kernel_rfl) rfl rfl rfl (by kernel_rfl) rfl ?_; intro a216 F216
                  refine wpList_nil ?_
                  have hp : push ((↑o[0].toNat : Int) == 47) l ps[k] = l := by
                    unfold push; simp only [hc94, hc109, hc122, hc209, if_neg (show ¬ 0 < l.length by omega), Bool.false_eq_true, if_true, if_false]
                  have hxs : ∀ x ∈ push ((↑o[0].toNat : Int) == 47) l ps[k], x.size ≤ o.size := push_all hxl (hpz _ (List.getElem_mem hlt_k))
                  have hls : (push ((↑o[0].toNat : Int) == 47) l ps[k]).length ≤ k + 1 := by have := push_len (r := ((↑o[0].toNat : Int) == 47)) (l := l) (p := ps[k]); omega
                  rw [hp] at hxs hls
                  exact hK79 _ _ _ (by first | omega | (simp; omega)) ⟨Ab, cb, l, k + 1, rfl, (F216.k 0 (by kernel_rfl) (F216.k 2 (by kernel_rfl) (F216.k 3 (by kernel_rfl) (F216.k 6 (by rw [hc209]; kernel_rfl) (F216.k 7 (by kernel_rfl) (F216.k 11 (by kernel_rfl) (F216.k 12 (by kernel_rfl) (F216.k 14 (by kernel_rfl) (F216.k 27 (by kernel_rfl) (F216.k 28 (by kernel_rfl) (F216.k 29 (by kernel_rfl) (F216.k 30 (by kernel_rfl) (F216.k 31 (by rw [hc209]; kernel_rfl) (F216.k 32 (by kernel_rfl) (F216.k 33 (by kernel_rfl) (F216.k 34 (by kernel_rfl) (F216.k 35 (by kernel_rfl) F216.nil))))))))))))))))), S79.p1.p1, (by first | omega | (with_reducible assumption) | (simp; done)), (by rw [fold_take hlt_k, ← he, hp]), hls, hxs⟩
                · have hc209p := ne_of_beq_false hc209
                  have F217 := F208.sb 31 (by kernel_rfl) hc209
                  have F218 := F217.sb 6 (by kernel_rfl) hc209
                  have F219 := F218.sb 76 (by kernel_rfl) hc209
                  have F220 := F219.sb 77 (by kernel_rfl) hc209
                  have F221 := F220.sb 72 (by kernel_rfl) hc209
                  refine wp_cond_false (F221.ev (by kernel_rfl)) ?_
                  refine wp_region_lit ?_
                  refine op_p F221 (.slice Ab l.length cb) (by kernel_rfl) rfl rfl rfl (by kernel_rfl) rfl ?_; intro a222 F222
                  refine op_p F222 (.string ps[k]) (by kernel_rfl) rfl rfl rfl (by kernel_rfl) rfl ?_; intro a223 F223
                  refine op_s F223 (s_news F223 9 #[.string ps[k]] 1 (by kernel_rfl) (by kernel_rfl) (by kernel_rfl) S79) rfl rfl rfl ?_
                  rintro _ _ w225 ⟨g223, rfl, rfl⟩ S225 a225 F225
                  refine op_s F225 (s_app rfl Try.underlying22 1 _ tin9 rfl rfl (F225.ev (v := .slice Ab l.length cb) (by kernel_rfl)) S225.p1 ([Value.string ps[k]]) (F225.ev (v := .slice (some ⟨g223, 0, none⟩) 1 1) (by kernel_rfl)) ((S225.bk 0 rfl).sl (by simp)) rfl (by simp [Value.oneCell']) (by omega) (by omega) (n' := (l ++ [ps[k]]).length) (by first | (simp; done) | (simp; omega)) (cs' := strs (l ++ [ps[k]])) (by simp [strs])) rfl rfl rfl ?_
                  rintro _ _ w227 ⟨A226, c226, rfl, rfl⟩ S227 a227 F227
                  refine op_p F227 (.slice A226 ((l ++ [ps[k]]).length) c226) (by kernel_rfl) rfl rfl rfl (by kernel_rfl) rfl ?_; intro a228 F228
                  refine wpList_nil ?_
                  refine hK85 _ _ ?_; clear hK85 K85
                  refine wp_region_lit ?_
                  refine op_r (v := .int .i64 (↑(k + 1))) F228 (r_add (z := ↑(k + 1)) rfl (F228.ev (v := .int .i64 (↑k)) (by kernel_rfl)) (F228.ev (v := .int .i64 1) (by kernel_rfl)) (wr64 (by omega) (by omega) (by omega))) rfl rfl rfl ?_; intro a229 F229
                  refine op_p F229 (.int .i64 (↑(k + 1))) (by kernel_rfl) rfl rfl rfl (by kernel_rfl) rfl ?_; intro a230 F230
                  refine wpList_nil ?_
                  have hp : push ((↑o[0].toNat : Int) == 47) l ps[k] = l ++ [ps[k]] := by
                    unfold push; simp only [hc94, hc109, hc122, hc209, if_neg (show ¬ 0 < l.length by omega), Bool.false_eq_true, if_true, if_false]
                  have hxs : ∀ x ∈ push ((↑o[0].toNat : Int) == 47) l ps[k], x.size ≤ o.size := push_all hxl (hpz _ (List.getElem_mem hlt_k))
                  have hls : (push ((↑o[0].toNat : Int) == 47) l ps[k]).length ≤ k + 1 := by have := push_len (r := ((↑o[0].toNat : Int) == 47)) (l := l) (p := ps[k]); omega
                  rw [hp] at hxs hls
                  exact hK79 _ _ _ (by first | omega | (simp; omega)) ⟨A226, c226, l ++ [ps[k]], k + 1, rfl, (F230.k 0 (by kernel_rfl) (F230.k 2 (by kernel_rfl) (F230.k 3 (by kernel_rfl) (F230.k 6 (by rw [hc209]; kernel_rfl) (F230.k 7 (by kernel_rfl) (F230.k 11 (by kernel_rfl) (F230.k 12 (by kernel_rfl) (F230.k 14 (by kernel_rfl) (F230.k 27 (by kernel_rfl) (F230.k 28 (by kernel_rfl) (F230.k 29 (by kernel_rfl) (F230.k 30 (by kernel_rfl) (F230.k 31 (by rw [hc209]; kernel_rfl) (F230.k 32 (by kernel_rfl) (F230.k 33 (by kernel_rfl) (F230.k 34 (by kernel_rfl) (F230.k 35 (by kernel_rfl) F230.nil))))))))))))))))), S227.p1.drop.p1.p1, (by first | omega | (with_reducible assumption) | (simp; done)), (by rw [fold_take hlt_k, ← he, hp]), hls, hxs⟩
            · have F231 := F121.sb 52 (by kernel_rfl) hc122
              have F232 := F231.sb 53 (by kernel_rfl) hc122
              refine op_skip F232 (by kernel_rfl) rfl rfl rfl ?_; intro a233 F233
              refine op_skip F233 (by kernel_rfl) rfl rfl rfl ?_; intro a234 F234
              refine op_skip F234 (by kernel_rfl) rfl rfl rfl ?_; intro a235 F235
              refine op_p F235 (.bool false) (by kernel_rfl) rfl rfl rfl (by kernel_rfl) rfl ?_; intro a236 F236
              refine op_p F236 (.bool false) (by kernel_rfl) rfl rfl rfl (by kernel_rfl) rfl ?_; intro a237 F237
              refine op_skip F237 (by kernel_rfl) rfl rfl rfl ?_; intro a238 F238
              refine op_skip F238 (by kernel_rfl) rfl rfl rfl ?_; intro a239 F239
              refine op_skip F239 (by kernel_rfl) rfl rfl rfl ?_; intro a240 F240
              refine op_skip F240 (by kernel_rfl) rfl rfl rfl ?_; intro a241 F241
              refine op_skip F241 (by kernel_rfl) rfl rfl rfl ?_; intro a242 F242
              refine op_skip F242 (by kernel_rfl) rfl rfl rfl ?_; intro a243 F243
              refine op_skip F243 (by kernel_rfl) rfl rfl rfl ?_; intro a244 F244
              refine op_p F244 (.bool false) (by kernel_rfl) rfl rfl rfl (by kernel_rfl) rfl ?_; intro a245 F245
              refine op_p F245 (.bool false) (by kernel_rfl) rfl rfl rfl (by kernel_rfl) rfl ?_; intro a246 F246
              refine wpList_nil ?_
              refine hK118 _ _ ?_; clear hK118 K118
              refine wp_cond_false (F246.ev (by kernel_rfl)) ?_
              refine wp_seq_k fun K247 hK247 => ?_
              refine wp_region_lit ?_
              refine op_p F246 (.string ps[k]) (by kernel_rfl) rfl rfl rfl (by kernel_rfl) rfl ?_; intro a248 F248
              refine op_p F248 (.bool (ps[k].toList == (⟨#[46, 46]⟩ : ByteArray).toList)) (by kernel_rfl) rfl rfl rfl (by kernel_rfl) rfl ?_; intro a249 F249
              have F250 := F249.sb 74 (by kernel_rfl) hc122
              refine op_p F250 (.bool false) (by kernel_rfl) rfl rfl rfl (by kernel_rfl) rfl ?_; intro a251 F251
              refine op_skip F251 (by kernel_rfl) rfl rfl rfl ?_; intro a252 F252
              refine op_p F252 (.bool false) (by kernel_rfl) rfl rfl rfl (by kernel_rfl) rfl ?_; intro a253 F253
              refine op_p F253 (.bool false) (by kernel_rfl) rfl rfl rfl (by kernel_rfl) rfl ?_; intro a254 F254
              refine wpList_nil ?_
              refine hK247 _ _ ?_; clear hK247 K247
              refine wp_cond_false (F254.ev (by kernel_rfl)) ?_
              refine wp_region_lit ?_
              refine op_p F254 (.slice Ab l.length cb) (by kernel_rfl) rfl rfl rfl (by kernel_rfl) rfl ?_; intro a255 F255
              refine op_p F255 (.string ps[k]) (by kernel_rfl) rfl rfl rfl (by kernel_rfl) rfl ?_; intro a256 F256
              refine op_s F256 (s_news F256 9 #[.string ps[k]] 1 (by kernel_rfl) (by kernel_rfl) (by kernel_rfl) S79) rfl rfl rfl ?_
              rintro _ _ w258 ⟨g256, rfl, rfl⟩ S258 a258 F258
              refine op_s F258 (s_app rfl Try.underlying22 1 _ tin9 rfl rfl (F258.ev (v := .slice Ab l.length cb) (by kernel_rfl)) S258.p1 ([Value.string ps[k]]) (F258.ev (v := .slice (some ⟨g256, 0, none⟩) 1 1) (by kernel_rfl)) ((S258.bk 0 rfl).sl (by simp)) rfl (by simp [Value.oneCell']) (by omega) (by omega) (n' := (l ++ [ps[k]]).length) (by first | (simp; done) | (simp; omega)) (cs' := strs (l ++ [ps[k]])) (by simp [strs])) rfl rfl rfl ?_
              rintro _ _ w260 ⟨A259, c259, rfl, rfl⟩ S260 a260 F260
              refine op_p F260 (.slice A259 ((l ++ [ps[k]]).length) c259) (by kernel_rfl) rfl rfl rfl (by kernel_rfl) rfl ?_; intro a261 F261
              refine wpList_nil ?_
              refine hK85 _ _ ?_; clear hK85 K85
              refine wp_region_lit ?_
              refine op_r (v := .int .i64 (↑(k + 1))) F261 (r_add (z := ↑(k + 1)) rfl (F261.ev (v := .int .i64 (↑k)) (by kernel_rfl)) (F261.ev (v := .int .i64 1) (by kernel_rfl)) (wr64 (by omega) (by omega) (by omega))) rfl rfl rfl ?_; intro a262 F262
              refine op_p F262 (.int .i64 (↑(k + 1))) (by kernel_rfl) rfl rfl rfl (by kernel_rfl) rfl ?_; intro a263 F263
              refine wpList_nil ?_
              have hp : push ((↑o[0].toNat : Int) == 47) l ps[k] = l ++ [ps[k]] := by
                unfold push; simp only [hc94, hc109, hc122, Bool.false_eq_true, if_true, if_false]
              have hxs : ∀ x ∈ push ((↑o[0].toNat : Int) == 47) l ps[k], x.size ≤ o.size := push_all hxl (hpz _ (List.getElem_mem hlt_k))
              have hls : (push ((↑o[0].toNat : Int) == 47) l ps[k]).length ≤ k + 1 := by have := push_len (r := ((↑o[0].toNat : Int) == 47)) (l := l) (p := ps[k]); omega
              rw [hp] at hxs hls
              exact hK79 _ _ _ (by first | omega | (simp; omega)) ⟨A259, c259, l ++ [ps[k]], k + 1, rfl, (F263.k 0 (by kernel_rfl) (F263.k 2 (by kernel_rfl) (F263.k 3 (by kernel_rfl) (F263.k 6 (by kernel_rfl) (F263.k 7 (by kernel_rfl) (F263.k 11 (by kernel_rfl) (F263.k 12 (by kernel_rfl) (F263.k 14 (by kernel_rfl) (F263.k 27 (by kernel_rfl) (F263.k 28 (by kernel_rfl) (F263.k 29 (by kernel_rfl) (F263.k 30 (by kernel_rfl) (F263.k 31 (by kernel_rfl) (F263.k 32 (by kernel_rfl) (F263.k 33 (by kernel_rfl) (F263.k 34 (by kernel_rfl) (F263.k 35 (by kernel_rfl) F263.nil))))))))))))))))), S260.p1.drop.p1.p1, (by first | omega | (with_reducible assumption) | (simp; done)), (by rw [fold_take hlt_k, ← he, hp]), hls, hxs⟩
      · have hc_k : decide ((↑k : Int) < ↑ps.length) = false := by first | (simp; done) | (simp; omega)
        have hst : l = stk ((↑o[0].toNat : Int) == 47) o := by rw [he, List.take_of_length_le (by omega), hps]; rfl
        have hxl : ∀ x ∈ l, x.size ≤ 100000 := fun x hxm => by have := hxl x hxm; omega
        refine wp_seq_k fun K264 hK264 => ?_
        refine wp_region_lit ?_
        refine op_p F79 (.bool (decide ((↑k : Int) < ↑ps.length))) (by kernel_rfl) rfl rfl rfl (by kernel_rfl) rfl ?_; intro a265 F265
        have F266 := F265.sb 36 (by kernel_rfl) hc_k
        refine wpList_nil ?_
        refine hK264 _ _ ?_; clear hK264 K264
        refine wp_seq_k fun K267 hK267 => ?_
        refine wp_cond_false (F266.ev (by kernel_rfl)) ?_
        refine wp_exit ?_
        refine ex_then ?_; clear hK267 K267
        refine ex_then ?_
        refine ex_in ?_
        refine hK72 _ _ ?_; clear hK72 K72
        refine wp_seq_k fun K268 hK268 => ?_
        refine wp_region_lit ?_
        refine op_p F266 (.slice Ab l.length cb) (by kernel_rfl) rfl rfl rfl (by kernel_rfl) rfl ?_; intro a269 F269
        refine op_c F269 (f := 149) (args := #[.slice Ab l.length cb, .string ⟨#[47]⟩]) (by kernel_rfl) (by kernel_rfl) rfl (together_any Ab cb l ⟨#[47]⟩ _ _ _ S79 (fun w S => own_sl1 (S.ow 0 rfl) (by omega)) (by first | omega | (simp; done) | (simp; omega)) hxl (by decide)) rfl rfl rfl ?_
        rintro _ w270 ⟨rfl, S270⟩
        refine ⟨_, rfl, ?_⟩
        intro a271 F271
        refine op_p F271 (.string (joinF ⟨#[47]⟩ l)) (by kernel_rfl) rfl rfl rfl (by kernel_rfl) rfl ?_; intro a272 F272
        refine wpList_nil ?_
        refine hK268 _ _ ?_; clear hK268 K268
        refine wp_seq_k fun K273 hK273 => ?_
        refine wp_block ?_
        refine wp_seq_k fun K274 hK274 => ?_
        refine wp_region_lit ?_
        refine op_p F272 (.bool ((↑o[0].toNat : Int) == 47)) (by kernel_rfl) rfl rfl rfl (by kernel_rfl) rfl ?_; intro a275 F275
        refine op_p F275 (.bool ((↑o[0].toNat : Int) == 47)) (by kernel_rfl) rfl rfl rfl (by kernel_rfl) rfl ?_; intro a276 F276
        refine wpList_nil ?_
        refine hK274 _ _ ?_; clear hK274 K274
        rcases btf ((↑o[0].toNat : Int) == 47) with hc277 | hc277
        · have hc277p := eq_of_beq hc277
          have F278 := F276.sb 31 (by kernel_rfl) hc277
          have F279 := F278.sb 6 (by kernel_rfl) hc277
          have F280 := F279.sb 82 (by kernel_rfl) hc277
          have F281 := F280.sb 81 (by kernel_rfl) hc277
          refine wp_cond_true (F281.ev (by kernel_rfl)) ?_
          refine wp_seq_k fun K282 hK282 => ?_
          refine wp_region_lit ?_
          refine op_p F281 (.string (joinF ⟨#[47]⟩ l)) (by kernel_rfl) rfl rfl rfl (by kernel_rfl) rfl ?_; intro a283 F283
          refine op_r (v := .string ((⟨#[47]⟩ : ByteArray) ++ (joinF ⟨#[47]⟩ l))) F283 (r_sadd rfl (F283.ev (v := .string ⟨#[47]⟩) (by kernel_rfl)) (F283.ev (v := .string (joinF ⟨#[47]⟩ l)) (by kernel_rfl)) (by show 1 + (joinF ⟨#[47]⟩ l).size ≤ 9223372036854775807; first | omega | (rw [ByteArray.size_append]; show _ + 1 + _ ≤ _; omega) | (have hjl := joinF_le (sep := ⟨#[47]⟩) (k := l.length) hxl; rw [List.take_length] at hjl; have hkb : l.length * (100000 + (⟨#[47]⟩ : ByteArray).size) ≤ 100000 * 101000 := Nat.mul_le_mul (by omega) (by decide); omega))) rfl rfl rfl ?_; intro a284 F284
          refine op_p F284 (.string ((⟨#[47]⟩ : ByteArray) ++ (joinF ⟨#[47]⟩ l))) (by kernel_rfl) rfl rfl rfl (by kernel_rfl) rfl ?_; intro a285 F285
          refine wpList_nil ?_
          refine hK282 _ _ ?_; clear hK282 K282
          refine wp_ret ?_
          refine ret_in ?_
          refine ret_then ?_
          refine (F285.res1 rfl (v := .string ((⟨#[47]⟩ : ByteArray) ++ (joinF ⟨#[47]⟩ l))) (by kernel_rfl) ?_).1
          exact ⟨(ret_str (by rw [joinP_n (joinF_ne2 hoo hc60), ← hoo, hst, hc277, cleanP_r hc60 hpos hc277])), S270.drop.drop⟩
        · have hc277p := ne_of_beq_false hc277
          have F286 := F276.sb 31 (by kernel_rfl) hc277
          have F287 := F286.sb 6 (by kernel_rfl) hc277
          have F288 := F287.sb 82 (by kernel_rfl) hc277
          have F289 := F288.sb 81 (by kernel_rfl) hc277
          refine wp_cond_false (F289.ev (by kernel_rfl)) ?_
          refine wp_seq_k fun K290 hK290 => ?_
          refine wp_region_lit ?_
          refine op_p F289 (.string (joinF ⟨#[47]⟩ l)) (by kernel_rfl) rfl rfl rfl (by kernel_rfl) rfl ?_; intro a291 F291
          refine op_p F291 (.bool ((joinF ⟨#[47]⟩ l).toList == (⟨#[]⟩ : ByteArray).toList)) (by kernel_rfl) rfl rfl rfl (by kernel_rfl) rfl ?_; intro a292 F292
          refine op_p F292 (.bool ((joinF ⟨#[47]⟩ l).toList == (⟨#[]⟩ : ByteArray).toList)) (by kernel_rfl) rfl rfl rfl (by kernel_rfl) rfl ?_; intro a293 F293
          refine wpList_nil ?_
          refine hK290 _ _ ?_; clear hK290 K290
          rcases btf ((joinF ⟨#[47]⟩ l).toList == (⟨#[]⟩ : ByteArray).toList) with hc294 | hc294
          · have F295 := F293.sb 87 (by kernel_rfl) hc294
            have F296 := F295.sb 85 (by kernel_rfl) hc294
            refine wp_cond_true (F296.ev (by kernel_rfl)) ?_
            refine wp_seq_k fun K297 hK297 => ?_
            refine wp_region_lit ?_
            refine op_p F296 (.string ⟨#[46]⟩) (by kernel_rfl) rfl rfl rfl (by kernel_rfl) rfl ?_; intro a298 F298
            refine wpList_nil ?_
            refine hK297 _ _ ?_; clear hK297 K297
            refine wp_ret ?_
            refine ret_in ?_
            refine ret_then ?_
            refine (F298.res1 rfl (v := .string ⟨#[46]⟩) (by kernel_rfl) ?_).1
            exact ⟨(ret_str (by rw [joinP_n (joinF_ne2 hoo hc60), ← hoo]; rw [hst, hc277] at hc294; rw [cleanP_e hc60 hpos hc277 hc294])), S270.drop.drop⟩
          · have F299 := F293.sb 87 (by kernel_rfl) hc294
            have F300 := F299.sb 85 (by kernel_rfl) hc294
            refine wp_cond_false (F300.ev (by kernel_rfl)) ?_
            refine wp_skip ?_
            refine hK273 _ _ ?_; clear hK273 K273
            refine wp_seq_k fun K301 hK301 => ?_
            refine wp_region_lit ?_
            refine op_p F300 (.string (joinF ⟨#[47]⟩ l)) (by kernel_rfl) rfl rfl rfl (by kernel_rfl) rfl ?_; intro a302 F302
            refine op_p F302 (.string (joinF ⟨#[47]⟩ l)) (by kernel_rfl) rfl rfl rfl (by kernel_rfl) rfl ?_; intro a303 F303
            refine wpList_nil ?_
            refine hK301 _ _ ?_; clear hK301 K301
            refine wp_ret ?_
            refine (F303.res1 rfl (v := .string (joinF ⟨#[47]⟩ l)) (by kernel_rfl) ?_).1
            exact ⟨(ret_str (by rw [joinP_n (joinF_ne2 hoo hc60), ← hoo]; rw [hst, hc277] at hc294; rw [hst, hc277]; rw [cleanP_n hc60 hpos hc277 hc294])), S270.drop.drop⟩
end Go.Proofs.Ytkjcedlgljeoiaa
