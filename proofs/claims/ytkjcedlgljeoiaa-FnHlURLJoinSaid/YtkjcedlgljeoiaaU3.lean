/- JoinPath, HlJoin, HlURL. -/
import Derived.Test.YtkjcedlgljeoiaaU2
namespace Go.Proofs.Ytkjcedlgljeoiaa
open Go.RowKit Go.Lib
set_option linter.unusedVariables false
set_option linter.unusedSimpArgs false
def neB (s : ByteArray) : Bool := !(s.toList == (⟨#[]⟩ : ByteArray).toList)
def neL (xs : List ByteArray) : List ByteArray := xs.filter neB
theorem neL_yes {xs : List ByteArray} {k : Nat} (h : k < xs.length) (e : (xs[k].toList == (⟨#[]⟩ : ByteArray).toList) = false) : neL (xs.take (k + 1)) = neL (xs.take k) ++ [xs[k]] := by
  unfold neL; rw [take_snoc h, List.filter_append]; simp only [List.filter_cons, neB, e, List.filter_nil, Bool.not_false, if_true]
theorem neL_no {xs : List ByteArray} {k : Nat} (h : k < xs.length) (e : (xs[k].toList == (⟨#[]⟩ : ByteArray).toList) = true) : neL (xs.take (k + 1)) = neL (xs.take k) := by
  unfold neL; rw [take_snoc h, List.filter_append]; simp only [List.filter_cons, neB, e, List.filter_nil, Bool.not_true, Bool.false_eq_true, if_false, List.append_nil]
theorem joinF_grow {sep x : ByteArray} {l : List ByteArray} (h : l ≠ []) : joinF sep (l ++ [x]) = joinF sep l ++ sep ++ x := joinF_snoc sep x l h
theorem joinF_ne {xs : List ByteArray} (h : (joinF ⟨#[47]⟩ (neL xs)).toList == (⟨#[]⟩ : ByteArray).toList) : neL xs = [] := by
  rw [bytes_eqd, decide_eq_true_eq] at h
  cases hl : neL xs with
  | nil => rfl
  | cons a l =>
    exfalso
    have ha : neB a = true := by have : a ∈ neL xs := by rw [hl]; simp
                                 exact (List.mem_filter.1 this).2
    have h1 : a.size ≤ (joinF ⟨#[47]⟩ (neL xs)).size := by
      rw [hl]
      cases l with
      | nil => exact Nat.le_refl _
      | cons b r => show _ ≤ (a ++ _ : ByteArray).size; rw [ByteArray.size_append]; omega
    have h2 : 0 < a.size := ne_size (by simpa [neB] using ha)
    rw [h] at h1
    have : (⟨#[]⟩ : ByteArray).size = 0 := rfl
    omega
theorem neL_size {xs : List ByteArray} {n k : Nat} (h : ∀ x ∈ xs, x.size ≤ n) : (joinF ⟨#[47]⟩ (neL (xs.take k))).size ≤ k * (n + 1) := by
  have h1 := joinF_le (sep := ⟨#[47]⟩) (xs := neL (xs.take k)) (n := n) (k := (neL (xs.take k)).length) fun x hx => h x (List.mem_of_mem_take (List.mem_filter.1 hx).1)
  rw [List.take_length] at h1
  have h2 : (neL (xs.take k)).length ≤ k := Nat.le_trans (List.length_filter_le _ _) (List.length_take_le _ _)
  have h3 : (⟨#[47]⟩ : ByteArray).size = 1 := rfl
  rw [h3] at h1
  exact Nat.le_trans h1 (Nat.mul_le_mul_right _ h2)
def joinP (xs : List ByteArray) : ByteArray := if neL xs = [] then ⟨#[]⟩ else cleanP (joinF ⟨#[47]⟩ (neL xs))
theorem joinP_e {xs : List ByteArray} (h : neL xs = []) : joinP xs = ⟨#[]⟩ := if_pos h
theorem joinP_n {xs : List ByteArray} (h : neL xs ≠ []) : joinP xs = cleanP (joinF ⟨#[47]⟩ (neL xs)) := if_neg h
theorem joinF_nil2 {xs : List ByteArray} (h : neL xs = []) : joinF ⟨#[47]⟩ (neL xs) = ⟨#[]⟩ := by rw [h]; rfl
theorem emp_app2 (x : ByteArray) : (⟨#[]⟩ : ByteArray) ++ x = joinF ⟨#[47]⟩ ([] ++ [x]) := by show _ = x; apply ByteArray.ext; simp [ByteArray.data_append]
set_option maxRecDepth 100000 in
set_option maxHeartbeats 20000000 in
theorem joinPath_any (A : Option Addr) (c : Nat) (xs : List ByteArray) (R : Ctx) (L : List SA) (w : World) (S : Sp R w (L)) (h0 : Rf R L fun w => Sl w (A) (strs xs)) (hn : xs.length ≤ 30) (hx : ∀ x ∈ xs, x.size ≤ 300) :
    Calls Try.prog 148 #[.slice (A) (xs.length) (c)] w fun e w' => e = .returned (.string (joinP xs)) ∧ Sp R w' (L) := by
  have hl_xs : xs.length ≤ 9223372036854775807 := by have := (h0 _ S).1; simpa [strs, ptrs] using this
  refine fw_enter (fn := Try.f148) rfl rfl 26 rfl (Nat.le_of_ble_eq_true rfl) ?_
  intro a0 F0
  refine wp_seq_k fun K1 hK1 => ?_
  refine wp_region_lit ?_
  refine op_p F0 (.string ⟨#[]⟩) (by kernel_rfl) rfl rfl rfl (by kernel_rfl) rfl ?_; intro a2 F2
  refine wpList_nil ?_
  refine hK1 _ _ ?_; clear hK1 K1
  refine wp_seq_k fun K3 hK3 => ?_
  refine wp_region_lit ?_
  refine op_p F2 (.string ⟨#[]⟩) (by kernel_rfl) rfl rfl rfl (by kernel_rfl) rfl ?_; intro a4 F4
  refine op_p F4 (.bool false) (by kernel_rfl) rfl rfl rfl (by kernel_rfl) rfl ?_; intro a5 F5
  refine wpList_nil ?_
  refine hK3 _ _ ?_; clear hK3 K3
  refine wp_seq_k fun K6 hK6 => ?_
  refine wp_seq_k fun K7 hK7 => ?_
  refine wp_region_lit ?_
  refine op_p F5 (.slice (A) (xs.length) (c)) (by kernel_rfl) rfl rfl rfl (by kernel_rfl) rfl ?_; intro a8 F8
  refine op_p F8 (.int .i64 (↑xs.length)) (by kernel_rfl) rfl rfl rfl (by kernel_rfl) rfl ?_; intro a9 F9
  refine op_p F9 (.int .i64 0) (by kernel_rfl) rfl rfl rfl (by kernel_rfl) rfl ?_; intro a10 F10
  refine wpList_nil ?_
  refine hK7 _ _ ?_; clear hK7 K7
  refine wp_block ?_
  refine fw_loop (fun m a' w' => ∃ k : Nat, ∃ o : ByteArray, ∃ sm : Bool, xs.length - k = m ∧ Fr 26 [] a' [(0, .slice (A) (xs.length) (c)), (2, .string ⟨#[]⟩), (3, .string o), (4, .bool sm), (7, .slice (A) (xs.length) (c)), (8, .int .i64 (↑xs.length)), (9, .int .i64 (↑k))] ∧ Sp R w' (L) ∧ (k ≤ xs.length) ∧ (o = joinF ⟨#[47]⟩ (neL (xs.take k))) ∧ (sm = true ↔ neL (xs.take k) ≠ [])) _ ⟨0, ⟨#[]⟩, false, rfl, (F10.k 0 (by kernel_rfl) (F10.k 2 (by kernel_rfl) (F10.k 3 (by kernel_rfl) (F10.k 4 (by kernel_rfl) (F10.k 7 (by kernel_rfl) (F10.k 8 (by kernel_rfl) (F10.k 9 (by kernel_rfl) F10.nil))))))), S, (by first | omega | (with_reducible assumption) | (simp; done)), rfl, (by simp [neL])⟩ ?_
  rintro m11 a11 w11 ⟨k, o, sm, hm11, F11, S11, hk, ho, hsm⟩ K11 hK11
  by_cases hlt_k : k < xs.length
  · have hc_k : decide ((↑k : Int) < ↑xs.length) = true := by first | (simp; done) | (simp; omega)
    have hxk := hx _ (List.getElem_mem hlt_k)
    have hjl := neL_size (k := k) hx
    rw [← ho] at hjl
    obtain ⟨ad12, hA12⟩ := (h0 _ S11).addr (by simp [strs, ptrs]; omega)
    refine wp_seq_k fun K13 hK13 => ?_
    refine wp_region_lit ?_
    refine op_p F11 (.bool (decide ((↑k : Int) < ↑xs.length))) (by kernel_rfl) rfl rfl rfl (by kernel_rfl) rfl ?_; intro a14 F14
    have F15 := F14.sb 10 (by kernel_rfl) hc_k
    refine wpList_nil ?_
    refine hK13 _ _ ?_; clear hK13 K13
    refine wp_seq_k fun K16 hK16 => ?_
    refine wp_cond_true (F15.ev (by kernel_rfl)) ?_
    refine wp_skip ?_
    refine hK16 _ _ ?_; clear hK16 K16
    refine wp_seq_k fun K17 hK17 => ?_
    refine wp_block ?_
    refine wp_seq_k fun K18 hK18 => ?_
    refine wp_region_lit ?_
    refine op_r (v := .pointer (some (ad12.add k))) F15 (r_ix rfl Try.underlying22 1 (by kernel_rfl) (F15.ev (v := .slice (A) (xs.length) (c)) (by kernel_rfl)) hA12 (F15.ev (v := .int .i64 (↑k)) (by kernel_rfl)) k (by first | rfl | omega | simp) (by first | omega | (simp; done) | (simp; omega)) (by simp only [Nat.mul_one])) rfl rfl rfl ?_; intro a19 F19
    refine op_r (v := .string xs[k]) F19 (r_ld rfl (F19.ev (v := .pointer (some (ad12.add k))) (by kernel_rfl)) (v := .string xs[k]) ((h0 _ S11).elA hA12 (j := k) (by simp [strs, hlt_k])) Try.underlying9 rfl) rfl rfl rfl ?_; intro a20 F20
    refine op_p F20 (.string xs[k]) (by kernel_rfl) rfl rfl rfl (by kernel_rfl) rfl ?_; intro a21 F21
    refine wpList_nil ?_
    refine hK18 _ _ ?_; clear hK18 K18
    refine wp_seq_k fun K22 hK22 => ?_
    refine wp_seq_k fun K23 hK23 => ?_
    refine wp_region_lit ?_
    refine op_p F21 (.string xs[k]) (by kernel_rfl) rfl rfl rfl (by kernel_rfl) rfl ?_; intro a24 F24
    refine op_p F24 (.bool (xs[k].toList == (⟨#[]⟩ : ByteArray).toList)) (by kernel_rfl) rfl rfl rfl (by kernel_rfl) rfl ?_; intro a25 F25
    refine wpList_nil ?_
    refine hK23 _ _ ?_; clear hK23 K23
    rcases btf (xs[k].toList == (⟨#[]⟩ : ByteArray).toList) with hc26 | hc26
    · have F27 := F25.sb 14 (by kernel_rfl) hc26
      refine wp_cond_true (F27.ev (by kernel_rfl)) ?_
      refine wp_exit ?_
      refine ex_then ?_; clear hK22 K22
      refine ex_in ?_
      refine hK17 _ _ ?_; clear hK17 K17
      refine wp_region_lit ?_
      refine op_r (v := .int .i64 (↑(k + 1))) F27 (r_add (z := ↑(k + 1)) rfl (F27.ev (v := .int .i64 (↑k)) (by kernel_rfl)) (F27.ev (v := .int .i64 1) (by kernel_rfl)) (wr64 (by omega) (by omega) (by omega))) rfl rfl rfl ?_; intro a28 F28
      refine op_p F28 (.int .i64 (↑(k + 1))) (by kernel_rfl) rfl rfl rfl (by kernel_rfl) rfl ?_; intro a29 F29
      refine wpList_nil ?_
      exact hK11 _ _ _ (by first | omega | (simp; omega)) ⟨k + 1, o, sm, rfl, (F29.k 0 (by kernel_rfl) (F29.k 2 (by kernel_rfl) (F29.k 3 (by kernel_rfl) (F29.k 4 (by kernel_rfl) (F29.k 7 (by kernel_rfl) (F29.k 8 (by kernel_rfl) (F29.k 9 (by kernel_rfl) F29.nil))))))), S11, (by first | omega | (with_reducible assumption) | (simp; done)), (by rw [neL_no hlt_k hc26]; exact ho), (by rw [neL_no hlt_k hc26]; exact hsm)⟩
    · have F30 := F25.sb 14 (by kernel_rfl) hc26
      refine wp_cond_false (F30.ev (by kernel_rfl)) ?_
      refine wp_skip ?_
      refine hK22 _ _ ?_; clear hK22 K22
      refine wp_seq_k fun K31 hK31 => ?_
      refine wp_seq_k fun K32 hK32 => ?_
      refine wp_region_lit ?_
      refine op_p F30 (.bool sm) (by kernel_rfl) rfl rfl rfl (by kernel_rfl) rfl ?_; intro a33 F33
      refine wpList_nil ?_
      refine hK32 _ _ ?_; clear hK32 K32
      rcases btf (sm) with hc34 | hc34
      · have F35 := F33.sb 4 (by kernel_rfl) hc34
        have F36 := F35.sb 15 (by kernel_rfl) hc34
        refine wp_cond_true (F36.ev (by kernel_rfl)) ?_
        refine wp_region_lit ?_
        refine op_p F36 (.string o) (by kernel_rfl) rfl rfl rfl (by kernel_rfl) rfl ?_; intro a37 F37
        refine op_r (v := .string (o ++ (⟨#[47]⟩ : ByteArray))) F37 (r_sadd rfl (F37.ev (v := .string o) (by kernel_rfl)) (F37.ev (v := .string ⟨#[47]⟩) (by kernel_rfl)) (by show o.size + 1 ≤ 9223372036854775807; first | omega | (rw [ByteArray.size_append]; show _ + 1 + _ ≤ _; omega))) rfl rfl rfl ?_; intro a38 F38
        refine op_p F38 (.string (o ++ (⟨#[47]⟩ : ByteArray))) (by kernel_rfl) rfl rfl rfl (by kernel_rfl) rfl ?_; intro a39 F39
        refine wpList_nil ?_
        refine hK31 _ _ ?_; clear hK31 K31
        refine wp_region_lit ?_
        refine op_p F39 (.string (o ++ (⟨#[47]⟩ : ByteArray))) (by kernel_rfl) rfl rfl rfl (by kernel_rfl) rfl ?_; intro a40 F40
        refine op_p F40 (.string xs[k]) (by kernel_rfl) rfl rfl rfl (by kernel_rfl) rfl ?_; intro a41 F41
        refine op_r (v := .string ((o ++ (⟨#[47]⟩ : ByteArray)) ++ xs[k])) F41 (r_sadd rfl (F41.ev (v := .string (o ++ (⟨#[47]⟩ : ByteArray))) (by kernel_rfl)) (F41.ev (v := .string xs[k]) (by kernel_rfl)) (by show (o ++ (⟨#[47]⟩ : ByteArray)).size + xs[k].size ≤ 9223372036854775807; first | omega | (rw [ByteArray.size_append]; show _ + 1 + _ ≤ _; omega))) rfl rfl rfl ?_; intro a42 F42
        refine op_p F42 (.string ((o ++ (⟨#[47]⟩ : ByteArray)) ++ xs[k])) (by kernel_rfl) rfl rfl rfl (by kernel_rfl) rfl ?_; intro a43 F43
        refine op_p F43 (.bool true) (by kernel_rfl) rfl rfl rfl (by kernel_rfl) rfl ?_; intro a44 F44
        refine wpList_nil ?_
        refine hK17 _ _ ?_; clear hK17 K17
        refine wp_region_lit ?_
        refine op_r (v := .int .i64 (↑(k + 1))) F44 (r_add (z := ↑(k + 1)) rfl (F44.ev (v := .int .i64 (↑k)) (by kernel_rfl)) (F44.ev (v := .int .i64 1) (by kernel_rfl)) (wr64 (by omega) (by omega) (by omega))) rfl rfl rfl ?_; intro a45 F45
        refine op_p F45 (.int .i64 (↑(k + 1))) (by kernel_rfl) rfl rfl rfl (by kernel_rfl) rfl ?_; intro a46 F46
        refine wpList_nil ?_
        exact hK11 _ _ _ (by first | omega | (simp; omega)) ⟨k + 1, ((o ++ (⟨#[47]⟩ : ByteArray)) ++ xs[k]), true, rfl, (F46.k 0 (by kernel_rfl) (F46.k 2 (by kernel_rfl) (F46.k 3 (by kernel_rfl) (F46.k 4 (by rw [hc34]; kernel_rfl) (F46.k 7 (by kernel_rfl) (F46.k 8 (by kernel_rfl) (F46.k 9 (by kernel_rfl) F46.nil))))))), S11, (by first | omega | (with_reducible assumption) | (simp; done)), (by rw [neL_yes hlt_k hc26, joinF_grow (hsm.1 hc34), ← ho]), (by rw [neL_yes hlt_k hc26]; simp)⟩
      · have F47 := F33.sb 4 (by kernel_rfl) hc34
        have F48 := F47.sb 15 (by kernel_rfl) hc34
        refine wp_cond_false (F48.ev (by kernel_rfl)) ?_
        refine wp_skip ?_
        refine hK31 _ _ ?_; clear hK31 K31
        refine wp_region_lit ?_
        refine op_p F48 (.string o) (by kernel_rfl) rfl rfl rfl (by kernel_rfl) rfl ?_; intro a49 F49
        refine op_p F49 (.string xs[k]) (by kernel_rfl) rfl rfl rfl (by kernel_rfl) rfl ?_; intro a50 F50
        refine op_r (v := .string (o ++ xs[k])) F50 (r_sadd rfl (F50.ev (v := .string o) (by kernel_rfl)) (F50.ev (v := .string xs[k]) (by kernel_rfl)) (by show o.size + xs[k].size ≤ 9223372036854775807; first | omega | (rw [ByteArray.size_append]; show _ + 1 + _ ≤ _; omega))) rfl rfl rfl ?_; intro a51 F51
        refine op_p F51 (.string (o ++ xs[k])) (by kernel_rfl) rfl rfl rfl (by kernel_rfl) rfl ?_; intro a52 F52
        refine op_p F52 (.bool true) (by kernel_rfl) rfl rfl rfl (by kernel_rfl) rfl ?_; intro a53 F53
        refine wpList_nil ?_
        refine hK17 _ _ ?_; clear hK17 K17
        refine wp_region_lit ?_
        refine op_r (v := .int .i64 (↑(k + 1))) F53 (r_add (z := ↑(k + 1)) rfl (F53.ev (v := .int .i64 (↑k)) (by kernel_rfl)) (F53.ev (v := .int .i64 1) (by kernel_rfl)) (wr64 (by omega) (by omega) (by omega))) rfl rfl rfl ?_; intro a54 F54
        refine op_p F54 (.int .i64 (↑(k + 1))) (by kernel_rfl) rfl rfl rfl (by kernel_rfl) rfl ?_; intro a55 F55
        refine wpList_nil ?_
        exact hK11 _ _ _ (by first | omega | (simp; omega)) ⟨k + 1, (o ++ xs[k]), true, rfl, (F55.k 0 (by kernel_rfl) (F55.k 2 (by kernel_rfl) (F55.k 3 (by kernel_rfl) (F55.k 4 (by rw [hc34]; kernel_rfl) (F55.k 7 (by kernel_rfl) (F55.k 8 (by kernel_rfl) (F55.k 9 (by kernel_rfl) F55.nil))))))), S11, (by first | omega | (with_reducible assumption) | (simp; done)), (by rw [neL_yes hlt_k hc26, (Decidable.not_not.1 fun hh => absurd (hsm.2 hh) (by rw [hc34]; simp)), ho, joinF_nil2 (Decidable.not_not.1 fun hh => absurd (hsm.2 hh) (by rw [hc34]; simp))]; exact emp_app2 _), (by rw [neL_yes hlt_k hc26]; simp)⟩
  · have hc_k : decide ((↑k : Int) < ↑xs.length) = false := by first | (simp; done) | (simp; omega)
    have hoo : o = joinF ⟨#[47]⟩ (neL xs) := by rw [ho, List.take_of_length_le (by omega)]
    have hss : sm = true ↔ neL xs ≠ [] := by rw [hsm, List.take_of_length_le (by omega)]
    have hjl := neL_size (k := xs.length) hx
    rw [List.take_length, ← hoo] at hjl
    refine wp_seq_k fun K56 hK56 => ?_
    refine wp_region_lit ?_
    refine op_p F11 (.bool (decide ((↑k : Int) < ↑xs.length))) (by kernel_rfl) rfl rfl rfl (by kernel_rfl) rfl ?_; intro a57 F57
    have F58 := F57.sb 10 (by kernel_rfl) hc_k
    refine wpList_nil ?_
    refine hK56 _ _ ?_; clear hK56 K56
    refine wp_seq_k fun K59 hK59 => ?_
    refine wp_cond_false (F58.ev (by kernel_rfl)) ?_
    refine wp_exit ?_
    refine ex_then ?_; clear hK59 K59
    refine ex_then ?_
    refine ex_in ?_
    refine hK6 _ _ ?_; clear hK6 K6
    refine wp_seq_k fun K60 hK60 => ?_
    refine wp_seq_k fun K61 hK61 => ?_
    refine wp_region_lit ?_
    refine op_p F58 (.bool sm) (by kernel_rfl) rfl rfl rfl (by kernel_rfl) rfl ?_; intro a62 F62
    refine op_p F62 (.bool (!(sm))) (by kernel_rfl) rfl rfl rfl (by kernel_rfl) rfl ?_; intro a63 F63
    refine wpList_nil ?_
    refine hK61 _ _ ?_; clear hK61 K61
    rcases btf (sm) with hc64 | hc64
    · have F65 := F63.sb 4 (by kernel_rfl) hc64
      have F66 := F65.sb 22 (by kernel_rfl) hc64
      have F67 := F66.sb 23 (by kernel_rfl) (show (!(sm)) = false by rw [hc64]; rfl)
      refine wp_cond_false (F67.ev (by kernel_rfl)) ?_
      refine wp_skip ?_
      refine hK60 _ _ ?_; clear hK60 K60
      refine wp_seq_k fun K68 hK68 => ?_
      refine wp_region_lit ?_
      refine op_p F67 (.string o) (by kernel_rfl) rfl rfl rfl (by kernel_rfl) rfl ?_; intro a69 F69
      refine op_c F69 (f := 193) (args := #[.string o]) (by kernel_rfl) (by kernel_rfl) rfl (clean_any o _ _ _ S11 (by first | omega | (simp; done) | (simp; omega))) rfl rfl rfl ?_
      rintro _ w70 ⟨rfl, S70⟩
      refine ⟨_, rfl, ?_⟩
      intro a71 F71
      refine op_p F71 (.string (cleanP o)) (by kernel_rfl) rfl rfl rfl (by kernel_rfl) rfl ?_; intro a72 F72
      refine wpList_nil ?_
      refine hK68 _ _ ?_; clear hK68 K68
      refine wp_ret ?_
      refine (F72.res1 rfl (v := .string (cleanP o)) (by kernel_rfl) ?_).1
      exact ⟨(ret_str (by rw [joinP_n (hss.1 hc64), hoo])), S70⟩
    · have F73 := F63.sb 4 (by kernel_rfl) hc64
      have F74 := F73.sb 22 (by kernel_rfl) hc64
      have F75 := F74.sb 23 (by kernel_rfl) (show (!(sm)) = true by rw [hc64]; rfl)
      refine wp_cond_true (F75.ev (by kernel_rfl)) ?_
      refine wp_seq_k fun K76 hK76 => ?_
      refine wp_region_lit ?_
      refine op_p F75 (.string ⟨#[]⟩) (by kernel_rfl) rfl rfl rfl (by kernel_rfl) rfl ?_; intro a77 F77
      refine wpList_nil ?_
      refine hK76 _ _ ?_; clear hK76 K76
      refine wp_ret ?_
      refine ret_then ?_
      refine (F77.res1 rfl (v := .string ⟨#[]⟩) (by kernel_rfl) ?_).1
      exact ⟨(ret_str (joinP_e (Decidable.not_not.1 fun hh => absurd (hss.2 hh) (by rw [hc64]; simp))).symm), S11⟩
end Go.Proofs.Ytkjcedlgljeoiaa
