/- urlutil.URLJoin; spec.HlURL; impl.URLJoin. -/
import Derived.Test.YtkjcedlgljeoiaaU4
import Derived.Test.YtkjcedlgljeoiaaLw
import Derived.Test.YtkjcedlgljeoiaaP1
namespace Go.Proofs.Ytkjcedlgljeoiaa
open Go.RowKit Go.Lib
set_option linter.unusedVariables false
set_option linter.unusedSimpArgs false
theorem strs_getE {xs : List ByteArray} {k : Nat} (h : k < xs.length) : (strs xs)[k]? = some (.string xs[k]) := by simp [strs, h]
theorem index_eq (s sub : ByteArray) (z : Int) (w : World) (h : s.size + sub.size ≤ 4611686018427387904) (hz : idxI s sub = z) : Calls Try.prog 145 #[.string s, .string sub] w fun e w' => e = .returned (.int .i64 z) ∧ w = w' := by
  subst hz; exact index_any s sub w h
def slashP (h p : ByteArray) : ByteArray := if h.toList == (⟨#[]⟩ : ByteArray).toList then h ++ p else if p.toList == (⟨#[]⟩ : ByteArray).toList then h ++ p else if hp : 0 < p.size then (if (p[0].toNat : Int) == 47 then h ++ p else h ++ ((⟨#[47]⟩ : ByteArray) ++ p)) else h ++ p
theorem slash_h {h p : ByteArray} (e : (h.toList == (⟨#[]⟩ : ByteArray).toList) = true) : slashP h p = h ++ p := if_pos e
theorem slash_p {h p : ByteArray} (e : (p.toList == (⟨#[]⟩ : ByteArray).toList) = true) : slashP h p = h ++ p := by unfold slashP; rw [if_pos e]; split <;> rfl
theorem slash_s {h p : ByteArray} (hp : 0 < p.size) (e : ((p[0].toNat : Int) == 47) = true) : slashP h p = h ++ p := by unfold slashP; rw [dif_pos hp, if_pos e]; split <;> (try split) <;> rfl
theorem slash_n {h p : ByteArray} (e0 : (h.toList == (⟨#[]⟩ : ByteArray).toList) = false) (e1 : (p.toList == (⟨#[]⟩ : ByteArray).toList) = false) (hp : 0 < p.size) (e : ((p[0].toNat : Int) == 47) = false) : slashP h p = h ++ ((⟨#[47]⟩ : ByteArray) ++ p) := by
  unfold slashP; simp only [e0, e1, e, dif_pos hp, Bool.false_eq_true, if_false]
theorem ret_tup2 {a b : ByteArray} {u : Value} (h : a = b) : Ending.returned (.tuple #[.string a, u]) = .returned (.tuple #[.string b, u]) := by rw [h]
theorem push_sz {r : Bool} {l : List ByteArray} {p : ByteArray} : szSum (push r l p) ≤ szSum l + p.size := by
  have h1 : szSum (l ++ [p]) = szSum l + p.size := by simp [szSum]
  have h2 : szSum l.dropLast ≤ szSum l := by
    rcases List.eq_nil_or_concat l with h | ⟨m, x, h⟩
    · subst h; simp
    · subst h; simp [szSum]
  unfold push
  repeat' split
  all_goals omega
theorem fold_push {r : Bool} : ∀ (ps l : List ByteArray), szSum (ps.foldl (push r) l) ≤ szSum l + szSum ps ∧ (ps.foldl (push r) l).length ≤ l.length + ps.length
  | [], l => by simp [szSum]
  | p :: ps, l => by
    have h := fold_push (r := r) ps (push r l p)
    have h1 := push_sz (r := r) (l := l) (p := p)
    have h2 := push_len (r := r) (l := l) (p := p)
    simp only [szSum, List.foldl_cons, List.map_cons, List.sum_cons, List.length_cons] at h h1 ⊢
    omega
theorem stk_join (r : Bool) (s : ByteArray) : (joinF ⟨#[47]⟩ (stk r s)).size ≤ 2 * s.size + 1 := by
  have h := fold_push (r := r) (splitF ⟨#[47]⟩ (s.size + 1) s) []
  have h1 := splitF_sum ⟨#[47]⟩ (s.size + 1) s
  have h2 := splitF_len ⟨#[47]⟩ (by decide) (s.size + 1) s
  have h3 := joinF_size ⟨#[47]⟩ (stk r s)
  have h4 : (⟨#[47]⟩ : ByteArray).size = 1 := rfl
  unfold stk at h3 ⊢
  rw [h4] at h3
  have h5 : szSum [] = 0 := rfl
  simp only [List.length_nil] at h
  omega
theorem cleanP_size (s : ByteArray) : (cleanP s).size ≤ 2 * s.size + 2 := by
  have h1 := stk_join true s
  have h2 := stk_join false s
  have h3 : ∀ x : ByteArray, ((⟨#[47]⟩ : ByteArray) ++ x).size = 1 + x.size := fun x => ByteArray.size_append
  have h4 : (⟨#[46]⟩ : ByteArray).size = 1 := rfl
  unfold cleanP
  split
  · omega
  · split
    · split
      · rw [h3]; omega
      · split
        · omega
        · omega
    · omega
theorem joinP_size {xs : List ByteArray} (h : ∀ x ∈ xs, x.size ≤ 300) (hn : xs.length ≤ 30) : (joinP xs).size ≤ 100000 := by
  by_cases he : neL xs = []
  · rw [joinP_e he]; exact Nat.zero_le _
  · rw [joinP_n he]
    have h1 := cleanP_size (joinF ⟨#[47]⟩ (neL xs))
    have h2 := joinF_le (sep := ⟨#[47]⟩) (xs := neL xs) (n := 300) (k := (neL xs).length) (fun x hx => h x ((List.mem_filter.1 hx).1))
    rw [List.take_length] at h2
    have h3 : (neL xs).length ≤ xs.length := List.length_filter_le _ _
    have h4 : (⟨#[47]⟩ : ByteArray).size = 1 := rfl
    rw [h4] at h2
    omega
set_option maxRecDepth 100000 in
set_option maxHeartbeats 20000000 in
theorem urlJoinA_any (path : ByteArray) (B : Option Addr) (d : Nat) (more : List ByteArray) (R : Ctx) (L : List SA) (w : World) (S : Sp R w (L)) (h0 : Rf R L fun w => Sl w (B) (strs more)) (hraw : path.size ≤ 1000) (hpre0 : hasPreB path ⟨#[47, 47]⟩ = false) (hw : ∀ x ∈ [path] ++ more, (x.toList == (⟨#[]⟩ : ByteArray).toList) = true ∨ wordB x ⟨#[47, 46, 95, 45]⟩ = true) (hxs : ∀ x ∈ [path] ++ more, x.size ≤ 300) (hm : more.length ≤ 20) (hi : idxI path ⟨#[58, 47, 47]⟩ = -1) :
    Calls Try.prog 79 #[.string path, .slice (B) (more.length) (d)] w fun e w' => e = .returned (.tuple #[.string (slashP ⟨#[]⟩ (joinP ([path] ++ more))), .nilIface]) ∧ Sp R w' (L) := by
  have hl_more : more.length ≤ 9223372036854775807 := by have := (h0 _ S).1; simpa [strs, ptrs] using this
  have hlen : ([path] ++ more).length = more.length + 1 := by simp
  refine fw_enter (fn := Try.f79) rfl rfl 110 rfl (Nat.le_of_ble_eq_true rfl) ?_
  intro a0 F0
  refine wp_seq_k fun K1 hK1 => ?_
  refine wp_region_lit ?_
  refine op_p F0 (.string ⟨#[]⟩) (by kernel_rfl) rfl rfl rfl (by kernel_rfl) rfl ?_; intro a2 F2
  refine op_p F2 (.nilIface) (by kernel_rfl) rfl rfl rfl (by kernel_rfl) rfl ?_; intro a3 F3
  refine wpList_nil ?_
  refine hK1 _ _ ?_; clear hK1 K1
  refine wp_seq_k fun K4 hK4 => ?_
  refine wp_region_lit ?_
  refine op_p F3 (.string path) (by kernel_rfl) rfl rfl rfl (by kernel_rfl) rfl ?_; intro a5 F5
  refine op_p F5 (.string ⟨#[]⟩) (by kernel_rfl) rfl rfl rfl (by kernel_rfl) rfl ?_; intro a6 F6
  refine op_p F6 (.string path) (by kernel_rfl) rfl rfl rfl (by kernel_rfl) rfl ?_; intro a7 F7
  refine wpList_nil ?_
  refine hK4 _ _ ?_; clear hK4 K4
  refine wp_seq_k fun K8 hK8 => ?_
  refine wp_seq_k fun K9 hK9 => ?_
  refine wp_region_lit ?_
  refine op_p F7 (.string path) (by kernel_rfl) rfl rfl rfl (by kernel_rfl) rfl ?_; intro a10 F10
  refine op_c F10 (f := 144) (args := #[.string path, .string ⟨#[47, 47]⟩]) (by kernel_rfl) (by kernel_rfl) rfl (hasPrefix_any path ⟨#[47, 47]⟩ _ _ _ S ) rfl rfl rfl ?_
  rintro _ w11 ⟨rfl, S11⟩
  refine ⟨_, rfl, ?_⟩
  intro a12 F12
  have F13 := F12.sb 16 (by kernel_rfl) hpre0
  refine wpList_nil ?_
  refine hK9 _ _ ?_; clear hK9 K9
  refine wp_cond_false (F13.ev (by kernel_rfl)) ?_
  refine wp_skip ?_
  refine hK8 _ _ ?_; clear hK8 K8
  refine wp_seq_k fun K14 hK14 => ?_
  refine wp_seq_k fun K15 hK15 => ?_
  refine wp_region_lit ?_
  refine op_p F13 (.string path) (by kernel_rfl) rfl rfl rfl (by kernel_rfl) rfl ?_; intro a16 F16
  refine op_c F16 (f := 145) (args := #[.string path, .string ⟨#[58, 47, 47]⟩]) (by kernel_rfl) (by kernel_rfl) rfl (index_eq path ⟨#[58, 47, 47]⟩ (-1) _ (by first | (show _ + 3 ≤ _; omega) | (show _ + 1 ≤ _; omega)) hi) rfl rfl rfl ?_
  rintro _ _ ⟨rfl, rfl⟩
  refine ⟨_, rfl, ?_⟩
  intro a18 F18
  refine op_p F18 (.int .i64 (-1)) (by kernel_rfl) rfl rfl rfl (by kernel_rfl) rfl ?_; intro a19 F19
  refine wpList_nil ?_
  refine hK15 _ _ ?_; clear hK15 K15
  refine wp_seq_k fun K20 hK20 => ?_
  refine wp_region_lit ?_
  refine op_p F19 (.int .i64 (-1)) (by kernel_rfl) rfl rfl rfl (by kernel_rfl) rfl ?_; intro a21 F21
  refine op_p F21 (.bool false) (by kernel_rfl) rfl rfl rfl (by kernel_rfl) rfl ?_; intro a22 F22
  refine wpList_nil ?_
  refine hK20 _ _ ?_; clear hK20 K20
  refine wp_cond_false (F22.ev (by kernel_rfl)) ?_
  refine wp_skip ?_
  refine hK14 _ _ ?_; clear hK14 K14
  refine wp_seq_k fun K23 hK23 => ?_
  refine wp_seq_k fun K24 hK24 => ?_
  refine wp_region_lit ?_
  refine op_p F22 (.string path) (by kernel_rfl) rfl rfl rfl (by kernel_rfl) rfl ?_; intro a25 F25
  refine op_s F25 (s_news F25 9 #[.string path] 1 (by kernel_rfl) (by kernel_rfl) (by kernel_rfl) S11) rfl rfl rfl ?_
  rintro _ _ w27 ⟨g25, rfl, rfl⟩ S27 a27 F27
  refine op_p F27 (.slice (B) (more.length) (d)) (by kernel_rfl) rfl rfl rfl (by kernel_rfl) rfl ?_; intro a28 F28
  refine op_s F28 (s_app rfl Try.underlying22 1 _ tin9 rfl rfl (F28.ev (v := .slice (some ⟨g25, 0, none⟩) 1 1) (by kernel_rfl)) (Sp.ofblk (sz := 1) (m := 1) (l := [Value.string path]) S27 rfl (by omega) rfl) (strs more) (F28.ev (v := .slice (B) (more.length) (d)) (by kernel_rfl)) (h0 _ S27.drop) (by first | (simp [strs, ptrs]; done) | (simp [strs, ptrs]; omega)) (by intro u hu; obtain ⟨x, _, rfl⟩ := List.mem_map.1 hu; rfl) (by omega) (by omega) (n' := ([path] ++ more).length) (by first | (simp; done) | (simp; omega)) (cs' := strs ([path] ++ more)) (by simp [strs])) rfl rfl rfl ?_
  rintro _ _ w30 ⟨A29, c29, rfl, rfl⟩ S30 a30 F30
  refine op_p F30 (.int .i64 (↑(([path] ++ more).length))) (by kernel_rfl) rfl rfl rfl (by kernel_rfl) rfl ?_; intro a31 F31
  refine op_p F31 (.int .i64 0) (by kernel_rfl) rfl rfl rfl (by kernel_rfl) rfl ?_; intro a32 F32
  refine wpList_nil ?_
  refine hK24 _ _ ?_; clear hK24 K24
  refine wp_block ?_
  refine fw_loop (fun m a' w' => ∃ k : Nat, ([path] ++ more).length - k = m ∧ Fr 110 [] a' [(0, .string path), (1, .slice (B) (more.length) (d)), (4, .string ⟨#[]⟩), (5, .nilIface), (6, .string ⟨#[]⟩), (7, .string path), (8, .int .i64 (-1)), (14, .string path), (15, .string path), (16, .bool false), (18, .string path), (19, .int .i64 (-1)), (20, .int .i64 (-1)), (21, .bool false), (69, .string path), (70, .slice (some ⟨g25, 0, none⟩) 1 1), (71, .slice (B) (more.length) (d)), (72, .slice A29 (([path] ++ more).length) c29), (73, .int .i64 (↑(([path] ++ more).length))), (74, .int .i64 (↑k))] ∧ Sp R w' (SA.own (.slice A29 (([path] ++ more).length) c29) 9 1 (([path] ++ more).length) (strs ([path] ++ more)) :: L) ∧ (k ≤ ([path] ++ more).length)) _ ⟨0, rfl, (F32.k 0 (by kernel_rfl) (F32.k 1 (by kernel_rfl) (F32.k 4 (by kernel_rfl) (F32.k 5 (by kernel_rfl) (F32.k 6 (by kernel_rfl) (F32.k 7 (by kernel_rfl) (F32.k 8 (by kernel_rfl) (F32.k 14 (by kernel_rfl) (F32.k 15 (by kernel_rfl) (F32.k 16 (by kernel_rfl) (F32.k 18 (by kernel_rfl) (F32.k 19 (by kernel_rfl) (F32.k 20 (by kernel_rfl) (F32.k 21 (by kernel_rfl) (F32.k 69 (by kernel_rfl) (F32.k 70 (by kernel_rfl) (F32.k 71 (by kernel_rfl) (F32.k 72 (by kernel_rfl) (F32.k 73 (by kernel_rfl) (F32.k 74 (by kernel_rfl) F32.nil)))))))))))))))))))), S30, (by first | omega | (with_reducible assumption) | (simp; done))⟩ ?_
  rintro m33 a33 w33 ⟨k, hm33, F33, S33, hk⟩ K33 hK33
  by_cases hlt_k : k < ([path] ++ more).length
  · have hc_k : decide ((↑k : Int) < ↑(([path] ++ more).length)) = true := by first | (simp; done) | (simp; omega)
    obtain ⟨ad34, hA34⟩ := (own_sl1 (S33.ow 0 rfl) (by first | omega | (simp; omega))).addr (by simp [strs])
    have hwk := hw _ (List.getElem_mem hlt_k)
    have hxk := hxs _ (List.getElem_mem hlt_k)
    refine wp_seq_k fun K35 hK35 => ?_
    refine wp_region_lit ?_
    refine op_p F33 (.bool (decide ((↑k : Int) < ↑(([path] ++ more).length)))) (by kernel_rfl) rfl rfl rfl (by kernel_rfl) rfl ?_; intro a36 F36
    have F37 := F36.sb 75 (by kernel_rfl) hc_k
    refine wpList_nil ?_
    refine hK35 _ _ ?_; clear hK35 K35
    refine wp_seq_k fun K38 hK38 => ?_
    refine wp_cond_true (F37.ev (by kernel_rfl)) ?_
    refine wp_skip ?_
    refine hK38 _ _ ?_; clear hK38 K38
    refine wp_seq_k fun K39 hK39 => ?_
    refine wp_block ?_
    refine wp_seq_k fun K40 hK40 => ?_
    refine wp_region_lit ?_
    refine op_r (v := .pointer (some (ad34.add k))) F37 (r_ix rfl Try.underlying22 1 (by kernel_rfl) (F37.ev (v := .slice A29 (([path] ++ more).length) c29) (by kernel_rfl)) hA34 (F37.ev (v := .int .i64 (↑k)) (by kernel_rfl)) k (by first | rfl | omega | simp) (by first | omega | (simp; done) | (simp; omega)) (by simp only [Nat.mul_one])) rfl rfl rfl ?_; intro a41 F41
    refine op_r (v := .string (([path] ++ more)[k])) F41 (r_ld rfl (F41.ev (v := .pointer (some (ad34.add k))) (by kernel_rfl)) (v := .string (([path] ++ more)[k])) ((own_sl1 (S33.ow 0 rfl) (by first | omega | (simp; omega))).elA hA34 (j := k) (strs_getE hlt_k)) Try.underlying9 rfl) rfl rfl rfl ?_; intro a42 F42
    refine op_p F42 (.string (([path] ++ more)[k])) (by kernel_rfl) rfl rfl rfl (by kernel_rfl) rfl ?_; intro a43 F43
    refine wpList_nil ?_
    refine hK40 _ _ ?_; clear hK40 K40
    refine wp_seq_k fun K44 hK44 => ?_
    refine wp_region_lit ?_
    refine op_p F43 (.string (([path] ++ more)[k])) (by kernel_rfl) rfl rfl rfl (by kernel_rfl) rfl ?_; intro a45 F45
    refine op_p F45 (.bool (!((([path] ++ more)[k]).toList == (⟨#[]⟩ : ByteArray).toList))) (by kernel_rfl) rfl rfl rfl (by kernel_rfl) rfl ?_; intro a46 F46
    refine op_p F46 (.bool (!((([path] ++ more)[k]).toList == (⟨#[]⟩ : ByteArray).toList))) (by kernel_rfl) rfl rfl rfl (by kernel_rfl) rfl ?_; intro a47 F47
    rcases btf ((([path] ++ more)[k]).toList == (⟨#[]⟩ : ByteArray).toList) with hc48 | hc48
    · have F49 := F47.sb 79 (by kernel_rfl) (show (!((([path] ++ more)[k]).toList == (⟨#[]⟩ : ByteArray).toList)) = false by rw [hc48]; rfl)
      have F50 := F49.sb 80 (by kernel_rfl) (show (!((([path] ++ more)[k]).toList == (⟨#[]⟩ : ByteArray).toList)) = false by rw [hc48]; rfl)
      refine op_skip F50 (by kernel_rfl) rfl rfl rfl ?_; intro a51 F51
      refine op_skip F51 (by kernel_rfl) rfl rfl rfl ?_; intro a52 F52
      refine op_skip F52 (by kernel_rfl) rfl rfl rfl ?_; intro a53 F53
      refine op_p F53 (.bool false) (by kernel_rfl) rfl rfl rfl (by kernel_rfl) rfl ?_; intro a54 F54
      refine wpList_nil ?_
      refine hK44 _ _ ?_; clear hK44 K44
      refine wp_cond_false (F54.ev (by kernel_rfl)) ?_
      refine wp_skip ?_
      refine hK39 _ _ ?_; clear hK39 K39
      refine wp_region_lit ?_
      refine op_r (v := .int .i64 (↑(k + 1))) F54 (r_add (z := ↑(k + 1)) rfl (F54.ev (v := .int .i64 (↑k)) (by kernel_rfl)) (F54.ev (v := .int .i64 1) (by kernel_rfl)) (wr64 (by omega) (by omega) (by omega))) rfl rfl rfl ?_; intro a55 F55
      refine op_p F55 (.int .i64 (↑(k + 1))) (by kernel_rfl) rfl rfl rfl (by kernel_rfl) rfl ?_; intro a56 F56
      refine wpList_nil ?_
      exact hK33 _ _ _ (by first | omega | (simp; omega)) ⟨k + 1, rfl, (F56.k 0 (by kernel_rfl) (F56.k 1 (by kernel_rfl) (F56.k 4 (by kernel_rfl) (F56.k 5 (by kernel_rfl) (F56.k 6 (by kernel_rfl) (F56.k 7 (by kernel_rfl) (F56.k 8 (by kernel_rfl) (F56.k 14 (by kernel_rfl) (F56.k 15 (by kernel_rfl) (F56.k 16 (by kernel_rfl) (F56.k 18 (by kernel_rfl) (F56.k 19 (by kernel_rfl) (F56.k 20 (by kernel_rfl) (F56.k 21 (by kernel_rfl) (F56.k 69 (by kernel_rfl) (F56.k 70 (by kernel_rfl) (F56.k 71 (by kernel_rfl) (F56.k 72 (by kernel_rfl) (F56.k 73 (by kernel_rfl) (F56.k 74 (by kernel_rfl) F56.nil)))))))))))))))))))), S33, (by first | omega | (with_reducible assumption) | (simp; done))⟩
    · have F57 := F47.sb 79 (by kernel_rfl) (show (!((([path] ++ more)[k]).toList == (⟨#[]⟩ : ByteArray).toList)) = true by rw [hc48]; rfl)
      have F58 := F57.sb 80 (by kernel_rfl) (show (!((([path] ++ more)[k]).toList == (⟨#[]⟩ : ByteArray).toList)) = true by rw [hc48]; rfl)
      refine op_want F58 (by kernel_rfl) rfl ?_
      refine op_p F58 (.string (([path] ++ more)[k])) (by kernel_rfl) rfl rfl rfl (by kernel_rfl) rfl ?_; intro a59 F59
      refine op_want F59 (by kernel_rfl) rfl ?_
      refine op_c F59 (f := 146) (args := #[.string (([path] ++ more)[k]), .string ⟨#[47, 46, 95, 45]⟩]) (by kernel_rfl) (by kernel_rfl) rfl (word_any (([path] ++ more)[k]) ⟨#[47, 46, 95, 45]⟩ _ (by first | (show _ + 0 ≤ _; omega) | (show _ + 2 ≤ _; omega) | (show _ + 4 ≤ _; omega))) rfl rfl rfl ?_
      rintro _ _ ⟨rfl, rfl⟩
      refine ⟨_, rfl, ?_⟩
      intro a61 F61
      refine op_want F61 (by kernel_rfl) rfl ?_
      refine op_p F61 (.bool (!(wordB (([path] ++ more)[k]) ⟨#[47, 46, 95, 45]⟩))) (by kernel_rfl) rfl rfl rfl (by kernel_rfl) rfl ?_; intro a62 F62
      refine op_p F62 (.bool (!(wordB (([path] ++ more)[k]) ⟨#[47, 46, 95, 45]⟩))) (by kernel_rfl) rfl rfl rfl (by kernel_rfl) rfl ?_; intro a63 F63
      refine wpList_nil ?_
      refine hK44 _ _ ?_; clear hK44 K44
      have hc64 : (wordB (([path] ++ more)[k]) ⟨#[47, 46, 95, 45]⟩) = true := (hwk.resolve_left (by rw [hc48]; simp))
      have F65 := F63.sb 82 (by kernel_rfl) hc64
      have F66 := F65.sb 83 (by kernel_rfl) (show (!(wordB (([path] ++ more)[k]) ⟨#[47, 46, 95, 45]⟩)) = false by rw [hc64]; rfl)
      have F67 := F66.sb 84 (by kernel_rfl) (show (!(wordB (([path] ++ more)[k]) ⟨#[47, 46, 95, 45]⟩)) = false by rw [hc64]; rfl)
      refine wp_cond_false (F67.ev (by kernel_rfl)) ?_
      refine wp_skip ?_
      refine hK39 _ _ ?_; clear hK39 K39
      refine wp_region_lit ?_
      refine op_r (v := .int .i64 (↑(k + 1))) F67 (r_add (z := ↑(k + 1)) rfl (F67.ev (v := .int .i64 (↑k)) (by kernel_rfl)) (F67.ev (v := .int .i64 1) (by kernel_rfl)) (wr64 (by omega) (by omega) (by omega))) rfl rfl rfl ?_; intro a68 F68
      refine op_p F68 (.int .i64 (↑(k + 1))) (by kernel_rfl) rfl rfl rfl (by kernel_rfl) rfl ?_; intro a69 F69
      refine wpList_nil ?_
      exact hK33 _ _ _ (by first | omega | (simp; omega)) ⟨k + 1, rfl, (F69.k 0 (by kernel_rfl) (F69.k 1 (by kernel_rfl) (F69.k 4 (by kernel_rfl) (F69.k 5 (by kernel_rfl) (F69.k 6 (by kernel_rfl) (F69.k 7 (by kernel_rfl) (F69.k 8 (by kernel_rfl) (F69.k 14 (by kernel_rfl) (F69.k 15 (by kernel_rfl) (F69.k 16 (by kernel_rfl) (F69.k 18 (by kernel_rfl) (F69.k 19 (by kernel_rfl) (F69.k 20 (by kernel_rfl) (F69.k 21 (by kernel_rfl) (F69.k 69 (by kernel_rfl) (F69.k 70 (by kernel_rfl) (F69.k 71 (by kernel_rfl) (F69.k 72 (by kernel_rfl) (F69.k 73 (by kernel_rfl) (F69.k 74 (by kernel_rfl) F69.nil)))))))))))))))))))), S33, (by first | omega | (with_reducible assumption) | (simp; done))⟩
  · have hc_k : decide ((↑k : Int) < ↑(([path] ++ more).length)) = false := by first | (simp; done) | (simp; omega)
    refine wp_seq_k fun K70 hK70 => ?_
    refine wp_region_lit ?_
    refine op_p F33 (.bool (decide ((↑k : Int) < ↑(([path] ++ more).length)))) (by kernel_rfl) rfl rfl rfl (by kernel_rfl) rfl ?_; intro a71 F71
    have F72 := F71.sb 75 (by kernel_rfl) hc_k
    refine wpList_nil ?_
    refine hK70 _ _ ?_; clear hK70 K70
    refine wp_seq_k fun K73 hK73 => ?_
    refine wp_cond_false (F72.ev (by kernel_rfl)) ?_
    refine wp_exit ?_
    refine ex_then ?_; clear hK73 K73
    refine ex_then ?_
    refine ex_in ?_
    refine hK23 _ _ ?_; clear hK23 K23
    refine wp_seq_k fun K74 hK74 => ?_
    refine wp_region_lit ?_
    refine op_p F72 (.string path) (by kernel_rfl) rfl rfl rfl (by kernel_rfl) rfl ?_; intro a75 F75
    refine op_s F75 (s_news F75 9 #[.string path] 1 (by kernel_rfl) (by kernel_rfl) (by kernel_rfl) S33) rfl rfl rfl ?_
    rintro _ _ w77 ⟨g75, rfl, rfl⟩ S77 a77 F77
    refine op_p F77 (.slice (some ⟨g75, 0, none⟩) 1 1) (by kernel_rfl) rfl rfl rfl (by kernel_rfl) rfl ?_; intro a78 F78
    refine wpList_nil ?_
    refine hK74 _ _ ?_; clear hK74 K74
    refine wp_seq_k fun K79 hK79 => ?_
    refine wp_region_lit ?_
    refine op_p F78 (.slice (some ⟨g75, 0, none⟩) 1 1) (by kernel_rfl) rfl rfl rfl (by kernel_rfl) rfl ?_; intro a80 F80
    refine op_p F80 (.slice (B) (more.length) (d)) (by kernel_rfl) rfl rfl rfl (by kernel_rfl) rfl ?_; intro a81 F81
    refine op_s F81 (s_app rfl Try.underlying22 1 _ tin9 rfl rfl (F81.ev (v := .slice (some ⟨g75, 0, none⟩) 1 1) (by kernel_rfl)) (Sp.ofblk (sz := 1) (m := 1) (l := [Value.string path]) S77 rfl (by omega) rfl) (strs more) (F81.ev (v := .slice (B) (more.length) (d)) (by kernel_rfl)) (h0 _ S77.drop.drop) (by first | (simp [strs, ptrs]; done) | (simp [strs, ptrs]; omega)) (by intro u hu; obtain ⟨x, _, rfl⟩ := List.mem_map.1 hu; rfl) (by omega) (by omega) (n' := ([path] ++ more).length) (by first | (simp; done) | (simp; omega)) (cs' := strs ([path] ++ more)) (by simp [strs])) rfl rfl rfl ?_
    rintro _ _ w83 ⟨A82, c82, rfl, rfl⟩ S83 a83 F83
    refine op_p F83 (.slice A82 (([path] ++ more).length) c82) (by kernel_rfl) rfl rfl rfl (by kernel_rfl) rfl ?_; intro a84 F84
    refine wpList_nil ?_
    refine hK79 _ _ ?_; clear hK79 K79
    refine wp_seq_k fun K85 hK85 => ?_
    refine wp_region_lit ?_
    refine op_p F84 (.slice A82 (([path] ++ more).length) c82) (by kernel_rfl) rfl rfl rfl (by kernel_rfl) rfl ?_; intro a86 F86
    refine op_c F86 (f := 148) (args := #[.slice A82 (([path] ++ more).length) c82]) (by kernel_rfl) (by kernel_rfl) rfl (joinPath_any A82 c82 ([path] ++ more) _ _ _ S83 (fun w S => own_sl1 (S.ow 0 rfl) (by first | omega | (simp; omega))) (by simp; omega) hxs) rfl rfl rfl ?_
    rintro _ w87 ⟨rfl, S87⟩
    refine ⟨_, rfl, ?_⟩
    intro a88 F88
    refine op_p F88 (.string (joinP ([path] ++ more))) (by kernel_rfl) rfl rfl rfl (by kernel_rfl) rfl ?_; intro a89 F89
    refine wpList_nil ?_
    refine hK85 _ _ ?_; clear hK85 K85
    refine wp_seq_k fun K90 hK90 => ?_
    refine wp_seq_k fun K91 hK91 => ?_
    refine wp_region_lit ?_
    refine op_p F89 (.string ⟨#[]⟩) (by kernel_rfl) rfl rfl rfl (by kernel_rfl) rfl ?_; intro a92 F92
    refine op_p F92 (.bool false) (by kernel_rfl) rfl rfl rfl (by kernel_rfl) rfl ?_; intro a93 F93
    refine op_p F93 (.bool false) (by kernel_rfl) rfl rfl rfl (by kernel_rfl) rfl ?_; intro a94 F94
    refine op_skip F94 (by kernel_rfl) rfl rfl rfl ?_; intro a95 F95
    refine op_skip F95 (by kernel_rfl) rfl rfl rfl ?_; intro a96 F96
    refine op_p F96 (.bool false) (by kernel_rfl) rfl rfl rfl (by kernel_rfl) rfl ?_; intro a97 F97
    refine op_p F97 (.bool false) (by kernel_rfl) rfl rfl rfl (by kernel_rfl) rfl ?_; intro a98 F98
    refine op_skip F98 (by kernel_rfl) rfl rfl rfl ?_; intro a99 F99
    refine op_skip F99 (by kernel_rfl) rfl rfl rfl ?_; intro a100 F100
    refine op_skip F100 (by kernel_rfl) rfl rfl rfl ?_; intro a101 F101
    refine op_p F101 (.bool false) (by kernel_rfl) rfl rfl rfl (by kernel_rfl) rfl ?_; intro a102 F102
    refine wpList_nil ?_
    refine hK91 _ _ ?_; clear hK91 K91
    refine wp_cond_false (F102.ev (by kernel_rfl)) ?_
    refine wp_skip ?_
    refine hK90 _ _ ?_; clear hK90 K90
    refine wp_seq_k fun K103 hK103 => ?_
    refine wp_region_lit ?_
    refine op_p F102 (.string ⟨#[]⟩) (by kernel_rfl) rfl rfl rfl (by kernel_rfl) rfl ?_; intro a104 F104
    refine op_p F104 (.string (joinP ([path] ++ more))) (by kernel_rfl) rfl rfl rfl (by kernel_rfl) rfl ?_; intro a105 F105
    refine op_r (v := .string ((⟨#[]⟩ : ByteArray) ++ (joinP ([path] ++ more)))) F105 (r_sadd rfl (F105.ev (v := .string ⟨#[]⟩) (by kernel_rfl)) (F105.ev (v := .string (joinP ([path] ++ more))) (by kernel_rfl)) (by show 0 + (joinP ([path] ++ more)).size ≤ 9223372036854775807; have hjz : (joinP ([path] ++ more)).size ≤ 100000 := joinP_size hxs (by simp; omega); first | omega | (simp only [ByteArray.size_append]; omega) | (rw [ByteArray.size_append]; show _ + (1 + _) ≤ _; omega))) rfl rfl rfl ?_; intro a106 F106
    refine op_p F106 (.string ((⟨#[]⟩ : ByteArray) ++ (joinP ([path] ++ more)))) (by kernel_rfl) rfl rfl rfl (by kernel_rfl) rfl ?_; intro a107 F107
    refine op_p F107 (.nilIface) (by kernel_rfl) rfl rfl rfl (by kernel_rfl) rfl ?_; intro a108 F108
    refine wpList_nil ?_
    refine hK103 _ _ ?_; clear hK103 K103
    refine wp_ret ?_
    refine (F108.res2 rfl (v := .string ((⟨#[]⟩ : ByteArray) ++ (joinP ([path] ++ more)))) (by kernel_rfl) (v2 := .nilIface) (by kernel_rfl) ?_).1
    exact ⟨(ret_tup2 (slash_h (by simp)).symm), S87.drop.drop⟩
set_option maxRecDepth 100000 in
set_option maxHeartbeats 20000000 in
theorem urlJoinB1_any (raw : ByteArray) (path : ByteArray) (B : Option Addr) (d : Nat) (more : List ByteArray) (sc : ByteArray) (rest : ByteArray) (host : ByteArray) (pre : ByteArray) (R : Ctx) (L : List SA) (w : World) (S : Sp R w (L)) (h0 : Rf R L fun w => Sl w (B) (strs more)) (hraw : raw.size ≤ 1000) (hpre0 : hasPreB raw ⟨#[47, 47]⟩ = false) (hw : ∀ x ∈ [path] ++ more, (x.toList == (⟨#[]⟩ : ByteArray).toList) = true ∨ wordB x ⟨#[47, 46, 95, 45]⟩ = true) (hxs : ∀ x ∈ [path] ++ more, x.size ≤ 300) (hm : more.length ≤ 20) (hi : idxI raw ⟨#[58, 47, 47]⟩ = ↑sc.size) (hsz : sc.size + 3 + host.size ≤ raw.size) (hrs : rest.size + 3 + sc.size = raw.size) (hhs : host.size ≤ rest.size) (hsc : raw.extract 0 sc.size = sc) (hrest : raw.extract (sc.size + 3) raw.size = rest) (hhost : rest.extract 0 host.size = host) (hpath : rest.extract host.size rest.size = path) (hpre : raw.extract 0 (sc.size + 3 + host.size) = pre) (hw1 : wordB sc ⟨#[]⟩ = true) (hw2 : wordB host ⟨#[46, 45]⟩ = true) (hlow : ((lowF sc).toList == sc.toList) = true) (hla : ∀ j, bt0 sc j ≤ 127) (hr0 : 0 < raw.size) (h65 : decide (((raw[0]'hr0).toNat : Int) < 65) = false) (hpe : (pre.toList == (⟨#[]⟩ : ByteArray).toList) = false) (hj : idxI rest ⟨#[47]⟩ = ↑host.size) :
    Calls Try.prog 79 #[.string raw, .slice (B) (more.length) (d)] w fun e w' => e = .returned (.tuple #[.string (slashP pre (joinP ([path] ++ more))), .nilIface]) ∧ Sp R w' (L) := by
  have hl_more : more.length ≤ 9223372036854775807 := by have := (h0 _ S).1; simpa [strs, ptrs] using this
  have hlen : ([path] ++ more).length = more.length + 1 := by simp
  have hps : pre.size ≤ raw.size := by rw [← hpre]; simp only [ByteArray.size_extract]; omega
  refine fw_enter (fn := Try.f79) rfl rfl 110 rfl (Nat.le_of_ble_eq_true rfl) ?_
  intro a0 F0
  refine wp_seq_k fun K1 hK1 => ?_
  refine wp_region_lit ?_
  refine op_p F0 (.string ⟨#[]⟩) (by kernel_rfl) rfl rfl rfl (by kernel_rfl) rfl ?_; intro a2 F2
  refine op_p F2 (.nilIface) (by kernel_rfl) rfl rfl rfl (by kernel_rfl) rfl ?_; intro a3 F3
  refine wpList_nil ?_
  refine hK1 _ _ ?_; clear hK1 K1
  refine wp_seq_k fun K4 hK4 => ?_
  refine wp_region_lit ?_
  refine op_p F3 (.string raw) (by kernel_rfl) rfl rfl rfl (by kernel_rfl) rfl ?_; intro a5 F5
  refine op_p F5 (.string ⟨#[]⟩) (by kernel_rfl) rfl rfl rfl (by kernel_rfl) rfl ?_; intro a6 F6
  refine op_p F6 (.string raw) (by kernel_rfl) rfl rfl rfl (by kernel_rfl) rfl ?_; intro a7 F7
  refine wpList_nil ?_
  refine hK4 _ _ ?_; clear hK4 K4
  refine wp_seq_k fun K8 hK8 => ?_
  refine wp_seq_k fun K9 hK9 => ?_
  refine wp_region_lit ?_
  refine op_p F7 (.string raw) (by kernel_rfl) rfl rfl rfl (by kernel_rfl) rfl ?_; intro a10 F10
  refine op_c F10 (f := 144) (args := #[.string raw, .string ⟨#[47, 47]⟩]) (by kernel_rfl) (by kernel_rfl) rfl (hasPrefix_any raw ⟨#[47, 47]⟩ _ _ _ S ) rfl rfl rfl ?_
  rintro _ w11 ⟨rfl, S11⟩
  refine ⟨_, rfl, ?_⟩
  intro a12 F12
  have F13 := F12.sb 16 (by kernel_rfl) hpre0
  refine wpList_nil ?_
  refine hK9 _ _ ?_; clear hK9 K9
  refine wp_cond_false (F13.ev (by kernel_rfl)) ?_
  refine wp_skip ?_
  refine hK8 _ _ ?_; clear hK8 K8
  refine wp_seq_k fun K14 hK14 => ?_
  refine wp_seq_k fun K15 hK15 => ?_
  refine wp_region_lit ?_
  refine op_p F13 (.string raw) (by kernel_rfl) rfl rfl rfl (by kernel_rfl) rfl ?_; intro a16 F16
  refine op_c F16 (f := 145) (args := #[.string raw, .string ⟨#[58, 47, 47]⟩]) (by kernel_rfl) (by kernel_rfl) rfl (index_eq raw ⟨#[58, 47, 47]⟩ (↑sc.size) _ (by first | (show _ + 3 ≤ _; omega) | (show _ + 1 ≤ _; omega)) hi) rfl rfl rfl ?_
  rintro _ _ ⟨rfl, rfl⟩
  refine ⟨_, rfl, ?_⟩
  intro a18 F18
  refine op_p F18 (.int .i64 (↑sc.size)) (by kernel_rfl) rfl rfl rfl (by kernel_rfl) rfl ?_; intro a19 F19
  refine wpList_nil ?_
  refine hK15 _ _ ?_; clear hK15 K15
  refine wp_seq_k fun K20 hK20 => ?_
  refine wp_region_lit ?_
  refine op_p F19 (.int .i64 (↑sc.size)) (by kernel_rfl) rfl rfl rfl (by kernel_rfl) rfl ?_; intro a21 F21
  refine op_p F21 (.bool (decide ((0 : Int) ≤ ↑sc.size))) (by kernel_rfl) rfl rfl rfl (by kernel_rfl) rfl ?_; intro a22 F22
  refine wpList_nil ?_
  refine hK20 _ _ ?_; clear hK20 K20
  have hc23 : (decide ((0 : Int) ≤ ↑sc.size)) = true := (by first | (simp; done) | (simp; omega))
  have F24 := F22.sb 21 (by kernel_rfl) hc23
  refine wp_cond_true (F24.ev (by kernel_rfl)) ?_
  refine wp_seq_k fun K25 hK25 => ?_
  refine wp_region_lit ?_
  refine op_p F24 (.string raw) (by kernel_rfl) rfl rfl rfl (by kernel_rfl) rfl ?_; intro a26 F26
  refine op_p F26 (.int .i64 (↑sc.size)) (by kernel_rfl) rfl rfl rfl (by kernel_rfl) rfl ?_; intro a27 F27
  refine op_r (v := .int .i64 (↑(sc.size + 3))) F27 (r_add (z := ↑(sc.size + 3)) rfl (F27.ev (v := .int .i64 (↑sc.size)) (by kernel_rfl)) (F27.ev (v := .int .i64 3) (by kernel_rfl)) (wr64 (by omega) (by omega) (by omega))) rfl rfl rfl ?_; intro a28 F28
  refine op_r (v := .string rest) F28 (r_sll rfl Try.underlying9 (F28.ev (v := .string raw) (by kernel_rfl)) (F28.ev (v := .int .i64 (↑(sc.size + 3))) (by kernel_rfl))  (sc.size + 3) raw.size (by first | rfl | omega | (simp; done) | (simp; omega)) (by first | omega | (simp; done) | (simp; omega)) (hrest)) rfl rfl rfl ?_; intro a29 F29
  refine op_p F29 (.string rest) (by kernel_rfl) rfl rfl rfl (by kernel_rfl) rfl ?_; intro a30 F30
  refine wpList_nil ?_
  refine hK25 _ _ ?_; clear hK25 K25
  refine wp_seq_k fun K31 hK31 => ?_
  refine wp_region_lit ?_
  refine op_p F30 (.string rest) (by kernel_rfl) rfl rfl rfl (by kernel_rfl) rfl ?_; intro a32 F32
  refine op_c F32 (f := 145) (args := #[.string rest, .string ⟨#[47]⟩]) (by kernel_rfl) (by kernel_rfl) rfl (index_eq rest ⟨#[47]⟩ (↑host.size) _ (by first | (show _ + 3 ≤ _; omega) | (show _ + 1 ≤ _; omega)) hj) rfl rfl rfl ?_
  rintro _ _ ⟨rfl, rfl⟩
  refine ⟨_, rfl, ?_⟩
  intro a34 F34
  refine op_p F34 (.int .i64 (↑host.size)) (by kernel_rfl) rfl rfl rfl (by kernel_rfl) rfl ?_; intro a35 F35
  refine wpList_nil ?_
  refine hK31 _ _ ?_; clear hK31 K31
  refine wp_seq_k fun K36 hK36 => ?_
  refine wp_seq_k fun K37 hK37 => ?_
  refine wp_region_lit ?_
  refine op_p F35 (.int .i64 (↑host.size)) (by kernel_rfl) rfl rfl rfl (by kernel_rfl) rfl ?_; intro a38 F38
  refine op_p F38 (.bool (decide ((↑host.size : Int) < 0))) (by kernel_rfl) rfl rfl rfl (by kernel_rfl) rfl ?_; intro a39 F39
  refine wpList_nil ?_
  refine hK37 _ _ ?_; clear hK37 K37
  have hc40 : (decide ((↑host.size : Int) < 0)) = false := (by first | (simp; done) | (simp; omega))
  have F41 := F39.sb 29 (by kernel_rfl) hc40
  refine wp_cond_false (F41.ev (by kernel_rfl)) ?_
  refine wp_skip ?_
  refine hK36 _ _ ?_; clear hK36 K36
  refine wp_seq_k fun K42 hK42 => ?_
  refine wp_seq_k fun K43 hK43 => ?_
  refine wp_region_sep (L0 := L) [some [], some [], some [(0, 32), (1, 33)], some [(2, 34)], some [(3, 35)], some [(4, 36)], some [(5, 37)], some [(5, 37), (6, 38)], some [(5, 37), (7, 39)], some [(5, 37), (8, 40)], some [(9, 41)], some [(10, 42)], some [(10, 42)], some [(10, 42), (11, 43), (12, 44)], some [(10, 42), (13, 45)], some [(10, 42)], some [(10, 42)], some [(10, 42), (15, 47), (16, 48)], some [(10, 42), (14, 46), (17, 49)], some [(10, 42), (18, 50)], some [(19, 51)], some [(20, 52)], some [(20, 52)], some [(20, 52), (21, 53), (22, 54)], some [(20, 52), (23, 55)], some [(20, 52), (24, 56)], some [(20, 52), (25, 57)]] [(SA.emp, fun u A => u = .string raw ∧ A = SA.emp), (SA.emp, fun u A => u = .int .i64 (↑sc.size) ∧ A = SA.emp), (SA.emp, fun u A => u = .string sc ∧ A = SA.emp), (SA.emp, fun v A => v = .bool (wordB sc ⟨#[]⟩) ∧ A = SA.emp), (SA.emp, fun u A => u = .bool false ∧ A = SA.emp), (SA.emp, fun u A => u = .bool false ∧ A = SA.emp), (SA.emp, fun u A => u = .string raw ∧ A = SA.emp), (SA.emp, fun u A => u = .int .u8 (↑raw[0].toNat) ∧ A = SA.emp), (SA.emp, fun u A => u = .bool false ∧ A = SA.emp), (SA.emp, fun u A => u = .bool false ∧ A = SA.emp), (SA.emp, fun u A => u = .bool false ∧ A = SA.emp), (SA.emp, fun u A => u = .string raw ∧ A = SA.emp), (SA.emp, fun u A => u = .int .i64 (↑sc.size) ∧ A = SA.emp), (SA.emp, fun u A => u = .string sc ∧ A = SA.emp), (SA.emp, fun v A => v = .string (lowF sc) ∧ A = SA.emp), (SA.emp, fun u A => u = .string raw ∧ A = SA.emp), (SA.emp, fun u A => u = .int .i64 (↑sc.size) ∧ A = SA.emp), (SA.emp, fun u A => u = .string sc ∧ A = SA.emp), (SA.emp, fun u A => u = .bool false ∧ A = SA.emp), (SA.emp, fun u A => u = .bool false ∧ A = SA.emp), (SA.emp, fun u A => u = .bool false ∧ A = SA.emp), (SA.emp, fun u A => u = .string rest ∧ A = SA.emp), (SA.emp, fun u A => u = .int .i64 (↑host.size) ∧ A = SA.emp), (SA.emp, fun u A => u = .string host ∧ A = SA.emp), (SA.emp, fun v A => v = .bool (wordB host ⟨#[46, 45]⟩) ∧ A = SA.emp), (SA.emp, fun u A => u = .bool false ∧ A = SA.emp), (SA.emp, fun u A => u = .bool false ∧ A = SA.emp)] 110 rfl F41.size rfl (by kernel_rfl) S11.emp.emp.emp.emp.emp.emp.emp.emp.emp.emp.emp.emp.emp.emp.emp.emp.emp.emp.emp.emp.emp.emp.emp.emp.emp.emp.emp ?_ ?_
  · refine ⟨?_, ?_, ?_, ?_, ?_, ?_, ?_, ?_, ?_, ?_, ?_, ?_, ?_, ?_, ?_, ?_, ?_, ?_, ?_, ?_, ?_, ?_, ?_, ?_, ?_, ?_, ?_, trivial⟩
    · intro w116 M116 S116
      refine deps_nil ?_
      refine obl_of (by rfl) ?_
      exact s_p F41 (v := .string raw) (by kernel_rfl) (by kernel_rfl) (by kernel_rfl) S116
    · intro w117 M117 S117
      refine deps_nil ?_
      refine obl_of (by rfl) ?_
      exact s_p F41 (v := .int .i64 (↑sc.size)) (by kernel_rfl) (by kernel_rfl) (by kernel_rfl) S117
    · intro w118 M118 S118
      rintro _ _ ⟨rfl, rfl⟩ hA119
      have F119 := F41.put (d := 32) (v := .string raw) (by decide)
      rintro _ _ ⟨rfl, rfl⟩ hA120
      have F120 := F119.put (d := 33) (v := .int .i64 (↑sc.size)) (by decide)
      refine deps_nil ?_
      refine obl_of (by rfl) ?_
      exact s_r (v := .string sc) (r_slh rfl Try.underlying9 (F120.ev (v := .string raw) (by kernel_rfl)) (F120.ev (v := .int .i64 (↑sc.size)) (by kernel_rfl))  0 sc.size (by first | rfl | omega | (simp; done) | (simp; omega)) (by first | omega | (simp; done) | (simp; omega)) (hsc)) S118
    · intro w121 M121 S121
      rintro _ _ ⟨rfl, rfl⟩ hA122
      have F122 := F41.put (d := 34) (v := .string sc) (by decide)
      refine deps_nil ?_
      refine obl_of (by rfl) ?_
      refine s_c F122 (f := 146) (args := #[.string sc, .string ⟨#[]⟩]) (by kernel_rfl) (by kernel_rfl) (by kernel_rfl) (word_any sc ⟨#[]⟩ _ (by first | (show _ + 0 ≤ _; omega) | (show _ + 2 ≤ _; omega) | (show _ + 4 ≤ _; omega))) ?_
      rintro _ _ ⟨rfl, rfl⟩
      exact ⟨_, _, rfl, ⟨rfl, rfl⟩, S121⟩
    · intro w124 M124 S124
      rintro _ _ ⟨rfl, rfl⟩ hA125
      have F125 := F41.put (d := 35) (v := .bool (wordB sc ⟨#[]⟩)) (by decide)
      refine deps_nil ?_
      refine obl_of (by rfl) ?_
      exact s_pb F125 (b := !(wordB sc ⟨#[]⟩)) (show (!(wordB sc ⟨#[]⟩)) = false by rw [hw1]; rfl) (by kernel_rfl) (by kernel_rfl) (by kernel_rfl) S124
    · intro w126 M126 S126
      rintro _ _ ⟨rfl, rfl⟩ hA127
      have F127 := F41.put (d := 36) (v := .bool false) (by decide)
      refine deps_nil ?_
      refine obl_of (by rfl) ?_
      exact s_p F127 (v := .bool false) (by kernel_rfl) (by kernel_rfl) (by kernel_rfl) S126
    · intro w128 M128 S128
      rintro _ _ ⟨rfl, rfl⟩ hA129
      have F129 := F41.put (d := 37) (v := .bool false) (by decide)
      refine deps_nil ?_
      refine obl_yes (F129.wanted (q := true) (by kernel_rfl) (by intro t ht; injection ht with ht; subst ht; exact nble rfl)) ?_
      exact s_p F129 (v := .string raw) (by kernel_rfl) (by kernel_rfl) (by kernel_rfl) S128
    · intro w130 M130 S130
      rintro _ _ ⟨rfl, rfl⟩ hA131
      have F131 := F41.put (d := 37) (v := .bool false) (by decide)
      rintro _ _ ⟨rfl, rfl⟩ hA132
      have F132 := F131.put (d := 38) (v := .string raw) (by decide)
      refine deps_nil ?_
      refine obl_yes (F132.wanted (q := true) (by kernel_rfl) (by intro t ht; injection ht with ht; subst ht; exact nble rfl)) ?_
      exact s_r (v := .int .u8 (↑raw[0].toNat)) (r_index rfl Try.underlying9 (F132.ev (v := .string raw) (by kernel_rfl)) (F132.ev (v := .int .i64 0) (by kernel_rfl)) 0 (by first | rfl | omega | simp) (by first | omega | (simp; done) | (simp; omega))) S130
    · intro w133 M133 S133
      rintro _ _ ⟨rfl, rfl⟩ hA134
      have F134 := F41.put (d := 37) (v := .bool false) (by decide)
      rintro _ _ ⟨rfl, rfl⟩ hA135
      have F135 := F134.put (d := 39) (v := .int .u8 (↑raw[0].toNat)) (by decide)
      refine deps_nil ?_
      refine obl_yes (F135.wanted (q := true) (by kernel_rfl) (by intro t ht; injection ht with ht; subst ht; exact nble rfl)) ?_
      exact s_pb F135 (b := decide ((↑raw[0].toNat : Int) < 65)) h65 (by kernel_rfl) (by kernel_rfl) (by kernel_rfl) S133
    · intro w136 M136 S136
      rintro _ _ ⟨rfl, rfl⟩ hA137
      have F137 := F41.put (d := 37) (v := .bool false) (by decide)
      rintro _ _ ⟨rfl, rfl⟩ hA138
      have F138 := F137.put (d := 40) (v := .bool false) (by decide)
      refine deps_nil ?_
      refine obl_of (by rfl) ?_
      exact s_p F138 (v := .bool false) (by kernel_rfl) (by kernel_rfl) (by kernel_rfl) S136
    · intro w139 M139 S139
      rintro _ _ ⟨rfl, rfl⟩ hA140
      have F140 := F41.put (d := 41) (v := .bool false) (by decide)
      refine deps_nil ?_
      refine obl_of (by rfl) ?_
      exact s_p F140 (v := .bool false) (by kernel_rfl) (by kernel_rfl) (by kernel_rfl) S139
    · intro w141 M141 S141
      rintro _ _ ⟨rfl, rfl⟩ hA142
      have F142 := F41.put (d := 42) (v := .bool false) (by decide)
      refine deps_nil ?_
      refine obl_yes (F142.wanted (q := true) (by kernel_rfl) (by intro t ht; injection ht with ht; subst ht; exact nble rfl)) ?_
      exact s_p F142 (v := .string raw) (by kernel_rfl) (by kernel_rfl) (by kernel_rfl) S141
    · intro w143 M143 S143
      rintro _ _ ⟨rfl, rfl⟩ hA144
      have F144 := F41.put (d := 42) (v := .bool false) (by decide)
      refine deps_nil ?_
      refine obl_yes (F144.wanted (q := true) (by kernel_rfl) (by intro t ht; injection ht with ht; subst ht; exact nble rfl)) ?_
      exact s_p F144 (v := .int .i64 (↑sc.size)) (by kernel_rfl) (by kernel_rfl) (by kernel_rfl) S143
    · intro w145 M145 S145
      rintro _ _ ⟨rfl, rfl⟩ hA146
      have F146 := F41.put (d := 42) (v := .bool false) (by decide)
      rintro _ _ ⟨rfl, rfl⟩ hA147
      have F147 := F146.put (d := 43) (v := .string raw) (by decide)
      rintro _ _ ⟨rfl, rfl⟩ hA148
      have F148 := F147.put (d := 44) (v := .int .i64 (↑sc.size)) (by decide)
      refine deps_nil ?_
      refine obl_yes (F148.wanted (q := true) (by kernel_rfl) (by intro t ht; injection ht with ht; subst ht; exact nble rfl)) ?_
      exact s_r (v := .string sc) (r_slh rfl Try.underlying9 (F148.ev (v := .string raw) (by kernel_rfl)) (F148.ev (v := .int .i64 (↑sc.size)) (by kernel_rfl))  0 sc.size (by first | rfl | omega | (simp; done) | (simp; omega)) (by first | omega | (simp; done) | (simp; omega)) (hsc)) S145
    · intro w149 M149 S149
      rintro _ _ ⟨rfl, rfl⟩ hA150
      have F150 := F41.put (d := 42) (v := .bool false) (by decide)
      rintro _ _ ⟨rfl, rfl⟩ hA151
      have F151 := F150.put (d := 45) (v := .string sc) (by decide)
      refine deps_nil ?_
      refine obl_yes (F151.wanted (q := true) (by kernel_rfl) (by intro t ht; injection ht with ht; subst ht; exact nble rfl)) ?_
      refine s_c F151 (f := 147) (args := #[.string sc]) (by kernel_rfl) (by kernel_rfl) (by kernel_rfl) (lower_any sc _ _ _ S149.drop (by first | omega | (simp; done) | (simp; omega)) hla) ?_
      rintro _ _ ⟨rfl, S152⟩
      exact ⟨_, _, rfl, ⟨rfl, rfl⟩, S152.emp⟩
    · intro w153 M153 S153
      rintro _ _ ⟨rfl, rfl⟩ hA154
      have F154 := F41.put (d := 42) (v := .bool false) (by decide)
      refine deps_nil ?_
      refine obl_yes (F154.wanted (q := true) (by kernel_rfl) (by intro t ht; injection ht with ht; subst ht; exact nble rfl)) ?_
      exact s_p F154 (v := .string raw) (by kernel_rfl) (by kernel_rfl) (by kernel_rfl) S153
    · intro w155 M155 S155
      rintro _ _ ⟨rfl, rfl⟩ hA156
      have F156 := F41.put (d := 42) (v := .bool false) (by decide)
      refine deps_nil ?_
      refine obl_yes (F156.wanted (q := true) (by kernel_rfl) (by intro t ht; injection ht with ht; subst ht; exact nble rfl)) ?_
      exact s_p F156 (v := .int .i64 (↑sc.size)) (by kernel_rfl) (by kernel_rfl) (by kernel_rfl) S155
    · intro w157 M157 S157
      rintro _ _ ⟨rfl, rfl⟩ hA158
      have F158 := F41.put (d := 42) (v := .bool false) (by decide)
      rintro _ _ ⟨rfl, rfl⟩ hA159
      have F159 := F158.put (d := 47) (v := .string raw) (by decide)
      rintro _ _ ⟨rfl, rfl⟩ hA160
      have F160 := F159.put (d := 48) (v := .int .i64 (↑sc.size)) (by decide)
      refine deps_nil ?_
      refine obl_yes (F160.wanted (q := true) (by kernel_rfl) (by intro t ht; injection ht with ht; subst ht; exact nble rfl)) ?_
      exact s_r (v := .string sc) (r_slh rfl Try.underlying9 (F160.ev (v := .string raw) (by kernel_rfl)) (F160.ev (v := .int .i64 (↑sc.size)) (by kernel_rfl))  0 sc.size (by first | rfl | omega | (simp; done) | (simp; omega)) (by first | omega | (simp; done) | (simp; omega)) (hsc)) S157
    · intro w161 M161 S161
      rintro _ _ ⟨rfl, rfl⟩ hA162
      have F162 := F41.put (d := 42) (v := .bool false) (by decide)
      rintro _ _ ⟨rfl, rfl⟩ hA163
      have F163 := F162.put (d := 46) (v := .string (lowF sc)) (by decide)
      rintro _ _ ⟨rfl, rfl⟩ hA164
      have F164 := F163.put (d := 49) (v := .string sc) (by decide)
      refine deps_nil ?_
      refine obl_yes (F164.wanted (q := true) (by kernel_rfl) (by intro t ht; injection ht with ht; subst ht; exact nble rfl)) ?_
      exact s_pb F164 (b := !((lowF sc).toList == sc.toList)) (show (!((lowF sc).toList == sc.toList)) = false by rw [hlow]; rfl) (by kernel_rfl) (by kernel_rfl) (by kernel_rfl) S161
    · intro w165 M165 S165
      rintro _ _ ⟨rfl, rfl⟩ hA166
      have F166 := F41.put (d := 42) (v := .bool false) (by decide)
      rintro _ _ ⟨rfl, rfl⟩ hA167
      have F167 := F166.put (d := 50) (v := .bool false) (by decide)
      refine deps_nil ?_
      refine obl_of (by rfl) ?_
      exact s_p F167 (v := .bool false) (by kernel_rfl) (by kernel_rfl) (by kernel_rfl) S165
    · intro w168 M168 S168
      rintro _ _ ⟨rfl, rfl⟩ hA169
      have F169 := F41.put (d := 51) (v := .bool false) (by decide)
      refine deps_nil ?_
      refine obl_of (by rfl) ?_
      exact s_p F169 (v := .bool false) (by kernel_rfl) (by kernel_rfl) (by kernel_rfl) S168
    · intro w170 M170 S170
      rintro _ _ ⟨rfl, rfl⟩ hA171
      have F171 := F41.put (d := 52) (v := .bool false) (by decide)
      refine deps_nil ?_
      refine obl_yes (F171.wanted (q := true) (by kernel_rfl) (by intro t ht; injection ht with ht; subst ht; exact nble rfl)) ?_
      exact s_p F171 (v := .string rest) (by kernel_rfl) (by kernel_rfl) (by kernel_rfl) S170
    · intro w172 M172 S172
      rintro _ _ ⟨rfl, rfl⟩ hA173
      have F173 := F41.put (d := 52) (v := .bool false) (by decide)
      refine deps_nil ?_
      refine obl_yes (F173.wanted (q := true) (by kernel_rfl) (by intro t ht; injection ht with ht; subst ht; exact nble rfl)) ?_
      exact s_p F173 (v := .int .i64 (↑host.size)) (by kernel_rfl) (by kernel_rfl) (by kernel_rfl) S172
    · intro w174 M174 S174
      rintro _ _ ⟨rfl, rfl⟩ hA175
      have F175 := F41.put (d := 52) (v := .bool false) (by decide)
      rintro _ _ ⟨rfl, rfl⟩ hA176
      have F176 := F175.put (d := 53) (v := .string rest) (by decide)
      rintro _ _ ⟨rfl, rfl⟩ hA177
      have F177 := F176.put (d := 54) (v := .int .i64 (↑host.size)) (by decide)
      refine deps_nil ?_
      refine obl_yes (F177.wanted (q := true) (by kernel_rfl) (by intro t ht; injection ht with ht; subst ht; exact nble rfl)) ?_
      exact s_r (v := .string host) (r_slh rfl Try.underlying9 (F177.ev (v := .string rest) (by kernel_rfl)) (F177.ev (v := .int .i64 (↑host.size)) (by kernel_rfl))  0 host.size (by first | rfl | omega | (simp; done) | (simp; omega)) (by first | omega | (simp; done) | (simp; omega)) (hhost)) S174
    · intro w178 M178 S178
      rintro _ _ ⟨rfl, rfl⟩ hA179
      have F179 := F41.put (d := 52) (v := .bool false) (by decide)
      rintro _ _ ⟨rfl, rfl⟩ hA180
      have F180 := F179.put (d := 55) (v := .string host) (by decide)
      refine deps_nil ?_
      refine obl_yes (F180.wanted (q := true) (by kernel_rfl) (by intro t ht; injection ht with ht; subst ht; exact nble rfl)) ?_
      refine s_c F180 (f := 146) (args := #[.string host, .string ⟨#[46, 45]⟩]) (by kernel_rfl) (by kernel_rfl) (by kernel_rfl) (word_any host ⟨#[46, 45]⟩ _ (by first | (show _ + 0 ≤ _; omega) | (show _ + 2 ≤ _; omega) | (show _ + 4 ≤ _; omega))) ?_
      rintro _ _ ⟨rfl, rfl⟩
      exact ⟨_, _, rfl, ⟨rfl, rfl⟩, S178⟩
    · intro w182 M182 S182
      rintro _ _ ⟨rfl, rfl⟩ hA183
      have F183 := F41.put (d := 52) (v := .bool false) (by decide)
      rintro _ _ ⟨rfl, rfl⟩ hA184
      have F184 := F183.put (d := 56) (v := .bool (wordB host ⟨#[46, 45]⟩)) (by decide)
      refine deps_nil ?_
      refine obl_yes (F184.wanted (q := true) (by kernel_rfl) (by intro t ht; injection ht with ht; subst ht; exact nble rfl)) ?_
      exact s_pb F184 (b := !(wordB host ⟨#[46, 45]⟩)) (show (!(wordB host ⟨#[46, 45]⟩)) = false by rw [hw2]; rfl) (by kernel_rfl) (by kernel_rfl) (by kernel_rfl) S182
    · intro w185 M185 S185
      rintro _ _ ⟨rfl, rfl⟩ hA186
      have F186 := F41.put (d := 52) (v := .bool false) (by decide)
      rintro _ _ ⟨rfl, rfl⟩ hA187
      have F187 := F186.put (d := 57) (v := .bool false) (by decide)
      refine deps_nil ?_
      refine obl_of (by rfl) ?_
      exact s_p F187 (v := .bool false) (by kernel_rfl) (by kernel_rfl) (by kernel_rfl) S185
  · rintro _ _ ⟨rfl, rfl⟩
    have F189 := F41.put (d := 32) (v := .string raw) (by decide)
    rintro _ _ ⟨rfl, rfl⟩
    have F190 := F189.put (d := 33) (v := .int .i64 (↑sc.size)) (by decide)
    rintro _ _ ⟨rfl, rfl⟩
    have F191 := F190.put (d := 34) (v := .string sc) (by decide)
    rintro _ _ ⟨rfl, rfl⟩
    have F192 := F191.put (d := 35) (v := .bool (wordB sc ⟨#[]⟩)) (by decide)
    rintro _ _ ⟨rfl, rfl⟩
    have F193 := F192.put (d := 36) (v := .bool false) (by decide)
    rintro _ _ ⟨rfl, rfl⟩
    have F194 := F193.put (d := 37) (v := .bool false) (by decide)
    rintro _ _ ⟨rfl, rfl⟩
    have F195 := F194.put (d := 38) (v := .string raw) (by decide)
    rintro _ _ ⟨rfl, rfl⟩
    have F196 := F195.put (d := 39) (v := .int .u8 (↑raw[0].toNat)) (by decide)
    rintro _ _ ⟨rfl, rfl⟩
    have F197 := F196.put (d := 40) (v := .bool false) (by decide)
    rintro _ _ ⟨rfl, rfl⟩
    have F198 := F197.put (d := 41) (v := .bool false) (by decide)
    rintro _ _ ⟨rfl, rfl⟩
    have F199 := F198.put (d := 42) (v := .bool false) (by decide)
    rintro _ _ ⟨rfl, rfl⟩
    have F200 := F199.put (d := 43) (v := .string raw) (by decide)
    rintro _ _ ⟨rfl, rfl⟩
    have F201 := F200.put (d := 44) (v := .int .i64 (↑sc.size)) (by decide)
    rintro _ _ ⟨rfl, rfl⟩
    have F202 := F201.put (d := 45) (v := .string sc) (by decide)
    rintro _ _ ⟨rfl, rfl⟩
    have F203 := F202.put (d := 46) (v := .string (lowF sc)) (by decide)
    rintro _ _ ⟨rfl, rfl⟩
    have F204 := F203.put (d := 47) (v := .string raw) (by decide)
    rintro _ _ ⟨rfl, rfl⟩
    have F205 := F204.put (d := 48) (v := .int .i64 (↑sc.size)) (by decide)
    rintro _ _ ⟨rfl, rfl⟩
    have F206 := F205.put (d := 49) (v := .string sc) (by decide)
    rintro _ _ ⟨rfl, rfl⟩
    have F207 := F206.put (d := 50) (v := .bool false) (by decide)
    rintro _ _ ⟨rfl, rfl⟩
    have F208 := F207.put (d := 51) (v := .bool false) (by decide)
    rintro _ _ ⟨rfl, rfl⟩
    have F209 := F208.put (d := 52) (v := .bool false) (by decide)
    rintro _ _ ⟨rfl, rfl⟩
    have F210 := F209.put (d := 53) (v := .string rest) (by decide)
    rintro _ _ ⟨rfl, rfl⟩
    have F211 := F210.put (d := 54) (v := .int .i64 (↑host.size)) (by decide)
    rintro _ _ ⟨rfl, rfl⟩
    have F212 := F211.put (d := 55) (v := .string host) (by decide)
    rintro _ _ ⟨rfl, rfl⟩
    have F213 := F212.put (d := 56) (v := .bool (wordB host ⟨#[46, 45]⟩)) (by decide)
    rintro _ _ ⟨rfl, rfl⟩
    have F214 := F213.put (d := 57) (v := .bool false) (by decide)
    rintro _ _ ⟨rfl, rfl⟩
    have F215 := F214.put (d := 58) (v := .bool false) (by decide)
    intro w188 S188
    have S216 := S188.drop
    have S217 := S216.drop
    have S218 := S217.drop
    have S219 := S218.drop
    have S220 := S219.drop
    have S221 := S220.drop
    have S222 := S221.drop
    have S223 := S222.drop
    have S224 := S223.drop
    have S225 := S224.drop
    have S226 := S225.drop
    have S227 := S226.drop
    have S228 := S227.drop
    have S229 := S228.drop
    have S230 := S229.drop
    have S231 := S230.drop
    have S232 := S231.drop
    have S233 := S232.drop
    have S234 := S233.drop
    have S235 := S234.drop
    have S236 := S235.drop
    have S237 := S236.drop
    have S238 := S237.drop
    have S239 := S238.drop
    have S240 := S239.drop
    have S241 := S240.drop
    have S242 := S241.drop
    refine wpList_nil ?_
    refine hK43 _ _ ?_; clear hK43 K43
    refine wp_cond_false (F215.ev (by kernel_rfl)) ?_
    refine wp_skip ?_
    refine hK42 _ _ ?_; clear hK42 K42
    refine wp_region_sep (L0 := L) [some [], some [], some [(1, 61)], some [], some [(2, 62), (3, 63)], some [(0, 60), (4, 64)], some [], some [], some [(6, 66), (7, 67)], some [(5, 65)], some [(8, 68)]] [(SA.emp, fun u A => u = .string raw ∧ A = SA.emp), (SA.emp, fun u A => u = .int .i64 (↑sc.size) ∧ A = SA.emp), (SA.emp, fun u A => u = .int .i64 (↑(sc.size + 3)) ∧ A = SA.emp), (SA.emp, fun u A => u = .int .i64 (↑host.size) ∧ A = SA.emp), (SA.emp, fun u A => u = .int .i64 (↑(sc.size + 3 + host.size)) ∧ A = SA.emp), (SA.emp, fun u A => u = .string pre ∧ A = SA.emp), (SA.emp, fun u A => u = .string rest ∧ A = SA.emp), (SA.emp, fun u A => u = .int .i64 (↑host.size) ∧ A = SA.emp), (SA.emp, fun u A => u = .string path ∧ A = SA.emp), (SA.emp, fun u A => u = .string pre ∧ A = SA.emp), (SA.emp, fun u A => u = .string path ∧ A = SA.emp)] 110 rfl F215.size rfl (by kernel_rfl) S242.emp.emp.emp.emp.emp.emp.emp.emp.emp.emp.emp ?_ ?_
    · refine ⟨?_, ?_, ?_, ?_, ?_, ?_, ?_, ?_, ?_, ?_, ?_, trivial⟩
      · intro w263 M263 S263
        refine deps_nil ?_
        refine obl_of (by rfl) ?_
        exact s_p F215 (v := .string raw) (by kernel_rfl) (by kernel_rfl) (by kernel_rfl) S263
      · intro w264 M264 S264
        refine deps_nil ?_
        refine obl_of (by rfl) ?_
        exact s_p F215 (v := .int .i64 (↑sc.size)) (by kernel_rfl) (by kernel_rfl) (by kernel_rfl) S264
      · intro w265 M265 S265
        rintro _ _ ⟨rfl, rfl⟩ hA266
        have F266 := F215.put (d := 61) (v := .int .i64 (↑sc.size)) (by decide)
        refine deps_nil ?_
        refine obl_of (by rfl) ?_
        exact s_r (v := .int .i64 (↑(sc.size + 3))) (r_add (z := ↑(sc.size + 3)) rfl (F266.ev (v := .int .i64 (↑sc.size)) (by kernel_rfl)) (F266.ev (v := .int .i64 3) (by kernel_rfl)) (wr64 (by omega) (by omega) (by omega))) S265
      · intro w267 M267 S267
        refine deps_nil ?_
        refine obl_of (by rfl) ?_
        exact s_p F215 (v := .int .i64 (↑host.size)) (by kernel_rfl) (by kernel_rfl) (by kernel_rfl) S267
      · intro w268 M268 S268
        rintro _ _ ⟨rfl, rfl⟩ hA269
        have F269 := F215.put (d := 62) (v := .int .i64 (↑(sc.size + 3))) (by decide)
        rintro _ _ ⟨rfl, rfl⟩ hA270
        have F270 := F269.put (d := 63) (v := .int .i64 (↑host.size)) (by decide)
        refine deps_nil ?_
        refine obl_of (by rfl) ?_
        exact s_r (v := .int .i64 (↑(sc.size + 3 + host.size))) (r_add (z := ↑(sc.size + 3 + host.size)) rfl (F270.ev (v := .int .i64 (↑(sc.size + 3))) (by kernel_rfl)) (F270.ev (v := .int .i64 (↑host.size)) (by kernel_rfl)) (wr64 (by omega) (by omega) (by omega))) S268
      · intro w271 M271 S271
        rintro _ _ ⟨rfl, rfl⟩ hA272
        have F272 := F215.put (d := 60) (v := .string raw) (by decide)
        rintro _ _ ⟨rfl, rfl⟩ hA273
        have F273 := F272.put (d := 64) (v := .int .i64 (↑(sc.size + 3 + host.size))) (by decide)
        refine deps_nil ?_
        refine obl_of (by rfl) ?_
        exact s_r (v := .string pre) (r_slh rfl Try.underlying9 (F273.ev (v := .string raw) (by kernel_rfl)) (F273.ev (v := .int .i64 (↑(sc.size + 3 + host.size))) (by kernel_rfl))  0 (sc.size + 3 + host.size) (by first | rfl | omega | (simp; done) | (simp; omega)) (by first | omega | (simp; done) | (simp; omega)) (hpre)) S271
      · intro w274 M274 S274
        refine deps_nil ?_
        refine obl_of (by rfl) ?_
        exact s_p F215 (v := .string rest) (by kernel_rfl) (by kernel_rfl) (by kernel_rfl) S274
      · intro w275 M275 S275
        refine deps_nil ?_
        refine obl_of (by rfl) ?_
        exact s_p F215 (v := .int .i64 (↑host.size)) (by kernel_rfl) (by kernel_rfl) (by kernel_rfl) S275
      · intro w276 M276 S276
        rintro _ _ ⟨rfl, rfl⟩ hA277
        have F277 := F215.put (d := 66) (v := .string rest) (by decide)
        rintro _ _ ⟨rfl, rfl⟩ hA278
        have F278 := F277.put (d := 67) (v := .int .i64 (↑host.size)) (by decide)
        refine deps_nil ?_
        refine obl_of (by rfl) ?_
        exact s_r (v := .string path) (r_sll rfl Try.underlying9 (F278.ev (v := .string rest) (by kernel_rfl)) (F278.ev (v := .int .i64 (↑host.size)) (by kernel_rfl))  host.size rest.size (by first | rfl | omega | (simp; done) | (simp; omega)) (by first | omega | (simp; done) | (simp; omega)) (hpath)) S276
      · intro w279 M279 S279
        rintro _ _ ⟨rfl, rfl⟩ hA280
        have F280 := F215.put (d := 65) (v := .string pre) (by decide)
        refine deps_nil ?_
        refine obl_of (by rfl) ?_
        exact s_p F280 (v := .string pre) (by kernel_rfl) (by kernel_rfl) (by kernel_rfl) S279
      · intro w281 M281 S281
        rintro _ _ ⟨rfl, rfl⟩ hA282
        have F282 := F215.put (d := 68) (v := .string path) (by decide)
        refine deps_nil ?_
        refine obl_of (by rfl) ?_
        exact s_p F282 (v := .string path) (by kernel_rfl) (by kernel_rfl) (by kernel_rfl) S281
    · rintro _ _ ⟨rfl, rfl⟩
      have F284 := F215.put (d := 60) (v := .string raw) (by decide)
      rintro _ _ ⟨rfl, rfl⟩
      have F285 := F284.put (d := 61) (v := .int .i64 (↑sc.size)) (by decide)
      rintro _ _ ⟨rfl, rfl⟩
      have F286 := F285.put (d := 62) (v := .int .i64 (↑(sc.size + 3))) (by decide)
      rintro _ _ ⟨rfl, rfl⟩
      have F287 := F286.put (d := 63) (v := .int .i64 (↑host.size)) (by decide)
      rintro _ _ ⟨rfl, rfl⟩
      have F288 := F287.put (d := 64) (v := .int .i64 (↑(sc.size + 3 + host.size))) (by decide)
      rintro _ _ ⟨rfl, rfl⟩
      have F289 := F288.put (d := 65) (v := .string pre) (by decide)
      rintro _ _ ⟨rfl, rfl⟩
      have F290 := F289.put (d := 66) (v := .string rest) (by decide)
      rintro _ _ ⟨rfl, rfl⟩
      have F291 := F290.put (d := 67) (v := .int .i64 (↑host.size)) (by decide)
      rintro _ _ ⟨rfl, rfl⟩
      have F292 := F291.put (d := 68) (v := .string path) (by decide)
      rintro _ _ ⟨rfl, rfl⟩
      have F293 := F292.put (d := 6) (v := .string pre) (by decide)
      rintro _ _ ⟨rfl, rfl⟩
      have F294 := F293.put (d := 7) (v := .string path) (by decide)
      intro w283 S283
      have S295 := S283.drop
      have S296 := S295.drop
      have S297 := S296.drop
      have S298 := S297.drop
      have S299 := S298.drop
      have S300 := S299.drop
      have S301 := S300.drop
      have S302 := S301.drop
      have S303 := S302.drop
      have S304 := S303.drop
      have S305 := S304.drop
      refine wpList_nil ?_
      refine hK14 _ _ ?_; clear hK14 K14
      refine wp_seq_k fun K306 hK306 => ?_
      refine wp_seq_k fun K307 hK307 => ?_
      refine wp_region_lit ?_
      refine op_p F294 (.string path) (by kernel_rfl) rfl rfl rfl (by kernel_rfl) rfl ?_; intro a308 F308
      refine op_s F308 (s_news F308 9 #[.string path] 1 (by kernel_rfl) (by kernel_rfl) (by kernel_rfl) S305) rfl rfl rfl ?_
      rintro _ _ w310 ⟨g308, rfl, rfl⟩ S310 a310 F310
      refine op_p F310 (.slice (B) (more.length) (d)) (by kernel_rfl) rfl rfl rfl (by kernel_rfl) rfl ?_; intro a311 F311
      refine op_s F311 (s_app rfl Try.underlying22 1 _ tin9 rfl rfl (F311.ev (v := .slice (some ⟨g308, 0, none⟩) 1 1) (by kernel_rfl)) (Sp.ofblk (sz := 1) (m := 1) (l := [Value.string path]) S310 rfl (by omega) rfl) (strs more) (F311.ev (v := .slice (B) (more.length) (d)) (by kernel_rfl)) (h0 _ S310.drop) (by first | (simp [strs, ptrs]; done) | (simp [strs, ptrs]; omega)) (by intro u hu; obtain ⟨x, _, rfl⟩ := List.mem_map.1 hu; rfl) (by omega) (by omega) (n' := ([path] ++ more).length) (by first | (simp; done) | (simp; omega)) (cs' := strs ([path] ++ more)) (by simp [strs])) rfl rfl rfl ?_
      rintro _ _ w313 ⟨A312, c312, rfl, rfl⟩ S313 a313 F313
      refine op_p F313 (.int .i64 (↑(([path] ++ more).length))) (by kernel_rfl) rfl rfl rfl (by kernel_rfl) rfl ?_; intro a314 F314
      refine op_p F314 (.int .i64 0) (by kernel_rfl) rfl rfl rfl (by kernel_rfl) rfl ?_; intro a315 F315
      refine wpList_nil ?_
      refine hK307 _ _ ?_; clear hK307 K307
      refine wp_block ?_
      refine fw_loop (fun m a' w' => ∃ k : Nat, ([path] ++ more).length - k = m ∧ Fr 110 [] a' [(0, .string raw), (1, .slice (B) (more.length) (d)), (4, .string ⟨#[]⟩), (5, .nilIface), (6, .string pre), (7, .string path), (8, .int .i64 (↑sc.size)), (9, .string rest), (10, .int .i64 (↑host.size)), (14, .string raw), (15, .string raw), (16, .bool false), (18, .string raw), (19, .int .i64 (↑sc.size)), (20, .int .i64 (↑sc.size)), (21, .bool true), (22, .string raw), (23, .int .i64 (↑sc.size)), (24, .int .i64 (↑(sc.size + 3))), (25, .string rest), (26, .string rest), (27, .int .i64 (↑host.size)), (28, .int .i64 (↑host.size)), (29, .bool false), (32, .string raw), (33, .int .i64 (↑sc.size)), (34, .string sc), (35, .bool (wordB sc ⟨#[]⟩)), (36, .bool false), (37, .bool false), (38, .string raw), (39, .int .u8 (↑raw[0].toNat)), (40, .bool false), (41, .bool false), (42, .bool false), (43, .string raw), (44, .int .i64 (↑sc.size)), (45, .string sc), (46, .string (lowF sc)), (47, .string raw), (48, .int .i64 (↑sc.size)), (49, .string sc), (50, .bool false), (51, .bool false), (52, .bool false), (53, .string rest), (54, .int .i64 (↑host.size)), (55, .string host), (56, .bool (wordB host ⟨#[46, 45]⟩)), (57, .bool false), (58, .bool false), (60, .string raw), (61, .int .i64 (↑sc.size)), (62, .int .i64 (↑(sc.size + 3))), (63, .int .i64 (↑host.size)), (64, .int .i64 (↑(sc.size + 3 + host.size))), (65, .string pre), (66, .string rest), (67, .int .i64 (↑host.size)), (68, .string path), (69, .string path), (70, .slice (some ⟨g308, 0, none⟩) 1 1), (71, .slice (B) (more.length) (d)), (72, .slice A312 (([path] ++ more).length) c312), (73, .int .i64 (↑(([path] ++ more).length))), (74, .int .i64 (↑k))] ∧ Sp R w' (SA.own (.slice A312 (([path] ++ more).length) c312) 9 1 (([path] ++ more).length) (strs ([path] ++ more)) :: L) ∧ (k ≤ ([path] ++ more).length)) _ ⟨0, rfl, (F315.k 0 (by kernel_rfl) (F315.k 1 (by kernel_rfl) (F315.k 4 (by kernel_rfl) (F315.k 5 (by kernel_rfl) (F315.k 6 (by kernel_rfl) (F315.k 7 (by kernel_rfl) (F315.k 8 (by kernel_rfl) (F315.k 9 (by kernel_rfl) (F315.k 10 (by kernel_rfl) (F315.k 14 (by kernel_rfl) (F315.k 15 (by kernel_rfl) (F315.k 16 (by kernel_rfl) (F315.k 18 (by kernel_rfl) (F315.k 19 (by kernel_rfl) (F315.k 20 (by kernel_rfl) (F315.k 21 (by kernel_rfl) (F315.k 22 (by kernel_rfl) (F315.k 23 (by kernel_rfl) (F315.k 24 (by kernel_rfl) (F315.k 25 (by kernel_rfl) (F315.k 26 (by kernel_rfl) (F315.k 27 (by kernel_rfl) (F315.k 28 (by kernel_rfl) (F315.k 29 (by kernel_rfl) (F315.k 32 (by kernel_rfl) (F315.k 33 (by kernel_rfl) (F315.k 34 (by kernel_rfl) (F315.k 35 (by kernel_rfl) (F315.k 36 (by kernel_rfl) (F315.k 37 (by kernel_rfl) (F315.k 38 (by kernel_rfl) (F315.k 39 (by kernel_rfl) (F315.k 40 (by kernel_rfl) (F315.k 41 (by kernel_rfl) (F315.k 42 (by kernel_rfl) (F315.k 43 (by kernel_rfl) (F315.k 44 (by kernel_rfl) (F315.k 45 (by kernel_rfl) (F315.k 46 (by kernel_rfl) (F315.k 47 (by kernel_rfl) (F315.k 48 (by kernel_rfl) (F315.k 49 (by kernel_rfl) (F315.k 50 (by kernel_rfl) (F315.k 51 (by kernel_rfl) (F315.k 52 (by kernel_rfl) (F315.k 53 (by kernel_rfl) (F315.k 54 (by kernel_rfl) (F315.k 55 (by kernel_rfl) (F315.k 56 (by kernel_rfl) (F315.k 57 (by kernel_rfl) (F315.k 58 (by kernel_rfl) (F315.k 60 (by kernel_rfl) (F315.k 61 (by kernel_rfl) (F315.k 62 (by kernel_rfl) (F315.k 63 (by kernel_rfl) (F315.k 64 (by kernel_rfl) (F315.k 65 (by kernel_rfl) (F315.k 66 (by kernel_rfl) (F315.k 67 (by kernel_rfl) (F315.k 68 (by kernel_rfl) (F315.k 69 (by kernel_rfl) (F315.k 70 (by kernel_rfl) (F315.k 71 (by kernel_rfl) (F315.k 72 (by kernel_rfl) (F315.k 73 (by kernel_rfl) (F315.k 74 (by kernel_rfl) F315.nil)))))))))))))))))))))))))))))))))))))))))))))))))))))))))))))))))), S313, (by first | omega | (with_reducible assumption) | (simp; done))⟩ ?_
      rintro m316 a316 w316 ⟨k, hm316, F316, S316, hk⟩ K316 hK316
      by_cases hlt_k : k < ([path] ++ more).length
      · have hc_k : decide ((↑k : Int) < ↑(([path] ++ more).length)) = true := by first | (simp; done) | (simp; omega)
        obtain ⟨ad317, hA317⟩ := (own_sl1 (S316.ow 0 rfl) (by first | omega | (simp; omega))).addr (by simp [strs])
        have hwk := hw _ (List.getElem_mem hlt_k)
        have hxk := hxs _ (List.getElem_mem hlt_k)
        refine wp_seq_k fun K318 hK318 => ?_
        refine wp_region_lit ?_
        refine op_p F316 (.bool (decide ((↑k : Int) < ↑(([path] ++ more).length)))) (by kernel_rfl) rfl rfl rfl (by kernel_rfl) rfl ?_; intro a319 F319
        have F320 := F319.sb 75 (by kernel_rfl) hc_k
        refine wpList_nil ?_
        refine hK318 _ _ ?_; clear hK318 K318
        refine wp_seq_k fun K321 hK321 => ?_
        refine wp_cond_true (F320.ev (by kernel_rfl)) ?_
        refine wp_skip ?_
        refine hK321 _ _ ?_; clear hK321 K321
        refine wp_seq_k fun K322 hK322 => ?_
        refine wp_block ?_
        refine wp_seq_k fun K323 hK323 => ?_
        refine wp_region_lit ?_
        refine op_r (v := .pointer (some (ad317.add k))) F320 (r_ix rfl Try.underlying22 1 (by kernel_rfl) (F320.ev (v := .slice A312 (([path] ++ more).length) c312) (by kernel_rfl)) hA317 (F320.ev (v := .int .i64 (↑k)) (by kernel_rfl)) k (by first | rfl | omega | simp) (by first | omega | (simp; done) | (simp; omega)) (by simp only [Nat.mul_one])) rfl rfl rfl ?_; intro a324 F324
        refine op_r (v := .string (([path] ++ more)[k])) F324 (r_ld rfl (F324.ev (v := .pointer (some (ad317.add k))) (by kernel_rfl)) (v := .string (([path] ++ more)[k])) ((own_sl1 (S316.ow 0 rfl) (by first | omega | (simp; omega))).elA hA317 (j := k) (strs_getE hlt_k)) Try.underlying9 rfl) rfl rfl rfl ?_; intro a325 F325
        refine op_p F325 (.string (([path] ++ more)[k])) (by kernel_rfl) rfl rfl rfl (by kernel_rfl) rfl ?_; intro a326 F326
        refine wpList_nil ?_
        refine hK323 _ _ ?_; clear hK323 K323
        refine wp_seq_k fun K327 hK327 => ?_
        refine wp_region_lit ?_
        refine op_p F326 (.string (([path] ++ more)[k])) (by kernel_rfl) rfl rfl rfl (by kernel_rfl) rfl ?_; intro a328 F328
        refine op_p F328 (.bool (!((([path] ++ more)[k]).toList == (⟨#[]⟩ : ByteArray).toList))) (by kernel_rfl) rfl rfl rfl (by kernel_rfl) rfl ?_; intro a329 F329
        refine op_p F329 (.bool (!((([path] ++ more)[k]).toList == (⟨#[]⟩ : ByteArray).toList))) (by kernel_rfl) rfl rfl rfl (by kernel_rfl) rfl ?_; intro a330 F330
        rcases btf ((([path] ++ more)[k]).toList == (⟨#[]⟩ : ByteArray).toList) with hc331 | hc331
        · have F332 := F330.sb 79 (by kernel_rfl) (show (!((([path] ++ more)[k]).toList == (⟨#[]⟩ : ByteArray).toList)) = false by rw [hc331]; rfl)
          have F333 := F332.sb 80 (by kernel_rfl) (show (!((([path] ++ more)[k]).toList == (⟨#[]⟩ : ByteArray).toList)) = false by rw [hc331]; rfl)
          refine op_skip F333 (by kernel_rfl) rfl rfl rfl ?_; intro a334 F334
          refine op_skip F334 (by kernel_rfl) rfl rfl rfl ?_; intro a335 F335
          refine op_skip F335 (by kernel_rfl) rfl rfl rfl ?_; intro a336 F336
          refine op_p F336 (.bool false) (by kernel_rfl) rfl rfl rfl (by kernel_rfl) rfl ?_; intro a337 F337
          refine wpList_nil ?_
          refine hK327 _ _ ?_; clear hK327 K327
          refine wp_cond_false (F337.ev (by kernel_rfl)) ?_
          refine wp_skip ?_
          refine hK322 _ _ ?_; clear hK322 K322
          refine wp_region_lit ?_
          refine op_r (v := .int .i64 (↑(k + 1))) F337 (r_add (z := ↑(k + 1)) rfl (F337.ev (v := .int .i64 (↑k)) (by kernel_rfl)) (F337.ev (v := .int .i64 1) (by kernel_rfl)) (wr64 (by omega) (by omega) (by omega))) rfl rfl rfl ?_; intro a338 F338
          refine op_p F338 (.int .i64 (↑(k + 1))) (by kernel_rfl) rfl rfl rfl (by kernel_rfl) rfl ?_; intro a339 F339
          refine wpList_nil ?_
          exact hK316 _ _ _ (by first | omega | (simp; omega)) ⟨k + 1, rfl, (F339.k 0 (by kernel_rfl) (F339.k 1 (by kernel_rfl) (F339.k 4 (by kernel_rfl) (F339.k 5 (by kernel_rfl) (F339.k 6 (by kernel_rfl) (F339.k 7 (by kernel_rfl) (F339.k 8 (by kernel_rfl) (F339.k 9 (by kernel_rfl) (F339.k 10 (by kernel_rfl) (F339.k 14 (by kernel_rfl) (F339.k 15 (by kernel_rfl) (F339.k 16 (by kernel_rfl) (F339.k 18 (by kernel_rfl) (F339.k 19 (by kernel_rfl) (F339.k 20 (by kernel_rfl) (F339.k 21 (by kernel_rfl) (F339.k 22 (by kernel_rfl) (F339.k 23 (by kernel_rfl) (F339.k 24 (by kernel_rfl) (F339.k 25 (by kernel_rfl) (F339.k 26 (by kernel_rfl) (F339.k 27 (by kernel_rfl) (F339.k 28 (by kernel_rfl) (F339.k 29 (by kernel_rfl) (F339.k 32 (by kernel_rfl) (F339.k 33 (by kernel_rfl) (F339.k 34 (by kernel_rfl) (F339.k 35 (by kernel_rfl) (F339.k 36 (by kernel_rfl) (F339.k 37 (by kernel_rfl) (F339.k 38 (by kernel_rfl) (F339.k 39 (by kernel_rfl) (F339.k 40 (by kernel_rfl) (F339.k 41 (by kernel_rfl) (F339.k 42 (by kernel_rfl) (F339.k 43 (by kernel_rfl) (F339.k 44 (by kernel_rfl) (F339.k 45 (by kernel_rfl) (F339.k 46 (by kernel_rfl) (F339.k 47 (by kernel_rfl) (F339.k 48 (by kernel_rfl) (F339.k 49 (by kernel_rfl) (F339.k 50 (by kernel_rfl) (F339.k 51 (by kernel_rfl) (F339.k 52 (by kernel_rfl) (F339.k 53 (by kernel_rfl) (F339.k 54 (by kernel_rfl) (F339.k 55 (by kernel_rfl) (F339.k 56 (by kernel_rfl) (F339.k 57 (by kernel_rfl) (F339.k 58 (by kernel_rfl) (F339.k 60 (by kernel_rfl) (F339.k 61 (by kernel_rfl) (F339.k 62 (by kernel_rfl) (F339.k 63 (by kernel_rfl) (F339.k 64 (by kernel_rfl) (F339.k 65 (by kernel_rfl) (F339.k 66 (by kernel_rfl) (F339.k 67 (by kernel_rfl) (F339.k 68 (by kernel_rfl) (F339.k 69 (by kernel_rfl) (F339.k 70 (by kernel_rfl) (F339.k 71 (by kernel_rfl) (F339.k 72 (by kernel_rfl) (F339.k 73 (by kernel_rfl) (F339.k 74 (by kernel_rfl) F339.nil)))))))))))))))))))))))))))))))))))))))))))))))))))))))))))))))))), S316, (by first | omega | (with_reducible assumption) | (simp; done))⟩
        · have F340 := F330.sb 79 (by kernel_rfl) (show (!((([path] ++ more)[k]).toList == (⟨#[]⟩ : ByteArray).toList)) = true by rw [hc331]; rfl)
          have F341 := F340.sb 80 (by kernel_rfl) (show (!((([path] ++ more)[k]).toList == (⟨#[]⟩ : ByteArray).toList)) = true by rw [hc331]; rfl)
          refine op_want F341 (by kernel_rfl) rfl ?_
          refine op_p F341 (.string (([path] ++ more)[k])) (by kernel_rfl) rfl rfl rfl (by kernel_rfl) rfl ?_; intro a342 F342
          refine op_want F342 (by kernel_rfl) rfl ?_
          refine op_c F342 (f := 146) (args := #[.string (([path] ++ more)[k]), .string ⟨#[47, 46, 95, 45]⟩]) (by kernel_rfl) (by kernel_rfl) rfl (word_any (([path] ++ more)[k]) ⟨#[47, 46, 95, 45]⟩ _ (by first | (show _ + 0 ≤ _; omega) | (show _ + 2 ≤ _; omega) | (show _ + 4 ≤ _; omega))) rfl rfl rfl ?_
          rintro _ _ ⟨rfl, rfl⟩
          refine ⟨_, rfl, ?_⟩
          intro a344 F344
          refine op_want F344 (by kernel_rfl) rfl ?_
          refine op_p F344 (.bool (!(wordB (([path] ++ more)[k]) ⟨#[47, 46, 95, 45]⟩))) (by kernel_rfl) rfl rfl rfl (by kernel_rfl) rfl ?_; intro a345 F345
          refine op_p F345 (.bool (!(wordB (([path] ++ more)[k]) ⟨#[47, 46, 95, 45]⟩))) (by kernel_rfl) rfl rfl rfl (by kernel_rfl) rfl ?_; intro a346 F346
          refine wpList_nil ?_
          refine hK327 _ _ ?_; clear hK327 K327
          have hc347 : (wordB (([path] ++ more)[k]) ⟨#[47, 46, 95, 45]⟩) = true := (hwk.resolve_left (by rw [hc331]; simp))
          have F348 := F346.sb 82 (by kernel_rfl) hc347
          have F349 := F348.sb 83 (by kernel_rfl) (show (!(wordB (([path] ++ more)[k]) ⟨#[47, 46, 95, 45]⟩)) = false by rw [hc347]; rfl)
          have F350 := F349.sb 84 (by kernel_rfl) (show (!(wordB (([path] ++ more)[k]) ⟨#[47, 46, 95, 45]⟩)) = false by rw [hc347]; rfl)
          refine wp_cond_false (F350.ev (by kernel_rfl)) ?_
          refine wp_skip ?_
          refine hK322 _ _ ?_; clear hK322 K322
          refine wp_region_lit ?_
          refine op_r (v := .int .i64 (↑(k + 1))) F350 (r_add (z := ↑(k + 1)) rfl (F350.ev (v := .int .i64 (↑k)) (by kernel_rfl)) (F350.ev (v := .int .i64 1) (by kernel_rfl)) (wr64 (by omega) (by omega) (by omega))) rfl rfl rfl ?_; intro a351 F351
          refine op_p F351 (.int .i64 (↑(k + 1))) (by kernel_rfl) rfl rfl rfl (by kernel_rfl) rfl ?_; intro a352 F352
          refine wpList_nil ?_
          exact hK316 _ _ _ (by first | omega | (simp; omega)) ⟨k + 1, rfl, (F352.k 0 (by kernel_rfl) (F352.k 1 (by kernel_rfl) (F352.k 4 (by kernel_rfl) (F352.k 5 (by kernel_rfl) (F352.k 6 (by kernel_rfl) (F352.k 7 (by kernel_rfl) (F352.k 8 (by kernel_rfl) (F352.k 9 (by kernel_rfl) (F352.k 10 (by kernel_rfl) (F352.k 14 (by kernel_rfl) (F352.k 15 (by kernel_rfl) (F352.k 16 (by kernel_rfl) (F352.k 18 (by kernel_rfl) (F352.k 19 (by kernel_rfl) (F352.k 20 (by kernel_rfl) (F352.k 21 (by kernel_rfl) (F352.k 22 (by kernel_rfl) (F352.k 23 (by kernel_rfl) (F352.k 24 (by kernel_rfl) (F352.k 25 (by kernel_rfl) (F352.k 26 (by kernel_rfl) (F352.k 27 (by kernel_rfl) (F352.k 28 (by kernel_rfl) (F352.k 29 (by kernel_rfl) (F352.k 32 (by kernel_rfl) (F352.k 33 (by kernel_rfl) (F352.k 34 (by kernel_rfl) (F352.k 35 (by kernel_rfl) (F352.k 36 (by kernel_rfl) (F352.k 37 (by kernel_rfl) (F352.k 38 (by kernel_rfl) (F352.k 39 (by kernel_rfl) (F352.k 40 (by kernel_rfl) (F352.k 41 (by kernel_rfl) (F352.k 42 (by kernel_rfl) (F352.k 43 (by kernel_rfl) (F352.k 44 (by kernel_rfl) (F352.k 45 (by kernel_rfl) (F352.k 46 (by kernel_rfl) (F352.k 47 (by kernel_rfl) (F352.k 48 (by kernel_rfl) (F352.k 49 (by kernel_rfl) (F352.k 50 (by kernel_rfl) (F352.k 51 (by kernel_rfl) (F352.k 52 (by kernel_rfl) (F352.k 53 (by kernel_rfl) (F352.k 54 (by kernel_rfl) (F352.k 55 (by kernel_rfl) (F352.k 56 (by kernel_rfl) (F352.k 57 (by kernel_rfl) (F352.k 58 (by kernel_rfl) (F352.k 60 (by kernel_rfl) (F352.k 61 (by kernel_rfl) (F352.k 62 (by kernel_rfl) (F352.k 63 (by kernel_rfl) (F352.k 64 (by kernel_rfl) (F352.k 65 (by kernel_rfl) (F352.k 66 (by kernel_rfl) (F352.k 67 (by kernel_rfl) (F352.k 68 (by kernel_rfl) (F352.k 69 (by kernel_rfl) (F352.k 70 (by kernel_rfl) (F352.k 71 (by kernel_rfl) (F352.k 72 (by kernel_rfl) (F352.k 73 (by kernel_rfl) (F352.k 74 (by kernel_rfl) F352.nil)))))))))))))))))))))))))))))))))))))))))))))))))))))))))))))))))), S316, (by first | omega | (with_reducible assumption) | (simp; done))⟩
      · have hc_k : decide ((↑k : Int) < ↑(([path] ++ more).length)) = false := by first | (simp; done) | (simp; omega)
        refine wp_seq_k fun K353 hK353 => ?_
        refine wp_region_lit ?_
        refine op_p F316 (.bool (decide ((↑k : Int) < ↑(([path] ++ more).length)))) (by kernel_rfl) rfl rfl rfl (by kernel_rfl) rfl ?_; intro a354 F354
        have F355 := F354.sb 75 (by kernel_rfl) hc_k
        refine wpList_nil ?_
        refine hK353 _ _ ?_; clear hK353 K353
        refine wp_seq_k fun K356 hK356 => ?_
        refine wp_cond_false (F355.ev (by kernel_rfl)) ?_
        refine wp_exit ?_
        refine ex_then ?_; clear hK356 K356
        refine ex_then ?_
        refine ex_in ?_
        refine hK306 _ _ ?_; clear hK306 K306
        refine wp_seq_k fun K357 hK357 => ?_
        refine wp_region_lit ?_
        refine op_p F355 (.string path) (by kernel_rfl) rfl rfl rfl (by kernel_rfl) rfl ?_; intro a358 F358
        refine op_s F358 (s_news F358 9 #[.string path] 1 (by kernel_rfl) (by kernel_rfl) (by kernel_rfl) S316) rfl rfl rfl ?_
        rintro _ _ w360 ⟨g358, rfl, rfl⟩ S360 a360 F360
        refine op_p F360 (.slice (some ⟨g358, 0, none⟩) 1 1) (by kernel_rfl) rfl rfl rfl (by kernel_rfl) rfl ?_; intro a361 F361
        refine wpList_nil ?_
        refine hK357 _ _ ?_; clear hK357 K357
        refine wp_seq_k fun K362 hK362 => ?_
        refine wp_region_lit ?_
        refine op_p F361 (.slice (some ⟨g358, 0, none⟩) 1 1) (by kernel_rfl) rfl rfl rfl (by kernel_rfl) rfl ?_; intro a363 F363
        refine op_p F363 (.slice (B) (more.length) (d)) (by kernel_rfl) rfl rfl rfl (by kernel_rfl) rfl ?_; intro a364 F364
        refine op_s F364 (s_app rfl Try.underlying22 1 _ tin9 rfl rfl (F364.ev (v := .slice (some ⟨g358, 0, none⟩) 1 1) (by kernel_rfl)) (Sp.ofblk (sz := 1) (m := 1) (l := [Value.string path]) S360 rfl (by omega) rfl) (strs more) (F364.ev (v := .slice (B) (more.length) (d)) (by kernel_rfl)) (h0 _ S360.drop.drop) (by first | (simp [strs, ptrs]; done) | (simp [strs, ptrs]; omega)) (by intro u hu; obtain ⟨x, _, rfl⟩ := List.mem_map.1 hu; rfl) (by omega) (by omega) (n' := ([path] ++ more).length) (by first | (simp; done) | (simp; omega)) (cs' := strs ([path] ++ more)) (by simp [strs])) rfl rfl rfl ?_
        rintro _ _ w366 ⟨A365, c365, rfl, rfl⟩ S366 a366 F366
        refine op_p F366 (.slice A365 (([path] ++ more).length) c365) (by kernel_rfl) rfl rfl rfl (by kernel_rfl) rfl ?_; intro a367 F367
        refine wpList_nil ?_
        refine hK362 _ _ ?_; clear hK362 K362
        refine wp_seq_k fun K368 hK368 => ?_
        refine wp_region_lit ?_
        refine op_p F367 (.slice A365 (([path] ++ more).length) c365) (by kernel_rfl) rfl rfl rfl (by kernel_rfl) rfl ?_; intro a369 F369
        refine op_c F369 (f := 148) (args := #[.slice A365 (([path] ++ more).length) c365]) (by kernel_rfl) (by kernel_rfl) rfl (joinPath_any A365 c365 ([path] ++ more) _ _ _ S366 (fun w S => own_sl1 (S.ow 0 rfl) (by first | omega | (simp; omega))) (by simp; omega) hxs) rfl rfl rfl ?_
        rintro _ w370 ⟨rfl, S370⟩
        refine ⟨_, rfl, ?_⟩
        intro a371 F371
        refine op_p F371 (.string (joinP ([path] ++ more))) (by kernel_rfl) rfl rfl rfl (by kernel_rfl) rfl ?_; intro a372 F372
        refine wpList_nil ?_
        refine hK368 _ _ ?_; clear hK368 K368
        refine wp_seq_k fun K373 hK373 => ?_
        refine wp_seq_k fun K374 hK374 => ?_
        refine wp_region_lit ?_
        refine op_p F372 (.string pre) (by kernel_rfl) rfl rfl rfl (by kernel_rfl) rfl ?_; intro a375 F375
        refine op_p F375 (.bool (!(pre.toList == (⟨#[]⟩ : ByteArray).toList))) (by kernel_rfl) rfl rfl rfl (by kernel_rfl) rfl ?_; intro a376 F376
        have F377 := F376.sb 95 (by kernel_rfl) (show (!(pre.toList == (⟨#[]⟩ : ByteArray).toList)) = true by rw [hpe]; rfl)
        refine op_p F377 (.bool true) (by kernel_rfl) rfl rfl rfl (by kernel_rfl) rfl ?_; intro a378 F378
        refine op_want F378 (by kernel_rfl) rfl ?_
        refine op_p F378 (.string (joinP ([path] ++ more))) (by kernel_rfl) rfl rfl rfl (by kernel_rfl) rfl ?_; intro a379 F379
        refine op_want F379 (by kernel_rfl) rfl ?_
        refine op_p F379 (.bool (!((joinP ([path] ++ more)).toList == (⟨#[]⟩ : ByteArray).toList))) (by kernel_rfl) rfl rfl rfl (by kernel_rfl) rfl ?_; intro a380 F380
        refine op_p F380 (.bool (!((joinP ([path] ++ more)).toList == (⟨#[]⟩ : ByteArray).toList))) (by kernel_rfl) rfl rfl rfl (by kernel_rfl) rfl ?_; intro a381 F381
        refine op_p F381 (.bool (!((joinP ([path] ++ more)).toList == (⟨#[]⟩ : ByteArray).toList))) (by kernel_rfl) rfl rfl rfl (by kernel_rfl) rfl ?_; intro a382 F382
        rcases btf ((joinP ([path] ++ more)).toList == (⟨#[]⟩ : ByteArray).toList) with hc383 | hc383
        · have F384 := F382.sb 98 (by kernel_rfl) (show (!((joinP ([path] ++ more)).toList == (⟨#[]⟩ : ByteArray).toList)) = false by rw [hc383]; rfl)
          have F385 := F384.sb 99 (by kernel_rfl) (show (!((joinP ([path] ++ more)).toList == (⟨#[]⟩ : ByteArray).toList)) = false by rw [hc383]; rfl)
          have F386 := F385.sb 100 (by kernel_rfl) (show (!((joinP ([path] ++ more)).toList == (⟨#[]⟩ : ByteArray).toList)) = false by rw [hc383]; rfl)
          refine op_skip F386 (by kernel_rfl) rfl rfl rfl ?_; intro a387 F387
          refine op_skip F387 (by kernel_rfl) rfl rfl rfl ?_; intro a388 F388
          refine op_skip F388 (by kernel_rfl) rfl rfl rfl ?_; intro a389 F389
          refine op_p F389 (.bool false) (by kernel_rfl) rfl rfl rfl (by kernel_rfl) rfl ?_; intro a390 F390
          refine wpList_nil ?_
          refine hK374 _ _ ?_; clear hK374 K374
          refine wp_cond_false (F390.ev (by kernel_rfl)) ?_
          refine wp_skip ?_
          refine hK373 _ _ ?_; clear hK373 K373
          refine wp_seq_k fun K391 hK391 => ?_
          refine wp_region_lit ?_
          refine op_p F390 (.string pre) (by kernel_rfl) rfl rfl rfl (by kernel_rfl) rfl ?_; intro a392 F392
          refine op_p F392 (.string (joinP ([path] ++ more))) (by kernel_rfl) rfl rfl rfl (by kernel_rfl) rfl ?_; intro a393 F393
          refine op_r (v := .string (pre ++ (joinP ([path] ++ more)))) F393 (r_sadd rfl (F393.ev (v := .string pre) (by kernel_rfl)) (F393.ev (v := .string (joinP ([path] ++ more))) (by kernel_rfl)) (by show pre.size + (joinP ([path] ++ more)).size ≤ 9223372036854775807; have hjz : (joinP ([path] ++ more)).size ≤ 100000 := joinP_size hxs (by simp; omega); first | omega | (simp only [ByteArray.size_append]; omega) | (rw [ByteArray.size_append]; show _ + (1 + _) ≤ _; omega))) rfl rfl rfl ?_; intro a394 F394
          refine op_p F394 (.string (pre ++ (joinP ([path] ++ more)))) (by kernel_rfl) rfl rfl rfl (by kernel_rfl) rfl ?_; intro a395 F395
          refine op_p F395 (.nilIface) (by kernel_rfl) rfl rfl rfl (by kernel_rfl) rfl ?_; intro a396 F396
          refine wpList_nil ?_
          refine hK391 _ _ ?_; clear hK391 K391
          refine wp_ret ?_
          refine (F396.res2 rfl (v := .string (pre ++ (joinP ([path] ++ more)))) (by kernel_rfl) (v2 := .nilIface) (by kernel_rfl) ?_).1
          exact ⟨(ret_tup2 (slash_p hc383).symm), S370.drop.drop⟩
        · have hjpos := ne_size hc383
          have F397 := F382.sb 98 (by kernel_rfl) (show (!((joinP ([path] ++ more)).toList == (⟨#[]⟩ : ByteArray).toList)) = true by rw [hc383]; rfl)
          have F398 := F397.sb 99 (by kernel_rfl) (show (!((joinP ([path] ++ more)).toList == (⟨#[]⟩ : ByteArray).toList)) = true by rw [hc383]; rfl)
          have F399 := F398.sb 100 (by kernel_rfl) (show (!((joinP ([path] ++ more)).toList == (⟨#[]⟩ : ByteArray).toList)) = true by rw [hc383]; rfl)
          refine op_want F399 (by kernel_rfl) rfl ?_
          refine op_p F399 (.string (joinP ([path] ++ more))) (by kernel_rfl) rfl rfl rfl (by kernel_rfl) rfl ?_; intro a400 F400
          refine op_want F400 (by kernel_rfl) rfl ?_
          refine op_r (v := .int .u8 (↑(joinP ([path] ++ more))[0].toNat)) F400 (r_index rfl Try.underlying9 (F400.ev (v := .string (joinP ([path] ++ more))) (by kernel_rfl)) (F400.ev (v := .int .i64 0) (by kernel_rfl)) 0 (by first | rfl | omega | simp) (by first | omega | (simp; done) | (simp; omega))) rfl rfl rfl ?_; intro a401 F401
          refine op_want F401 (by kernel_rfl) rfl ?_
          refine op_p F401 (.bool (!((↑(joinP ([path] ++ more))[0].toNat : Int) == 47))) (by kernel_rfl) rfl rfl rfl (by kernel_rfl) rfl ?_; intro a402 F402
          refine op_p F402 (.bool (!((↑(joinP ([path] ++ more))[0].toNat : Int) == 47))) (by kernel_rfl) rfl rfl rfl (by kernel_rfl) rfl ?_; intro a403 F403
          refine wpList_nil ?_
          refine hK374 _ _ ?_; clear hK374 K374
          rcases btf ((↑(joinP ([path] ++ more))[0].toNat : Int) == 47) with hc404 | hc404
          · have hc404p := eq_of_beq hc404
            have F405 := F403.sb 103 (by kernel_rfl) (show (!((↑(joinP ([path] ++ more))[0].toNat : Int) == 47)) = false by rw [hc404]; rfl)
            have F406 := F405.sb 104 (by kernel_rfl) (show (!((↑(joinP ([path] ++ more))[0].toNat : Int) == 47)) = false by rw [hc404]; rfl)
            refine wp_cond_false (F406.ev (by kernel_rfl)) ?_
            refine wp_skip ?_
            refine hK373 _ _ ?_; clear hK373 K373
            refine wp_seq_k fun K407 hK407 => ?_
            refine wp_region_lit ?_
            refine op_p F406 (.string pre) (by kernel_rfl) rfl rfl rfl (by kernel_rfl) rfl ?_; intro a408 F408
            refine op_p F408 (.string (joinP ([path] ++ more))) (by kernel_rfl) rfl rfl rfl (by kernel_rfl) rfl ?_; intro a409 F409
            refine op_r (v := .string (pre ++ (joinP ([path] ++ more)))) F409 (r_sadd rfl (F409.ev (v := .string pre) (by kernel_rfl)) (F409.ev (v := .string (joinP ([path] ++ more))) (by kernel_rfl)) (by show pre.size + (joinP ([path] ++ more)).size ≤ 9223372036854775807; have hjz : (joinP ([path] ++ more)).size ≤ 100000 := joinP_size hxs (by simp; omega); first | omega | (simp only [ByteArray.size_append]; omega) | (rw [ByteArray.size_append]; show _ + (1 + _) ≤ _; omega))) rfl rfl rfl ?_; intro a410 F410
            refine op_p F410 (.string (pre ++ (joinP ([path] ++ more)))) (by kernel_rfl) rfl rfl rfl (by kernel_rfl) rfl ?_; intro a411 F411
            refine op_p F411 (.nilIface) (by kernel_rfl) rfl rfl rfl (by kernel_rfl) rfl ?_; intro a412 F412
            refine wpList_nil ?_
            refine hK407 _ _ ?_; clear hK407 K407
            refine wp_ret ?_
            refine (F412.res2 rfl (v := .string (pre ++ (joinP ([path] ++ more)))) (by kernel_rfl) (v2 := .nilIface) (by kernel_rfl) ?_).1
            exact ⟨(ret_tup2 (slash_s hjpos hc404).symm), S370.drop.drop⟩
          · have hc404p := ne_of_beq_false hc404
            have F413 := F403.sb 103 (by kernel_rfl) (show (!((↑(joinP ([path] ++ more))[0].toNat : Int) == 47)) = true by rw [hc404]; rfl)
            have F414 := F413.sb 104 (by kernel_rfl) (show (!((↑(joinP ([path] ++ more))[0].toNat : Int) == 47)) = true by rw [hc404]; rfl)
            refine wp_cond_true (F414.ev (by kernel_rfl)) ?_
            refine wp_region_lit ?_
            refine op_p F414 (.string (joinP ([path] ++ more))) (by kernel_rfl) rfl rfl rfl (by kernel_rfl) rfl ?_; intro a415 F415
            refine op_r (v := .string ((⟨#[47]⟩ : ByteArray) ++ (joinP ([path] ++ more)))) F415 (r_sadd rfl (F415.ev (v := .string ⟨#[47]⟩) (by kernel_rfl)) (F415.ev (v := .string (joinP ([path] ++ more))) (by kernel_rfl)) (by show 1 + (joinP ([path] ++ more)).size ≤ 9223372036854775807; have hjz : (joinP ([path] ++ more)).size ≤ 100000 := joinP_size hxs (by simp; omega); first | omega | (simp only [ByteArray.size_append]; omega) | (rw [ByteArray.size_append]; show _ + (1 + _) ≤ _; omega))) rfl rfl rfl ?_; intro a416 F416
            refine op_p F416 (.string ((⟨#[47]⟩ : ByteArray) ++ (joinP ([path] ++ more)))) (by kernel_rfl) rfl rfl rfl (by kernel_rfl) rfl ?_; intro a417 F417
            refine wpList_nil ?_
            refine hK373 _ _ ?_; clear hK373 K373
            refine wp_seq_k fun K418 hK418 => ?_
            refine wp_region_lit ?_
            refine op_p F417 (.string pre) (by kernel_rfl) rfl rfl rfl (by kernel_rfl) rfl ?_; intro a419 F419
            refine op_p F419 (.string ((⟨#[47]⟩ : ByteArray) ++ (joinP ([path] ++ more)))) (by kernel_rfl) rfl rfl rfl (by kernel_rfl) rfl ?_; intro a420 F420
            refine op_r (v := .string (pre ++ ((⟨#[47]⟩ : ByteArray) ++ (joinP ([path] ++ more))))) F420 (r_sadd rfl (F420.ev (v := .string pre) (by kernel_rfl)) (F420.ev (v := .string ((⟨#[47]⟩ : ByteArray) ++ (joinP ([path] ++ more)))) (by kernel_rfl)) (by show pre.size + ((⟨#[47]⟩ : ByteArray) ++ (joinP ([path] ++ more))).size ≤ 9223372036854775807; have hjz : (joinP ([path] ++ more)).size ≤ 100000 := joinP_size hxs (by simp; omega); first | omega | (simp only [ByteArray.size_append]; omega) | (rw [ByteArray.size_append]; show _ + (1 + _) ≤ _; omega))) rfl rfl rfl ?_; intro a421 F421
            refine op_p F421 (.string (pre ++ ((⟨#[47]⟩ : ByteArray) ++ (joinP ([path] ++ more))))) (by kernel_rfl) rfl rfl rfl (by kernel_rfl) rfl ?_; intro a422 F422
            refine op_p F422 (.nilIface) (by kernel_rfl) rfl rfl rfl (by kernel_rfl) rfl ?_; intro a423 F423
            refine wpList_nil ?_
            refine hK418 _ _ ?_; clear hK418 K418
            refine wp_ret ?_
            refine (F423.res2 rfl (v := .string (pre ++ ((⟨#[47]⟩ : ByteArray) ++ (joinP ([path] ++ more))))) (by kernel_rfl) (v2 := .nilIface) (by kernel_rfl) ?_).1
            exact ⟨(ret_tup2 (slash_n hpe hc383 hjpos hc404).symm), S370.drop.drop⟩
set_option maxRecDepth 100000 in
set_option maxHeartbeats 20000000 in
theorem urlJoinB2_any (raw : ByteArray) (path : ByteArray) (B : Option Addr) (d : Nat) (more : List ByteArray) (sc : ByteArray) (rest : ByteArray) (host : ByteArray) (pre : ByteArray) (R : Ctx) (L : List SA) (w : World) (S : Sp R w (L)) (h0 : Rf R L fun w => Sl w (B) (strs more)) (hraw : raw.size ≤ 1000) (hpre0 : hasPreB raw ⟨#[47, 47]⟩ = false) (hw : ∀ x ∈ [path] ++ more, (x.toList == (⟨#[]⟩ : ByteArray).toList) = true ∨ wordB x ⟨#[47, 46, 95, 45]⟩ = true) (hxs : ∀ x ∈ [path] ++ more, x.size ≤ 300) (hm : more.length ≤ 20) (hi : idxI raw ⟨#[58, 47, 47]⟩ = ↑sc.size) (hsz : sc.size + 3 + host.size ≤ raw.size) (hrs : rest.size + 3 + sc.size = raw.size) (hhs : host.size ≤ rest.size) (hsc : raw.extract 0 sc.size = sc) (hrest : raw.extract (sc.size + 3) raw.size = rest) (hhost : rest.extract 0 host.size = host) (hpath : rest.extract host.size rest.size = path) (hpre : raw.extract 0 (sc.size + 3 + host.size) = pre) (hw1 : wordB sc ⟨#[]⟩ = true) (hw2 : wordB host ⟨#[46, 45]⟩ = true) (hlow : ((lowF sc).toList == sc.toList) = true) (hla : ∀ j, bt0 sc j ≤ 127) (hr0 : 0 < raw.size) (h65 : decide (((raw[0]'hr0).toNat : Int) < 65) = false) (hpe : (pre.toList == (⟨#[]⟩ : ByteArray).toList) = false) (hj : idxI rest ⟨#[47]⟩ = -1) (hhr : host.size = rest.size) :
    Calls Try.prog 79 #[.string raw, .slice (B) (more.length) (d)] w fun e w' => e = .returned (.tuple #[.string (slashP pre (joinP ([path] ++ more))), .nilIface]) ∧ Sp R w' (L) := by
  have hl_more : more.length ≤ 9223372036854775807 := by have := (h0 _ S).1; simpa [strs, ptrs] using this
  have hlen : ([path] ++ more).length = more.length + 1 := by simp
  have hps : pre.size ≤ raw.size := by rw [← hpre]; simp only [ByteArray.size_extract]; omega
  refine fw_enter (fn := Try.f79) rfl rfl 110 rfl (Nat.le_of_ble_eq_true rfl) ?_
  intro a0 F0
  refine wp_seq_k fun K1 hK1 => ?_
  refine wp_region_lit ?_
  refine op_p F0 (.string ⟨#[]⟩) (by kernel_rfl) rfl rfl rfl (by kernel_rfl) rfl ?_; intro a2 F2
  refine op_p F2 (.nilIface) (by kernel_rfl) rfl rfl rfl (by kernel_rfl) rfl ?_; intro a3 F3
  refine wpList_nil ?_
  refine hK1 _ _ ?_; clear hK1 K1
  refine wp_seq_k fun K4 hK4 => ?_
  refine wp_region_lit ?_
  refine op_p F3 (.string raw) (by kernel_rfl) rfl rfl rfl (by kernel_rfl) rfl ?_; intro a5 F5
  refine op_p F5 (.string ⟨#[]⟩) (by kernel_rfl) rfl rfl rfl (by kernel_rfl) rfl ?_; intro a6 F6
  refine op_p F6 (.string raw) (by kernel_rfl) rfl rfl rfl (by kernel_rfl) rfl ?_; intro a7 F7
  refine wpList_nil ?_
  refine hK4 _ _ ?_; clear hK4 K4
  refine wp_seq_k fun K8 hK8 => ?_
  refine wp_seq_k fun K9 hK9 => ?_
  refine wp_region_lit ?_
  refine op_p F7 (.string raw) (by kernel_rfl) rfl rfl rfl (by kernel_rfl) rfl ?_; intro a10 F10
  refine op_c F10 (f := 144) (args := #[.string raw, .string ⟨#[47, 47]⟩]) (by kernel_rfl) (by kernel_rfl) rfl (hasPrefix_any raw ⟨#[47, 47]⟩ _ _ _ S ) rfl rfl rfl ?_
  rintro _ w11 ⟨rfl, S11⟩
  refine ⟨_, rfl, ?_⟩
  intro a12 F12
  have F13 := F12.sb 16 (by kernel_rfl) hpre0
  refine wpList_nil ?_
  refine hK9 _ _ ?_; clear hK9 K9
  refine wp_cond_false (F13.ev (by kernel_rfl)) ?_
  refine wp_skip ?_
  refine hK8 _ _ ?_; clear hK8 K8
  refine wp_seq_k fun K14 hK14 => ?_
  refine wp_seq_k fun K15 hK15 => ?_
  refine wp_region_lit ?_
  refine op_p F13 (.string raw) (by kernel_rfl) rfl rfl rfl (by kernel_rfl) rfl ?_; intro a16 F16
  refine op_c F16 (f := 145) (args := #[.string raw, .string ⟨#[58, 47, 47]⟩]) (by kernel_rfl) (by kernel_rfl) rfl (index_eq raw ⟨#[58, 47, 47]⟩ (↑sc.size) _ (by first | (show _ + 3 ≤ _; omega) | (show _ + 1 ≤ _; omega)) hi) rfl rfl rfl ?_
  rintro _ _ ⟨rfl, rfl⟩
  refine ⟨_, rfl, ?_⟩
  intro a18 F18
  refine op_p F18 (.int .i64 (↑sc.size)) (by kernel_rfl) rfl rfl rfl (by kernel_rfl) rfl ?_; intro a19 F19
  refine wpList_nil ?_
  refine hK15 _ _ ?_; clear hK15 K15
  refine wp_seq_k fun K20 hK20 => ?_
  refine wp_region_lit ?_
  refine op_p F19 (.int .i64 (↑sc.size)) (by kernel_rfl) rfl rfl rfl (by kernel_rfl) rfl ?_; intro a21 F21
  refine op_p F21 (.bool (decide ((0 : Int) ≤ ↑sc.size))) (by kernel_rfl) rfl rfl rfl (by kernel_rfl) rfl ?_; intro a22 F22
  refine wpList_nil ?_
  refine hK20 _ _ ?_; clear hK20 K20
  have hc23 : (decide ((0 : Int) ≤ ↑sc.size)) = true := (by first | (simp; done) | (simp; omega))
  have F24 := F22.sb 21 (by kernel_rfl) hc23
  refine wp_cond_true (F24.ev (by kernel_rfl)) ?_
  refine wp_seq_k fun K25 hK25 => ?_
  refine wp_region_lit ?_
  refine op_p F24 (.string raw) (by kernel_rfl) rfl rfl rfl (by kernel_rfl) rfl ?_; intro a26 F26
  refine op_p F26 (.int .i64 (↑sc.size)) (by kernel_rfl) rfl rfl rfl (by kernel_rfl) rfl ?_; intro a27 F27
  refine op_r (v := .int .i64 (↑(sc.size + 3))) F27 (r_add (z := ↑(sc.size + 3)) rfl (F27.ev (v := .int .i64 (↑sc.size)) (by kernel_rfl)) (F27.ev (v := .int .i64 3) (by kernel_rfl)) (wr64 (by omega) (by omega) (by omega))) rfl rfl rfl ?_; intro a28 F28
  refine op_r (v := .string rest) F28 (r_sll rfl Try.underlying9 (F28.ev (v := .string raw) (by kernel_rfl)) (F28.ev (v := .int .i64 (↑(sc.size + 3))) (by kernel_rfl))  (sc.size + 3) raw.size (by first | rfl | omega | (simp; done) | (simp; omega)) (by first | omega | (simp; done) | (simp; omega)) (hrest)) rfl rfl rfl ?_; intro a29 F29
  refine op_p F29 (.string rest) (by kernel_rfl) rfl rfl rfl (by kernel_rfl) rfl ?_; intro a30 F30
  refine wpList_nil ?_
  refine hK25 _ _ ?_; clear hK25 K25
  refine wp_seq_k fun K31 hK31 => ?_
  refine wp_region_lit ?_
  refine op_p F30 (.string rest) (by kernel_rfl) rfl rfl rfl (by kernel_rfl) rfl ?_; intro a32 F32
  refine op_c F32 (f := 145) (args := #[.string rest, .string ⟨#[47]⟩]) (by kernel_rfl) (by kernel_rfl) rfl (index_eq rest ⟨#[47]⟩ (-1) _ (by first | (show _ + 3 ≤ _; omega) | (show _ + 1 ≤ _; omega)) hj) rfl rfl rfl ?_
  rintro _ _ ⟨rfl, rfl⟩
  refine ⟨_, rfl, ?_⟩
  intro a34 F34
  refine op_p F34 (.int .i64 (-1)) (by kernel_rfl) rfl rfl rfl (by kernel_rfl) rfl ?_; intro a35 F35
  refine wpList_nil ?_
  refine hK31 _ _ ?_; clear hK31 K31
  refine wp_seq_k fun K36 hK36 => ?_
  refine wp_seq_k fun K37 hK37 => ?_
  refine wp_region_lit ?_
  refine op_p F35 (.int .i64 (-1)) (by kernel_rfl) rfl rfl rfl (by kernel_rfl) rfl ?_; intro a38 F38
  refine op_p F38 (.bool true) (by kernel_rfl) rfl rfl rfl (by kernel_rfl) rfl ?_; intro a39 F39
  refine wpList_nil ?_
  refine hK37 _ _ ?_; clear hK37 K37
  refine wp_cond_true (F39.ev (by kernel_rfl)) ?_
  refine wp_region_lit ?_
  refine op_p F39 (.string rest) (by kernel_rfl) rfl rfl rfl (by kernel_rfl) rfl ?_; intro a40 F40
  refine op_p F40 (.int .i64 (↑rest.size)) (by kernel_rfl) rfl rfl rfl (by kernel_rfl) rfl ?_; intro a41 F41
  refine op_p F41 (.int .i64 (↑rest.size)) (by kernel_rfl) rfl rfl rfl (by kernel_rfl) rfl ?_; intro a42 F42
  refine wpList_nil ?_
  refine hK36 _ _ ?_; clear hK36 K36
  refine wp_seq_k fun K43 hK43 => ?_
  refine wp_seq_k fun K44 hK44 => ?_
  refine wp_region_sep (L0 := L) [some [], some [], some [(0, 32), (1, 33)], some [(2, 34)], some [(3, 35)], some [(4, 36)], some [(5, 37)], some [(5, 37), (6, 38)], some [(5, 37), (7, 39)], some [(5, 37), (8, 40)], some [(9, 41)], some [(10, 42)], some [(10, 42)], some [(10, 42), (11, 43), (12, 44)], some [(10, 42), (13, 45)], some [(10, 42)], some [(10, 42)], some [(10, 42), (15, 47), (16, 48)], some [(10, 42), (14, 46), (17, 49)], some [(10, 42), (18, 50)], some [(19, 51)], some [(20, 52)], some [(20, 52)], some [(20, 52), (21, 53), (22, 54)], some [(20, 52), (23, 55)], some [(20, 52), (24, 56)], some [(20, 52), (25, 57)]] [(SA.emp, fun u A => u = .string raw ∧ A = SA.emp), (SA.emp, fun u A => u = .int .i64 (↑sc.size) ∧ A = SA.emp), (SA.emp, fun u A => u = .string sc ∧ A = SA.emp), (SA.emp, fun v A => v = .bool (wordB sc ⟨#[]⟩) ∧ A = SA.emp), (SA.emp, fun u A => u = .bool false ∧ A = SA.emp), (SA.emp, fun u A => u = .bool false ∧ A = SA.emp), (SA.emp, fun u A => u = .string raw ∧ A = SA.emp), (SA.emp, fun u A => u = .int .u8 (↑raw[0].toNat) ∧ A = SA.emp), (SA.emp, fun u A => u = .bool false ∧ A = SA.emp), (SA.emp, fun u A => u = .bool false ∧ A = SA.emp), (SA.emp, fun u A => u = .bool false ∧ A = SA.emp), (SA.emp, fun u A => u = .string raw ∧ A = SA.emp), (SA.emp, fun u A => u = .int .i64 (↑sc.size) ∧ A = SA.emp), (SA.emp, fun u A => u = .string sc ∧ A = SA.emp), (SA.emp, fun v A => v = .string (lowF sc) ∧ A = SA.emp), (SA.emp, fun u A => u = .string raw ∧ A = SA.emp), (SA.emp, fun u A => u = .int .i64 (↑sc.size) ∧ A = SA.emp), (SA.emp, fun u A => u = .string sc ∧ A = SA.emp), (SA.emp, fun u A => u = .bool false ∧ A = SA.emp), (SA.emp, fun u A => u = .bool false ∧ A = SA.emp), (SA.emp, fun u A => u = .bool false ∧ A = SA.emp), (SA.emp, fun u A => u = .string rest ∧ A = SA.emp), (SA.emp, fun u A => u = .int .i64 (↑rest.size) ∧ A = SA.emp), (SA.emp, fun u A => u = .string host ∧ A = SA.emp), (SA.emp, fun v A => v = .bool (wordB host ⟨#[46, 45]⟩) ∧ A = SA.emp), (SA.emp, fun u A => u = .bool false ∧ A = SA.emp), (SA.emp, fun u A => u = .bool false ∧ A = SA.emp)] 110 rfl F42.size rfl (by kernel_rfl) S11.emp.emp.emp.emp.emp.emp.emp.emp.emp.emp.emp.emp.emp.emp.emp.emp.emp.emp.emp.emp.emp.emp.emp.emp.emp.emp.emp ?_ ?_
  · refine ⟨?_, ?_, ?_, ?_, ?_, ?_, ?_, ?_, ?_, ?_, ?_, ?_, ?_, ?_, ?_, ?_, ?_, ?_, ?_, ?_, ?_, ?_, ?_, ?_, ?_, ?_, ?_, trivial⟩
    · intro w117 M117 S117
      refine deps_nil ?_
      refine obl_of (by rfl) ?_
      exact s_p F42 (v := .string raw) (by kernel_rfl) (by kernel_rfl) (by kernel_rfl) S117
    · intro w118 M118 S118
      refine deps_nil ?_
      refine obl_of (by rfl) ?_
      exact s_p F42 (v := .int .i64 (↑sc.size)) (by kernel_rfl) (by kernel_rfl) (by kernel_rfl) S118
    · intro w119 M119 S119
      rintro _ _ ⟨rfl, rfl⟩ hA120
      have F120 := F42.put (d := 32) (v := .string raw) (by decide)
      rintro _ _ ⟨rfl, rfl⟩ hA121
      have F121 := F120.put (d := 33) (v := .int .i64 (↑sc.size)) (by decide)
      refine deps_nil ?_
      refine obl_of (by rfl) ?_
      exact s_r (v := .string sc) (r_slh rfl Try.underlying9 (F121.ev (v := .string raw) (by kernel_rfl)) (F121.ev (v := .int .i64 (↑sc.size)) (by kernel_rfl))  0 sc.size (by first | rfl | omega | (simp; done) | (simp; omega)) (by first | omega | (simp; done) | (simp; omega)) (hsc)) S119
    · intro w122 M122 S122
      rintro _ _ ⟨rfl, rfl⟩ hA123
      have F123 := F42.put (d := 34) (v := .string sc) (by decide)
      refine deps_nil ?_
      refine obl_of (by rfl) ?_
      refine s_c F123 (f := 146) (args := #[.string sc, .string ⟨#[]⟩]) (by kernel_rfl) (by kernel_rfl) (by kernel_rfl) (word_any sc ⟨#[]⟩ _ (by first | (show _ + 0 ≤ _; omega) | (show _ + 2 ≤ _; omega) | (show _ + 4 ≤ _; omega))) ?_
      rintro _ _ ⟨rfl, rfl⟩
      exact ⟨_, _, rfl, ⟨rfl, rfl⟩, S122⟩
    · intro w125 M125 S125
      rintro _ _ ⟨rfl, rfl⟩ hA126
      have F126 := F42.put (d := 35) (v := .bool (wordB sc ⟨#[]⟩)) (by decide)
      refine deps_nil ?_
      refine obl_of (by rfl) ?_
      exact s_pb F126 (b := !(wordB sc ⟨#[]⟩)) (show (!(wordB sc ⟨#[]⟩)) = false by rw [hw1]; rfl) (by kernel_rfl) (by kernel_rfl) (by kernel_rfl) S125
    · intro w127 M127 S127
      rintro _ _ ⟨rfl, rfl⟩ hA128
      have F128 := F42.put (d := 36) (v := .bool false) (by decide)
      refine deps_nil ?_
      refine obl_of (by rfl) ?_
      exact s_p F128 (v := .bool false) (by kernel_rfl) (by kernel_rfl) (by kernel_rfl) S127
    · intro w129 M129 S129
      rintro _ _ ⟨rfl, rfl⟩ hA130
      have F130 := F42.put (d := 37) (v := .bool false) (by decide)
      refine deps_nil ?_
      refine obl_yes (F130.wanted (q := true) (by kernel_rfl) (by intro t ht; injection ht with ht; subst ht; exact nble rfl)) ?_
      exact s_p F130 (v := .string raw) (by kernel_rfl) (by kernel_rfl) (by kernel_rfl) S129
    · intro w131 M131 S131
      rintro _ _ ⟨rfl, rfl⟩ hA132
      have F132 := F42.put (d := 37) (v := .bool false) (by decide)
      rintro _ _ ⟨rfl, rfl⟩ hA133
      have F133 := F132.put (d := 38) (v := .string raw) (by decide)
      refine deps_nil ?_
      refine obl_yes (F133.wanted (q := true) (by kernel_rfl) (by intro t ht; injection ht with ht; subst ht; exact nble rfl)) ?_
      exact s_r (v := .int .u8 (↑raw[0].toNat)) (r_index rfl Try.underlying9 (F133.ev (v := .string raw) (by kernel_rfl)) (F133.ev (v := .int .i64 0) (by kernel_rfl)) 0 (by first | rfl | omega | simp) (by first | omega | (simp; done) | (simp; omega))) S131
    · intro w134 M134 S134
      rintro _ _ ⟨rfl, rfl⟩ hA135
      have F135 := F42.put (d := 37) (v := .bool false) (by decide)
      rintro _ _ ⟨rfl, rfl⟩ hA136
      have F136 := F135.put (d := 39) (v := .int .u8 (↑raw[0].toNat)) (by decide)
      refine deps_nil ?_
      refine obl_yes (F136.wanted (q := true) (by kernel_rfl) (by intro t ht; injection ht with ht; subst ht; exact nble rfl)) ?_
      exact s_pb F136 (b := decide ((↑raw[0].toNat : Int) < 65)) h65 (by kernel_rfl) (by kernel_rfl) (by kernel_rfl) S134
    · intro w137 M137 S137
      rintro _ _ ⟨rfl, rfl⟩ hA138
      have F138 := F42.put (d := 37) (v := .bool false) (by decide)
      rintro _ _ ⟨rfl, rfl⟩ hA139
      have F139 := F138.put (d := 40) (v := .bool false) (by decide)
      refine deps_nil ?_
      refine obl_of (by rfl) ?_
      exact s_p F139 (v := .bool false) (by kernel_rfl) (by kernel_rfl) (by kernel_rfl) S137
    · intro w140 M140 S140
      rintro _ _ ⟨rfl, rfl⟩ hA141
      have F141 := F42.put (d := 41) (v := .bool false) (by decide)
      refine deps_nil ?_
      refine obl_of (by rfl) ?_
      exact s_p F141 (v := .bool false) (by kernel_rfl) (by kernel_rfl) (by kernel_rfl) S140
    · intro w142 M142 S142
      rintro _ _ ⟨rfl, rfl⟩ hA143
      have F143 := F42.put (d := 42) (v := .bool false) (by decide)
      refine deps_nil ?_
      refine obl_yes (F143.wanted (q := true) (by kernel_rfl) (by intro t ht; injection ht with ht; subst ht; exact nble rfl)) ?_
      exact s_p F143 (v := .string raw) (by kernel_rfl) (by kernel_rfl) (by kernel_rfl) S142
    · intro w144 M144 S144
      rintro _ _ ⟨rfl, rfl⟩ hA145
      have F145 := F42.put (d := 42) (v := .bool false) (by decide)
      refine deps_nil ?_
      refine obl_yes (F145.wanted (q := true) (by kernel_rfl) (by intro t ht; injection ht with ht; subst ht; exact nble rfl)) ?_
      exact s_p F145 (v := .int .i64 (↑sc.size)) (by kernel_rfl) (by kernel_rfl) (by kernel_rfl) S144
    · intro w146 M146 S146
      rintro _ _ ⟨rfl, rfl⟩ hA147
      have F147 := F42.put (d := 42) (v := .bool false) (by decide)
      rintro _ _ ⟨rfl, rfl⟩ hA148
      have F148 := F147.put (d := 43) (v := .string raw) (by decide)
      rintro _ _ ⟨rfl, rfl⟩ hA149
      have F149 := F148.put (d := 44) (v := .int .i64 (↑sc.size)) (by decide)
      refine deps_nil ?_
      refine obl_yes (F149.wanted (q := true) (by kernel_rfl) (by intro t ht; injection ht with ht; subst ht; exact nble rfl)) ?_
      exact s_r (v := .string sc) (r_slh rfl Try.underlying9 (F149.ev (v := .string raw) (by kernel_rfl)) (F149.ev (v := .int .i64 (↑sc.size)) (by kernel_rfl))  0 sc.size (by first | rfl | omega | (simp; done) | (simp; omega)) (by first | omega | (simp; done) | (simp; omega)) (hsc)) S146
    · intro w150 M150 S150
      rintro _ _ ⟨rfl, rfl⟩ hA151
      have F151 := F42.put (d := 42) (v := .bool false) (by decide)
      rintro _ _ ⟨rfl, rfl⟩ hA152
      have F152 := F151.put (d := 45) (v := .string sc) (by decide)
      refine deps_nil ?_
      refine obl_yes (F152.wanted (q := true) (by kernel_rfl) (by intro t ht; injection ht with ht; subst ht; exact nble rfl)) ?_
      refine s_c F152 (f := 147) (args := #[.string sc]) (by kernel_rfl) (by kernel_rfl) (by kernel_rfl) (lower_any sc _ _ _ S150.drop (by first | omega | (simp; done) | (simp; omega)) hla) ?_
      rintro _ _ ⟨rfl, S153⟩
      exact ⟨_, _, rfl, ⟨rfl, rfl⟩, S153.emp⟩
    · intro w154 M154 S154
      rintro _ _ ⟨rfl, rfl⟩ hA155
      have F155 := F42.put (d := 42) (v := .bool false) (by decide)
      refine deps_nil ?_
      refine obl_yes (F155.wanted (q := true) (by kernel_rfl) (by intro t ht; injection ht with ht; subst ht; exact nble rfl)) ?_
      exact s_p F155 (v := .string raw) (by kernel_rfl) (by kernel_rfl) (by kernel_rfl) S154
    · intro w156 M156 S156
      rintro _ _ ⟨rfl, rfl⟩ hA157
      have F157 := F42.put (d := 42) (v := .bool false) (by decide)
      refine deps_nil ?_
      refine obl_yes (F157.wanted (q := true) (by kernel_rfl) (by intro t ht; injection ht with ht; subst ht; exact nble rfl)) ?_
      exact s_p F157 (v := .int .i64 (↑sc.size)) (by kernel_rfl) (by kernel_rfl) (by kernel_rfl) S156
    · intro w158 M158 S158
      rintro _ _ ⟨rfl, rfl⟩ hA159
      have F159 := F42.put (d := 42) (v := .bool false) (by decide)
      rintro _ _ ⟨rfl, rfl⟩ hA160
      have F160 := F159.put (d := 47) (v := .string raw) (by decide)
      rintro _ _ ⟨rfl, rfl⟩ hA161
      have F161 := F160.put (d := 48) (v := .int .i64 (↑sc.size)) (by decide)
      refine deps_nil ?_
      refine obl_yes (F161.wanted (q := true) (by kernel_rfl) (by intro t ht; injection ht with ht; subst ht; exact nble rfl)) ?_
      exact s_r (v := .string sc) (r_slh rfl Try.underlying9 (F161.ev (v := .string raw) (by kernel_rfl)) (F161.ev (v := .int .i64 (↑sc.size)) (by kernel_rfl))  0 sc.size (by first | rfl | omega | (simp; done) | (simp; omega)) (by first | omega | (simp; done) | (simp; omega)) (hsc)) S158
    · intro w162 M162 S162
      rintro _ _ ⟨rfl, rfl⟩ hA163
      have F163 := F42.put (d := 42) (v := .bool false) (by decide)
      rintro _ _ ⟨rfl, rfl⟩ hA164
      have F164 := F163.put (d := 46) (v := .string (lowF sc)) (by decide)
      rintro _ _ ⟨rfl, rfl⟩ hA165
      have F165 := F164.put (d := 49) (v := .string sc) (by decide)
      refine deps_nil ?_
      refine obl_yes (F165.wanted (q := true) (by kernel_rfl) (by intro t ht; injection ht with ht; subst ht; exact nble rfl)) ?_
      exact s_pb F165 (b := !((lowF sc).toList == sc.toList)) (show (!((lowF sc).toList == sc.toList)) = false by rw [hlow]; rfl) (by kernel_rfl) (by kernel_rfl) (by kernel_rfl) S162
    · intro w166 M166 S166
      rintro _ _ ⟨rfl, rfl⟩ hA167
      have F167 := F42.put (d := 42) (v := .bool false) (by decide)
      rintro _ _ ⟨rfl, rfl⟩ hA168
      have F168 := F167.put (d := 50) (v := .bool false) (by decide)
      refine deps_nil ?_
      refine obl_of (by rfl) ?_
      exact s_p F168 (v := .bool false) (by kernel_rfl) (by kernel_rfl) (by kernel_rfl) S166
    · intro w169 M169 S169
      rintro _ _ ⟨rfl, rfl⟩ hA170
      have F170 := F42.put (d := 51) (v := .bool false) (by decide)
      refine deps_nil ?_
      refine obl_of (by rfl) ?_
      exact s_p F170 (v := .bool false) (by kernel_rfl) (by kernel_rfl) (by kernel_rfl) S169
    · intro w171 M171 S171
      rintro _ _ ⟨rfl, rfl⟩ hA172
      have F172 := F42.put (d := 52) (v := .bool false) (by decide)
      refine deps_nil ?_
      refine obl_yes (F172.wanted (q := true) (by kernel_rfl) (by intro t ht; injection ht with ht; subst ht; exact nble rfl)) ?_
      exact s_p F172 (v := .string rest) (by kernel_rfl) (by kernel_rfl) (by kernel_rfl) S171
    · intro w173 M173 S173
      rintro _ _ ⟨rfl, rfl⟩ hA174
      have F174 := F42.put (d := 52) (v := .bool false) (by decide)
      refine deps_nil ?_
      refine obl_yes (F174.wanted (q := true) (by kernel_rfl) (by intro t ht; injection ht with ht; subst ht; exact nble rfl)) ?_
      exact s_p F174 (v := .int .i64 (↑rest.size)) (by kernel_rfl) (by kernel_rfl) (by kernel_rfl) S173
    · intro w175 M175 S175
      rintro _ _ ⟨rfl, rfl⟩ hA176
      have F176 := F42.put (d := 52) (v := .bool false) (by decide)
      rintro _ _ ⟨rfl, rfl⟩ hA177
      have F177 := F176.put (d := 53) (v := .string rest) (by decide)
      rintro _ _ ⟨rfl, rfl⟩ hA178
      have F178 := F177.put (d := 54) (v := .int .i64 (↑rest.size)) (by decide)
      refine deps_nil ?_
      refine obl_yes (F178.wanted (q := true) (by kernel_rfl) (by intro t ht; injection ht with ht; subst ht; exact nble rfl)) ?_
      exact s_r (v := .string host) (r_slh rfl Try.underlying9 (F178.ev (v := .string rest) (by kernel_rfl)) (F178.ev (v := .int .i64 (↑rest.size)) (by kernel_rfl))  0 rest.size (by first | rfl | omega | (simp; done) | (simp; omega)) (by first | omega | (simp; done) | (simp; omega)) (by rw [← hhr]; exact hhost)) S175
    · intro w179 M179 S179
      rintro _ _ ⟨rfl, rfl⟩ hA180
      have F180 := F42.put (d := 52) (v := .bool false) (by decide)
      rintro _ _ ⟨rfl, rfl⟩ hA181
      have F181 := F180.put (d := 55) (v := .string host) (by decide)
      refine deps_nil ?_
      refine obl_yes (F181.wanted (q := true) (by kernel_rfl) (by intro t ht; injection ht with ht; subst ht; exact nble rfl)) ?_
      refine s_c F181 (f := 146) (args := #[.string host, .string ⟨#[46, 45]⟩]) (by kernel_rfl) (by kernel_rfl) (by kernel_rfl) (word_any host ⟨#[46, 45]⟩ _ (by first | (show _ + 0 ≤ _; omega) | (show _ + 2 ≤ _; omega) | (show _ + 4 ≤ _; omega))) ?_
      rintro _ _ ⟨rfl, rfl⟩
      exact ⟨_, _, rfl, ⟨rfl, rfl⟩, S179⟩
    · intro w183 M183 S183
      rintro _ _ ⟨rfl, rfl⟩ hA184
      have F184 := F42.put (d := 52) (v := .bool false) (by decide)
      rintro _ _ ⟨rfl, rfl⟩ hA185
      have F185 := F184.put (d := 56) (v := .bool (wordB host ⟨#[46, 45]⟩)) (by decide)
      refine deps_nil ?_
      refine obl_yes (F185.wanted (q := true) (by kernel_rfl) (by intro t ht; injection ht with ht; subst ht; exact nble rfl)) ?_
      exact s_pb F185 (b := !(wordB host ⟨#[46, 45]⟩)) (show (!(wordB host ⟨#[46, 45]⟩)) = false by rw [hw2]; rfl) (by kernel_rfl) (by kernel_rfl) (by kernel_rfl) S183
    · intro w186 M186 S186
      rintro _ _ ⟨rfl, rfl⟩ hA187
      have F187 := F42.put (d := 52) (v := .bool false) (by decide)
      rintro _ _ ⟨rfl, rfl⟩ hA188
      have F188 := F187.put (d := 57) (v := .bool false) (by decide)
      refine deps_nil ?_
      refine obl_of (by rfl) ?_
      exact s_p F188 (v := .bool false) (by kernel_rfl) (by kernel_rfl) (by kernel_rfl) S186
  · rintro _ _ ⟨rfl, rfl⟩
    have F190 := F42.put (d := 32) (v := .string raw) (by decide)
    rintro _ _ ⟨rfl, rfl⟩
    have F191 := F190.put (d := 33) (v := .int .i64 (↑sc.size)) (by decide)
    rintro _ _ ⟨rfl, rfl⟩
    have F192 := F191.put (d := 34) (v := .string sc) (by decide)
    rintro _ _ ⟨rfl, rfl⟩
    have F193 := F192.put (d := 35) (v := .bool (wordB sc ⟨#[]⟩)) (by decide)
    rintro _ _ ⟨rfl, rfl⟩
    have F194 := F193.put (d := 36) (v := .bool false) (by decide)
    rintro _ _ ⟨rfl, rfl⟩
    have F195 := F194.put (d := 37) (v := .bool false) (by decide)
    rintro _ _ ⟨rfl, rfl⟩
    have F196 := F195.put (d := 38) (v := .string raw) (by decide)
    rintro _ _ ⟨rfl, rfl⟩
    have F197 := F196.put (d := 39) (v := .int .u8 (↑raw[0].toNat)) (by decide)
    rintro _ _ ⟨rfl, rfl⟩
    have F198 := F197.put (d := 40) (v := .bool false) (by decide)
    rintro _ _ ⟨rfl, rfl⟩
    have F199 := F198.put (d := 41) (v := .bool false) (by decide)
    rintro _ _ ⟨rfl, rfl⟩
    have F200 := F199.put (d := 42) (v := .bool false) (by decide)
    rintro _ _ ⟨rfl, rfl⟩
    have F201 := F200.put (d := 43) (v := .string raw) (by decide)
    rintro _ _ ⟨rfl, rfl⟩
    have F202 := F201.put (d := 44) (v := .int .i64 (↑sc.size)) (by decide)
    rintro _ _ ⟨rfl, rfl⟩
    have F203 := F202.put (d := 45) (v := .string sc) (by decide)
    rintro _ _ ⟨rfl, rfl⟩
    have F204 := F203.put (d := 46) (v := .string (lowF sc)) (by decide)
    rintro _ _ ⟨rfl, rfl⟩
    have F205 := F204.put (d := 47) (v := .string raw) (by decide)
    rintro _ _ ⟨rfl, rfl⟩
    have F206 := F205.put (d := 48) (v := .int .i64 (↑sc.size)) (by decide)
    rintro _ _ ⟨rfl, rfl⟩
    have F207 := F206.put (d := 49) (v := .string sc) (by decide)
    rintro _ _ ⟨rfl, rfl⟩
    have F208 := F207.put (d := 50) (v := .bool false) (by decide)
    rintro _ _ ⟨rfl, rfl⟩
    have F209 := F208.put (d := 51) (v := .bool false) (by decide)
    rintro _ _ ⟨rfl, rfl⟩
    have F210 := F209.put (d := 52) (v := .bool false) (by decide)
    rintro _ _ ⟨rfl, rfl⟩
    have F211 := F210.put (d := 53) (v := .string rest) (by decide)
    rintro _ _ ⟨rfl, rfl⟩
    have F212 := F211.put (d := 54) (v := .int .i64 (↑rest.size)) (by decide)
    rintro _ _ ⟨rfl, rfl⟩
    have F213 := F212.put (d := 55) (v := .string host) (by decide)
    rintro _ _ ⟨rfl, rfl⟩
    have F214 := F213.put (d := 56) (v := .bool (wordB host ⟨#[46, 45]⟩)) (by decide)
    rintro _ _ ⟨rfl, rfl⟩
    have F215 := F214.put (d := 57) (v := .bool false) (by decide)
    rintro _ _ ⟨rfl, rfl⟩
    have F216 := F215.put (d := 58) (v := .bool false) (by decide)
    intro w189 S189
    have S217 := S189.drop
    have S218 := S217.drop
    have S219 := S218.drop
    have S220 := S219.drop
    have S221 := S220.drop
    have S222 := S221.drop
    have S223 := S222.drop
    have S224 := S223.drop
    have S225 := S224.drop
    have S226 := S225.drop
    have S227 := S226.drop
    have S228 := S227.drop
    have S229 := S228.drop
    have S230 := S229.drop
    have S231 := S230.drop
    have S232 := S231.drop
    have S233 := S232.drop
    have S234 := S233.drop
    have S235 := S234.drop
    have S236 := S235.drop
    have S237 := S236.drop
    have S238 := S237.drop
    have S239 := S238.drop
    have S240 := S239.drop
    have S241 := S240.drop
    have S242 := S241.drop
    have S243 := S242.drop
    refine wpList_nil ?_
    refine hK44 _ _ ?_; clear hK44 K44
    refine wp_cond_false (F216.ev (by kernel_rfl)) ?_
    refine wp_skip ?_
    refine hK43 _ _ ?_; clear hK43 K43
    refine wp_region_sep (L0 := L) [some [], some [], some [(1, 61)], some [], some [(2, 62), (3, 63)], some [(0, 60), (4, 64)], some [], some [], some [(6, 66), (7, 67)], some [(5, 65)], some [(8, 68)]] [(SA.emp, fun u A => u = .string raw ∧ A = SA.emp), (SA.emp, fun u A => u = .int .i64 (↑sc.size) ∧ A = SA.emp), (SA.emp, fun u A => u = .int .i64 (↑(sc.size + 3)) ∧ A = SA.emp), (SA.emp, fun u A => u = .int .i64 (↑rest.size) ∧ A = SA.emp), (SA.emp, fun u A => u = .int .i64 (↑(sc.size + 3 + rest.size)) ∧ A = SA.emp), (SA.emp, fun u A => u = .string pre ∧ A = SA.emp), (SA.emp, fun u A => u = .string rest ∧ A = SA.emp), (SA.emp, fun u A => u = .int .i64 (↑rest.size) ∧ A = SA.emp), (SA.emp, fun u A => u = .string path ∧ A = SA.emp), (SA.emp, fun u A => u = .string pre ∧ A = SA.emp), (SA.emp, fun u A => u = .string path ∧ A = SA.emp)] 110 rfl F216.size rfl (by kernel_rfl) S243.emp.emp.emp.emp.emp.emp.emp.emp.emp.emp.emp ?_ ?_
    · refine ⟨?_, ?_, ?_, ?_, ?_, ?_, ?_, ?_, ?_, ?_, ?_, trivial⟩
      · intro w264 M264 S264
        refine deps_nil ?_
        refine obl_of (by rfl) ?_
        exact s_p F216 (v := .string raw) (by kernel_rfl) (by kernel_rfl) (by kernel_rfl) S264
      · intro w265 M265 S265
        refine deps_nil ?_
        refine obl_of (by rfl) ?_
        exact s_p F216 (v := .int .i64 (↑sc.size)) (by kernel_rfl) (by kernel_rfl) (by kernel_rfl) S265
      · intro w266 M266 S266
        rintro _ _ ⟨rfl, rfl⟩ hA267
        have F267 := F216.put (d := 61) (v := .int .i64 (↑sc.size)) (by decide)
        refine deps_nil ?_
        refine obl_of (by rfl) ?_
        exact s_r (v := .int .i64 (↑(sc.size + 3))) (r_add (z := ↑(sc.size + 3)) rfl (F267.ev (v := .int .i64 (↑sc.size)) (by kernel_rfl)) (F267.ev (v := .int .i64 3) (by kernel_rfl)) (wr64 (by omega) (by omega) (by omega))) S266
      · intro w268 M268 S268
        refine deps_nil ?_
        refine obl_of (by rfl) ?_
        exact s_p F216 (v := .int .i64 (↑rest.size)) (by kernel_rfl) (by kernel_rfl) (by kernel_rfl) S268
      · intro w269 M269 S269
        rintro _ _ ⟨rfl, rfl⟩ hA270
        have F270 := F216.put (d := 62) (v := .int .i64 (↑(sc.size + 3))) (by decide)
        rintro _ _ ⟨rfl, rfl⟩ hA271
        have F271 := F270.put (d := 63) (v := .int .i64 (↑rest.size)) (by decide)
        refine deps_nil ?_
        refine obl_of (by rfl) ?_
        exact s_r (v := .int .i64 (↑(sc.size + 3 + rest.size))) (r_add (z := ↑(sc.size + 3 + rest.size)) rfl (F271.ev (v := .int .i64 (↑(sc.size + 3))) (by kernel_rfl)) (F271.ev (v := .int .i64 (↑rest.size)) (by kernel_rfl)) (wr64 (by omega) (by omega) (by omega))) S269
      · intro w272 M272 S272
        rintro _ _ ⟨rfl, rfl⟩ hA273
        have F273 := F216.put (d := 60) (v := .string raw) (by decide)
        rintro _ _ ⟨rfl, rfl⟩ hA274
        have F274 := F273.put (d := 64) (v := .int .i64 (↑(sc.size + 3 + rest.size))) (by decide)
        refine deps_nil ?_
        refine obl_of (by rfl) ?_
        exact s_r (v := .string pre) (r_slh rfl Try.underlying9 (F274.ev (v := .string raw) (by kernel_rfl)) (F274.ev (v := .int .i64 (↑(sc.size + 3 + rest.size))) (by kernel_rfl))  0 (sc.size + 3 + rest.size) (by first | rfl | omega | (simp; done) | (simp; omega)) (by first | omega | (simp; done) | (simp; omega)) (by rw [← hhr]; exact hpre)) S272
      · intro w275 M275 S275
        refine deps_nil ?_
        refine obl_of (by rfl) ?_
        exact s_p F216 (v := .string rest) (by kernel_rfl) (by kernel_rfl) (by kernel_rfl) S275
      · intro w276 M276 S276
        refine deps_nil ?_
        refine obl_of (by rfl) ?_
        exact s_p F216 (v := .int .i64 (↑rest.size)) (by kernel_rfl) (by kernel_rfl) (by kernel_rfl) S276
      · intro w277 M277 S277
        rintro _ _ ⟨rfl, rfl⟩ hA278
        have F278 := F216.put (d := 66) (v := .string rest) (by decide)
        rintro _ _ ⟨rfl, rfl⟩ hA279
        have F279 := F278.put (d := 67) (v := .int .i64 (↑rest.size)) (by decide)
        refine deps_nil ?_
        refine obl_of (by rfl) ?_
        exact s_r (v := .string path) (r_sll rfl Try.underlying9 (F279.ev (v := .string rest) (by kernel_rfl)) (F279.ev (v := .int .i64 (↑rest.size)) (by kernel_rfl))  rest.size rest.size (by first | rfl | omega | (simp; done) | (simp; omega)) (by first | omega | (simp; done) | (simp; omega)) (by have h := hpath; rw [hhr] at h; exact h)) S277
      · intro w280 M280 S280
        rintro _ _ ⟨rfl, rfl⟩ hA281
        have F281 := F216.put (d := 65) (v := .string pre) (by decide)
        refine deps_nil ?_
        refine obl_of (by rfl) ?_
        exact s_p F281 (v := .string pre) (by kernel_rfl) (by kernel_rfl) (by kernel_rfl) S280
      · intro w282 M282 S282
        rintro _ _ ⟨rfl, rfl⟩ hA283
        have F283 := F216.put (d := 68) (v := .string path) (by decide)
        refine deps_nil ?_
        refine obl_of (by rfl) ?_
        exact s_p F283 (v := .string path) (by kernel_rfl) (by kernel_rfl) (by kernel_rfl) S282
    · rintro _ _ ⟨rfl, rfl⟩
      have F285 := F216.put (d := 60) (v := .string raw) (by decide)
      rintro _ _ ⟨rfl, rfl⟩
      have F286 := F285.put (d := 61) (v := .int .i64 (↑sc.size)) (by decide)
      rintro _ _ ⟨rfl, rfl⟩
      have F287 := F286.put (d := 62) (v := .int .i64 (↑(sc.size + 3))) (by decide)
      rintro _ _ ⟨rfl, rfl⟩
      have F288 := F287.put (d := 63) (v := .int .i64 (↑rest.size)) (by decide)
      rintro _ _ ⟨rfl, rfl⟩
      have F289 := F288.put (d := 64) (v := .int .i64 (↑(sc.size + 3 + rest.size))) (by decide)
      rintro _ _ ⟨rfl, rfl⟩
      have F290 := F289.put (d := 65) (v := .string pre) (by decide)
      rintro _ _ ⟨rfl, rfl⟩
      have F291 := F290.put (d := 66) (v := .string rest) (by decide)
      rintro _ _ ⟨rfl, rfl⟩
      have F292 := F291.put (d := 67) (v := .int .i64 (↑rest.size)) (by decide)
      rintro _ _ ⟨rfl, rfl⟩
      have F293 := F292.put (d := 68) (v := .string path) (by decide)
      rintro _ _ ⟨rfl, rfl⟩
      have F294 := F293.put (d := 6) (v := .string pre) (by decide)
      rintro _ _ ⟨rfl, rfl⟩
      have F295 := F294.put (d := 7) (v := .string path) (by decide)
      intro w284 S284
      have S296 := S284.drop
      have S297 := S296.drop
      have S298 := S297.drop
      have S299 := S298.drop
      have S300 := S299.drop
      have S301 := S300.drop
      have S302 := S301.drop
      have S303 := S302.drop
      have S304 := S303.drop
      have S305 := S304.drop
      have S306 := S305.drop
      refine wpList_nil ?_
      refine hK14 _ _ ?_; clear hK14 K14
      refine wp_seq_k fun K307 hK307 => ?_
      refine wp_seq_k fun K308 hK308 => ?_
      refine wp_region_lit ?_
      refine op_p F295 (.string path) (by kernel_rfl) rfl rfl rfl (by kernel_rfl) rfl ?_; intro a309 F309
      refine op_s F309 (s_news F309 9 #[.string path] 1 (by kernel_rfl) (by kernel_rfl) (by kernel_rfl) S306) rfl rfl rfl ?_
      rintro _ _ w311 ⟨g309, rfl, rfl⟩ S311 a311 F311
      refine op_p F311 (.slice (B) (more.length) (d)) (by kernel_rfl) rfl rfl rfl (by kernel_rfl) rfl ?_; intro a312 F312
      refine op_s F312 (s_app rfl Try.underlying22 1 _ tin9 rfl rfl (F312.ev (v := .slice (some ⟨g309, 0, none⟩) 1 1) (by kernel_rfl)) (Sp.ofblk (sz := 1) (m := 1) (l := [Value.string path]) S311 rfl (by omega) rfl) (strs more) (F312.ev (v := .slice (B) (more.length) (d)) (by kernel_rfl)) (h0 _ S311.drop) (by first | (simp [strs, ptrs]; done) | (simp [strs, ptrs]; omega)) (by intro u hu; obtain ⟨x, _, rfl⟩ := List.mem_map.1 hu; rfl) (by omega) (by omega) (n' := ([path] ++ more).length) (by first | (simp; done) | (simp; omega)) (cs' := strs ([path] ++ more)) (by simp [strs])) rfl rfl rfl ?_
      rintro _ _ w314 ⟨A313, c313, rfl, rfl⟩ S314 a314 F314
      refine op_p F314 (.int .i64 (↑(([path] ++ more).length))) (by kernel_rfl) rfl rfl rfl (by kernel_rfl) rfl ?_; intro a315 F315
      refine op_p F315 (.int .i64 0) (by kernel_rfl) rfl rfl rfl (by kernel_rfl) rfl ?_; intro a316 F316
      refine wpList_nil ?_
      refine hK308 _ _ ?_; clear hK308 K308
      refine wp_block ?_
      refine fw_loop (fun m a' w' => ∃ k : Nat, ([path] ++ more).length - k = m ∧ Fr 110 [] a' [(0, .string raw), (1, .slice (B) (more.length) (d)), (4, .string ⟨#[]⟩), (5, .nilIface), (6, .string pre), (7, .string path), (8, .int .i64 (↑sc.size)), (9, .string rest), (10, .int .i64 (↑rest.size)), (14, .string raw), (15, .string raw), (16, .bool false), (18, .string raw), (19, .int .i64 (↑sc.size)), (20, .int .i64 (↑sc.size)), (21, .bool true), (22, .string raw), (23, .int .i64 (↑sc.size)), (24, .int .i64 (↑(sc.size + 3))), (25, .string rest), (26, .string rest), (27, .int .i64 (-1)), (28, .int .i64 (-1)), (29, .bool true), (30, .string rest), (31, .int .i64 (↑rest.size)), (32, .string raw), (33, .int .i64 (↑sc.size)), (34, .string sc), (35, .bool (wordB sc ⟨#[]⟩)), (36, .bool false), (37, .bool false), (38, .string raw), (39, .int .u8 (↑raw[0].toNat)), (40, .bool false), (41, .bool false), (42, .bool false), (43, .string raw), (44, .int .i64 (↑sc.size)), (45, .string sc), (46, .string (lowF sc)), (47, .string raw), (48, .int .i64 (↑sc.size)), (49, .string sc), (50, .bool false), (51, .bool false), (52, .bool false), (53, .string rest), (54, .int .i64 (↑rest.size)), (55, .string host), (56, .bool (wordB host ⟨#[46, 45]⟩)), (57, .bool false), (58, .bool false), (60, .string raw), (61, .int .i64 (↑sc.size)), (62, .int .i64 (↑(sc.size + 3))), (63, .int .i64 (↑rest.size)), (64, .int .i64 (↑(sc.size + 3 + rest.size))), (65, .string pre), (66, .string rest), (67, .int .i64 (↑rest.size)), (68, .string path), (69, .string path), (70, .slice (some ⟨g309, 0, none⟩) 1 1), (71, .slice (B) (more.length) (d)), (72, .slice A313 (([path] ++ more).length) c313), (73, .int .i64 (↑(([path] ++ more).length))), (74, .int .i64 (↑k))] ∧ Sp R w' (SA.own (.slice A313 (([path] ++ more).length) c313) 9 1 (([path] ++ more).length) (strs ([path] ++ more)) :: L) ∧ (k ≤ ([path] ++ more).length)) _ ⟨0, rfl, (F316.k 0 (by kernel_rfl) (F316.k 1 (by kernel_rfl) (F316.k 4 (by kernel_rfl) (F316.k 5 (by kernel_rfl) (F316.k 6 (by kernel_rfl) (F316.k 7 (by kernel_rfl) (F316.k 8 (by kernel_rfl) (F316.k 9 (by kernel_rfl) (F316.k 10 (by kernel_rfl) (F316.k 14 (by kernel_rfl) (F316.k 15 (by kernel_rfl) (F316.k 16 (by kernel_rfl) (F316.k 18 (by kernel_rfl) (F316.k 19 (by kernel_rfl) (F316.k 20 (by kernel_rfl) (F316.k 21 (by kernel_rfl) (F316.k 22 (by kernel_rfl) (F316.k 23 (by kernel_rfl) (F316.k 24 (by kernel_rfl) (F316.k 25 (by kernel_rfl) (F316.k 26 (by kernel_rfl) (F316.k 27 (by kernel_rfl) (F316.k 28 (by kernel_rfl) (F316.k 29 (by kernel_rfl) (F316.k 30 (by kernel_rfl) (F316.k 31 (by kernel_rfl) (F316.k 32 (by kernel_rfl) (F316.k 33 (by kernel_rfl) (F316.k 34 (by kernel_rfl) (F316.k 35 (by kernel_rfl) (F316.k 36 (by kernel_rfl) (F316.k 37 (by kernel_rfl) (F316.k 38 (by kernel_rfl) (F316.k 39 (by kernel_rfl) (F316.k 40 (by kernel_rfl) (F316.k 41 (by kernel_rfl) (F316.k 42 (by kernel_rfl) (F316.k 43 (by kernel_rfl) (F316.k 44 (by kernel_rfl) (F316.k 45 (by kernel_rfl) (F316.k 46 (by kernel_rfl) (F316.k 47 (by kernel_rfl) (F316.k 48 (by kernel_rfl) (F316.k 49 (by kernel_rfl) (F316.k 50 (by kernel_rfl) (F316.k 51 (by kernel_rfl) (F316.k 52 (by kernel_rfl) (F316.k 53 (by kernel_rfl) (F316.k 54 (by kernel_rfl) (F316.k 55 (by kernel_rfl) (F316.k 56 (by kernel_rfl) (F316.k 57 (by kernel_rfl) (F316.k 58 (by kernel_rfl) (F316.k 60 (by kernel_rfl) (F316.k 61 (by kernel_rfl) (F316.k 62 (by kernel_rfl) (F316.k 63 (by kernel_rfl) (F316.k 64 (by kernel_rfl) (F316.k 65 (by kernel_rfl) (F316.k 66 (by kernel_rfl) (F316.k 67 (by kernel_rfl) (F316.k 68 (by kernel_rfl) (F316.k 69 (by kernel_rfl) (F316.k 70 (by kernel_rfl) (F316.k 71 (by kernel_rfl) (F316.k 72 (by kernel_rfl) (F316.k 73 (by kernel_rfl) (F316.k 74 (by kernel_rfl) F316.nil)))))))))))))))))))))))))))))))))))))))))))))))))))))))))))))))))))), S314, (by first | omega | (with_reducible assumption) | (simp; done))⟩ ?_
      rintro m317 a317 w317 ⟨k, hm317, F317, S317, hk⟩ K317 hK317
      by_cases hlt_k : k < ([path] ++ more).length
      · have hc_k : decide ((↑k : Int) < ↑(([path] ++ more).length)) = true := by first | (simp; done) | (simp; omega)
        obtain ⟨ad318, hA318⟩ := (own_sl1 (S317.ow 0 rfl) (by first | omega | (simp; omega))).addr (by simp [strs])
        have hwk := hw _ (List.getElem_mem hlt_k)
        have hxk := hxs _ (List.getElem_mem hlt_k)
        refine wp_seq_k fun K319 hK319 => ?_
        refine wp_region_lit ?_
        refine op_p F317 (.bool (decide ((↑k : Int) < ↑(([path] ++ more).length)))) (by kernel_rfl) rfl rfl rfl (by kernel_rfl) rfl ?_; intro a320 F320
        have F321 := F320.sb 75 (by kernel_rfl) hc_k
        refine wpList_nil ?_
        refine hK319 _ _ ?_; clear hK319 K319
        refine wp_seq_k fun K322 hK322 => ?_
        refine wp_cond_true (F321.ev (by kernel_rfl)) ?_
        refine wp_skip ?_
        refine hK322 _ _ ?_; clear hK322 K322
        refine wp_seq_k fun K323 hK323 => ?_
        refine wp_block ?_
        refine wp_seq_k fun K324 hK324 => ?_
        refine wp_region_lit ?_
        refine op_r (v := .pointer (some (ad318.add k))) F321 (r_ix rfl Try.underlying22 1 (by kernel_rfl) (F321.ev (v := .slice A313 (([path] ++ more).length) c313) (by kernel_rfl)) hA318 (F321.ev (v := .int .i64 (↑k)) (by kernel_rfl)) k (by first | rfl | omega | simp) (by first | omega | (simp; done) | (simp; omega)) (by simp only [Nat.mul_one])) rfl rfl rfl ?_; intro a325 F325
        refine op_r (v := .string (([path] ++ more)[k])) F325 (r_ld rfl (F325.ev (v := .pointer (some (ad318.add k))) (by kernel_rfl)) (v := .string (([path] ++ more)[k])) ((own_sl1 (S317.ow 0 rfl) (by first | omega | (simp; omega))).elA hA318 (j := k) (strs_getE hlt_k)) Try.underlying9 rfl) rfl rfl rfl ?_; intro a326 F326
        refine op_p F326 (.string (([path] ++ more)[k])) (by kernel_rfl) rfl rfl rfl (by kernel_rfl) rfl ?_; intro a327 F327
        refine wpList_nil ?_
        refine hK324 _ _ ?_; clear hK324 K324
        refine wp_seq_k fun K328 hK328 => ?_
        refine wp_region_lit ?_
        refine op_p F327 (.string (([path] ++ more)[k])) (by kernel_rfl) rfl rfl rfl (by kernel_rfl) rfl ?_; intro a329 F329
        refine op_p F329 (.bool (!((([path] ++ more)[k]).toList == (⟨#[]⟩ : ByteArray).toList))) (by kernel_rfl) rfl rfl rfl (by kernel_rfl) rfl ?_; intro a330 F330
        refine op_p F330 (.bool (!((([path] ++ more)[k]).toList == (⟨#[]⟩ : ByteArray).toList))) (by kernel_rfl) rfl rfl rfl (by kernel_rfl) rfl ?_; intro a331 F331
        rcases btf ((([path] ++ more)[k]).toList == (⟨#[]⟩ : ByteArray).toList) with hc332 | hc332
        · have F333 := F331.sb 79 (by kernel_rfl) (show (!((([path] ++ more)[k]).toList == (⟨#[]⟩ : ByteArray).toList)) = false by rw [hc332]; rfl)
          have F334 := F333.sb 80 (by kernel_rfl) (show (!((([path] ++ more)[k]).toList == (⟨#[]⟩ : ByteArray).toList)) = false by rw [hc332]; rfl)
          refine op_skip F334 (by kernel_rfl) rfl rfl rfl ?_; intro a335 F335
          refine op_skip F335 (by kernel_rfl) rfl rfl rfl ?_; intro a336 F336
          refine op_skip F336 (by kernel_rfl) rfl rfl rfl ?_; intro a337 F337
          refine op_p F337 (.bool false) (by kernel_rfl) rfl rfl rfl (by kernel_rfl) rfl ?_; intro a338 F338
          refine wpList_nil ?_
          refine hK328 _ _ ?_; clear hK328 K328
          refine wp_cond_false (F338.ev (by kernel_rfl)) ?_
          refine wp_skip ?_
          refine hK323 _ _ ?_; clear hK323 K323
          refine wp_region_lit ?_
          refine op_r (v := .int .i64 (↑(k + 1))) F338 (r_add (z := ↑(k + 1)) rfl (F338.ev (v := .int .i64 (↑k)) (by kernel_rfl)) (F338.ev (v := .int .i64 1) (by kernel_rfl)) (wr64 (by omega) (by omega) (by omega))) rfl rfl rfl ?_; intro a339 F339
          refine op_p F339 (.int .i64 (↑(k + 1))) (by kernel_rfl) rfl rfl rfl (by kernel_rfl) rfl ?_; intro a340 F340
          refine wpList_nil ?_
          exact hK317 _ _ _ (by first | omega | (simp; omega)) ⟨k + 1, rfl, (F340.k 0 (by kernel_rfl) (F340.k 1 (by kernel_rfl) (F340.k 4 (by kernel_rfl) (F340.k 5 (by kernel_rfl) (F340.k 6 (by kernel_rfl) (F340.k 7 (by kernel_rfl) (F340.k 8 (by kernel_rfl) (F340.k 9 (by kernel_rfl) (F340.k 10 (by kernel_rfl) (F340.k 14 (by kernel_rfl) (F340.k 15 (by kernel_rfl) (F340.k 16 (by kernel_rfl) (F340.k 18 (by kernel_rfl) (F340.k 19 (by kernel_rfl) (F340.k 20 (by kernel_rfl) (F340.k 21 (by kernel_rfl) (F340.k 22 (by kernel_rfl) (F340.k 23 (by kernel_rfl) (F340.k 24 (by kernel_rfl) (F340.k 25 (by kernel_rfl) (F340.k 26 (by kernel_rfl) (F340.k 27 (by kernel_rfl) (F340.k 28 (by kernel_rfl) (F340.k 29 (by kernel_rfl) (F340.k 30 (by kernel_rfl) (F340.k 31 (by kernel_rfl) (F340.k 32 (by kernel_rfl) (F340.k 33 (by kernel_rfl) (F340.k 34 (by kernel_rfl) (F340.k 35 (by kernel_rfl) (F340.k 36 (by kernel_rfl) (F340.k 37 (by kernel_rfl) (F340.k 38 (by kernel_rfl) (F340.k 39 (by kernel_rfl) (F340.k 40 (by kernel_rfl) (F340.k 41 (by kernel_rfl) (F340.k 42 (by kernel_rfl) (F340.k 43 (by kernel_rfl) (F340.k 44 (by kernel_rfl) (F340.k 45 (by kernel_rfl) (F340.k 46 (by kernel_rfl) (F340.k 47 (by kernel_rfl) (F340.k 48 (by kernel_rfl) (F340.k 49 (by kernel_rfl) (F340.k 50 (by kernel_rfl) (F340.k 51 (by kernel_rfl) (F340.k 52 (by kernel_rfl) (F340.k 53 (by kernel_rfl) (F340.k 54 (by kernel_rfl) (F340.k 55 (by kernel_rfl) (F340.k 56 (by kernel_rfl) (F340.k 57 (by kernel_rfl) (F340.k 58 (by kernel_rfl) (F340.k 60 (by kernel_rfl) (F340.k 61 (by kernel_rfl) (F340.k 62 (by kernel_rfl) (F340.k 63 (by kernel_rfl) (F340.k 64 (by kernel_rfl) (F340.k 65 (by kernel_rfl) (F340.k 66 (by kernel_rfl) (F340.k 67 (by kernel_rfl) (F340.k 68 (by kernel_rfl) (F340.k 69 (by kernel_rfl) (F340.k 70 (by kernel_rfl) (F340.k 71 (by kernel_rfl) (F340.k 72 (by kernel_rfl) (F340.k 73 (by kernel_rfl) (F340.k 74 (by kernel_rfl) F340.nil)))))))))))))))))))))))))))))))))))))))))))))))))))))))))))))))))))), S317, (by first | omega | (with_reducible assumption) | (simp; done))⟩
        · have F341 := F331.sb 79 (by kernel_rfl) (show (!((([path] ++ more)[k]).toList == (⟨#[]⟩ : ByteArray).toList)) = true by rw [hc332]; rfl)
          have F342 := F341.sb 80 (by kernel_rfl) (show (!((([path] ++ more)[k]).toList == (⟨#[]⟩ : ByteArray).toList)) = true by rw [hc332]; rfl)
          refine op_want F342 (by kernel_rfl) rfl ?_
          refine op_p F342 (.string (([path] ++ more)[k])) (by kernel_rfl) rfl rfl rfl (by kernel_rfl) rfl ?_; intro a343 F343
          refine op_want F343 (by kernel_rfl) rfl ?_
          refine op_c F343 (f := 146) (args := #[.string (([path] ++ more)[k]), .string ⟨#[47, 46, 95, 45]⟩]) (by kernel_rfl) (by kernel_rfl) rfl (word_any (([path] ++ more)[k]) ⟨#[47, 46, 95, 45]⟩ _ (by first | (show _ + 0 ≤ _; omega) | (show _ + 2 ≤ _; omega) | (show _ + 4 ≤ _; omega))) rfl rfl rfl ?_
          rintro _ _ ⟨rfl, rfl⟩
          refine ⟨_, rfl, ?_⟩
          intro a345 F345
          refine op_want F345 (by kernel_rfl) rfl ?_
          refine op_p F345 (.bool (!(wordB (([path] ++ more)[k]) ⟨#[47, 46, 95, 45]⟩))) (by kernel_rfl) rfl rfl rfl (by kernel_rfl) rfl ?_; intro a346 F346
          refine op_p F346 (.bool (!(wordB (([path] ++ more)[k]) ⟨#[47, 46, 95, 45]⟩))) (by kernel_rfl) rfl rfl rfl (by kernel_rfl) rfl ?_; intro a347 F347
          refine wpList_nil ?_
          refine hK328 _ _ ?_; clear hK328 K328
          have hc348 : (wordB (([path] ++ more)[k]) ⟨#[47, 46, 95, 45]⟩) = true := (hwk.resolve_left (by rw [hc332]; simp))
          have F349 := F347.sb 82 (by kernel_rfl) hc348
          have F350 := F349.sb 83 (by kernel_rfl) (show (!(wordB (([path] ++ more)[k]) ⟨#[47, 46, 95, 45]⟩)) = false by rw [hc348]; rfl)
          have F351 := F350.sb 84 (by kernel_rfl) (show (!(wordB (([path] ++ more)[k]) ⟨#[47, 46, 95, 45]⟩)) = false by rw [hc348]; rfl)
          refine wp_cond_false (F351.ev (by kernel_rfl)) ?_
          refine wp_skip ?_
          refine hK323 _ _ ?_; clear hK323 K323
          refine wp_region_lit ?_
          refine op_r (v := .int .i64 (↑(k + 1))) F351 (r_add (z := ↑(k + 1)) rfl (F351.ev (v := .int .i64 (↑k)) (by kernel_rfl)) (F351.ev (v := .int .i64 1) (by kernel_rfl)) (wr64 (by omega) (by omega) (by omega))) rfl rfl rfl ?_; intro a352 F352
          refine op_p F352 (.int .i64 (↑(k + 1))) (by kernel_rfl) rfl rfl rfl (by kernel_rfl) rfl ?_; intro a353 F353
          refine wpList_nil ?_
          exact hK317 _ _ _ (by first | omega | (simp; omega)) ⟨k + 1, rfl, (F353.k 0 (by kernel_rfl) (F353.k 1 (by kernel_rfl) (F353.k 4 (by kernel_rfl) (F353.k 5 (by kernel_rfl) (F353.k 6 (by kernel_rfl) (F353.k 7 (by kernel_rfl) (F353.k 8 (by kernel_rfl) (F353.k 9 (by kernel_rfl) (F353.k 10 (by kernel_rfl) (F353.k 14 (by kernel_rfl) (F353.k 15 (by kernel_rfl) (F353.k 16 (by kernel_rfl) (F353.k 18 (by kernel_rfl) (F353.k 19 (by kernel_rfl) (F353.k 20 (by kernel_rfl) (F353.k 21 (by kernel_rfl) (F353.k 22 (by kernel_rfl) (F353.k 23 (by kernel_rfl) (F353.k 24 (by kernel_rfl) (F353.k 25 (by kernel_rfl) (F353.k 26 (by kernel_rfl) (F353.k 27 (by kernel_rfl) (F353.k 28 (by kernel_rfl) (F353.k 29 (by kernel_rfl) (F353.k 30 (by kernel_rfl) (F353.k 31 (by kernel_rfl) (F353.k 32 (by kernel_rfl) (F353.k 33 (by kernel_rfl) (F353.k 34 (by kernel_rfl) (F353.k 35 (by kernel_rfl) (F353.k 36 (by kernel_rfl) (F353.k 37 (by kernel_rfl) (F353.k 38 (by kernel_rfl) (F353.k 39 (by kernel_rfl) (F353.k 40 (by kernel_rfl) (F353.k 41 (by kernel_rfl) (F353.k 42 (by kernel_rfl) (F353.k 43 (by kernel_rfl) (F353.k 44 (by kernel_rfl) (F353.k 45 (by kernel_rfl) (F353.k 46 (by kernel_rfl) (F353.k 47 (by kernel_rfl) (F353.k 48 (by kernel_rfl) (F353.k 49 (by kernel_rfl) (F353.k 50 (by kernel_rfl) (F353.k 51 (by kernel_rfl) (F353.k 52 (by kernel_rfl) (F353.k 53 (by kernel_rfl) (F353.k 54 (by kernel_rfl) (F353.k 55 (by kernel_rfl) (F353.k 56 (by kernel_rfl) (F353.k 57 (by kernel_rfl) (F353.k 58 (by kernel_rfl) (F353.k 60 (by kernel_rfl) (F353.k 61 (by kernel_rfl) (F353.k 62 (by kernel_rfl) (F353.k 63 (by kernel_rfl) (F353.k 64 (by kernel_rfl) (F353.k 65 (by kernel_rfl) (F353.k 66 (by kernel_rfl) (F353.k 67 (by kernel_rfl) (F353.k 68 (by kernel_rfl) (F353.k 69 (by kernel_rfl) (F353.k 70 (by kernel_rfl) (F353.k 71 (by kernel_rfl) (F353.k 72 (by kernel_rfl) (F353.k 73 (by kernel_rfl) (F353.k 74 (by kernel_rfl) F353.nil)))))))))))))))))))))))))))))))))))))))))))))))))))))))))))))))))))), S317, (by first | omega | (with_reducible assumption) | (simp; done))⟩
      · have hc_k : decide ((↑k : Int) < ↑(([path] ++ more).length)) = false := by first | (simp; done) | (simp; omega)
        refine wp_seq_k fun K354 hK354 => ?_
        refine wp_region_lit ?_
        refine op_p F317 (.bool (decide ((↑k : Int) < ↑(([path] ++ more).length)))) (by kernel_rfl) rfl rfl rfl (by kernel_rfl) rfl ?_; intro a355 F355
        have F356 := F355.sb 75 (by kernel_rfl) hc_k
        refine wpList_nil ?_
        refine hK354 _ _ ?_; clear hK354 K354
        refine wp_seq_k fun K357 hK357 => ?_
        refine wp_cond_false (F356.ev (by kernel_rfl)) ?_
        refine wp_exit ?_
        refine ex_then ?_; clear hK357 K357
        refine ex_then ?_
        refine ex_in ?_
        refine hK307 _ _ ?_; clear hK307 K307
        refine wp_seq_k fun K358 hK358 => ?_
        refine wp_region_lit ?_
        refine op_p F356 (.string path) (by kernel_rfl) rfl rfl rfl (by kernel_rfl) rfl ?_; intro a359 F359
        refine op_s F359 (s_news F359 9 #[.string path] 1 (by kernel_rfl) (by kernel_rfl) (by kernel_rfl) S317) rfl rfl rfl ?_
        rintro _ _ w361 ⟨g359, rfl, rfl⟩ S361 a361 F361
        refine op_p F361 (.slice (some ⟨g359, 0, none⟩) 1 1) (by kernel_rfl) rfl rfl rfl (by kernel_rfl) rfl ?_; intro a362 F362
        refine wpList_nil ?_
        refine hK358 _ _ ?_; clear hK358 K358
        refine wp_seq_k fun K363 hK363 => ?_
        refine wp_region_lit ?_
        refine op_p F362 (.slice (some ⟨g359, 0, none⟩) 1 1) (by kernel_rfl) rfl rfl rfl (by kernel_rfl) rfl ?_; intro a364 F364
        refine op_p F364 (.slice (B) (more.length) (d)) (by kernel_rfl) rfl rfl rfl (by kernel_rfl) rfl ?_; intro a365 F365
        refine op_s F365 (s_app rfl Try.underlying22 1 _ tin9 rfl rfl (F365.ev (v := .slice (some ⟨g359, 0, none⟩) 1 1) (by kernel_rfl)) (Sp.ofblk (sz := 1) (m := 1) (l := [Value.string path]) S361 rfl (by omega) rfl) (strs more) (F365.ev (v := .slice (B) (more.length) (d)) (by kernel_rfl)) (h0 _ S361.drop.drop) (by first | (simp [strs, ptrs]; done) | (simp [strs, ptrs]; omega)) (by intro u hu; obtain ⟨x, _, rfl⟩ := List.mem_map.1 hu; rfl) (by omega) (by omega) (n' := ([path] ++ more).length) (by first | (simp; done) | (simp; omega)) (cs' := strs ([path] ++ more)) (by simp [strs])) rfl rfl rfl ?_
        rintro _ _ w367 ⟨A366, c366, rfl, rfl⟩ S367 a367 F367
        refine op_p F367 (.slice A366 (([path] ++ more).length) c366) (by kernel_rfl) rfl rfl rfl (by kernel_rfl) rfl ?_; intro a368 F368
        refine wpList_nil ?_
        refine hK363 _ _ ?_; clear hK363 K363
        refine wp_seq_k fun K369 hK369 => ?_
        refine wp_region_lit ?_
        refine op_p F368 (.slice A366 (([path] ++ more).length) c366) (by kernel_rfl) rfl rfl rfl (by kernel_rfl) rfl ?_; intro a370 F370
        refine op_c F370 (f := 148) (args := #[.slice A366 (([path] ++ more).length) c366]) (by kernel_rfl) (by kernel_rfl) rfl (joinPath_any A366 c366 ([path] ++ more) _ _ _ S367 (fun w S => own_sl1 (S.ow 0 rfl) (by first | omega | (simp; omega))) (by simp; omega) hxs) rfl rfl rfl ?_
        rintro _ w371 ⟨rfl, S371⟩
        refine ⟨_, rfl, ?_⟩
        intro a372 F372
        refine op_p F372 (.string (joinP ([path] ++ more))) (by kernel_rfl) rfl rfl rfl (by kernel_rfl) rfl ?_; intro a373 F373
        refine wpList_nil ?_
        refine hK369 _ _ ?_; clear hK369 K369
        refine wp_seq_k fun K374 hK374 => ?_
        refine wp_seq_k fun K375 hK375 => ?_
        refine wp_region_lit ?_
        refine op_p F373 (.string pre) (by kernel_rfl) rfl rfl rfl (by kernel_rfl) rfl ?_; intro a376 F376
        refine op_p F376 (.bool (!(pre.toList == (⟨#[]⟩ : ByteArray).toList))) (by kernel_rfl) rfl rfl rfl (by kernel_rfl) rfl ?_; intro a377 F377
        have F378 := F377.sb 95 (by kernel_rfl) (show (!(pre.toList == (⟨#[]⟩ : ByteArray).toList)) = true by rw [hpe]; rfl)
        refine op_p F378 (.bool true) (by kernel_rfl) rfl rfl rfl (by kernel_rfl) rfl ?_; intro a379 F379
        refine op_want F379 (by kernel_rfl) rfl ?_
        refine op_p F379 (.string (joinP ([path] ++ more))) (by kernel_rfl) rfl rfl rfl (by kernel_rfl) rfl ?_; intro a380 F380
        refine op_want F380 (by kernel_rfl) rfl ?_
        refine op_p F380 (.bool (!((joinP ([path] ++ more)).toList == (⟨#[]⟩ : ByteArray).toList))) (by kernel_rfl) rfl rfl rfl (by kernel_rfl) rfl ?_; intro a381 F381
        refine op_p F381 (.bool (!((joinP ([path] ++ more)).toList == (⟨#[]⟩ : ByteArray).toList))) (by kernel_rfl) rfl rfl rfl (by kernel_rfl) rfl ?_; intro a382 F382
        refine op_p F382 (.bool (!((joinP ([path] ++ more)).toList == (⟨#[]⟩ : ByteArray).toList))) (by kernel_rfl) rfl rfl rfl (by kernel_rfl) rfl ?_; intro a383 F383
        rcases btf ((joinP ([path] ++ more)).toList == (⟨#[]⟩ : ByteArray).toList) with hc384 | hc384
        · have F385 := F383.sb 98 (by kernel_rfl) (show (!((joinP ([path] ++ more)).toList == (⟨#[]⟩ : ByteArray).toList)) = false by rw [hc384]; rfl)
          have F386 := F385.sb 99 (by kernel_rfl) (show (!((joinP ([path] ++ more)).toList == (⟨#[]⟩ : ByteArray).toList)) = false by rw [hc384]; rfl)
          have F387 := F386.sb 100 (by kernel_rfl) (show (!((joinP ([path] ++ more)).toList == (⟨#[]⟩ : ByteArray).toList)) = false by rw [hc384]; rfl)
          refine op_skip F387 (by kernel_rfl) rfl rfl rfl ?_; intro a388 F388
          refine op_skip F388 (by kernel_rfl) rfl rfl rfl ?_; intro a389 F389
          refine op_skip F389 (by kernel_rfl) rfl rfl rfl ?_; intro a390 F390
          refine op_p F390 (.bool false) (by kernel_rfl) rfl rfl rfl (by kernel_rfl) rfl ?_; intro a391 F391
          refine wpList_nil ?_
          refine hK375 _ _ ?_; clear hK375 K375
          refine wp_cond_false (F391.ev (by kernel_rfl)) ?_
          refine wp_skip ?_
          refine hK374 _ _ ?_; clear hK374 K374
          refine wp_seq_k fun K392 hK392 => ?_
          refine wp_region_lit ?_
          refine op_p F391 (.string pre) (by kernel_rfl) rfl rfl rfl (by kernel_rfl) rfl ?_; intro a393 F393
          refine op_p F393 (.string (joinP ([path] ++ more))) (by kernel_rfl) rfl rfl rfl (by kernel_rfl) rfl ?_; intro a394 F394
          refine op_r (v := .string (pre ++ (joinP ([path] ++ more)))) F394 (r_sadd rfl (F394.ev (v := .string pre) (by kernel_rfl)) (F394.ev (v := .string (joinP ([path] ++ more))) (by kernel_rfl)) (by show pre.size + (joinP ([path] ++ more)).size ≤ 9223372036854775807; have hjz : (joinP ([path] ++ more)).size ≤ 100000 := joinP_size hxs (by simp; omega); first | omega | (simp only [ByteArray.size_append]; omega) | (rw [ByteArray.size_append]; show _ + (1 + _) ≤ _; omega))) rfl rfl rfl ?_; intro a395 F395
          refine op_p F395 (.string (pre ++ (joinP ([path] ++ more)))) (by kernel_rfl) rfl rfl rfl (by kernel_rfl) rfl ?_; intro a396 F396
          refine op_p F396 (.nilIface) (by kernel_rfl) rfl rfl rfl (by kernel_rfl) rfl ?_; intro a397 F397
          refine wpList_nil ?_
          refine hK392 _ _ ?_; clear hK392 K392
          refine wp_ret ?_
          refine (F397.res2 rfl (v := .string (pre ++ (joinP ([path] ++ more)))) (by kernel_rfl) (v2 := .nilIface) (by kernel_rfl) ?_).1
          exact ⟨(ret_tup2 (slash_p hc384).symm), S371.drop.drop⟩
        · have hjpos := ne_size hc384
          have F398 := F383.sb 98 (by kernel_rfl) (show (!((joinP ([path] ++ more)).toList == (⟨#[]⟩ : ByteArray).toList)) = true by rw [hc384]; rfl)
          have F399 := F398.sb 99 (by kernel_rfl) (show (!((joinP ([path] ++ more)).toList == (⟨#[]⟩ : ByteArray).toList)) = true by rw [hc384]; rfl)
          have F400 := F399.sb 100 (by kernel_rfl) (show (!((joinP ([path] ++ more)).toList == (⟨#[]⟩ : ByteArray).toList)) = true by rw [hc384]; rfl)
          refine op_want F400 (by kernel_rfl) rfl ?_
          refine op_p F400 (.string (joinP ([path] ++ more))) (by kernel_rfl) rfl rfl rfl (by kernel_rfl) rfl ?_; intro a401 F401
          refine op_want F401 (by kernel_rfl) rfl ?_
          refine op_r (v := .int .u8 (↑(joinP ([path] ++ more))[0].toNat)) F401 (r_index rfl Try.underlying9 (F401.ev (v := .string (joinP ([path] ++ more))) (by kernel_rfl)) (F401.ev (v := .int .i64 0) (by kernel_rfl)) 0 (by first | rfl | omega | simp) (by first | omega | (simp; done) | (simp; omega))) rfl rfl rfl ?_; intro a402 F402
          refine op_want F402 (by kernel_rfl) rfl ?_
          refine op_p F402 (.bool (!((↑(joinP ([path] ++ more))[0].toNat : Int) == 47))) (by kernel_rfl) rfl rfl rfl (by kernel_rfl) rfl ?_; intro a403 F403
          refine op_p F403 (.bool (!((↑(joinP ([path] ++ more))[0].toNat : Int) == 47))) (by kernel_rfl) rfl rfl rfl (by kernel_rfl) rfl ?_; intro a404 F404
          refine wpList_nil ?_
          refine hK375 _ _ ?_; clear hK375 K375
          rcases btf ((↑(joinP ([path] ++ more))[0].toNat : Int) == 47) with hc405 | hc405
          · have hc405p := eq_of_beq hc405
            have F406 := F404.sb 103 (by kernel_rfl) (show (!((↑(joinP ([path] ++ more))[0].toNat : Int) == 47)) = false by rw [hc405]; rfl)
            have F407 := F406.sb 104 (by kernel_rfl) (show (!((↑(joinP ([path] ++ more))[0].toNat : Int) == 47)) = false by rw [hc405]; rfl)
            refine wp_cond_false (F407.ev (by kernel_rfl)) ?_
            refine wp_skip ?_
            refine hK374 _ _ ?_; clear hK374 K374
            refine wp_seq_k fun K408 hK408 => ?_
            refine wp_region_lit ?_
            refine op_p F407 (.string pre) (by kernel_rfl) rfl rfl rfl (by kernel_rfl) rfl ?_; intro a409 F409
            refine op_p F409 (.string (joinP ([path] ++ more))) (by kernel_rfl) rfl rfl rfl (by kernel_rfl) rfl ?_; intro a410 F410
            refine op_r (v := .string (pre ++ (joinP ([path] ++ more)))) F410 (r_sadd rfl (F410.ev (v := .string pre) (by kernel_rfl)) (F410.ev (v := .string (joinP ([path] ++ more))) (by kernel_rfl)) (by show pre.size + (joinP ([path] ++ more)).size ≤ 9223372036854775807; have hjz : (joinP ([path] ++ more)).size ≤ 100000 := joinP_size hxs (by simp; omega); first | omega | (simp only [ByteArray.size_append]; omega) | (rw [ByteArray.size_append]; show _ + (1 + _) ≤ _; omega))) rfl rfl rfl ?_; intro a411 F411
            refine op_p F411 (.string (pre ++ (joinP ([path] ++ more)))) (by kernel_rfl) rfl rfl rfl (by kernel_rfl) rfl ?_; intro a412 F412
            refine op_p F412 (.nilIface) (by kernel_rfl) rfl rfl rfl (by kernel_rfl) rfl ?_; intro a413 F413
            refine wpList_nil ?_
            refine hK408 _ _ ?_; clear hK408 K408
            refine wp_ret ?_
            refine (F413.res2 rfl (v := .string (pre ++ (joinP ([path] ++ more)))) (by kernel_rfl) (v2 := .nilIface) (by kernel_rfl) ?_).1
            exact ⟨(ret_tup2 (slash_s hjpos hc405).symm), S371.drop.drop⟩
          · have hc405p := ne_of_beq_false hc405
            have F414 := F404.sb 103 (by kernel_rfl) (show (!((↑(joinP ([path] ++ more))[0].toNat : Int) == 47)) = true by rw [hc405]; rfl)
            have F415 := F414.sb 104 (by kernel_rfl) (show (!((↑(joinP ([path] ++ more))[0].toNat : Int) == 47)) = true by rw [hc405]; rfl)
            refine wp_cond_true (F415.ev (by kernel_rfl)) ?_
            refine wp_region_lit ?_
            refine op_p F415 (.string (joinP ([path] ++ more))) (by kernel_rfl) rfl rfl rfl (by kernel_rfl) rfl ?_; intro a416 F416
            refine op_r (v := .string ((⟨#[47]⟩ : ByteArray) ++ (joinP ([path] ++ more)))) F416 (r_sadd rfl (F416.ev (v := .string ⟨#[47]⟩) (by kernel_rfl)) (F416.ev (v := .string (joinP ([path] ++ more))) (by kernel_rfl)) (by show 1 + (joinP ([path] ++ more)).size ≤ 9223372036854775807; have hjz : (joinP ([path] ++ more)).size ≤ 100000 := joinP_size hxs (by simp; omega); first | omega | (simp only [ByteArray.size_append]; omega) | (rw [ByteArray.size_append]; show _ + (1 + _) ≤ _; omega))) rfl rfl rfl ?_; intro a417 F417
            refine op_p F417 (.string ((⟨#[47]⟩ : ByteArray) ++ (joinP ([path] ++ more)))) (by kernel_rfl) rfl rfl rfl (by kernel_rfl) rfl ?_; intro a418 F418
            refine wpList_nil ?_
            refine hK374 _ _ ?_; clear hK374 K374
            refine wp_seq_k fun K419 hK419 => ?_
            refine wp_region_lit ?_
            refine op_p F418 (.string pre) (by kernel_rfl) rfl rfl rfl (by kernel_rfl) rfl ?_; intro a420 F420
            refine op_p F420 (.string ((⟨#[47]⟩ : ByteArray) ++ (joinP ([path] ++ more)))) (by kernel_rfl) rfl rfl rfl (by kernel_rfl) rfl ?_; intro a421 F421
            refine op_r (v := .string (pre ++ ((⟨#[47]⟩ : ByteArray) ++ (joinP ([path] ++ more))))) F421 (r_sadd rfl (F421.ev (v := .string pre) (by kernel_rfl)) (F421.ev (v := .string ((⟨#[47]⟩ : ByteArray) ++ (joinP ([path] ++ more)))) (by kernel_rfl)) (by show pre.size + ((⟨#[47]⟩ : ByteArray) ++ (joinP ([path] ++ more))).size ≤ 9223372036854775807; have hjz : (joinP ([path] ++ more)).size ≤ 100000 := joinP_size hxs (by simp; omega); first | omega | (simp only [ByteArray.size_append]; omega) | (rw [ByteArray.size_append]; show _ + (1 + _) ≤ _; omega))) rfl rfl rfl ?_; intro a422 F422
            refine op_p F422 (.string (pre ++ ((⟨#[47]⟩ : ByteArray) ++ (joinP ([path] ++ more))))) (by kernel_rfl) rfl rfl rfl (by kernel_rfl) rfl ?_; intro a423 F423
            refine op_p F423 (.nilIface) (by kernel_rfl) rfl rfl rfl (by kernel_rfl) rfl ?_; intro a424 F424
            refine wpList_nil ?_
            refine hK419 _ _ ?_; clear hK419 K419
            refine wp_ret ?_
            refine (F424.res2 rfl (v := .string (pre ++ ((⟨#[47]⟩ : ByteArray) ++ (joinP ([path] ++ more))))) (by kernel_rfl) (v2 := .nilIface) (by kernel_rfl) ?_).1
            exact ⟨(ret_tup2 (slash_n hpe hc384 hjpos hc405).symm), S371.drop.drop⟩
end Go.Proofs.Ytkjcedlgljeoiaa
