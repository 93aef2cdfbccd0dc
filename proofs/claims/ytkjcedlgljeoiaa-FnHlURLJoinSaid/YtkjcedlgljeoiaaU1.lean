/- Paths made clean: plain.Clean, JoinPath; spec.hlTogether, HlJoin. -/
import Derived.Test.YtkjcedlgljeoiaaFb
import Derived.Test.YtkjcedlgljeoiaaTy
import Derived.Test.YtkjcedlgljeoiaaTz
import Derived.Test.YtkjcedlgljeoiaaQ2
import Derived.Test.YtkjcedlgljeoiaaP4
namespace Go.Proofs.Ytkjcedlgljeoiaa
open Go.RowKit Go.Lib
set_option linter.unusedVariables false
set_option linter.unusedSimpArgs false
def lst (l : List ByteArray) : ByteArray := l.getLastD ⟨#[]⟩
theorem lst_at {l : List ByteArray} (h : 0 < l.length) : lst l = l[l.length - 1] := by
  unfold lst
  rw [List.getLastD_eq_getLast?, List.getLast?_eq_getElem?, List.getElem?_eq_getElem (by omega)]
  rfl
def push (r : Bool) (l : List ByteArray) (p : ByteArray) : List ByteArray :=
  if p.toList == (⟨#[]⟩ : ByteArray).toList then l else if p.toList == (⟨#[46]⟩ : ByteArray).toList then l
  else if p.toList == (⟨#[46, 46]⟩ : ByteArray).toList then
    (if 0 < l.length then (if (lst l).toList == (⟨#[46, 46]⟩ : ByteArray).toList then (if r then l else l ++ [p]) else l.dropLast) else (if r then l else l ++ [p]))
  else l ++ [p]
def stk (r : Bool) (s : ByteArray) : List ByteArray := (splitF ⟨#[47]⟩ (s.size + 1) s).foldl (push r) []
def cleanP (s : ByteArray) : ByteArray :=
  if s.toList == (⟨#[]⟩ : ByteArray).toList then ⟨#[46]⟩
  else if h : 0 < s.size then (if (s[0].toNat : Int) == 47 then (⟨#[47]⟩ : ByteArray) ++ joinF ⟨#[47]⟩ (stk true s) else if (joinF ⟨#[47]⟩ (stk false s)).toList == (⟨#[]⟩ : ByteArray).toList then ⟨#[46]⟩ else joinF ⟨#[47]⟩ (stk false s))
  else ⟨#[46]⟩
theorem push_len {r : Bool} {l : List ByteArray} {p : ByteArray} : (push r l p).length ≤ l.length + 1 := by
  unfold push
  repeat' split
  all_goals simp
  all_goals omega
theorem push_all {r : Bool} {l : List ByteArray} {p : ByteArray} {n : Nat} (h : ∀ x ∈ l, x.size ≤ n) (hp : p.size ≤ n) : ∀ x ∈ push r l p, x.size ≤ n := by
  have h2 : ∀ x ∈ l ++ [p], x.size ≤ n := fun x hx => by
    rcases List.mem_append.1 hx with hx | hx
    · exact h x hx
    · rw [List.mem_singleton.1 hx]; exact hp
  have h3 : ∀ x ∈ l.dropLast, x.size ≤ n := fun x hx => h x (List.dropLast_subset _ hx)
  unfold push
  repeat' split
  all_goals assumption
theorem stk_step {r : Bool} {s : ByteArray} {l : List ByteArray} {f k K : Nat} {R : List ByteArray} (hf : f ≤ k) (hk : k < s.size) (hno : ∀ j, ∀ h : j < s.size, f ≤ j → j < k → s[j].toNat ≠ 47) (he : s[k].toNat = 47) (hK : s.size + 1 ≤ K + f)
    (h : (splitF ⟨#[47]⟩ K (s.extract f s.size)).foldl (push r) l = R) : ∃ K', s.size + 1 ≤ K' + (k + 1) ∧ (splitF ⟨#[47]⟩ K' (s.extract (k + 1) s.size)).foldl (push r) (push r l (s.extract f k)) = R := by
  cases K with
  | zero => omega
  | succ K =>
    refine ⟨K, by omega, ?_⟩
    rw [split_step hf hk (fun j hj h1 h2 e => hno j hj h1 h2 (by rw [e]; rfl)) (UInt8.toNat_inj.1 (by rw [he]; rfl))] at h
    exact h
theorem stk_last {r : Bool} {s : ByteArray} {l : List ByteArray} {f K : Nat} {R : List ByteArray} (hno : ∀ j, ∀ h : j < s.size, f ≤ j → s[j].toNat ≠ 47)
    (h : (splitF ⟨#[47]⟩ K (s.extract f s.size)).foldl (push r) l = R) : push r l (s.extract f s.size) = R := by
  rw [split_end (fun j hj h1 e => hno j hj h1 (by rw [e]; rfl))] at h
  exact h
theorem cleanP_r {s : ByteArray} (h0 : (s.toList == (⟨#[]⟩ : ByteArray).toList) = false) (h : 0 < s.size) (h2 : ((s[0].toNat : Int) == 47) = true) : cleanP s = (⟨#[47]⟩ : ByteArray) ++ joinF ⟨#[47]⟩ (stk true s) := by
  unfold cleanP; simp only [h0, Bool.false_eq_true, if_false, dif_pos h, h2, if_true]
theorem cleanP_e {s : ByteArray} (h0 : (s.toList == (⟨#[]⟩ : ByteArray).toList) = false) (h : 0 < s.size) (h2 : ((s[0].toNat : Int) == 47) = false) (h3 : ((joinF ⟨#[47]⟩ (stk false s)).toList == (⟨#[]⟩ : ByteArray).toList) = true) : cleanP s = ⟨#[46]⟩ := by
  unfold cleanP; simp only [h0, Bool.false_eq_true, if_false, dif_pos h, h2, h3, if_true]
theorem cleanP_n {s : ByteArray} (h0 : (s.toList == (⟨#[]⟩ : ByteArray).toList) = false) (h : 0 < s.size) (h2 : ((s[0].toNat : Int) == 47) = false) (h3 : ((joinF ⟨#[47]⟩ (stk false s)).toList == (⟨#[]⟩ : ByteArray).toList) = false) : cleanP s = joinF ⟨#[47]⟩ (stk false s) := by
  unfold cleanP; simp only [h0, Bool.false_eq_true, if_false, dif_pos h, h2, h3]
theorem ne_size {s : ByteArray} (h : (s.toList == (⟨#[]⟩ : ByteArray).toList) = false) : 0 < s.size := by
  rcases Nat.eq_zero_or_pos s.size with h0 | h0
  · rw [bytes_nil h0] at h; simp at h
  · exact h0
theorem joinF_one {sep : ByteArray} {xs : List ByteArray} {k : Nat} (h : k < xs.length) (h0 : k = 0) : joinF sep (xs.take k) ++ xs[k] = joinF sep (xs.take (k + 1)) := by
  subst h0
  match xs, h with
  | x :: l, _ => show (ByteArray.empty ++ x : ByteArray) = joinF sep [x]; simp [joinF]
theorem joinF_le {sep : ByteArray} {xs : List ByteArray} {n k : Nat} (h : ∀ x ∈ xs, x.size ≤ n) : (joinF sep (xs.take k)).size ≤ k * (n + sep.size) := by
  have h1 := joinF_size sep (xs.take k)
  have h2 : ∀ l : List ByteArray, (∀ x ∈ l, x.size ≤ n) → szSum l ≤ l.length * n := fun l => by
    induction l with
    | nil => intro _; simp [szSum]
    | cons a l ih =>
      intro h
      have := ih fun x hx => h x (List.mem_cons_of_mem _ hx)
      have h3 := h a (List.mem_cons_self ..)
      simp only [szSum, List.map_cons, List.sum_cons, List.length_cons] at this ⊢
      rw [Nat.add_mul]
      omega
  have h3 := h2 (xs.take k) fun x hx => h x (List.mem_of_mem_take hx)
  have h4 : (xs.take k).length ≤ k := List.length_take_le _ _
  have h5 : (xs.take k).length * (n + sep.size) ≤ k * (n + sep.size) := Nat.mul_le_mul_right _ h4
  rw [Nat.mul_add] at h5
  omega
set_option maxRecDepth 100000 in
set_option maxHeartbeats 20000000 in
theorem together_any (A : Option Addr) (c : Nat) (xs : List ByteArray) (sep : ByteArray) (R : Ctx) (L : List SA) (w : World) (S : Sp R w (L)) (h0 : Rf R L fun w => Sl w (A) (strs xs)) (hn : xs.length ≤ 100000) (hx : ∀ x ∈ xs, x.size ≤ 100000) (hs : sep.size ≤ 1000) :
    Calls Try.prog 149 #[.slice (A) (xs.length) (c), .string sep] w fun e w' => e = .returned (.string (joinF sep xs)) ∧ Sp R w' (L) := by
  have hl_xs : xs.length ≤ 9223372036854775807 := by have := (h0 _ S).1; simpa [strs, ptrs] using this
  refine fw_enter (fn := Try.f149) rfl rfl 25 rfl (Nat.le_of_ble_eq_true rfl) ?_
  intro a0 F0
  refine wp_seq_k fun K1 hK1 => ?_
  refine wp_region_lit ?_
  refine op_p F0 (.string ⟨#[]⟩) (by kernel_rfl) rfl rfl rfl (by kernel_rfl) rfl ?_; intro a2 F2
  refine wpList_nil ?_
  refine hK1 _ _ ?_; clear hK1 K1
  refine wp_seq_k fun K3 hK3 => ?_
  refine wp_region_lit ?_
  refine op_p F2 (.string ⟨#[]⟩) (by kernel_rfl) rfl rfl rfl (by kernel_rfl) rfl ?_; intro a4 F4
  refine wpList_nil ?_
  refine hK3 _ _ ?_; clear hK3 K3
  refine wp_seq_k fun K5 hK5 => ?_
  refine wp_seq_k fun K6 hK6 => ?_
  refine wp_region_lit ?_
  refine op_p F4 (.slice (A) (xs.length) (c)) (by kernel_rfl) rfl rfl rfl (by kernel_rfl) rfl ?_; intro a7 F7
  refine op_p F7 (.int .i64 (↑xs.length)) (by kernel_rfl) rfl rfl rfl (by kernel_rfl) rfl ?_; intro a8 F8
  refine op_p F8 (.int .i64 0) (by kernel_rfl) rfl rfl rfl (by kernel_rfl) rfl ?_; intro a9 F9
  refine wpList_nil ?_
  refine hK6 _ _ ?_; clear hK6 K6
  refine wp_block ?_
  refine fw_loop (fun m a' w' => ∃ k : Nat, ∃ o : ByteArray, xs.length - k = m ∧ Fr 25 [] a' [(0, .slice (A) (xs.length) (c)), (1, .string sep), (4, .string ⟨#[]⟩), (5, .string o), (8, .slice (A) (xs.length) (c)), (9, .int .i64 (↑xs.length)), (10, .int .i64 (↑k))] ∧ Sp R w' (L) ∧ (k ≤ xs.length) ∧ (o = joinF sep (xs.take k))) _ ⟨0, ⟨#[]⟩, rfl, (F9.k 0 (by kernel_rfl) (F9.k 1 (by kernel_rfl) (F9.k 4 (by kernel_rfl) (F9.k 5 (by kernel_rfl) (F9.k 8 (by kernel_rfl) (F9.k 9 (by kernel_rfl) (F9.k 10 (by kernel_rfl) F9.nil))))))), S, (by first | omega | (with_reducible assumption) | (simp; done)), rfl⟩ ?_
  rintro m10 a10 w10 ⟨k, o, hm10, F10, S10, hk, ho⟩ K10 hK10
  by_cases hlt_k : k < xs.length
  · have hc_k : decide ((↑k : Int) < ↑xs.length) = true := by first | (simp; done) | (simp; omega)
    have hjl := joinF_le (sep := sep) (k := k) hx
    have hxk := hx _ (List.getElem_mem hlt_k)
    have hkb : k * (100000 + sep.size) ≤ 100000 * 101000 := Nat.mul_le_mul (by omega) (by omega)
    obtain ⟨ad11, hA11⟩ := (h0 _ S10).addr (by simp [strs, ptrs]; omega)
    refine wp_seq_k fun K12 hK12 => ?_
    refine wp_region_lit ?_
    refine op_p F10 (.bool (decide ((↑k : Int) < ↑xs.length))) (by kernel_rfl) rfl rfl rfl (by kernel_rfl) rfl ?_; intro a13 F13
    have F14 := F13.sb 11 (by kernel_rfl) hc_k
    refine wpList_nil ?_
    refine hK12 _ _ ?_; clear hK12 K12
    refine wp_seq_k fun K15 hK15 => ?_
    refine wp_cond_true (F14.ev (by kernel_rfl)) ?_
    refine wp_skip ?_
    refine hK15 _ _ ?_; clear hK15 K15
    refine wp_seq_k fun K16 hK16 => ?_
    refine wp_block ?_
    refine wp_seq_k fun K17 hK17 => ?_
    refine wp_region_lit ?_
    refine op_p F14 (.int .i64 (↑k)) (by kernel_rfl) rfl rfl rfl (by kernel_rfl) rfl ?_; intro a18 F18
    refine op_r (v := .pointer (some (ad11.add k))) F18 (r_ix rfl Try.underlying22 1 (by kernel_rfl) (F18.ev (v := .slice (A) (xs.length) (c)) (by kernel_rfl)) hA11 (F18.ev (v := .int .i64 (↑k)) (by kernel_rfl)) k (by first | rfl | omega | simp) (by first | omega | (simp; done) | (simp; omega)) (by simp only [Nat.mul_one])) rfl rfl rfl ?_; intro a19 F19
    refine op_r (v := .string xs[k]) F19 (r_ld rfl (F19.ev (v := .pointer (some (ad11.add k))) (by kernel_rfl)) (v := .string xs[k]) ((h0 _ S10).elA hA11 (j := k) (by simp [strs, hlt_k])) Try.underlying9 rfl) rfl rfl rfl ?_; intro a20 F20
    refine op_p F20 (.int .i64 (↑k)) (by kernel_rfl) rfl rfl rfl (by kernel_rfl) rfl ?_; intro a21 F21
    refine op_p F21 (.string xs[k]) (by kernel_rfl) rfl rfl rfl (by kernel_rfl) rfl ?_; intro a22 F22
    refine wpList_nil ?_
    refine hK17 _ _ ?_; clear hK17 K17
    refine wp_seq_k fun K23 hK23 => ?_
    refine wp_seq_k fun K24 hK24 => ?_
    refine wp_region_lit ?_
    refine op_p F22 (.int .i64 (↑k)) (by kernel_rfl) rfl rfl rfl (by kernel_rfl) rfl ?_; intro a25 F25
    refine op_p F25 (.bool (decide ((0 : Int) < ↑k))) (by kernel_rfl) rfl rfl rfl (by kernel_rfl) rfl ?_; intro a26 F26
    refine wpList_nil ?_
    refine hK24 _ _ ?_; clear hK24 K24
    rcases btf (decide ((0 : Int) < ↑k)) with hc27 | hc27
    · have hc27p := of_decide_eq_true hc27
      have F28 := F26.sb 16 (by kernel_rfl) hc27
      refine wp_cond_true (F28.ev (by kernel_rfl)) ?_
      refine wp_region_lit ?_
      refine op_p F28 (.string o) (by kernel_rfl) rfl rfl rfl (by kernel_rfl) rfl ?_; intro a29 F29
      refine op_p F29 (.string sep) (by kernel_rfl) rfl rfl rfl (by kernel_rfl) rfl ?_; intro a30 F30
      refine op_r (v := .string (o ++ sep)) F30 (r_sadd rfl (F30.ev (v := .string o) (by kernel_rfl)) (F30.ev (v := .string sep) (by kernel_rfl)) (by show o.size + sep.size ≤ 9223372036854775807; first | omega | (subst ho; omega) | (subst ho; rw [ByteArray.size_append]; omega))) rfl rfl rfl ?_; intro a31 F31
      refine op_p F31 (.string (o ++ sep)) (by kernel_rfl) rfl rfl rfl (by kernel_rfl) rfl ?_; intro a32 F32
      refine wpList_nil ?_
      refine hK23 _ _ ?_; clear hK23 K23
      refine wp_region_lit ?_
      refine op_p F32 (.string (o ++ sep)) (by kernel_rfl) rfl rfl rfl (by kernel_rfl) rfl ?_; intro a33 F33
      refine op_p F33 (.string xs[k]) (by kernel_rfl) rfl rfl rfl (by kernel_rfl) rfl ?_; intro a34 F34
      refine op_r (v := .string ((o ++ sep) ++ xs[k])) F34 (r_sadd rfl (F34.ev (v := .string (o ++ sep)) (by kernel_rfl)) (F34.ev (v := .string xs[k]) (by kernel_rfl)) (by show (o ++ sep).size + xs[k].size ≤ 9223372036854775807; first | omega | (subst ho; omega) | (subst ho; rw [ByteArray.size_append]; omega))) rfl rfl rfl ?_; intro a35 F35
      refine op_p F35 (.string ((o ++ sep) ++ xs[k])) (by kernel_rfl) rfl rfl rfl (by kernel_rfl) rfl ?_; intro a36 F36
      refine wpList_nil ?_
      refine hK16 _ _ ?_; clear hK16 K16
      refine wp_region_lit ?_
      refine op_r (v := .int .i64 (↑(k + 1))) F36 (r_add (z := ↑(k + 1)) rfl (F36.ev (v := .int .i64 (↑k)) (by kernel_rfl)) (F36.ev (v := .int .i64 1) (by kernel_rfl)) (wr64 (by omega) (by omega) (by omega))) rfl rfl rfl ?_; intro a37 F37
      refine op_p F37 (.int .i64 (↑(k + 1))) (by kernel_rfl) rfl rfl rfl (by kernel_rfl) rfl ?_; intro a38 F38
      refine wpList_nil ?_
      exact hK10 _ _ _ (by first | omega | (simp; omega)) ⟨k + 1, ((o ++ sep) ++ xs[k]), rfl, (F38.k 0 (by kernel_rfl) (F38.k 1 (by kernel_rfl) (F38.k 4 (by kernel_rfl) (F38.k 5 (by kernel_rfl) (F38.k 8 (by kernel_rfl) (F38.k 9 (by kernel_rfl) (F38.k 10 (by kernel_rfl) F38.nil))))))), S10, (by first | omega | (with_reducible assumption) | (simp; done)), (by subst ho; exact (joinF_take sep xs k hlt_k (by omega)).symm)⟩
    · have hc27p := of_decide_eq_false hc27
      have F39 := F26.sb 16 (by kernel_rfl) hc27
      refine wp_cond_false (F39.ev (by kernel_rfl)) ?_
      refine wp_skip ?_
      refine hK23 _ _ ?_; clear hK23 K23
      refine wp_region_lit ?_
      refine op_p F39 (.string o) (by kernel_rfl) rfl rfl rfl (by kernel_rfl) rfl ?_; intro a40 F40
      refine op_p F40 (.string xs[k]) (by kernel_rfl) rfl rfl rfl (by kernel_rfl) rfl ?_; intro a41 F41
      refine op_r (v := .string (o ++ xs[k])) F41 (r_sadd rfl (F41.ev (v := .string o) (by kernel_rfl)) (F41.ev (v := .string xs[k]) (by kernel_rfl)) (by show o.size + xs[k].size ≤ 9223372036854775807; first | omega | (subst ho; omega) | (subst ho; rw [ByteArray.size_append]; omega))) rfl rfl rfl ?_; intro a42 F42
      refine op_p F42 (.string (o ++ xs[k])) (by kernel_rfl) rfl rfl rfl (by kernel_rfl) rfl ?_; intro a43 F43
      refine wpList_nil ?_
      refine hK16 _ _ ?_; clear hK16 K16
      refine wp_region_lit ?_
      refine op_r (v := .int .i64 (↑(k + 1))) F43 (r_add (z := ↑(k + 1)) rfl (F43.ev (v := .int .i64 (↑k)) (by kernel_rfl)) (F43.ev (v := .int .i64 1) (by kernel_rfl)) (wr64 (by omega) (by omega) (by omega))) rfl rfl rfl ?_; intro a44 F44
      refine op_p F44 (.int .i64 (↑(k + 1))) (by kernel_rfl) rfl rfl rfl (by kernel_rfl) rfl ?_; intro a45 F45
      refine wpList_nil ?_
      exact hK10 _ _ _ (by first | omega | (simp; omega)) ⟨k + 1, (o ++ xs[k]), rfl, (F45.k 0 (by kernel_rfl) (F45.k 1 (by kernel_rfl) (F45.k 4 (by kernel_rfl) (F45.k 5 (by kernel_rfl) (F45.k 8 (by kernel_rfl) (F45.k 9 (by kernel_rfl) (F45.k 10 (by kernel_rfl) F45.nil))))))), S10, (by first | omega | (with_reducible assumption) | (simp; done)), (by subst ho; exact joinF_one hlt_k (by omega))⟩
  · have hc_k : decide ((↑k : Int) < ↑xs.length) = false := by first | (simp; done) | (simp; omega)
    refine wp_seq_k fun K46 hK46 => ?_
    refine wp_region_lit ?_
    refine op_p F10 (.bool (decide ((↑k : Int) < ↑xs.length))) (by kernel_rfl) rfl rfl rfl (by kernel_rfl) rfl ?_; intro a47 F47
    have F48 := F47.sb 11 (by kernel_rfl) hc_k
    refine wpList_nil ?_
    refine hK46 _ _ ?_; clear hK46 K46
    refine wp_seq_k fun K49 hK49 => ?_
    refine wp_cond_false (F48.ev (by kernel_rfl)) ?_
    refine wp_exit ?_
    refine ex_then ?_; clear hK49 K49
    refine ex_then ?_
    refine ex_in ?_
    refine hK5 _ _ ?_; clear hK5 K5
    refine wp_seq_k fun K50 hK50 => ?_
    refine wp_region_lit ?_
    refine op_p F48 (.string o) (by kernel_rfl) rfl rfl rfl (by kernel_rfl) rfl ?_; intro a51 F51
    refine op_p F51 (.string o) (by kernel_rfl) rfl rfl rfl (by kernel_rfl) rfl ?_; intro a52 F52
    refine wpList_nil ?_
    refine hK50 _ _ ?_; clear hK50 K50
    refine wp_ret ?_
    refine (F52.res1 rfl (v := .string o) (by kernel_rfl) ?_).1
    exact ⟨(ret_str (by rw [ho, List.take_of_length_le (by omega)])), S10⟩
end Go.Proofs.Ytkjcedlgljeoiaa
