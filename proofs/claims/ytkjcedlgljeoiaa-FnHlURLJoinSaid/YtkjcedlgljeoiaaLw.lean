/- plain.Lower, EqualFold, HasPrefix. -/
import Derived.Test.YtkjcedlgljeoiaaFy
import Derived.Test.YtkjcedlgljeoiaaTy
import Derived.Test.YtkjcedlgljeoiaaTz
namespace Go.Proofs.Ytkjcedlgljeoiaa
open Go.RowKit Go.Lib
set_option linter.unusedVariables false
set_option linter.unusedSimpArgs false
theorem low_put {b s : ByteArray} {k : Nat} {c : UInt8} (hk : k < b.size) (h : ∀ j, j < k → bt0 b j = lowN (bt0 s j)) (hc : c.toNat = lowN (bt0 s k)) : ∀ j, j < k + 1 → bt0 (b.set k c hk) j = lowN (bt0 s j) := fun j hj => by
  rw [bt0_set hk]
  by_cases e : j = k
  · subst e; rw [if_pos rfl, hc]
  · rw [if_neg e]; exact h j (by omega)
set_option maxRecDepth 100000 in
set_option maxHeartbeats 20000000 in
theorem lower_any (s : ByteArray) (R : Ctx) (L : List SA) (w : World) (S : Sp R w (L))  (hs : s.size ≤ 1000000) (ha : ∀ j, bt0 s j ≤ 127) :
    Calls Try.prog 147 #[.string s] w fun e w' => e = .returned (.string (lowF s)) ∧ Sp R w' (L) := by
  refine fw_enter (fn := Try.f147) rfl rfl 33 rfl (Nat.le_of_ble_eq_true rfl) ?_
  intro a0 F0
  refine wp_seq_k fun K1 hK1 => ?_
  refine wp_region_lit ?_
  refine op_p F0 (.string ⟨#[]⟩) (by kernel_rfl) rfl rfl rfl (by kernel_rfl) rfl ?_; intro a2 F2
  refine wpList_nil ?_
  refine hK1 _ _ ?_; clear hK1 K1
  refine wp_seq_k fun K3 hK3 => ?_
  refine wp_region_lit ?_
  refine op_p F2 (.string s) (by kernel_rfl) rfl rfl rfl (by kernel_rfl) rfl ?_; intro a4 F4
  refine op_s F4 (s_bytes rfl Try.underlying9 Try.underlying148 Try.underlying5 (F4.ev (v := .string s) (by kernel_rfl)) S) rfl rfl rfl ?_
  rintro _ _ w6 ⟨g4, c4, rfl, rfl⟩ S6 a6 F6
  refine op_p F6 (.slice (some ⟨g4, 0, none⟩) s.size c4) (by kernel_rfl) rfl rfl rfl (by kernel_rfl) rfl ?_; intro a7 F7
  refine wpList_nil ?_
  refine hK3 _ _ ?_; clear hK3 K3
  refine wp_seq_k fun K8 hK8 => ?_
  refine wp_seq_k fun K9 hK9 => ?_
  refine wp_region_lit ?_
  refine op_p F7 (.slice (some ⟨g4, 0, none⟩) s.size c4) (by kernel_rfl) rfl rfl rfl (by kernel_rfl) rfl ?_; intro a10 F10
  refine op_p F10 (.int .i64 (↑s.size)) (by kernel_rfl) rfl rfl rfl (by kernel_rfl) rfl ?_; intro a11 F11
  refine op_p F11 (.int .i64 0) (by kernel_rfl) rfl rfl rfl (by kernel_rfl) rfl ?_; intro a12 F12
  refine wpList_nil ?_
  refine hK9 _ _ ?_; clear hK9 K9
  refine wp_block ?_
  refine fw_loop (fun m a' w' => ∃ b : ByteArray, ∃ k : Nat, s.size - k = m ∧ Fr 33 [] a' [(0, .string s), (2, .string ⟨#[]⟩), (3, .slice (some ⟨g4, 0, none⟩) s.size c4), (6, .string s), (7, .slice (some ⟨g4, 0, none⟩) s.size c4), (8, .slice (some ⟨g4, 0, none⟩) s.size c4), (9, .int .i64 (↑s.size)), (10, .int .i64 (↑k))] ∧ Sp R w' (SA.bb g4 5 b :: L) ∧ (k ≤ s.size) ∧ (b.size = s.size) ∧ (∀ j, j < k → bt0 b j = lowN (bt0 s j)) ∧ (∀ j, k ≤ j → bt0 b j = bt0 s j)) _ ⟨s, 0, rfl, (F12.k 0 (by kernel_rfl) (F12.k 2 (by kernel_rfl) (F12.k 3 (by kernel_rfl) (F12.k 6 (by kernel_rfl) (F12.k 7 (by kernel_rfl) (F12.k 8 (by kernel_rfl) (F12.k 9 (by kernel_rfl) (F12.k 10 (by kernel_rfl) F12.nil)))))))), S6, (by first | omega | (with_reducible assumption) | (simp; done)), rfl, (fun j hj => by omega), (fun _ _ => rfl)⟩ ?_
  rintro m13 a13 w13 ⟨b, k, hm13, F13, S13, hk, hbz, hb1, hb2⟩ K13 hK13
  by_cases hlt_k : k < s.size
  · have hc_k : decide ((↑k : Int) < ↑s.size) = true := by first | (simp; done) | (simp; omega)
    have hbk : bt0 b k = bt0 s k := hb2 k (Nat.le_refl _)
    have hak := ha k
    refine wp_seq_k fun K14 hK14 => ?_
    refine wp_region_lit ?_
    refine op_p F13 (.bool (decide ((↑k : Int) < ↑s.size))) (by kernel_rfl) rfl rfl rfl (by kernel_rfl) rfl ?_; intro a15 F15
    have F16 := F15.sb 11 (by kernel_rfl) hc_k
    refine wpList_nil ?_
    refine hK14 _ _ ?_; clear hK14 K14
    refine wp_seq_k fun K17 hK17 => ?_
    refine wp_cond_true (F16.ev (by kernel_rfl)) ?_
    refine wp_skip ?_
    refine hK17 _ _ ?_; clear hK17 K17
    refine wp_seq_k fun K18 hK18 => ?_
    refine wp_block ?_
    refine wp_seq_k fun K19 hK19 => ?_
    refine wp_region_lit ?_
    refine op_p F16 (.int .i64 (↑k)) (by kernel_rfl) rfl rfl rfl (by kernel_rfl) rfl ?_; intro a20 F20
    refine op_r (v := .pointer (some ⟨g4, k, none⟩)) F20 (r_ix rfl Try.underlying148 1 (by kernel_rfl) (F20.ev (v := .slice (some ⟨g4, 0, none⟩) s.size c4) (by kernel_rfl)) rfl (F20.ev (v := .int .i64 (↑k)) (by kernel_rfl)) k (by first | rfl | omega | simp) (by first | omega | (simp; done) | (simp; omega)) (by simp only [add_blk, Nat.mul_one])) rfl rfl rfl ?_; intro a21 F21
    refine op_r (v := .int .u8 (↑(bt0 s k))) F21 (r_ld rfl (F21.ev (v := .pointer (some ⟨g4, k, none⟩)) (by kernel_rfl)) (v := .int .u8 (↑(bt0 s k))) (bb_at (S13.bb 0 rfl) (by omega) hbk) Try.underlying5 rfl) rfl rfl rfl ?_; intro a22 F22
    refine op_p F22 (.int .i64 (↑k)) (by kernel_rfl) rfl rfl rfl (by kernel_rfl) rfl ?_; intro a23 F23
    refine op_p F23 (.int .u8 (↑(bt0 s k))) (by kernel_rfl) rfl rfl rfl (by kernel_rfl) rfl ?_; intro a24 F24
    refine wpList_nil ?_
    refine hK19 _ _ ?_; clear hK19 K19
    refine wp_seq_k fun K25 hK25 => ?_
    refine wp_seq_k fun K26 hK26 => ?_
    refine wp_region_lit ?_
    refine op_p F24 (.int .u8 (↑(bt0 s k))) (by kernel_rfl) rfl rfl rfl (by kernel_rfl) rfl ?_; intro a27 F27
    refine op_p F27 (.bool (decide ((128 : Int) ≤ ↑(bt0 s k)))) (by kernel_rfl) rfl rfl rfl (by kernel_rfl) rfl ?_; intro a28 F28
    refine wpList_nil ?_
    refine hK26 _ _ ?_; clear hK26 K26
    have hc29 : (decide ((128 : Int) ≤ ↑(bt0 s k))) = false := (by simp; omega)
    have F30 := F28.sb 16 (by kernel_rfl) hc29
    refine wp_cond_false (F30.ev (by kernel_rfl)) ?_
    refine wp_skip ?_
    refine hK25 _ _ ?_; clear hK25 K25
    refine wp_seq_k fun K31 hK31 => ?_
    refine wp_region_lit ?_
    refine op_p F30 (.int .u8 (↑(bt0 s k))) (by kernel_rfl) rfl rfl rfl (by kernel_rfl) rfl ?_; intro a32 F32
    refine op_p F32 (.bool (decide ((65 : Int) ≤ ↑(bt0 s k)))) (by kernel_rfl) rfl rfl rfl (by kernel_rfl) rfl ?_; intro a33 F33
    refine op_p F33 (.bool (decide ((65 : Int) ≤ ↑(bt0 s k)))) (by kernel_rfl) rfl rfl rfl (by kernel_rfl) rfl ?_; intro a34 F34
    rcases btf (decide ((65 : Int) ≤ ↑(bt0 s k))) with hc35 | hc35
    · have hc35p := of_decide_eq_true hc35
      have F36 := F34.sb 19 (by kernel_rfl) hc35
      have F37 := F36.sb 20 (by kernel_rfl) hc35
      refine op_want F37 (by kernel_rfl) rfl ?_
      refine op_p F37 (.int .u8 (↑(bt0 s k))) (by kernel_rfl) rfl rfl rfl (by kernel_rfl) rfl ?_; intro a38 F38
      refine op_want F38 (by kernel_rfl) rfl ?_
      refine op_p F38 (.bool (decide ((↑(bt0 s k) : Int) ≤ 90))) (by kernel_rfl) rfl rfl rfl (by kernel_rfl) rfl ?_; intro a39 F39
      refine op_p F39 (.bool (decide ((↑(bt0 s k) : Int) ≤ 90))) (by kernel_rfl) rfl rfl rfl (by kernel_rfl) rfl ?_; intro a40 F40
      refine wpList_nil ?_
      refine hK31 _ _ ?_; clear hK31 K31
      rcases btf (decide ((↑(bt0 s k) : Int) ≤ 90)) with hc41 | hc41
      · have hc41p := of_decide_eq_true hc41
        have F42 := F40.sb 22 (by kernel_rfl) hc41
        have F43 := F42.sb 23 (by kernel_rfl) hc41
        refine wp_cond_true (F43.ev (by kernel_rfl)) ?_
        refine wp_region_lit ?_
        refine op_p F43 (.slice (some ⟨g4, 0, none⟩) s.size c4) (by kernel_rfl) rfl rfl rfl (by kernel_rfl) rfl ?_; intro a44 F44
        refine op_p F44 (.int .i64 (↑k)) (by kernel_rfl) rfl rfl rfl (by kernel_rfl) rfl ?_; intro a45 F45
        refine op_p F45 (.int .u8 (↑(bt0 s k))) (by kernel_rfl) rfl rfl rfl (by kernel_rfl) rfl ?_; intro a46 F46
        refine op_r (v := .int .u8 (↑(bt0 s k + 97))) F46 (r_add (z := ↑(bt0 s k + 97)) rfl (F46.ev (v := .int .u8 (↑(bt0 s k))) (by kernel_rfl)) (F46.ev (v := .int .u8 97) (by kernel_rfl)) (wru8 (by omega) (by omega) (by omega))) rfl rfl rfl ?_; intro a47 F47
        refine op_r (v := .int .u8 (↑(bt0 s k + 32))) F47 (r_sub (z := ↑(bt0 s k + 32)) rfl (F47.ev (v := .int .u8 (↑(bt0 s k + 97))) (by kernel_rfl)) (F47.ev (v := .int .u8 65) (by kernel_rfl)) (wru8 (by omega) (by omega) (by omega))) rfl rfl rfl ?_; intro a48 F48
        refine op_r (v := .pointer (some ⟨g4, k, none⟩)) F48 (r_ix rfl Try.underlying148 1 (by kernel_rfl) (F48.ev (v := .slice (some ⟨g4, 0, none⟩) s.size c4) (by kernel_rfl)) rfl (F48.ev (v := .int .i64 (↑k)) (by kernel_rfl)) k (by first | rfl | omega | simp) (by first | omega | (simp; done) | (simp; omega)) (by simp only [add_blk, Nat.mul_one])) rfl rfl rfl ?_; intro a49 F49
        have hcn : (UInt8.ofNat (bt0 s k + 32)).toNat = bt0 s k + 32 := UInt8.toNat_ofNat_of_lt' (by show _ < 256; omega)
        have hc : (UInt8.ofNat (bt0 s k + 32)).toNat = lowN (bt0 s k) := by rw [hcn]; unfold lowN; rw [if_pos (by omega)]
        refine op_s0 F49 (s_stbb rfl (F49.ev (v := .pointer (some ⟨g4, k, none⟩)) (by kernel_rfl)) (F49.ev (v := .int .u8 (↑(bt0 s k + 32))) (by kernel_rfl)) S13 (by kernel_rfl) (by omega) (UInt8.ofNat (bt0 s k + 32)) (by have := hcn; rw [this])) rfl rfl ?_
        rintro _ _ w50 rfl S50 F50
        refine wpList_nil ?_
        refine hK18 _ _ ?_; clear hK18 K18
        refine wp_region_lit ?_
        refine op_r (v := .int .i64 (↑(k + 1))) F50 (r_add (z := ↑(k + 1)) rfl (F50.ev (v := .int .i64 (↑k)) (by kernel_rfl)) (F50.ev (v := .int .i64 1) (by kernel_rfl)) (wr64 (by omega) (by omega) (by omega))) rfl rfl rfl ?_; intro a51 F51
        refine op_p F51 (.int .i64 (↑(k + 1))) (by kernel_rfl) rfl rfl rfl (by kernel_rfl) rfl ?_; intro a52 F52
        refine wpList_nil ?_
        exact hK13 _ _ _ (by first | omega | (simp; omega)) ⟨b.set k (UInt8.ofNat (bt0 s k + 32)) (by omega), k + 1, rfl, (F52.k 0 (by kernel_rfl) (F52.k 2 (by kernel_rfl) (F52.k 3 (by kernel_rfl) (F52.k 6 (by kernel_rfl) (F52.k 7 (by kernel_rfl) (F52.k 8 (by kernel_rfl) (F52.k 9 (by kernel_rfl) (F52.k 10 (by kernel_rfl) F52.nil)))))))), S50, (by first | omega | (with_reducible assumption) | (simp; done)), (by rw [set_size]; exact hbz), (low_put (by omega) hb1 hc), (fun j hj => by rw [bt0_set (by omega), if_neg (by omega)]; exact hb2 j (by omega))⟩
      · have hc41p := of_decide_eq_false hc41
        have F53 := F40.sb 22 (by kernel_rfl) hc41
        have F54 := F53.sb 23 (by kernel_rfl) hc41
        refine wp_cond_false (F54.ev (by kernel_rfl)) ?_
        refine wp_skip ?_
        refine hK18 _ _ ?_; clear hK18 K18
        refine wp_region_lit ?_
        refine op_r (v := .int .i64 (↑(k + 1))) F54 (r_add (z := ↑(k + 1)) rfl (F54.ev (v := .int .i64 (↑k)) (by kernel_rfl)) (F54.ev (v := .int .i64 1) (by kernel_rfl)) (wr64 (by omega) (by omega) (by omega))) rfl rfl rfl ?_; intro a55 F55
        refine op_p F55 (.int .i64 (↑(k + 1))) (by kernel_rfl) rfl rfl rfl (by kernel_rfl) rfl ?_; intro a56 F56
        refine wpList_nil ?_
        exact hK13 _ _ _ (by first | omega | (simp; omega)) ⟨b, k + 1, rfl, (F56.k 0 (by kernel_rfl) (F56.k 2 (by kernel_rfl) (F56.k 3 (by kernel_rfl) (F56.k 6 (by kernel_rfl) (F56.k 7 (by kernel_rfl) (F56.k 8 (by kernel_rfl) (F56.k 9 (by kernel_rfl) (F56.k 10 (by kernel_rfl) F56.nil)))))))), S13, (by first | omega | (with_reducible assumption) | (simp; done)), (by first | omega | (with_reducible assumption) | (simp; done)), (fun j hj => if e : j < k then hb1 j e else (by have e2 : j = k := (by omega); subst e2; rw [hbk]; unfold lowN; rw [if_neg (by omega)])), (fun j hj => hb2 j (by omega))⟩
    · have hc35p := of_decide_eq_false hc35
      have F57 := F34.sb 19 (by kernel_rfl) hc35
      have F58 := F57.sb 20 (by kernel_rfl) hc35
      refine op_skip F58 (by kernel_rfl) rfl rfl rfl ?_; intro a59 F59
      refine op_skip F59 (by kernel_rfl) rfl rfl rfl ?_; intro a60 F60
      refine op_p F60 (.bool false) (by kernel_rfl) rfl rfl rfl (by kernel_rfl) rfl ?_; intro a61 F61
      refine wpList_nil ?_
      refine hK31 _ _ ?_; clear hK31 K31
      refine wp_cond_false (F61.ev (by kernel_rfl)) ?_
      refine wp_skip ?_
      refine hK18 _ _ ?_; clear hK18 K18
      refine wp_region_lit ?_
      refine op_r (v := .int .i64 (↑(k + 1))) F61 (r_add (z := ↑(k + 1)) rfl (F61.ev (v := .int .i64 (↑k)) (by kernel_rfl)) (F61.ev (v := .int .i64 1) (by kernel_rfl)) (wr64 (by omega) (by omega) (by omega))) rfl rfl rfl ?_; intro a62 F62
      refine op_p F62 (.int .i64 (↑(k + 1))) (by kernel_rfl) rfl rfl rfl (by kernel_rfl) rfl ?_; intro a63 F63
      refine wpList_nil ?_
      exact hK13 _ _ _ (by first | omega | (simp; omega)) ⟨b, k + 1, rfl, (F63.k 0 (by kernel_rfl) (F63.k 2 (by kernel_rfl) (F63.k 3 (by kernel_rfl) (F63.k 6 (by kernel_rfl) (F63.k 7 (by kernel_rfl) (F63.k 8 (by kernel_rfl) (F63.k 9 (by kernel_rfl) (F63.k 10 (by kernel_rfl) F63.nil)))))))), S13, (by first | omega | (with_reducible assumption) | (simp; done)), (by first | omega | (with_reducible assumption) | (simp; done)), (fun j hj => if e : j < k then hb1 j e else (by have e2 : j = k := (by omega); subst e2; rw [hbk]; unfold lowN; rw [if_neg (by omega)])), (fun j hj => hb2 j (by omega))⟩
  · have hc_k : decide ((↑k : Int) < ↑s.size) = false := by first | (simp; done) | (simp; omega)
    have hlb : b = lowF s := eq_of_bt0 (by rw [lowF_size]; exact hbz) (fun j hj => by rw [lowF_bt _ (by omega)]; exact hb1 j (by omega))
    refine wp_seq_k fun K64 hK64 => ?_
    refine wp_region_lit ?_
    refine op_p F13 (.bool (decide ((↑k : Int) < ↑s.size))) (by kernel_rfl) rfl rfl rfl (by kernel_rfl) rfl ?_; intro a65 F65
    have F66 := F65.sb 11 (by kernel_rfl) hc_k
    refine wpList_nil ?_
    refine hK64 _ _ ?_; clear hK64 K64
    refine wp_seq_k fun K67 hK67 => ?_
    refine wp_cond_false (F66.ev (by kernel_rfl)) ?_
    refine wp_exit ?_
    refine ex_then ?_; clear hK67 K67
    refine ex_then ?_
    refine ex_in ?_
    refine hK8 _ _ ?_; clear hK8 K8
    refine wp_seq_k fun K68 hK68 => ?_
    refine wp_region_lit ?_
    refine op_p F66 (.slice (some ⟨g4, 0, none⟩) s.size c4) (by kernel_rfl) rfl rfl rfl (by kernel_rfl) rfl ?_; intro a69 F69
    refine op_r (v := .string b) F69 (r_bb2s rfl Try.underlying148 Try.underlying5 Try.underlying9 (S13.bb 0 rfl) (F69.ev (v := .slice (some ⟨g4, 0, none⟩) s.size c4) (by kernel_rfl)) (by first | rfl | omega) (by omega)) rfl rfl rfl ?_; intro a70 F70
    refine op_p F70 (.string b) (by kernel_rfl) rfl rfl rfl (by kernel_rfl) rfl ?_; intro a71 F71
    refine wpList_nil ?_
    refine hK68 _ _ ?_; clear hK68 K68
    refine wp_ret ?_
    refine (F71.res1 rfl (v := .string b) (by kernel_rfl) ?_).1
    exact ⟨(ret_str hlb), S13.drop⟩
set_option maxRecDepth 100000 in
set_option maxHeartbeats 20000000 in
theorem equalFold_any (s : ByteArray) (t : ByteArray) (R : Ctx) (L : List SA) (w : World) (S : Sp R w (L))  (hs : s.size ≤ 1000000) (ht : t.size ≤ 1000000) (ha : ∀ j, bt0 s j ≤ 127) (hb : ∀ j, bt0 t j ≤ 127) :
    Calls Try.prog 197 #[.string s, .string t] w fun e w' => e = .returned (.bool ((lowF s).toList == (lowF t).toList)) ∧ Sp R w' (L) := by
  refine fw_enter (fn := Try.f197) rfl rfl 10 rfl (Nat.le_of_ble_eq_true rfl) ?_
  intro a0 F0
  refine wp_seq_k fun K1 hK1 => ?_
  refine wp_region_lit ?_
  refine op_p F0 (.bool false) (by kernel_rfl) rfl rfl rfl (by kernel_rfl) rfl ?_; intro a2 F2
  refine wpList_nil ?_
  refine hK1 _ _ ?_; clear hK1 K1
  refine wp_seq_k fun K3 hK3 => ?_
  refine wp_region_lit ?_
  refine op_p F2 (.string s) (by kernel_rfl) rfl rfl rfl (by kernel_rfl) rfl ?_; intro a4 F4
  refine op_c F4 (f := 147) (args := #[.string s]) (by kernel_rfl) (by kernel_rfl) rfl (lower_any s _ _ _ S (by first | omega | (simp; done) | (simp; omega)) (by first | omega | (simp; done) | (simp; omega))) rfl rfl rfl ?_
  rintro _ w5 ⟨rfl, S5⟩
  refine ⟨_, rfl, ?_⟩
  intro a6 F6
  refine op_p F6 (.string t) (by kernel_rfl) rfl rfl rfl (by kernel_rfl) rfl ?_; intro a7 F7
  refine op_c F7 (f := 147) (args := #[.string t]) (by kernel_rfl) (by kernel_rfl) rfl (lower_any t _ _ _ S5 (by first | omega | (simp; done) | (simp; omega)) (by first | omega | (simp; done) | (simp; omega))) rfl rfl rfl ?_
  rintro _ w8 ⟨rfl, S8⟩
  refine ⟨_, rfl, ?_⟩
  intro a9 F9
  refine op_p F9 (.bool ((lowF s).toList == (lowF t).toList)) (by kernel_rfl) rfl rfl rfl (by kernel_rfl) rfl ?_; intro a10 F10
  refine op_p F10 (.bool ((lowF s).toList == (lowF t).toList)) (by kernel_rfl) rfl rfl rfl (by kernel_rfl) rfl ?_; intro a11 F11
  refine wpList_nil ?_
  refine hK3 _ _ ?_; clear hK3 K3
  refine wp_ret ?_
  refine (F11.res1 rfl (v := .bool ((lowF s).toList == (lowF t).toList)) (by kernel_rfl) ?_).1
  exact ⟨rfl, S8⟩
def hasPreB (s p : ByteArray) : Bool := decide ((p.size : Int) ≤ s.size) && ((s.extract 0 p.size).toList == p.toList)
set_option maxRecDepth 100000 in
set_option maxHeartbeats 20000000 in
theorem hasPrefix_any (s : ByteArray) (p : ByteArray) (R : Ctx) (L : List SA) (w : World) (S : Sp R w (L))   :
    Calls Try.prog 144 #[.string s, .string p] w fun e w' => e = .returned (.bool (hasPreB s p)) ∧ Sp R w' (L) := by
  refine fw_enter (fn := Try.f144) rfl rfl 18 rfl (Nat.le_of_ble_eq_true rfl) ?_
  intro a0 F0
  refine wp_seq_k fun K1 hK1 => ?_
  refine wp_region_lit ?_
  refine op_p F0 (.bool false) (by kernel_rfl) rfl rfl rfl (by kernel_rfl) rfl ?_; intro a2 F2
  refine wpList_nil ?_
  refine hK1 _ _ ?_; clear hK1 K1
  refine wp_seq_k fun K3 hK3 => ?_
  refine wp_region_lit ?_
  refine op_p F2 (.string s) (by kernel_rfl) rfl rfl rfl (by kernel_rfl) rfl ?_; intro a4 F4
  refine op_p F4 (.int .i64 (↑s.size)) (by kernel_rfl) rfl rfl rfl (by kernel_rfl) rfl ?_; intro a5 F5
  refine op_p F5 (.string p) (by kernel_rfl) rfl rfl rfl (by kernel_rfl) rfl ?_; intro a6 F6
  refine op_p F6 (.int .i64 (↑p.size)) (by kernel_rfl) rfl rfl rfl (by kernel_rfl) rfl ?_; intro a7 F7
  refine op_p F7 (.bool (decide ((↑p.size : Int) ≤ ↑s.size))) (by kernel_rfl) rfl rfl rfl (by kernel_rfl) rfl ?_; intro a8 F8
  refine op_p F8 (.bool (decide ((↑p.size : Int) ≤ ↑s.size))) (by kernel_rfl) rfl rfl rfl (by kernel_rfl) rfl ?_; intro a9 F9
  rcases btf (decide ((↑p.size : Int) ≤ ↑s.size)) with hc10 | hc10
  · have hc10p := of_decide_eq_true hc10
    have F11 := F9.sb 9 (by kernel_rfl) hc10
    have F12 := F11.sb 10 (by kernel_rfl) hc10
    refine op_want F12 (by kernel_rfl) rfl ?_
    refine op_p F12 (.string s) (by kernel_rfl) rfl rfl rfl (by kernel_rfl) rfl ?_; intro a13 F13
    refine op_want F13 (by kernel_rfl) rfl ?_
    refine op_p F13 (.string p) (by kernel_rfl) rfl rfl rfl (by kernel_rfl) rfl ?_; intro a14 F14
    refine op_want F14 (by kernel_rfl) rfl ?_
    refine op_p F14 (.int .i64 (↑p.size)) (by kernel_rfl) rfl rfl rfl (by kernel_rfl) rfl ?_; intro a15 F15
    refine op_want F15 (by kernel_rfl) rfl ?_
    refine op_r (v := .string (s.extract 0 p.size)) F15 (r_slh rfl Try.underlying9 (F15.ev (v := .string s) (by kernel_rfl)) (F15.ev (v := .int .i64 (↑p.size)) (by kernel_rfl))  0 p.size (by first | rfl | omega | (simp; done) | (simp; omega)) (by first | omega | (simp; done) | (simp; omega)) (rfl)) rfl rfl rfl ?_; intro a16 F16
    refine op_want F16 (by kernel_rfl) rfl ?_
    refine op_p F16 (.string p) (by kernel_rfl) rfl rfl rfl (by kernel_rfl) rfl ?_; intro a17 F17
    refine op_want F17 (by kernel_rfl) rfl ?_
    refine op_p F17 (.bool ((s.extract 0 p.size).toList == p.toList)) (by kernel_rfl) rfl rfl rfl (by kernel_rfl) rfl ?_; intro a18 F18
    refine op_p F18 (.bool ((s.extract 0 p.size).toList == p.toList)) (by kernel_rfl) rfl rfl rfl (by kernel_rfl) rfl ?_; intro a19 F19
    refine op_p F19 (.bool ((s.extract 0 p.size).toList == p.toList)) (by kernel_rfl) rfl rfl rfl (by kernel_rfl) rfl ?_; intro a20 F20
    refine wpList_nil ?_
    refine hK3 _ _ ?_; clear hK3 K3
    refine wp_ret ?_
    refine (F20.res1 rfl (v := .bool ((s.extract 0 p.size).toList == p.toList)) (by kernel_rfl) ?_).1
    exact ⟨(ret_bool (by unfold hasPreB; rw [hc10]; rfl)), S⟩
  · have hc10p := of_decide_eq_false hc10
    have F21 := F9.sb 9 (by kernel_rfl) hc10
    have F22 := F21.sb 10 (by kernel_rfl) hc10
    refine op_skip F22 (by kernel_rfl) rfl rfl rfl ?_; intro a23 F23
    refine op_skip F23 (by kernel_rfl) rfl rfl rfl ?_; intro a24 F24
    refine op_skip F24 (by kernel_rfl) rfl rfl rfl ?_; intro a25 F25
    refine op_skip F25 (by kernel_rfl) rfl rfl rfl ?_; intro a26 F26
    refine op_skip F26 (by kernel_rfl) rfl rfl rfl ?_; intro a27 F27
    refine op_skip F27 (by kernel_rfl) rfl rfl rfl ?_; intro a28 F28
    refine op_p F28 (.bool false) (by kernel_rfl) rfl rfl rfl (by kernel_rfl) rfl ?_; intro a29 F29
    refine op_p F29 (.bool false) (by kernel_rfl) rfl rfl rfl (by kernel_rfl) rfl ?_; intro a30 F30
    refine wpList_nil ?_
    refine hK3 _ _ ?_; clear hK3 K3
    refine wp_ret ?_
    refine (F30.res1 rfl (v := .bool false) (by kernel_rfl) ?_).1
    exact ⟨(ret_bool (by unfold hasPreB; rw [hc10]; rfl)), S⟩
set_option maxRecDepth 100000 in
set_option maxHeartbeats 20000000 in
theorem chLower_any (s : ByteArray) (R : Ctx) (L : List SA) (w : World) (S : Sp R w (L))  (hs : s.size ≤ 1000000) (ha : ∀ j, bt0 s j ≤ 127) :
    Calls Try.prog 166 #[.string s] w fun e w' => e = .returned (.string (lowF s)) ∧ Sp R w' (L) := by
  refine fw_enter (fn := Try.f166) rfl rfl 29 rfl (Nat.le_of_ble_eq_true rfl) ?_
  intro a0 F0
  refine wp_seq_k fun K1 hK1 => ?_
  refine wp_region_lit ?_
  refine op_p F0 (.string ⟨#[]⟩) (by kernel_rfl) rfl rfl rfl (by kernel_rfl) rfl ?_; intro a2 F2
  refine wpList_nil ?_
  refine hK1 _ _ ?_; clear hK1 K1
  refine wp_seq_k fun K3 hK3 => ?_
  refine wp_region_lit ?_
  refine op_p F2 (.string s) (by kernel_rfl) rfl rfl rfl (by kernel_rfl) rfl ?_; intro a4 F4
  refine op_s F4 (s_bytes rfl Try.underlying9 Try.underlying148 Try.underlying5 (F4.ev (v := .string s) (by kernel_rfl)) S) rfl rfl rfl ?_
  rintro _ _ w6 ⟨g4, c4, rfl, rfl⟩ S6 a6 F6
  refine op_p F6 (.slice (some ⟨g4, 0, none⟩) s.size c4) (by kernel_rfl) rfl rfl rfl (by kernel_rfl) rfl ?_; intro a7 F7
  refine wpList_nil ?_
  refine hK3 _ _ ?_; clear hK3 K3
  refine wp_seq_k fun K8 hK8 => ?_
  refine wp_seq_k fun K9 hK9 => ?_
  refine wp_region_lit ?_
  refine op_p F7 (.slice (some ⟨g4, 0, none⟩) s.size c4) (by kernel_rfl) rfl rfl rfl (by kernel_rfl) rfl ?_; intro a10 F10
  refine op_p F10 (.int .i64 (↑s.size)) (by kernel_rfl) rfl rfl rfl (by kernel_rfl) rfl ?_; intro a11 F11
  refine op_p F11 (.int .i64 0) (by kernel_rfl) rfl rfl rfl (by kernel_rfl) rfl ?_; intro a12 F12
  refine wpList_nil ?_
  refine hK9 _ _ ?_; clear hK9 K9
  refine wp_block ?_
  refine fw_loop (fun m a' w' => ∃ b : ByteArray, ∃ k : Nat, s.size - k = m ∧ Fr 29 [] a' [(0, .string s), (2, .string ⟨#[]⟩), (3, .slice (some ⟨g4, 0, none⟩) s.size c4), (6, .string s), (7, .slice (some ⟨g4, 0, none⟩) s.size c4), (8, .slice (some ⟨g4, 0, none⟩) s.size c4), (9, .int .i64 (↑s.size)), (10, .int .i64 (↑k))] ∧ Sp R w' (SA.bb g4 5 b :: L) ∧ (k ≤ s.size) ∧ (b.size = s.size) ∧ (∀ j, j < k → bt0 b j = lowN (bt0 s j)) ∧ (∀ j, k ≤ j → bt0 b j = bt0 s j)) _ ⟨s, 0, rfl, (F12.k 0 (by kernel_rfl) (F12.k 2 (by kernel_rfl) (F12.k 3 (by kernel_rfl) (F12.k 6 (by kernel_rfl) (F12.k 7 (by kernel_rfl) (F12.k 8 (by kernel_rfl) (F12.k 9 (by kernel_rfl) (F12.k 10 (by kernel_rfl) F12.nil)))))))), S6, (by first | omega | (with_reducible assumption) | (simp; done)), rfl, (fun j hj => by omega), (fun _ _ => rfl)⟩ ?_
  rintro m13 a13 w13 ⟨b, k, hm13, F13, S13, hk, hbz, hb1, hb2⟩ K13 hK13
  by_cases hlt_k : k < s.size
  · have hc_k : decide ((↑k : Int) < ↑s.size) = true := by first | (simp; done) | (simp; omega)
    have hbk : bt0 b k = bt0 s k := hb2 k (Nat.le_refl _)
    have hak := ha k
    refine wp_seq_k fun K14 hK14 => ?_
    refine wp_region_lit ?_
    refine op_p F13 (.bool (decide ((↑k : Int) < ↑s.size))) (by kernel_rfl) rfl rfl rfl (by kernel_rfl) rfl ?_; intro a15 F15
    have F16 := F15.sb 11 (by kernel_rfl) hc_k
    refine wpList_nil ?_
    refine hK14 _ _ ?_; clear hK14 K14
    refine wp_seq_k fun K17 hK17 => ?_
    refine wp_cond_true (F16.ev (by kernel_rfl)) ?_
    refine wp_skip ?_
    refine hK17 _ _ ?_; clear hK17 K17
    refine wp_seq_k fun K18 hK18 => ?_
    refine wp_block ?_
    refine wp_seq_k fun K19 hK19 => ?_
    refine wp_region_lit ?_
    refine op_p F16 (.int .i64 (↑k)) (by kernel_rfl) rfl rfl rfl (by kernel_rfl) rfl ?_; intro a20 F20
    refine op_r (v := .pointer (some ⟨g4, k, none⟩)) F20 (r_ix rfl Try.underlying148 1 (by kernel_rfl) (F20.ev (v := .slice (some ⟨g4, 0, none⟩) s.size c4) (by kernel_rfl)) rfl (F20.ev (v := .int .i64 (↑k)) (by kernel_rfl)) k (by first | rfl | omega | simp) (by first | omega | (simp; done) | (simp; omega)) (by simp only [add_blk, Nat.mul_one])) rfl rfl rfl ?_; intro a21 F21
    refine op_r (v := .int .u8 (↑(bt0 s k))) F21 (r_ld rfl (F21.ev (v := .pointer (some ⟨g4, k, none⟩)) (by kernel_rfl)) (v := .int .u8 (↑(bt0 s k))) (bb_at (S13.bb 0 rfl) (by omega) hbk) Try.underlying5 rfl) rfl rfl rfl ?_; intro a22 F22
    refine op_p F22 (.int .i64 (↑k)) (by kernel_rfl) rfl rfl rfl (by kernel_rfl) rfl ?_; intro a23 F23
    refine op_p F23 (.int .u8 (↑(bt0 s k))) (by kernel_rfl) rfl rfl rfl (by kernel_rfl) rfl ?_; intro a24 F24
    refine wpList_nil ?_
    refine hK19 _ _ ?_; clear hK19 K19
    refine wp_seq_k fun K25 hK25 => ?_
    refine wp_region_lit ?_
    refine op_p F24 (.int .u8 (↑(bt0 s k))) (by kernel_rfl) rfl rfl rfl (by kernel_rfl) rfl ?_; intro a26 F26
    refine op_p F26 (.bool (decide ((65 : Int) ≤ ↑(bt0 s k)))) (by kernel_rfl) rfl rfl rfl (by kernel_rfl) rfl ?_; intro a27 F27
    refine op_p F27 (.bool (decide ((65 : Int) ≤ ↑(bt0 s k)))) (by kernel_rfl) rfl rfl rfl (by kernel_rfl) rfl ?_; intro a28 F28
    rcases btf (decide ((65 : Int) ≤ ↑(bt0 s k))) with hc29 | hc29
    · have hc29p := of_decide_eq_true hc29
      have F30 := F28.sb 16 (by kernel_rfl) hc29
      have F31 := F30.sb 17 (by kernel_rfl) hc29
      refine op_want F31 (by kernel_rfl) rfl ?_
      refine op_p F31 (.int .u8 (↑(bt0 s k))) (by kernel_rfl) rfl rfl rfl (by kernel_rfl) rfl ?_; intro a32 F32
      refine op_want F32 (by kernel_rfl) rfl ?_
      refine op_p F32 (.bool (decide ((↑(bt0 s k) : Int) ≤ 90))) (by kernel_rfl) rfl rfl rfl (by kernel_rfl) rfl ?_; intro a33 F33
      refine op_p F33 (.bool (decide ((↑(bt0 s k) : Int) ≤ 90))) (by kernel_rfl) rfl rfl rfl (by kernel_rfl) rfl ?_; intro a34 F34
      refine wpList_nil ?_
      refine hK25 _ _ ?_; clear hK25 K25
      rcases btf (decide ((↑(bt0 s k) : Int) ≤ 90)) with hc35 | hc35
      · have hc35p := of_decide_eq_true hc35
        have F36 := F34.sb 19 (by kernel_rfl) hc35
        have F37 := F36.sb 20 (by kernel_rfl) hc35
        refine wp_cond_true (F37.ev (by kernel_rfl)) ?_
        refine wp_region_lit ?_
        refine op_p F37 (.slice (some ⟨g4, 0, none⟩) s.size c4) (by kernel_rfl) rfl rfl rfl (by kernel_rfl) rfl ?_; intro a38 F38
        refine op_p F38 (.int .i64 (↑k)) (by kernel_rfl) rfl rfl rfl (by kernel_rfl) rfl ?_; intro a39 F39
        refine op_p F39 (.int .u8 (↑(bt0 s k))) (by kernel_rfl) rfl rfl rfl (by kernel_rfl) rfl ?_; intro a40 F40
        refine op_r (v := .int .u8 (↑(bt0 s k + 32))) F40 (r_add (z := ↑(bt0 s k + 32)) rfl (F40.ev (v := .int .u8 (↑(bt0 s k))) (by kernel_rfl)) (F40.ev (v := .int .u8 32) (by kernel_rfl)) (wru8 (by omega) (by omega) (by omega))) rfl rfl rfl ?_; intro a41 F41
        refine op_r (v := .pointer (some ⟨g4, k, none⟩)) F41 (r_ix rfl Try.underlying148 1 (by kernel_rfl) (F41.ev (v := .slice (some ⟨g4, 0, none⟩) s.size c4) (by kernel_rfl)) rfl (F41.ev (v := .int .i64 (↑k)) (by kernel_rfl)) k (by first | rfl | omega | simp) (by first | omega | (simp; done) | (simp; omega)) (by simp only [add_blk, Nat.mul_one])) rfl rfl rfl ?_; intro a42 F42
        have hcn : (UInt8.ofNat (bt0 s k + 32)).toNat = bt0 s k + 32 := UInt8.toNat_ofNat_of_lt' (by show _ < 256; omega)
        have hc : (UInt8.ofNat (bt0 s k + 32)).toNat = lowN (bt0 s k) := by rw [hcn]; unfold lowN; rw [if_pos (by omega)]
        refine op_s0 F42 (s_stbb rfl (F42.ev (v := .pointer (some ⟨g4, k, none⟩)) (by kernel_rfl)) (F42.ev (v := .int .u8 (↑(bt0 s k + 32))) (by kernel_rfl)) S13 (by kernel_rfl) (by omega) (UInt8.ofNat (bt0 s k + 32)) (by have := hcn; rw [this])) rfl rfl ?_
        rintro _ _ w43 rfl S43 F43
        refine wpList_nil ?_
        refine hK18 _ _ ?_; clear hK18 K18
        refine wp_region_lit ?_
        refine op_r (v := .int .i64 (↑(k + 1))) F43 (r_add (z := ↑(k + 1)) rfl (F43.ev (v := .int .i64 (↑k)) (by kernel_rfl)) (F43.ev (v := .int .i64 1) (by kernel_rfl)) (wr64 (by omega) (by omega) (by omega))) rfl rfl rfl ?_; intro a44 F44
        refine op_p F44 (.int .i64 (↑(k + 1))) (by kernel_rfl) rfl rfl rfl (by kernel_rfl) rfl ?_; intro a45 F45
        refine wpList_nil ?_
        exact hK13 _ _ _ (by first | omega | (simp; omega)) ⟨b.set k (UInt8.ofNat (bt0 s k + 32)) (by omega), k + 1, rfl, (F45.k 0 (by kernel_rfl) (F45.k 2 (by kernel_rfl) (F45.k 3 (by kernel_rfl) (F45.k 6 (by kernel_rfl) (F45.k 7 (by kernel_rfl) (F45.k 8 (by kernel_rfl) (F45.k 9 (by kernel_rfl) (F45.k 10 (by kernel_rfl) F45.nil)))))))), S43, (by first | omega | (with_reducible assumption) | (simp; done)), (by rw [set_size]; exact hbz), (low_put (by omega) hb1 hc), (fun j hj => by rw [bt0_set (by omega), if_neg (by omega)]; exact hb2 j (by omega))⟩
      · have hc35p := of_decide_eq_false hc35
        have F46 := F34.sb 19 (by kernel_rfl) hc35
        have F47 := F46.sb 20 (by kernel_rfl) hc35
        refine wp_cond_false (F47.ev (by kernel_rfl)) ?_
        refine wp_skip ?_
        refine hK18 _ _ ?_; clear hK18 K18
        refine wp_region_lit ?_
        refine op_r (v := .int .i64 (↑(k + 1))) F47 (r_add (z := ↑(k + 1)) rfl (F47.ev (v := .int .i64 (↑k)) (by kernel_rfl)) (F47.ev (v := .int .i64 1) (by kernel_rfl)) (wr64 (by omega) (by omega) (by omega))) rfl rfl rfl ?_; intro a48 F48
        refine op_p F48 (.int .i64 (↑(k + 1))) (by kernel_rfl) rfl rfl rfl (by kernel_rfl) rfl ?_; intro a49 F49
        refine wpList_nil ?_
        exact hK13 _ _ _ (by first | omega | (simp; omega)) ⟨b, k + 1, rfl, (F49.k 0 (by kernel_rfl) (F49.k 2 (by kernel_rfl) (F49.k 3 (by kernel_rfl) (F49.k 6 (by kernel_rfl) (F49.k 7 (by kernel_rfl) (F49.k 8 (by kernel_rfl) (F49.k 9 (by kernel_rfl) (F49.k 10 (by kernel_rfl) F49.nil)))))))), S13, (by first | omega | (with_reducible assumption) | (simp; done)), (by first | omega | (with_reducible assumption) | (simp; done)), (fun j hj => if e : j < k then hb1 j e else (by have e2 : j = k := (by omega); subst e2; rw [hbk]; unfold lowN; rw [if_neg (by omega)])), (fun j hj => hb2 j (by omega))⟩
    · have hc29p := of_decide_eq_false hc29
      have F50 := F28.sb 16 (by kernel_rfl) hc29
      have F51 := F50.sb 17 (by kernel_rfl) hc29
      refine op_skip F51 (by kernel_rfl) rfl rfl rfl ?_; intro a52 F52
      refine op_skip F52 (by kernel_rfl) rfl rfl rfl ?_; intro a53 F53
      refine op_p F53 (.bool false) (by kernel_rfl) rfl rfl rfl (by kernel_rfl) rfl ?_; intro a54 F54
      refine wpList_nil ?_
      refine hK25 _ _ ?_; clear hK25 K25
      refine wp_cond_false (F54.ev (by kernel_rfl)) ?_
      refine wp_skip ?_
      refine hK18 _ _ ?_; clear hK18 K18
      refine wp_region_lit ?_
      refine op_r (v := .int .i64 (↑(k + 1))) F54 (r_add (z := ↑(k + 1)) rfl (F54.ev (v := .int .i64 (↑k)) (by kernel_rfl)) (F54.ev (v := .int .i64 1) (by kernel_rfl)) (wr64 (by omega) (by omega) (by omega))) rfl rfl rfl ?_; intro a55 F55
      refine op_p F55 (.int .i64 (↑(k + 1))) (by kernel_rfl) rfl rfl rfl (by kernel_rfl) rfl ?_; intro a56 F56
      refine wpList_nil ?_
      exact hK13 _ _ _ (by first | omega | (simp; omega)) ⟨b, k + 1, rfl, (F56.k 0 (by kernel_rfl) (F56.k 2 (by kernel_rfl) (F56.k 3 (by kernel_rfl) (F56.k 6 (by kernel_rfl) (F56.k 7 (by kernel_rfl) (F56.k 8 (by kernel_rfl) (F56.k 9 (by kernel_rfl) (F56.k 10 (by kernel_rfl) F56.nil)))))))), S13, (by first | omega | (with_reducible assumption) | (simp; done)), (by first | omega | (with_reducible assumption) | (simp; done)), (fun j hj => if e : j < k then hb1 j e else (by have e2 : j = k := (by omega); subst e2; rw [hbk]; unfold lowN; rw [if_neg (by omega)])), (fun j hj => hb2 j (by omega))⟩
  · have hc_k : decide ((↑k : Int) < ↑s.size) = false := by first | (simp; done) | (simp; omega)
    have hlb : b = lowF s := eq_of_bt0 (by rw [lowF_size]; exact hbz) (fun j hj => by rw [lowF_bt _ (by omega)]; exact hb1 j (by omega))
    refine wp_seq_k fun K57 hK57 => ?_
    refine wp_region_lit ?_
    refine op_p F13 (.bool (decide ((↑k : Int) < ↑s.size))) (by kernel_rfl) rfl rfl rfl (by kernel_rfl) rfl ?_; intro a58 F58
    have F59 := F58.sb 11 (by kernel_rfl) hc_k
    refine wpList_nil ?_
    refine hK57 _ _ ?_; clear hK57 K57
    refine wp_seq_k fun K60 hK60 => ?_
    refine wp_cond_false (F59.ev (by kernel_rfl)) ?_
    refine wp_exit ?_
    refine ex_then ?_; clear hK60 K60
    refine ex_then ?_
    refine ex_in ?_
    refine hK8 _ _ ?_; clear hK8 K8
    refine wp_seq_k fun K61 hK61 => ?_
    refine wp_region_lit ?_
    refine op_p F59 (.slice (some ⟨g4, 0, none⟩) s.size c4) (by kernel_rfl) rfl rfl rfl (by kernel_rfl) rfl ?_; intro a62 F62
    refine op_r (v := .string b) F62 (r_bb2s rfl Try.underlying148 Try.underlying5 Try.underlying9 (S13.bb 0 rfl) (F62.ev (v := .slice (some ⟨g4, 0, none⟩) s.size c4) (by kernel_rfl)) (by first | rfl | omega) (by omega)) rfl rfl rfl ?_; intro a63 F63
    refine op_p F63 (.string b) (by kernel_rfl) rfl rfl rfl (by kernel_rfl) rfl ?_; intro a64 F64
    refine wpList_nil ?_
    refine hK61 _ _ ?_; clear hK61 K61
    refine wp_ret ?_
    refine (F64.res1 rfl (v := .string b) (by kernel_rfl) ?_).1
    exact ⟨(ret_str hlb), S13.drop⟩
end Go.Proofs.Ytkjcedlgljeoiaa
