/- Texts Lc3, V1, V2, V3, V4, Lc4, Lc5, N5, X1, X3, X4, X5, Lw, Pn1, laid together. -/
import Derived.WalkKit
import Derived.WalkLawsBesides
import Derived.WalkSpells
import Derived.Lib.Hide
import Derived.Deep.RegionWith
import Derived.Deep.DeepCutAuto
import Derived.Deep.QuietTactic
import Derived.BigQuiet
import Derived.Laws.OwnMore
import Derived.Deep.LoopGhost
import Derived.KernelRfl
import Derived.Deep.WholeRow
import Derived.StillTail
import Derived.SliceStrings
import Derived.Deep.Slices
import Derived.Deep.Fields
import Derived.ChangeSame
import Derived.Deep.MidRow
import Derived.Maps.AppendAt
import Derived.Lib.AppendStr
import Derived.Lib.ConvBytes
import Derived.Laws.BytesArg
import Derived.Deep.RegionLaw
import Derived.OwnWalk
import Derived.Maps.OwnSet
import Derived.Maps.OwnOps
import Derived.ArgAppend
import Derived.Defers
import Derived.Recover
import Derived.Laws.Pointers
import Derived.Laws.StructEq
import Derived.IntWalk
import Derived.Test.YtkjcedlgljeoiaaProg
import Derived.BigRegion
import Derived.Deep.CutBlock
import Derived.Test.YtkjcedlgljeoiaaLCb
/- plain.Base. -/
namespace Go.Proofs.Ytkjcedlgljeoiaa
open Go.RowKit Go.Lib
set_option linter.unusedVariables false
set_option linter.unusedSimpArgs false
def slB (s : ByteArray) : Bool := s.data.toList.any fun c => c == 47
theorem slB_at {s : ByteArray} {j : Nat} (h : j < s.size) (e : s[j].toNat = 47) : slB s = true := by
  unfold slB
  rw [List.any_eq_true]
  exact ⟨s[j], Array.mem_toList_iff.2 (Array.getElem_mem _), by have e2 : s[j] = 47 := UInt8.toNat_inj.1 e; rw [e2]; rfl⟩
theorem slB_ex {s : ByteArray} (h : slB s = true) : ∃ j, ∃ h : j < s.size, s[j].toNat = 47 := by
  unfold slB at h
  rw [List.any_eq_true] at h
  obtain ⟨c, hc, e⟩ := h
  obtain ⟨j, hj, rfl⟩ := List.mem_iff_getElem.1 hc
  have e := eq_of_beq e
  have hj2 : j < s.size := by simpa using hj
  have : s[j] = s.data.toList[j] := rfl
  exact ⟨j, hj2, by rw [this, e]; rfl⟩
theorem ext_full (s : ByteArray) : s = s.extract 0 s.size := by
  apply ByteArray.ext
  rw [ByteArray.data_extract]
  exact Array.extract_size.symm
theorem base_st {s b : ByteArray} {k : Nat} (hb : b = s.extract 0 k) (hk : k ≤ s.size) (h0 : 0 < b.size) (h : b.size - 1 < b.size) (e : b[b.size - 1].toNat = 47) (hsl : ∀ j, ∀ h : j < s.size, k ≤ j → s[j].toNat = 47) :
    b.extract 0 (b.size - 1) = s.extract 0 (k - 1) ∧ ∀ j, ∀ h : j < s.size, k - 1 ≤ j → s[j].toNat = 47 := by
  subst hb
  have hz : (s.extract 0 k).size = k := by simp; omega
  have hk0 : 0 < k := by omega
  refine ⟨?_, fun j hj hkj => ?_⟩
  · rw [ByteArray.extract_extract]; simp; congr 1; omega
  · by_cases e2 : k ≤ j
    · exact hsl j hj e2
    · have : j = k - 1 := by omega
      subst this
      rw [ByteArray.getElem_extract] at e
      simp only [hz, Nat.zero_add] at e
      exact e
/-- What the last element of a path is, against the path. -/
theorem base_fin {s b r o : ByteArray} {k p : Nat} (hs : 0 < s.size) (hb : b = s.extract 0 k) (hk : k ≤ s.size) (hsl : ∀ j, ∀ h : j < s.size, k ≤ j → s[j].toNat = 47) (hx : b.size = 0 ∨ ∃ h : b.size - 1 < b.size, b[b.size - 1].toNat ≠ 47)
    (hp : p ≤ b.size) (hq : p = 0 ∨ ∃ h : p - 1 < b.size, b[p - 1].toNat = 47) (hno : ∀ j, ∀ h : j < b.size, p ≤ j → b[j].toNat ≠ 47) (hr : r = b.extract p b.size) (ho : (r.size = 0 ∧ o = ⟨#[47]⟩) ∨ (0 < r.size ∧ o = r)) :
    (o.toList == s.toList) = (!slB s || (s.toList == (⟨#[47]⟩ : ByteArray).toList)) := by
  have hz : b.size = k := by rw [hb]; simp; omega
  have hbj : ∀ j, ∀ h : j < b.size, ∃ h2 : j < s.size, b[j] = s[j] := fun j h => ⟨by omega, by subst hb; rw [ByteArray.getElem_extract]; simp⟩
  cases hsb : slB s with
  | false =>
    have hne : ∀ j, ∀ h : j < s.size, s[j].toNat ≠ 47 := fun j h e => by rw [slB_at h e] at hsb; cases hsb
    have hkz : k = s.size := by
      rcases Nat.lt_or_ge k s.size with h | h
      · exact absurd (hsl k h (Nat.le_refl _)) (hne k h)
      · omega
    have hp0 : p = 0 := hq.resolve_right fun ⟨h, e⟩ => by
      obtain ⟨h2, e2⟩ := hbj (p - 1) h
      rw [e2] at e
      exact hne _ h2 e
    have hbs : b = s := by rw [hb, hkz]; exact (ext_full s).symm
    have hrs : r = s := by rw [hr, hp0, hbs]; exact (ext_full s).symm
    have : o = s := by
      rcases ho with ⟨h1, _⟩ | ⟨_, h1⟩
      · rw [hrs] at h1; omega
      · rw [h1, hrs]
    rw [this, beq_self_eq_true]; rfl
  | true =>
    rw [Bool.not_true, Bool.false_or]
    rcases ho with ⟨h1, h2⟩ | ⟨h1, h2⟩
    · rw [h2]; exact Bool.eq_iff_iff.2 (by rw [beq_iff_eq, beq_iff_eq]; exact ⟨Eq.symm, Eq.symm⟩)
    · have hrn : slB r = false := by
        cases hc : slB r with
        | false => rfl
        | true =>
          obtain ⟨j, hj, e⟩ := slB_ex hc
          subst hr
          have hj2 : j < b.size - p := by simpa using hj
          rw [ByteArray.getElem_extract] at e
          exact absurd e (hno (p + j) (by omega) (by omega))
      have e1 : (o.toList == s.toList) = false := by
        apply Bool.eq_false_iff.2
        intro e
        rw [h2] at e
        rw [bytes_eqL e, hsb] at hrn; cases hrn
      have e2 : (s.toList == (⟨#[47]⟩ : ByteArray).toList) = false := by
        apply Bool.eq_false_iff.2
        intro e
        have e := bytes_eqL e
        have hs1 : s.size = 1 := by rw [e]; rfl
        have hrz : r.size = b.size - p := by rw [hr]; simp
        rcases hx with hx | ⟨h3, h4⟩
        · omega
        · apply h4
          obtain ⟨h5, h6⟩ := hbj (b.size - 1) h3
          rw [h6]
          subst e
          have : b.size - 1 = 0 := by omega
          simp only [this]
          rfl
      rw [e1, e2]
set_option maxRecDepth 100000 in
set_option maxHeartbeats 20000000 in
theorem base_any (s : ByteArray) (R : Ctx) (L : List SA) (w : World) (S : Sp R w (L))  (hs : 0 < s.size) (hz : s.size ≤ 1000000) :
    Calls Try.prog 176 #[.string s] w fun e w' => ∃ o : ByteArray, e = .returned (.string o) ∧ Sp R w' (L) ∧ ((o.toList == s.toList) = (!slB s || (s.toList == (⟨#[47]⟩ : ByteArray).toList))) := by
  refine fw_enter (fn := Try.f176) rfl rfl 44 rfl (Nat.le_of_ble_eq_true rfl) ?_
  intro a0 F0
  refine wp_seq_k fun K1 hK1 => ?_
  refine wp_region_lit ?_
  refine op_q F0 (.string ⟨#[]⟩) ?_; intro a2 F2
  refine wpList_nil ?_
  refine hK1 _ _ ?_; clear hK1 K1
  refine wp_seq_k fun K3 hK3 => ?_
  refine wp_seq_k fun K4 hK4 => ?_
  refine wp_region_lit ?_
  refine op_q F2 (.string s) ?_; intro a5 F5
  refine op_q F5 (.bool (s.toList == (⟨#[]⟩ : ByteArray).toList)) ?_; intro a6 F6
  refine wpList_nil ?_
  refine hK4 _ _ ?_; clear hK4 K4
  have hc7 : (s.toList == (⟨#[]⟩ : ByteArray).toList) = false := (emp_no hs)
  have F8 := F6.sb 5 (by kernel_rfl) hc7
  refine wp_cond_false (F8.ev (by kernel_rfl)) ?_
  refine wp_skip ?_
  refine hK3 _ _ ?_; clear hK3 K3
  refine fw_cut (fun a' w' => ∃ b : ByteArray, ∃ k : Nat, Fr 44 [] a' [(0, .string b), (2, .string ⟨#[]⟩)] ∧ Sp R w' (L) ∧ (b = s.extract 0 k) ∧ (k ≤ s.size) ∧ (∀ j, ∀ h : j < s.size, k ≤ j → s[j].toNat = 47) ∧ (b.size ≤ 1000000) ∧ (b.size = 0 ∨ ∃ h : b.size - 1 < b.size, b[b.size - 1].toNat ≠ 47)) ?_ ?_
  · intro K9 hK9
    refine wp_block ?_
    refine fw_loop (fun m' a' w' => ∃ b : ByteArray, ∃ k : Nat, b.size = m' ∧ Fr 44 [] a' [(0, .string b), (2, .string ⟨#[]⟩)] ∧ Sp R w' (L) ∧ (b = s.extract 0 k) ∧ (k ≤ s.size) ∧ (∀ j, ∀ h : j < s.size, k ≤ j → s[j].toNat = 47) ∧ (b.size ≤ 1000000)) _ ⟨s, s.size, rfl, (F8.kk 0 (F8.kk 2 F8.nil)), S, (ext_full s), (Nat.le_refl _), (fun j h hk => absurd h (by omega)), (by first | omega | (with_reducible assumption) | (simp; done))⟩ ?_
    rintro m10 a10 w10 ⟨b, k, hm10, F10, S10, hb, hk, hsl, hbz⟩ K10 hK10
    refine wp_seq_k fun K11 hK11 => ?_
    refine wp_seq_k fun K12 hK12 => ?_
    refine wp_region_lit ?_
    refine op_q F10 (.string b) ?_; intro a13 F13
    refine op_q F13 (.int .i64 (↑b.size)) ?_; intro a14 F14
    refine op_q F14 (.bool (decide ((0 : Int) < ↑b.size))) ?_; intro a15 F15
    refine op_q F15 (.bool (decide ((0 : Int) < ↑b.size))) ?_; intro a16 F16
    rcases btf (decide ((0 : Int) < ↑b.size)) with hc17 | hc17
    · have hc17p := of_decide_eq_true hc17
      have F18 := F16.sb 8 (by kernel_rfl) hc17
      have F19 := F18.sb 9 (by kernel_rfl) hc17
      refine op_wq F19 ?_
      refine op_q F19 (.string b) ?_; intro a20 F20
      refine op_wq F20 ?_
      refine op_q F20 (.string b) ?_; intro a21 F21
      refine op_wq F21 ?_
      refine op_q F21 (.int .i64 (↑b.size)) ?_; intro a22 F22
      refine op_wq F22 ?_
      refine op_rq (v := .int .i64 (↑b.size - 1)) F22 (r_sub (z := (↑b.size - 1)) rfl (F22.e (.int .i64 (↑b.size))) (F22.e (.int .i64 1)) (wr64 (by omega) (by omega) (by omega))) ?_; intro a23 F23
      refine op_wq F23 ?_
      refine op_rq (v := .int .u8 (↑b[b.size - 1].toNat)) F23 (r_index rfl Try.underlying9 (F23.e (.string b)) (F23.e (.int .i64 (↑b.size - 1))) (b.size - 1) (by first | rfl | omega | simp) (by first | omega | (simp; done) | (simp; omega))) ?_; intro a24 F24
      refine op_wq F24 ?_
      refine op_q F24 (.bool ((↑b[b.size - 1].toNat : Int) == 47)) ?_; intro a25 F25
      refine op_q F25 (.bool ((↑b[b.size - 1].toNat : Int) == 47)) ?_; intro a26 F26
      refine wpList_nil ?_
      refine hK12 _ _ ?_; clear hK12 K12
      rcases btf ((↑b[b.size - 1].toNat : Int) == 47) with hc27 | hc27
      · have hc27p := eq_of_beq hc27
        have F28 := F26.sb 15 (by kernel_rfl) hc27
        have F29 := F28.sb 16 (by kernel_rfl) hc27
        refine wp_cond_true (F29.ev (by kernel_rfl)) ?_
        refine wp_skip ?_
        refine hK11 _ _ ?_; clear hK11 K11
        refine wp_block ?_
        refine wp_region_lit ?_
        refine op_q F29 (.string b) ?_; intro a30 F30
        refine op_q F30 (.string b) ?_; intro a31 F31
        refine op_q F31 (.int .i64 (↑b.size)) ?_; intro a32 F32
        refine op_rq (v := .int .i64 (↑b.size - 1)) F32 (r_sub (z := (↑b.size - 1)) rfl (F32.e (.int .i64 (↑b.size))) (F32.e (.int .i64 1)) (wr64 (by omega) (by omega) (by omega))) ?_; intro a33 F33
        refine op_rq (v := .string (b.extract 0 (b.size - 1))) F33 (r_sllh rfl Try.underlying9 (F33.e (.string b)) (F33.e (.int .i64 0)) (F33.e (.int .i64 (↑b.size - 1)))  0 (b.size - 1) (by first | rfl | omega | (simp; done) | (simp; omega)) (by first | omega | (simp; done) | (simp; omega)) (rfl)) ?_; intro a34 F34
        refine op_q F34 (.string (b.extract 0 (b.size - 1))) ?_; intro a35 F35
        refine wpList_nil ?_
        have hst := base_st hb hk (by omega) (by omega) (by omega) hsl
        exact hK10 _ _ _ (by first | omega | (simp; omega)) ⟨b.extract 0 (b.size - 1), k - 1, rfl, (F35.kk 0 (F35.kk 2 F35.nil)), S10, hst.1, (by omega), hst.2, (by simp; omega)⟩
      · have hc27p := ne_of_beq_false hc27
        have F36 := F26.sb 15 (by kernel_rfl) hc27
        have F37 := F36.sb 16 (by kernel_rfl) hc27
        refine wp_cond_false (F37.ev (by kernel_rfl)) ?_
        refine wp_exit ?_
        refine ex_then ?_; clear hK11 K11
        refine ex_then ?_
        refine ex_in ?_
        exact hK9 _ _ ⟨b, k, (F37.kk 0 (F37.kk 2 F37.nil)), S10, (by first | omega | (with_reducible assumption) | (simp; done)), (by first | omega | (with_reducible assumption) | (simp; done)), (by first | omega | (with_reducible assumption) | (simp; done)), (by first | omega | (with_reducible assumption) | (simp; done)), (.inr ⟨by omega, by omega⟩)⟩
    · have hc17p := of_decide_eq_false hc17
      have F38 := F16.sb 8 (by kernel_rfl) hc17
      have F39 := F38.sb 9 (by kernel_rfl) hc17
      refine op_kq F39 ?_; intro a40 F40
      refine op_kq F40 ?_; intro a41 F41
      refine op_kq F41 ?_; intro a42 F42
      refine op_kq F42 ?_; intro a43 F43
      refine op_kq F43 ?_; intro a44 F44
      refine op_kq F44 ?_; intro a45 F45
      refine op_q F45 (.bool false) ?_; intro a46 F46
      refine wpList_nil ?_
      refine hK12 _ _ ?_; clear hK12 K12
      refine wp_cond_false (F46.ev (by kernel_rfl)) ?_
      refine wp_exit ?_
      refine ex_then ?_; clear hK11 K11
      refine ex_then ?_
      refine ex_in ?_
      exact hK9 _ _ ⟨b, k, (F46.kk 0 (F46.kk 2 F46.nil)), S10, (by first | omega | (with_reducible assumption) | (simp; done)), (by first | omega | (with_reducible assumption) | (simp; done)), (by first | omega | (with_reducible assumption) | (simp; done)), (by first | omega | (with_reducible assumption) | (simp; done)), (.inl (by omega))⟩
  · rintro a47 w47 ⟨b, k, F47, S47, hb, hk, hsl, hbz, hx⟩
    refine wp_seq_k fun K48 hK48 => ?_
    refine wp_region_lit ?_
    refine op_q F47 (.string b) ?_; intro a49 F49
    refine op_q F49 (.int .i64 (↑b.size)) ?_; intro a50 F50
    refine op_rq (v := .int .i64 (↑b.size - 1)) F50 (r_sub (z := (↑b.size - 1)) rfl (F50.e (.int .i64 (↑b.size))) (F50.e (.int .i64 1)) (wr64 (by omega) (by omega) (by omega))) ?_; intro a51 F51
    refine op_q F51 (.int .i64 (↑b.size - 1)) ?_; intro a52 F52
    refine wpList_nil ?_
    refine hK48 _ _ ?_; clear hK48 K48
    refine fw_cut (fun a' w' => ∃ p : Nat, Fr 44 [] a' [(0, .string b), (2, .string ⟨#[]⟩), (3, .int .i64 (↑p - 1))] ∧ Sp R w' (L) ∧ (p ≤ b.size) ∧ (∀ j, ∀ h : j < b.size, p ≤ j → b[j].toNat ≠ 47) ∧ (p = 0 ∨ ∃ h : p - 1 < b.size, b[p - 1].toNat = 47)) ?_ ?_
    · intro K53 hK53
      refine wp_block ?_
      refine fw_loop (fun m' a' w' => ∃ p : Nat, p = m' ∧ Fr 44 [] a' [(0, .string b), (2, .string ⟨#[]⟩), (3, .int .i64 (↑p - 1))] ∧ Sp R w' (L) ∧ (p ≤ b.size) ∧ (∀ j, ∀ h : j < b.size, p ≤ j → b[j].toNat ≠ 47)) _ ⟨b.size, rfl, (F52.kk 0 (F52.kk 2 (F52.kk 3 F52.nil))), S47, (by first | omega | (with_reducible assumption) | (simp; done)), (fun j h hp => absurd h (by omega))⟩ ?_
      rintro m54 a54 w54 ⟨p, hm54, F54, S54, hp, hno⟩ K54 hK54
      refine wp_seq_k fun K55 hK55 => ?_
      refine wp_seq_k fun K56 hK56 => ?_
      refine wp_region_lit ?_
      refine op_q F54 (.int .i64 (↑p - 1)) ?_; intro a57 F57
      refine op_q F57 (.bool (decide ((0 : Int) ≤ (↑p - 1)))) ?_; intro a58 F58
      refine op_q F58 (.bool (decide ((0 : Int) ≤ (↑p - 1)))) ?_; intro a59 F59
      rcases btf (decide ((0 : Int) ≤ (↑p - 1))) with hc60 | hc60
      · have hp1 : 1 ≤ p := by have := of_decide_eq_true hc60; omega
        have F61 := F59.sb 26 (by kernel_rfl) hc60
        have F62 := F61.sb 27 (by kernel_rfl) hc60
        refine op_wq F62 ?_
        refine op_q F62 (.string b) ?_; intro a63 F63
        refine op_wq F63 ?_
        refine op_q F63 (.int .i64 (↑p - 1)) ?_; intro a64 F64
        refine op_wq F64 ?_
        refine op_rq (v := .int .u8 (↑b[p - 1].toNat)) F64 (r_index rfl Try.underlying9 (F64.e (.string b)) (F64.e (.int .i64 (↑p - 1))) (p - 1) (by first | rfl | omega | simp) (by first | omega | (simp; done) | (simp; omega))) ?_; intro a65 F65
        refine op_wq F65 ?_
        refine op_q F65 (.bool (!((↑b[p - 1].toNat : Int) == 47))) ?_; intro a66 F66
        refine op_q F66 (.bool (!((↑b[p - 1].toNat : Int) == 47))) ?_; intro a67 F67
        refine wpList_nil ?_
        refine hK56 _ _ ?_; clear hK56 K56
        rcases btf ((↑b[p - 1].toNat : Int) == 47) with hc68 | hc68
        · have hc68p := eq_of_beq hc68
          have F69 := F67.sb 31 (by kernel_rfl) (show (!((↑b[p - 1].toNat : Int) == 47)) = false by rw [hc68]; rfl)
          have F70 := F69.sb 32 (by kernel_rfl) (show (!((↑b[p - 1].toNat : Int) == 47)) = false by rw [hc68]; rfl)
          refine wp_cond_false (F70.ev (by kernel_rfl)) ?_
          refine wp_exit ?_
          refine ex_then ?_; clear hK55 K55
          refine ex_then ?_
          refine ex_in ?_
          exact hK53 _ _ ⟨p, (F70.kk 0 (F70.kk 2 (F70.kk 3 F70.nil))), S54, (by first | omega | (with_reducible assumption) | (simp; done)), (by first | omega | (with_reducible assumption) | (simp; done)), (.inr ⟨by omega, by omega⟩)⟩
        · have hc68p := ne_of_beq_false hc68
          have F71 := F67.sb 31 (by kernel_rfl) (show (!((↑b[p - 1].toNat : Int) == 47)) = true by rw [hc68]; rfl)
          have F72 := F71.sb 32 (by kernel_rfl) (show (!((↑b[p - 1].toNat : Int) == 47)) = true by rw [hc68]; rfl)
          refine wp_cond_true (F72.ev (by kernel_rfl)) ?_
          refine wp_skip ?_
          refine hK55 _ _ ?_; clear hK55 K55
          refine wp_block ?_
          refine wp_region_lit ?_
          refine op_q F72 (.int .i64 (↑p - 1)) ?_; intro a73 F73
          refine op_rq (v := .int .i64 (↑(p - 1) - 1)) F73 (r_sub (z := (↑(p - 1) - 1)) rfl (F73.e (.int .i64 (↑p - 1))) (F73.e (.int .i64 1)) (wr64 (by omega) (by omega) (by omega))) ?_; intro a74 F74
          refine op_q F74 (.int .i64 (↑(p - 1) - 1)) ?_; intro a75 F75
          refine wpList_nil ?_
          exact hK54 _ _ _ (by first | omega | (simp; omega)) ⟨p - 1, rfl, (F75.kk 0 (F75.kk 2 (F75.kk 3 F75.nil))), S54, (by omega), (fun j h hp1 => if e : p ≤ j then hno j h e else (by have e2 : j = p - 1 := (by omega); subst e2; omega))⟩
      · have hp1 : p = 0 := by have := of_decide_eq_false hc60; omega
        have F76 := F59.sb 26 (by kernel_rfl) hc60
        have F77 := F76.sb 27 (by kernel_rfl) hc60
        refine op_kq F77 ?_; intro a78 F78
        refine op_kq F78 ?_; intro a79 F79
        refine op_kq F79 ?_; intro a80 F80
        refine op_kq F80 ?_; intro a81 F81
        refine op_q F81 (.bool false) ?_; intro a82 F82
        refine wpList_nil ?_
        refine hK56 _ _ ?_; clear hK56 K56
        refine wp_cond_false (F82.ev (by kernel_rfl)) ?_
        refine wp_exit ?_
        refine ex_then ?_; clear hK55 K55
        refine ex_then ?_
        refine ex_in ?_
        exact hK53 _ _ ⟨p, (F82.kk 0 (F82.kk 2 (F82.kk 3 F82.nil))), S54, (by first | omega | (with_reducible assumption) | (simp; done)), (by first | omega | (with_reducible assumption) | (simp; done)), (.inl hp1)⟩
    · rintro a83 w83 ⟨p, F83, S83, hp, hno, hq⟩
      refine wp_seq_k fun K84 hK84 => ?_
      refine wp_seq_k fun K85 hK85 => ?_
      refine wp_region_lit ?_
      refine op_q F83 (.int .i64 (↑p - 1)) ?_; intro a86 F86
      refine op_q F86 (.bool (decide ((0 : Int) ≤ (↑p - 1)))) ?_; intro a87 F87
      refine wpList_nil ?_
      refine hK85 _ _ ?_; clear hK85 K85
      rcases btf (decide ((0 : Int) ≤ (↑p - 1))) with hc88 | hc88
      · have hp1 : 1 ≤ p := by have := of_decide_eq_true hc88; omega
        have F89 := F87.sb 36 (by kernel_rfl) hc88
        refine wp_cond_true (F89.ev (by kernel_rfl)) ?_
        refine wp_region_lit ?_
        refine op_q F89 (.string b) ?_; intro a90 F90
        refine op_q F90 (.int .i64 (↑p - 1)) ?_; intro a91 F91
        refine op_rq (v := .int .i64 (↑p)) F91 (r_add (z := ↑p) rfl (F91.e (.int .i64 (↑p - 1))) (F91.e (.int .i64 1)) (wr64 (by omega) (by omega) (by omega))) ?_; intro a92 F92
        refine op_rq (v := .string (b.extract p b.size)) F92 (r_sll rfl Try.underlying9 (F92.e (.string b)) (F92.e (.int .i64 (↑p)))  p b.size (by first | rfl | omega | (simp; done) | (simp; omega)) (by first | omega | (simp; done) | (simp; omega)) (rfl)) ?_; intro a93 F93
        refine op_q F93 (.string (b.extract p b.size)) ?_; intro a94 F94
        refine wpList_nil ?_
        refine hK84 _ _ ?_; clear hK84 K84
        refine wp_seq_k fun K95 hK95 => ?_
        refine wp_seq_k fun K96 hK96 => ?_
        refine wp_region_lit ?_
        refine op_q F94 (.string (b.extract p b.size)) ?_; intro a97 F97
        refine op_q F97 (.bool ((b.extract p b.size).toList == (⟨#[]⟩ : ByteArray).toList)) ?_; intro a98 F98
        refine wpList_nil ?_
        refine hK96 _ _ ?_; clear hK96 K96
        rcases btf ((b.extract p b.size).toList == (⟨#[]⟩ : ByteArray).toList) with hc99 | hc99
        · have F100 := F98.sb 42 (by kernel_rfl) hc99
          refine wp_cond_true (F100.ev (by kernel_rfl)) ?_
          refine wp_seq_k fun K101 hK101 => ?_
          refine wp_region_lit ?_
          refine op_q F100 (.string ⟨#[47]⟩) ?_; intro a102 F102
          refine wpList_nil ?_
          refine hK101 _ _ ?_; clear hK101 K101
          refine wp_ret ?_
          refine ret_then ?_
          refine (F102.res1 rfl (v := .string ⟨#[47]⟩) (by kernel_rfl) ?_).1
          exact ⟨(⟨#[47]⟩ : ByteArray), rfl, S83, (base_fin (r := b.extract p b.size) hs hb hk hsl hx hp (.inr ⟨by omega, by omega⟩) hno rfl (.inl ⟨emp_sz hc99, rfl⟩))⟩
        · have F103 := F98.sb 42 (by kernel_rfl) hc99
          refine wp_cond_false (F103.ev (by kernel_rfl)) ?_
          refine wp_skip ?_
          refine hK95 _ _ ?_; clear hK95 K95
          refine wp_seq_k fun K104 hK104 => ?_
          refine wp_region_lit ?_
          refine op_q F103 (.string (b.extract p b.size)) ?_; intro a105 F105
          refine op_q F105 (.string (b.extract p b.size)) ?_; intro a106 F106
          refine wpList_nil ?_
          refine hK104 _ _ ?_; clear hK104 K104
          refine wp_ret ?_
          refine (F106.res1 rfl (v := .string (b.extract p b.size)) (by kernel_rfl) ?_).1
          exact ⟨(b.extract p b.size), rfl, S83, (base_fin (r := b.extract p b.size) hs hb hk hsl hx hp (.inr ⟨by omega, by omega⟩) hno rfl (.inr ⟨emp_pos hc99, rfl⟩))⟩
      · have hp1 : p = 0 := by have := of_decide_eq_false hc88; omega
        have F107 := F87.sb 36 (by kernel_rfl) hc88
        refine wp_cond_false (F107.ev (by kernel_rfl)) ?_
        refine wp_skip ?_
        refine hK84 _ _ ?_; clear hK84 K84
        refine wp_seq_k fun K108 hK108 => ?_
        refine wp_seq_k fun K109 hK109 => ?_
        refine wp_region_lit ?_
        refine op_q F107 (.string b) ?_; intro a110 F110
        refine op_q F110 (.bool (b.toList == (⟨#[]⟩ : ByteArray).toList)) ?_; intro a111 F111
        refine wpList_nil ?_
        refine hK109 _ _ ?_; clear hK109 K109
        rcases btf (b.toList == (⟨#[]⟩ : ByteArray).toList) with hc112 | hc112
        · have F113 := F111.sb 42 (by kernel_rfl) hc112
          refine wp_cond_true (F113.ev (by kernel_rfl)) ?_
          refine wp_seq_k fun K114 hK114 => ?_
          refine wp_region_lit ?_
          refine op_q F113 (.string ⟨#[47]⟩) ?_; intro a115 F115
          refine wpList_nil ?_
          refine hK114 _ _ ?_; clear hK114 K114
          refine wp_ret ?_
          refine ret_then ?_
          refine (F115.res1 rfl (v := .string ⟨#[47]⟩) (by kernel_rfl) ?_).1
          exact ⟨(⟨#[47]⟩ : ByteArray), rfl, S83, (base_fin (r := b) hs hb hk hsl hx hp (.inl hp1) hno (by rw [hp1]; exact ext_full b) (.inl ⟨emp_sz hc112, rfl⟩))⟩
        · have F116 := F111.sb 42 (by kernel_rfl) hc112
          refine wp_cond_false (F116.ev (by kernel_rfl)) ?_
          refine wp_skip ?_
          refine hK108 _ _ ?_; clear hK108 K108
          refine wp_seq_k fun K117 hK117 => ?_
          refine wp_region_lit ?_
          refine op_q F116 (.string b) ?_; intro a118 F118
          refine op_q F118 (.string b) ?_; intro a119 F119
          refine wpList_nil ?_
          refine hK117 _ _ ?_; clear hK117 K117
          refine wp_ret ?_
          refine (F119.res1 rfl (v := .string b) (by kernel_rfl) ?_).1
          exact ⟨b, rfl, S83, (base_fin (r := b) hs hb hk hsl hx hp (.inl hp1) hno (by rw [hp1]; exact ext_full b) (.inr ⟨emp_pos hc112, rfl⟩))⟩
end Go.Proofs.Ytkjcedlgljeoiaa

/- Contract: spec.ChNumbers. -/
namespace Go.Proofs.Ytkjcedlgljeoiaa
open Go.RowKit Go.Lib
set_option linter.unusedVariables false
set_option linter.unusedSimpArgs false

/-- Three numbers as an array's cells. -/
def nC (l : List Int) : Array Value := (l.map (Value.int .i64)).toArray
/-- The numbers that are known so far. -/
def clF (l : List Nat) : List Int := l.map (fun n : Nat => (n : Int)) ++ List.replicate (3 - l.length) 0
theorem clF_len {l : List Nat} (h : l.length ≤ 3) : (clF l).length = 3 := by simp [clF]; omega
theorem clF_set {l : List Nat} {v : Nat} (h : l.length < 3) : (clF l).set l.length (v : Int) = clF (l ++ [v]) := by
  unfold clF
  have e : 3 - l.length = (3 - (l ++ [v]).length) + 1 := by simp; omega
  rw [e, List.replicate_succ, List.set_append_right _ _ (by simp)]
  simp
theorem clF_zero {l : List Nat} (h : l.length < 3) (h2 : l.length < (clF l).length) : (clF l)[l.length] = 0 := by
  unfold clF at h2 ⊢
  rw [List.getElem_append_right (by simp)]
  simp
theorem valL_le : ∀ l : List UInt8, (∀ c ∈ l, digB c = true) → valL l < 10 ^ l.length := by
  refine snoc_ind (fun _ => by decide) (fun l c ih h => ?_)
  have h1 := ih (fun x hx => h x (List.mem_append_left _ hx))
  have h2 := h c (by simp)
  simp only [digB, decide_eq_true_eq] at h2
  rw [valL_snoc, List.length_append, List.length_singleton, Nat.pow_succ]
  omega
theorem pow_le9 {n : Nat} (h : n ≤ 9) : 10 ^ n ≤ 1000000000 := Nat.le_trans (Nat.pow_le_pow_right (by decide) h) (by decide)

theorem pref_none {s : ByteArray} {k p : Nat} {l : List Nat} (h : pref s k = some (l, p)) (hk : k < 3) (hs : stepF s k p = none) : pref s 3 = none := by
  have h1 : pref s (k + 1) = none := by simp only [pref, h, hs]
  have up : ∀ j, pref s j = none → pref s (j + 1) = none := fun j hj => by simp only [pref, hj]
  rcases (by omega : k = 0 ∨ k = 1 ∨ k = 2) with rfl | rfl | rfl
  · exact up 2 (up 1 h1)
  · exact up 2 h1
  · exact h1
theorem get48 {s : ByteArray} {p : Nat} {pre : List UInt8} (ht : tw s p = pre) (h0 : pre ≠ []) : ∃ h : p < s.size, pre.head? = some s[p] := by
  have hp : p < s.size := by
    rcases Nat.lt_or_ge p s.size with h | h
    · exact h
    · rw [tw_end h] at ht; exact absurd ht.symm h0
  refine ⟨hp, ?_⟩
  have hl : p < s.data.toList.length := by simpa using hp
  have h1 := tw_drop s p
  rw [List.drop_eq_getElem_cons hl, ht] at h1
  cases pre with
  | nil => exact absurd rfl h0
  | cons c cs =>
    simp only [List.cons_append, List.cons.injEq] at h1
    simp only [List.head?_cons, Option.some.injEq]
    exact h1.1.symm

end Go.Proofs.Ytkjcedlgljeoiaa

/- Contract: semver.NewVersion of a plain version. -/
namespace Go.Proofs.Ytkjcedlgljeoiaa
open Go.RowKit Go.Lib
set_option linter.unusedVariables false
set_option linter.unusedSimpArgs false

/-- A version's cells. -/
def vC (l : List Int) (s : ByteArray) : Array Value := (l.map (Value.int .i64) ++ [Value.string s]).toArray
theorem vC_get {l : List Int} {s : ByteArray} {k : Nat} (h : k < l.length) : (vC l s)[k]? = some (.int .i64 l[k]) := by
  simp [vC, List.getElem?_append_left, h]
theorem vC_set {l : List Int} {s : ByteArray} {k : Nat} (h : k < l.length) (x : Int) : (vC l s).setIfInBounds k (.int .i64 x) = vC (l.set k x) s := by
  simp [vC, List.map_set, List.set_append_left, h]
theorem tw_get {s : ByteArray} {p j : Nat} (h : j < (tw s p).length) : ∃ h2 : p + j < s.size, (tw s p)[j] = s[p + j] ∧ digB s[p + j] = true := by
  have h1 := tw_drop s p
  have hlen : j < (s.data.toList.drop p).length := by rw [h1, List.length_append]; omega
  have h2 : p + j < s.size := by simp at hlen; omega
  refine ⟨h2, ?_⟩
  have e : (s.data.toList.drop p)[j]? = some (tw s p)[j] := by rw [h1, List.getElem?_append_left h]; exact List.getElem?_eq_getElem h
  rw [List.getElem?_drop] at e
  obtain ⟨h3, h4⟩ := List.getElem?_eq_some_iff.1 e
  have h5 : (tw s p)[j] = s[p + j] := h4.symm
  exact ⟨h5, by rw [← h5]; exact tw_all _ (List.getElem_mem h)⟩
theorem tw_next {s : ByteArray} {p : Nat} (h : p + (tw s p).length < s.size) : digB s[p + (tw s p).length] = false := by
  cases hd : digB s[p + (tw s p).length] with
  | false => rfl
  | true =>
    exfalso
    have hp : p ≤ s.size := by omega
    have h1 := tw_drop s p
    have hl : p + (tw s p).length < s.data.toList.length := by simpa using h
    rw [List.drop_eq_getElem_cons hl] at h1
    have h2 : (s.data.toList.drop p).takeWhile digB = tw s p := rfl
    rw [h1, List.takeWhile_append_of_pos tw_all] at h2
    have e : s.data.toList[p + (tw s p).length] = s[p + (tw s p).length] := rfl
    rw [List.takeWhile_cons, e, hd] at h2
    have := congrArg List.length h2
    simp at this
theorem take_val {l : List UInt8} {j : Nat} (h : j < l.length) : valL (l.take (j + 1)) = 10 * valL (l.take j) + (l[j].toNat - 48) := by
  rw [List.take_succ_eq_append_getElem h, valL_snoc]
/-- The numbers of a plain version, one by one. -/
theorem plain_steps {s : ByteArray} (h : plainB s = true) {k p : Nat} {l : List Nat} (hp : pref s k = some (l, p)) (hk : k < 3) :
    stepF s k p = some (valL (tw s p), p + (tw s p).length + 1) ∧ pref s (k + 1) = some (l ++ [valL (tw s p)], p + (tw s p).length + 1) ∧ 0 < (tw s p).length ∧ (tw s p).length ≤ 9 ∧ (1 < (tw s p).length → ∃ h : p < s.size, s[p] ≠ 48) ∧
    (k < 2 → ∃ h : p + (tw s p).length < s.size, s[p + (tw s p).length] = 46) ∧ (k = 2 → p + (tw s p).length = s.size) := by
  cases hs : stepF s k p with
  | none =>
    have := pref_none hp hk hs
    unfold plainB at h
    rw [this] at h
    cases h
  | some y =>
    obtain ⟨v, e⟩ := y
    obtain ⟨a1, a2, a3, a4, a5, a6⟩ := stepF_some hs
    subst a1; subst a2
    have hpn : pref s (k + 1) = some (l ++ [valL (tw s p)], p + (tw s p).length + 1) := by simp only [pref, hp, hs]
    have hpos : 0 < (tw s p).length := List.length_pos_iff.2 a3
    refine ⟨rfl, hpn, hpos, a4, fun h1 => ?_, fun h2 => ?_, fun h2 => ?_⟩
    · obtain ⟨h3, h4⟩ := get48 (s := s) (p := p) rfl a3
      exact ⟨h3, fun e => a5 h1 (by rw [h4, e])⟩
    · obtain ⟨h3, h4⟩ := List.getElem?_eq_some_iff.1 (a6 h2)
      exact ⟨by simpa using h3, h4⟩
    · subst h2
      unfold plainB at h
      rw [hpn] at h
      simp only [decide_eq_true_eq] at h
      omega

set_option maxRecDepth 100000 in
set_option maxHeartbeats 8000000 in
theorem newVer_plain (s : ByteArray) (w : World) (hs : s.size ≤ 1000000) (hp : plainB s = true) :
    Calls Try.prog 171 #[.string s] w fun e w' => ∃ g, e = .returned (.tuple #[.pointer (some ⟨g, 0, none⟩), .nilIface]) ∧ w.heap.size ≤ g ∧ Blk w' g 278 (vC ((numsF s).map fun n : Nat => (n : Int)) s) ∧ Below w.heap.size w w' := by
  have hchars : ∀ j, ∀ h : j < s.size, digB s[j] = true ∨ s[j] = 46 := by
    obtain ⟨p, q, r, e, _, a⟩ := pref_text hp
    intro j h
    have hm : s[j] ∈ s.data.toList := List.getElem_mem (by simpa using h)
    rw [e] at hm
    simp only [List.mem_append, List.mem_cons] at hm
    rcases hm with hm | hm | hm | hm | hm
    · exact .inl ((a p (by simp)).2.2.1 _ hm)
    · exact .inr hm
    · exact .inl ((a q (by simp)).2.2.1 _ hm)
    · exact .inr hm
    · exact .inl ((a r (by simp)).2.2.1 _ hm)
  obtain ⟨hpos, hfirst⟩ : ∃ h : 0 < s.size, digB s[0] = true := by
    have h1 := (plain_steps hp (k := 0) (p := 0) (l := []) rfl (by omega)).2.2.1
    obtain ⟨h2, _, h3⟩ := tw_get h1
    exact ⟨by omega, by simpa using h3⟩
  have HC := Lib.hid hchars
  have HP := Lib.hid hp
  have f1 : (48 : Int) ≤ (s[0].toNat : Int) := by simp only [digB, decide_eq_true_eq] at hfirst; omega
  have f2 : (s[0].toNat : Int) ≤ 57 := by simp only [digB, decide_eq_true_eq] at hfirst; omega
  have f3 : ((s[0].toNat : Int) != 118) = true := by simp; omega
  have e0 : ¬ s.toList = [] := by
    rw [ByteArray.toList_eq]
    intro e
    have h3 : s.data.toList.length = 0 := by rw [e]; rfl
    rw [Array.length_toList] at h3
    have h4 : s.size = 0 := h3
    omega
  have e1 : s.toList.isEmpty = false := by simp [e0]
  clear hchars hp hfirst
  go_enter Try.func171, Try.ntmps171
  go_upto_block 0 with fail
  go_cut [4] (fun _ wx => wx = w)
  case first =>
    clear f1 f2 f3 e0 e1
    go_wp2_with fail
    go_loop [4] (fun i => ∃ k : Nat, k ≤ s.size ∧ i = .int .i64 k) (fun i => s.size - (intOf i).toNat)
    case atStart => exact ⟨0, Nat.zero_le _, rfl⟩
    case round =>
      obtain ⟨k, hk, rfl⟩ := hrel
      by_cases hlt : k < s.size
      · rcases HC.out k hlt with hd | hd
        · have d1 : (48 : Int) ≤ (s[k].toNat : Int) := by simp only [digB, decide_eq_true_eq] at hd; omega
          have d2 : (s[k].toNat : Int) ≤ 57 := by simp only [digB, decide_eq_true_eq] at hd; omega
          clear hd
          go_wp2_with fail
          go_round
          case rel => exact ⟨k + 1, by omega, by go_num⟩
          case measure => simp [intOf]; omega
        · have d1 : s[k].toNat = 46 := by rw [hd]; rfl
          have d2 : (s[k].toNat : Int) < 48 := by omega
          have d3 : (s[k].toNat : Int) < 97 := by omega
          have d4 : (s[k].toNat : Int) < 65 := by omega
          have d5 : ((s[k].toNat : Int) == 46) = true := by simp only [beq_iff_eq]; omega
          clear hd d1
          go_wp2_with fail
          go_round
          case rel => exact ⟨k + 1, by omega, by go_num⟩
          case measure => simp [intOf]; omega
      · go_wp2_with fail
        go_meet
        rfl
  case rest =>
    obtain rfl : w = wc := hcut.symm
    go_upto_block 2 with ((with_reducible refine at_dst (N := 75) rfl ?_); refine ev_box rfl 278 _ rfl _ rfl ?_; intro g w1 hg hB hb; have HB1 : Hid (Blk w1 g 278 (vC (clF []) s)) := hB; have B1 := Lib.hid hb; clear hB hb)
    clear f1 f2 f3 e0 e1
    go_wp2_with fail
    go_loopw [7, 8, 9] (fun at_ i _ wr => ∃ k p : Nat, ∃ l : List Nat, k ≤ 3 ∧ p ≤ s.size + 1 ∧ l.length = k ∧ i = .int .i64 k ∧ at_ = .int .i64 p ∧ Hid (pref s k = some (l, p)) ∧ Hid (Blk wr g 278 (vC (clF l) s)) ∧ Hid (Below w.heap.size w wr)) (fun _ i _ _ => 3 - (intOf i).toNat)
    case atStart => exact ⟨0, 0, [], by omega, by omega, rfl, rfl, rfl, rfl, HB1, B1⟩
    case round =>
      clear HB1 B1
      obtain ⟨k, p, l, hk, hp, hlen, rfl, rfl, HPR, HB, HW⟩ := hrel
      by_cases hk3 : k < 3
      · obtain ⟨st1, st2, st3, st4, st5, st6, st7⟩ := plain_steps HP.out HPR.out hk3
        have HN := Lib.hid st2
        have H5 := Lib.hid st5
        have H6 := Lib.hid st6
        have H7 := Lib.hid st7
        have hple : p ≤ s.size := by
          obtain ⟨h2, _⟩ := tw_get st3
          omega
        have hend := tw_le s p hple
        clear st1 st2 st5 st6 st7
        obtain ⟨n, hn⟩ : ∃ n, n = (tw s p).length := ⟨_, rfl⟩
        have HNN := Lib.hid hn
        rw [← hn] at st3 st4 hend
        clear hn
        have dk : decide ((k : Int) < 3) = true := by simp; omega
        go_upto_block 4 with fail
        clear dk
        obtain ⟨wo, rfl⟩ : ∃ wo : World, wo = wr := ⟨_, rfl⟩
        go_cut [7] (fun at_ wx => at_ = .int .i64 (p + n : Nat) ∧ Hid (Blk wx g 278 (vC ((clF l).set k (valL (tw s p) : Int)) s)) ∧ Hid (Below w.heap.size w wx))
        case first =>
          go_wp2_with fail
          go_loopw [7] (fun at_ wr => ∃ j : Nat, j ≤ n ∧ at_ = .int .i64 (p + j : Nat) ∧ Hid (Blk wr g 278 (vC ((clF l).set k (valL ((tw s p).take j) : Int)) s)) ∧ Hid (Below w.heap.size w wr)) (fun at_ _ => p + n - (intOf at_).toNat)
          case atStart =>
            refine ⟨0, by omega, by simp, ?_, HW⟩
            have e : (clF l).set k 0 = clF l := by
              have h3 := clF_len (l := l) (by omega)
              have hz := clF_zero (l := l) (by omega) (by omega)
              subst hlen
              rw [← hz]
              exact List.set_getElem_self _
            show Blk _ _ _ _
            rw [List.take_zero, show ((valL [] : Nat) : Int) = 0 from rfl, e]
            exact HB
          case round =>
            obtain ⟨j, hj, rfl, HB2, HW2⟩ := hrel
            have c3 := clF_len (l := l) (by omega)
            have hfr := HB2.out.frozen k
            by_cases hlt : j < n
            · obtain ⟨h2, hge, hd⟩ := tw_get (s := s) (p := p) (j := j) (by have := HNN.out; omega)
              obtain ⟨x, hx⟩ : ∃ x : Nat, x = valL ((tw s p).take j) := ⟨_, rfl⟩
              have hx1 : x < 1000000000 := by
                have h1 := valL_le ((tw s p).take j) (fun c hc => tw_all c (List.mem_of_mem_take hc))
                have h3 := pow_le9 (n := ((tw s p).take j).length) (by rw [List.length_take]; omega)
                omega
              have hcell : wr.cell? ⟨g, k, none⟩ = some (.int .i64 (x : Int)) := by
                rw [HB2.out.cell, vC_get (by rw [List.length_set]; omega)]
                simp [hx]
              have hval : valL ((tw s p).take (j + 1)) = 10 * x + (s[p + j].toNat - 48) := by
                rw [take_val (by have := HNN.out; omega), hx, hge]
              have HV := Lib.hid hval
              have d1 : (48 : Int) ≤ (s[p + j].toNat : Int) := by simp only [digB, decide_eq_true_eq] at hd; omega
              have d2 : (s[p + j].toNat : Int) ≤ 57 := by simp only [digB, decide_eq_true_eq] at hd; omega
              have b0 : (0 : Int) ≤ (k : Int) := by omega
              have b1 : (k : Int) < 3 := by omega
              have b3 : ((k : Int)).toNat = k := by omega
              have b4 : ((p : Int) + (j : Int)).toNat = p + j := by omega
              clear hd hval hx hge
              go_upto_region 16 with fail
              go_region
              go_wp2_with fail
              refine ⟨⟨j + 1, by omega, by go_num, ?_, (below_set HW2.out hg k _).drew⟩, by simp [intOf]; omega⟩
              have h1 := HB2.out.set_ k (.int .i64 ((x : Int) * 10 + ((s[p + j].toNat : Int) - 48)))
              rw [vC_set (by rw [List.length_set]; omega), List.set_set] at h1
              have e : ((valL ((tw s p).take (j + 1)) : Nat) : Int) = (x : Int) * 10 + ((s[p + j].toNat : Int) - 48) := by rw [HV.out]; omega
              rw [e]
              exact h1
            · obtain rfl : j = n := by omega
              have HB3 : Hid (Blk wr g 278 (vC ((clF l).set k (valL (tw s p) : Int)) s)) := by
                have h1 := HB2.out
                rw [List.take_of_length_le (by have := HNN.out; omega)] at h1
                exact h1
              by_cases hin : p + j < s.size
              · have hd := tw_next (s := s) (p := p) (by have := HNN.out; omega)
                have hrng : (s[p + j].toNat : Int) < 48 ∨ 57 < (s[p + j].toNat : Int) := by
                  have hn := HNN.out
                  subst hn
                  simp only [digB, decide_eq_false_iff_not] at hd
                  omega
                have b4 : ((p : Int) + (j : Int)).toNat = p + j := by omega
                clear hd
                rcases hrng with hr | hr
                all_goals
                  go_wp2_with fail
                  go_meet
                  exact ⟨rfl, HB3, HW2⟩
              · go_wp2_with fail
                go_meet
                exact ⟨rfl, HB3, HW2⟩
        case rest =>
          obtain ⟨rfl, HB2, HW2⟩ := hcut
          have hn0 : ((p + n : Nat) : Int) = (p : Int) + (n : Int) := by simp
          have HB3 : Hid (Blk wc g 278 (vC (clF (l ++ [valL (tw s p)])) s)) := by
            have h1 := HB2.out
            rw [← hlen, clF_set (by omega)] at h1
            exact h1
          have hlen2 : (l ++ [valL (tw s p)]).length = k + 1 := by simp [hlen]
          have HN2 : Hid (pref s (k + 1) = some (l ++ [valL (tw s p)], p + n + 1)) := by
            have h1 := HN.out
            have hn := HNN.out
            rw [← hn] at h1
            exact h1
          have hps : p < s.size := by
            obtain ⟨h2, _⟩ := tw_get (s := s) (p := p) (j := 0) (by have := HNN.out; omega)
            omega
          have t1 : ((p : Int) + (n : Int) == (p : Int)) = false := by simp only [beq_eq_false_iff_ne, ne_eq]; omega
          have hz : 1 < n → s[p].toNat ≠ 48 := fun h => by
            obtain ⟨_, h3⟩ := H5.out (by have := HNN.out; omega)
            exact fun e => h3 (UInt8.toNat_inj.1 e)
          have h46 : k < 2 → ∃ h : p + n < s.size, s[p + n].toNat = 46 := fun h => by
            have hn := HNN.out
            subst hn
            obtain ⟨h3, h4⟩ := H6.out h
            exact ⟨h3, by rw [h4]; rfl⟩
          have hk2 : k = 2 → p + n = s.size := fun h => by
            have hn := HNN.out
            subst hn
            exact H7.out h
          have HZ := Lib.hid hz
          have H46 := Lib.hid h46
          have HK2 := Lib.hid hk2
          clear HB2 hz h46 hk2 HNN H5 H6 H7 HN
          have b0 : (0 : Int) ≤ (k : Int) := by omega
          have b4 : ((p : Int) + (n : Int)).toNat = p + n := by omega
          have b5 : ((p : Int)).toNat = p := by omega
          by_cases h48 : s[p].toNat = 48
          · have hn1 : n ≤ 1 := by
              rcases Nat.lt_or_ge 1 n with h | h
              · exact absurd h48 (HZ.out h)
              · exact h
            have d48 : ((s[p].toNat : Int) == 48) = true := by simp only [beq_iff_eq]; omega
            have dn : (p : Int) + (n : Int) - (p : Int) ≤ 1 := by omega
            clear h48
            rcases (by omega : k < 2 ∨ k = 2) with hk2 | hk2
            · obtain ⟨hm, h46⟩ := H46.out hk2
              have d1 : ((s[p + n].toNat : Int) == 46) = true := by simp only [beq_iff_eq]; omega
              have d2 : ((s[p + n].toNat : Int) != 46) = false := by simp; omega
              have d3 : ((p : Int) + (n : Int) == (s.size : Int)) = false := by simp only [beq_eq_false_iff_ne, ne_eq]; omega
              have d4 : ((k : Int) == 2) = false := by simp only [beq_eq_false_iff_ne, ne_eq]; omega
              have d5 : (k : Int) < 2 := by omega
              clear h46
              go_wp2_with fail
              refine ⟨⟨k + 1, p + n + 1, l ++ [valL (tw s p)], by omega, by omega, hlen2, by go_num, by go_num, HN2, HB3, HW2⟩, by simp [intOf]; omega⟩
            · have hm := HK2.out hk2
              have d3 : (s.size : Int) ≤ (p : Int) + (n : Int) := by omega
              have d4 : ((k : Int) == 2) = true := by simp only [beq_iff_eq]; omega
              have d5 : (2 : Int) ≤ (k : Int) := by omega
              have HM := Lib.hid hm
              have HKK := Lib.hid hk2
              clear hm hk2
              go_wp2_with fail
              refine ⟨⟨k + 1, p + n + 1, l ++ [valL (tw s p)], by omega, by omega, hlen2, by go_num, by go_num, HN2, HB3, HW2⟩, by simp [intOf]; omega⟩
          · have d48 : ((s[p].toNat : Int) == 48) = false := by simp only [beq_eq_false_iff_ne, ne_eq]; omega
            clear h48
            rcases (by omega : k < 2 ∨ k = 2) with hk2 | hk2
            · obtain ⟨hm, h46⟩ := H46.out hk2
              have d1 : ((s[p + n].toNat : Int) == 46) = true := by simp only [beq_iff_eq]; omega
              have d2 : ((s[p + n].toNat : Int) != 46) = false := by simp; omega
              have d3 : ((p : Int) + (n : Int) == (s.size : Int)) = false := by simp only [beq_eq_false_iff_ne, ne_eq]; omega
              have d4 : ((k : Int) == 2) = false := by simp only [beq_eq_false_iff_ne, ne_eq]; omega
              have d5 : (k : Int) < 2 := by omega
              clear h46
              go_wp2_with fail
              refine ⟨⟨k + 1, p + n + 1, l ++ [valL (tw s p)], by omega, by omega, hlen2, by go_num, by go_num, HN2, HB3, HW2⟩, by simp [intOf]; omega⟩
            · have hm := HK2.out hk2
              have d3 : (s.size : Int) ≤ (p : Int) + (n : Int) := by omega
              have d4 : ((k : Int) == 2) = true := by simp only [beq_iff_eq]; omega
              have d5 : (2 : Int) ≤ (k : Int) := by omega
              have HM := Lib.hid hm
              have HKK := Lib.hid hk2
              clear hm hk2
              go_wp2_with fail
              refine ⟨⟨k + 1, p + n + 1, l ++ [valL (tw s p)], by omega, by omega, hlen2, by go_num, by go_num, HN2, HB3, HW2⟩, by simp [intOf]; omega⟩
      · obtain rfl : k = 3 := by omega
        have hN : numsF s = l := by unfold numsF; rw [HPR.out]
        have hcl : clF l = l.map fun n : Nat => (n : Int) := by unfold clF; rw [hlen]; simp
        rw [hcl] at HB
        have HN := Lib.hid hN
        clear hN hcl hk3 HPR
        go_wp2_with fail
        go_ret2
        exact ⟨g, rfl, hg, by rw [HN.out]; exact HB.out, HW.out⟩
end Go.Proofs.Ytkjcedlgljeoiaa

/- Contracts: semver.NewVersion of what is none, Compare, Equal. -/
namespace Go.Proofs.Ytkjcedlgljeoiaa
open Go.RowKit Go.Lib
set_option linter.unusedVariables false
set_option linter.unusedSimpArgs false

theorem err_lead {s : ByteArray} (he : errB s = true) (ha : ∀ j, ∀ h : j < s.size, verC s[j] = true) : ∀ h : 0 < s.size, leadB s[0] = false := by
  intro h
  have h1 : s.data.toList.all verC = true := by
    rw [List.all_eq_true]
    intro x hx
    obtain ⟨j, hj, rfl⟩ := List.getElem_of_mem hx
    exact ha j (by simpa using hj)
  unfold errB at he
  rw [h1] at he
  cases hl : s.data.toList with
  | nil =>
    have : s.data.toList.length = 0 := by rw [hl]; rfl
    rw [Array.length_toList] at this
    have h4 : s.size = 0 := this
    omega
  | cons c l =>
    rw [hl] at he
    have e : s[0] = c := by
      have h5 : s.data.toList[0]? = some c := by rw [hl]; rfl
      obtain ⟨h6, h7⟩ := List.getElem?_eq_some_iff.1 h5
      exact h7
    rw [e]
    simpa using he

set_option maxRecDepth 100000 in
set_option maxHeartbeats 8000000 in
theorem newVer_err (s : ByteArray) (w : World) (hs : s.size ≤ 1000000) (he : errB s = true) :
    Calls Try.prog 171 #[.string s] w fun e w' => ∃ g, e = .returned (.tuple #[.pointer none, .iface 279 (.pointer (some ⟨g, 0, none⟩))]) ∧ Below w.heap.size w w' := by
  have HE := Lib.hid he
  clear he
  go_enter Try.func171, Try.ntmps171
  go_upto_block 0 with fail
  go_cut [4] (fun _ wx => wx = w ∧ Hid (∀ j, ∀ h : j < s.size, verC s[j] = true))
  case first =>
    go_wp2_with fail
    go_loop [4] (fun i => ∃ k : Nat, k ≤ s.size ∧ i = .int .i64 k ∧ Hid (∀ j, ∀ h : j < s.size, j < k → verC s[j] = true)) (fun i => s.size - (intOf i).toNat)
    case atStart => exact ⟨0, Nat.zero_le _, rfl, fun j _ h0 => by omega⟩
    case round =>
      obtain ⟨k, hk, rfl, HA⟩ := hrel
      by_cases hlt : k < s.size
      · have h255 : (s[k].toNat : Int) ≤ 255 := by have := s[k].toNat_lt; omega
        go_wp2_with (go_at_call 173; (with_reducible refine (errNew_any _ _).mono ?_); rintro e w1 ⟨v, rfl, ⟨g, rfl, hg⟩, hb⟩)
        all_goals (try simp only [Bool.not_eq_eq_eq_not, Bool.not_true, Bool.not_false, decide_eq_true_eq, decide_eq_false_iff_not, beq_iff_eq, beq_eq_false_iff_ne, ne_eq] at *)
        all_goals first
          | (refine ⟨⟨k + 1, by omega, by go_num, fun j hj hjk => ?_⟩, ?_⟩
             · by_cases e : j = k
               · subst e; unfold verC; rw [decide_eq_true_eq]; omega
               · exact HA.out j hj (by omega)
             · simp [intOf]; omega)
          | (go_ret2
             exact ⟨g, rfl, hb⟩)
      · obtain rfl : k = s.size := by omega
        have HA2 : Hid (∀ j, ∀ h : j < s.size, verC s[j] = true) := fun j h => HA.out j h h
        clear HA
        go_wp2_with fail
        go_meet
        exact ⟨rfl, HA2⟩
  case rest =>
    obtain ⟨hw, HA⟩ := hcut
    obtain rfl : w = wc := hw.symm
    have hl := err_lead HE.out HA.out
    by_cases h0 : 0 < s.size
    · have hl := hl h0
      have e0 : ¬ s.toList = [] := by
        rw [ByteArray.toList_eq]
        intro e
        have h3 : s.data.toList.length = 0 := by rw [e]; rfl
        rw [Array.length_toList] at h3
        have h4 : s.size = 0 := h3
        omega
      have e1 : s.toList.isEmpty = false := by simp [e0]
      have f3 : ((s[0].toNat : Int) != 118) = true := by simp only [leadB, decide_eq_false_iff_not] at hl; simp; omega
      have hr : (s[0].toNat : Int) < 48 ∨ (48 ≤ (s[0].toNat : Int) ∧ 57 < (s[0].toNat : Int)) := by simp only [leadB, decide_eq_false_iff_not] at hl; omega
      clear hl HA HE
      rcases hr with hr | ⟨hr1, hr2⟩
      all_goals
        go_wp2_with (go_at_call 173; (with_reducible refine (errNew_any _ _).mono ?_); rintro e w1 ⟨v, rfl, ⟨g, rfl, hg⟩, hb⟩)
        go_ret2
        exact ⟨g, rfl, hb⟩
    · obtain rfl : s = ⟨#[]⟩ := ByteArray.ext (Array.eq_empty_of_size_eq_zero (by show s.size = 0; omega))
      clear hl HA HE h0
      go_wp2_with (go_at_call 173; (with_reducible refine (errNew_any _ _).mono ?_); rintro e w1 ⟨v, rfl, ⟨g, rfl, hg⟩, hb⟩)
      go_ret2
      exact ⟨g, rfl, hb⟩

/-- One list of numbers against another one. -/
def cmpL : List Int → List Int → Int
  | x :: xs, y :: ys => if x = y then cmpL xs ys else x - y
  | _, _ => 0
end Go.Proofs.Ytkjcedlgljeoiaa

/- Contracts: ChVersion, versionEquals, VersionEquals; FnVersionEquals: the walk. -/
namespace Go.Proofs.Ytkjcedlgljeoiaa
open Go.RowKit Go.Lib
set_option linter.unusedVariables false
set_option linter.unusedSimpArgs false
/-- How versions are equal. -/
def eqvF (s t : ByteArray) : Bool := if errB s then decide (s = t) else if errB t then false else decide (numsF s = numsF t)
end Go.Proofs.Ytkjcedlgljeoiaa

/- rules.ZzChart, impl.LintChart. -/
namespace Go.Proofs.Ytkjcedlgljeoiaa
open Go.RowKit Go.Lib
set_option linter.unusedVariables false
set_option linter.unusedSimpArgs false
/-- An error, or none. -/
def errV (b : Bool) (g : Nat) : Value := cond b (.iface 279 (.pointer (some ⟨g, 0, none⟩))) .nilIface
set_option maxRecDepth 100000 in
theorem r_errne {a : Act} {o : Oper} {w : World} {x : Operand} {b : Bool} {g : Nat} (ho : o.op = .binOp .neq 140 x (.const .nilIface) 140) (hx : a.eval x = errV b g) : (execOp a.eval o).run Try.prog w = .ok (.value (.bool b)) w := by
  unfold execOp
  have hn : a.eval (.const .nilIface) = .nilIface := rfl
  simp only [ho, hx, hn]
  clear ho hx; cases b <;> cases x <;> (first | rfl | (show _ = _; kernel_rfl) | (simp [errV, eqGuard, binOp]; rfl))
def errs (bs : List Bool) (gs : List Nat) : List Value := List.zipWith errV bs gs
def bools (l : List Bool) : List Value := l.map Value.bool
theorem errs_at {bs : List Bool} {gs : List Nat} {k : Nat} (h : k < bs.length) (h2 : k < gs.length) : (errs bs gs)[k]? = some (errV bs[k] gs[k]) := by
  unfold errs; rw [List.getElem?_zipWith, List.getElem?_eq_getElem h, List.getElem?_eq_getElem h2]
theorem errs_len {bs : List Bool} {gs : List Nat} (h : gs.length = bs.length) : (errs bs gs).length = bs.length := by unfold errs; rw [List.length_zipWith]; omega
def lname (m : Ty26) : Bool := m.fName.toList == (⟨#[]⟩ : ByteArray).toList || !(!slB m.fName || (m.fName.toList == (⟨#[47]⟩ : ByteArray).toList))
def isV1 (s : ByteArray) : Bool := s.toList == (⟨#[118, 49]⟩ : ByteArray).toList
def isV2 (s : ByteArray) : Bool := s.toList == (⟨#[118, 50]⟩ : ByteArray).toList
def lapi (m : Ty26) : Bool := m.fAPIVersion.toList == (⟨#[]⟩ : ByteArray).toList || (!isV1 m.fAPIVersion && !isV2 m.fAPIVersion)
def lper (ps : List Ty78) : Bool := ps.any fun p => p.fNil || (p.fName.toList == (⟨#[]⟩ : ByteArray).toList)
def ltype (m : Ty26) : Bool := decide ((0 : Int) < m.fType.size) && !isV2 m.fAPIVersion
def ldep (m : Ty26) : Bool := decide ((0 : Int) < m.fDependencies.length) && !isV2 m.fAPIVersion
theorem newVer_p2 (s : ByteArray) (R : Ctx) (L : List SA) (w : World) (S : Sp R w L) (hs : s.size ≤ 1000000) (hp : plainB s = true) : Calls Try.prog 171 #[.string s] w fun e w' => ∃ g : Nat, e = .returned (.tuple #[.pointer (some ⟨g, 0, none⟩), .nilIface]) ∧ Sp R w' L :=
  (newVer_plain s w hs hp).mono fun e w' ⟨g, he, _, _, hb⟩ => ⟨g, he, S.below hb⟩
set_option maxRecDepth 100000 in
set_option maxHeartbeats 20000000 in
theorem errNew_sp2 (s : ByteArray) (R : Ctx) (L : List SA) (w : World) (S : Sp R w (L))   :
    Calls Try.prog 173 #[.string s] w fun e w' => ∃ ge : Nat, e = .returned (.iface 279 (.pointer (some ⟨ge, 0, none⟩))) ∧ Sp R w' (SA.blk ge 281 #[.string (s)] :: L) := by
  refine fw_enter (fn := Try.f173) rfl rfl 7 rfl (Nat.le_of_ble_eq_true rfl) ?_
  intro a0 F0
  refine wp_seq_k fun K1 hK1 => ?_
  refine wp_region_lit ?_
  refine op_q F0 (.nilIface) ?_; intro a2 F2
  refine wpList_nil ?_
  refine hK1 _ _ ?_; clear hK1 K1
  refine wp_seq_k fun K3 hK3 => ?_
  refine wp_region_lit ?_
  refine op_q F2 (.string s) ?_; intro a4 F4
  refine op_q F4 (.agg #[.string s]) ?_; intro a5 F5
  refine op_sq F5 (s_newp F5 281 #[.string s] (by kernel_rfl) (by kernel_rfl) (by kernel_rfl) S) ?_
  rintro _ _ w7 ⟨g5, rfl, rfl⟩ S7 a7 F7
  refine op_q F7 (.iface 279 (.pointer (some ⟨g5, 0, none⟩))) ?_; intro a8 F8
  refine op_q F8 (.iface 279 (.pointer (some ⟨g5, 0, none⟩))) ?_; intro a9 F9
  refine wpList_nil ?_
  refine hK3 _ _ ?_; clear hK3 K3
  refine wp_ret ?_
  refine (F9.res1 rfl (v := .iface 279 (.pointer (some ⟨g5, 0, none⟩))) (by kernel_rfl) ?_).1
  exact ⟨g5, rfl, S7⟩
/-- Where a maintainer is told, or none. -/
def PerAt (w : World) (q : Option Addr) (p : Ty78) : Prop := (p.fNil = true ∧ q = none) ∨ (p.fNil = false ∧ ∃ g, q = some ⟨g, 0, none⟩ ∧ Blk w g 270 #[.string p.fName, .string p.fEmail, .string p.fURL])
theorem per_at {w : World} {F : Nat → Prop} {q : Option Addr} {p : Ty78} (h : (SA.per q p).holds w F) : PerAt w q p := by
  unfold SA.per at h
  cases hn : p.fNil with
  | true => rw [hn] at h; exact .inl ⟨hn, h.1⟩
  | false =>
    rw [hn] at h
    obtain ⟨g, F1, F2, h1, h2, _⟩ := h
    exact .inr ⟨hn, g, h1.1, h2.1⟩
theorem Sp.zper (i : Nat) {R : Ctx} {w : World} {L : List SA} {qs : List (Option Addr)} {ps : List Ty78} (S : Sp R w L) (hm : L[i]? = some (SA.zips SA.per qs ps)) : ∀ k, ∀ h : k < ps.length, ∃ h2 : k < qs.length, PerAt w qs[k] ps[k] := fun k h => by
  obtain ⟨F, hF⟩ := S.mem (List.mem_of_getElem? hm)
  obtain ⟨hv, G, hG⟩ := zips_at (F := F) hF k h
  exact ⟨hv, per_at hG⟩
theorem perAt_blk {w : World} {g : Nat} {p : Ty78} (hn : p.fNil = false) (h : PerAt w (some ⟨g, 0, none⟩) p) : Blk w g 270 #[.string p.fName, .string p.fEmail, .string p.fURL] := by
  rcases h with ⟨h, _⟩ | ⟨_, g', e, hb⟩
  · rw [hn] at h; cases h
  · injection e with e; injection e with e; subst e; exact hb
theorem errB_plain {s : ByteArray} (h : errB s = true) : plainB s = false := by
  cases hp : plainB s with
  | false => rfl
  | true => rw [plain_ok hp] at h; cases h
theorem lper_yes {ps : List Ty78} {k : Nat} (h : k < ps.length) (e : ps[k].fNil = true ∨ (ps[k].fName.toList == (⟨#[]⟩ : ByteArray).toList) = true) : lper ps = true := by
  unfold lper
  rw [List.any_eq_true]
  exact ⟨_, List.getElem_mem h, by rcases e with e | e <;> rw [e] <;> simp⟩
theorem lper_no {ps : List Ty78} {k : Nat} (hk : ps.length ≤ k) (h : ∀ j, ∀ h : j < ps.length, j < k → ps[j].fNil = false ∧ (ps[j].fName.toList == (⟨#[]⟩ : ByteArray).toList) = false) : lper ps = false := by
  unfold lper
  rw [List.any_eq_false]
  intro x hx
  obtain ⟨j, hj, rfl⟩ := List.mem_iff_getElem.1 hx
  have := h j hj (by omega)
  rw [this.1, this.2]; simp
set_option maxRecDepth 100000 in
set_option maxHeartbeats 20000000 in
theorem rName (m : Ty26) (gm : Nat) (A1 : Option Addr) (c1 : Nat) (A2 : Option Addr) (c2 : Nat) (A3 : Option Addr) (n3 : Nat) (c3 : Nat) (A4 : Option Addr) (n4 : Nat) (c4 : Nat) (R : Ctx) (L : List SA) (w : World) (S : Sp R w (L)) (h0 : Rf R L fun w => Blk w (gm) 237 #[.string (m.fName), .string (m.fHome), .slice (A1) (m.fSources.length) (c1), .string (m.fVersion), .string (m.fDescription), .slice (A2) (m.fKeywords.length) (c2), .slice (A3) (n3) (c3), .string (m.fIcon), .string (m.fAPIVersion), .string (m.fCondition), .string (m.fTags), .string (m.fAppVersion), .bool false, .map none, .string (m.fKubeVersion), .slice (A4) (n4) (c4), .string (m.fType)]) (hnz : m.fName.size ≤ 1000000) :
    Calls Try.prog 153 #[.pointer (some ⟨gm, 0, none⟩)] w fun e w' => ∃ b : Bool, ∃ g : Nat, e = .returned (errV b g) ∧ Sp R w' (L) ∧ (b = lname m) := by
  refine fw_enter (fn := Try.f153) rfl rfl 22 rfl (Nat.le_of_ble_eq_true rfl) ?_
  intro a0 F0
  refine wp_seq_k fun K1 hK1 => ?_
  refine wp_region_lit ?_
  refine op_q F0 (.nilIface) ?_; intro a2 F2
  refine wpList_nil ?_
  refine hK1 _ _ ?_; clear hK1 K1
  refine wp_seq_k fun K3 hK3 => ?_
  refine wp_seq_k fun K4 hK4 => ?_
  refine wp_region_lit ?_
  refine op_q F2 (.pointer (some ⟨gm, 0, none⟩)) ?_; intro a5 F5
  refine op_q F5 (.pointer (some ⟨gm, 0, none⟩)) ?_; intro a6 F6
  refine op_q F6 (.pointer (some ⟨gm, 0, none⟩)) ?_; intro a7 F7
  refine op_rq (v := .string m.fName) F7 (r_ld rfl (F7.e (.pointer (some ⟨gm, 0, none⟩))) (v := .string m.fName) ((h0 _ S).cell 0) Try.underlying9 rfl) ?_; intro a8 F8
  refine op_q F8 (.bool (m.fName.toList == (⟨#[]⟩ : ByteArray).toList)) ?_; intro a9 F9
  refine wpList_nil ?_
  refine hK4 _ _ ?_; clear hK4 K4
  rcases btf (m.fName.toList == (⟨#[]⟩ : ByteArray).toList) with hc10 | hc10
  · have F11 := F9.sb 8 (by kernel_rfl) hc10
    refine wp_cond_true (F11.ev (by kernel_rfl)) ?_
    refine wp_seq_k fun K12 hK12 => ?_
    refine wp_region_lit ?_
    refine op_cq F11 (f := 173) (args := #[.string ⟨#[110, 97, 109, 101, 32, 105, 115, 32, 114, 101, 113, 117, 105, 114, 101, 100]⟩]) (errNew_sp2 ⟨#[110, 97, 109, 101, 32, 105, 115, 32, 114, 101, 113, 117, 105, 114, 101, 100]⟩ _ _ _ S ) ?_
    rintro _ w13 ⟨ge13, rfl, S13⟩
    refine ⟨_, rfl, ?_⟩
    intro a14 F14
    refine op_q F14 (.iface 279 (.pointer (some ⟨ge13, 0, none⟩))) ?_; intro a15 F15
    refine wpList_nil ?_
    refine hK12 _ _ ?_; clear hK12 K12
    refine wp_ret ?_
    refine ret_then ?_
    refine (F15.res1 rfl (v := .iface 279 (.pointer (some ⟨ge13, 0, none⟩))) (by kernel_rfl) ?_).1
    exact ⟨true, ge13, rfl, S13.drop, (by unfold lname; rw [hc10]; rfl)⟩
  · have hpn := emp_pos hc10
    have F16 := F9.sb 8 (by kernel_rfl) hc10
    refine wp_cond_false (F16.ev (by kernel_rfl)) ?_
    refine wp_skip ?_
    refine hK3 _ _ ?_; clear hK3 K3
    refine wp_seq_k fun K17 hK17 => ?_
    refine wp_region_lit ?_
    refine op_q F16 (.pointer (some ⟨gm, 0, none⟩)) ?_; intro a18 F18
    refine op_q F18 (.pointer (some ⟨gm, 0, none⟩)) ?_; intro a19 F19
    refine op_q F19 (.pointer (some ⟨gm, 0, none⟩)) ?_; intro a20 F20
    refine op_rq (v := .string m.fName) F20 (r_ld rfl (F20.e (.pointer (some ⟨gm, 0, none⟩))) (v := .string m.fName) ((h0 _ S).cell 0) Try.underlying9 rfl) ?_; intro a21 F21
    refine op_cq F21 (f := 176) (args := #[.string m.fName]) (base_any m.fName _ _ _ S (by first | omega | (simp; done) | (simp; omega)) (by first | omega | (simp; done) | (simp; omega))) ?_
    rintro _ w22 ⟨o22, rfl, S22, hp0_22⟩
    refine ⟨_, rfl, ?_⟩
    intro a23 F23
    refine op_q F23 (.string o22) ?_; intro a24 F24
    refine wpList_nil ?_
    refine hK17 _ _ ?_; clear hK17 K17
    refine wp_seq_k fun K25 hK25 => ?_
    refine wp_seq_k fun K26 hK26 => ?_
    refine wp_region_lit ?_
    refine op_q F24 (.string o22) ?_; intro a27 F27
    refine op_q F27 (.pointer (some ⟨gm, 0, none⟩)) ?_; intro a28 F28
    refine op_q F28 (.pointer (some ⟨gm, 0, none⟩)) ?_; intro a29 F29
    refine op_q F29 (.pointer (some ⟨gm, 0, none⟩)) ?_; intro a30 F30
    refine op_rq (v := .string m.fName) F30 (r_ld rfl (F30.e (.pointer (some ⟨gm, 0, none⟩))) (v := .string m.fName) ((h0 _ S22).cell 0) Try.underlying9 rfl) ?_; intro a31 F31
    refine op_q F31 (.bool (!(o22.toList == m.fName.toList))) ?_; intro a32 F32
    refine wpList_nil ?_
    refine hK26 _ _ ?_; clear hK26 K26
    rcases btf (o22.toList == m.fName.toList) with hc33 | hc33
    · have F34 := F32.sb 20 (by kernel_rfl) (show (!(o22.toList == m.fName.toList)) = false by rw [hc33]; rfl)
      refine wp_cond_false (F34.ev (by kernel_rfl)) ?_
      refine wp_skip ?_
      refine hK25 _ _ ?_; clear hK25 K25
      refine wp_seq_k fun K35 hK35 => ?_
      refine wp_region_lit ?_
      refine op_q F34 (.nilIface) ?_; intro a36 F36
      refine wpList_nil ?_
      refine hK35 _ _ ?_; clear hK35 K35
      refine wp_ret ?_
      refine (F36.res1 rfl (v := .nilIface) (by kernel_rfl) ?_).1
      exact ⟨false, 0, rfl, S22, (by unfold lname; rw [hc10, ← hp0_22, hc33]; rfl)⟩
    · have F37 := F32.sb 20 (by kernel_rfl) (show (!(o22.toList == m.fName.toList)) = true by rw [hc33]; rfl)
      refine wp_cond_true (F37.ev (by kernel_rfl)) ?_
      refine wp_seq_k fun K38 hK38 => ?_
      refine wp_region_lit ?_
      refine op_cq F37 (f := 173) (args := #[.string ⟨#[99, 104, 97, 114, 116, 32, 110, 97, 109, 101]⟩]) (errNew_sp2 ⟨#[99, 104, 97, 114, 116, 32, 110, 97, 109, 101]⟩ _ _ _ S22 ) ?_
      rintro _ w39 ⟨ge39, rfl, S39⟩
      refine ⟨_, rfl, ?_⟩
      intro a40 F40
      refine op_q F40 (.iface 279 (.pointer (some ⟨ge39, 0, none⟩))) ?_; intro a41 F41
      refine wpList_nil ?_
      refine hK38 _ _ ?_; clear hK38 K38
      refine wp_ret ?_
      refine ret_then ?_
      refine (F41.res1 rfl (v := .iface 279 (.pointer (some ⟨ge39, 0, none⟩))) (by kernel_rfl) ?_).1
      exact ⟨true, ge39, rfl, S39.drop, (by unfold lname; rw [hc10, ← hp0_22, hc33]; rfl)⟩
set_option maxRecDepth 100000 in
set_option maxHeartbeats 20000000 in
theorem rApi (m : Ty26) (gm : Nat) (A1 : Option Addr) (c1 : Nat) (A2 : Option Addr) (c2 : Nat) (A3 : Option Addr) (n3 : Nat) (c3 : Nat) (A4 : Option Addr) (n4 : Nat) (c4 : Nat) (R : Ctx) (L : List SA) (w : World) (S : Sp R w (L)) (h0 : Rf R L fun w => Blk w (gm) 237 #[.string (m.fName), .string (m.fHome), .slice (A1) (m.fSources.length) (c1), .string (m.fVersion), .string (m.fDescription), .slice (A2) (m.fKeywords.length) (c2), .slice (A3) (n3) (c3), .string (m.fIcon), .string (m.fAPIVersion), .string (m.fCondition), .string (m.fTags), .string (m.fAppVersion), .bool false, .map none, .string (m.fKubeVersion), .slice (A4) (n4) (c4), .string (m.fType)])  :
    Calls Try.prog 154 #[.pointer (some ⟨gm, 0, none⟩)] w fun e w' => ∃ b : Bool, ∃ g : Nat, e = .returned (errV b g) ∧ Sp R w' (L) ∧ (b = lapi m) := by
  refine fw_enter (fn := Try.f154) rfl rfl 22 rfl (Nat.le_of_ble_eq_true rfl) ?_
  intro a0 F0
  refine wp_seq_k fun K1 hK1 => ?_
  refine wp_region_lit ?_
  refine op_q F0 (.nilIface) ?_; intro a2 F2
  refine wpList_nil ?_
  refine hK1 _ _ ?_; clear hK1 K1
  refine wp_seq_k fun K3 hK3 => ?_
  refine wp_seq_k fun K4 hK4 => ?_
  refine wp_region_lit ?_
  refine op_q F2 (.pointer (some ⟨gm, 0, none⟩)) ?_; intro a5 F5
  refine op_q F5 (.pointer (some ⟨gm, 0, none⟩)) ?_; intro a6 F6
  refine op_q F6 (.pointer (some ⟨gm, 8, none⟩)) ?_; intro a7 F7
  refine op_rq (v := .string m.fAPIVersion) F7 (r_ld rfl (F7.e (.pointer (some ⟨gm, 8, none⟩))) (v := .string m.fAPIVersion) ((h0 _ S).cell 8) Try.underlying9 rfl) ?_; intro a8 F8
  refine op_q F8 (.bool (m.fAPIVersion.toList == (⟨#[]⟩ : ByteArray).toList)) ?_; intro a9 F9
  refine wpList_nil ?_
  refine hK4 _ _ ?_; clear hK4 K4
  rcases btf (m.fAPIVersion.toList == (⟨#[]⟩ : ByteArray).toList) with hc10 | hc10
  · have F11 := F9.sb 7 (by kernel_rfl) hc10
    refine wp_cond_true (F11.ev (by kernel_rfl)) ?_
    refine wp_seq_k fun K12 hK12 => ?_
    refine wp_region_lit ?_
    refine op_cq F11 (f := 173) (args := #[.string ⟨#[97, 112, 105, 86, 101, 114, 115, 105, 111, 110, 32, 105, 115, 32, 114, 101, 113, 117, 105, 114, 101, 100, 46, 32, 84, 104, 101, 32, 118, 97, 108, 117, 101, 32, 109, 117, 115, 116, 32, 98, 101, 32, 101, 105, 116, 104, 101, 114, 32, 34, 118, 49, 34, 32, 111, 114, 32, 34, 118, 50, 34]⟩]) (errNew_sp2 ⟨#[97, 112, 105, 86, 101, 114, 115, 105, 111, 110, 32, 105, 115, 32, 114, 101, 113, 117, 105, 114, 101, 100, 46, 32, 84, 104, 101, 32, 118, 97, 108, 117, 101, 32, 109, 117, 115, 116, 32, 98, 101, 32, 101, 105, 116, 104, 101, 114, 32, 34, 118, 49, 34, 32, 111, 114, 32, 34, 118, 50, 34]⟩ _ _ _ S ) ?_
    rintro _ w13 ⟨ge13, rfl, S13⟩
    refine ⟨_, rfl, ?_⟩
    intro a14 F14
    refine op_q F14 (.iface 279 (.pointer (some ⟨ge13, 0, none⟩))) ?_; intro a15 F15
    refine wpList_nil ?_
    refine hK12 _ _ ?_; clear hK12 K12
    refine wp_ret ?_
    refine ret_then ?_
    refine (F15.res1 rfl (v := .iface 279 (.pointer (some ⟨ge13, 0, none⟩))) (by kernel_rfl) ?_).1
    exact ⟨true, ge13, rfl, S13.drop, (by simp only [lapi, isV1, isV2, hc10]; rfl)⟩
  · have F16 := F9.sb 7 (by kernel_rfl) hc10
    refine wp_cond_false (F16.ev (by kernel_rfl)) ?_
    refine wp_skip ?_
    refine hK3 _ _ ?_; clear hK3 K3
    refine wp_seq_k fun K17 hK17 => ?_
    refine wp_seq_k fun K18 hK18 => ?_
    refine wp_region_lit ?_
    refine op_q F16 (.pointer (some ⟨gm, 0, none⟩)) ?_; intro a19 F19
    refine op_q F19 (.pointer (some ⟨gm, 0, none⟩)) ?_; intro a20 F20
    refine op_q F20 (.pointer (some ⟨gm, 8, none⟩)) ?_; intro a21 F21
    refine op_rq (v := .string m.fAPIVersion) F21 (r_ld rfl (F21.e (.pointer (some ⟨gm, 8, none⟩))) (v := .string m.fAPIVersion) ((h0 _ S).cell 8) Try.underlying9 rfl) ?_; intro a22 F22
    refine op_q F22 (.bool (!(m.fAPIVersion.toList == (⟨#[118, 49]⟩ : ByteArray).toList))) ?_; intro a23 F23
    refine op_q F23 (.bool (!(m.fAPIVersion.toList == (⟨#[118, 49]⟩ : ByteArray).toList))) ?_; intro a24 F24
    rcases btf (m.fAPIVersion.toList == (⟨#[118, 49]⟩ : ByteArray).toList) with hc25 | hc25
    · have F26 := F24.sb 13 (by kernel_rfl) (show (!(m.fAPIVersion.toList == (⟨#[118, 49]⟩ : ByteArray).toList)) = false by rw [hc25]; rfl)
      have F27 := F26.sb 14 (by kernel_rfl) (show (!(m.fAPIVersion.toList == (⟨#[118, 49]⟩ : ByteArray).toList)) = false by rw [hc25]; rfl)
      refine op_kq F27 ?_; intro a28 F28
      refine op_kq F28 ?_; intro a29 F29
      refine op_kq F29 ?_; intro a30 F30
      refine op_kq F30 ?_; intro a31 F31
      refine op_kq F31 ?_; intro a32 F32
      refine op_q F32 (.bool false) ?_; intro a33 F33
      refine wpList_nil ?_
      refine hK18 _ _ ?_; clear hK18 K18
      refine wp_cond_false (F33.ev (by kernel_rfl)) ?_
      refine wp_skip ?_
      refine hK17 _ _ ?_; clear hK17 K17
      refine wp_seq_k fun K34 hK34 => ?_
      refine wp_region_lit ?_
      refine op_q F33 (.nilIface) ?_; intro a35 F35
      refine wpList_nil ?_
      refine hK34 _ _ ?_; clear hK34 K34
      refine wp_ret ?_
      refine (F35.res1 rfl (v := .nilIface) (by kernel_rfl) ?_).1
      exact ⟨false, 0, rfl, S, (by simp only [lapi, isV1, isV2, hc10, hc25]; rfl)⟩
    · have F36 := F24.sb 13 (by kernel_rfl) (show (!(m.fAPIVersion.toList == (⟨#[118, 49]⟩ : ByteArray).toList)) = true by rw [hc25]; rfl)
      have F37 := F36.sb 14 (by kernel_rfl) (show (!(m.fAPIVersion.toList == (⟨#[118, 49]⟩ : ByteArray).toList)) = true by rw [hc25]; rfl)
      refine op_wq F37 ?_
      refine op_q F37 (.pointer (some ⟨gm, 0, none⟩)) ?_; intro a38 F38
      refine op_wq F38 ?_
      refine op_q F38 (.pointer (some ⟨gm, 0, none⟩)) ?_; intro a39 F39
      refine op_wq F39 ?_
      refine op_q F39 (.pointer (some ⟨gm, 8, none⟩)) ?_; intro a40 F40
      refine op_wq F40 ?_
      refine op_rq (v := .string m.fAPIVersion) F40 (r_ld rfl (F40.e (.pointer (some ⟨gm, 8, none⟩))) (v := .string m.fAPIVersion) ((h0 _ S).cell 8) Try.underlying9 rfl) ?_; intro a41 F41
      refine op_wq F41 ?_
      refine op_q F41 (.bool (!(m.fAPIVersion.toList == (⟨#[118, 50]⟩ : ByteArray).toList))) ?_; intro a42 F42
      refine op_q F42 (.bool (!(m.fAPIVersion.toList == (⟨#[118, 50]⟩ : ByteArray).toList))) ?_; intro a43 F43
      refine wpList_nil ?_
      refine hK18 _ _ ?_; clear hK18 K18
      rcases btf (m.fAPIVersion.toList == (⟨#[118, 50]⟩ : ByteArray).toList) with hc44 | hc44
      · have F45 := F43.sb 19 (by kernel_rfl) (show (!(m.fAPIVersion.toList == (⟨#[118, 50]⟩ : ByteArray).toList)) = false by rw [hc44]; rfl)
        have F46 := F45.sb 20 (by kernel_rfl) (show (!(m.fAPIVersion.toList == (⟨#[118, 50]⟩ : ByteArray).toList)) = false by rw [hc44]; rfl)
        refine wp_cond_false (F46.ev (by kernel_rfl)) ?_
        refine wp_skip ?_
        refine hK17 _ _ ?_; clear hK17 K17
        refine wp_seq_k fun K47 hK47 => ?_
        refine wp_region_lit ?_
        refine op_q F46 (.nilIface) ?_; intro a48 F48
        refine wpList_nil ?_
        refine hK47 _ _ ?_; clear hK47 K47
        refine wp_ret ?_
        refine (F48.res1 rfl (v := .nilIface) (by kernel_rfl) ?_).1
        exact ⟨false, 0, rfl, S, (by simp only [lapi, isV1, isV2, hc10, hc25, hc44]; rfl)⟩
      · have F49 := F43.sb 19 (by kernel_rfl) (show (!(m.fAPIVersion.toList == (⟨#[118, 50]⟩ : ByteArray).toList)) = true by rw [hc44]; rfl)
        have F50 := F49.sb 20 (by kernel_rfl) (show (!(m.fAPIVersion.toList == (⟨#[118, 50]⟩ : ByteArray).toList)) = true by rw [hc44]; rfl)
        refine wp_cond_true (F50.ev (by kernel_rfl)) ?_
        refine wp_seq_k fun K51 hK51 => ?_
        refine wp_region_lit ?_
        refine op_cq F50 (f := 173) (args := #[.string ⟨#[97, 112, 105, 86, 101, 114, 115, 105, 111, 110, 32, 39]⟩]) (errNew_sp2 ⟨#[97, 112, 105, 86, 101, 114, 115, 105, 111, 110, 32, 39]⟩ _ _ _ S ) ?_
        rintro _ w52 ⟨ge52, rfl, S52⟩
        refine ⟨_, rfl, ?_⟩
        intro a53 F53
        refine op_q F53 (.iface 279 (.pointer (some ⟨ge52, 0, none⟩))) ?_; intro a54 F54
        refine wpList_nil ?_
        refine hK51 _ _ ?_; clear hK51 K51
        refine wp_ret ?_
        refine ret_then ?_
        refine (F54.res1 rfl (v := .iface 279 (.pointer (some ⟨ge52, 0, none⟩))) (by kernel_rfl) ?_).1
        exact ⟨true, ge52, rfl, S52.drop, (by simp only [lapi, isV1, isV2, hc10, hc25, hc44]; rfl)⟩
set_option maxRecDepth 100000 in
set_option maxHeartbeats 20000000 in
theorem rIcon (m : Ty26) (gm : Nat) (A1 : Option Addr) (c1 : Nat) (A2 : Option Addr) (c2 : Nat) (A3 : Option Addr) (n3 : Nat) (c3 : Nat) (A4 : Option Addr) (n4 : Nat) (c4 : Nat) (R : Ctx) (L : List SA) (w : World) (S : Sp R w (L)) (h0 : Rf R L fun w => Blk w (gm) 237 #[.string (m.fName), .string (m.fHome), .slice (A1) (m.fSources.length) (c1), .string (m.fVersion), .string (m.fDescription), .slice (A2) (m.fKeywords.length) (c2), .slice (A3) (n3) (c3), .string (m.fIcon), .string (m.fAPIVersion), .string (m.fCondition), .string (m.fTags), .string (m.fAppVersion), .bool false, .map none, .string (m.fKubeVersion), .slice (A4) (n4) (c4), .string (m.fType)])  :
    Calls Try.prog 157 #[.pointer (some ⟨gm, 0, none⟩)] w fun e w' => ∃ b : Bool, ∃ g : Nat, e = .returned (errV b g) ∧ Sp R w' (L) ∧ (b = (m.fIcon.toList == (⟨#[]⟩ : ByteArray).toList)) := by
  refine fw_enter (fn := Try.f157) rfl rfl 9 rfl (Nat.le_of_ble_eq_true rfl) ?_
  intro a0 F0
  refine wp_seq_k fun K1 hK1 => ?_
  refine wp_region_lit ?_
  refine op_q F0 (.nilIface) ?_; intro a2 F2
  refine wpList_nil ?_
  refine hK1 _ _ ?_; clear hK1 K1
  refine wp_seq_k fun K3 hK3 => ?_
  refine wp_seq_k fun K4 hK4 => ?_
  refine wp_region_lit ?_
  refine op_q F2 (.pointer (some ⟨gm, 0, none⟩)) ?_; intro a5 F5
  refine op_q F5 (.pointer (some ⟨gm, 0, none⟩)) ?_; intro a6 F6
  refine op_q F6 (.pointer (some ⟨gm, 7, none⟩)) ?_; intro a7 F7
  refine op_rq (v := .string m.fIcon) F7 (r_ld rfl (F7.e (.pointer (some ⟨gm, 7, none⟩))) (v := .string m.fIcon) ((h0 _ S).cell 7) Try.underlying9 rfl) ?_; intro a8 F8
  refine op_q F8 (.bool (m.fIcon.toList == (⟨#[]⟩ : ByteArray).toList)) ?_; intro a9 F9
  refine wpList_nil ?_
  refine hK4 _ _ ?_; clear hK4 K4
  rcases btf (m.fIcon.toList == (⟨#[]⟩ : ByteArray).toList) with hc10 | hc10
  · have F11 := F9.sb 7 (by kernel_rfl) hc10
    refine wp_cond_true (F11.ev (by kernel_rfl)) ?_
    refine wp_seq_k fun K12 hK12 => ?_
    refine wp_region_lit ?_
    refine op_cq F11 (f := 173) (args := #[.string ⟨#[105, 99, 111, 110, 32, 105, 115, 32, 114, 101, 99, 111, 109, 109, 101, 110, 100, 101, 100]⟩]) (errNew_sp2 ⟨#[105, 99, 111, 110, 32, 105, 115, 32, 114, 101, 99, 111, 109, 109, 101, 110, 100, 101, 100]⟩ _ _ _ S ) ?_
    rintro _ w13 ⟨ge13, rfl, S13⟩
    refine ⟨_, rfl, ?_⟩
    intro a14 F14
    refine op_q F14 (.iface 279 (.pointer (some ⟨ge13, 0, none⟩))) ?_; intro a15 F15
    refine wpList_nil ?_
    refine hK12 _ _ ?_; clear hK12 K12
    refine wp_ret ?_
    refine ret_then ?_
    refine (F15.res1 rfl (v := .iface 279 (.pointer (some ⟨ge13, 0, none⟩))) (by kernel_rfl) ?_).1
    exact ⟨true, ge13, rfl, S13.drop, hc10.symm⟩
  · have F16 := F9.sb 7 (by kernel_rfl) hc10
    refine wp_cond_false (F16.ev (by kernel_rfl)) ?_
    refine wp_skip ?_
    refine hK3 _ _ ?_; clear hK3 K3
    refine wp_seq_k fun K17 hK17 => ?_
    refine wp_region_lit ?_
    refine op_q F16 (.nilIface) ?_; intro a18 F18
    refine wpList_nil ?_
    refine hK17 _ _ ?_; clear hK17 K17
    refine wp_ret ?_
    refine (F18.res1 rfl (v := .nilIface) (by kernel_rfl) ?_).1
    exact ⟨false, 0, rfl, S, hc10.symm⟩
set_option maxRecDepth 100000 in
set_option maxHeartbeats 20000000 in
theorem rType (m : Ty26) (gm : Nat) (A1 : Option Addr) (c1 : Nat) (A2 : Option Addr) (c2 : Nat) (A3 : Option Addr) (n3 : Nat) (c3 : Nat) (A4 : Option Addr) (n4 : Nat) (c4 : Nat) (R : Ctx) (L : List SA) (w : World) (S : Sp R w (L)) (h0 : Rf R L fun w => Blk w (gm) 237 #[.string (m.fName), .string (m.fHome), .slice (A1) (m.fSources.length) (c1), .string (m.fVersion), .string (m.fDescription), .slice (A2) (m.fKeywords.length) (c2), .slice (A3) (n3) (c3), .string (m.fIcon), .string (m.fAPIVersion), .string (m.fCondition), .string (m.fTags), .string (m.fAppVersion), .bool false, .map none, .string (m.fKubeVersion), .slice (A4) (n4) (c4), .string (m.fType)])  :
    Calls Try.prog 158 #[.pointer (some ⟨gm, 0, none⟩)] w fun e w' => ∃ b : Bool, ∃ g : Nat, e = .returned (errV b g) ∧ Sp R w' (L) ∧ (b = ltype m) := by
  refine fw_enter (fn := Try.f158) rfl rfl 17 rfl (Nat.le_of_ble_eq_true rfl) ?_
  intro a0 F0
  refine wp_seq_k fun K1 hK1 => ?_
  refine wp_region_lit ?_
  refine op_q F0 (.nilIface) ?_; intro a2 F2
  refine wpList_nil ?_
  refine hK1 _ _ ?_; clear hK1 K1
  refine wp_seq_k fun K3 hK3 => ?_
  refine wp_seq_k fun K4 hK4 => ?_
  refine wp_region_lit ?_
  refine op_q F2 (.pointer (some ⟨gm, 0, none⟩)) ?_; intro a5 F5
  refine op_q F5 (.pointer (some ⟨gm, 0, none⟩)) ?_; intro a6 F6
  refine op_q F6 (.pointer (some ⟨gm, 16, none⟩)) ?_; intro a7 F7
  refine op_rq (v := .string m.fType) F7 (r_ld rfl (F7.e (.pointer (some ⟨gm, 16, none⟩))) (v := .string m.fType) ((h0 _ S).cell 16) Try.underlying9 rfl) ?_; intro a8 F8
  refine op_q F8 (.int .i64 (↑m.fType.size)) ?_; intro a9 F9
  refine op_q F9 (.bool (decide ((0 : Int) < ↑m.fType.size))) ?_; intro a10 F10
  refine op_q F10 (.bool (decide ((0 : Int) < ↑m.fType.size))) ?_; intro a11 F11
  rcases btf (decide ((0 : Int) < ↑m.fType.size)) with hc12 | hc12
  · have hc12p := of_decide_eq_true hc12
    have F13 := F11.sb 8 (by kernel_rfl) hc12
    have F14 := F13.sb 9 (by kernel_rfl) hc12
    refine op_wq F14 ?_
    refine op_q F14 (.pointer (some ⟨gm, 0, none⟩)) ?_; intro a15 F15
    refine op_wq F15 ?_
    refine op_q F15 (.pointer (some ⟨gm, 0, none⟩)) ?_; intro a16 F16
    refine op_wq F16 ?_
    refine op_q F16 (.pointer (some ⟨gm, 8, none⟩)) ?_; intro a17 F17
    refine op_wq F17 ?_
    refine op_rq (v := .string m.fAPIVersion) F17 (r_ld rfl (F17.e (.pointer (some ⟨gm, 8, none⟩))) (v := .string m.fAPIVersion) ((h0 _ S).cell 8) Try.underlying9 rfl) ?_; intro a18 F18
    refine op_wq F18 ?_
    refine op_q F18 (.bool (!(m.fAPIVersion.toList == (⟨#[118, 50]⟩ : ByteArray).toList))) ?_; intro a19 F19
    refine op_q F19 (.bool (!(m.fAPIVersion.toList == (⟨#[118, 50]⟩ : ByteArray).toList))) ?_; intro a20 F20
    refine wpList_nil ?_
    refine hK4 _ _ ?_; clear hK4 K4
    rcases btf (m.fAPIVersion.toList == (⟨#[118, 50]⟩ : ByteArray).toList) with hc21 | hc21
    · have F22 := F20.sb 14 (by kernel_rfl) (show (!(m.fAPIVersion.toList == (⟨#[118, 50]⟩ : ByteArray).toList)) = false by rw [hc21]; rfl)
      have F23 := F22.sb 15 (by kernel_rfl) (show (!(m.fAPIVersion.toList == (⟨#[118, 50]⟩ : ByteArray).toList)) = false by rw [hc21]; rfl)
      refine wp_cond_false (F23.ev (by kernel_rfl)) ?_
      refine wp_skip ?_
      refine hK3 _ _ ?_; clear hK3 K3
      refine wp_seq_k fun K24 hK24 => ?_
      refine wp_region_lit ?_
      refine op_q F23 (.nilIface) ?_; intro a25 F25
      refine wpList_nil ?_
      refine hK24 _ _ ?_; clear hK24 K24
      refine wp_ret ?_
      refine (F25.res1 rfl (v := .nilIface) (by kernel_rfl) ?_).1
      exact ⟨false, 0, rfl, S, (by simp only [ltype, isV2, hc12, hc21]; rfl)⟩
    · have F26 := F20.sb 14 (by kernel_rfl) (show (!(m.fAPIVersion.toList == (⟨#[118, 50]⟩ : ByteArray).toList)) = true by rw [hc21]; rfl)
      have F27 := F26.sb 15 (by kernel_rfl) (show (!(m.fAPIVersion.toList == (⟨#[118, 50]⟩ : ByteArray).toList)) = true by rw [hc21]; rfl)
      refine wp_cond_true (F27.ev (by kernel_rfl)) ?_
      refine wp_seq_k fun K28 hK28 => ?_
      refine wp_region_lit ?_
      refine op_cq F27 (f := 173) (args := #[.string ⟨#[99, 104, 97, 114, 116, 32, 116, 121, 112, 101, 32, 105, 115, 32, 110, 111, 116, 32, 118, 97, 108, 105, 100, 32, 105, 110, 32, 97, 112, 105, 86, 101, 114, 115, 105, 111, 110, 32, 39]⟩]) (errNew_sp2 ⟨#[99, 104, 97, 114, 116, 32, 116, 121, 112, 101, 32, 105, 115, 32, 110, 111, 116, 32, 118, 97, 108, 105, 100, 32, 105, 110, 32, 97, 112, 105, 86, 101, 114, 115, 105, 111, 110, 32, 39]⟩ _ _ _ S ) ?_
      rintro _ w29 ⟨ge29, rfl, S29⟩
      refine ⟨_, rfl, ?_⟩
      intro a30 F30
      refine op_q F30 (.iface 279 (.pointer (some ⟨ge29, 0, none⟩))) ?_; intro a31 F31
      refine wpList_nil ?_
      refine hK28 _ _ ?_; clear hK28 K28
      refine wp_ret ?_
      refine ret_then ?_
      refine (F31.res1 rfl (v := .iface 279 (.pointer (some ⟨ge29, 0, none⟩))) (by kernel_rfl) ?_).1
      exact ⟨true, ge29, rfl, S29.drop, (by simp only [ltype, isV2, hc12, hc21]; rfl)⟩
  · have hc12p := of_decide_eq_false hc12
    have F32 := F11.sb 8 (by kernel_rfl) hc12
    have F33 := F32.sb 9 (by kernel_rfl) hc12
    refine op_kq F33 ?_; intro a34 F34
    refine op_kq F34 ?_; intro a35 F35
    refine op_kq F35 ?_; intro a36 F36
    refine op_kq F36 ?_; intro a37 F37
    refine op_kq F37 ?_; intro a38 F38
    refine op_q F38 (.bool false) ?_; intro a39 F39
    refine wpList_nil ?_
    refine hK4 _ _ ?_; clear hK4 K4
    refine wp_cond_false (F39.ev (by kernel_rfl)) ?_
    refine wp_skip ?_
    refine hK3 _ _ ?_; clear hK3 K3
    refine wp_seq_k fun K40 hK40 => ?_
    refine wp_region_lit ?_
    refine op_q F39 (.nilIface) ?_; intro a41 F41
    refine wpList_nil ?_
    refine hK40 _ _ ?_; clear hK40 K40
    refine wp_ret ?_
    refine (F41.res1 rfl (v := .nilIface) (by kernel_rfl) ?_).1
    exact ⟨false, 0, rfl, S, (by simp only [ltype, isV2, hc12]; rfl)⟩
set_option maxRecDepth 100000 in
set_option maxHeartbeats 20000000 in
theorem rDeps (m : Ty26) (gm : Nat) (A1 : Option Addr) (c1 : Nat) (A2 : Option Addr) (c2 : Nat) (A3 : Option Addr) (n3 : Nat) (c3 : Nat) (A4 : Option Addr) (n4 : Nat) (c4 : Nat) (R : Ctx) (L : List SA) (w : World) (S : Sp R w (L)) (h0 : Rf R L fun w => Blk w (gm) 237 #[.string (m.fName), .string (m.fHome), .slice (A1) (m.fSources.length) (c1), .string (m.fVersion), .string (m.fDescription), .slice (A2) (m.fKeywords.length) (c2), .slice (A3) (n3) (c3), .string (m.fIcon), .string (m.fAPIVersion), .string (m.fCondition), .string (m.fTags), .string (m.fAppVersion), .bool false, .map none, .string (m.fKubeVersion), .slice (A4) (n4) (c4), .string (m.fType)]) (hn4 : n4 = m.fDependencies.length) :
    Calls Try.prog 159 #[.pointer (some ⟨gm, 0, none⟩)] w fun e w' => ∃ b : Bool, ∃ g : Nat, e = .returned (errV b g) ∧ Sp R w' (L) ∧ (b = ldep m) := by
  refine fw_enter (fn := Try.f159) rfl rfl 17 rfl (Nat.le_of_ble_eq_true rfl) ?_
  intro a0 F0
  refine wp_seq_k fun K1 hK1 => ?_
  refine wp_region_lit ?_
  refine op_q F0 (.nilIface) ?_; intro a2 F2
  refine wpList_nil ?_
  refine hK1 _ _ ?_; clear hK1 K1
  refine wp_seq_k fun K3 hK3 => ?_
  refine wp_seq_k fun K4 hK4 => ?_
  refine wp_region_lit ?_
  refine op_q F2 (.pointer (some ⟨gm, 0, none⟩)) ?_; intro a5 F5
  refine op_q F5 (.pointer (some ⟨gm, 0, none⟩)) ?_; intro a6 F6
  refine op_q F6 (.pointer (some ⟨gm, 15, none⟩)) ?_; intro a7 F7
  refine op_rq (v := .slice (A4) (n4) (c4)) F7 (r_ld rfl (F7.e (.pointer (some ⟨gm, 15, none⟩))) (v := .slice (A4) (n4) (c4)) ((h0 _ S).cell 15) Try.underlying235 rfl) ?_; intro a8 F8
  refine op_q F8 (.int .i64 (↑n4)) ?_; intro a9 F9
  refine op_q F9 (.bool (decide ((0 : Int) < ↑n4))) ?_; intro a10 F10
  refine op_q F10 (.bool (decide ((0 : Int) < ↑n4))) ?_; intro a11 F11
  rcases btf (decide ((0 : Int) < ↑n4)) with hc12 | hc12
  · have hc12p := of_decide_eq_true hc12
    have F13 := F11.sb 8 (by kernel_rfl) hc12
    have F14 := F13.sb 9 (by kernel_rfl) hc12
    refine op_wq F14 ?_
    refine op_q F14 (.pointer (some ⟨gm, 0, none⟩)) ?_; intro a15 F15
    refine op_wq F15 ?_
    refine op_q F15 (.pointer (some ⟨gm, 0, none⟩)) ?_; intro a16 F16
    refine op_wq F16 ?_
    refine op_q F16 (.pointer (some ⟨gm, 8, none⟩)) ?_; intro a17 F17
    refine op_wq F17 ?_
    refine op_rq (v := .string m.fAPIVersion) F17 (r_ld rfl (F17.e (.pointer (some ⟨gm, 8, none⟩))) (v := .string m.fAPIVersion) ((h0 _ S).cell 8) Try.underlying9 rfl) ?_; intro a18 F18
    refine op_wq F18 ?_
    refine op_q F18 (.bool (!(m.fAPIVersion.toList == (⟨#[118, 50]⟩ : ByteArray).toList))) ?_; intro a19 F19
    refine op_q F19 (.bool (!(m.fAPIVersion.toList == (⟨#[118, 50]⟩ : ByteArray).toList))) ?_; intro a20 F20
    refine wpList_nil ?_
    refine hK4 _ _ ?_; clear hK4 K4
    rcases btf (m.fAPIVersion.toList == (⟨#[118, 50]⟩ : ByteArray).toList) with hc21 | hc21
    · have F22 := F20.sb 14 (by kernel_rfl) (show (!(m.fAPIVersion.toList == (⟨#[118, 50]⟩ : ByteArray).toList)) = false by rw [hc21]; rfl)
      have F23 := F22.sb 15 (by kernel_rfl) (show (!(m.fAPIVersion.toList == (⟨#[118, 50]⟩ : ByteArray).toList)) = false by rw [hc21]; rfl)
      refine wp_cond_false (F23.ev (by kernel_rfl)) ?_
      refine wp_skip ?_
      refine hK3 _ _ ?_; clear hK3 K3
      refine wp_seq_k fun K24 hK24 => ?_
      refine wp_region_lit ?_
      refine op_q F23 (.nilIface) ?_; intro a25 F25
      refine wpList_nil ?_
      refine hK24 _ _ ?_; clear hK24 K24
      refine wp_ret ?_
      refine (F25.res1 rfl (v := .nilIface) (by kernel_rfl) ?_).1
      exact ⟨false, 0, rfl, S, (by simp only [ldep, isV2, ← hn4, hc12, hc21]; rfl)⟩
    · have F26 := F20.sb 14 (by kernel_rfl) (show (!(m.fAPIVersion.toList == (⟨#[118, 50]⟩ : ByteArray).toList)) = true by rw [hc21]; rfl)
      have F27 := F26.sb 15 (by kernel_rfl) (show (!(m.fAPIVersion.toList == (⟨#[118, 50]⟩ : ByteArray).toList)) = true by rw [hc21]; rfl)
      refine wp_cond_true (F27.ev (by kernel_rfl)) ?_
      refine wp_seq_k fun K28 hK28 => ?_
      refine wp_region_lit ?_
      refine op_cq F27 (f := 173) (args := #[.string ⟨#[100, 101, 112, 101, 110, 100, 101, 110, 99, 105, 101, 115, 32, 97, 114, 101, 32, 110, 111, 116, 32, 118, 97, 108, 105, 100, 32, 105, 110, 32, 116, 104, 101, 32, 67, 104, 97, 114, 116, 32, 102, 105, 108, 101, 32, 119, 105, 116, 104, 32, 97, 112, 105, 86, 101, 114, 115, 105, 111, 110, 32, 39]⟩]) (errNew_sp2 ⟨#[100, 101, 112, 101, 110, 100, 101, 110, 99, 105, 101, 115, 32, 97, 114, 101, 32, 110, 111, 116, 32, 118, 97, 108, 105, 100, 32, 105, 110, 32, 116, 104, 101, 32, 67, 104, 97, 114, 116, 32, 102, 105, 108, 101, 32, 119, 105, 116, 104, 32, 97, 112, 105, 86, 101, 114, 115, 105, 111, 110, 32, 39]⟩ _ _ _ S ) ?_
      rintro _ w29 ⟨ge29, rfl, S29⟩
      refine ⟨_, rfl, ?_⟩
      intro a30 F30
      refine op_q F30 (.iface 279 (.pointer (some ⟨ge29, 0, none⟩))) ?_; intro a31 F31
      refine wpList_nil ?_
      refine hK28 _ _ ?_; clear hK28 K28
      refine wp_ret ?_
      refine ret_then ?_
      refine (F31.res1 rfl (v := .iface 279 (.pointer (some ⟨ge29, 0, none⟩))) (by kernel_rfl) ?_).1
      exact ⟨true, ge29, rfl, S29.drop, (by simp only [ldep, isV2, ← hn4, hc12, hc21]; rfl)⟩
  · have hc12p := of_decide_eq_false hc12
    have F32 := F11.sb 8 (by kernel_rfl) hc12
    have F33 := F32.sb 9 (by kernel_rfl) hc12
    refine op_kq F33 ?_; intro a34 F34
    refine op_kq F34 ?_; intro a35 F35
    refine op_kq F35 ?_; intro a36 F36
    refine op_kq F36 ?_; intro a37 F37
    refine op_kq F37 ?_; intro a38 F38
    refine op_q F38 (.bool false) ?_; intro a39 F39
    refine wpList_nil ?_
    refine hK4 _ _ ?_; clear hK4 K4
    refine wp_cond_false (F39.ev (by kernel_rfl)) ?_
    refine wp_skip ?_
    refine hK3 _ _ ?_; clear hK3 K3
    refine wp_seq_k fun K40 hK40 => ?_
    refine wp_region_lit ?_
    refine op_q F39 (.nilIface) ?_; intro a41 F41
    refine wpList_nil ?_
    refine hK40 _ _ ?_; clear hK40 K40
    refine wp_ret ?_
    refine (F41.res1 rfl (v := .nilIface) (by kernel_rfl) ?_).1
    exact ⟨false, 0, rfl, S, (by simp only [ldep, isV2, ← hn4, hc12]; rfl)⟩
set_option maxRecDepth 100000 in
set_option maxHeartbeats 20000000 in
theorem rVer (m : Ty26) (gm : Nat) (A1 : Option Addr) (c1 : Nat) (A2 : Option Addr) (c2 : Nat) (A3 : Option Addr) (n3 : Nat) (c3 : Nat) (A4 : Option Addr) (n4 : Nat) (c4 : Nat) (R : Ctx) (L : List SA) (w : World) (S : Sp R w (L)) (h0 : Rf R L fun w => Blk w (gm) 237 #[.string (m.fName), .string (m.fHome), .slice (A1) (m.fSources.length) (c1), .string (m.fVersion), .string (m.fDescription), .slice (A2) (m.fKeywords.length) (c2), .slice (A3) (n3) (c3), .string (m.fIcon), .string (m.fAPIVersion), .string (m.fCondition), .string (m.fTags), .string (m.fAppVersion), .bool false, .map none, .string (m.fKubeVersion), .slice (A4) (n4) (c4), .string (m.fType)]) (hvz : m.fVersion.size ≤ 1000000) (hv : m.fVersion.size = 0 ∨ plainB m.fVersion = true ∨ errB m.fVersion = true) :
    Calls Try.prog 155 #[.pointer (some ⟨gm, 0, none⟩)] w fun e w' => ∃ b : Bool, ∃ g : Nat, e = .returned (errV b g) ∧ Sp R w' (L) ∧ (b = !plainB m.fVersion) := by
  refine fw_enter (fn := Try.f155) rfl rfl 22 rfl (Nat.le_of_ble_eq_true rfl) ?_
  intro a0 F0
  refine wp_seq_k fun K1 hK1 => ?_
  refine wp_region_lit ?_
  refine op_q F0 (.nilIface) ?_; intro a2 F2
  refine wpList_nil ?_
  refine hK1 _ _ ?_; clear hK1 K1
  refine wp_seq_k fun K3 hK3 => ?_
  refine wp_seq_k fun K4 hK4 => ?_
  refine wp_region_lit ?_
  refine op_q F2 (.pointer (some ⟨gm, 0, none⟩)) ?_; intro a5 F5
  refine op_q F5 (.pointer (some ⟨gm, 0, none⟩)) ?_; intro a6 F6
  refine op_q F6 (.pointer (some ⟨gm, 3, none⟩)) ?_; intro a7 F7
  refine op_rq (v := .string m.fVersion) F7 (r_ld rfl (F7.e (.pointer (some ⟨gm, 3, none⟩))) (v := .string m.fVersion) ((h0 _ S).cell 3) Try.underlying9 rfl) ?_; intro a8 F8
  refine op_q F8 (.bool (m.fVersion.toList == (⟨#[]⟩ : ByteArray).toList)) ?_; intro a9 F9
  refine wpList_nil ?_
  refine hK4 _ _ ?_; clear hK4 K4
  rcases btf (m.fVersion.toList == (⟨#[]⟩ : ByteArray).toList) with hc10 | hc10
  · have F11 := F9.sb 9 (by kernel_rfl) hc10
    refine wp_cond_true (F11.ev (by kernel_rfl)) ?_
    refine wp_seq_k fun K12 hK12 => ?_
    refine wp_region_lit ?_
    refine op_cq F11 (f := 173) (args := #[.string ⟨#[118, 101, 114, 115, 105, 111, 110, 32, 105, 115, 32, 114, 101, 113, 117, 105, 114, 101, 100]⟩]) (errNew_sp2 ⟨#[118, 101, 114, 115, 105, 111, 110, 32, 105, 115, 32, 114, 101, 113, 117, 105, 114, 101, 100]⟩ _ _ _ S ) ?_
    rintro _ w13 ⟨ge13, rfl, S13⟩
    refine ⟨_, rfl, ?_⟩
    intro a14 F14
    refine op_q F14 (.iface 279 (.pointer (some ⟨ge13, 0, none⟩))) ?_; intro a15 F15
    refine wpList_nil ?_
    refine hK12 _ _ ?_; clear hK12 K12
    refine wp_ret ?_
    refine ret_then ?_
    refine (F15.res1 rfl (v := .iface 279 (.pointer (some ⟨ge13, 0, none⟩))) (by kernel_rfl) ?_).1
    exact ⟨true, ge13, rfl, S13.drop, (by rw [show m.fVersion = ⟨#[]⟩ from bytes_eqL hc10]; decide)⟩
  · have hvp := emp_pos hc10
    have F16 := F9.sb 9 (by kernel_rfl) hc10
    refine wp_cond_false (F16.ev (by kernel_rfl)) ?_
    refine wp_skip ?_
    refine hK3 _ _ ?_; clear hK3 K3
    refine wp_seq_k fun K17 hK17 => ?_
    rcases hv with hv | hv | hv
    · omega
    · refine wp_region_lit ?_
      refine op_q F16 (.pointer (some ⟨gm, 0, none⟩)) ?_; intro a18 F18
      refine op_q F18 (.pointer (some ⟨gm, 0, none⟩)) ?_; intro a19 F19
      refine op_q F19 (.pointer (some ⟨gm, 3, none⟩)) ?_; intro a20 F20
      refine op_rq (v := .string m.fVersion) F20 (r_ld rfl (F20.e (.pointer (some ⟨gm, 3, none⟩))) (v := .string m.fVersion) ((h0 _ S).cell 3) Try.underlying9 rfl) ?_; intro a21 F21
      refine op_cq F21 (f := 171) (args := #[.string m.fVersion]) (newVer_p2 m.fVersion _ _ _ S (by first | omega | (simp; done) | (simp; omega)) hv) ?_
      rintro _ w22 ⟨g22, rfl, S22⟩
      refine ⟨_, rfl, ?_⟩
      intro a23 F23
      refine op_q F23 (.tuple #[.pointer (some ⟨g22, 0, none⟩), .nilIface]) ?_; intro a24 F24
      refine op_q F24 (.pointer (some ⟨g22, 0, none⟩)) ?_; intro a25 F25
      refine op_q F25 (.nilIface) ?_; intro a26 F26
      refine op_q F26 (.pointer (some ⟨g22, 0, none⟩)) ?_; intro a27 F27
      refine op_q F27 (.nilIface) ?_; intro a28 F28
      refine wpList_nil ?_
      refine hK17 _ _ ?_; clear hK17 K17
      refine wp_seq_k fun K29 hK29 => ?_
      refine wp_seq_k fun K30 hK30 => ?_
      refine wp_region_lit ?_
      refine op_q F28 (.nilIface) ?_; intro a31 F31
      refine op_q F31 (.bool false) ?_; intro a32 F32
      refine wpList_nil ?_
      refine hK30 _ _ ?_; clear hK30 K30
      refine wp_cond_false (F32.ev (by kernel_rfl)) ?_
      refine wp_skip ?_
      refine hK29 _ _ ?_; clear hK29 K29
      refine wp_seq_k fun K33 hK33 => ?_
      refine wp_region_lit ?_
      refine op_q F32 (.nilIface) ?_; intro a34 F34
      refine wpList_nil ?_
      refine hK33 _ _ ?_; clear hK33 K33
      refine wp_ret ?_
      refine (F34.res1 rfl (v := .nilIface) (by kernel_rfl) ?_).1
      exact ⟨false, 0, rfl, S22, (by rw [hv]; rfl)⟩
    · refine wp_region_lit ?_
      refine op_q F16 (.pointer (some ⟨gm, 0, none⟩)) ?_; intro a35 F35
      refine op_q F35 (.pointer (some ⟨gm, 0, none⟩)) ?_; intro a36 F36
      refine op_q F36 (.pointer (some ⟨gm, 3, none⟩)) ?_; intro a37 F37
      refine op_rq (v := .string m.fVersion) F37 (r_ld rfl (F37.e (.pointer (some ⟨gm, 3, none⟩))) (v := .string m.fVersion) ((h0 _ S).cell 3) Try.underlying9 rfl) ?_; intro a38 F38
      refine op_cq F38 (f := 171) (args := #[.string m.fVersion]) (newVer_err m.fVersion _ (by first | omega | (simp; done) | (simp; omega)) hv) ?_
      rintro _ w39 ⟨g39, rfl, hb_39⟩
      refine ⟨_, rfl, ?_⟩
      intro a40 F40
      have S39 := S.below hb_39
      refine op_q F40 (.tuple #[.pointer none, .iface 279 (.pointer (some ⟨g39, 0, none⟩))]) ?_; intro a41 F41
      refine op_q F41 (.pointer none) ?_; intro a42 F42
      refine op_q F42 (.iface 279 (.pointer (some ⟨g39, 0, none⟩))) ?_; intro a43 F43
      refine op_q F43 (.pointer none) ?_; intro a44 F44
      refine op_q F44 (.iface 279 (.pointer (some ⟨g39, 0, none⟩))) ?_; intro a45 F45
      refine wpList_nil ?_
      refine hK17 _ _ ?_; clear hK17 K17
      refine wp_seq_k fun K46 hK46 => ?_
      refine wp_seq_k fun K47 hK47 => ?_
      refine wp_region_lit ?_
      refine op_q F45 (.iface 279 (.pointer (some ⟨g39, 0, none⟩))) ?_; intro a48 F48
      refine op_q F48 (.bool true) ?_; intro a49 F49
      refine wpList_nil ?_
      refine hK47 _ _ ?_; clear hK47 K47
      refine wp_cond_true (F49.ev (by kernel_rfl)) ?_
      refine wp_seq_k fun K50 hK50 => ?_
      refine wp_region_lit ?_
      refine op_cq F49 (f := 173) (args := #[.string ⟨#[118, 101, 114, 115, 105, 111, 110, 32, 39]⟩]) (errNew_sp2 ⟨#[118, 101, 114, 115, 105, 111, 110, 32, 39]⟩ _ _ _ S39 ) ?_
      rintro _ w51 ⟨ge51, rfl, S51⟩
      refine ⟨_, rfl, ?_⟩
      intro a52 F52
      refine op_q F52 (.iface 279 (.pointer (some ⟨ge51, 0, none⟩))) ?_; intro a53 F53
      refine wpList_nil ?_
      refine hK50 _ _ ?_; clear hK50 K50
      refine wp_ret ?_
      refine ret_then ?_
      refine (F53.res1 rfl (v := .iface 279 (.pointer (some ⟨ge51, 0, none⟩))) (by kernel_rfl) ?_).1
      exact ⟨true, ge51, rfl, S51.drop, (by rw [errB_plain hv]; rfl)⟩
set_option maxRecDepth 100000 in
set_option maxHeartbeats 20000000 in
theorem rPer (m : Ty26) (gm : Nat) (A1 : Option Addr) (c1 : Nat) (A2 : Option Addr) (c2 : Nat) (A3 : Option Addr) (c3 : Nat) (A4 : Option Addr) (n4 : Nat) (c4 : Nat) (qs : List (Option Addr)) (R : Ctx) (L : List SA) (w : World) (S : Sp R w (L)) (h0 : Rf R L fun w => Blk w (gm) 237 #[.string (m.fName), .string (m.fHome), .slice (A1) (m.fSources.length) (c1), .string (m.fVersion), .string (m.fDescription), .slice (A2) (m.fKeywords.length) (c2), .slice (A3) (qs.length) (c3), .string (m.fIcon), .string (m.fAPIVersion), .string (m.fCondition), .string (m.fTags), .string (m.fAppVersion), .bool false, .map none, .string (m.fKubeVersion), .slice (A4) (n4) (c4), .string (m.fType)]) (h1 : Rf R L fun w => Sl w (A3) (pps qs)) (h2 : Rf R L fun w => ∀ k, ∀ h : k < m.fMaintainers.length, ∃ h2 : k < qs.length, PerAt w qs[k] m.fMaintainers[k]) (hql : qs.length = m.fMaintainers.length) (hpe : ∀ p ∈ m.fMaintainers, p.fEmail.size = 0 ∧ p.fURL.size = 0) :
    Calls Try.prog 156 #[.pointer (some ⟨gm, 0, none⟩)] w fun e w' => ∃ b : Bool, ∃ g : Nat, e = .returned (errV b g) ∧ Sp R w' (L) ∧ (b = lper m.fMaintainers) := by
  have hl_qs : qs.length ≤ 9223372036854775807 := by have := (h1 _ S).1; simpa [strs, ptrs, pps] using this
  refine fw_enter (fn := Try.f156) rfl rfl 36 rfl (Nat.le_of_ble_eq_true rfl) ?_
  intro a0 F0
  refine wp_seq_k fun K1 hK1 => ?_
  refine wp_region_lit ?_
  refine op_q F0 (.nilIface) ?_; intro a2 F2
  refine wpList_nil ?_
  refine hK1 _ _ ?_; clear hK1 K1
  refine wp_seq_k fun K3 hK3 => ?_
  refine wp_seq_k fun K4 hK4 => ?_
  refine wp_region_lit ?_
  refine op_q F2 (.pointer (some ⟨gm, 0, none⟩)) ?_; intro a5 F5
  refine op_q F5 (.pointer (some ⟨gm, 0, none⟩)) ?_; intro a6 F6
  refine op_q F6 (.pointer (some ⟨gm, 6, none⟩)) ?_; intro a7 F7
  refine op_rq (v := .slice (A3) (qs.length) (c3)) F7 (r_ld rfl (F7.e (.pointer (some ⟨gm, 6, none⟩))) (v := .slice (A3) (qs.length) (c3)) ((h0 _ S).cell 6) Try.underlying233 rfl) ?_; intro a8 F8
  refine op_q F8 (.int .i64 (↑qs.length)) ?_; intro a9 F9
  refine op_q F9 (.int .i64 0) ?_; intro a10 F10
  refine wpList_nil ?_
  refine hK4 _ _ ?_; clear hK4 K4
  refine wp_block ?_
  refine fw_loop (fun m' a' w' => ∃ k : Nat, qs.length - k = m' ∧ Fr 36 [] a' [(8, .slice (A3) (qs.length) (c3)), (9, .int .i64 (↑qs.length)), (10, .int .i64 (↑k))] ∧ Sp R w' (L) ∧ (k ≤ qs.length) ∧ (∀ j, ∀ h : j < m.fMaintainers.length, j < k → m.fMaintainers[j].fNil = false ∧ (m.fMaintainers[j].fName.toList == (⟨#[]⟩ : ByteArray).toList) = false)) _ ⟨0, rfl, (F10.kk 8 (F10.kk 9 (F10.kk 10 F10.nil))), S, (by first | omega | (with_reducible assumption) | (simp; done)), (fun j _ h => absurd h (Nat.not_lt_zero _))⟩ ?_
  rintro m11 a11 w11 ⟨k, hm11, F11, S11, hk, hno⟩ K11 hK11
  by_cases hlt_k : k < qs.length
  · have hc_k : decide ((↑k : Int) < ↑qs.length) = true := by first | (simp; done) | (simp; omega)
    obtain ⟨hvk, _⟩ := h2 _ S11 k (by omega)
    obtain ⟨qk, hqk⟩ : ∃ q, q = qs[k] := ⟨_, rfl⟩
    have hpk_ := hpe _ (List.getElem_mem (show k < m.fMaintainers.length by omega))
    have hPk : Rf R L fun w => PerAt w qk m.fMaintainers[k] := fun w S => by rw [hqk]; exact (h2 w S k (by omega)).2
    obtain ⟨ad12, hA12⟩ := (h1 _ S11).addr (by simp [pps]; omega)
    refine wp_seq_k fun K13 hK13 => ?_
    refine wp_region_lit ?_
    refine op_q F11 (.bool (decide ((↑k : Int) < ↑qs.length))) ?_; intro a14 F14
    have F15 := F14.sb 11 (by kernel_rfl) hc_k
    refine wpList_nil ?_
    refine hK13 _ _ ?_; clear hK13 K13
    refine wp_seq_k fun K16 hK16 => ?_
    refine wp_cond_true (F15.ev (by kernel_rfl)) ?_
    refine wp_skip ?_
    refine hK16 _ _ ?_; clear hK16 K16
    refine wp_seq_k fun K17 hK17 => ?_
    refine wp_block ?_
    refine wp_seq_k fun K18 hK18 => ?_
    refine wp_region_lit ?_
    refine op_rq (v := .pointer (some (ad12.add k))) F15 (r_ix rfl Try.underlying233 1 (by kernel_rfl) (F15.e (.slice (A3) (qs.length) (c3))) hA12 (F15.e (.int .i64 (↑k))) k (by first | rfl | omega | simp) (by first | omega | (simp; done) | (simp; omega)) (by simp only [Nat.mul_one])) ?_; intro a19 F19
    refine op_rq (v := .pointer qk) F19 (r_ld rfl (F19.e (.pointer (some (ad12.add k)))) (v := .pointer qk) ((h1 _ S11).elA hA12 (j := k) (by rw [hqk]; simp [pps, List.getElem?_eq_getElem hlt_k])) Try.underlying238 rfl) ?_; intro a20 F20
    refine op_q F20 (.pointer qk) ?_; intro a21 F21
    refine wpList_nil ?_
    refine hK18 _ _ ?_; clear hK18 K18
    refine wp_seq_k fun K22 hK22 => ?_
    refine wp_seq_k fun K23 hK23 => ?_
    refine wp_region_lit ?_
    refine op_q F21 (.pointer qk) ?_; intro a24 F24
    rcases hPk _ S11 with ⟨hnk, rfl⟩ | ⟨hnk, gp, rfl, _⟩
    · skip
      refine op_q F24 (.bool true) ?_; intro a25 F25
      refine wpList_nil ?_
      refine hK23 _ _ ?_; clear hK23 K23
      refine wp_cond_true (F25.ev (by kernel_rfl)) ?_
      refine wp_seq_k fun K26 hK26 => ?_
      refine wp_region_lit ?_
      refine op_cq F25 (f := 173) (args := #[.string ⟨#[97, 32, 109, 97, 105, 110, 116, 97, 105, 110, 101, 114, 32, 101, 110, 116, 114, 121, 32, 105, 115, 32, 101, 109, 112, 116, 121]⟩]) (errNew_sp2 ⟨#[97, 32, 109, 97, 105, 110, 116, 97, 105, 110, 101, 114, 32, 101, 110, 116, 114, 121, 32, 105, 115, 32, 101, 109, 112, 116, 121]⟩ _ _ _ S11 ) ?_
      rintro _ w27 ⟨ge27, rfl, S27⟩
      refine ⟨_, rfl, ?_⟩
      intro a28 F28
      refine op_q F28 (.iface 279 (.pointer (some ⟨ge27, 0, none⟩))) ?_; intro a29 F29
      refine wpList_nil ?_
      refine hK26 _ _ ?_; clear hK26 K26
      refine wp_ret ?_
      refine ret_then ?_
      refine ret_in ?_
      refine ret_then ?_
      refine ret_then ?_
      refine ret_in ?_
      refine ret_then ?_
      refine (F29.res1 rfl (v := .iface 279 (.pointer (some ⟨ge27, 0, none⟩))) (by kernel_rfl) ?_).1
      exact ⟨true, ge27, rfl, S27.drop, (lper_yes (by omega) (.inl hnk)).symm⟩
    · skip
      have hbp : Rf R L fun w => Blk w gp 270 #[.string m.fMaintainers[k].fName, .string m.fMaintainers[k].fEmail, .string m.fMaintainers[k].fURL] := fun w S => perAt_blk hnk (hPk w S)
      refine op_q F24 (.bool false) ?_; intro a30 F30
      refine wpList_nil ?_
      refine hK23 _ _ ?_; clear hK23 K23
      refine wp_cond_false (F30.ev (by kernel_rfl)) ?_
      refine wp_skip ?_
      refine hK22 _ _ ?_; clear hK22 K22
      refine wp_seq_k fun K31 hK31 => ?_
      refine wp_region_lit ?_
      refine op_q F30 (.pointer (some ⟨gp, 0, none⟩)) ?_; intro a32 F32
      refine op_q F32 (.pointer (some ⟨gp, 0, none⟩)) ?_; intro a33 F33
      refine op_q F33 (.pointer (some ⟨gp, 0, none⟩)) ?_; intro a34 F34
      refine op_rq (v := .string m.fMaintainers[k].fName) F34 (r_ld rfl (F34.e (.pointer (some ⟨gp, 0, none⟩))) (v := .string m.fMaintainers[k].fName) ((hbp _ S11).cell 0) Try.underlying9 rfl) ?_; intro a35 F35
      refine op_q F35 (.bool (m.fMaintainers[k].fName.toList == (⟨#[]⟩ : ByteArray).toList)) ?_; intro a36 F36
      refine wpList_nil ?_
      refine hK31 _ _ ?_; clear hK31 K31
      rcases btf (m.fMaintainers[k].fName.toList == (⟨#[]⟩ : ByteArray).toList) with hc37 | hc37
      · have F38 := F36.sb 21 (by kernel_rfl) hc37
        refine wp_cond_true (F38.ev (by kernel_rfl)) ?_
        refine wp_seq_k fun K39 hK39 => ?_
        refine wp_region_lit ?_
        refine op_cq F38 (f := 173) (args := #[.string ⟨#[101, 97, 99, 104, 32, 109, 97, 105, 110, 116, 97, 105, 110, 101, 114, 32, 114, 101, 113, 117, 105, 114, 101, 115, 32, 97, 32, 110, 97, 109, 101]⟩]) (errNew_sp2 ⟨#[101, 97, 99, 104, 32, 109, 97, 105, 110, 116, 97, 105, 110, 101, 114, 32, 114, 101, 113, 117, 105, 114, 101, 115, 32, 97, 32, 110, 97, 109, 101]⟩ _ _ _ S11 ) ?_
        rintro _ w40 ⟨ge40, rfl, S40⟩
        refine ⟨_, rfl, ?_⟩
        intro a41 F41
        refine op_q F41 (.iface 279 (.pointer (some ⟨ge40, 0, none⟩))) ?_; intro a42 F42
        refine wpList_nil ?_
        refine hK39 _ _ ?_; clear hK39 K39
        refine wp_ret ?_
        refine ret_in ?_
        refine ret_then ?_
        refine ret_then ?_
        refine ret_in ?_
        refine ret_then ?_
        refine (F42.res1 rfl (v := .iface 279 (.pointer (some ⟨ge40, 0, none⟩))) (by kernel_rfl) ?_).1
        exact ⟨true, ge40, rfl, S40.drop, (lper_yes (by omega) (.inr hc37)).symm⟩
      · have F43 := F36.sb 21 (by kernel_rfl) hc37
        refine wp_cond_false (F43.ev (by kernel_rfl)) ?_
        refine wp_seq_k fun K44 hK44 => ?_
        refine wp_region_lit ?_
        refine op_q F43 (.pointer (some ⟨gp, 0, none⟩)) ?_; intro a45 F45
        refine op_q F45 (.pointer (some ⟨gp, 0, none⟩)) ?_; intro a46 F46
        refine op_q F46 (.pointer (some ⟨gp, 1, none⟩)) ?_; intro a47 F47
        refine op_rq (v := .string m.fMaintainers[k].fEmail) F47 (r_ld rfl (F47.e (.pointer (some ⟨gp, 1, none⟩))) (v := .string m.fMaintainers[k].fEmail) ((hbp _ S11).cell 1) Try.underlying9 rfl) ?_; intro a48 F48
        refine op_q F48 (.bool (!(m.fMaintainers[k].fEmail.toList == (⟨#[]⟩ : ByteArray).toList))) ?_; intro a49 F49
        refine wpList_nil ?_
        refine hK44 _ _ ?_; clear hK44 K44
        have hc50 : (m.fMaintainers[k].fEmail.toList == (⟨#[]⟩ : ByteArray).toList) = true := (sz_emp hpk_.1)
        have F51 := F49.sb 27 (by kernel_rfl) (show (!(m.fMaintainers[k].fEmail.toList == (⟨#[]⟩ : ByteArray).toList)) = false by rw [hc50]; rfl)
        refine wp_cond_false (F51.ev (by kernel_rfl)) ?_
        refine wp_seq_k fun K52 hK52 => ?_
        refine wp_region_lit ?_
        refine op_q F51 (.pointer (some ⟨gp, 0, none⟩)) ?_; intro a53 F53
        refine op_q F53 (.pointer (some ⟨gp, 0, none⟩)) ?_; intro a54 F54
        refine op_q F54 (.pointer (some ⟨gp, 2, none⟩)) ?_; intro a55 F55
        refine op_rq (v := .string m.fMaintainers[k].fURL) F55 (r_ld rfl (F55.e (.pointer (some ⟨gp, 2, none⟩))) (v := .string m.fMaintainers[k].fURL) ((hbp _ S11).cell 2) Try.underlying9 rfl) ?_; intro a56 F56
        refine op_q F56 (.bool (!(m.fMaintainers[k].fURL.toList == (⟨#[]⟩ : ByteArray).toList))) ?_; intro a57 F57
        refine wpList_nil ?_
        refine hK52 _ _ ?_; clear hK52 K52
        have hc58 : (m.fMaintainers[k].fURL.toList == (⟨#[]⟩ : ByteArray).toList) = true := (sz_emp hpk_.2)
        have F59 := F57.sb 33 (by kernel_rfl) (show (!(m.fMaintainers[k].fURL.toList == (⟨#[]⟩ : ByteArray).toList)) = false by rw [hc58]; rfl)
        refine wp_cond_false (F59.ev (by kernel_rfl)) ?_
        refine wp_skip ?_
        refine hK17 _ _ ?_; clear hK17 K17
        refine wp_region_lit ?_
        refine op_rq (v := .int .i64 (↑(k + 1))) F59 (r_add (z := ↑(k + 1)) rfl (F59.e (.int .i64 (↑k))) (F59.e (.int .i64 1)) (wr64 (by omega) (by omega) (by omega))) ?_; intro a60 F60
        refine op_q F60 (.int .i64 (↑(k + 1))) ?_; intro a61 F61
        refine wpList_nil ?_
        exact hK11 _ _ _ (by first | omega | (simp; omega)) ⟨k + 1, rfl, (F61.kk 8 (F61.kk 9 (F61.kk 10 F61.nil))), S11, (by first | omega | (with_reducible assumption) | (simp; done)), (fun j hj h => (Nat.lt_succ_iff_lt_or_eq.1 h).elim (hno j hj) (fun e => by subst e; exact ⟨hnk, hc37⟩))⟩
  · have hc_k : decide ((↑k : Int) < ↑qs.length) = false := by first | (simp; done) | (simp; omega)
    refine wp_seq_k fun K62 hK62 => ?_
    refine wp_region_lit ?_
    refine op_q F11 (.bool (decide ((↑k : Int) < ↑qs.length))) ?_; intro a63 F63
    have F64 := F63.sb 11 (by kernel_rfl) hc_k
    refine wpList_nil ?_
    refine hK62 _ _ ?_; clear hK62 K62
    refine wp_seq_k fun K65 hK65 => ?_
    refine wp_cond_false (F64.ev (by kernel_rfl)) ?_
    refine wp_exit ?_
    refine ex_then ?_; clear hK65 K65
    refine ex_then ?_
    refine ex_in ?_
    refine hK3 _ _ ?_; clear hK3 K3
    refine wp_seq_k fun K66 hK66 => ?_
    refine wp_region_lit ?_
    refine op_q F64 (.nilIface) ?_; intro a67 F67
    refine wpList_nil ?_
    refine hK66 _ _ ?_; clear hK66 K66
    refine wp_ret ?_
    refine (F67.res1 rfl (v := .nilIface) (by kernel_rfl) ?_).1
    exact ⟨false, 0, rfl, S11, (lper_no (by omega) hno).symm⟩
set_option maxRecDepth 100000 in
set_option maxHeartbeats 20000000 in
theorem zzChart_sp (m : Ty26) (gm : Nat) (A1 : Option Addr) (c1 : Nat) (A2 : Option Addr) (c2 : Nat) (A3 : Option Addr) (c3 : Nat) (A4 : Option Addr) (n4 : Nat) (c4 : Nat) (qs : List (Option Addr)) (R : Ctx) (L : List SA) (w : World) (S : Sp R w (L)) (h0 : Rf R L fun w => Blk w (gm) 237 #[.string (m.fName), .string (m.fHome), .slice (A1) (m.fSources.length) (c1), .string (m.fVersion), .string (m.fDescription), .slice (A2) (m.fKeywords.length) (c2), .slice (A3) (qs.length) (c3), .string (m.fIcon), .string (m.fAPIVersion), .string (m.fCondition), .string (m.fTags), .string (m.fAppVersion), .bool false, .map none, .string (m.fKubeVersion), .slice (A4) (n4) (c4), .string (m.fType)]) (h1 : Rf R L fun w => Sl w (A3) (pps qs)) (h2 : Rf R L fun w => ∀ k, ∀ h : k < m.fMaintainers.length, ∃ h2 : k < qs.length, PerAt w qs[k] m.fMaintainers[k]) (hnz : m.fName.size ≤ 1000000) (hvz : m.fVersion.size ≤ 1000000) (hv : m.fVersion.size = 0 ∨ plainB m.fVersion = true ∨ errB m.fVersion = true) (hn4 : n4 = m.fDependencies.length) (hql : qs.length = m.fMaintainers.length) (hpe : ∀ p ∈ m.fMaintainers, p.fEmail.size = 0 ∧ p.fURL.size = 0) :
    Calls Try.prog 94 #[.pointer (some ⟨gm, 0, none⟩)] w fun e w' => ∃ A : Option Addr, ∃ c : Nat, ∃ bs : List Bool, ∃ gs : List Nat, e = .returned (.slice A bs.length c) ∧ Sp R w' (SA.own (.slice A bs.length c) 140 1 bs.length (errs bs gs) :: L) ∧ (bs = [lname m, lapi m, !plainB m.fVersion, lper m.fMaintainers, m.fIcon.toList == (⟨#[]⟩ : ByteArray).toList, ltype m, ldep m]) ∧ (gs.length = bs.length) := by
  have hl_qs : qs.length ≤ 9223372036854775807 := by have := (h1 _ S).1; simpa [strs, ptrs, pps] using this
  refine fw_enter (fn := Try.f94) rfl rfl 18 rfl (Nat.le_of_ble_eq_true rfl) ?_
  intro a0 F0
  refine wp_seq_k fun K1 hK1 => ?_
  refine wp_region_lit ?_
  refine op_q F0 (.slice none 0 0) ?_; intro a2 F2
  refine wpList_nil ?_
  refine hK1 _ _ ?_; clear hK1 K1
  refine wp_seq_k fun K3 hK3 => ?_
  refine wp_region_lit ?_
  refine op_q F2 (.pointer (some ⟨gm, 0, none⟩)) ?_; intro a4 F4
  refine op_cq F4 (f := 153) (args := #[.pointer (some ⟨gm, 0, none⟩)]) (rName _ gm _ _ _ _ _ _ _ _ _ _ _ _ _ S h0 (by first | omega | (simp; done) | (simp; omega))) ?_
  rintro _ w5 ⟨b5, g5, rfl, S5, hp0_5⟩
  refine ⟨_, rfl, ?_⟩
  intro a6 F6
  refine op_q F6 (.pointer (some ⟨gm, 0, none⟩)) ?_; intro a7 F7
  refine op_cq F7 (f := 154) (args := #[.pointer (some ⟨gm, 0, none⟩)]) (rApi _ gm _ _ _ _ _ _ _ _ _ _ _ _ _ S5 h0) ?_
  rintro _ w8 ⟨b8, g8, rfl, S8, hp0_8⟩
  refine ⟨_, rfl, ?_⟩
  intro a9 F9
  refine op_q F9 (.pointer (some ⟨gm, 0, none⟩)) ?_; intro a10 F10
  refine op_cq F10 (f := 155) (args := #[.pointer (some ⟨gm, 0, none⟩)]) (rVer _ gm _ _ _ _ _ _ _ _ _ _ _ _ _ S8 h0 (by first | omega | (simp; done) | (simp; omega)) (by with_reducible assumption)) ?_
  rintro _ w11 ⟨b11, g11, rfl, S11, hp0_11⟩
  refine ⟨_, rfl, ?_⟩
  intro a12 F12
  refine op_q F12 (.pointer (some ⟨gm, 0, none⟩)) ?_; intro a13 F13
  refine op_cq F13 (f := 156) (args := #[.pointer (some ⟨gm, 0, none⟩)]) (rPer m gm _ _ _ _ A3 _ _ _ _ qs _ _ _ S11 h0 h1 h2 hql hpe) ?_
  rintro _ w14 ⟨b14, g14, rfl, S14, hp0_14⟩
  refine ⟨_, rfl, ?_⟩
  intro a15 F15
  refine op_q F15 (.pointer (some ⟨gm, 0, none⟩)) ?_; intro a16 F16
  refine op_cq F16 (f := 157) (args := #[.pointer (some ⟨gm, 0, none⟩)]) (rIcon _ gm _ _ _ _ _ _ _ _ _ _ _ _ _ S14 h0) ?_
  rintro _ w17 ⟨b17, g17, rfl, S17, hp0_17⟩
  refine ⟨_, rfl, ?_⟩
  intro a18 F18
  refine op_q F18 (.pointer (some ⟨gm, 0, none⟩)) ?_; intro a19 F19
  refine op_cq F19 (f := 158) (args := #[.pointer (some ⟨gm, 0, none⟩)]) (rType _ gm _ _ _ _ _ _ _ _ _ _ _ _ _ S17 h0) ?_
  rintro _ w20 ⟨b20, g20, rfl, S20, hp0_20⟩
  refine ⟨_, rfl, ?_⟩
  intro a21 F21
  refine op_q F21 (.pointer (some ⟨gm, 0, none⟩)) ?_; intro a22 F22
  refine op_cq F22 (f := 159) (args := #[.pointer (some ⟨gm, 0, none⟩)]) (rDeps _ gm _ _ _ _ _ _ _ _ _ _ _ _ _ S20 h0 (by with_reducible assumption)) ?_
  rintro _ w23 ⟨b23, g23, rfl, S23, hp0_23⟩
  refine ⟨_, rfl, ?_⟩
  intro a24 F24
  refine op_sq F24 (s_news F24 140 #[errV b5 g5, errV b8 g8, errV b11 g11, errV b14 g14, errV b17 g17, errV b20 g20, errV b23 g23] 7 (by cases b5 <;> cases b8 <;> cases b11 <;> cases b14 <;> cases b17 <;> cases b20 <;> cases b23 <;> kernel_rfl) (by kernel_rfl) (by kernel_rfl) S23) ?_
  rintro _ _ w26 ⟨g25, rfl, rfl⟩ S26 a26 F26
  have S27 : Sp R w26 (SA.own (.slice (some ⟨g25, 0, none⟩) [b5, b8, b11, b14, b17, b20, b23].length 7) 140 1 [b5, b8, b11, b14, b17, b20, b23].length (errs [b5, b8, b11, b14, b17, b20, b23] [g5, g8, g11, g14, g17, g20, g23]) :: L) := Sp.ofblk (sz := 1) (m := 7) S26 rfl (by omega) rfl
  refine op_q F26 (.slice (some ⟨g25, 0, none⟩) 7 7) ?_; intro a28 F28
  refine wpList_nil ?_
  refine hK3 _ _ ?_; clear hK3 K3
  refine wp_ret ?_
  refine (F28.res1 rfl (v := .slice (some ⟨g25, 0, none⟩) 7 7) (by kernel_rfl) ?_).1
  exact ⟨some ⟨g25, 0, none⟩, 7, [b5, b8, b11, b14, b17, b20, b23], [g5, g8, g11, g14, g17, g20, g23], rfl, S27, (by simp only [hp0_5, hp0_8, hp0_11, hp0_14, hp0_17, hp0_20, hp0_23]), rfl⟩
end Go.Proofs.Ytkjcedlgljeoiaa

/- impl.LintChart. -/
namespace Go.Proofs.Ytkjcedlgljeoiaa
open Go.RowKit Go.Lib
set_option linter.unusedVariables false
set_option linter.unusedSimpArgs false
theorem bools_take {bs : List Bool} {k : Nat} (h : k < bs.length) : bools (bs.take k) ++ [.bool bs[k]] = bools (bs.take (k + 1)) := by
  rw [List.take_succ_eq_append_getElem h]; simp only [bools, List.map_append, List.map_cons, List.map_nil]
theorem catch92 (x0 x1 : Nat) (w : World) :
    CallsD Try.prog 92 #[.pointer (some ⟨x0, 0, none⟩), .pointer (some ⟨x1, 0, none⟩)] .returning w fun e u' w' => e = .returned (.tuple #[]) ∧ u' = .returning ∧ w' = w := by
  refine callsD_of_wpS Try.func92 rfl fun c₀ cs hu => ?_
  apply wpS_seq
  apply wpS_region
  simp [wpOpsS, go_sem, recoverD, hu, Try.ntmps92, Exit.thenS]
  refine wpS_cond (t := false) (by simp [Act.eval, Array.replicate]) ?_
  simp only [Bool.false_eq_true, if_false]
  refine wpS_of_wp (wp_skip ?_)
  cases c₀
  simp_all [bodyPostS, results, Try.results92]
set_option maxRecDepth 100000 in
set_option maxHeartbeats 20000000 in
theorem lintChart_sp (m : Ty26) (R : Ctx) (L : List SA) (w : World) (S : Sp R w (L)) (h0 : Rf R L fun w => Sl w (m.fSources_a) (strs m.fSources)) (h1 : Rf R L fun w => Sl w (m.fKeywords_a) (strs m.fKeywords)) (h2 : Rf R L fun w => Rows w (m.fMaintainers_a) 4 (m.fMaintainers.map Ty78.cells)) (h3 : Rf R L fun w => Rows w (m.fDependencies_a) 7 (m.fDependencies.map Ty80.cells)) (h4 : Rf R L fun w => ∀ d ∈ m.fDependencies, Sl w d.fTags_a (strs d.fTags)) (hm1 : m.fSources.length ≤ 1000000) (hm2 : m.fKeywords.length ≤ 1000000) (hm3 : m.fMaintainers.length ≤ 1000000) (hm4 : m.fDependencies.length ≤ 1000000) (hm5 : ∀ d ∈ m.fDependencies, d.fTags.length ≤ 1000000) (hf : mfitsB m = true) (hnz : m.fName.size ≤ 1000000) (hvz : m.fVersion.size ≤ 1000000) (hv : m.fVersion.size = 0 ∨ plainB m.fVersion = true ∨ errB m.fVersion = true) (hpe : ∀ p ∈ m.fMaintainers, p.fEmail.size = 0 ∧ p.fURL.size = 0) :
    Calls Try.prog 42 #[.agg #[.string m.fName, .string m.fHome, .string m.fVersion, .string m.fDescription, .string m.fIcon, .string m.fAPIVersion, .string m.fCondition, .string m.fTags, .string m.fAppVersion, .string m.fKubeVersion, .string m.fType, .slice (m.fSources_a) (m.fSources.length) (m.fSources_c), .slice (m.fKeywords_a) (m.fKeywords.length) (m.fKeywords_c), .slice (m.fMaintainers_a) (m.fMaintainers.length) (m.fMaintainers_c), .slice (m.fDependencies_a) (m.fDependencies.length) (m.fDependencies_c)]] w fun e w' => ∃ Ab : Option Addr, ∃ cb : Nat, ∃ bs : List Bool, e = .returned (.tuple #[.slice Ab bs.length cb, .int .i64 0]) ∧ Sp R w' (SA.own (.slice Ab bs.length cb) 4 1 bs.length (bools bs) :: L) ∧ (bs = [lname m, lapi m, !plainB m.fVersion, lper m.fMaintainers, m.fIcon.toList == (⟨#[]⟩ : ByteArray).toList, ltype m, ldep m]) := by
  have hl_m_fSources : m.fSources.length ≤ 9223372036854775807 := by have := (h0 _ S).1; simpa [strs, ptrs, pps] using this
  have hl_m_fKeywords : m.fKeywords.length ≤ 9223372036854775807 := by have := (h1 _ S).1; simpa [strs, ptrs, pps] using this
  have hl_m_fMaintainers : m.fMaintainers.length ≤ 9223372036854775807 := by have := (h2 _ S).1; simpa [strs, ptrs, pps] using this
  have hl_m_fDependencies : m.fDependencies.length ≤ 9223372036854775807 := by have := (h3 _ S).1; simpa [strs, ptrs, pps] using this
  refine fw_enterD (fn := Try.f42) rfl rfl 25 rfl (Nat.le_of_ble_eq_true rfl) ?_
  intro a0 F0
  refine wp_seq_k fun K1 hK1 => ?_
  refine wp_region_lit ?_
  refine op_sq F0 (s_newp F0 26 #[.string m.fName, .string m.fHome, .string m.fVersion, .string m.fDescription, .string m.fIcon, .string m.fAPIVersion, .string m.fCondition, .string m.fTags, .string m.fAppVersion, .string m.fKubeVersion, .string m.fType, .slice (m.fSources_a) (m.fSources.length) (m.fSources_c), .slice (m.fKeywords_a) (m.fKeywords.length) (m.fKeywords_c), .slice (m.fMaintainers_a) (m.fMaintainers.length) (m.fMaintainers_c), .slice (m.fDependencies_a) (m.fDependencies.length) (m.fDependencies_c)] (by kernel_rfl) (by kernel_rfl) (by kernel_rfl) S) ?_
  rintro _ _ w3 ⟨g1, rfl, rfl⟩ S3 a3 F3
  refine op_sq F3 (s_newp F3 82 #[.slice none 0 0] (by kernel_rfl) (by kernel_rfl) (by kernel_rfl) S3) ?_
  rintro _ _ w5 ⟨g3, rfl, rfl⟩ S5 a5 F5
  refine op_sq F5 (s_newp F5 3 #[.int .i64 0] (by kernel_rfl) (by kernel_rfl) (by kernel_rfl) S5) ?_
  rintro _ _ w7 ⟨g5, rfl, rfl⟩ S7 a7 F7
  refine wpList_nil ?_
  refine hK1 _ _ ?_; clear hK1 K1
  refine wp_seq_k fun K8 hK8 => ?_
  refine wp_region_lit ?_
  refine op_q F7 (.func (.func 92) #[] #[.pointer (some ⟨g3, 0, none⟩), .pointer (some ⟨g5, 0, none⟩)]) ?_; intro a9 F9
  refine op_defer F9 ({ target := .fn (.func 92) #[.pointer (some ⟨g3, 0, none⟩), .pointer (some ⟨g5, 0, none⟩)], args := #[] }) (by kernel_rfl) (by kernel_rfl) rfl rfl rfl ?_; intro a10 F10
  refine wpList_nil ?_
  refine hK8 _ _ ?_; clear hK8 K8
  refine wp_seq_k fun K11 hK11 => ?_
  refine wp_seq_k fun K12 hK12 => ?_
  refine wp_region_lit ?_
  refine op_rq (v := .agg #[.string m.fName, .string m.fHome, .string m.fVersion, .string m.fDescription, .string m.fIcon, .string m.fAPIVersion, .string m.fCondition, .string m.fTags, .string m.fAppVersion, .string m.fKubeVersion, .string m.fType, .slice (m.fSources_a) (m.fSources.length) (m.fSources_c), .slice (m.fKeywords_a) (m.fKeywords.length) (m.fKeywords_c), .slice (m.fMaintainers_a) (m.fMaintainers.length) (m.fMaintainers_c), .slice (m.fDependencies_a) (m.fDependencies.length) (m.fDependencies_c)]) F10 (r_ldm rfl (F10.e (.pointer (some ⟨g1, 0, none⟩))) (S7.bk 2 rfl) 15 (by kernel_rfl) Try.underlying26 rfl (by kernel_rfl) (v := #[.string m.fName, .string m.fHome, .string m.fVersion, .string m.fDescription, .string m.fIcon, .string m.fAPIVersion, .string m.fCondition, .string m.fTags, .string m.fAppVersion, .string m.fKubeVersion, .string m.fType, .slice (m.fSources_a) (m.fSources.length) (m.fSources_c), .slice (m.fKeywords_a) (m.fKeywords.length) (m.fKeywords_c), .slice (m.fMaintainers_a) (m.fMaintainers.length) (m.fMaintainers_c), .slice (m.fDependencies_a) (m.fDependencies.length) (m.fDependencies_c)]) (by kernel_rfl)) ?_; intro a13 F13
  refine op_cq F13 (f := 93) (args := #[.agg #[.string m.fName, .string m.fHome, .string m.fVersion, .string m.fDescription, .string m.fIcon, .string m.fAPIVersion, .string m.fCondition, .string m.fTags, .string m.fAppVersion, .string m.fKubeVersion, .string m.fType, .slice (m.fSources_a) (m.fSources.length) (m.fSources_c), .slice (m.fKeywords_a) (m.fKeywords.length) (m.fKeywords_c), .slice (m.fMaintainers_a) (m.fMaintainers.length) (m.fMaintainers_c), .slice (m.fDependencies_a) (m.fDependencies.length) (m.fDependencies_c)]]) (metaFits_sp m _ _ _ S7 ) ?_
  rintro _ w14 ⟨rfl, S14⟩
  refine ⟨_, rfl, ?_⟩
  intro a15 F15
  refine op_q F15 (.bool (!(mfitsB m))) ?_; intro a16 F16
  refine wpList_nil ?_
  refine hK12 _ _ ?_; clear hK12 K12
  have hc17 : (mfitsB m) = true := hf
  have F18 := F16.sb 8 (by kernel_rfl) hc17
  have F19 := F18.sb 9 (by kernel_rfl) (show (!(mfitsB m)) = false by rw [hc17]; rfl)
  refine wp_cond_false (F19.ev (by kernel_rfl)) ?_
  refine wp_skip ?_
  refine hK11 _ _ ?_; clear hK11 K11
  refine wp_seq_k fun K20 hK20 => ?_
  refine wp_seq_k fun K21 hK21 => ?_
  refine wp_region_lit ?_
  refine op_rq (v := .agg #[.string m.fName, .string m.fHome, .string m.fVersion, .string m.fDescription, .string m.fIcon, .string m.fAPIVersion, .string m.fCondition, .string m.fTags, .string m.fAppVersion, .string m.fKubeVersion, .string m.fType, .slice (m.fSources_a) (m.fSources.length) (m.fSources_c), .slice (m.fKeywords_a) (m.fKeywords.length) (m.fKeywords_c), .slice (m.fMaintainers_a) (m.fMaintainers.length) (m.fMaintainers_c), .slice (m.fDependencies_a) (m.fDependencies.length) (m.fDependencies_c)]) F19 (r_ldm rfl (F19.e (.pointer (some ⟨g1, 0, none⟩))) (S14.bk 2 rfl) 15 (by kernel_rfl) Try.underlying26 rfl (by kernel_rfl) (v := #[.string m.fName, .string m.fHome, .string m.fVersion, .string m.fDescription, .string m.fIcon, .string m.fAPIVersion, .string m.fCondition, .string m.fTags, .string m.fAppVersion, .string m.fKubeVersion, .string m.fType, .slice (m.fSources_a) (m.fSources.length) (m.fSources_c), .slice (m.fKeywords_a) (m.fKeywords.length) (m.fKeywords_c), .slice (m.fMaintainers_a) (m.fMaintainers.length) (m.fMaintainers_c), .slice (m.fDependencies_a) (m.fDependencies.length) (m.fDependencies_c)]) (by kernel_rfl)) ?_; intro a22 F22
  refine op_cq F22 (f := 95) (args := #[.agg #[.string m.fName, .string m.fHome, .string m.fVersion, .string m.fDescription, .string m.fIcon, .string m.fAPIVersion, .string m.fCondition, .string m.fTags, .string m.fAppVersion, .string m.fKubeVersion, .string m.fType, .slice (m.fSources_a) (m.fSources.length) (m.fSources_c), .slice (m.fKeywords_a) (m.fKeywords.length) (m.fKeywords_c), .slice (m.fMaintainers_a) (m.fMaintainers.length) (m.fMaintainers_c), .slice (m.fDependencies_a) (m.fDependencies.length) (m.fDependencies_c)]]) (metaOf_sp m _ _ _ S14 (fun w S => h0 w S.drop.drop.drop) (fun w S => h1 w S.drop.drop.drop) (fun w S => h2 w S.drop.drop.drop) (fun w S => h3 w S.drop.drop.drop) (fun w S => h4 w S.drop.drop.drop) (by first | omega | (simp; done) | (simp; omega)) (by first | omega | (simp; done) | (simp; omega)) (by first | omega | (simp; done) | (simp; omega)) (by first | omega | (simp; done) | (simp; omega)) (by first | omega | (simp; done) | (simp; omega))) ?_
  rintro _ w23 ⟨g23, A123, c123, A223, c223, A323, c323, qs23, A423, c423, us23, rfl, S23⟩
  refine ⟨_, rfl, ?_⟩
  intro a24 F24
  have hql := Sp.zlen S23.p4
  have hul := Sp.zlen S23.p6
  refine op_cq F24 (f := 94) (args := #[.pointer (some ⟨g23, 0, none⟩)]) (zzChart_sp m g23 A123 c123 A223 c223 A323 c323 A423 us23.length c423 qs23 _ _ _ S23 (fun w S => S.bk 0 rfl) (fun w S => own_sl1 (S.ow 3 rfl) (by first | omega | (simp; omega))) (fun w S => S.zper 4 rfl) (by first | omega | (simp; done) | (simp; omega)) (by first | omega | (simp; done) | (simp; omega)) hv (by with_reducible assumption) hql hpe) ?_
  rintro _ w25 ⟨A25, c25, bs25, gs25, rfl, S25, hp0_25, hp1_25⟩
  refine ⟨_, rfl, ?_⟩
  intro a26 F26
  refine op_q F26 (.int .i64 (↑bs25.length)) ?_; intro a27 F27
  refine op_q F27 (.int .i64 0) ?_; intro a28 F28
  refine wpList_nil ?_
  refine hK21 _ _ ?_; clear hK21 K21
  refine wp_block ?_
  have hb7 : bs25.length = 7 := by rw [hp0_25]; rfl
  have hg7 := hp1_25
  have S29 := Sp.nilown (e := 4) (sz := 1) S25
  refine fw_loop (fun m' a' w' => ∃ Ab : Option Addr, ∃ cb : Nat, ∃ k : Nat, bs25.length - k = m' ∧ Fr 25 [{ target := .fn (.func 92) #[.pointer (some ⟨g3, 0, none⟩), .pointer (some ⟨g5, 0, none⟩)], args := #[] }] a' [(2, .pointer (some ⟨g3, 0, none⟩)), (3, .pointer (some ⟨g5, 0, none⟩)), (12, .slice A25 bs25.length c25), (13, .int .i64 (↑bs25.length)), (14, .int .i64 (↑k))] ∧ Sp R w' (SA.blk g5 3 #[.int .i64 0] :: SA.blk g3 82 #[.slice Ab k cb] :: SA.own (.slice Ab k cb) 4 1 k (bools (bs25.take k)) :: SA.own (.slice A25 bs25.length c25) 140 1 bs25.length (errs bs25 gs25) :: L) ∧ (k ≤ bs25.length)) _ ⟨none, 0, 0, rfl, (F28.kk 2 (F28.kk 3 (F28.kk 12 (F28.kk 13 (F28.kk 14 F28.nil))))), S29.p2.drop.p2.drop.p2.drop.p2.drop.p2.drop.p2.drop.p2.drop.p4.drop.p1.p1.p3.p3, (by first | omega | (with_reducible assumption) | (simp; done))⟩ ?_
  rintro m30 a30 w30 ⟨Ab, cb, k, hm30, F30, S30, hk⟩ K30 hK30
  by_cases hlt_k : k < bs25.length
  · have hc_k : decide ((↑k : Int) < ↑bs25.length) = true := by first | (simp; done) | (simp; omega)
    obtain ⟨ad31, hA31⟩ := (own_sl1 (S30.ow 3 rfl) (by first | omega | (simp; omega))).addr (by rw [errs_len (by assumption)]; omega)
    refine wp_seq_k fun K32 hK32 => ?_
    refine wp_region_lit ?_
    refine op_q F30 (.bool (decide ((↑k : Int) < ↑bs25.length))) ?_; intro a33 F33
    have F34 := F33.sb 15 (by kernel_rfl) hc_k
    refine wpList_nil ?_
    refine hK32 _ _ ?_; clear hK32 K32
    refine wp_seq_k fun K35 hK35 => ?_
    refine wp_cond_true (F34.ev (by kernel_rfl)) ?_
    refine wp_skip ?_
    refine hK35 _ _ ?_; clear hK35 K35
    refine wp_seq_k fun K36 hK36 => ?_
    refine wp_block ?_
    refine wp_seq_k fun K37 hK37 => ?_
    refine wp_region_lit ?_
    refine op_rq (v := .pointer (some (ad31.add k))) F34 (r_ix rfl Try.underlying161 1 (by kernel_rfl) (F34.e (.slice A25 bs25.length c25)) hA31 (F34.e (.int .i64 (↑k))) k (by first | rfl | omega | simp) (by first | omega | (simp; done) | (simp; omega)) (by simp only [Nat.mul_one])) ?_; intro a38 F38
    refine op_rq (v := errV bs25[k] gs25[k]) F38 (r_ld rfl (F38.e (.pointer (some (ad31.add k)))) (v := errV bs25[k] gs25[k]) ((own_sl1 (S30.ow 3 rfl) (by first | omega | (simp; omega))).elA hA31 (j := k) (errs_at hlt_k (by omega))) Try.underlying140 rfl) ?_; intro a39 F39
    refine op_q F39 (errV bs25[k] gs25[k]) ?_; intro a40 F40
    refine wpList_nil ?_
    refine hK37 _ _ ?_; clear hK37 K37
    refine wp_region_sepF (L0 := SA.blk g5 3 #[.int .i64 0] :: SA.blk g3 82 #[.slice Ab k cb] :: SA.own (.slice A25 bs25.length c25) 140 1 bs25.length (errs bs25 gs25) :: L) [some [], some [], some [(1, 19)], some [(2, 20)], some [(0, 18), (2, 20), (3, 21)], none] [.v 18 (.slice Ab k cb), .v 19 (errV bs25[k] gs25[k]), .v 20 (.bool bs25[k]), .p 21 (SA.emp) (fun _ vv AA => ∃ g57 : Nat, vv = .slice (some ⟨g57, 0, none⟩) 1 1 ∧ AA = SA.blk g57 4 #[.bool bs25[k]]), .p 22 (SA.own (.slice Ab k cb) 4 1 k (bools (bs25.take k))) (fun _ vv AA => ∃ A62 : Option Addr, ∃ c62 : Nat, vv = .slice A62 (k + 1) c62 ∧ AA = SA.own (.slice A62 (k + 1) c62) 4 1 (k + 1) (bools (bs25.take (k + 1)))), .n SA.emp (fun _ _ A => A = SA.emp)] [] F40 rfl (by kernel_rfl) S30.p2.emp ?_ ?_
    · refine ⟨?_, ?_, ?_, ?_, ?_, trivial⟩
      · intro w52 M52
        intro a52 F52 S52
        refine obl_of (by rfl) ?_
        exact s_r (v := .slice Ab k cb) (r_ld rfl (F52.e (.pointer (some ⟨g3, 0, none⟩))) (v := .slice Ab k cb) (((Sp.dropM S52.drop).bk 1 rfl).cell 0) Try.underlying82 rfl) S52
      · intro w53 M53
        intro a53 F53 S53
        refine obl_of (by rfl) ?_
        exact s_p F53 (v := errV bs25[k] gs25[k]) (by kernel_rfl) (by kernel_rfl) (by kernel_rfl) S53
      · intro w54 M54
        intro a54 F54 S54
        refine obl_of (by rfl) ?_
        exact s_r (v := .bool bs25[k]) (r_errne rfl (F54.e (errV bs25[k] gs25[k]))) S54
      · intro w56 M56
        intro a56 F56 S56
        refine obl_of (by rfl) ?_
        exact s_news F56 4 #[.bool bs25[k]] 1 (by kernel_rfl) (by kernel_rfl) (by kernel_rfl) S56.drop
      · intro w58 M58
        rintro _ _ ⟨g57, rfl, rfl⟩ hA61
        intro a58 F58 S58
        refine obl_of (by rfl) ?_
        exact s_app rfl Try.underlying82 1 _ tin4 rfl rfl (F58.e (.slice Ab k cb)) S58 ([Value.bool bs25[k]]) (F58.e (.slice (some ⟨g57, 0, none⟩) 1 1)) ((Sp.bkm S58.drop hA61).sl (by simp)) rfl (by simp [Value.oneCell']) (by omega) (by omega) (n' := k + 1) (by omega) (cs' := bools (bs25.take (k + 1))) (bools_take hlt_k)
    · rintro _ _ ⟨g57, rfl, rfl⟩
      rintro _ _ ⟨A62, c62, rfl, rfl⟩
      intro a64 w63 F64 S63
      have S65 : Sp R w63 (SA.own (.slice A62 (k + 1) c62) 4 1 (k + 1) (bools (bs25.take (k + 1))) :: SA.blk g57 4 #[.bool bs25[k]] :: SA.blk g5 3 #[.int .i64 0] :: SA.blk g3 82 #[.slice Ab k cb] :: SA.own (.slice A25 bs25.length c25) 140 1 bs25.length (errs bs25 gs25) :: L) := S63
      refine op_sq0 F64 (s_st rfl (F64.e (.pointer (some ⟨g3, 0, none⟩))) (F64.e (.slice A62 (k + 1) c62)) S65.p3 (by kernel_rfl) rfl rfl rfl (cs := #[.slice A62 (k + 1) c62]) (by kernel_rfl)) ?_
      rintro _ _ w66 rfl S66 F66
      refine wpList_nil ?_
      refine hK36 _ _ ?_; clear hK36 K36
      refine wp_region_lit ?_
      refine op_rq (v := .int .i64 (↑(k + 1))) F66 (r_add (z := ↑(k + 1)) rfl (F66.e (.int .i64 (↑k))) (F66.e (.int .i64 1)) (wr64 (by omega) (by omega) (by omega))) ?_; intro a67 F67
      refine op_q F67 (.int .i64 (↑(k + 1))) ?_; intro a68 F68
      refine wpList_nil ?_
      exact hK30 _ _ _ (by first | omega | (simp; omega)) ⟨A62, c62, k + 1, rfl, (F68.kk 2 (F68.kk 3 (F68.kk 12 (F68.kk 13 (F68.kk 14 F68.nil))))), S66.p2.drop.p3.p2.p2.p3, (by first | omega | (with_reducible assumption) | (simp; done))⟩
  · have hc_k : decide ((↑k : Int) < ↑bs25.length) = false := by first | (simp; done) | (simp; omega)
    obtain rfl : k = bs25.length := by omega
    rw [List.take_length] at S30
    refine wp_seq_k fun K69 hK69 => ?_
    refine wp_region_lit ?_
    refine op_q F30 (.bool (decide ((↑bs25.length : Int) < ↑bs25.length))) ?_; intro a70 F70
    have F71 := F70.sb 15 (by kernel_rfl) hc_k
    refine wpList_nil ?_
    refine hK69 _ _ ?_; clear hK69 K69
    refine wp_seq_k fun K72 hK72 => ?_
    refine wp_cond_false (F71.ev (by kernel_rfl)) ?_
    refine wp_exit ?_
    refine ex_then ?_; clear hK72 K72
    refine ex_then ?_
    refine ex_in ?_
    refine hK20 _ _ ?_; clear hK20 K20
    refine wp_seq_k fun K73 hK73 => ?_
    refine wp_region_lit ?_
    refine op_rq (v := .slice Ab bs25.length cb) F71 (r_ld rfl (F71.e (.pointer (some ⟨g3, 0, none⟩))) (v := .slice Ab bs25.length cb) ((S30.bk 1 rfl).cell 0) Try.underlying82 rfl) ?_; intro a74 F74
    refine op_sq0 F74 (s_st rfl (F74.e (.pointer (some ⟨g3, 0, none⟩))) (F74.e (.slice Ab bs25.length cb)) S30.p1 (by kernel_rfl) rfl rfl rfl (cs := #[.slice Ab bs25.length cb]) (by kernel_rfl)) ?_
    rintro _ _ w75 rfl S75 F75
    refine op_sq0 F75 (s_st rfl (F75.e (.pointer (some ⟨g5, 0, none⟩))) (F75.e (.int .i64 0)) S75.p1 (by kernel_rfl) rfl rfl rfl (cs := #[.int .i64 0]) (by kernel_rfl)) ?_
    rintro _ _ w76 rfl S76 F76
    refine wpList_nil ?_
    refine hK73 _ _ ?_; clear hK73 K73
    refine wp_ret ?_
    refine (F76.leaveD (f := 92) (args := #[.pointer (some ⟨g3, 0, none⟩), .pointer (some ⟨g5, 0, none⟩)]) (by simp [go_sem]) (catch92 g3 g5 _) (results2 Try.results42 (F76.rvc (p := ⟨g3, 0, none⟩) (by kernel_rfl) (load_one _ _ _ (.slice Ab bs25.length cb) ((S76.bk 1 rfl).cell 0) _ Try.underlying82 rfl)) (F76.rvc (p := ⟨g5, 0, none⟩) (by kernel_rfl) (load_one _ _ _ (.int .i64 0) ((S76.bk 0 rfl).cell 0) _ Try.underlying3 rfl))) ?_).1
    exact ⟨Ab, cb, bs25, rfl, S76.drop.drop.p1.drop, hp0_25⟩
end Go.Proofs.Ytkjcedlgljeoiaa

/- Contract: HlAll. -/
namespace Go.Proofs.Ytkjcedlgljeoiaa
open Go.RowKit Go.Lib

def okB (set : ByteArray) (c : UInt8) : Bool := alnumU c.toNat || set.data.toList.any fun x => x == c
def allB (s set : ByteArray) : Bool := (s.data.toList.all fun c => okB set c) && !s.data.toList.isEmpty

def inSet (set : ByteArray) (j : Nat) (c : UInt8) : Bool := (set.data.toList.take j).any fun x => x == c

end Go.Proofs.Ytkjcedlgljeoiaa

/- Bytes that are names: special, alnum, hlSpecial, hlName. -/
namespace Go.Proofs.Ytkjcedlgljeoiaa
open Go.RowKit Go.Lib

def spU (n : Nat) : Bool := n == 42 || n == 35 || n == 36 || n == 64 || n == 33 || n == 63 || n == 45 || (48 ≤ n && n ≤ 57)
def nmU (n : Nat) : Bool := n == 95 || alnumU n
def sevenB : List ByteArray := [⟨#[42]⟩, ⟨#[35]⟩, ⟨#[36]⟩, ⟨#[64]⟩, ⟨#[33]⟩, ⟨#[63]⟩, ⟨#[45]⟩]
end Go.Proofs.Ytkjcedlgljeoiaa

/- Expand: hlEnv, under. -/
namespace Go.Proofs.Ytkjcedlgljeoiaa
open Go.RowKit Go.Lib
set_option linter.unusedVariables false
set_option linter.unusedSimpArgs false
def undF (xs : List Ty108) (s : ByteArray) : ByteArray := xs.foldl (fun a x => if x.fKey.toList == s.toList then x.fText else a) ⟨#[]⟩
end Go.Proofs.Ytkjcedlgljeoiaa

/- Expand: the name behind a dollar sign, by the program and by the reference. -/
namespace Go.Proofs.Ytkjcedlgljeoiaa
open Go.RowKit Go.Lib

/-- The byte at a place, 0 behind the end. -/
def bt (s : ByteArray) (j : Nat) : Nat := if h : j < s.size then s[j].toNat else 0
def brk (s : ByteArray) : Bool := decide (2 < s.size) && spU (bt s 1) && bt s 2 == 125
def cls (s : ByteArray) (j : Nat) : Bool := decide (1 ≤ j) && bt s j == 125
def nmLen (s : ByteArray) : Nat := (firstN (fun j => !nmU (bt s j)) s.size).getD s.size
def shF (s : ByteArray) : ByteArray × Nat :=
  if bt s 0 = 123 then
    if brk s then (s.extract 1 2, 3) else match firstN (cls s) s.size with
      | some i => (s.extract 1 i, i + 1)
      | none => (⟨#[]⟩, 1)
  else if spU (bt s 0) then (s.extract 0 1, 1) else (s.extract 0 (nmLen s), nmLen s)
end Go.Proofs.Ytkjcedlgljeoiaa

/- Expand: the closure; the value of the whole. -/
namespace Go.Proofs.Ytkjcedlgljeoiaa
open Go.RowKit Go.Lib
set_option linter.unusedVariables false
set_option linter.unusedSimpArgs false
def pcF (xs : List Ty108) (p : ByteArray × Nat) : ByteArray := if p.1.toList == [] then (if p.2 = 0 then ⟨#[36]⟩ else ⟨#[]⟩) else undF xs p.1
def vrF (s : ByteArray) (j : Nat) : ByteArray × Nat := shF (s.extract (j + 1) s.size)
def exF (xs : List Ty108) (s : ByteArray) (j : Nat) : ByteArray :=
  if _h : j < s.size then
    if bt s j = 36 ∧ j + 1 < s.size then pcF xs (vrF s j) ++ exF xs s (j + 1 + (vrF s j).2)
    else s.extract j (j + 1) ++ exF xs s (j + 1)
  else ⟨#[]⟩
termination_by s.size - j
decreasing_by all_goals omega
end Go.Proofs.Ytkjcedlgljeoiaa

/- plain.Lower, EqualFold, HasPrefix. -/
namespace Go.Proofs.Ytkjcedlgljeoiaa
open Go.RowKit Go.Lib
set_option linter.unusedVariables false
set_option linter.unusedSimpArgs false
def hasPreB (s p : ByteArray) : Bool := decide ((p.size : Int) ≤ s.size) && ((s.extract 0 p.size).toList == p.toList)
end Go.Proofs.Ytkjcedlgljeoiaa

/- spec.hlFold, laws.hlSmall; plain.Expand with the closure of impl.PluginCommand. -/
namespace Go.Proofs.Ytkjcedlgljeoiaa
open Go.RowKit Go.Lib
set_option linter.unusedVariables false
set_option linter.unusedSimpArgs false
def smallB (s : ByteArray) : Bool := (s.data.toList.all fun c => decide (97 ≤ c.toNat) && decide (c.toNat ≤ 122)) && (!(s.toList == (⟨#[]⟩ : ByteArray).toList) && decide (s.size ≤ 10))
theorem small_no {s : ByteArray} {k : Nat} (hk : k < s.size) (h : s[k].toNat < 97 ∨ 122 < s[k].toNat) : smallB s = false := by
  unfold smallB
  rw [Bool.and_eq_false_iff]
  left
  rw [List.all_eq_false]
  exact ⟨s[k], Array.mem_toList_iff.2 (Array.getElem_mem _), by simp; omega⟩
theorem small_yes {s : ByteArray} {k : Nat} (hk : s.size ≤ k) (h : ∀ j, ∀ hj : j < s.size, j < k → 97 ≤ s[j].toNat ∧ s[j].toNat ≤ 122) : smallB s = (!(s.toList == (⟨#[]⟩ : ByteArray).toList) && decide (s.size ≤ 10)) := by
  unfold smallB
  have : (s.data.toList.all fun c => decide (97 ≤ c.toNat) && decide (c.toNat ≤ 122)) = true := by
    rw [List.all_eq_true]
    intro c hc
    obtain ⟨j, hj, rfl⟩ := List.mem_iff_getElem.1 hc
    have hj2 : j < s.size := by simpa using hj
    have h2 := h j hj2 (by omega)
    have e : s.data.toList[j] = s[j] := rfl
    rw [e]; simp [h2]
  rw [this, Bool.true_and]
set_option maxRecDepth 100000 in
set_option maxHeartbeats 20000000 in
theorem hlSmall_any (s : ByteArray) (R : Ctx) (L : List SA) (w : World) (S : Sp R w (L))  (hz : s.size ≤ 4000000000) :
    Calls Try.prog 40 #[.string s] w fun e w' => e = .returned (.bool (smallB s)) ∧ Sp R w' (L) := by
  refine fw_enter (fn := Try.f40) rfl rfl 27 rfl (Nat.le_of_ble_eq_true rfl) ?_
  intro a0 F0
  refine wp_seq_k fun K1 hK1 => ?_
  refine wp_region_lit ?_
  refine op_p F0 (.bool false) (by kernel_rfl) rfl rfl rfl (by kernel_rfl) rfl ?_; intro a2 F2
  refine wpList_nil ?_
  refine hK1 _ _ ?_; clear hK1 K1
  refine wp_seq_k fun K3 hK3 => ?_
  refine wp_seq_k fun K4 hK4 => ?_
  refine wp_region_lit ?_
  refine op_p F2 (.string s) (by kernel_rfl) rfl rfl rfl (by kernel_rfl) rfl ?_; intro a5 F5
  refine op_p F5 (.int .i64 (↑s.size)) (by kernel_rfl) rfl rfl rfl (by kernel_rfl) rfl ?_; intro a6 F6
  refine op_p F6 (.int .i64 0) (by kernel_rfl) rfl rfl rfl (by kernel_rfl) rfl ?_; intro a7 F7
  refine wpList_nil ?_
  refine hK4 _ _ ?_; clear hK4 K4
  refine wp_block ?_
  refine fw_loop (fun m a' w' => ∃ i : Nat, s.size - i = m ∧ Fr 27 [] a' [(0, .string s), (4, .string s), (5, .int .i64 (↑s.size)), (6, .int .i64 (↑i))] ∧ Sp R w' (L) ∧ (i ≤ s.size) ∧ (∀ j, ∀ hj : j < s.size, j < i → 97 ≤ s[j].toNat ∧ s[j].toNat ≤ 122)) _ ⟨0, rfl, (F7.k 0 (by kernel_rfl) (F7.k 4 (by kernel_rfl) (F7.k 5 (by kernel_rfl) (F7.k 6 (by kernel_rfl) F7.nil)))), S, (by first | omega | (with_reducible assumption) | (simp; done)), (fun j _ hj => absurd hj (Nat.not_lt_zero _))⟩ ?_
  rintro m8 a8 w8 ⟨i, hm8, F8, S8, hi, hsm⟩ K8 hK8
  by_cases hlt_i : i < s.size
  · have hc_i : decide ((↑i : Int) < ↑s.size) = true := by first | (simp; done) | (simp; omega)
    refine wp_seq_k fun K9 hK9 => ?_
    refine wp_region_lit ?_
    refine op_p F8 (.bool (decide ((↑i : Int) < ↑s.size))) (by kernel_rfl) rfl rfl rfl (by kernel_rfl) rfl ?_; intro a10 F10
    have F11 := F10.sb 7 (by kernel_rfl) hc_i
    refine wpList_nil ?_
    refine hK9 _ _ ?_; clear hK9 K9
    refine wp_seq_k fun K12 hK12 => ?_
    refine wp_cond_true (F11.ev (by kernel_rfl)) ?_
    refine wp_skip ?_
    refine hK12 _ _ ?_; clear hK12 K12
    refine wp_seq_k fun K13 hK13 => ?_
    refine wp_block ?_
    refine wp_seq_k fun K14 hK14 => ?_
    refine wp_region_lit ?_
    refine op_p F11 (.int .i64 (↑i)) (by kernel_rfl) rfl rfl rfl (by kernel_rfl) rfl ?_; intro a15 F15
    refine op_p F15 (.int .i64 (↑i)) (by kernel_rfl) rfl rfl rfl (by kernel_rfl) rfl ?_; intro a16 F16
    refine wpList_nil ?_
    refine hK14 _ _ ?_; clear hK14 K14
    refine wp_seq_k fun K17 hK17 => ?_
    refine wp_region_lit ?_
    refine op_p F16 (.string s) (by kernel_rfl) rfl rfl rfl (by kernel_rfl) rfl ?_; intro a18 F18
    refine op_p F18 (.int .i64 (↑i)) (by kernel_rfl) rfl rfl rfl (by kernel_rfl) rfl ?_; intro a19 F19
    refine op_r (v := .int .u8 (↑s[i].toNat)) F19 (r_index rfl Try.underlying9 (F19.ev (v := .string s) (by kernel_rfl)) (F19.ev (v := .int .i64 (↑i)) (by kernel_rfl)) i (by first | rfl | omega | simp) (by first | omega | (simp; done) | (simp; omega))) rfl rfl rfl ?_; intro a20 F20
    refine op_p F20 (.bool (decide ((↑s[i].toNat : Int) < 97))) (by kernel_rfl) rfl rfl rfl (by kernel_rfl) rfl ?_; intro a21 F21
    refine op_p F21 (.bool (decide ((↑s[i].toNat : Int) < 97))) (by kernel_rfl) rfl rfl rfl (by kernel_rfl) rfl ?_; intro a22 F22
    rcases btf (decide ((↑s[i].toNat : Int) < 97)) with hc23 | hc23
    · have hc23p := of_decide_eq_true hc23
      have F24 := F22.sb 12 (by kernel_rfl) hc23
      have F25 := F24.sb 13 (by kernel_rfl) hc23
      refine op_skip F25 (by kernel_rfl) rfl rfl rfl ?_; intro a26 F26
      refine op_skip F26 (by kernel_rfl) rfl rfl rfl ?_; intro a27 F27
      refine op_skip F27 (by kernel_rfl) rfl rfl rfl ?_; intro a28 F28
      refine op_skip F28 (by kernel_rfl) rfl rfl rfl ?_; intro a29 F29
      refine op_p F29 (.bool true) (by kernel_rfl) rfl rfl rfl (by kernel_rfl) rfl ?_; intro a30 F30
      refine wpList_nil ?_
      refine hK17 _ _ ?_; clear hK17 K17
      refine wp_cond_true (F30.ev (by kernel_rfl)) ?_
      refine wp_seq_k fun K31 hK31 => ?_
      refine wp_region_lit ?_
      refine op_p F30 (.bool false) (by kernel_rfl) rfl rfl rfl (by kernel_rfl) rfl ?_; intro a32 F32
      refine wpList_nil ?_
      refine hK31 _ _ ?_; clear hK31 K31
      refine wp_ret ?_
      refine ret_in ?_
      refine ret_then ?_
      refine ret_then ?_
      refine ret_in ?_
      refine ret_then ?_
      refine (F32.res1 rfl (v := .bool false) (by kernel_rfl) ?_).1
      exact ⟨(ret_bool (small_no hlt_i (by omega)).symm), S8⟩
    · have hc23p := of_decide_eq_false hc23
      have F33 := F22.sb 12 (by kernel_rfl) hc23
      have F34 := F33.sb 13 (by kernel_rfl) hc23
      refine op_want F34 (by kernel_rfl) rfl ?_
      refine op_p F34 (.string s) (by kernel_rfl) rfl rfl rfl (by kernel_rfl) rfl ?_; intro a35 F35
      refine op_want F35 (by kernel_rfl) rfl ?_
      refine op_p F35 (.int .i64 (↑i)) (by kernel_rfl) rfl rfl rfl (by kernel_rfl) rfl ?_; intro a36 F36
      refine op_want F36 (by kernel_rfl) rfl ?_
      refine op_r (v := .int .u8 (↑s[i].toNat)) F36 (r_index rfl Try.underlying9 (F36.ev (v := .string s) (by kernel_rfl)) (F36.ev (v := .int .i64 (↑i)) (by kernel_rfl)) i (by first | rfl | omega | simp) (by first | omega | (simp; done) | (simp; omega))) rfl rfl rfl ?_; intro a37 F37
      refine op_want F37 (by kernel_rfl) rfl ?_
      refine op_p F37 (.bool (decide ((122 : Int) < ↑s[i].toNat))) (by kernel_rfl) rfl rfl rfl (by kernel_rfl) rfl ?_; intro a38 F38
      refine op_p F38 (.bool (decide ((122 : Int) < ↑s[i].toNat))) (by kernel_rfl) rfl rfl rfl (by kernel_rfl) rfl ?_; intro a39 F39
      refine wpList_nil ?_
      refine hK17 _ _ ?_; clear hK17 K17
      rcases btf (decide ((122 : Int) < ↑s[i].toNat)) with hc40 | hc40
      · have hc40p := of_decide_eq_true hc40
        have F41 := F39.sb 17 (by kernel_rfl) hc40
        have F42 := F41.sb 18 (by kernel_rfl) hc40
        refine wp_cond_true (F42.ev (by kernel_rfl)) ?_
        refine wp_seq_k fun K43 hK43 => ?_
        refine wp_region_lit ?_
        refine op_p F42 (.bool false) (by kernel_rfl) rfl rfl rfl (by kernel_rfl) rfl ?_; intro a44 F44
        refine wpList_nil ?_
        refine hK43 _ _ ?_; clear hK43 K43
        refine wp_ret ?_
        refine ret_in ?_
        refine ret_then ?_
        refine ret_then ?_
        refine ret_in ?_
        refine ret_then ?_
        refine (F44.res1 rfl (v := .bool false) (by kernel_rfl) ?_).1
        exact ⟨(ret_bool (small_no hlt_i (by omega)).symm), S8⟩
      · have hc40p := of_decide_eq_false hc40
        have F45 := F39.sb 17 (by kernel_rfl) hc40
        have F46 := F45.sb 18 (by kernel_rfl) hc40
        refine wp_cond_false (F46.ev (by kernel_rfl)) ?_
        refine wp_skip ?_
        refine hK13 _ _ ?_; clear hK13 K13
        refine wp_region_lit ?_
        refine op_r (v := .int .i64 (↑(i + 1))) F46 (r_add (z := ↑(i + 1)) rfl (F46.ev (v := .int .i64 (↑i)) (by kernel_rfl)) (F46.ev (v := .int .i64 1) (by kernel_rfl)) (wr64 (by omega) (by omega) (by omega))) rfl rfl rfl ?_; intro a47 F47
        refine op_p F47 (.int .i64 (↑(i + 1))) (by kernel_rfl) rfl rfl rfl (by kernel_rfl) rfl ?_; intro a48 F48
        refine wpList_nil ?_
        exact hK8 _ _ _ (by first | omega | (simp; omega)) ⟨i + 1, rfl, (F48.k 0 (by kernel_rfl) (F48.k 4 (by kernel_rfl) (F48.k 5 (by kernel_rfl) (F48.k 6 (by kernel_rfl) F48.nil)))), S8, (by first | omega | (with_reducible assumption) | (simp; done)), (fun j hj h => (Nat.lt_succ_iff_lt_or_eq.1 h).elim (hsm j hj) (fun e => by subst e; omega))⟩
  · have hc_i : decide ((↑i : Int) < ↑s.size) = false := by first | (simp; done) | (simp; omega)
    obtain rfl : i = s.size := by omega
    refine wp_seq_k fun K49 hK49 => ?_
    refine wp_region_lit ?_
    refine op_p F8 (.bool (decide ((↑s.size : Int) < ↑s.size))) (by kernel_rfl) rfl rfl rfl (by kernel_rfl) rfl ?_; intro a50 F50
    have F51 := F50.sb 7 (by kernel_rfl) hc_i
    refine wpList_nil ?_
    refine hK49 _ _ ?_; clear hK49 K49
    refine wp_seq_k fun K52 hK52 => ?_
    refine wp_cond_false (F51.ev (by kernel_rfl)) ?_
    refine wp_exit ?_
    refine ex_then ?_; clear hK52 K52
    refine ex_then ?_
    refine ex_in ?_
    refine hK3 _ _ ?_; clear hK3 K3
    refine wp_seq_k fun K53 hK53 => ?_
    refine wp_region_lit ?_
    refine op_p F51 (.string s) (by kernel_rfl) rfl rfl rfl (by kernel_rfl) rfl ?_; intro a54 F54
    refine op_p F54 (.bool (!(s.toList == (⟨#[]⟩ : ByteArray).toList))) (by kernel_rfl) rfl rfl rfl (by kernel_rfl) rfl ?_; intro a55 F55
    refine op_p F55 (.bool (!(s.toList == (⟨#[]⟩ : ByteArray).toList))) (by kernel_rfl) rfl rfl rfl (by kernel_rfl) rfl ?_; intro a56 F56
    rcases btf (s.toList == (⟨#[]⟩ : ByteArray).toList) with hc57 | hc57
    · have F58 := F56.sb 21 (by kernel_rfl) (show (!(s.toList == (⟨#[]⟩ : ByteArray).toList)) = false by rw [hc57]; rfl)
      have F59 := F58.sb 22 (by kernel_rfl) (show (!(s.toList == (⟨#[]⟩ : ByteArray).toList)) = false by rw [hc57]; rfl)
      refine op_skip F59 (by kernel_rfl) rfl rfl rfl ?_; intro a60 F60
      refine op_skip F60 (by kernel_rfl) rfl rfl rfl ?_; intro a61 F61
      refine op_skip F61 (by kernel_rfl) rfl rfl rfl ?_; intro a62 F62
      refine op_p F62 (.bool false) (by kernel_rfl) rfl rfl rfl (by kernel_rfl) rfl ?_; intro a63 F63
      refine op_p F63 (.bool false) (by kernel_rfl) rfl rfl rfl (by kernel_rfl) rfl ?_; intro a64 F64
      refine wpList_nil ?_
      refine hK53 _ _ ?_; clear hK53 K53
      refine wp_ret ?_
      refine (F64.res1 rfl (v := .bool false) (by kernel_rfl) ?_).1
      exact ⟨(ret_bool (by rw [small_yes (Nat.le_refl _) (fun j hj _ => hsm j hj (by omega)), hc57]; rfl)), S8⟩
    · have F65 := F56.sb 21 (by kernel_rfl) (show (!(s.toList == (⟨#[]⟩ : ByteArray).toList)) = true by rw [hc57]; rfl)
      have F66 := F65.sb 22 (by kernel_rfl) (show (!(s.toList == (⟨#[]⟩ : ByteArray).toList)) = true by rw [hc57]; rfl)
      refine op_want F66 (by kernel_rfl) rfl ?_
      refine op_p F66 (.string s) (by kernel_rfl) rfl rfl rfl (by kernel_rfl) rfl ?_; intro a67 F67
      refine op_want F67 (by kernel_rfl) rfl ?_
      refine op_p F67 (.int .i64 (↑s.size)) (by kernel_rfl) rfl rfl rfl (by kernel_rfl) rfl ?_; intro a68 F68
      refine op_want F68 (by kernel_rfl) rfl ?_
      refine op_p F68 (.bool (decide ((↑s.size : Int) ≤ 10))) (by kernel_rfl) rfl rfl rfl (by kernel_rfl) rfl ?_; intro a69 F69
      refine op_p F69 (.bool (decide ((↑s.size : Int) ≤ 10))) (by kernel_rfl) rfl rfl rfl (by kernel_rfl) rfl ?_; intro a70 F70
      refine op_p F70 (.bool (decide ((↑s.size : Int) ≤ 10))) (by kernel_rfl) rfl rfl rfl (by kernel_rfl) rfl ?_; intro a71 F71
      refine wpList_nil ?_
      refine hK53 _ _ ?_; clear hK53 K53
      refine wp_ret ?_
      refine (F71.res1 rfl (v := .bool (decide ((↑s.size : Int) ≤ 10))) (by kernel_rfl) ?_).1
      exact ⟨(ret_bool (by rw [small_yes (Nat.le_refl _) (fun j hj _ => hsm j hj (by omega)), hc57]; show decide _ = (true && decide _); rw [Bool.true_and]; exact decide_eq_decide.2 (by omega))), S8⟩
end Go.Proofs.Ytkjcedlgljeoiaa

