/- Texts Pn6, laid together. -/
import Derived.WalkKit
import Derived.WalkLawsBesides
import Derived.WalkSpells
import Derived.Lib.Hide
import Derived.Deep.RegionWith
import Derived.Deep.DeepCutAuto
import Derived.Deep.QuietTactic
import Derived.BigQuiet
import Derived.Laws.OwnMore
import Derived.Deep.LoopGhost
import Derived.KernelRfl
import Derived.Deep.WholeRow
import Derived.StillTail
import Derived.SliceStrings
import Derived.Deep.Slices
import Derived.Deep.Fields
import Derived.ChangeSame
import Derived.Deep.MidRow
import Derived.Maps.AppendAt
import Derived.Lib.AppendStr
import Derived.Lib.ConvBytes
import Derived.Laws.BytesArg
import Derived.Deep.RegionLaw
import Derived.OwnWalk
import Derived.Maps.OwnSet
import Derived.Maps.OwnOps
import Derived.ArgAppend
import Derived.Defers
import Derived.Recover
import Derived.Laws.Pointers
import Derived.Laws.StructEq
import Derived.IntWalk
import Derived.Test.YtkjcedlgljeoiaaProg
import Derived.Test.YtkjcedlgljeoiaaZpd
/- The walk of FnHlPlugin. -/
namespace Go.Proofs.Ytkjcedlgljeoiaa
open Go.RowKit Go.Lib
set_option linter.unusedVariables false
set_option linter.unusedSimpArgs false
theorem short_len {xs : List ByteArray} (h : shortB xs = true) : xs.length ≤ 30 := by
  unfold shortB at h
  rw [Bool.and_eq_true] at h
  exact of_decide_eq_true h.1
theorem short_all {xs : List ByteArray} (h : shortB xs = true) : ∀ x ∈ xs, x.size ≤ 100 := fun x hx => by
  unfold shortB at h
  rw [Bool.and_eq_true, List.all_eq_true] at h
  have := h.2 x hx
  unfold shortS at this
  rw [Bool.and_eq_true] at this
  exact of_decide_eq_true this.1
theorem fits18_sz {xs : List Ty108} (h : fits18 xs = true) : (∀ x ∈ xs, x.fKey.size ≤ 2147483647) ∧ ∀ x ∈ xs, x.fText.size ≤ 2147483647 := by
  simp only [fits18, Bool.and_eq_true, List.all_eq_true] at h
  refine ⟨fun x hx => ?_, fun x hx => ?_⟩ <;> (have h2 := h.2 x hx; simp only [fits68, Bool.and_eq_true, decide_eq_true_eq] at h2; omega)
theorem shortS_sz {s : ByteArray} (h : shortS s = true) : s.size ≤ 100 ∧ ∀ j, ∀ h : j < s.size, s[j].toNat ≤ 127 := by
  simp only [shortS, Bool.and_eq_true, decide_eq_true_eq, List.all_eq_true] at h
  refine ⟨h.1, fun j hj => h.2 _ ?_⟩
  have : s[j] = s.data.toList[j]'(by simpa using hj) := by simp [ByteArray.getElem_eq_getElem_data]
  rw [this]
  exact List.getElem_mem _
theorem pieces32_any (s : ByteArray) (ps : List ByteArray) (w : World) (hs : s.size ≤ 1000000) (hps : ps = splitF ⟨#[32]⟩ (s.size + 1) s) :
    Calls Try.prog 91 #[.string s, .int .u8 32] w fun e w' => ∃ (A : Option Addr) (c : Nat), e = .returned (.slice A ps.length c) ∧ w'.ownsRow w.heap.size 9 1 (.slice A ps.length c) ps.length (strs ps) ∧ Below w.heap.size w w' := by
  subst hps
  refine (pieces_any s 32 w hs).mono fun e w' ⟨v, he, ho, hb⟩ => ?_
  obtain ⟨A, c, rfl, _⟩ := own_form ho
  exact ⟨A, c, he, ho, hb⟩
theorem splitF_cons (sep s : ByteArray) (k : Nat) : ∃ x l, splitF sep k s = x :: l := by
  cases k with
  | zero => exact ⟨_, _, rfl⟩
  | succ k =>
    unfold splitF
    cases idxO s sep with
    | none => exact ⟨_, _, rfl⟩
    | some i => exact ⟨_, _, rfl⟩
def OkC (c : Ty110) : Prop := (c.fOS.size = 0 ∨ smallB c.fOS = true) ∧ (c.fArch.size = 0 ∨ smallB c.fArch = true) ∧ shortB (partsF c ++ c.fArgs ++ [c.fCommand]) = true ∧ (∀ s ∈ partsF c ++ c.fArgs, 0 < s.size) ∧ c.fCommand.size ≤ 100 ∧ c.fArgs.length ≤ 5
theorem bt0_zero {s : ByteArray} (h : s.size = 0) (j : Nat) : bt0 s j ≤ 127 := by unfold bt0; split <;> omega
theorem small_asc {s : ByteArray} (h : smallB s = true) (j : Nat) : bt0 s j ≤ 127 := by
  unfold smallB at h
  rw [Bool.and_eq_true, List.all_eq_true] at h
  unfold bt0
  split
  · next hj =>
    have h2 := h.1 s[j] (Array.mem_toList_iff.2 (Array.getElem_mem _))
    simp only [Bool.and_eq_true, decide_eq_true_eq] at h2
    omega
  · omega
theorem small_size {s : ByteArray} (h : smallB s = true) : 0 < s.size ∧ s.size ≤ 10 := by
  unfold smallB at h
  simp only [Bool.and_eq_true, decide_eq_true_eq] at h
  refine ⟨?_, h.2.2⟩
  rcases Nat.eq_zero_or_pos s.size with h0 | h0
  · have := nb_z h0; unfold nb at this; rw [this] at h; simp at h
  · exact h0
theorem okc_asc {c : Ty110} (h : OkC c) : (∀ j, bt0 c.fOS j ≤ 127) ∧ (∀ j, bt0 c.fArch j ≤ 127) := ⟨fun j => h.1.elim (fun h => bt0_zero h j) (fun h => small_asc h j), fun j => h.2.1.elim (fun h => bt0_zero h j) (fun h => small_asc h j)⟩
theorem okc_sz {c : Ty110} (h : OkC c) : c.fOS.size ≤ 1000000 ∧ c.fArch.size ≤ 1000000 ∧ c.fCommand.size ≤ 1000000 := ⟨h.1.elim (fun h => by omega) (fun h => by have := small_size h; omega), h.2.1.elim (fun h => by omega) (fun h => by have := small_size h; omega), by have := h.2.2.2.2.1; omega⟩
theorem okc_all {cs : List Ty110} {k : Nat} (hk : cs.length ≤ k) (h : ∀ j, ∀ h : j < cs.length, j < k → OkC cs[j]) : ∀ x ∈ cs, OkC x := fun x hx => by
  obtain ⟨j, hj, rfl⟩ := List.mem_iff_getElem.1 hx
  exact h j hj (by omega)
theorem okc_parts {c : Ty110} (h : OkC c) : ∃ p0 ps, partsF c = p0 :: ps ∧ 0 < p0.size ∧ (∀ s ∈ p0 :: ps, s.size ≤ 1000) ∧ (∀ s ∈ c.fArgs, s.size ≤ 1000) ∧ ps.length ≤ 10000 ∧ c.fArgs.length ≤ 10000 := by
  obtain ⟨p0, ps, e⟩ := splitF_cons ⟨#[32]⟩ c.fCommand (c.fCommand.size + 1)
  have e : partsF c = p0 :: ps := e
  obtain ⟨_, _, h3, h4, h5, h6⟩ := h
  have h7 := short_all h3
  have h8 := short_len h3
  rw [e] at h7 h8 h4
  refine ⟨p0, ps, e, h4 _ (by simp), fun s hs => ?_, fun s hs => ?_, ?_, by omega⟩
  · have := h7 s (List.mem_append_left _ (List.mem_append_left _ hs)); omega
  · have := h7 s (by simp; exact .inr (.inr (.inl hs))); omega
  · simp at h8; omega
theorem pick_mem {os arch : ByteArray} {cs : List Ty110} {c : Ty110} (h : pickF os arch cs = some c) : c ∈ cs := by
  have hS : ∀ (l : List Ty110) (st : Nat × Ty110), (0 < st.1 → st.2 ∈ cs) → (∀ x ∈ l, x ∈ cs) → (0 < (l.foldl (pk os) st).1 → (l.foldl (pk os) st).2 ∈ cs) := by
    intro l
    induction l with
    | nil => intro st h1 _; exact h1
    | cons x l ih =>
      intro st h1 h2
      refine ih _ ?_ (fun y hy => h2 y (by simp [hy]))
      unfold pk
      split
      · intro _; exact h2 x (by simp)
      · split
        · intro _; exact h2 x (by simp)
        · exact h1
  unfold pickF at h
  split at h
  · next x hx => injection h with h; subst h; exact List.mem_of_find?_eq_some hx
  · split at h
    · next h0 => injection h with h; subst h; exact hS cs (0, zeroC) (fun h => absurd h (Nat.not_lt_zero _)) (fun _ h => h) h0
    · cases h
theorem fits54_sz {cs : List Ty110} (h : fits54 cs = true) : ∀ x ∈ cs, x.fOS.size ≤ 4000000000 ∧ x.fArch.size ≤ 4000000000 := fun x hx => by
  unfold fits54 at h
  simp only [Bool.and_eq_true, List.all_eq_true] at h
  have := h.2 x hx
  simp only [fits108, Bool.and_eq_true, decide_eq_true_eq] at this
  omega
theorem fits54_cm {cs : List Ty110} (h : fits54 cs = true) : ∀ x ∈ cs, x.fCommand.size ≤ 4000000000 ∧ fits3 x.fArgs = true := fun x hx => by
  unfold fits54 at h
  simp only [Bool.and_eq_true, List.all_eq_true] at h
  have := h.2 x hx
  simp only [fits108, Bool.and_eq_true, decide_eq_true_eq] at this
  exact ⟨by omega, this.2⟩
theorem hlCommand_some (os : ByteArray) (arch : ByteArray) (A : Option Addr) (d : Nat) (cs : List Ty110) (c : Ty110) (R : Ctx) (L : List SA) (w : World) (S : Sp R w L) (h0 : Rf R L fun w => Rows w A 4 (cs.map Ty110.cells)) (hcz : ∀ x ∈ cs, x.fOS.size ≤ 4000000000 ∧ x.fArch.size ≤ 4000000000) (hpk : pickF os arch cs = some c) :
    Calls Try.prog 57 #[.string os, .string arch, .slice A cs.length d] w fun e w' => e = .returned (.tuple #[.agg #[.string c.fOS, .string c.fArch, .string c.fCommand, .slice c.fArgs_a c.fArgs.length c.fArgs_c], .bool true]) ∧ Sp R w' L := by
  refine (hlCommand_any os arch A d cs R L w S h0 hcz).mono fun e w' ⟨c', b, he, hS, hp⟩ => ?_
  rw [hpk] at hp
  cases b with
  | false => cases hp
  | true => injection hp with hp; subst hp; exact ⟨he, hS⟩
theorem hlCommand_none (os : ByteArray) (arch : ByteArray) (A : Option Addr) (d : Nat) (cs : List Ty110) (R : Ctx) (L : List SA) (w : World) (S : Sp R w L) (h0 : Rf R L fun w => Rows w A 4 (cs.map Ty110.cells)) (hcz : ∀ x ∈ cs, x.fOS.size ≤ 4000000000 ∧ x.fArch.size ≤ 4000000000) (hpk : pickF os arch cs = none) :
    Calls Try.prog 57 #[.string os, .string arch, .slice A cs.length d] w fun e w' => ∃ c : Ty110, e = .returned (.tuple #[.agg #[.string c.fOS, .string c.fArch, .string c.fCommand, .slice c.fArgs_a c.fArgs.length c.fArgs_c], .bool false]) ∧ Sp R w' L := by
  refine (hlCommand_any os arch A d cs R L w S h0 hcz).mono fun e w' ⟨c', b, he, hS, hp⟩ => ?_
  rw [hpk] at hp
  cases b with
  | true => cases hp
  | false => exact ⟨c', he, hS⟩
theorem sz_of {a : ByteArray} (h : (a.toList == (⟨#[]⟩ : ByteArray).toList) = true) : a.size = 0 := by
  rcases Nat.eq_zero_or_pos a.size with h0 | h0
  · exact h0
  · have := nb_n h0; unfold nb at this; rw [h] at this; cases this
theorem exF_nil {xs : List Ty108} {s : ByteArray} (h : ((exF xs s 0).toList == (⟨#[]⟩ : ByteArray).toList) = false) : 0 < s.size := by
  rcases Nat.eq_zero_or_pos s.size with h0 | h0
  · have e : exF xs s 0 = ⟨#[]⟩ := exF_end (by omega)
    rw [e] at h
    exact absurd h (by rw [beq_self_eq_true]; simp)
  · exact h0
theorem pp_all {l : List ByteArray} {q : Nat} (hq : l.length ≤ q) (h : ∀ j, ∀ h : j < l.length, j < q → 0 < l[j].size) : ∀ s ∈ l, 0 < s.size := fun x hx => by
  obtain ⟨j, hj, rfl⟩ := List.mem_iff_getElem.1 hx
  exact h j hj (by omega)
theorem shortB_mem {l : List ByteArray} (h : shortB l = true) {s : ByteArray} (hs : s ∈ l) : shortS s = true := by
  unfold shortB at h
  rw [Bool.and_eq_true, List.all_eq_true] at h
  exact h.2 s hs
theorem s_app2x {P : Program} {R : Ctx} {L : List SA} {o : Oper} {a : Act} {w : World} {A : Option Addr} {l : List ByteArray} {x : ByteArray} (h : sAt P R L o a w (fun v' Q => ∃ A' c', v' = .slice A' (l.length + 1) c' ∧ Q = SA.two A (strs l) A' (strs l ++ [.string x]))) :
    sAt P R L o a w (fun v' Q => ∃ A' c', v' = .slice A' (l ++ [x]).length c' ∧ Q = SA.two A (strs l) A' (strs (l ++ [x]))) :=
  sAt_mono h fun v Q ⟨A', c', h1, h2⟩ => ⟨A', c', by rw [h1, List.length_append]; rfl, by rw [h2]; simp [strs]⟩
set_option maxRecDepth 100000 in
set_option maxHeartbeats 20000000 in
theorem hlParts_any (s : ByteArray) (ps : List ByteArray) (R : Ctx) (L : List SA) (w : World) (S : Sp R w (L))  (hs : s.size ≤ 1000000) (hps : ps = splitF ⟨#[32]⟩ (s.size + 1) s) :
    Calls Try.prog 55 #[.string s] w fun e w' => ∃ A : Option Addr, ∃ c : Nat, e = .returned (.slice A (ps.length) c) ∧ Sp R w' (SA.own (.slice A ps.length c) 9 1 (ps.length) (strs ps) :: L) := by
  refine fw_enter (fn := Try.f55) rfl rfl 5 rfl (Nat.le_of_ble_eq_true rfl) ?_
  intro a0 F0
  refine wp_seq_k fun K1 hK1 => ?_
  refine wp_region_lit ?_
  refine op_q F0 (.slice none 0 0) ?_; intro a2 F2
  refine wpList_nil ?_
  refine hK1 _ _ ?_; clear hK1 K1
  refine wp_seq_k fun K3 hK3 => ?_
  refine wp_region_lit ?_
  refine op_q F2 (.string s) ?_; intro a4 F4
  refine op_cq F4 (f := 91) (args := #[.string s, .int .u8 32]) (pieces32_any s ps _ (by first | omega | (simp; done) | (simp; omega)) hps) ?_
  rintro _ w5 ⟨A5, c5, rfl, hp0_5, hb_5⟩
  refine ⟨_, rfl, ?_⟩
  intro a6 F6
  have S5 := S.newown hb_5 hp0_5
  refine op_q F6 (.slice A5 (ps.length) c5) ?_; intro a7 F7
  refine wpList_nil ?_
  refine hK3 _ _ ?_; clear hK3 K3
  refine wp_ret ?_
  refine (F7.res1 rfl (v := .slice A5 (ps.length) c5) (by kernel_rfl) ?_).1
  exact ⟨A5, c5, rfl, S5⟩
set_option maxRecDepth 100000 in
set_option maxHeartbeats 20000000 in
theorem plugin_sp (os : ByteArray) (arch : ByteArray) (E : Option Addr) (ce : Nat) (xs : List Ty108) (A : Option Addr) (d : Nat) (cs : List Ty110) (ig : Bool) (B : Option Addr) (db : Nat) (extra : List ByteArray) (R : Ctx) (L : List SA) (w : World) (S : Sp R w (L)) (h0 : Rf R L fun w => Rows w (E) 2 (xs.map Ty108.cells)) (h1 : Rf R L fun w => Ty108.oks xs w) (h2 : Rf R L fun w => Rows w (A) 4 (cs.map Ty110.cells)) (h3 : Rf R L fun w => Ty110.oks cs w) (h4 : Rf R L fun w => Sl w (B) (strs extra)) (hcE : xs.length ≤ ce) :
    Calls Try.prog 12 #[.string os, .string arch, .slice (E) (xs.length) (ce), .slice (A) (cs.length) (d), .bool ig, .slice (B) (extra.length) (db)] w fun e w' => e = .returned (.bool true) ∧ Sp R w' (L) := by
  have hl_xs : xs.length ≤ 9223372036854775807 := by have := (h0 _ S).1; simpa [strs, ptrs] using this
  have hl_cs : cs.length ≤ 9223372036854775807 := by have := (h2 _ S).1; simpa [strs, ptrs] using this
  have hl_extra : extra.length ≤ 9223372036854775807 := by have := (h4 _ S).1; simpa [strs, ptrs] using this
  refine fw_enter (fn := Try.f12) rfl rfl 247 rfl (Nat.le_of_ble_eq_true rfl) ?_
  intro a0 F0
  refine wp_seq_k fun K1 hK1 => ?_
  refine wp_region_lit ?_
  refine op_q F0 (.bool false) ?_; intro a2 F2
  refine wpList_nil ?_
  refine hK1 _ _ ?_; clear hK1 K1
  refine wp_seq_k fun K3 hK3 => ?_
  refine wp_seq_k fun K4 hK4 => ?_
  refine wp_region_lit ?_
  refine op_q F2 (.string os) ?_; intro a5 F5
  refine op_q F5 (.int .i64 (↑os.size)) ?_; intro a6 F6
  refine op_q F6 (.bool (decide ((2147483647 : Int) < ↑os.size))) ?_; intro a7 F7
  refine op_q F7 (.bool (decide ((2147483647 : Int) < ↑os.size))) ?_; intro a8 F8
  rcases btf (decide ((2147483647 : Int) < ↑os.size)) with hc9 | hc9
  · have hc9p := of_decide_eq_true hc9
    have F10 := F8.sb 30 (by kernel_rfl) hc9
    have F11 := F10.sb 31 (by kernel_rfl) hc9
    refine op_kq F11 ?_; intro a12 F12
    refine op_kq F12 ?_; intro a13 F13
    refine op_kq F13 ?_; intro a14 F14
    refine op_q F14 (.bool true) ?_; intro a15 F15
    refine op_q F15 (.bool true) ?_; intro a16 F16
    refine op_kq F16 ?_; intro a17 F17
    refine op_kq F17 ?_; intro a18 F18
    refine op_kq F18 ?_; intro a19 F19
    refine op_q F19 (.bool true) ?_; intro a20 F20
    refine op_q F20 (.bool true) ?_; intro a21 F21
    refine op_kq F21 ?_; intro a22 F22
    refine op_kq F22 ?_; intro a23 F23
    refine op_kq F23 ?_; intro a24 F24
    refine op_q F24 (.bool true) ?_; intro a25 F25
    refine op_q F25 (.bool true) ?_; intro a26 F26
    refine op_kq F26 ?_; intro a27 F27
    refine op_kq F27 ?_; intro a28 F28
    refine op_kq F28 ?_; intro a29 F29
    refine op_q F29 (.bool true) ?_; intro a30 F30
    refine wpList_nil ?_
    refine hK4 _ _ ?_; clear hK4 K4
    refine wp_cond_true (F30.ev (by kernel_rfl)) ?_
    refine wp_seq_k fun K31 hK31 => ?_
    refine wp_region_lit ?_
    refine op_q F30 (.bool true) ?_; intro a32 F32
    refine wpList_nil ?_
    refine hK31 _ _ ?_; clear hK31 K31
    refine wp_ret ?_
    refine ret_then ?_
    refine (F32.res1 rfl (v := .bool true) (by kernel_rfl) ?_).1
    exact ⟨rfl, S⟩
  · have hc9p := of_decide_eq_false hc9
    have F33 := F8.sb 30 (by kernel_rfl) hc9
    have F34 := F33.sb 31 (by kernel_rfl) hc9
    refine op_wq F34 ?_
    refine op_q F34 (.string arch) ?_; intro a35 F35
    refine op_wq F35 ?_
    refine op_q F35 (.int .i64 (↑arch.size)) ?_; intro a36 F36
    refine op_wq F36 ?_
    refine op_q F36 (.bool (decide ((2147483647 : Int) < ↑arch.size))) ?_; intro a37 F37
    refine op_q F37 (.bool (decide ((2147483647 : Int) < ↑arch.size))) ?_; intro a38 F38
    refine op_q F38 (.bool (decide ((2147483647 : Int) < ↑arch.size))) ?_; intro a39 F39
    rcases btf (decide ((2147483647 : Int) < ↑arch.size)) with hc40 | hc40
    · have hc40p := of_decide_eq_true hc40
      have F41 := F39.sb 34 (by kernel_rfl) hc40
      have F42 := F41.sb 35 (by kernel_rfl) hc40
      have F43 := F42.sb 36 (by kernel_rfl) hc40
      refine op_kq F43 ?_; intro a44 F44
      refine op_kq F44 ?_; intro a45 F45
      refine op_kq F45 ?_; intro a46 F46
      refine op_q F46 (.bool true) ?_; intro a47 F47
      refine op_q F47 (.bool true) ?_; intro a48 F48
      refine op_kq F48 ?_; intro a49 F49
      refine op_kq F49 ?_; intro a50 F50
      refine op_kq F50 ?_; intro a51 F51
      refine op_q F51 (.bool true) ?_; intro a52 F52
      refine op_q F52 (.bool true) ?_; intro a53 F53
      refine op_kq F53 ?_; intro a54 F54
      refine op_kq F54 ?_; intro a55 F55
      refine op_kq F55 ?_; intro a56 F56
      refine op_q F56 (.bool true) ?_; intro a57 F57
      refine wpList_nil ?_
      refine hK4 _ _ ?_; clear hK4 K4
      refine wp_cond_true (F57.ev (by kernel_rfl)) ?_
      refine wp_seq_k fun K58 hK58 => ?_
      refine wp_region_lit ?_
      refine op_q F57 (.bool true) ?_; intro a59 F59
      refine wpList_nil ?_
      refine hK58 _ _ ?_; clear hK58 K58
      refine wp_ret ?_
      refine ret_then ?_
      refine (F59.res1 rfl (v := .bool true) (by kernel_rfl) ?_).1
      exact ⟨rfl, S⟩
    · have hc40p := of_decide_eq_false hc40
      have F60 := F39.sb 34 (by kernel_rfl) hc40
      have F61 := F60.sb 35 (by kernel_rfl) hc40
      have F62 := F61.sb 36 (by kernel_rfl) hc40
      refine op_wq F62 ?_
      refine op_q F62 (.slice (E) (xs.length) (ce)) ?_; intro a63 F63
      refine op_wq F63 ?_
      refine op_cq F63 (f := 18) (args := #[.slice (E) (xs.length) (ce)]) (fits18_any E ce xs _ (h0 _ S) (h1 _ S)) ?_
      rintro _ w64 ⟨rfl, hb_64⟩
      refine ⟨_, rfl, ?_⟩
      intro a65 F65
      have S64 := S.below hb_64
      refine op_wq F65 ?_
      refine op_q F65 (.bool (!(fits18 xs))) ?_; intro a66 F66
      refine op_q F66 (.bool (!(fits18 xs))) ?_; intro a67 F67
      refine op_q F67 (.bool (!(fits18 xs))) ?_; intro a68 F68
      rcases btf (fits18 xs) with hc69 | hc69
      · have hk18 := (fits18_sz hc69).1
        have hM := (fits18_sz hc69).2
        have F70 := F68.sb 38 (by kernel_rfl) hc69
        have F71 := F70.sb 39 (by kernel_rfl) (show (!(fits18 xs)) = false by rw [hc69]; rfl)
        have F72 := F71.sb 40 (by kernel_rfl) (show (!(fits18 xs)) = false by rw [hc69]; rfl)
        have F73 := F72.sb 41 (by kernel_rfl) (show (!(fits18 xs)) = false by rw [hc69]; rfl)
        refine op_wq F73 ?_
        refine op_q F73 (.slice (A) (cs.length) (d)) ?_; intro a74 F74
        refine op_wq F74 ?_
        refine op_cq F74 (f := 54) (args := #[.slice (A) (cs.length) (d)]) (fits54_any A d cs _ (h2 _ S64) (h3 _ S64)) ?_
        rintro _ w75 ⟨rfl, hb_75⟩
        refine ⟨_, rfl, ?_⟩
        intro a76 F76
        have S75 := S64.below hb_75
        refine op_wq F76 ?_
        refine op_q F76 (.bool (!(fits54 cs))) ?_; intro a77 F77
        refine op_q F77 (.bool (!(fits54 cs))) ?_; intro a78 F78
        refine op_q F78 (.bool (!(fits54 cs))) ?_; intro a79 F79
        rcases btf (fits54 cs) with hc80 | hc80
        · have hf54 := hc80
          have F81 := F79.sb 43 (by kernel_rfl) hc80
          have F82 := F81.sb 44 (by kernel_rfl) (show (!(fits54 cs)) = false by rw [hc80]; rfl)
          have F83 := F82.sb 45 (by kernel_rfl) (show (!(fits54 cs)) = false by rw [hc80]; rfl)
          have F84 := F83.sb 46 (by kernel_rfl) (show (!(fits54 cs)) = false by rw [hc80]; rfl)
          refine op_wq F84 ?_
          refine op_q F84 (.slice (B) (extra.length) (db)) ?_; intro a85 F85
          refine op_wq F85 ?_
          refine op_cq F85 (f := 27) (args := #[.slice (B) (extra.length) (db)]) (zzFits3_any B db extra _ (h4 _ S75)) ?_
          rintro _ _ ⟨rfl, rfl⟩
          refine ⟨_, rfl, ?_⟩
          intro a87 F87
          refine op_wq F87 ?_
          refine op_q F87 (.bool (!(fits3 extra))) ?_; intro a88 F88
          refine op_q F88 (.bool (!(fits3 extra))) ?_; intro a89 F89
          refine wpList_nil ?_
          refine hK4 _ _ ?_; clear hK4 K4
          rcases btf (fits3 extra) with hc90 | hc90
          · have F91 := F89.sb 48 (by kernel_rfl) hc90
            have F92 := F91.sb 49 (by kernel_rfl) (show (!(fits3 extra)) = false by rw [hc90]; rfl)
            have F93 := F92.sb 50 (by kernel_rfl) (show (!(fits3 extra)) = false by rw [hc90]; rfl)
            refine wp_cond_false (F93.ev (by kernel_rfl)) ?_
            refine wp_skip ?_
            refine hK3 _ _ ?_; clear hK3 K3
            refine wp_seq_k fun K94 hK94 => ?_
            refine wp_seq_k fun K95 hK95 => ?_
            refine wp_region_lit ?_
            refine op_q F93 (.string os) ?_; intro a96 F96
            refine op_cq F96 (f := 40) (args := #[.string os]) (hlSmall_any os _ _ _ S75 (by first | omega | (simp; done) | (simp; omega))) ?_
            rintro _ w97 ⟨rfl, S97⟩
            refine ⟨_, rfl, ?_⟩
            intro a98 F98
            refine op_q F98 (.bool (!(smallB os))) ?_; intro a99 F99
            refine op_q F99 (.bool (!(smallB os))) ?_; intro a100 F100
            rcases btf (smallB os) with hc101 | hc101
            · have hos := (small_size hc101).1
              have hos2 := (small_size hc101).2
              have hoa := small_asc hc101
              have F102 := F100.sb 52 (by kernel_rfl) hc101
              have F103 := F102.sb 53 (by kernel_rfl) (show (!(smallB os)) = false by rw [hc101]; rfl)
              have F104 := F103.sb 54 (by kernel_rfl) (show (!(smallB os)) = false by rw [hc101]; rfl)
              refine op_wq F104 ?_
              refine op_q F104 (.string arch) ?_; intro a105 F105
              refine op_wq F105 ?_
              refine op_cq F105 (f := 40) (args := #[.string arch]) (hlSmall_any arch _ _ _ S97 (by first | omega | (simp; done) | (simp; omega))) ?_
              rintro _ w106 ⟨rfl, S106⟩
              refine ⟨_, rfl, ?_⟩
              intro a107 F107
              refine op_wq F107 ?_
              refine op_q F107 (.bool (!(smallB arch))) ?_; intro a108 F108
              refine op_q F108 (.bool (!(smallB arch))) ?_; intro a109 F109
              refine op_q F109 (.bool (!(smallB arch))) ?_; intro a110 F110
              rcases btf (smallB arch) with hc111 | hc111
              · have har2 := (small_size hc111).2
                have haa := small_asc hc111
                have F112 := F110.sb 56 (by kernel_rfl) hc111
                have F113 := F112.sb 57 (by kernel_rfl) (show (!(smallB arch)) = false by rw [hc111]; rfl)
                have F114 := F113.sb 58 (by kernel_rfl) (show (!(smallB arch)) = false by rw [hc111]; rfl)
                have F115 := F114.sb 59 (by kernel_rfl) (show (!(smallB arch)) = false by rw [hc111]; rfl)
                refine op_wq F115 ?_
                refine op_q F115 (.slice (E) (xs.length) (ce)) ?_; intro a116 F116
                refine op_wq F116 ?_
                refine op_cq F116 (f := 20) (args := #[.slice (E) (xs.length) (ce)]) (hlEnv_any E ce xs _ (h0 _ S106) hcE hk18) ?_
                rintro _ w117 ⟨b117, rfl, hb_117⟩
                refine ⟨_, rfl, ?_⟩
                intro a118 F118
                have S117 := S106.below hb_117
                refine op_wq F118 ?_
                refine op_q F118 (.bool (!(b117))) ?_; intro a119 F119
                refine op_q F119 (.bool (!(b117))) ?_; intro a120 F120
                refine op_q F120 (.bool (!(b117))) ?_; intro a121 F121
                rcases btf (b117) with hc122 | hc122
                · have F123 := F121.sb 61 (by kernel_rfl) hc122
                  have F124 := F123.sb 62 (by kernel_rfl) (show (!(b117)) = false by rw [hc122]; rfl)
                  have F125 := F124.sb 63 (by kernel_rfl) (show (!(b117)) = false by rw [hc122]; rfl)
                  have F126 := F125.sb 64 (by kernel_rfl) (show (!(b117)) = false by rw [hc122]; rfl)
                  refine op_wq F126 ?_
                  refine op_q F126 (.slice (A) (cs.length) (d)) ?_; intro a127 F127
                  refine op_wq F127 ?_
                  refine op_q F127 (.int .i64 (↑cs.length)) ?_; intro a128 F128
                  refine op_wq F128 ?_
                  refine op_q F128 (.bool ((↑cs.length : Int) == 0)) ?_; intro a129 F129
                  refine op_q F129 (.bool ((↑cs.length : Int) == 0)) ?_; intro a130 F130
                  refine op_q F130 (.bool ((↑cs.length : Int) == 0)) ?_; intro a131 F131
                  rcases btf ((↑cs.length : Int) == 0) with hc132 | hc132
                  · have hc132p := eq_of_beq hc132
                    have F133 := F131.sb 67 (by kernel_rfl) hc132
                    have F134 := F133.sb 68 (by kernel_rfl) hc132
                    have F135 := F134.sb 69 (by kernel_rfl) hc132
                    refine op_kq F135 ?_; intro a136 F136
                    refine op_kq F136 ?_; intro a137 F137
                    refine op_kq F137 ?_; intro a138 F138
                    refine op_q F138 (.bool true) ?_; intro a139 F139
                    refine op_q F139 (.bool true) ?_; intro a140 F140
                    refine op_kq F140 ?_; intro a141 F141
                    refine op_kq F141 ?_; intro a142 F142
                    refine op_kq F142 ?_; intro a143 F143
                    refine op_q F143 (.bool true) ?_; intro a144 F144
                    refine op_q F144 (.bool true) ?_; intro a145 F145
                    refine op_kq F145 ?_; intro a146 F146
                    refine op_kq F146 ?_; intro a147 F147
                    refine op_kq F147 ?_; intro a148 F148
                    refine op_q F148 (.bool true) ?_; intro a149 F149
                    refine wpList_nil ?_
                    refine hK95 _ _ ?_; clear hK95 K95
                    refine wp_cond_true (F149.ev (by kernel_rfl)) ?_
                    refine wp_seq_k fun K150 hK150 => ?_
                    refine wp_region_lit ?_
                    refine op_q F149 (.bool true) ?_; intro a151 F151
                    refine wpList_nil ?_
                    refine hK150 _ _ ?_; clear hK150 K150
                    refine wp_ret ?_
                    refine ret_then ?_
                    refine (F151.res1 rfl (v := .bool true) (by kernel_rfl) ?_).1
                    exact ⟨rfl, S117⟩
                  · have hc132p := ne_of_beq_false hc132
                    have F152 := F131.sb 67 (by kernel_rfl) hc132
                    have F153 := F152.sb 68 (by kernel_rfl) hc132
                    have F154 := F153.sb 69 (by kernel_rfl) hc132
                    refine op_wq F154 ?_
                    refine op_q F154 (.slice (A) (cs.length) (d)) ?_; intro a155 F155
                    refine op_wq F155 ?_
                    refine op_q F155 (.int .i64 (↑cs.length)) ?_; intro a156 F156
                    refine op_wq F156 ?_
                    refine op_q F156 (.bool (decide ((8 : Int) < ↑cs.length))) ?_; intro a157 F157
                    refine op_q F157 (.bool (decide ((8 : Int) < ↑cs.length))) ?_; intro a158 F158
                    refine op_q F158 (.bool (decide ((8 : Int) < ↑cs.length))) ?_; intro a159 F159
                    rcases btf (decide ((8 : Int) < ↑cs.length)) with hc160 | hc160
                    · have hc160p := of_decide_eq_true hc160
                      have F161 := F159.sb 72 (by kernel_rfl) hc160
                      have F162 := F161.sb 73 (by kernel_rfl) hc160
                      have F163 := F162.sb 74 (by kernel_rfl) hc160
                      refine op_kq F163 ?_; intro a164 F164
                      refine op_kq F164 ?_; intro a165 F165
                      refine op_kq F165 ?_; intro a166 F166
                      refine op_q F166 (.bool true) ?_; intro a167 F167
                      refine op_q F167 (.bool true) ?_; intro a168 F168
                      refine op_kq F168 ?_; intro a169 F169
                      refine op_kq F169 ?_; intro a170 F170
                      refine op_kq F170 ?_; intro a171 F171
                      refine op_q F171 (.bool true) ?_; intro a172 F172
                      refine wpList_nil ?_
                      refine hK95 _ _ ?_; clear hK95 K95
                      refine wp_cond_true (F172.ev (by kernel_rfl)) ?_
                      refine wp_seq_k fun K173 hK173 => ?_
                      refine wp_region_lit ?_
                      refine op_q F172 (.bool true) ?_; intro a174 F174
                      refine wpList_nil ?_
                      refine hK173 _ _ ?_; clear hK173 K173
                      refine wp_ret ?_
                      refine ret_then ?_
                      refine (F174.res1 rfl (v := .bool true) (by kernel_rfl) ?_).1
                      exact ⟨rfl, S117⟩
                    · have hc160p := of_decide_eq_false hc160
                      have F175 := F159.sb 72 (by kernel_rfl) hc160
                      have F176 := F175.sb 73 (by kernel_rfl) hc160
                      have F177 := F176.sb 74 (by kernel_rfl) hc160
                      refine op_wq F177 ?_
                      refine op_q F177 (.slice (B) (extra.length) (db)) ?_; intro a178 F178
                      refine op_wq F178 ?_
                      refine op_q F178 (.int .i64 (↑extra.length)) ?_; intro a179 F179
                      refine op_wq F179 ?_
                      refine op_q F179 (.bool (decide ((5 : Int) < ↑extra.length))) ?_; intro a180 F180
                      refine op_q F180 (.bool (decide ((5 : Int) < ↑extra.length))) ?_; intro a181 F181
                      refine op_q F181 (.bool (decide ((5 : Int) < ↑extra.length))) ?_; intro a182 F182
                      rcases btf (decide ((5 : Int) < ↑extra.length)) with hc183 | hc183
                      · have hc183p := of_decide_eq_true hc183
                        have F184 := F182.sb 77 (by kernel_rfl) hc183
                        have F185 := F184.sb 78 (by kernel_rfl) hc183
                        have F186 := F185.sb 79 (by kernel_rfl) hc183
                        refine op_kq F186 ?_; intro a187 F187
                        refine op_kq F187 ?_; intro a188 F188
                        refine op_kq F188 ?_; intro a189 F189
                        refine op_q F189 (.bool true) ?_; intro a190 F190
                        refine wpList_nil ?_
                        refine hK95 _ _ ?_; clear hK95 K95
                        refine wp_cond_true (F190.ev (by kernel_rfl)) ?_
                        refine wp_seq_k fun K191 hK191 => ?_
                        refine wp_region_lit ?_
                        refine op_q F190 (.bool true) ?_; intro a192 F192
                        refine wpList_nil ?_
                        refine hK191 _ _ ?_; clear hK191 K191
                        refine wp_ret ?_
                        refine ret_then ?_
                        refine (F192.res1 rfl (v := .bool true) (by kernel_rfl) ?_).1
                        exact ⟨rfl, S117⟩
                      · have hc183p := of_decide_eq_false hc183
                        have F193 := F182.sb 77 (by kernel_rfl) hc183
                        have F194 := F193.sb 78 (by kernel_rfl) hc183
                        have F195 := F194.sb 79 (by kernel_rfl) hc183
                        refine op_wq F195 ?_
                        refine op_q F195 (.slice (B) (extra.length) (db)) ?_; intro a196 F196
                        refine op_wq F196 ?_
                        refine op_cq F196 (f := 19) (args := #[.slice (B) (extra.length) (db)]) (hlShort_any B db extra _ (h4 _ S117)) ?_
                        rintro _ _ ⟨rfl, rfl⟩
                        refine ⟨_, rfl, ?_⟩
                        intro a198 F198
                        refine op_wq F198 ?_
                        refine op_q F198 (.bool (!(shortB extra))) ?_; intro a199 F199
                        refine op_q F199 (.bool (!(shortB extra))) ?_; intro a200 F200
                        refine wpList_nil ?_
                        refine hK95 _ _ ?_; clear hK95 K95
                        rcases btf (shortB extra) with hc201 | hc201
                        · have hxl := short_len hc201
                          have F202 := F200.sb 81 (by kernel_rfl) hc201
                          have F203 := F202.sb 82 (by kernel_rfl) (show (!(shortB extra)) = false by rw [hc201]; rfl)
                          have F204 := F203.sb 83 (by kernel_rfl) (show (!(shortB extra)) = false by rw [hc201]; rfl)
                          refine wp_cond_false (F204.ev (by kernel_rfl)) ?_
                          refine wp_skip ?_
                          refine hK94 _ _ ?_; clear hK94 K94
                          refine wp_seq_k fun K205 hK205 => ?_
                          refine wp_seq_k fun K206 hK206 => ?_
                          refine wp_region_lit ?_
                          refine op_q F204 (.slice (E) (xs.length) (ce)) ?_; intro a207 F207
                          refine op_q F207 (.int .i64 (↑xs.length)) ?_; intro a208 F208
                          refine op_q F208 (.int .i64 0) ?_; intro a209 F209
                          refine wpList_nil ?_
                          refine hK206 _ _ ?_; clear hK206 K206
                          refine wp_block ?_
                          refine fw_loop (fun m a' w' => ∃ i : Nat, xs.length - i = m ∧ Fr 247 [] a' [(0, .string os), (1, .string arch), (2, .slice (E) (xs.length) (ce)), (3, .slice (A) (cs.length) (d)), (4, .bool ig), (5, .slice (B) (extra.length) (db)), (84, .slice (E) (xs.length) (ce)), (85, .int .i64 (↑xs.length)), (86, .int .i64 (↑i))] ∧ Sp R w' (L) ∧ (i ≤ xs.length)) _ ⟨0, rfl, (F209.kk 0 (F209.kk 1 (F209.kk 2 (F209.kk 3 (F209.kk 4 (F209.kk 5 (F209.kk 84 (F209.kk 85 (F209.kk 86 F209.nil))))))))), S117, (by first | omega | (with_reducible assumption) | (simp; done))⟩ ?_
                          rintro m210 a210 w210 ⟨i, hm210, F210, S210, hi⟩ K210 hK210
                          by_cases hlt_i : i < xs.length
                          · have hc_i : decide ((↑i : Int) < ↑xs.length) = true := by first | (simp; done) | (simp; omega)
                            have hti : xs[i].fText.size ≤ 2147483647 := hM _ (List.getElem_mem hlt_i)
                            obtain ⟨ad211, hA211⟩ := (h0 _ S210).addr (by simp; omega)
                            refine wp_seq_k fun K212 hK212 => ?_
                            refine wp_region_lit ?_
                            refine op_q F210 (.bool (decide ((↑i : Int) < ↑xs.length))) ?_; intro a213 F213
                            have F214 := F213.sb 87 (by kernel_rfl) hc_i
                            refine wpList_nil ?_
                            refine hK212 _ _ ?_; clear hK212 K212
                            refine wp_seq_k fun K215 hK215 => ?_
                            refine wp_cond_true (F214.ev (by kernel_rfl)) ?_
                            refine wp_skip ?_
                            refine hK215 _ _ ?_; clear hK215 K215
                            refine wp_seq_k fun K216 hK216 => ?_
                            refine wp_block ?_
                            refine wp_seq_k fun K217 hK217 => ?_
                            refine wp_region_lit ?_
                            refine op_rq (v := .pointer (some (ad211.add (i * 2)))) F214 (r_ix rfl Try.underlying40 2 (by kernel_rfl) (F214.e (.slice (E) (xs.length) (ce))) hA211 (F214.e (.int .i64 (↑i))) i (by first | rfl | omega | simp) (by first | omega | (simp; done) | (simp; omega)) (rfl)) ?_; intro a218 F218
                            refine op_rq (v := .agg #[.string xs[i].fKey, .string xs[i].fText]) F218 (r_ldR rfl (F218.e (.pointer (some (ad211.add (i * 2))))) (cs := [.string xs[i].fKey, .string xs[i].fText]) ((h0 _ S210).elA hA211 (j := i) (row := xs[i].cells) (by rw [List.getElem?_map, List.getElem?_eq_getElem hlt_i]; rfl)) Try.underlying108 rfl (by kernel_rfl) (v := #[.string xs[i].fKey, .string xs[i].fText]) (by kernel_rfl)) ?_; intro a219 F219
                            refine op_sq F219 (s_newp F219 108 #[.string ⟨#[]⟩, .string ⟨#[]⟩] (by kernel_rfl) (by kernel_rfl) (by kernel_rfl) S210) ?_
                            rintro _ _ w221 ⟨g219, rfl, rfl⟩ S221 a221 F221
                            refine op_sq0 F221 (s_stb rfl (F221.e (.pointer (some ⟨g219, 0, none⟩))) (F221.e (.agg #[.string xs[i].fKey, .string xs[i].fText])) S221 (by kernel_rfl) rfl (by kernel_rfl)) ?_
                            rintro _ _ w222 rfl S222 F222
                            refine wpList_nil ?_
                            refine hK217 _ _ ?_; clear hK217 K217
                            refine wp_seq_k fun K223 hK223 => ?_
                            refine wp_region_lit ?_
                            refine op_q F222 (.pointer (some ⟨g219, 1, none⟩)) ?_; intro a224 F224
                            refine op_rq (v := .string xs[i].fText) F224 (r_ld rfl (F224.e (.pointer (some ⟨g219, 1, none⟩))) (v := .string xs[i].fText) ((S222.bk 0 rfl).cell 1) Try.underlying9 rfl) ?_; intro a225 F225
                            refine op_q F225 (.bool (!(xs[i].fText.toList == (⟨#[]⟩ : ByteArray).toList))) ?_; intro a226 F226
                            refine op_q F226 (.bool (!(xs[i].fText.toList == (⟨#[]⟩ : ByteArray).toList))) ?_; intro a227 F227
                            rcases btf (xs[i].fText.toList == (⟨#[]⟩ : ByteArray).toList) with hc228 | hc228
                            · have F229 := F227.sb 92 (by kernel_rfl) (show (!(xs[i].fText.toList == (⟨#[]⟩ : ByteArray).toList)) = false by rw [hc228]; rfl)
                              have F230 := F229.sb 93 (by kernel_rfl) (show (!(xs[i].fText.toList == (⟨#[]⟩ : ByteArray).toList)) = false by rw [hc228]; rfl)
                              refine op_kq F230 ?_; intro a231 F231
                              refine op_kq F231 ?_; intro a232 F232
                              refine op_kq F232 ?_; intro a233 F233
                              refine op_kq F233 ?_; intro a234 F234
                              refine op_q F234 (.bool false) ?_; intro a235 F235
                              refine wpList_nil ?_
                              refine hK223 _ _ ?_; clear hK223 K223
                              refine wp_cond_false (F235.ev (by kernel_rfl)) ?_
                              refine wp_skip ?_
                              refine hK216 _ _ ?_; clear hK216 K216
                              refine wp_region_lit ?_
                              refine op_rq (v := .int .i64 (↑(i + 1))) F235 (r_add (z := ↑(i + 1)) rfl (F235.e (.int .i64 (↑i))) (F235.e (.int .i64 1)) (wr64 (by omega) (by omega) (by omega))) ?_; intro a236 F236
                              refine op_q F236 (.int .i64 (↑(i + 1))) ?_; intro a237 F237
                              refine wpList_nil ?_
                              exact hK210 _ _ _ (by first | omega | (simp; omega)) ⟨i + 1, rfl, (F237.kk 0 (F237.kk 1 (F237.kk 2 (F237.kk 3 (F237.kk 4 (F237.kk 5 (F237.kk 84 (F237.kk 85 (F237.kk 86 F237.nil))))))))), S222.drop, (by first | omega | (with_reducible assumption) | (simp; done))⟩
                            · have F238 := F227.sb 92 (by kernel_rfl) (show (!(xs[i].fText.toList == (⟨#[]⟩ : ByteArray).toList)) = true by rw [hc228]; rfl)
                              have F239 := F238.sb 93 (by kernel_rfl) (show (!(xs[i].fText.toList == (⟨#[]⟩ : ByteArray).toList)) = true by rw [hc228]; rfl)
                              refine op_wq F239 ?_
                              refine op_q F239 (.pointer (some ⟨g219, 1, none⟩)) ?_; intro a240 F240
                              refine op_wq F240 ?_
                              refine op_rq (v := .string xs[i].fText) F240 (r_ld rfl (F240.e (.pointer (some ⟨g219, 1, none⟩))) (v := .string xs[i].fText) ((S222.bk 0 rfl).cell 1) Try.underlying9 rfl) ?_; intro a241 F241
                              refine op_wq F241 ?_
                              refine op_cq F241 (f := 28) (args := #[.string xs[i].fText, .string ⟨#[45]⟩]) (hlAll_any xs[i].fText ⟨#[45]⟩ _ (by omega) (by decide)) ?_
                              rintro _ _ ⟨rfl, rfl⟩
                              refine ⟨_, rfl, ?_⟩
                              intro a243 F243
                              refine op_wq F243 ?_
                              refine op_q F243 (.bool (!(allB xs[i].fText ⟨#[45]⟩))) ?_; intro a244 F244
                              refine op_q F244 (.bool (!(allB xs[i].fText ⟨#[45]⟩))) ?_; intro a245 F245
                              refine wpList_nil ?_
                              refine hK223 _ _ ?_; clear hK223 K223
                              rcases btf (allB xs[i].fText ⟨#[45]⟩) with hc246 | hc246
                              · have F247 := F245.sb 96 (by kernel_rfl) hc246
                                have F248 := F247.sb 97 (by kernel_rfl) (show (!(allB xs[i].fText ⟨#[45]⟩)) = false by rw [hc246]; rfl)
                                have F249 := F248.sb 98 (by kernel_rfl) (show (!(allB xs[i].fText ⟨#[45]⟩)) = false by rw [hc246]; rfl)
                                refine wp_cond_false (F249.ev (by kernel_rfl)) ?_
                                refine wp_skip ?_
                                refine hK216 _ _ ?_; clear hK216 K216
                                refine wp_region_lit ?_
                                refine op_rq (v := .int .i64 (↑(i + 1))) F249 (r_add (z := ↑(i + 1)) rfl (F249.e (.int .i64 (↑i))) (F249.e (.int .i64 1)) (wr64 (by omega) (by omega) (by omega))) ?_; intro a250 F250
                                refine op_q F250 (.int .i64 (↑(i + 1))) ?_; intro a251 F251
                                refine wpList_nil ?_
                                exact hK210 _ _ _ (by first | omega | (simp; omega)) ⟨i + 1, rfl, (F251.kk 0 (F251.kk 1 (F251.kk 2 (F251.kk 3 (F251.kk 4 (F251.kk 5 (F251.kk 84 (F251.kk 85 (F251.kk 86 F251.nil))))))))), S222.drop, (by first | omega | (with_reducible assumption) | (simp; done))⟩
                              · have F252 := F245.sb 96 (by kernel_rfl) hc246
                                have F253 := F252.sb 97 (by kernel_rfl) (show (!(allB xs[i].fText ⟨#[45]⟩)) = true by rw [hc246]; rfl)
                                have F254 := F253.sb 98 (by kernel_rfl) (show (!(allB xs[i].fText ⟨#[45]⟩)) = true by rw [hc246]; rfl)
                                refine wp_cond_true (F254.ev (by kernel_rfl)) ?_
                                refine wp_seq_k fun K255 hK255 => ?_
                                refine wp_region_lit ?_
                                refine op_q F254 (.bool true) ?_; intro a256 F256
                                refine wpList_nil ?_
                                refine hK255 _ _ ?_; clear hK255 K255
                                refine wp_ret ?_
                                refine ret_in ?_
                                refine ret_then ?_
                                refine ret_then ?_
                                refine ret_in ?_
                                refine ret_then ?_
                                refine (F256.res1 rfl (v := .bool true) (by kernel_rfl) ?_).1
                                exact ⟨rfl, S222.drop⟩
                          · have hc_i : decide ((↑i : Int) < ↑xs.length) = false := by first | (simp; done) | (simp; omega)
                            obtain rfl : i = xs.length := by omega
                            refine wp_seq_k fun K257 hK257 => ?_
                            refine wp_region_lit ?_
                            refine op_q F210 (.bool (decide ((↑xs.length : Int) < ↑xs.length))) ?_; intro a258 F258
                            have F259 := F258.sb 87 (by kernel_rfl) hc_i
                            refine wpList_nil ?_
                            refine hK257 _ _ ?_; clear hK257 K257
                            refine wp_seq_k fun K260 hK260 => ?_
                            refine wp_cond_false (F259.ev (by kernel_rfl)) ?_
                            refine wp_exit ?_
                            refine ex_then ?_; clear hK260 K260
                            refine ex_then ?_
                            refine ex_in ?_
                            refine hK205 _ _ ?_; clear hK205 K205
                            refine wp_seq_k fun K261 hK261 => ?_
                            refine wp_seq_k fun K262 hK262 => ?_
                            refine wp_region_lit ?_
                            refine op_q F259 (.slice (A) (cs.length) (d)) ?_; intro a263 F263
                            refine op_q F263 (.int .i64 (↑cs.length)) ?_; intro a264 F264
                            refine op_q F264 (.int .i64 0) ?_; intro a265 F265
                            refine wpList_nil ?_
                            refine hK262 _ _ ?_; clear hK262 K262
                            refine wp_block ?_
                            refine fw_loop (fun m a' w' => ∃ k : Nat, cs.length - k = m ∧ Fr 247 [] a' [(0, .string os), (1, .string arch), (2, .slice (E) (xs.length) (ce)), (3, .slice (A) (cs.length) (d)), (4, .bool ig), (5, .slice (B) (extra.length) (db)), (100, .slice (A) (cs.length) (d)), (101, .int .i64 (↑cs.length)), (102, .int .i64 (↑k))] ∧ Sp R w' (L) ∧ (k ≤ cs.length) ∧ (∀ j, ∀ hj : j < cs.length, j < k → OkC cs[j])) _ ⟨0, rfl, (F265.kk 0 (F265.kk 1 (F265.kk 2 (F265.kk 3 (F265.kk 4 (F265.kk 5 (F265.kk 100 (F265.kk 101 (F265.kk 102 F265.nil))))))))), S210, (by first | omega | (with_reducible assumption) | (simp; done)), (fun j _ hj => absurd hj (Nat.not_lt_zero _))⟩ ?_
                            rintro m266 a266 w266 ⟨k, hm266, F266, S266, hk, hok⟩ K266 hK266
                            by_cases hlt_k : k < cs.length
                            · have hc_k : decide ((↑k : Int) < ↑cs.length) = true := by first | (simp; done) | (simp; omega)
                              have hck := fits54_sz hf54 _ (List.getElem_mem hlt_k)
                              have hckO : cs[k].fOS.size ≤ 4000000000 := hck.1
                              have hckA : cs[k].fArch.size ≤ 4000000000 := hck.2
                              have hcmk := fits54_cm hf54 _ (List.getElem_mem hlt_k)
                              have hcmz := hcmk.1
                              have hpl : (partsF cs[k]).length ≤ cs[k].fCommand.size + 1 := splitF_len _ (by decide) _ _
                              have hpl2 : ((partsF cs[k]) ++ cs[k].fArgs).length = (partsF cs[k]).length + cs[k].fArgs.length := List.length_append
                              obtain ⟨ad267, hA267⟩ := (h2 _ S266).addr (by simp; omega)
                              have hargs : Rf R L fun w => Sl w cs[k].fArgs_a (strs cs[k].fArgs) := fun w S => Ty110.ok_sArgs (Ty110.oks.at (h3 w S) hlt_k)
                              refine wp_seq_k fun K269 hK269 => ?_
                              refine wp_region_lit ?_
                              refine op_q F266 (.bool (decide ((↑k : Int) < ↑cs.length))) ?_; intro a270 F270
                              have F271 := F270.sb 103 (by kernel_rfl) hc_k
                              refine wpList_nil ?_
                              refine hK269 _ _ ?_; clear hK269 K269
                              refine wp_seq_k fun K272 hK272 => ?_
                              refine wp_cond_true (F271.ev (by kernel_rfl)) ?_
                              refine wp_skip ?_
                              refine hK272 _ _ ?_; clear hK272 K272
                              refine wp_seq_k fun K273 hK273 => ?_
                              refine wp_block ?_
                              refine wp_seq_k fun K274 hK274 => ?_
                              refine wp_region_lit ?_
                              refine op_rq (v := .pointer (some (ad267.add (k * 4)))) F271 (r_ix rfl Try.underlying105 4 (by kernel_rfl) (F271.e (.slice (A) (cs.length) (d))) hA267 (F271.e (.int .i64 (↑k))) k (by first | rfl | omega | simp) (by first | omega | (simp; done) | (simp; omega)) (rfl)) ?_; intro a275 F275
                              refine op_rq (v := .agg #[.string cs[k].fOS, .string cs[k].fArch, .string cs[k].fCommand, .slice cs[k].fArgs_a cs[k].fArgs.length cs[k].fArgs_c]) F275 (r_ldR rfl (F275.e (.pointer (some (ad267.add (k * 4))))) (cs := [.string cs[k].fOS, .string cs[k].fArch, .string cs[k].fCommand, .slice cs[k].fArgs_a cs[k].fArgs.length cs[k].fArgs_c]) ((h2 _ S266).elA hA267 (j := k) (row := cs[k].cells) (by rw [List.getElem?_map, List.getElem?_eq_getElem hlt_k]; rfl)) Try.underlying110 rfl (by kernel_rfl) (v := #[.string cs[k].fOS, .string cs[k].fArch, .string cs[k].fCommand, .slice cs[k].fArgs_a cs[k].fArgs.length cs[k].fArgs_c]) (by kernel_rfl)) ?_; intro a276 F276
                              refine op_sq F276 (s_newp F276 110 #[.string ⟨#[]⟩, .string ⟨#[]⟩, .string ⟨#[]⟩, .slice none 0 0] (by kernel_rfl) (by kernel_rfl) (by kernel_rfl) S266) ?_
                              rintro _ _ w278 ⟨g276, rfl, rfl⟩ S278 a278 F278
                              refine op_sq0 F278 (s_stb rfl (F278.e (.pointer (some ⟨g276, 0, none⟩))) (F278.e (.agg #[.string cs[k].fOS, .string cs[k].fArch, .string cs[k].fCommand, .slice cs[k].fArgs_a cs[k].fArgs.length cs[k].fArgs_c])) S278 (by kernel_rfl) rfl (by kernel_rfl)) ?_
                              rintro _ _ w279 rfl S279 F279
                              refine wpList_nil ?_
                              refine hK274 _ _ ?_; clear hK274 K274
                              refine wp_seq_k fun K280 hK280 => ?_
                              refine wp_seq_k fun K281 hK281 => ?_
                              refine wp_region_lit ?_
                              refine op_q F279 (.pointer (some ⟨g276, 2, none⟩)) ?_; intro a282 F282
                              refine op_rq (v := .string cs[k].fCommand) F282 (r_ld rfl (F282.e (.pointer (some ⟨g276, 2, none⟩))) (v := .string cs[k].fCommand) ((S279.bk 0 rfl).cell 2) Try.underlying9 rfl) ?_; intro a283 F283
                              refine op_q F283 (.int .i64 (↑cs[k].fCommand.size)) ?_; intro a284 F284
                              refine op_q F284 (.bool (decide ((100 : Int) < ↑cs[k].fCommand.size))) ?_; intro a285 F285
                              refine op_q F285 (.bool (decide ((100 : Int) < ↑cs[k].fCommand.size))) ?_; intro a286 F286
                              rcases btf (decide ((100 : Int) < ↑cs[k].fCommand.size)) with hc287 | hc287
                              · have hc287p := of_decide_eq_true hc287
                                have F288 := F286.sb 109 (by kernel_rfl) hc287
                                have F289 := F288.sb 110 (by kernel_rfl) hc287
                                refine op_kq F289 ?_; intro a290 F290
                                refine op_kq F290 ?_; intro a291 F291
                                refine op_kq F291 ?_; intro a292 F292
                                refine op_kq F292 ?_; intro a293 F293
                                refine op_q F293 (.bool true) ?_; intro a294 F294
                                refine wpList_nil ?_
                                refine hK281 _ _ ?_; clear hK281 K281
                                refine wp_cond_true (F294.ev (by kernel_rfl)) ?_
                                refine wp_seq_k fun K295 hK295 => ?_
                                refine wp_region_lit ?_
                                refine op_q F294 (.bool true) ?_; intro a296 F296
                                refine wpList_nil ?_
                                refine hK295 _ _ ?_; clear hK295 K295
                                refine wp_ret ?_
                                refine ret_then ?_
                                refine ret_in ?_
                                refine ret_then ?_
                                refine ret_then ?_
                                refine ret_in ?_
                                refine ret_then ?_
                                refine (F296.res1 rfl (v := .bool true) (by kernel_rfl) ?_).1
                                exact ⟨rfl, S279.drop⟩
                              · have hc287p := of_decide_eq_false hc287
                                have F297 := F286.sb 109 (by kernel_rfl) hc287
                                have F298 := F297.sb 110 (by kernel_rfl) hc287
                                refine op_wq F298 ?_
                                refine op_q F298 (.pointer (some ⟨g276, 3, none⟩)) ?_; intro a299 F299
                                refine op_wq F299 ?_
                                refine op_rq (v := .slice cs[k].fArgs_a cs[k].fArgs.length cs[k].fArgs_c) F299 (r_ld rfl (F299.e (.pointer (some ⟨g276, 3, none⟩))) (v := .slice cs[k].fArgs_a cs[k].fArgs.length cs[k].fArgs_c) ((S279.bk 0 rfl).cell 3) Try.underlying22 rfl) ?_; intro a300 F300
                                refine op_wq F300 ?_
                                refine op_q F300 (.int .i64 (↑cs[k].fArgs.length)) ?_; intro a301 F301
                                refine op_wq F301 ?_
                                refine op_q F301 (.bool (decide ((5 : Int) < ↑cs[k].fArgs.length))) ?_; intro a302 F302
                                refine op_q F302 (.bool (decide ((5 : Int) < ↑cs[k].fArgs.length))) ?_; intro a303 F303
                                refine wpList_nil ?_
                                refine hK281 _ _ ?_; clear hK281 K281
                                rcases btf (decide ((5 : Int) < ↑cs[k].fArgs.length)) with hc304 | hc304
                                · have hc304p := of_decide_eq_true hc304
                                  have F305 := F303.sb 114 (by kernel_rfl) hc304
                                  have F306 := F305.sb 115 (by kernel_rfl) hc304
                                  refine wp_cond_true (F306.ev (by kernel_rfl)) ?_
                                  refine wp_seq_k fun K307 hK307 => ?_
                                  refine wp_region_lit ?_
                                  refine op_q F306 (.bool true) ?_; intro a308 F308
                                  refine wpList_nil ?_
                                  refine hK307 _ _ ?_; clear hK307 K307
                                  refine wp_ret ?_
                                  refine ret_then ?_
                                  refine ret_in ?_
                                  refine ret_then ?_
                                  refine ret_then ?_
                                  refine ret_in ?_
                                  refine ret_then ?_
                                  refine (F308.res1 rfl (v := .bool true) (by kernel_rfl) ?_).1
                                  exact ⟨rfl, S279.drop⟩
                                · have hc304p := of_decide_eq_false hc304
                                  have F309 := F303.sb 114 (by kernel_rfl) hc304
                                  have F310 := F309.sb 115 (by kernel_rfl) hc304
                                  refine wp_cond_false (F310.ev (by kernel_rfl)) ?_
                                  refine wp_skip ?_
                                  refine hK280 _ _ ?_; clear hK280 K280
                                  refine wp_seq_k fun K311 hK311 => ?_
                                  refine wp_region_sepD (L0 := SA.blk g276 110 #[.string cs[k].fOS, .string cs[k].fArch, .string cs[k].fCommand, .slice cs[k].fArgs_a cs[k].fArgs.length cs[k].fArgs_c] :: L) [some [], some [(0, 116)], some [(0, 116), (1, 117)], some [], some [(3, 119)], some [(0, 116), (1, 117), (2, 118), (3, 119), (4, 120)], some [(0, 116), (1, 117), (2, 118), (3, 119), (4, 120), (5, 121)]] [(SA.emp, fun _ v A => v = .pointer (some ⟨g276, 2, none⟩) ∧ A = SA.emp), (SA.emp, fun _ v A => v = .string cs[k].fCommand ∧ A = SA.emp), (SA.emp, fun _ v A => ∃ A342 : Option Addr, ∃ c342 : Nat, v = .slice A342 ((partsF cs[k]).length) c342 ∧ A = SA.own (.slice A342 (partsF cs[k]).length c342) 9 1 ((partsF cs[k]).length) (strs (partsF cs[k]))), (SA.emp, fun _ v A => v = .pointer (some ⟨g276, 3, none⟩) ∧ A = SA.emp), (SA.emp, fun _ v A => v = .slice cs[k].fArgs_a cs[k].fArgs.length cs[k].fArgs_c ∧ A = SA.emp), (SA.emp, fun _ v A => ∃ A352 : Option Addr, ∃ c352 : Nat, v = .slice A352 (((partsF cs[k]) ++ cs[k].fArgs).length) c352 ∧ A = SA.own (.slice A352 (((partsF cs[k]) ++ cs[k].fArgs).length) c352) 9 1 (((partsF cs[k]) ++ cs[k].fArgs).length) (strs ((partsF cs[k]) ++ cs[k].fArgs))), (SA.emp, fun us v A => ∃ A352x : Option Addr, ∃ c352x : Nat, (us.getD 5 undef) = .slice A352x (((partsF cs[k]) ++ cs[k].fArgs).length) c352x ∧ v = .slice A352x (((partsF cs[k]) ++ cs[k].fArgs).length) c352x ∧ A = SA.emp)] 247 [(5, 2)] rfl F310.size rfl (by kernel_rfl) (by kernel_rfl) S279.emp.emp.emp.emp.emp.emp.emp.p1.p2.p3.p4.p5.p6 ?_ ?_
                                  · refine ⟨?_, ?_, ?_, ?_, ?_, ?_, ?_, trivial⟩
                                    · intro w336 M336
                                      refine depsD_nil ?_
                                      intro S336
                                      refine obl_of (by rfl) ?_
                                      exact s_p F310 (v := .pointer (some ⟨g276, 2, none⟩)) (by kernel_rfl) (by kernel_rfl) (by kernel_rfl) S336
                                    · intro w337 M337
                                      rintro _ _ ⟨rfl, rfl⟩ hA338
                                      have F338 := F310.put (d := 116) (v := .pointer (some ⟨g276, 2, none⟩)) (by decide)
                                      refine depsD_nil ?_
                                      intro S337
                                      refine obl_of (by rfl) ?_
                                      exact s_r (v := .string cs[k].fCommand) (r_ld rfl (F338.e (.pointer (some ⟨g276, 2, none⟩))) (v := .string cs[k].fCommand) (((Sp.dropM S337.drop).bk 0 rfl).cell 2) Try.underlying9 rfl) S337
                                    · intro w339 M339
                                      rintro _ _ ⟨rfl, rfl⟩ hA340
                                      have F340 := F310.put (d := 116) (v := .pointer (some ⟨g276, 2, none⟩)) (by decide)
                                      rintro _ _ ⟨rfl, rfl⟩ hA341
                                      have F341 := F340.put (d := 117) (v := .string cs[k].fCommand) (by decide)
                                      refine depsD_nil ?_
                                      intro S339
                                      refine obl_of (by rfl) ?_
                                      refine s_c F341 (f := 55) (args := #[.string cs[k].fCommand]) (by kernel_rfl) (by kernel_rfl) (by kernel_rfl) (hlParts_any cs[k].fCommand (partsF cs[k]) _ _ _ S339.drop (by first | omega | (simp; done) | (simp; omega)) rfl) ?_
                                      rintro _ _ ⟨A342, c342, rfl, S342⟩
                                      exact ⟨_, _, rfl, ⟨A342, c342, rfl, rfl⟩, S342⟩
                                    · intro w343 M343
                                      refine depsD_nil ?_
                                      intro S343
                                      refine obl_of (by rfl) ?_
                                      exact s_p F310 (v := .pointer (some ⟨g276, 3, none⟩)) (by kernel_rfl) (by kernel_rfl) (by kernel_rfl) S343
                                    · intro w344 M344
                                      rintro _ _ ⟨rfl, rfl⟩ hA345
                                      have F345 := F310.put (d := 119) (v := .pointer (some ⟨g276, 3, none⟩)) (by decide)
                                      refine depsD_nil ?_
                                      intro S344
                                      refine obl_of (by rfl) ?_
                                      exact s_r (v := .slice cs[k].fArgs_a cs[k].fArgs.length cs[k].fArgs_c) (r_ld rfl (F345.e (.pointer (some ⟨g276, 3, none⟩))) (v := .slice cs[k].fArgs_a cs[k].fArgs.length cs[k].fArgs_c) (((Sp.dropM S344.drop).bk 0 rfl).cell 3) Try.underlying22 rfl) S344
                                    · intro w346 M346
                                      rintro _ _ ⟨rfl, rfl⟩ hA347
                                      have F347 := F310.put (d := 116) (v := .pointer (some ⟨g276, 2, none⟩)) (by decide)
                                      rintro _ _ ⟨rfl, rfl⟩ hA348
                                      have F348 := F347.put (d := 117) (v := .string cs[k].fCommand) (by decide)
                                      rintro _ _ ⟨A342, c342, rfl, rfl⟩
                                      have F349 := F348.put (d := 118) (v := .slice A342 ((partsF cs[k]).length) c342) (by decide)
                                      rintro _ _ ⟨rfl, rfl⟩ hA350
                                      have F350 := F349.put (d := 119) (v := .pointer (some ⟨g276, 3, none⟩)) (by decide)
                                      rintro _ _ ⟨rfl, rfl⟩ hA351
                                      have F351 := F350.put (d := 120) (v := .slice cs[k].fArgs_a cs[k].fArgs.length cs[k].fArgs_c) (by decide)
                                      refine depsD_nil ?_
                                      intro S346
                                      refine obl_of (by rfl) ?_
                                      exact s_app rfl Try.underlying22 1 _ tin9 rfl rfl (F351.e (.slice A342 ((partsF cs[k]).length) c342)) S346.swap.drop (strs cs[k].fArgs) (F351.e (.slice cs[k].fArgs_a cs[k].fArgs.length cs[k].fArgs_c)) (hargs _ (Sp.dropM S346.drop.drop).drop) (by first | (simp [strs, ptrs]; done) | (simp [strs, ptrs]; omega)) (by intro u hu; obtain ⟨x, _, rfl⟩ := List.mem_map.1 hu; rfl) (by omega) (by omega) (n' := ((partsF cs[k]) ++ cs[k].fArgs).length) (by first | (simp; done) | (simp; omega)) (cs' := strs ((partsF cs[k]) ++ cs[k].fArgs)) (by simp [strs])
                                    · intro w353 M353
                                      rintro _ _ ⟨rfl, rfl⟩ hA354
                                      have F354 := F310.put (d := 116) (v := .pointer (some ⟨g276, 2, none⟩)) (by decide)
                                      rintro _ _ ⟨rfl, rfl⟩ hA355
                                      have F355 := F354.put (d := 117) (v := .string cs[k].fCommand) (by decide)
                                      rintro _ _ ⟨A342, c342, rfl, rfl⟩
                                      have F356 := F355.put (d := 118) (v := .slice A342 ((partsF cs[k]).length) c342) (by decide)
                                      rintro _ _ ⟨rfl, rfl⟩ hA357
                                      have F357 := F356.put (d := 119) (v := .pointer (some ⟨g276, 3, none⟩)) (by decide)
                                      rintro _ _ ⟨rfl, rfl⟩ hA358
                                      have F358 := F357.put (d := 120) (v := .slice cs[k].fArgs_a cs[k].fArgs.length cs[k].fArgs_c) (by decide)
                                      rintro _ _ ⟨A352, c352, rfl, rfl⟩ hA359
                                      have F359 := F358.put (d := 121) (v := .slice A352 (((partsF cs[k]) ++ cs[k].fArgs).length) c352) (by decide)
                                      refine depsD_nil ?_
                                      intro S353
                                      refine obl_of (by rfl) ?_
                                      exact sAt_mono (s_p F359 (v := .slice A352 (((partsF cs[k]) ++ cs[k].fArgs).length) c352) (by kernel_rfl) (by kernel_rfl) (by kernel_rfl) S353) fun _ _ ⟨e1, e2⟩ => ⟨A352, c352, (F359.env1 _ 5 (by kernel_rfl)), e1, e2⟩
                                  · rintro _ _ ⟨rfl, rfl⟩
                                    have F361 := F310.put (d := 116) (v := .pointer (some ⟨g276, 2, none⟩)) (by decide)
                                    rintro _ _ ⟨rfl, rfl⟩
                                    have F362 := F361.put (d := 117) (v := .string cs[k].fCommand) (by decide)
                                    rintro _ _ ⟨A342, c342, rfl, rfl⟩
                                    have F363 := F362.put (d := 118) (v := .slice A342 ((partsF cs[k]).length) c342) (by decide)
                                    rintro _ _ ⟨rfl, rfl⟩
                                    have F364 := F363.put (d := 119) (v := .pointer (some ⟨g276, 3, none⟩)) (by decide)
                                    rintro _ _ ⟨rfl, rfl⟩
                                    have F365 := F364.put (d := 120) (v := .slice cs[k].fArgs_a cs[k].fArgs.length cs[k].fArgs_c) (by decide)
                                    rintro _ _ ⟨A352, c352, rfl, rfl⟩
                                    have F366 := F365.put (d := 121) (v := .slice A352 (((partsF cs[k]) ++ cs[k].fArgs).length) c352) (by decide)
                                    rintro _ _ ⟨A352x, c352x, e6_5, rfl, rfl⟩
                                    have e6_5 := (F366.env1 [(0, 116), (1, 117), (2, 118), (3, 119), (4, 120), (5, 121)] 5 (v := .slice A352 (((partsF cs[k]) ++ cs[k].fArgs).length) c352) (by kernel_rfl)).symm.trans e6_5
                                    obtain ⟨rfl, rfl⟩ : A352 = A352x ∧ c352 = c352x := by cases e6_5; exact ⟨rfl, rfl⟩
                                    clear e6_5
                                    have F367 := F366.put (d := 17) (v := .slice A352 (((partsF cs[k]) ++ cs[k].fArgs).length) c352) (by decide)
                                    intro w360 S360
                                    have S368 := S360.drop
                                    have S369 := S368.p1.drop
                                    have S370 := S369.p1.drop
                                    have S371 := S370.p1.drop
                                    have S372 := S371.p1.drop
                                    have S373 := S372.p1.drop
                                    refine wpList_nil ?_
                                    refine hK311 _ _ ?_; clear hK311 K311
                                    refine fw_cut (fun a' w' => ∃ A2 : Option Addr, Fr 247 [] a' [(0, .string os), (1, .string arch), (2, .slice (E) (xs.length) (ce)), (3, .slice (A) (cs.length) (d)), (4, .bool ig), (5, .slice (B) (extra.length) (db)), (17, .slice A352 (((partsF cs[k]) ++ cs[k].fArgs).length) c352), (100, .slice (A) (cs.length) (d)), (101, .int .i64 (↑cs.length)), (102, .int .i64 (↑k))] ∧ Sp R w' (SA.two A352 (strs ((partsF cs[k]) ++ cs[k].fArgs)) A2 (strs (((partsF cs[k]) ++ cs[k].fArgs) ++ [cs[k].fCommand])) :: SA.blk g276 110 #[.string cs[k].fOS, .string cs[k].fArch, .string cs[k].fCommand, .slice cs[k].fArgs_a cs[k].fArgs.length cs[k].fArgs_c] :: L) ∧ (cs[k].fOS.size = 0 ∨ smallB cs[k].fOS = true) ∧ (cs[k].fArch.size = 0 ∨ smallB cs[k].fArch = true) ∧ (shortB (((partsF cs[k]) ++ cs[k].fArgs) ++ [cs[k].fCommand]) = true) ∧ (cs[k].fCommand.size ≤ 100) ∧ (cs[k].fArgs.length ≤ 5)) ?_ ?_
                                    · intro K374 hK374
                                      refine wp_seq_k fun K375 hK375 => ?_
                                      refine wp_region_lit ?_
                                      refine op_q F367 (.pointer (some ⟨g276, 0, none⟩)) ?_; intro a376 F376
                                      refine op_rq (v := .string cs[k].fOS) F376 (r_ld rfl (F376.e (.pointer (some ⟨g276, 0, none⟩))) (v := .string cs[k].fOS) ((S373.bk 1 rfl).cell 0) Try.underlying9 rfl) ?_; intro a377 F377
                                      refine op_q F377 (.bool (cs[k].fOS.toList == (⟨#[]⟩ : ByteArray).toList)) ?_; intro a378 F378
                                      refine op_q F378 (.bool (cs[k].fOS.toList == (⟨#[]⟩ : ByteArray).toList)) ?_; intro a379 F379
                                      rcases btf (cs[k].fOS.toList == (⟨#[]⟩ : ByteArray).toList) with hc380 | hc380
                                      · have F381 := F379.sb 124 (by kernel_rfl) hc380
                                        have F382 := F381.sb 125 (by kernel_rfl) hc380
                                        refine op_wq F382 ?_
                                        refine op_q F382 (.pointer (some ⟨g276, 1, none⟩)) ?_; intro a383 F383
                                        refine op_wq F383 ?_
                                        refine op_rq (v := .string cs[k].fArch) F383 (r_ld rfl (F383.e (.pointer (some ⟨g276, 1, none⟩))) (v := .string cs[k].fArch) ((S373.bk 1 rfl).cell 1) Try.underlying9 rfl) ?_; intro a384 F384
                                        refine op_wq F384 ?_
                                        refine op_q F384 (.bool (!(cs[k].fArch.toList == (⟨#[]⟩ : ByteArray).toList))) ?_; intro a385 F385
                                        refine op_q F385 (.bool (!(cs[k].fArch.toList == (⟨#[]⟩ : ByteArray).toList))) ?_; intro a386 F386
                                        refine op_q F386 (.bool (!(cs[k].fArch.toList == (⟨#[]⟩ : ByteArray).toList))) ?_; intro a387 F387
                                        rcases btf (cs[k].fArch.toList == (⟨#[]⟩ : ByteArray).toList) with hc388 | hc388
                                        · have F389 := F387.sb 128 (by kernel_rfl) (show (!(cs[k].fArch.toList == (⟨#[]⟩ : ByteArray).toList)) = false by rw [hc388]; rfl)
                                          have F390 := F389.sb 129 (by kernel_rfl) (show (!(cs[k].fArch.toList == (⟨#[]⟩ : ByteArray).toList)) = false by rw [hc388]; rfl)
                                          have F391 := F390.sb 130 (by kernel_rfl) (show (!(cs[k].fArch.toList == (⟨#[]⟩ : ByteArray).toList)) = false by rw [hc388]; rfl)
                                          refine op_wq F391 ?_
                                          refine op_q F391 (.pointer (some ⟨g276, 0, none⟩)) ?_; intro a392 F392
                                          refine op_wq F392 ?_
                                          refine op_rq (v := .string cs[k].fOS) F392 (r_ld rfl (F392.e (.pointer (some ⟨g276, 0, none⟩))) (v := .string cs[k].fOS) ((S373.bk 1 rfl).cell 0) Try.underlying9 rfl) ?_; intro a393 F393
                                          refine op_wq F393 ?_
                                          refine op_q F393 (.bool (!(cs[k].fOS.toList == (⟨#[]⟩ : ByteArray).toList))) ?_; intro a394 F394
                                          have F395 := F394.sb 133 (by kernel_rfl) (show (!(cs[k].fOS.toList == (⟨#[]⟩ : ByteArray).toList)) = false by rw [hc380]; rfl)
                                          refine op_wq F395 ?_
                                          refine op_q F395 (.bool false) ?_; intro a396 F396
                                          refine op_kq F396 ?_; intro a397 F397
                                          refine op_kq F397 ?_; intro a398 F398
                                          refine op_kq F398 ?_; intro a399 F399
                                          refine op_kq F399 ?_; intro a400 F400
                                          refine op_wq F400 ?_
                                          refine op_q F400 (.bool false) ?_; intro a401 F401
                                          refine op_q F401 (.bool false) ?_; intro a402 F402
                                          refine op_q F402 (.bool false) ?_; intro a403 F403
                                          refine op_wq F403 ?_
                                          refine op_q F403 (.pointer (some ⟨g276, 1, none⟩)) ?_; intro a404 F404
                                          refine op_wq F404 ?_
                                          refine op_rq (v := .string cs[k].fArch) F404 (r_ld rfl (F404.e (.pointer (some ⟨g276, 1, none⟩))) (v := .string cs[k].fArch) ((S373.bk 1 rfl).cell 1) Try.underlying9 rfl) ?_; intro a405 F405
                                          refine op_wq F405 ?_
                                          refine op_q F405 (.bool (!(cs[k].fArch.toList == (⟨#[]⟩ : ByteArray).toList))) ?_; intro a406 F406
                                          have F407 := F406.sb 144 (by kernel_rfl) (show (!(cs[k].fArch.toList == (⟨#[]⟩ : ByteArray).toList)) = false by rw [hc388]; rfl)
                                          refine op_wq F407 ?_
                                          refine op_q F407 (.bool false) ?_; intro a408 F408
                                          refine op_kq F408 ?_; intro a409 F409
                                          refine op_kq F409 ?_; intro a410 F410
                                          refine op_kq F410 ?_; intro a411 F411
                                          refine op_kq F411 ?_; intro a412 F412
                                          refine op_wq F412 ?_
                                          refine op_q F412 (.bool false) ?_; intro a413 F413
                                          refine op_q F413 (.bool false) ?_; intro a414 F414
                                          refine op_q F414 (.bool false) ?_; intro a415 F415
                                          refine op_wq F415 ?_
                                          refine op_q F415 (.slice A352 (((partsF cs[k]) ++ cs[k].fArgs).length) c352) ?_; intro a416 F416
                                          refine op_wq F416 ?_
                                          refine op_q F416 (.pointer (some ⟨g276, 2, none⟩)) ?_; intro a417 F417
                                          refine op_wq F417 ?_
                                          refine op_rq (v := .string cs[k].fCommand) F417 (r_ld rfl (F417.e (.pointer (some ⟨g276, 2, none⟩))) (v := .string cs[k].fCommand) ((S373.bk 1 rfl).cell 2) Try.underlying9 rfl) ?_; intro a418 F418
                                          refine op_wq F418 ?_
                                          refine op_sq F418 (s_news F418 9 #[.string cs[k].fCommand] 1 (by kernel_rfl) (by kernel_rfl) (by kernel_rfl) S373) ?_
                                          rintro _ _ w420 ⟨g418, rfl, rfl⟩ S420 a420 F420
                                          refine op_wq F420 ?_
                                          refine op_sq F420 (s_app2x  (s_app2 rfl Try.underlying22 _ tin9 rfl (F420.e (.slice A352 (((partsF cs[k]) ++ cs[k].fArgs).length) c352)) S420.p1 (.string cs[k].fCommand) (F420.e (.slice (some ⟨g418, 0, none⟩) 1 1)) ((S420.bk 0 rfl).sl (by simp)) rfl (by omega) (by omega))) ?_
                                          rintro _ _ w422 ⟨A421, c421, rfl, rfl⟩ S422 a422 F422
                                          refine op_wq F422 ?_
                                          refine op_cq F422 (f := 19) (args := #[.slice A421 ((((partsF cs[k]) ++ cs[k].fArgs) ++ [cs[k].fCommand]).length) c421]) (hlShort_any A421 c421 (((partsF cs[k]) ++ cs[k].fArgs) ++ [cs[k].fCommand]) _ (S422.tw2 0 rfl)) ?_
                                          rintro _ _ ⟨rfl, rfl⟩
                                          refine ⟨_, rfl, ?_⟩
                                          intro a424 F424
                                          refine op_wq F424 ?_
                                          refine op_q F424 (.bool (!(shortB (((partsF cs[k]) ++ cs[k].fArgs) ++ [cs[k].fCommand])))) ?_; intro a425 F425
                                          refine op_q F425 (.bool (!(shortB (((partsF cs[k]) ++ cs[k].fArgs) ++ [cs[k].fCommand])))) ?_; intro a426 F426
                                          refine op_q F426 (.bool (!(shortB (((partsF cs[k]) ++ cs[k].fArgs) ++ [cs[k].fCommand])))) ?_; intro a427 F427
                                          rcases btf (shortB (((partsF cs[k]) ++ cs[k].fArgs) ++ [cs[k].fCommand])) with hc428 | hc428
                                          · have hshk := hc428
                                            have F429 := F427.sb 158 (by kernel_rfl) hc428
                                            have F430 := F429.sb 159 (by kernel_rfl) (show (!(shortB (((partsF cs[k]) ++ cs[k].fArgs) ++ [cs[k].fCommand]))) = false by rw [hc428]; rfl)
                                            have F431 := F430.sb 160 (by kernel_rfl) (show (!(shortB (((partsF cs[k]) ++ cs[k].fArgs) ++ [cs[k].fCommand]))) = false by rw [hc428]; rfl)
                                            have F432 := F431.sb 161 (by kernel_rfl) (show (!(shortB (((partsF cs[k]) ++ cs[k].fArgs) ++ [cs[k].fCommand]))) = false by rw [hc428]; rfl)
                                            refine op_wq F432 ?_
                                            refine op_q F432 (.pointer (some ⟨g276, 3, none⟩)) ?_; intro a433 F433
                                            refine op_wq F433 ?_
                                            refine op_rq (v := .slice cs[k].fArgs_a cs[k].fArgs.length cs[k].fArgs_c) F433 (r_ld rfl (F433.e (.pointer (some ⟨g276, 3, none⟩))) (v := .slice cs[k].fArgs_a cs[k].fArgs.length cs[k].fArgs_c) ((S422.bk 2 rfl).cell 3) Try.underlying22 rfl) ?_; intro a434 F434
                                            refine op_wq F434 ?_
                                            refine op_q F434 (.int .i64 (↑cs[k].fArgs.length)) ?_; intro a435 F435
                                            refine op_wq F435 ?_
                                            refine op_q F435 (.bool (decide ((5 : Int) < ↑cs[k].fArgs.length))) ?_; intro a436 F436
                                            have F437 := F436.sb 165 (by kernel_rfl) hc304
                                            refine op_q F437 (.bool false) ?_; intro a438 F438
                                            refine wpList_nil ?_
                                            refine hK375 _ _ ?_; clear hK375 K375
                                            refine wp_cond_false (F438.ev (by kernel_rfl)) ?_
                                            refine wp_skip ?_
                                            exact hK374 _ _ ⟨A421, (F438.kk 0 (F438.kk 1 (F438.kk 2 (F438.kk 3 (F438.kk 4 (F438.kk 5 (F438.kk 17 (F438.kk 100 (F438.kk 101 (F438.kk 102 F438.nil)))))))))), S422.p1.drop.p1.p1, (Or.inl (sz_of hc380)), (Or.inl (sz_of hc388)), (by assumption), (by first | omega | (with_reducible assumption) | (simp; done)), (by first | omega | (with_reducible assumption) | (simp; done))⟩
                                          · have F439 := F427.sb 158 (by kernel_rfl) hc428
                                            have F440 := F439.sb 159 (by kernel_rfl) (show (!(shortB (((partsF cs[k]) ++ cs[k].fArgs) ++ [cs[k].fCommand]))) = true by rw [hc428]; rfl)
                                            have F441 := F440.sb 160 (by kernel_rfl) (show (!(shortB (((partsF cs[k]) ++ cs[k].fArgs) ++ [cs[k].fCommand]))) = true by rw [hc428]; rfl)
                                            have F442 := F441.sb 161 (by kernel_rfl) (show (!(shortB (((partsF cs[k]) ++ cs[k].fArgs) ++ [cs[k].fCommand]))) = true by rw [hc428]; rfl)
                                            refine op_kq F442 ?_; intro a443 F443
                                            refine op_kq F443 ?_; intro a444 F444
                                            refine op_kq F444 ?_; intro a445 F445
                                            refine op_kq F445 ?_; intro a446 F446
                                            refine op_q F446 (.bool true) ?_; intro a447 F447
                                            refine wpList_nil ?_
                                            refine hK375 _ _ ?_; clear hK375 K375
                                            refine wp_cond_true (F447.ev (by kernel_rfl)) ?_
                                            refine wp_seq_k fun K448 hK448 => ?_
                                            refine wp_region_lit ?_
                                            refine op_q F447 (.bool true) ?_; intro a449 F449
                                            refine wpList_nil ?_
                                            refine hK448 _ _ ?_; clear hK448 K448
                                            refine wp_ret ?_
                                            refine ret_then ?_
                                            refine ret_in ?_
                                            refine ret_then ?_
                                            refine ret_then ?_
                                            refine ret_in ?_
                                            refine ret_then ?_
                                            refine (F449.res1 rfl (v := .bool true) (by kernel_rfl) ?_).1
                                            exact ⟨rfl, S422.drop.drop.drop⟩
                                        · have F450 := F387.sb 128 (by kernel_rfl) (show (!(cs[k].fArch.toList == (⟨#[]⟩ : ByteArray).toList)) = true by rw [hc388]; rfl)
                                          have F451 := F450.sb 129 (by kernel_rfl) (show (!(cs[k].fArch.toList == (⟨#[]⟩ : ByteArray).toList)) = true by rw [hc388]; rfl)
                                          have F452 := F451.sb 130 (by kernel_rfl) (show (!(cs[k].fArch.toList == (⟨#[]⟩ : ByteArray).toList)) = true by rw [hc388]; rfl)
                                          refine op_kq F452 ?_; intro a453 F453
                                          refine op_kq F453 ?_; intro a454 F454
                                          refine op_kq F454 ?_; intro a455 F455
                                          refine op_kq F455 ?_; intro a456 F456
                                          refine op_kq F456 ?_; intro a457 F457
                                          refine op_kq F457 ?_; intro a458 F458
                                          refine op_kq F458 ?_; intro a459 F459
                                          refine op_kq F459 ?_; intro a460 F460
                                          refine op_kq F460 ?_; intro a461 F461
                                          refine op_q F461 (.bool true) ?_; intro a462 F462
                                          refine op_q F462 (.bool true) ?_; intro a463 F463
                                          refine op_kq F463 ?_; intro a464 F464
                                          refine op_kq F464 ?_; intro a465 F465
                                          refine op_kq F465 ?_; intro a466 F466
                                          refine op_kq F466 ?_; intro a467 F467
                                          refine op_kq F467 ?_; intro a468 F468
                                          refine op_kq F468 ?_; intro a469 F469
                                          refine op_kq F469 ?_; intro a470 F470
                                          refine op_kq F470 ?_; intro a471 F471
                                          refine op_kq F471 ?_; intro a472 F472
                                          refine op_q F472 (.bool true) ?_; intro a473 F473
                                          refine op_q F473 (.bool true) ?_; intro a474 F474
                                          refine op_kq F474 ?_; intro a475 F475
                                          refine op_kq F475 ?_; intro a476 F476
                                          refine op_kq F476 ?_; intro a477 F477
                                          refine op_kq F477 ?_; intro a478 F478
                                          refine op_kq F478 ?_; intro a479 F479
                                          refine op_kq F479 ?_; intro a480 F480
                                          refine op_kq F480 ?_; intro a481 F481
                                          refine op_q F481 (.bool true) ?_; intro a482 F482
                                          refine op_q F482 (.bool true) ?_; intro a483 F483
                                          refine op_kq F483 ?_; intro a484 F484
                                          refine op_kq F484 ?_; intro a485 F485
                                          refine op_kq F485 ?_; intro a486 F486
                                          refine op_kq F486 ?_; intro a487 F487
                                          refine op_q F487 (.bool true) ?_; intro a488 F488
                                          refine wpList_nil ?_
                                          refine hK375 _ _ ?_; clear hK375 K375
                                          refine wp_cond_true (F488.ev (by kernel_rfl)) ?_
                                          refine wp_seq_k fun K489 hK489 => ?_
                                          refine wp_region_lit ?_
                                          refine op_q F488 (.bool true) ?_; intro a490 F490
                                          refine wpList_nil ?_
                                          refine hK489 _ _ ?_; clear hK489 K489
                                          refine wp_ret ?_
                                          refine ret_then ?_
                                          refine ret_in ?_
                                          refine ret_then ?_
                                          refine ret_then ?_
                                          refine ret_in ?_
                                          refine ret_then ?_
                                          refine (F490.res1 rfl (v := .bool true) (by kernel_rfl) ?_).1
                                          exact ⟨rfl, S373.drop.drop⟩
                                      · have F491 := F379.sb 124 (by kernel_rfl) hc380
                                        have F492 := F491.sb 125 (by kernel_rfl) hc380
                                        refine op_kq F492 ?_; intro a493 F493
                                        refine op_kq F493 ?_; intro a494 F494
                                        refine op_kq F494 ?_; intro a495 F495
                                        refine op_q F495 (.bool false) ?_; intro a496 F496
                                        refine op_q F496 (.bool false) ?_; intro a497 F497
                                        refine op_wq F497 ?_
                                        refine op_q F497 (.pointer (some ⟨g276, 0, none⟩)) ?_; intro a498 F498
                                        refine op_wq F498 ?_
                                        refine op_rq (v := .string cs[k].fOS) F498 (r_ld rfl (F498.e (.pointer (some ⟨g276, 0, none⟩))) (v := .string cs[k].fOS) ((S373.bk 1 rfl).cell 0) Try.underlying9 rfl) ?_; intro a499 F499
                                        refine op_wq F499 ?_
                                        refine op_q F499 (.bool (!(cs[k].fOS.toList == (⟨#[]⟩ : ByteArray).toList))) ?_; intro a500 F500
                                        have F501 := F500.sb 133 (by kernel_rfl) (show (!(cs[k].fOS.toList == (⟨#[]⟩ : ByteArray).toList)) = true by rw [hc380]; rfl)
                                        refine op_wq F501 ?_
                                        refine op_q F501 (.bool true) ?_; intro a502 F502
                                        refine op_wq F502 ?_
                                        refine op_q F502 (.pointer (some ⟨g276, 0, none⟩)) ?_; intro a503 F503
                                        refine op_wq F503 ?_
                                        refine op_rq (v := .string cs[k].fOS) F503 (r_ld rfl (F503.e (.pointer (some ⟨g276, 0, none⟩))) (v := .string cs[k].fOS) ((S373.bk 1 rfl).cell 0) Try.underlying9 rfl) ?_; intro a504 F504
                                        refine op_wq F504 ?_
                                        refine op_cq F504 (f := 40) (args := #[.string cs[k].fOS]) (hlSmall_any cs[k].fOS _ _ _ S373 (by first | omega | (simp; done) | (simp; omega))) ?_
                                        rintro _ w505 ⟨rfl, S505⟩
                                        refine ⟨_, rfl, ?_⟩
                                        intro a506 F506
                                        refine op_wq F506 ?_
                                        refine op_q F506 (.bool (!(smallB cs[k].fOS))) ?_; intro a507 F507
                                        refine op_wq F507 ?_
                                        refine op_q F507 (.bool (!(smallB cs[k].fOS))) ?_; intro a508 F508
                                        refine op_q F508 (.bool (!(smallB cs[k].fOS))) ?_; intro a509 F509
                                        refine op_q F509 (.bool (!(smallB cs[k].fOS))) ?_; intro a510 F510
                                        rcases btf (smallB cs[k].fOS) with hc511 | hc511
                                        · have F512 := F510.sb 137 (by kernel_rfl) hc511
                                          have F513 := F512.sb 138 (by kernel_rfl) (show (!(smallB cs[k].fOS)) = false by rw [hc511]; rfl)
                                          have F514 := F513.sb 139 (by kernel_rfl) (show (!(smallB cs[k].fOS)) = false by rw [hc511]; rfl)
                                          have F515 := F514.sb 140 (by kernel_rfl) (show (!(smallB cs[k].fOS)) = false by rw [hc511]; rfl)
                                          have F516 := F515.sb 141 (by kernel_rfl) (show (!(smallB cs[k].fOS)) = false by rw [hc511]; rfl)
                                          refine op_wq F516 ?_
                                          refine op_q F516 (.pointer (some ⟨g276, 1, none⟩)) ?_; intro a517 F517
                                          refine op_wq F517 ?_
                                          refine op_rq (v := .string cs[k].fArch) F517 (r_ld rfl (F517.e (.pointer (some ⟨g276, 1, none⟩))) (v := .string cs[k].fArch) ((S505.bk 1 rfl).cell 1) Try.underlying9 rfl) ?_; intro a518 F518
                                          refine op_wq F518 ?_
                                          refine op_q F518 (.bool (!(cs[k].fArch.toList == (⟨#[]⟩ : ByteArray).toList))) ?_; intro a519 F519
                                          refine op_wq F519 ?_
                                          refine op_q F519 (.bool (!(cs[k].fArch.toList == (⟨#[]⟩ : ByteArray).toList))) ?_; intro a520 F520
                                          rcases btf (cs[k].fArch.toList == (⟨#[]⟩ : ByteArray).toList) with hc521 | hc521
                                          · have F522 := F520.sb 144 (by kernel_rfl) (show (!(cs[k].fArch.toList == (⟨#[]⟩ : ByteArray).toList)) = false by rw [hc521]; rfl)
                                            have F523 := F522.sb 145 (by kernel_rfl) (show (!(cs[k].fArch.toList == (⟨#[]⟩ : ByteArray).toList)) = false by rw [hc521]; rfl)
                                            refine op_kq F523 ?_; intro a524 F524
                                            refine op_kq F524 ?_; intro a525 F525
                                            refine op_kq F525 ?_; intro a526 F526
                                            refine op_kq F526 ?_; intro a527 F527
                                            refine op_wq F527 ?_
                                            refine op_q F527 (.bool false) ?_; intro a528 F528
                                            refine op_q F528 (.bool false) ?_; intro a529 F529
                                            refine op_q F529 (.bool false) ?_; intro a530 F530
                                            refine op_wq F530 ?_
                                            refine op_q F530 (.slice A352 (((partsF cs[k]) ++ cs[k].fArgs).length) c352) ?_; intro a531 F531
                                            refine op_wq F531 ?_
                                            refine op_q F531 (.pointer (some ⟨g276, 2, none⟩)) ?_; intro a532 F532
                                            refine op_wq F532 ?_
                                            refine op_rq (v := .string cs[k].fCommand) F532 (r_ld rfl (F532.e (.pointer (some ⟨g276, 2, none⟩))) (v := .string cs[k].fCommand) ((S505.bk 1 rfl).cell 2) Try.underlying9 rfl) ?_; intro a533 F533
                                            refine op_wq F533 ?_
                                            refine op_sq F533 (s_news F533 9 #[.string cs[k].fCommand] 1 (by kernel_rfl) (by kernel_rfl) (by kernel_rfl) S505) ?_
                                            rintro _ _ w535 ⟨g533, rfl, rfl⟩ S535 a535 F535
                                            refine op_wq F535 ?_
                                            refine op_sq F535 (s_app2x  (s_app2 rfl Try.underlying22 _ tin9 rfl (F535.e (.slice A352 (((partsF cs[k]) ++ cs[k].fArgs).length) c352)) S535.p1 (.string cs[k].fCommand) (F535.e (.slice (some ⟨g533, 0, none⟩) 1 1)) ((S535.bk 0 rfl).sl (by simp)) rfl (by omega) (by omega))) ?_
                                            rintro _ _ w537 ⟨A536, c536, rfl, rfl⟩ S537 a537 F537
                                            refine op_wq F537 ?_
                                            refine op_cq F537 (f := 19) (args := #[.slice A536 ((((partsF cs[k]) ++ cs[k].fArgs) ++ [cs[k].fCommand]).length) c536]) (hlShort_any A536 c536 (((partsF cs[k]) ++ cs[k].fArgs) ++ [cs[k].fCommand]) _ (S537.tw2 0 rfl)) ?_
                                            rintro _ _ ⟨rfl, rfl⟩
                                            refine ⟨_, rfl, ?_⟩
                                            intro a539 F539
                                            refine op_wq F539 ?_
                                            refine op_q F539 (.bool (!(shortB (((partsF cs[k]) ++ cs[k].fArgs) ++ [cs[k].fCommand])))) ?_; intro a540 F540
                                            refine op_q F540 (.bool (!(shortB (((partsF cs[k]) ++ cs[k].fArgs) ++ [cs[k].fCommand])))) ?_; intro a541 F541
                                            refine op_q F541 (.bool (!(shortB (((partsF cs[k]) ++ cs[k].fArgs) ++ [cs[k].fCommand])))) ?_; intro a542 F542
                                            rcases btf (shortB (((partsF cs[k]) ++ cs[k].fArgs) ++ [cs[k].fCommand])) with hc543 | hc543
                                            · have hshk := hc543
                                              have F544 := F542.sb 158 (by kernel_rfl) hc543
                                              have F545 := F544.sb 159 (by kernel_rfl) (show (!(shortB (((partsF cs[k]) ++ cs[k].fArgs) ++ [cs[k].fCommand]))) = false by rw [hc543]; rfl)
                                              have F546 := F545.sb 160 (by kernel_rfl) (show (!(shortB (((partsF cs[k]) ++ cs[k].fArgs) ++ [cs[k].fCommand]))) = false by rw [hc543]; rfl)
                                              have F547 := F546.sb 161 (by kernel_rfl) (show (!(shortB (((partsF cs[k]) ++ cs[k].fArgs) ++ [cs[k].fCommand]))) = false by rw [hc543]; rfl)
                                              refine op_wq F547 ?_
                                              refine op_q F547 (.pointer (some ⟨g276, 3, none⟩)) ?_; intro a548 F548
                                              refine op_wq F548 ?_
                                              refine op_rq (v := .slice cs[k].fArgs_a cs[k].fArgs.length cs[k].fArgs_c) F548 (r_ld rfl (F548.e (.pointer (some ⟨g276, 3, none⟩))) (v := .slice cs[k].fArgs_a cs[k].fArgs.length cs[k].fArgs_c) ((S537.bk 2 rfl).cell 3) Try.underlying22 rfl) ?_; intro a549 F549
                                              refine op_wq F549 ?_
                                              refine op_q F549 (.int .i64 (↑cs[k].fArgs.length)) ?_; intro a550 F550
                                              refine op_wq F550 ?_
                                              refine op_q F550 (.bool (decide ((5 : Int) < ↑cs[k].fArgs.length))) ?_; intro a551 F551
                                              have F552 := F551.sb 165 (by kernel_rfl) hc304
                                              refine op_q F552 (.bool false) ?_; intro a553 F553
                                              refine wpList_nil ?_
                                              refine hK375 _ _ ?_; clear hK375 K375
                                              refine wp_cond_false (F553.ev (by kernel_rfl)) ?_
                                              refine wp_skip ?_
                                              exact hK374 _ _ ⟨A536, (F553.kk 0 (F553.kk 1 (F553.kk 2 (F553.kk 3 (F553.kk 4 (F553.kk 5 (F553.kk 17 (F553.kk 100 (F553.kk 101 (F553.kk 102 F553.nil)))))))))), S537.p1.drop.p1.p1, (Or.inr hc511), (Or.inl (sz_of hc521)), (by assumption), (by first | omega | (with_reducible assumption) | (simp; done)), (by first | omega | (with_reducible assumption) | (simp; done))⟩
                                            · have F554 := F542.sb 158 (by kernel_rfl) hc543
                                              have F555 := F554.sb 159 (by kernel_rfl) (show (!(shortB (((partsF cs[k]) ++ cs[k].fArgs) ++ [cs[k].fCommand]))) = true by rw [hc543]; rfl)
                                              have F556 := F555.sb 160 (by kernel_rfl) (show (!(shortB (((partsF cs[k]) ++ cs[k].fArgs) ++ [cs[k].fCommand]))) = true by rw [hc543]; rfl)
                                              have F557 := F556.sb 161 (by kernel_rfl) (show (!(shortB (((partsF cs[k]) ++ cs[k].fArgs) ++ [cs[k].fCommand]))) = true by rw [hc543]; rfl)
                                              refine op_kq F557 ?_; intro a558 F558
                                              refine op_kq F558 ?_; intro a559 F559
                                              refine op_kq F559 ?_; intro a560 F560
                                              refine op_kq F560 ?_; intro a561 F561
                                              refine op_q F561 (.bool true) ?_; intro a562 F562
                                              refine wpList_nil ?_
                                              refine hK375 _ _ ?_; clear hK375 K375
                                              refine wp_cond_true (F562.ev (by kernel_rfl)) ?_
                                              refine wp_seq_k fun K563 hK563 => ?_
                                              refine wp_region_lit ?_
                                              refine op_q F562 (.bool true) ?_; intro a564 F564
                                              refine wpList_nil ?_
                                              refine hK563 _ _ ?_; clear hK563 K563
                                              refine wp_ret ?_
                                              refine ret_then ?_
                                              refine ret_in ?_
                                              refine ret_then ?_
                                              refine ret_then ?_
                                              refine ret_in ?_
                                              refine ret_then ?_
                                              refine (F564.res1 rfl (v := .bool true) (by kernel_rfl) ?_).1
                                              exact ⟨rfl, S537.drop.drop.drop⟩
                                          · have F565 := F520.sb 144 (by kernel_rfl) (show (!(cs[k].fArch.toList == (⟨#[]⟩ : ByteArray).toList)) = true by rw [hc521]; rfl)
                                            have F566 := F565.sb 145 (by kernel_rfl) (show (!(cs[k].fArch.toList == (⟨#[]⟩ : ByteArray).toList)) = true by rw [hc521]; rfl)
                                            refine op_wq F566 ?_
                                            refine op_q F566 (.pointer (some ⟨g276, 1, none⟩)) ?_; intro a567 F567
                                            refine op_wq F567 ?_
                                            refine op_rq (v := .string cs[k].fArch) F567 (r_ld rfl (F567.e (.pointer (some ⟨g276, 1, none⟩))) (v := .string cs[k].fArch) ((S505.bk 1 rfl).cell 1) Try.underlying9 rfl) ?_; intro a568 F568
                                            refine op_wq F568 ?_
                                            refine op_cq F568 (f := 40) (args := #[.string cs[k].fArch]) (hlSmall_any cs[k].fArch _ _ _ S505 (by first | omega | (simp; done) | (simp; omega))) ?_
                                            rintro _ w569 ⟨rfl, S569⟩
                                            refine ⟨_, rfl, ?_⟩
                                            intro a570 F570
                                            refine op_wq F570 ?_
                                            refine op_q F570 (.bool (!(smallB cs[k].fArch))) ?_; intro a571 F571
                                            refine op_wq F571 ?_
                                            refine op_q F571 (.bool (!(smallB cs[k].fArch))) ?_; intro a572 F572
                                            refine op_q F572 (.bool (!(smallB cs[k].fArch))) ?_; intro a573 F573
                                            refine op_q F573 (.bool (!(smallB cs[k].fArch))) ?_; intro a574 F574
                                            rcases btf (smallB cs[k].fArch) with hc575 | hc575
                                            · have F576 := F574.sb 148 (by kernel_rfl) hc575
                                              have F577 := F576.sb 149 (by kernel_rfl) (show (!(smallB cs[k].fArch)) = false by rw [hc575]; rfl)
                                              have F578 := F577.sb 150 (by kernel_rfl) (show (!(smallB cs[k].fArch)) = false by rw [hc575]; rfl)
                                              have F579 := F578.sb 151 (by kernel_rfl) (show (!(smallB cs[k].fArch)) = false by rw [hc575]; rfl)
                                              have F580 := F579.sb 152 (by kernel_rfl) (show (!(smallB cs[k].fArch)) = false by rw [hc575]; rfl)
                                              refine op_wq F580 ?_
                                              refine op_q F580 (.slice A352 (((partsF cs[k]) ++ cs[k].fArgs).length) c352) ?_; intro a581 F581
                                              refine op_wq F581 ?_
                                              refine op_q F581 (.pointer (some ⟨g276, 2, none⟩)) ?_; intro a582 F582
                                              refine op_wq F582 ?_
                                              refine op_rq (v := .string cs[k].fCommand) F582 (r_ld rfl (F582.e (.pointer (some ⟨g276, 2, none⟩))) (v := .string cs[k].fCommand) ((S569.bk 1 rfl).cell 2) Try.underlying9 rfl) ?_; intro a583 F583
                                              refine op_wq F583 ?_
                                              refine op_sq F583 (s_news F583 9 #[.string cs[k].fCommand] 1 (by kernel_rfl) (by kernel_rfl) (by kernel_rfl) S569) ?_
                                              rintro _ _ w585 ⟨g583, rfl, rfl⟩ S585 a585 F585
                                              refine op_wq F585 ?_
                                              refine op_sq F585 (s_app2x  (s_app2 rfl Try.underlying22 _ tin9 rfl (F585.e (.slice A352 (((partsF cs[k]) ++ cs[k].fArgs).length) c352)) S585.p1 (.string cs[k].fCommand) (F585.e (.slice (some ⟨g583, 0, none⟩) 1 1)) ((S585.bk 0 rfl).sl (by simp)) rfl (by omega) (by omega))) ?_
                                              rintro _ _ w587 ⟨A586, c586, rfl, rfl⟩ S587 a587 F587
                                              refine op_wq F587 ?_
                                              refine op_cq F587 (f := 19) (args := #[.slice A586 ((((partsF cs[k]) ++ cs[k].fArgs) ++ [cs[k].fCommand]).length) c586]) (hlShort_any A586 c586 (((partsF cs[k]) ++ cs[k].fArgs) ++ [cs[k].fCommand]) _ (S587.tw2 0 rfl)) ?_
                                              rintro _ _ ⟨rfl, rfl⟩
                                              refine ⟨_, rfl, ?_⟩
                                              intro a589 F589
                                              refine op_wq F589 ?_
                                              refine op_q F589 (.bool (!(shortB (((partsF cs[k]) ++ cs[k].fArgs) ++ [cs[k].fCommand])))) ?_; intro a590 F590
                                              refine op_q F590 (.bool (!(shortB (((partsF cs[k]) ++ cs[k].fArgs) ++ [cs[k].fCommand])))) ?_; intro a591 F591
                                              refine op_q F591 (.bool (!(shortB (((partsF cs[k]) ++ cs[k].fArgs) ++ [cs[k].fCommand])))) ?_; intro a592 F592
                                              rcases btf (shortB (((partsF cs[k]) ++ cs[k].fArgs) ++ [cs[k].fCommand])) with hc593 | hc593
                                              · have hshk := hc593
                                                have F594 := F592.sb 158 (by kernel_rfl) hc593
                                                have F595 := F594.sb 159 (by kernel_rfl) (show (!(shortB (((partsF cs[k]) ++ cs[k].fArgs) ++ [cs[k].fCommand]))) = false by rw [hc593]; rfl)
                                                have F596 := F595.sb 160 (by kernel_rfl) (show (!(shortB (((partsF cs[k]) ++ cs[k].fArgs) ++ [cs[k].fCommand]))) = false by rw [hc593]; rfl)
                                                have F597 := F596.sb 161 (by kernel_rfl) (show (!(shortB (((partsF cs[k]) ++ cs[k].fArgs) ++ [cs[k].fCommand]))) = false by rw [hc593]; rfl)
                                                refine op_wq F597 ?_
                                                refine op_q F597 (.pointer (some ⟨g276, 3, none⟩)) ?_; intro a598 F598
                                                refine op_wq F598 ?_
                                                refine op_rq (v := .slice cs[k].fArgs_a cs[k].fArgs.length cs[k].fArgs_c) F598 (r_ld rfl (F598.e (.pointer (some ⟨g276, 3, none⟩))) (v := .slice cs[k].fArgs_a cs[k].fArgs.length cs[k].fArgs_c) ((S587.bk 2 rfl).cell 3) Try.underlying22 rfl) ?_; intro a599 F599
                                                refine op_wq F599 ?_
                                                refine op_q F599 (.int .i64 (↑cs[k].fArgs.length)) ?_; intro a600 F600
                                                refine op_wq F600 ?_
                                                refine op_q F600 (.bool (decide ((5 : Int) < ↑cs[k].fArgs.length))) ?_; intro a601 F601
                                                have F602 := F601.sb 165 (by kernel_rfl) hc304
                                                refine op_q F602 (.bool false) ?_; intro a603 F603
                                                refine wpList_nil ?_
                                                refine hK375 _ _ ?_; clear hK375 K375
                                                refine wp_cond_false (F603.ev (by kernel_rfl)) ?_
                                                refine wp_skip ?_
                                                exact hK374 _ _ ⟨A586, (F603.kk 0 (F603.kk 1 (F603.kk 2 (F603.kk 3 (F603.kk 4 (F603.kk 5 (F603.kk 17 (F603.kk 100 (F603.kk 101 (F603.kk 102 F603.nil)))))))))), S587.p1.drop.p1.p1, (Or.inr hc511), (Or.inr hc575), (by assumption), (by first | omega | (with_reducible assumption) | (simp; done)), (by first | omega | (with_reducible assumption) | (simp; done))⟩
                                              · have F604 := F592.sb 158 (by kernel_rfl) hc593
                                                have F605 := F604.sb 159 (by kernel_rfl) (show (!(shortB (((partsF cs[k]) ++ cs[k].fArgs) ++ [cs[k].fCommand]))) = true by rw [hc593]; rfl)
                                                have F606 := F605.sb 160 (by kernel_rfl) (show (!(shortB (((partsF cs[k]) ++ cs[k].fArgs) ++ [cs[k].fCommand]))) = true by rw [hc593]; rfl)
                                                have F607 := F606.sb 161 (by kernel_rfl) (show (!(shortB (((partsF cs[k]) ++ cs[k].fArgs) ++ [cs[k].fCommand]))) = true by rw [hc593]; rfl)
                                                refine op_kq F607 ?_; intro a608 F608
                                                refine op_kq F608 ?_; intro a609 F609
                                                refine op_kq F609 ?_; intro a610 F610
                                                refine op_kq F610 ?_; intro a611 F611
                                                refine op_q F611 (.bool true) ?_; intro a612 F612
                                                refine wpList_nil ?_
                                                refine hK375 _ _ ?_; clear hK375 K375
                                                refine wp_cond_true (F612.ev (by kernel_rfl)) ?_
                                                refine wp_seq_k fun K613 hK613 => ?_
                                                refine wp_region_lit ?_
                                                refine op_q F612 (.bool true) ?_; intro a614 F614
                                                refine wpList_nil ?_
                                                refine hK613 _ _ ?_; clear hK613 K613
                                                refine wp_ret ?_
                                                refine ret_then ?_
                                                refine ret_in ?_
                                                refine ret_then ?_
                                                refine ret_then ?_
                                                refine ret_in ?_
                                                refine ret_then ?_
                                                refine (F614.res1 rfl (v := .bool true) (by kernel_rfl) ?_).1
                                                exact ⟨rfl, S587.drop.drop.drop⟩
                                            · have F615 := F574.sb 148 (by kernel_rfl) hc575
                                              have F616 := F615.sb 149 (by kernel_rfl) (show (!(smallB cs[k].fArch)) = true by rw [hc575]; rfl)
                                              have F617 := F616.sb 150 (by kernel_rfl) (show (!(smallB cs[k].fArch)) = true by rw [hc575]; rfl)
                                              have F618 := F617.sb 151 (by kernel_rfl) (show (!(smallB cs[k].fArch)) = true by rw [hc575]; rfl)
                                              have F619 := F618.sb 152 (by kernel_rfl) (show (!(smallB cs[k].fArch)) = true by rw [hc575]; rfl)
                                              refine op_kq F619 ?_; intro a620 F620
                                              refine op_kq F620 ?_; intro a621 F621
                                              refine op_kq F621 ?_; intro a622 F622
                                              refine op_kq F622 ?_; intro a623 F623
                                              refine op_kq F623 ?_; intro a624 F624
                                              refine op_kq F624 ?_; intro a625 F625
                                              refine op_kq F625 ?_; intro a626 F626
                                              refine op_q F626 (.bool true) ?_; intro a627 F627
                                              refine op_q F627 (.bool true) ?_; intro a628 F628
                                              refine op_kq F628 ?_; intro a629 F629
                                              refine op_kq F629 ?_; intro a630 F630
                                              refine op_kq F630 ?_; intro a631 F631
                                              refine op_kq F631 ?_; intro a632 F632
                                              refine op_q F632 (.bool true) ?_; intro a633 F633
                                              refine wpList_nil ?_
                                              refine hK375 _ _ ?_; clear hK375 K375
                                              refine wp_cond_true (F633.ev (by kernel_rfl)) ?_
                                              refine wp_seq_k fun K634 hK634 => ?_
                                              refine wp_region_lit ?_
                                              refine op_q F633 (.bool true) ?_; intro a635 F635
                                              refine wpList_nil ?_
                                              refine hK634 _ _ ?_; clear hK634 K634
                                              refine wp_ret ?_
                                              refine ret_then ?_
                                              refine ret_in ?_
                                              refine ret_then ?_
                                              refine ret_then ?_
                                              refine ret_in ?_
                                              refine ret_then ?_
                                              refine (F635.res1 rfl (v := .bool true) (by kernel_rfl) ?_).1
                                              exact ⟨rfl, S569.drop.drop⟩
                                        · have F636 := F510.sb 137 (by kernel_rfl) hc511
                                          have F637 := F636.sb 138 (by kernel_rfl) (show (!(smallB cs[k].fOS)) = true by rw [hc511]; rfl)
                                          have F638 := F637.sb 139 (by kernel_rfl) (show (!(smallB cs[k].fOS)) = true by rw [hc511]; rfl)
                                          have F639 := F638.sb 140 (by kernel_rfl) (show (!(smallB cs[k].fOS)) = true by rw [hc511]; rfl)
                                          have F640 := F639.sb 141 (by kernel_rfl) (show (!(smallB cs[k].fOS)) = true by rw [hc511]; rfl)
                                          refine op_kq F640 ?_; intro a641 F641
                                          refine op_kq F641 ?_; intro a642 F642
                                          refine op_kq F642 ?_; intro a643 F643
                                          refine op_kq F643 ?_; intro a644 F644
                                          refine op_kq F644 ?_; intro a645 F645
                                          refine op_kq F645 ?_; intro a646 F646
                                          refine op_kq F646 ?_; intro a647 F647
                                          refine op_kq F647 ?_; intro a648 F648
                                          refine op_kq F648 ?_; intro a649 F649
                                          refine op_q F649 (.bool true) ?_; intro a650 F650
                                          refine op_q F650 (.bool true) ?_; intro a651 F651
                                          refine op_kq F651 ?_; intro a652 F652
                                          refine op_kq F652 ?_; intro a653 F653
                                          refine op_kq F653 ?_; intro a654 F654
                                          refine op_kq F654 ?_; intro a655 F655
                                          refine op_kq F655 ?_; intro a656 F656
                                          refine op_kq F656 ?_; intro a657 F657
                                          refine op_kq F657 ?_; intro a658 F658
                                          refine op_q F658 (.bool true) ?_; intro a659 F659
                                          refine op_q F659 (.bool true) ?_; intro a660 F660
                                          refine op_kq F660 ?_; intro a661 F661
                                          refine op_kq F661 ?_; intro a662 F662
                                          refine op_kq F662 ?_; intro a663 F663
                                          refine op_kq F663 ?_; intro a664 F664
                                          refine op_q F664 (.bool true) ?_; intro a665 F665
                                          refine wpList_nil ?_
                                          refine hK375 _ _ ?_; clear hK375 K375
                                          refine wp_cond_true (F665.ev (by kernel_rfl)) ?_
                                          refine wp_seq_k fun K666 hK666 => ?_
                                          refine wp_region_lit ?_
                                          refine op_q F665 (.bool true) ?_; intro a667 F667
                                          refine wpList_nil ?_
                                          refine hK666 _ _ ?_; clear hK666 K666
                                          refine wp_ret ?_
                                          refine ret_then ?_
                                          refine ret_in ?_
                                          refine ret_then ?_
                                          refine ret_then ?_
                                          refine ret_in ?_
                                          refine ret_then ?_
                                          refine (F667.res1 rfl (v := .bool true) (by kernel_rfl) ?_).1
                                          exact ⟨rfl, S505.drop.drop⟩
                                    · rintro a668 w668 ⟨A2, F668, S668, hoO, hoA, hshk, hcl1, hcl2⟩
                                      have hsz2 := short_all hshk
                                      refine wp_seq_k fun K669 hK669 => ?_
                                      refine wp_region_lit ?_
                                      refine op_q F668 (.slice A352 (((partsF cs[k]) ++ cs[k].fArgs).length) c352) ?_; intro a670 F670
                                      refine op_q F670 (.int .i64 (↑(((partsF cs[k]) ++ cs[k].fArgs).length))) ?_; intro a671 F671
                                      refine op_q F671 (.int .i64 0) ?_; intro a672 F672
                                      refine wpList_nil ?_
                                      refine hK669 _ _ ?_; clear hK669 K669
                                      refine wp_block ?_
                                      refine fw_loop (fun m a' w' => ∃ q : Nat, ((partsF cs[k]) ++ cs[k].fArgs).length - q = m ∧ Fr 247 [] a' [(0, .string os), (1, .string arch), (2, .slice (E) (xs.length) (ce)), (3, .slice (A) (cs.length) (d)), (4, .bool ig), (5, .slice (B) (extra.length) (db)), (17, .slice A352 (((partsF cs[k]) ++ cs[k].fArgs).length) c352), (100, .slice (A) (cs.length) (d)), (101, .int .i64 (↑cs.length)), (102, .int .i64 (↑k)), (167, .slice A352 (((partsF cs[k]) ++ cs[k].fArgs).length) c352), (168, .int .i64 (↑(((partsF cs[k]) ++ cs[k].fArgs).length))), (169, .int .i64 (↑q))] ∧ Sp R w' (SA.two A352 (strs ((partsF cs[k]) ++ cs[k].fArgs)) A2 (strs (((partsF cs[k]) ++ cs[k].fArgs) ++ [cs[k].fCommand])) :: SA.blk g276 110 #[.string cs[k].fOS, .string cs[k].fArch, .string cs[k].fCommand, .slice cs[k].fArgs_a cs[k].fArgs.length cs[k].fArgs_c] :: L) ∧ (q ≤ ((partsF cs[k]) ++ cs[k].fArgs).length) ∧ (∀ j, ∀ h : j < ((partsF cs[k]) ++ cs[k].fArgs).length, j < q → 0 < ((partsF cs[k]) ++ cs[k].fArgs)[j].size)) _ ⟨0, rfl, (F672.kk 0 (F672.kk 1 (F672.kk 2 (F672.kk 3 (F672.kk 4 (F672.kk 5 (F672.kk 17 (F672.kk 100 (F672.kk 101 (F672.kk 102 (F672.kk 167 (F672.kk 168 (F672.kk 169 F672.nil))))))))))))), S668.p1.p1, (by first | omega | (with_reducible assumption) | (simp; done)), (fun j _ hj => absurd hj (Nat.not_lt_zero _))⟩ ?_
                                      rintro m673 a673 w673 ⟨q, hm673, F673, S673, hq, hpq⟩ K673 hK673
                                      by_cases hlt_q : q < ((partsF cs[k]) ++ cs[k].fArgs).length
                                      · have hc_q : decide ((↑q : Int) < ↑(((partsF cs[k]) ++ cs[k].fArgs).length)) = true := by first | (simp; done) | (simp; omega)
                                        obtain ⟨ad674, hA674⟩ := (S673.tw1 0 rfl).addr (by first | (simp [strs]; done) | (simp [strs]; omega) | (rw [strs_len]; omega))
                                        have hsx0 : ((partsF cs[k]) ++ cs[k].fArgs)[q] ∈ ((partsF cs[k]) ++ cs[k].fArgs) := List.getElem_mem hlt_q
                                        have hsz3 := hsz2 _ (List.mem_append_left _ hsx0)
                                        have hsx := shortS_sz (shortB_mem hshk (List.mem_append_left _ hsx0))
                                        refine wp_seq_k fun K675 hK675 => ?_
                                        refine wp_region_lit ?_
                                        refine op_q F673 (.bool (decide ((↑q : Int) < ↑(((partsF cs[k]) ++ cs[k].fArgs).length)))) ?_; intro a676 F676
                                        have F677 := F676.sb 170 (by kernel_rfl) hc_q
                                        refine wpList_nil ?_
                                        refine hK675 _ _ ?_; clear hK675 K675
                                        refine wp_seq_k fun K678 hK678 => ?_
                                        refine wp_cond_true (F677.ev (by kernel_rfl)) ?_
                                        refine wp_skip ?_
                                        refine hK678 _ _ ?_; clear hK678 K678
                                        refine wp_seq_k fun K679 hK679 => ?_
                                        refine wp_block ?_
                                        refine wp_seq_k fun K680 hK680 => ?_
                                        refine wp_region_lit ?_
                                        refine op_rq (v := .pointer (some (ad674.add q))) F677 (r_ix rfl Try.underlying22 1 (by kernel_rfl) (F677.e (.slice A352 (((partsF cs[k]) ++ cs[k].fArgs).length) c352)) hA674 (F677.e (.int .i64 (↑q))) q (by first | rfl | omega | simp) (by first | omega | (simp; done) | (simp; omega)) (by simp only [Nat.mul_one])) ?_; intro a681 F681
                                        refine op_rq (v := .string (((partsF cs[k]) ++ cs[k].fArgs)[q])) F681 (r_ld rfl (F681.e (.pointer (some (ad674.add q)))) (v := .string (((partsF cs[k]) ++ cs[k].fArgs)[q])) ((S673.tw1 0 rfl).elA hA674 (j := q) (by simp only [strs, List.getElem?_map, List.getElem?_eq_getElem hlt_q]; rfl)) Try.underlying9 rfl) ?_; intro a682 F682
                                        refine op_q F682 (.string (((partsF cs[k]) ++ cs[k].fArgs)[q])) ?_; intro a683 F683
                                        refine wpList_nil ?_
                                        refine hK680 _ _ ?_; clear hK680 K680
                                        refine wp_seq_k fun K684 hK684 => ?_
                                        refine wp_region_lit ?_
                                        refine op_q F683 (.string (((partsF cs[k]) ++ cs[k].fArgs)[q])) ?_; intro a685 F685
                                        refine op_cq F685 (f := 28) (args := #[.string (((partsF cs[k]) ++ cs[k].fArgs)[q]), .string ⟨#[36, 95, 45]⟩]) (hlAll_any (((partsF cs[k]) ++ cs[k].fArgs)[q]) ⟨#[36, 95, 45]⟩ _ (by omega) (by decide)) ?_
                                        rintro _ _ ⟨rfl, rfl⟩
                                        refine ⟨_, rfl, ?_⟩
                                        intro a687 F687
                                        refine op_q F687 (.bool (!(allB (((partsF cs[k]) ++ cs[k].fArgs)[q]) ⟨#[36, 95, 45]⟩))) ?_; intro a688 F688
                                        refine op_q F688 (.bool (!(allB (((partsF cs[k]) ++ cs[k].fArgs)[q]) ⟨#[36, 95, 45]⟩))) ?_; intro a689 F689
                                        rcases btf (allB (((partsF cs[k]) ++ cs[k].fArgs)[q]) ⟨#[36, 95, 45]⟩) with hc690 | hc690
                                        · have F691 := F689.sb 174 (by kernel_rfl) hc690
                                          have F692 := F691.sb 175 (by kernel_rfl) (show (!(allB (((partsF cs[k]) ++ cs[k].fArgs)[q]) ⟨#[36, 95, 45]⟩)) = false by rw [hc690]; rfl)
                                          have F693 := F692.sb 176 (by kernel_rfl) (show (!(allB (((partsF cs[k]) ++ cs[k].fArgs)[q]) ⟨#[36, 95, 45]⟩)) = false by rw [hc690]; rfl)
                                          refine op_wq F693 ?_
                                          refine op_q F693 (.string (((partsF cs[k]) ++ cs[k].fArgs)[q])) ?_; intro a694 F694
                                          refine op_wq F694 ?_
                                          refine op_q F694 (.slice (E) (xs.length) (ce)) ?_; intro a695 F695
                                          refine op_wq F695 ?_
                                          refine op_cq F695 (f := 22) (args := #[.string (((partsF cs[k]) ++ cs[k].fArgs)[q]), .slice (E) (xs.length) (ce)]) (hlExpanded_any E ce xs (((partsF cs[k]) ++ cs[k].fArgs)[q]) _ _ _ S673 (fun w S => h0 w S.drop.drop) (by first | omega | (simp; done) | (simp; omega)) hM (by first | exact hsx.2 | exact hex_.2)) ?_
                                          rintro _ w696 ⟨rfl, S696⟩
                                          refine ⟨_, rfl, ?_⟩
                                          intro a697 F697
                                          refine op_wq F697 ?_
                                          refine op_q F697 (.bool ((exF xs (((partsF cs[k]) ++ cs[k].fArgs)[q]) 0).toList == (⟨#[]⟩ : ByteArray).toList)) ?_; intro a698 F698
                                          refine op_q F698 (.bool ((exF xs (((partsF cs[k]) ++ cs[k].fArgs)[q]) 0).toList == (⟨#[]⟩ : ByteArray).toList)) ?_; intro a699 F699
                                          refine wpList_nil ?_
                                          refine hK684 _ _ ?_; clear hK684 K684
                                          rcases btf ((exF xs (((partsF cs[k]) ++ cs[k].fArgs)[q]) 0).toList == (⟨#[]⟩ : ByteArray).toList) with hc700 | hc700
                                          · have F701 := F699.sb 180 (by kernel_rfl) hc700
                                            have F702 := F701.sb 181 (by kernel_rfl) hc700
                                            refine wp_cond_true (F702.ev (by kernel_rfl)) ?_
                                            refine wp_seq_k fun K703 hK703 => ?_
                                            refine wp_region_lit ?_
                                            refine op_q F702 (.bool true) ?_; intro a704 F704
                                            refine wpList_nil ?_
                                            refine hK703 _ _ ?_; clear hK703 K703
                                            refine wp_ret ?_
                                            refine ret_in ?_
                                            refine ret_then ?_
                                            refine ret_then ?_
                                            refine ret_in ?_
                                            refine ret_in ?_
                                            refine ret_then ?_
                                            refine ret_then ?_
                                            refine ret_in ?_
                                            refine ret_then ?_
                                            refine (F704.res1 rfl (v := .bool true) (by kernel_rfl) ?_).1
                                            exact ⟨rfl, S696.drop.drop⟩
                                          · have F705 := F699.sb 180 (by kernel_rfl) hc700
                                            have F706 := F705.sb 181 (by kernel_rfl) hc700
                                            refine wp_cond_false (F706.ev (by kernel_rfl)) ?_
                                            refine wp_skip ?_
                                            refine hK679 _ _ ?_; clear hK679 K679
                                            refine wp_region_lit ?_
                                            refine op_rq (v := .int .i64 (↑(q + 1))) F706 (r_add (z := ↑(q + 1)) rfl (F706.e (.int .i64 (↑q))) (F706.e (.int .i64 1)) (wr64 (by omega) (by omega) (by omega))) ?_; intro a707 F707
                                            refine op_q F707 (.int .i64 (↑(q + 1))) ?_; intro a708 F708
                                            refine wpList_nil ?_
                                            exact hK673 _ _ _ (by first | omega | (simp; omega)) ⟨q + 1, rfl, (F708.kk 0 (F708.kk 1 (F708.kk 2 (F708.kk 3 (F708.kk 4 (F708.kk 5 (F708.kk 17 (F708.kk 100 (F708.kk 101 (F708.kk 102 (F708.kk 167 (F708.kk 168 (F708.kk 169 F708.nil))))))))))))), S696.p1.p1, (by first | omega | (with_reducible assumption) | (simp; done)), (fun j hj h => (Nat.lt_succ_iff_lt_or_eq.1 h).elim (hpq j hj) (fun e => by subst e; exact exF_nil hc700))⟩
                                        · have F709 := F689.sb 174 (by kernel_rfl) hc690
                                          have F710 := F709.sb 175 (by kernel_rfl) (show (!(allB (((partsF cs[k]) ++ cs[k].fArgs)[q]) ⟨#[36, 95, 45]⟩)) = true by rw [hc690]; rfl)
                                          have F711 := F710.sb 176 (by kernel_rfl) (show (!(allB (((partsF cs[k]) ++ cs[k].fArgs)[q]) ⟨#[36, 95, 45]⟩)) = true by rw [hc690]; rfl)
                                          refine op_kq F711 ?_; intro a712 F712
                                          refine op_kq F712 ?_; intro a713 F713
                                          refine op_kq F713 ?_; intro a714 F714
                                          refine op_kq F714 ?_; intro a715 F715
                                          refine op_q F715 (.bool true) ?_; intro a716 F716
                                          refine wpList_nil ?_
                                          refine hK684 _ _ ?_; clear hK684 K684
                                          refine wp_cond_true (F716.ev (by kernel_rfl)) ?_
                                          refine wp_seq_k fun K717 hK717 => ?_
                                          refine wp_region_lit ?_
                                          refine op_q F716 (.bool true) ?_; intro a718 F718
                                          refine wpList_nil ?_
                                          refine hK717 _ _ ?_; clear hK717 K717
                                          refine wp_ret ?_
                                          refine ret_in ?_
                                          refine ret_then ?_
                                          refine ret_then ?_
                                          refine ret_in ?_
                                          refine ret_in ?_
                                          refine ret_then ?_
                                          refine ret_then ?_
                                          refine ret_in ?_
                                          refine ret_then ?_
                                          refine (F718.res1 rfl (v := .bool true) (by kernel_rfl) ?_).1
                                          exact ⟨rfl, S673.drop.drop⟩
                                      · have hc_q : decide ((↑q : Int) < ↑(((partsF cs[k]) ++ cs[k].fArgs).length)) = false := by first | (simp; done) | (simp; omega)
                                        have hpp := pp_all (by omega) hpq
                                        refine wp_seq_k fun K719 hK719 => ?_
                                        refine wp_region_lit ?_
                                        refine op_q F673 (.bool (decide ((↑q : Int) < ↑(((partsF cs[k]) ++ cs[k].fArgs).length)))) ?_; intro a720 F720
                                        have F721 := F720.sb 170 (by kernel_rfl) hc_q
                                        refine wpList_nil ?_
                                        refine hK719 _ _ ?_; clear hK719 K719
                                        refine wp_seq_k fun K722 hK722 => ?_
                                        refine wp_cond_false (F721.ev (by kernel_rfl)) ?_
                                        refine wp_exit ?_
                                        refine ex_then ?_; clear hK722 K722
                                        refine ex_then ?_
                                        refine ex_in ?_
                                        refine hK273 _ _ ?_; clear hK273 K273
                                        refine wp_region_lit ?_
                                        refine op_rq (v := .int .i64 (↑(k + 1))) F721 (r_add (z := ↑(k + 1)) rfl (F721.e (.int .i64 (↑k))) (F721.e (.int .i64 1)) (wr64 (by omega) (by omega) (by omega))) ?_; intro a723 F723
                                        refine op_q F723 (.int .i64 (↑(k + 1))) ?_; intro a724 F724
                                        refine wpList_nil ?_
                                        exact hK266 _ _ _ (by first | omega | (simp; omega)) ⟨k + 1, rfl, (F724.kk 0 (F724.kk 1 (F724.kk 2 (F724.kk 3 (F724.kk 4 (F724.kk 5 (F724.kk 100 (F724.kk 101 (F724.kk 102 F724.nil))))))))), S673.drop.drop, (by first | omega | (with_reducible assumption) | (simp; done)), (fun j hj h => (Nat.lt_succ_iff_lt_or_eq.1 h).elim (hok j hj) (fun e => by subst e; exact ⟨hoO, hoA, hshk, hpp, by omega, by omega⟩))⟩
                            · have hc_k : decide ((↑k : Int) < ↑cs.length) = false := by first | (simp; done) | (simp; omega)
                              have hall := okc_all (by omega) hok
                              refine wp_seq_k fun K725 hK725 => ?_
                              refine wp_region_lit ?_
                              refine op_q F266 (.bool (decide ((↑k : Int) < ↑cs.length))) ?_; intro a726 F726
                              have F727 := F726.sb 103 (by kernel_rfl) hc_k
                              refine wpList_nil ?_
                              refine hK725 _ _ ?_; clear hK725 K725
                              refine wp_seq_k fun K728 hK728 => ?_
                              refine wp_cond_false (F727.ev (by kernel_rfl)) ?_
                              refine wp_exit ?_
                              refine ex_then ?_; clear hK728 K728
                              refine ex_then ?_
                              refine ex_in ?_
                              refine hK261 _ _ ?_; clear hK261 K261
                              refine wp_seq_k fun K729 hK729 => ?_
                              rcases hpk : pickF os arch cs with _ | c
                              · refine wp_region_lit ?_
                                refine op_q F727 (.string os) ?_; intro a730 F730
                                refine op_q F730 (.string arch) ?_; intro a731 F731
                                refine op_q F731 (.slice (E) (xs.length) (ce)) ?_; intro a732 F732
                                refine op_q F732 (.slice (A) (cs.length) (d)) ?_; intro a733 F733
                                refine op_q F733 (.bool ig) ?_; intro a734 F734
                                refine op_q F734 (.slice (B) (extra.length) (db)) ?_; intro a735 F735
                                have hcz := fun x hx => okc_sz (hall x hx)
                                have hca := fun x hx => okc_asc (hall x hx)
                                refine op_cq F735 (f := 56) (args := #[.string os, .string arch, .slice (E) (xs.length) (ce), .slice (A) (cs.length) (d), .string ⟨#[]⟩, .bool ig, .slice (B) (extra.length) (db)]) (plugCmd_none os arch E ce xs A d cs ⟨#[]⟩ ig B db extra _ _ _ S266 h0 h2 h4 (by first | omega | (simp; done) | (simp; omega)) (by first | omega | (simp; done) | (simp; omega)) (by first | exact hoa) (by first | exact haa) hcz hca (by first | omega | (simp; done) | (simp; omega)) (by first | omega | (simp; done) | (simp; omega)) hpk) ?_
                                rintro _ w736 ⟨rfl, S736⟩
                                refine ⟨_, rfl, ?_⟩
                                intro a737 F737
                                refine op_q F737 (.tuple #[.string ⟨#[]⟩, .slice none 0 0, .int .i64 1]) ?_; intro a738 F738
                                refine op_q F738 (.string ⟨#[]⟩) ?_; intro a739 F739
                                refine op_q F739 (.slice none 0 0) ?_; intro a740 F740
                                refine op_q F740 (.int .i64 1) ?_; intro a741 F741
                                refine op_q F741 (.string ⟨#[]⟩) ?_; intro a742 F742
                                refine op_q F742 (.slice none 0 0) ?_; intro a743 F743
                                refine op_q F743 (.int .i64 1) ?_; intro a744 F744
                                refine wpList_nil ?_
                                refine hK729 _ _ ?_; clear hK729 K729
                                refine wp_seq_k fun K745 hK745 => ?_
                                refine wp_region_lit ?_
                                refine op_q F744 (.string os) ?_; intro a746 F746
                                refine op_q F746 (.string arch) ?_; intro a747 F747
                                refine op_q F747 (.slice (A) (cs.length) (d)) ?_; intro a748 F748
                                refine op_cq F748 (f := 57) (args := #[.string os, .string arch, .slice (A) (cs.length) (d)]) (hlCommand_none os arch A d cs _ _ _ S736 h2 (fits54_sz hf54) hpk) ?_
                                rintro _ w749 ⟨c749, rfl, S749⟩
                                refine ⟨_, rfl, ?_⟩
                                intro a750 F750
                                refine op_q F750 (.tuple #[.agg #[.string c749.fOS, .string c749.fArch, .string c749.fCommand, .slice c749.fArgs_a c749.fArgs.length c749.fArgs_c], .bool false]) ?_; intro a751 F751
                                refine op_q F751 (.agg #[.string c749.fOS, .string c749.fArch, .string c749.fCommand, .slice c749.fArgs_a c749.fArgs.length c749.fArgs_c]) ?_; intro a752 F752
                                refine op_q F752 (.bool false) ?_; intro a753 F753
                                refine op_sq F753 (s_newp F753 110 #[.string ⟨#[]⟩, .string ⟨#[]⟩, .string ⟨#[]⟩, .slice none 0 0] (by kernel_rfl) (by kernel_rfl) (by kernel_rfl) S749) ?_
                                rintro _ _ w755 ⟨g753, rfl, rfl⟩ S755 a755 F755
                                refine op_sq0 F755 (s_stb rfl (F755.e (.pointer (some ⟨g753, 0, none⟩))) (F755.e (.agg #[.string c749.fOS, .string c749.fArch, .string c749.fCommand, .slice c749.fArgs_a c749.fArgs.length c749.fArgs_c])) S755 (by kernel_rfl) rfl (by kernel_rfl)) ?_
                                rintro _ _ w756 rfl S756 F756
                                refine op_q F756 (.bool false) ?_; intro a757 F757
                                refine wpList_nil ?_
                                refine hK745 _ _ ?_; clear hK745 K745
                                refine wp_seq_k fun K758 hK758 => ?_
                                refine wp_seq_k fun K759 hK759 => ?_
                                refine wp_region_lit ?_
                                refine op_q F757 (.bool false) ?_; intro a760 F760
                                refine op_q F760 (.bool true) ?_; intro a761 F761
                                refine wpList_nil ?_
                                refine hK759 _ _ ?_; clear hK759 K759
                                refine wp_cond_true (F761.ev (by kernel_rfl)) ?_
                                refine wp_seq_k fun K762 hK762 => ?_
                                refine wp_region_lit ?_
                                refine op_q F761 (.int .i64 1) ?_; intro a763 F763
                                refine op_q F763 (.bool true) ?_; intro a764 F764
                                refine op_q F764 (.bool true) ?_; intro a765 F765
                                refine op_wq F765 ?_
                                refine op_cq F765 (f := 23) (args := #[]) (hlLives_any  _ ) ?_
                                rintro _ w766 ⟨rfl, hb_766⟩
                                refine ⟨_, rfl, ?_⟩
                                intro a767 F767
                                have S766 := S756.below hb_766
                                refine op_q F767 (.bool true) ?_; intro a768 F768
                                refine op_q F768 (.bool true) ?_; intro a769 F769
                                refine wpList_nil ?_
                                refine hK762 _ _ ?_; clear hK762 K762
                                refine wp_ret ?_
                                refine ret_then ?_
                                refine (F769.res1 rfl (v := .bool true) (by kernel_rfl) ?_).1
                                exact ⟨rfl, S766.drop⟩
                              · refine wp_region_lit ?_
                                refine op_q F727 (.string os) ?_; intro a770 F770
                                refine op_q F770 (.string arch) ?_; intro a771 F771
                                refine op_q F771 (.slice (E) (xs.length) (ce)) ?_; intro a772 F772
                                refine op_q F772 (.slice (A) (cs.length) (d)) ?_; intro a773 F773
                                refine op_q F773 (.bool ig) ?_; intro a774 F774
                                refine op_q F774 (.slice (B) (extra.length) (db)) ?_; intro a775 F775
                                obtain ⟨p0, ps, hps, h00, hpz, haz, hn1, hn2⟩ := okc_parts (hall c (pick_mem hpk))
                                have hcz := fun x hx => okc_sz (hall x hx)
                                have hca := fun x hx => okc_asc (hall x hx)
                                have hn3 : extra.length ≤ 10000 := by omega
                                have hcl : 0 < cs.length := List.length_pos_of_mem (pick_mem hpk)
                                have hargc : Rf R L fun w => Sl w c.fArgs_a (strs c.fArgs) := fun w S => Ty110.ok_sArgs (h3 w S c (pick_mem hpk))
                                have hplc : (partsF c).length ≤ 10001 := by rw [hps]; simp; omega
                                have hplc2 : ((partsF c) ++ c.fArgs).length = (partsF c).length + c.fArgs.length := List.length_append
                                have hczc := (hcz c (pick_mem hpk)).2.2
                                refine op_cq F775 (f := 56) (args := #[.string os, .string arch, .slice (E) (xs.length) (ce), .slice (A) (cs.length) (d), .string ⟨#[]⟩, .bool ig, .slice (B) (extra.length) (db)]) (plugCmd_some os arch E ce xs A d cs ⟨#[]⟩ ig B db extra c p0 ps _ _ _ S266 h0 h2 h4 hargc (by first | omega | (simp; done) | (simp; omega)) (by first | omega | (simp; done) | (simp; omega)) (by first | exact hoa) (by first | exact haa) hcz hca hM (by first | omega | (simp; done) | (simp; omega)) (by first | omega | (simp; done) | (simp; omega)) hpk hps h00 hpz haz (by refine ⟨by omega, by omega, ?_⟩; first | omega | simp)) ?_
                                rintro _ w776 ⟨Ar776, cr776, rs776, rfl, S776, hp0_776⟩
                                refine ⟨_, rfl, ?_⟩
                                intro a777 F777
                                refine op_q F777 (.tuple #[.string (exF xs p0 0), .slice Ar776 rs776.length cr776, .int .i64 0]) ?_; intro a778 F778
                                refine op_q F778 (.string (exF xs p0 0)) ?_; intro a779 F779
                                refine op_q F779 (.slice Ar776 rs776.length cr776) ?_; intro a780 F780
                                refine op_q F780 (.int .i64 0) ?_; intro a781 F781
                                refine op_q F781 (.string (exF xs p0 0)) ?_; intro a782 F782
                                refine op_q F782 (.slice Ar776 rs776.length cr776) ?_; intro a783 F783
                                refine op_q F783 (.int .i64 0) ?_; intro a784 F784
                                refine wpList_nil ?_
                                refine hK729 _ _ ?_; clear hK729 K729
                                refine wp_seq_k fun K785 hK785 => ?_
                                refine wp_region_lit ?_
                                refine op_q F784 (.string os) ?_; intro a786 F786
                                refine op_q F786 (.string arch) ?_; intro a787 F787
                                refine op_q F787 (.slice (A) (cs.length) (d)) ?_; intro a788 F788
                                have hrsl : rs776.length ≤ 1000000 := by rw [hp0_776]; simp only [exs, List.length_append, List.length_map]; split <;> (try simp) <;> omega
                                refine op_cq F788 (f := 57) (args := #[.string os, .string arch, .slice (A) (cs.length) (d)]) (hlCommand_some os arch A d cs c _ _ _ S776 (fun w S => h2 w S.drop) (fits54_sz hf54) hpk) ?_
                                rintro _ w789 ⟨rfl, S789⟩
                                refine ⟨_, rfl, ?_⟩
                                intro a790 F790
                                refine op_q F790 (.tuple #[.agg #[.string c.fOS, .string c.fArch, .string c.fCommand, .slice (c.fArgs_a) (c.fArgs.length) (c.fArgs_c)], .bool true]) ?_; intro a791 F791
                                refine op_q F791 (.agg #[.string c.fOS, .string c.fArch, .string c.fCommand, .slice (c.fArgs_a) (c.fArgs.length) (c.fArgs_c)]) ?_; intro a792 F792
                                refine op_q F792 (.bool true) ?_; intro a793 F793
                                refine op_sq F793 (s_newp F793 110 #[.string ⟨#[]⟩, .string ⟨#[]⟩, .string ⟨#[]⟩, .slice none 0 0] (by kernel_rfl) (by kernel_rfl) (by kernel_rfl) S789) ?_
                                rintro _ _ w795 ⟨g793, rfl, rfl⟩ S795 a795 F795
                                refine op_sq0 F795 (s_stb rfl (F795.e (.pointer (some ⟨g793, 0, none⟩))) (F795.e (.agg #[.string c.fOS, .string c.fArch, .string c.fCommand, .slice (c.fArgs_a) (c.fArgs.length) (c.fArgs_c)])) S795 (by kernel_rfl) rfl (by kernel_rfl)) ?_
                                rintro _ _ w796 rfl S796 F796
                                refine op_q F796 (.bool true) ?_; intro a797 F797
                                refine wpList_nil ?_
                                refine hK785 _ _ ?_; clear hK785 K785
                                refine wp_seq_k fun K798 hK798 => ?_
                                refine wp_seq_k fun K799 hK799 => ?_
                                refine wp_region_lit ?_
                                refine op_q F797 (.bool true) ?_; intro a800 F800
                                refine op_q F800 (.bool false) ?_; intro a801 F801
                                refine wpList_nil ?_
                                refine hK799 _ _ ?_; clear hK799 K799
                                refine wp_cond_false (F801.ev (by kernel_rfl)) ?_
                                refine wp_skip ?_
                                refine hK798 _ _ ?_; clear hK798 K798
                                refine wp_seq_k fun K802 hK802 => ?_
                                refine wp_region_lit ?_
                                refine op_q F801 (.slice none 0 0) ?_; intro a803 F803
                                refine wpList_nil ?_
                                refine hK802 _ _ ?_; clear hK802 K802
                                refine wp_seq_k fun K804 hK804 => ?_
                                refine wp_seq_k fun K805 hK805 => ?_
                                refine wp_region_sepD (L0 := SA.blk g793 110 #[.string c.fOS, .string c.fArch, .string c.fCommand, .slice (c.fArgs_a) (c.fArgs.length) (c.fArgs_c)] :: SA.own (.slice Ar776 rs776.length cr776) 9 1 rs776.length (strs rs776) :: L) [some [], some [(0, 209)], some [(0, 209), (1, 210)], some [], some [(3, 212)], some [(0, 209), (1, 210), (2, 211), (3, 212), (4, 213)], some [(0, 209), (1, 210), (2, 211), (3, 212), (4, 213), (5, 214)], some []] [(SA.emp, fun _ v A => v = .pointer (some ⟨g793, 2, none⟩) ∧ A = SA.emp), (SA.emp, fun _ v A => v = .string c.fCommand ∧ A = SA.emp), (SA.emp, fun _ v A => ∃ A837 : Option Addr, ∃ c837 : Nat, v = .slice A837 ((partsF c).length) c837 ∧ A = SA.own (.slice A837 (partsF c).length c837) 9 1 ((partsF c).length) (strs (partsF c))), (SA.emp, fun _ v A => v = .pointer (some ⟨g793, 3, none⟩) ∧ A = SA.emp), (SA.emp, fun _ v A => v = .slice (c.fArgs_a) (c.fArgs.length) (c.fArgs_c) ∧ A = SA.emp), (SA.emp, fun _ v A => ∃ A847 : Option Addr, ∃ c847 : Nat, v = .slice A847 (((partsF c) ++ c.fArgs).length) c847 ∧ A = SA.own (.slice A847 (((partsF c) ++ c.fArgs).length) c847) 9 1 (((partsF c) ++ c.fArgs).length) (strs ((partsF c) ++ c.fArgs))), (SA.emp, fun _ v A => v = .int .i64 (↑(((partsF c) ++ c.fArgs).length)) ∧ A = SA.emp), (SA.emp, fun _ v A => v = .int .i64 0 ∧ A = SA.emp)] 247 [(5, 2)] rfl F803.size rfl (by kernel_rfl) (by kernel_rfl) S796.emp.emp.emp.emp.emp.emp.emp.emp.p1.p2.p3.p4.p5.p6.p7 ?_ ?_
                                · refine ⟨?_, ?_, ?_, ?_, ?_, ?_, ?_, ?_, trivial⟩
                                  · intro w831 M831
                                    refine depsD_nil ?_
                                    intro S831
                                    refine obl_of (by rfl) ?_
                                    exact s_p F803 (v := .pointer (some ⟨g793, 2, none⟩)) (by kernel_rfl) (by kernel_rfl) (by kernel_rfl) S831
                                  · intro w832 M832
                                    rintro _ _ ⟨rfl, rfl⟩ hA833
                                    have F833 := F803.put (d := 209) (v := .pointer (some ⟨g793, 2, none⟩)) (by decide)
                                    refine depsD_nil ?_
                                    intro S832
                                    refine obl_of (by rfl) ?_
                                    exact s_r (v := .string c.fCommand) (r_ld rfl (F833.e (.pointer (some ⟨g793, 2, none⟩))) (v := .string c.fCommand) (((Sp.dropM S832.drop).bk 0 rfl).cell 2) Try.underlying9 rfl) S832
                                  · intro w834 M834
                                    rintro _ _ ⟨rfl, rfl⟩ hA835
                                    have F835 := F803.put (d := 209) (v := .pointer (some ⟨g793, 2, none⟩)) (by decide)
                                    rintro _ _ ⟨rfl, rfl⟩ hA836
                                    have F836 := F835.put (d := 210) (v := .string c.fCommand) (by decide)
                                    refine depsD_nil ?_
                                    intro S834
                                    refine obl_of (by rfl) ?_
                                    refine s_c F836 (f := 55) (args := #[.string c.fCommand]) (by kernel_rfl) (by kernel_rfl) (by kernel_rfl) (hlParts_any c.fCommand (partsF c) _ _ _ S834.drop (by first | omega | (simp; done) | (simp; omega)) rfl) ?_
                                    rintro _ _ ⟨A837, c837, rfl, S837⟩
                                    exact ⟨_, _, rfl, ⟨A837, c837, rfl, rfl⟩, S837⟩
                                  · intro w838 M838
                                    refine depsD_nil ?_
                                    intro S838
                                    refine obl_of (by rfl) ?_
                                    exact s_p F803 (v := .pointer (some ⟨g793, 3, none⟩)) (by kernel_rfl) (by kernel_rfl) (by kernel_rfl) S838
                                  · intro w839 M839
                                    rintro _ _ ⟨rfl, rfl⟩ hA840
                                    have F840 := F803.put (d := 212) (v := .pointer (some ⟨g793, 3, none⟩)) (by decide)
                                    refine depsD_nil ?_
                                    intro S839
                                    refine obl_of (by rfl) ?_
                                    exact s_r (v := .slice (c.fArgs_a) (c.fArgs.length) (c.fArgs_c)) (r_ld rfl (F840.e (.pointer (some ⟨g793, 3, none⟩))) (v := .slice (c.fArgs_a) (c.fArgs.length) (c.fArgs_c)) (((Sp.dropM S839.drop).bk 0 rfl).cell 3) Try.underlying22 rfl) S839
                                  · intro w841 M841
                                    rintro _ _ ⟨rfl, rfl⟩ hA842
                                    have F842 := F803.put (d := 209) (v := .pointer (some ⟨g793, 2, none⟩)) (by decide)
                                    rintro _ _ ⟨rfl, rfl⟩ hA843
                                    have F843 := F842.put (d := 210) (v := .string c.fCommand) (by decide)
                                    rintro _ _ ⟨A837, c837, rfl, rfl⟩
                                    have F844 := F843.put (d := 211) (v := .slice A837 ((partsF c).length) c837) (by decide)
                                    rintro _ _ ⟨rfl, rfl⟩ hA845
                                    have F845 := F844.put (d := 212) (v := .pointer (some ⟨g793, 3, none⟩)) (by decide)
                                    rintro _ _ ⟨rfl, rfl⟩ hA846
                                    have F846 := F845.put (d := 213) (v := .slice (c.fArgs_a) (c.fArgs.length) (c.fArgs_c)) (by decide)
                                    refine depsD_nil ?_
                                    intro S841
                                    refine obl_of (by rfl) ?_
                                    exact s_app rfl Try.underlying22 1 _ tin9 rfl rfl (F846.e (.slice A837 ((partsF c).length) c837)) S841.swap.drop (strs c.fArgs) (F846.e (.slice (c.fArgs_a) (c.fArgs.length) (c.fArgs_c))) (hargc _ (Sp.dropM S841.drop.drop).drop.drop) (by first | (simp [strs, ptrs]; done) | (simp [strs, ptrs]; omega)) (by intro u hu; obtain ⟨x, _, rfl⟩ := List.mem_map.1 hu; rfl) (by omega) (by omega) (n' := ((partsF c) ++ c.fArgs).length) (by first | (simp; done) | (simp; omega)) (cs' := strs ((partsF c) ++ c.fArgs)) (by simp [strs])
                                  · intro w848 M848
                                    rintro _ _ ⟨rfl, rfl⟩ hA849
                                    have F849 := F803.put (d := 209) (v := .pointer (some ⟨g793, 2, none⟩)) (by decide)
                                    rintro _ _ ⟨rfl, rfl⟩ hA850
                                    have F850 := F849.put (d := 210) (v := .string c.fCommand) (by decide)
                                    rintro _ _ ⟨A837, c837, rfl, rfl⟩
                                    have F851 := F850.put (d := 211) (v := .slice A837 ((partsF c).length) c837) (by decide)
                                    rintro _ _ ⟨rfl, rfl⟩ hA852
                                    have F852 := F851.put (d := 212) (v := .pointer (some ⟨g793, 3, none⟩)) (by decide)
                                    rintro _ _ ⟨rfl, rfl⟩ hA853
                                    have F853 := F852.put (d := 213) (v := .slice (c.fArgs_a) (c.fArgs.length) (c.fArgs_c)) (by decide)
                                    rintro _ _ ⟨A847, c847, rfl, rfl⟩ hA854
                                    have F854 := F853.put (d := 214) (v := .slice A847 (((partsF c) ++ c.fArgs).length) c847) (by decide)
                                    refine depsD_nil ?_
                                    intro S848
                                    refine obl_of (by rfl) ?_
                                    exact s_p F854 (v := .int .i64 (↑(((partsF c) ++ c.fArgs).length))) (by kernel_rfl) (by kernel_rfl) (by kernel_rfl) S848
                                  · intro w855 M855
                                    refine depsD_nil ?_
                                    intro S855
                                    refine obl_of (by rfl) ?_
                                    exact s_p F803 (v := .int .i64 0) (by kernel_rfl) (by kernel_rfl) (by kernel_rfl) S855
                                · rintro _ _ ⟨rfl, rfl⟩
                                  have F857 := F803.put (d := 209) (v := .pointer (some ⟨g793, 2, none⟩)) (by decide)
                                  rintro _ _ ⟨rfl, rfl⟩
                                  have F858 := F857.put (d := 210) (v := .string c.fCommand) (by decide)
                                  rintro _ _ ⟨A837, c837, rfl, rfl⟩
                                  have F859 := F858.put (d := 211) (v := .slice A837 ((partsF c).length) c837) (by decide)
                                  rintro _ _ ⟨rfl, rfl⟩
                                  have F860 := F859.put (d := 212) (v := .pointer (some ⟨g793, 3, none⟩)) (by decide)
                                  rintro _ _ ⟨rfl, rfl⟩
                                  have F861 := F860.put (d := 213) (v := .slice (c.fArgs_a) (c.fArgs.length) (c.fArgs_c)) (by decide)
                                  rintro _ _ ⟨A847, c847, rfl, rfl⟩
                                  have F862 := F861.put (d := 214) (v := .slice A847 (((partsF c) ++ c.fArgs).length) c847) (by decide)
                                  rintro _ _ ⟨rfl, rfl⟩
                                  have F863 := F862.put (d := 215) (v := .int .i64 (↑(((partsF c) ++ c.fArgs).length))) (by decide)
                                  rintro _ _ ⟨rfl, rfl⟩
                                  have F864 := F863.put (d := 216) (v := .int .i64 0) (by decide)
                                  intro w856 S856
                                  have S865 := S856.drop
                                  have S866 := S865.drop
                                  have S867 := S866.p1.drop
                                  have S868 := S867.p1.drop
                                  have S869 := S868.p1.drop
                                  have S870 := S869.p1.drop
                                  have S871 := S870.p1.drop
                                  refine wpList_nil ?_
                                  refine hK805 _ _ ?_; clear hK805 K805
                                  refine wp_block ?_
                                  refine fw_loop (fun m a' w' => ∃ Ac : Option Addr, ∃ cc : Nat, ∃ es : List ByteArray, ∃ z : Nat, ((partsF c) ++ c.fArgs).length - z = m ∧ Fr 247 [] a' [(2, .slice (E) (xs.length) (ce)), (4, .bool ig), (5, .slice (B) (extra.length) (db)), (20, .string (exF xs p0 0)), (21, .slice Ar776 rs776.length cr776), (22, .int .i64 0), (25, .slice Ac es.length cc), (214, .slice A847 (((partsF c) ++ c.fArgs).length) c847), (215, .int .i64 (↑(((partsF c) ++ c.fArgs).length))), (216, .int .i64 (↑z))] ∧ Sp R w' (SA.own (.slice Ac es.length cc) 9 1 es.length (strs es) :: SA.own (.slice A847 (((partsF c) ++ c.fArgs).length) c847) 9 1 (((partsF c) ++ c.fArgs).length) (strs ((partsF c) ++ c.fArgs)) :: SA.blk g793 110 #[.string c.fOS, .string c.fArch, .string c.fCommand, .slice (c.fArgs_a) (c.fArgs.length) (c.fArgs_c)] :: SA.own (.slice Ar776 rs776.length cr776) 9 1 rs776.length (strs rs776) :: L) ∧ (z ≤ ((partsF c) ++ c.fArgs).length) ∧ (es = exs xs (((partsF c) ++ c.fArgs).take z)) ∧ (es.length = z)) _ ⟨none, 0, [], 0, rfl, (F864.kk 2 (F864.kk 4 (F864.kk 5 (F864.kk 20 (F864.kk 21 (F864.kk 22 (F864.kk 25 (F864.kk 214 (F864.kk 215 (F864.kk 216 F864.nil)))))))))), (Sp.nilown S871), (by first | omega | (with_reducible assumption) | (simp; done)), rfl, rfl⟩ ?_
                                  rintro m872 a872 w872 ⟨Ac, cc, es, z, hm872, F872, S872, hmk, hes, hel⟩ K872 hK872
                                  by_cases hlt_z : z < ((partsF c) ++ c.fArgs).length
                                  · have hc_z : decide ((↑z : Int) < ↑(((partsF c) ++ c.fArgs).length)) = true := by first | (simp; done) | (simp; omega)
                                    obtain ⟨ad873, hA873⟩ := (own_sl1 (S872.ow 1 rfl) (by first | omega | (simp; omega))).addr (by rw [strs_len]; omega)
                                    have hcm0 : ((partsF c) ++ c.fArgs)[z] ∈ partsF c ++ c.fArgs := List.getElem_mem hlt_z
                                    have hex_ := shortS_sz (shortB_mem (hall c (pick_mem hpk)).2.2.1 (List.mem_append_left _ hcm0))
                                    have hexz := hex_.1
                                    refine wp_seq_k fun K874 hK874 => ?_
                                    refine wp_region_lit ?_
                                    refine op_q F872 (.bool (decide ((↑z : Int) < ↑(((partsF c) ++ c.fArgs).length)))) ?_; intro a875 F875
                                    have F876 := F875.sb 217 (by kernel_rfl) hc_z
                                    refine wpList_nil ?_
                                    refine hK874 _ _ ?_; clear hK874 K874
                                    refine wp_seq_k fun K877 hK877 => ?_
                                    refine wp_cond_true (F876.ev (by kernel_rfl)) ?_
                                    refine wp_skip ?_
                                    refine hK877 _ _ ?_; clear hK877 K877
                                    refine wp_seq_k fun K878 hK878 => ?_
                                    refine wp_block ?_
                                    refine wp_seq_k fun K879 hK879 => ?_
                                    refine wp_region_lit ?_
                                    refine op_rq (v := .pointer (some (ad873.add z))) F876 (r_ix rfl Try.underlying22 1 (by kernel_rfl) (F876.e (.slice A847 (((partsF c) ++ c.fArgs).length) c847)) hA873 (F876.e (.int .i64 (↑z))) z (by first | rfl | omega | simp) (by first | omega | (simp; done) | (simp; omega)) (by simp only [Nat.mul_one])) ?_; intro a880 F880
                                    refine op_rq (v := .string (((partsF c) ++ c.fArgs)[z])) F880 (r_ld rfl (F880.e (.pointer (some (ad873.add z)))) (v := .string (((partsF c) ++ c.fArgs)[z])) ((own_sl1 (S872.ow 1 rfl) (by first | omega | (simp; omega))).elA hA873 (j := z) (by simp only [strs, List.getElem?_map, List.getElem?_eq_getElem hlt_z]; rfl)) Try.underlying9 rfl) ?_; intro a881 F881
                                    refine op_q F881 (.string (((partsF c) ++ c.fArgs)[z])) ?_; intro a882 F882
                                    refine wpList_nil ?_
                                    refine hK879 _ _ ?_; clear hK879 K879
                                    refine wp_region_lit ?_
                                    refine op_q F882 (.slice Ac es.length cc) ?_; intro a883 F883
                                    refine op_q F883 (.string (((partsF c) ++ c.fArgs)[z])) ?_; intro a884 F884
                                    refine op_q F884 (.slice (E) (xs.length) (ce)) ?_; intro a885 F885
                                    refine op_cq F885 (f := 22) (args := #[.string (((partsF c) ++ c.fArgs)[z]), .slice (E) (xs.length) (ce)]) (hlExpanded_any E ce xs (((partsF c) ++ c.fArgs)[z]) _ _ _ S872 (fun w S => h0 w S.drop.drop.drop.drop) (by first | omega | (simp; done) | (simp; omega)) hM (by first | exact hsx.2 | exact hex_.2)) ?_
                                    rintro _ w886 ⟨rfl, S886⟩
                                    refine ⟨_, rfl, ?_⟩
                                    intro a887 F887
                                    refine op_sq F887 (s_news F887 9 #[.string (exF xs (((partsF c) ++ c.fArgs)[z]) 0)] 1 (by kernel_rfl) (by kernel_rfl) (by kernel_rfl) S886) ?_
                                    rintro _ _ w889 ⟨g887, rfl, rfl⟩ S889 a889 F889
                                    refine op_sq F889 (s_app rfl Try.underlying22 1 _ tin9 rfl rfl (F889.e (.slice Ac es.length cc)) S889.p1 ([Value.string (exF xs (((partsF c) ++ c.fArgs)[z]) 0)]) (F889.e (.slice (some ⟨g887, 0, none⟩) 1 1)) ((S889.bk 0 rfl).sl (by simp)) rfl (by simp [Value.oneCell']) (by omega) (by omega) (n' := (es ++ [exF xs (((partsF c) ++ c.fArgs)[z]) 0]).length) (by first | (simp; done) | (simp; omega)) (cs' := strs (es ++ [exF xs (((partsF c) ++ c.fArgs)[z]) 0])) (by simp [strs])) ?_
                                    rintro _ _ w891 ⟨A890, c890, rfl, rfl⟩ S891 a891 F891
                                    refine op_q F891 (.slice A890 ((es ++ [exF xs (((partsF c) ++ c.fArgs)[z]) 0]).length) c890) ?_; intro a892 F892
                                    refine wpList_nil ?_
                                    refine hK878 _ _ ?_; clear hK878 K878
                                    refine wp_region_lit ?_
                                    refine op_rq (v := .int .i64 (↑(z + 1))) F892 (r_add (z := ↑(z + 1)) rfl (F892.e (.int .i64 (↑z))) (F892.e (.int .i64 1)) (wr64 (by omega) (by omega) (by omega))) ?_; intro a893 F893
                                    refine op_q F893 (.int .i64 (↑(z + 1))) ?_; intro a894 F894
                                    refine wpList_nil ?_
                                    exact hK872 _ _ _ (by first | omega | (simp; omega)) ⟨A890, c890, es ++ [exF xs (((partsF c) ++ c.fArgs)[z]) 0], z + 1, rfl, (F894.kk 2 (F894.kk 4 (F894.kk 5 (F894.kk 20 (F894.kk 21 (F894.kk 22 (F894.kk 25 (F894.kk 214 (F894.kk 215 (F894.kk 216 F894.nil)))))))))), S891.p1.drop.p3.p3.p3.p3, (by first | omega | (with_reducible assumption) | (simp; done)), (by rw [hes, List.take_succ_eq_append_getElem hlt_z]; simp only [exs, List.map_append, List.map_cons, List.map_nil]), (by simp [hel])⟩
                                  · have hc_z : decide ((↑z : Int) < ↑(((partsF c) ++ c.fArgs).length)) = false := by first | (simp; done) | (simp; omega)
                                    obtain rfl : z = ((partsF c) ++ c.fArgs).length := by omega
                                    have hes2 : es = (exF xs p0 0) :: exs xs (ps ++ c.fArgs) := by rw [List.take_of_length_le (by omega)] at hes; rw [hes, hps]; rfl
                                    subst hes2
                                    have hesl : ((exF xs p0 0) :: exs xs (ps ++ c.fArgs)).length ≤ 100000 := by simp [exs]; omega
                                    refine wp_seq_k fun K895 hK895 => ?_
                                    refine wp_region_lit ?_
                                    refine op_q F872 (.bool (decide ((↑((partsF c) ++ c.fArgs).length : Int) < ↑(((partsF c) ++ c.fArgs).length)))) ?_; intro a896 F896
                                    have F897 := F896.sb 217 (by kernel_rfl) hc_z
                                    refine wpList_nil ?_
                                    refine hK895 _ _ ?_; clear hK895 K895
                                    refine wp_seq_k fun K898 hK898 => ?_
                                    refine wp_cond_false (F897.ev (by kernel_rfl)) ?_
                                    refine wp_exit ?_
                                    refine ex_then ?_; clear hK898 K898
                                    refine ex_then ?_
                                    refine ex_in ?_
                                    refine hK804 _ _ ?_; clear hK804 K804
                                    refine wp_seq_k fun K899 hK899 => ?_
                                    refine wp_seq_k fun K900 hK900 => ?_
                                    refine wp_region_lit ?_
                                    refine op_q F897 (.bool ig) ?_; intro a901 F901
                                    refine op_q F901 (.bool (!(ig))) ?_; intro a902 F902
                                    refine wpList_nil ?_
                                    refine hK900 _ _ ?_; clear hK900 K900
                                    rcases btf (ig) with hc903 | hc903
                                    · have F904 := F902.sb 4 (by kernel_rfl) hc903
                                      have F905 := F904.sb 227 (by kernel_rfl) hc903
                                      have F906 := F905.sb 228 (by kernel_rfl) (show (!(ig)) = false by rw [hc903]; rfl)
                                      refine wp_cond_false (F906.ev (by kernel_rfl)) ?_
                                      refine wp_skip ?_
                                      refine hK899 _ _ ?_; clear hK899 K899
                                      refine wp_seq_k fun K907 hK907 => ?_
                                      refine wp_region_lit ?_
                                      refine op_q F906 (.int .i64 0) ?_; intro a908 F908
                                      refine op_q F908 (.bool true) ?_; intro a909 F909
                                      refine op_q F909 (.bool true) ?_; intro a910 F910
                                      refine op_wq F910 ?_
                                      refine op_q F910 (.string (exF xs p0 0)) ?_; intro a911 F911
                                      refine op_wq F911 ?_
                                      refine op_q F911 (.slice Ac ((exF xs p0 0) :: exs xs (ps ++ c.fArgs)).length cc) ?_; intro a912 F912
                                      refine op_wq F912 ?_
                                      obtain ⟨ad913, hA913⟩ := (own_sl1 (S872.ow 0 rfl) (by first | omega | (simp; omega))).addr (by simp [strs])
                                      refine op_rq (v := .pointer (some ad913)) F912 (r_ix rfl Try.underlying22 1 (by kernel_rfl) (F912.e (.slice Ac ((exF xs p0 0) :: exs xs (ps ++ c.fArgs)).length cc)) hA913 (F912.e (.int .i64 0)) 0 (by first | rfl | omega | simp) (by first | omega | (simp; done) | (simp; omega)) (by simp only [Nat.zero_mul, add0])) ?_; intro a914 F914
                                      refine op_wq F914 ?_
                                      refine op_rq (v := .string (exF xs p0 0)) F914 (r_ld rfl (F914.e (.pointer (some ad913))) (v := .string (exF xs p0 0)) ((own_sl1 (S872.ow 0 rfl) (by first | omega | (simp; omega))).elA hA913 (j := 0) rfl) Try.underlying9 rfl) ?_; intro a915 F915
                                      refine op_wq F915 ?_
                                      have hs916 : ((exF xs p0 0).toList == (exF xs p0 0).toList) = true := beq_self_eq_true _
                                      refine op_q F915 (.bool ((exF xs p0 0).toList == (exF xs p0 0).toList)) ?_; intro a917 F917
                                      have F918 := F917.sb 239 (by kernel_rfl) hs916
                                      refine op_q F918 (.bool true) ?_; intro a919 F919
                                      refine op_q F919 (.bool true) ?_; intro a920 F920
                                      refine op_wq F920 ?_
                                      refine op_q F920 (.slice Ar776 rs776.length cr776) ?_; intro a921 F921
                                      refine op_wq F921 ?_
                                      refine op_q F921 (.slice Ac ((exF xs p0 0) :: exs xs (ps ++ c.fArgs)).length cc) ?_; intro a922 F922
                                      refine op_wq F922 ?_
                                      refine op_rq (v := .slice (subA Ac 1 1 cc) ((exs xs (ps ++ c.fArgs)).length) (cc - 1)) F922 (r_slcl rfl Try.underlying22 1 (by kernel_rfl) (F922.e (.slice Ac ((exF xs p0 0) :: exs xs (ps ++ c.fArgs)).length cc)) (F922.e (.int .i64 1)) 1 rfl (by simp)) ?_; intro a923 F923
                                      refine op_wq F923 ?_
                                      refine op_cq F923 (f := 44) (args := #[.slice Ar776 rs776.length cr776, .slice (subA Ac 1 1 cc) ((exs xs (ps ++ c.fArgs)).length) (cc - 1)]) (hlSame_any Ar776 cr776 rs776 (subA Ac 1 1 cc) (cc - 1) (exs xs (ps ++ c.fArgs)) _ (own_sl1 (S872.ow 3 rfl) (by first | omega | (simp; omega))) (own_sub1 (p := 1) (l := (exF xs p0 0) :: exs xs (ps ++ c.fArgs)) (S872.ow 0 rfl) (by simp) (by simp [exs]; omega))) ?_
                                      rintro _ w924 ⟨rfl, hb_924⟩
                                      refine ⟨_, rfl, ?_⟩
                                      intro a925 F925
                                      have S924 := S872.below hb_924
                                      refine op_q F925 (.bool (decide (rs776 = (exs xs (ps ++ c.fArgs))))) ?_; intro a926 F926
                                      refine op_q F926 (.bool (decide (rs776 = (exs xs (ps ++ c.fArgs))))) ?_; intro a927 F927
                                      refine wpList_nil ?_
                                      refine hK907 _ _ ?_; clear hK907 K907
                                      refine wp_ret ?_
                                      refine (F927.res1 rfl (v := .bool (decide (rs776 = (exs xs (ps ++ c.fArgs))))) (by kernel_rfl) ?_).1
                                      exact ⟨(ret_bool (decide_eq_true (by rw [hp0_776]; simp [hc903]))), S924.drop.drop.drop.drop⟩
                                    · have F928 := F902.sb 4 (by kernel_rfl) hc903
                                      have F929 := F928.sb 227 (by kernel_rfl) hc903
                                      have F930 := F929.sb 228 (by kernel_rfl) (show (!(ig)) = true by rw [hc903]; rfl)
                                      refine wp_cond_true (F930.ev (by kernel_rfl)) ?_
                                      refine wp_region_lit ?_
                                      refine op_q F930 (.slice Ac ((exF xs p0 0) :: exs xs (ps ++ c.fArgs)).length cc) ?_; intro a931 F931
                                      refine op_q F931 (.slice (B) (extra.length) (db)) ?_; intro a932 F932
                                      refine op_sq F932 (s_app rfl Try.underlying22 1 _ tin9 rfl rfl (F932.e (.slice Ac ((exF xs p0 0) :: exs xs (ps ++ c.fArgs)).length cc)) S872 (strs extra) (F932.e (.slice (B) (extra.length) (db))) (h4 _ S872.drop.drop.drop.drop) (by first | (simp [strs, ptrs]; done) | (simp [strs, ptrs]; omega)) (by intro u hu; obtain ⟨x, _, rfl⟩ := List.mem_map.1 hu; rfl) (by omega) (by omega) (n' := (((exF xs p0 0) :: exs xs (ps ++ c.fArgs)) ++ extra).length) (by first | (simp; done) | (simp; omega)) (cs' := strs (((exF xs p0 0) :: exs xs (ps ++ c.fArgs)) ++ extra)) (by simp [strs])) ?_
                                      rintro _ _ w934 ⟨A933, c933, rfl, rfl⟩ S934 a934 F934
                                      refine op_q F934 (.slice A933 ((((exF xs p0 0) :: exs xs (ps ++ c.fArgs)) ++ extra).length) c933) ?_; intro a935 F935
                                      refine wpList_nil ?_
                                      refine hK899 _ _ ?_; clear hK899 K899
                                      refine wp_seq_k fun K936 hK936 => ?_
                                      refine wp_region_lit ?_
                                      refine op_q F935 (.int .i64 0) ?_; intro a937 F937
                                      refine op_q F937 (.bool true) ?_; intro a938 F938
                                      refine op_q F938 (.bool true) ?_; intro a939 F939
                                      refine op_wq F939 ?_
                                      refine op_q F939 (.string (exF xs p0 0)) ?_; intro a940 F940
                                      refine op_wq F940 ?_
                                      refine op_q F940 (.slice A933 ((((exF xs p0 0) :: exs xs (ps ++ c.fArgs)) ++ extra).length) c933) ?_; intro a941 F941
                                      refine op_wq F941 ?_
                                      obtain ⟨ad942, hA942⟩ := (own_sl1 (S934.ow 0 rfl) (by first | omega | (simp; omega))).addr (by simp [strs])
                                      refine op_rq (v := .pointer (some ad942)) F941 (r_ix rfl Try.underlying22 1 (by kernel_rfl) (F941.e (.slice A933 ((((exF xs p0 0) :: exs xs (ps ++ c.fArgs)) ++ extra).length) c933)) hA942 (F941.e (.int .i64 0)) 0 (by first | rfl | omega | simp) (by first | omega | (simp; done) | (simp; omega)) (by simp only [Nat.zero_mul, add0])) ?_; intro a943 F943
                                      refine op_wq F943 ?_
                                      refine op_rq (v := .string (exF xs p0 0)) F943 (r_ld rfl (F943.e (.pointer (some ad942))) (v := .string (exF xs p0 0)) ((own_sl1 (S934.ow 0 rfl) (by first | omega | (simp; omega))).elA hA942 (j := 0) rfl) Try.underlying9 rfl) ?_; intro a944 F944
                                      refine op_wq F944 ?_
                                      have hs945 : ((exF xs p0 0).toList == (exF xs p0 0).toList) = true := beq_self_eq_true _
                                      refine op_q F944 (.bool ((exF xs p0 0).toList == (exF xs p0 0).toList)) ?_; intro a946 F946
                                      have F947 := F946.sb 239 (by kernel_rfl) hs945
                                      refine op_q F947 (.bool true) ?_; intro a948 F948
                                      refine op_q F948 (.bool true) ?_; intro a949 F949
                                      refine op_wq F949 ?_
                                      refine op_q F949 (.slice Ar776 rs776.length cr776) ?_; intro a950 F950
                                      refine op_wq F950 ?_
                                      refine op_q F950 (.slice A933 ((((exF xs p0 0) :: exs xs (ps ++ c.fArgs)) ++ extra).length) c933) ?_; intro a951 F951
                                      refine op_wq F951 ?_
                                      refine op_rq (v := .slice (subA A933 1 1 c933) ((exs xs (ps ++ c.fArgs) ++ extra).length) (c933 - 1)) F951 (r_slcl rfl Try.underlying22 1 (by kernel_rfl) (F951.e (.slice A933 ((((exF xs p0 0) :: exs xs (ps ++ c.fArgs)) ++ extra).length) c933)) (F951.e (.int .i64 1)) 1 rfl (by simp)) ?_; intro a952 F952
                                      refine op_wq F952 ?_
                                      refine op_cq F952 (f := 44) (args := #[.slice Ar776 rs776.length cr776, .slice (subA A933 1 1 c933) ((exs xs (ps ++ c.fArgs) ++ extra).length) (c933 - 1)]) (hlSame_any Ar776 cr776 rs776 (subA A933 1 1 c933) (c933 - 1) (exs xs (ps ++ c.fArgs) ++ extra) _ (own_sl1 (S934.ow 3 rfl) (by first | omega | (simp; omega))) (own_sub1 (p := 1) (l := ((exF xs p0 0) :: exs xs (ps ++ c.fArgs)) ++ extra) (S934.ow 0 rfl) (by simp) (by simp [exs]; omega))) ?_
                                      rintro _ w953 ⟨rfl, hb_953⟩
                                      refine ⟨_, rfl, ?_⟩
                                      intro a954 F954
                                      have S953 := S934.below hb_953
                                      refine op_q F954 (.bool (decide (rs776 = (exs xs (ps ++ c.fArgs) ++ extra)))) ?_; intro a955 F955
                                      refine op_q F955 (.bool (decide (rs776 = (exs xs (ps ++ c.fArgs) ++ extra)))) ?_; intro a956 F956
                                      refine wpList_nil ?_
                                      refine hK936 _ _ ?_; clear hK936 K936
                                      refine wp_ret ?_
                                      refine (F956.res1 rfl (v := .bool (decide (rs776 = (exs xs (ps ++ c.fArgs) ++ extra)))) (by kernel_rfl) ?_).1
                                      exact ⟨(ret_bool (decide_eq_true (by rw [hp0_776]; simp [hc903]))), S953.drop.drop.drop.drop⟩
                        · have F957 := F200.sb 81 (by kernel_rfl) hc201
                          have F958 := F957.sb 82 (by kernel_rfl) (show (!(shortB extra)) = true by rw [hc201]; rfl)
                          have F959 := F958.sb 83 (by kernel_rfl) (show (!(shortB extra)) = true by rw [hc201]; rfl)
                          refine wp_cond_true (F959.ev (by kernel_rfl)) ?_
                          refine wp_seq_k fun K960 hK960 => ?_
                          refine wp_region_lit ?_
                          refine op_q F959 (.bool true) ?_; intro a961 F961
                          refine wpList_nil ?_
                          refine hK960 _ _ ?_; clear hK960 K960
                          refine wp_ret ?_
                          refine ret_then ?_
                          refine (F961.res1 rfl (v := .bool true) (by kernel_rfl) ?_).1
                          exact ⟨rfl, S117⟩
                · have F962 := F121.sb 61 (by kernel_rfl) hc122
                  have F963 := F962.sb 62 (by kernel_rfl) (show (!(b117)) = true by rw [hc122]; rfl)
                  have F964 := F963.sb 63 (by kernel_rfl) (show (!(b117)) = true by rw [hc122]; rfl)
                  have F965 := F964.sb 64 (by kernel_rfl) (show (!(b117)) = true by rw [hc122]; rfl)
                  refine op_kq F965 ?_; intro a966 F966
                  refine op_kq F966 ?_; intro a967 F967
                  refine op_kq F967 ?_; intro a968 F968
                  refine op_q F968 (.bool true) ?_; intro a969 F969
                  refine op_q F969 (.bool true) ?_; intro a970 F970
                  refine op_kq F970 ?_; intro a971 F971
                  refine op_kq F971 ?_; intro a972 F972
                  refine op_kq F972 ?_; intro a973 F973
                  refine op_q F973 (.bool true) ?_; intro a974 F974
                  refine op_q F974 (.bool true) ?_; intro a975 F975
                  refine op_kq F975 ?_; intro a976 F976
                  refine op_kq F976 ?_; intro a977 F977
                  refine op_kq F977 ?_; intro a978 F978
                  refine op_q F978 (.bool true) ?_; intro a979 F979
                  refine op_q F979 (.bool true) ?_; intro a980 F980
                  refine op_kq F980 ?_; intro a981 F981
                  refine op_kq F981 ?_; intro a982 F982
                  refine op_kq F982 ?_; intro a983 F983
                  refine op_q F983 (.bool true) ?_; intro a984 F984
                  refine wpList_nil ?_
                  refine hK95 _ _ ?_; clear hK95 K95
                  refine wp_cond_true (F984.ev (by kernel_rfl)) ?_
                  refine wp_seq_k fun K985 hK985 => ?_
                  refine wp_region_lit ?_
                  refine op_q F984 (.bool true) ?_; intro a986 F986
                  refine wpList_nil ?_
                  refine hK985 _ _ ?_; clear hK985 K985
                  refine wp_ret ?_
                  refine ret_then ?_
                  refine (F986.res1 rfl (v := .bool true) (by kernel_rfl) ?_).1
                  exact ⟨rfl, S117⟩
              · have F987 := F110.sb 56 (by kernel_rfl) hc111
                have F988 := F987.sb 57 (by kernel_rfl) (show (!(smallB arch)) = true by rw [hc111]; rfl)
                have F989 := F988.sb 58 (by kernel_rfl) (show (!(smallB arch)) = true by rw [hc111]; rfl)
                have F990 := F989.sb 59 (by kernel_rfl) (show (!(smallB arch)) = true by rw [hc111]; rfl)
                refine op_kq F990 ?_; intro a991 F991
                refine op_kq F991 ?_; intro a992 F992
                refine op_kq F992 ?_; intro a993 F993
                refine op_q F993 (.bool true) ?_; intro a994 F994
                refine op_q F994 (.bool true) ?_; intro a995 F995
                refine op_kq F995 ?_; intro a996 F996
                refine op_kq F996 ?_; intro a997 F997
                refine op_kq F997 ?_; intro a998 F998
                refine op_q F998 (.bool true) ?_; intro a999 F999
                refine op_q F999 (.bool true) ?_; intro a1000 F1000
                refine op_kq F1000 ?_; intro a1001 F1001
                refine op_kq F1001 ?_; intro a1002 F1002
                refine op_kq F1002 ?_; intro a1003 F1003
                refine op_q F1003 (.bool true) ?_; intro a1004 F1004
                refine op_q F1004 (.bool true) ?_; intro a1005 F1005
                refine op_kq F1005 ?_; intro a1006 F1006
                refine op_kq F1006 ?_; intro a1007 F1007
                refine op_kq F1007 ?_; intro a1008 F1008
                refine op_q F1008 (.bool true) ?_; intro a1009 F1009
                refine op_q F1009 (.bool true) ?_; intro a1010 F1010
                refine op_kq F1010 ?_; intro a1011 F1011
                refine op_kq F1011 ?_; intro a1012 F1012
                refine op_kq F1012 ?_; intro a1013 F1013
                refine op_q F1013 (.bool true) ?_; intro a1014 F1014
                refine wpList_nil ?_
                refine hK95 _ _ ?_; clear hK95 K95
                refine wp_cond_true (F1014.ev (by kernel_rfl)) ?_
                refine wp_seq_k fun K1015 hK1015 => ?_
                refine wp_region_lit ?_
                refine op_q F1014 (.bool true) ?_; intro a1016 F1016
                refine wpList_nil ?_
                refine hK1015 _ _ ?_; clear hK1015 K1015
                refine wp_ret ?_
                refine ret_then ?_
                refine (F1016.res1 rfl (v := .bool true) (by kernel_rfl) ?_).1
                exact ⟨rfl, S106⟩
            · have F1017 := F100.sb 52 (by kernel_rfl) hc101
              have F1018 := F1017.sb 53 (by kernel_rfl) (show (!(smallB os)) = true by rw [hc101]; rfl)
              have F1019 := F1018.sb 54 (by kernel_rfl) (show (!(smallB os)) = true by rw [hc101]; rfl)
              refine op_kq F1019 ?_; intro a1020 F1020
              refine op_kq F1020 ?_; intro a1021 F1021
              refine op_kq F1021 ?_; intro a1022 F1022
              refine op_q F1022 (.bool true) ?_; intro a1023 F1023
              refine op_q F1023 (.bool true) ?_; intro a1024 F1024
              refine op_kq F1024 ?_; intro a1025 F1025
              refine op_kq F1025 ?_; intro a1026 F1026
              refine op_kq F1026 ?_; intro a1027 F1027
              refine op_q F1027 (.bool true) ?_; intro a1028 F1028
              refine op_q F1028 (.bool true) ?_; intro a1029 F1029
              refine op_kq F1029 ?_; intro a1030 F1030
              refine op_kq F1030 ?_; intro a1031 F1031
              refine op_kq F1031 ?_; intro a1032 F1032
              refine op_q F1032 (.bool true) ?_; intro a1033 F1033
              refine op_q F1033 (.bool true) ?_; intro a1034 F1034
              refine op_kq F1034 ?_; intro a1035 F1035
              refine op_kq F1035 ?_; intro a1036 F1036
              refine op_kq F1036 ?_; intro a1037 F1037
              refine op_q F1037 (.bool true) ?_; intro a1038 F1038
              refine op_q F1038 (.bool true) ?_; intro a1039 F1039
              refine op_kq F1039 ?_; intro a1040 F1040
              refine op_kq F1040 ?_; intro a1041 F1041
              refine op_kq F1041 ?_; intro a1042 F1042
              refine op_q F1042 (.bool true) ?_; intro a1043 F1043
              refine op_q F1043 (.bool true) ?_; intro a1044 F1044
              refine op_kq F1044 ?_; intro a1045 F1045
              refine op_kq F1045 ?_; intro a1046 F1046
              refine op_kq F1046 ?_; intro a1047 F1047
              refine op_q F1047 (.bool true) ?_; intro a1048 F1048
              refine wpList_nil ?_
              refine hK95 _ _ ?_; clear hK95 K95
              refine wp_cond_true (F1048.ev (by kernel_rfl)) ?_
              refine wp_seq_k fun K1049 hK1049 => ?_
              refine wp_region_lit ?_
              refine op_q F1048 (.bool true) ?_; intro a1050 F1050
              refine wpList_nil ?_
              refine hK1049 _ _ ?_; clear hK1049 K1049
              refine wp_ret ?_
              refine ret_then ?_
              refine (F1050.res1 rfl (v := .bool true) (by kernel_rfl) ?_).1
              exact ⟨rfl, S97⟩
          · have F1051 := F89.sb 48 (by kernel_rfl) hc90
            have F1052 := F1051.sb 49 (by kernel_rfl) (show (!(fits3 extra)) = true by rw [hc90]; rfl)
            have F1053 := F1052.sb 50 (by kernel_rfl) (show (!(fits3 extra)) = true by rw [hc90]; rfl)
            refine wp_cond_true (F1053.ev (by kernel_rfl)) ?_
            refine wp_seq_k fun K1054 hK1054 => ?_
            refine wp_region_lit ?_
            refine op_q F1053 (.bool true) ?_; intro a1055 F1055
            refine wpList_nil ?_
            refine hK1054 _ _ ?_; clear hK1054 K1054
            refine wp_ret ?_
            refine ret_then ?_
            refine (F1055.res1 rfl (v := .bool true) (by kernel_rfl) ?_).1
            exact ⟨rfl, S75⟩
        · have F1056 := F79.sb 43 (by kernel_rfl) hc80
          have F1057 := F1056.sb 44 (by kernel_rfl) (show (!(fits54 cs)) = true by rw [hc80]; rfl)
          have F1058 := F1057.sb 45 (by kernel_rfl) (show (!(fits54 cs)) = true by rw [hc80]; rfl)
          have F1059 := F1058.sb 46 (by kernel_rfl) (show (!(fits54 cs)) = true by rw [hc80]; rfl)
          refine op_kq F1059 ?_; intro a1060 F1060
          refine op_kq F1060 ?_; intro a1061 F1061
          refine op_kq F1061 ?_; intro a1062 F1062
          refine op_q F1062 (.bool true) ?_; intro a1063 F1063
          refine wpList_nil ?_
          refine hK4 _ _ ?_; clear hK4 K4
          refine wp_cond_true (F1063.ev (by kernel_rfl)) ?_
          refine wp_seq_k fun K1064 hK1064 => ?_
          refine wp_region_lit ?_
          refine op_q F1063 (.bool true) ?_; intro a1065 F1065
          refine wpList_nil ?_
          refine hK1064 _ _ ?_; clear hK1064 K1064
          refine wp_ret ?_
          refine ret_then ?_
          refine (F1065.res1 rfl (v := .bool true) (by kernel_rfl) ?_).1
          exact ⟨rfl, S75⟩
      · have F1066 := F68.sb 38 (by kernel_rfl) hc69
        have F1067 := F1066.sb 39 (by kernel_rfl) (show (!(fits18 xs)) = true by rw [hc69]; rfl)
        have F1068 := F1067.sb 40 (by kernel_rfl) (show (!(fits18 xs)) = true by rw [hc69]; rfl)
        have F1069 := F1068.sb 41 (by kernel_rfl) (show (!(fits18 xs)) = true by rw [hc69]; rfl)
        refine op_kq F1069 ?_; intro a1070 F1070
        refine op_kq F1070 ?_; intro a1071 F1071
        refine op_kq F1071 ?_; intro a1072 F1072
        refine op_q F1072 (.bool true) ?_; intro a1073 F1073
        refine op_q F1073 (.bool true) ?_; intro a1074 F1074
        refine op_kq F1074 ?_; intro a1075 F1075
        refine op_kq F1075 ?_; intro a1076 F1076
        refine op_kq F1076 ?_; intro a1077 F1077
        refine op_q F1077 (.bool true) ?_; intro a1078 F1078
        refine wpList_nil ?_
        refine hK4 _ _ ?_; clear hK4 K4
        refine wp_cond_true (F1078.ev (by kernel_rfl)) ?_
        refine wp_seq_k fun K1079 hK1079 => ?_
        refine wp_region_lit ?_
        refine op_q F1078 (.bool true) ?_; intro a1080 F1080
        refine wpList_nil ?_
        refine hK1079 _ _ ?_; clear hK1079 K1079
        refine wp_ret ?_
        refine ret_then ?_
        refine (F1080.res1 rfl (v := .bool true) (by kernel_rfl) ?_).1
        exact ⟨rfl, S64⟩
theorem fnHlPlugin_walk (os arch : ByteArray) (E : Option Addr) (ce : Nat) (xs : List Ty108) (A : Option Addr) (d : Nat) (cs : List Ty110) (ig : Bool) (B : Option Addr) (db : Nat) (extra : List ByteArray) (w : World) (_y0 : os.size ≤ maxLen) (_y1 : arch.size ≤ maxLen)
    (y2 : Rows w E 2 (xs.map Ty108.cells)) (z2 : xs.length ≤ ce) (u2 : ∀ x ∈ xs, x.ok w) (y3 : Rows w A 4 (cs.map Ty110.cells)) (z3 : cs.length ≤ d) (u3 : ∀ x ∈ cs, x.ok w) (y5 : Sl w B (strs extra)) (z5 : extra.length ≤ db) :
    Calls Try.prog 12 #[.string os, .string arch, .slice E xs.length ce, .slice A cs.length d, .bool ig, .slice B extra.length db] w fun e w' => e = .returned (.bool true) ∧ Below w.heap.size w w' := by
  exact (plugin_sp os arch E ce xs A d cs ig B db extra _ [] w (Sp.start w) (Rf.of fun _ hb => y2.below hb) (Rf.of fun _ hb => Ty108.oks.below u2 hb) (Rf.of fun _ hb => y3.below hb) (Rf.of fun _ hb => Ty110.oks.below u3 hb) (Rf.of fun _ hb => y5.below hb) z2).mono fun _ _ ⟨he, hS⟩ => ⟨he, Sp.below_of hS⟩
end Go.Proofs.Ytkjcedlgljeoiaa

