/- Contracts: GetBytes, Get, Lines, FileGet. -/
import Derived.Test.YtdgblfldbikneaaQ5
namespace Go.Proofs.Ytdgblfldbikneaa
open Go.RowKit Go.Lib

theorem mapNil147 (g : Nat) (w : World) : (binOp .eql 147 (.map (some g)) (.map none)).run Try.prog w = .ok (.bool false) w := by kernel_rfl
theorem zeroS120 (w : World) : (zeroValue 120).run Try.prog w = .ok (.slice none 0 0) w := by kernel_rfl
def getF (xs : List Ty73) (s : ByteArray) : ByteArray := (lookF xs s).getD ByteArray.empty
set_option maxRecDepth 100000 in
theorem getBytes_any (g n : Nat) (xs : List Ty73) (s : ByteArray) (w : World) (h : FM w g n xs) (hs : s.size ≤ maxLen) (hz : (getF xs s).size ≤ 1000000) :
    Calls Try.prog 127 #[.map (some g), .string s] w fun e w' => ∃ A c, e = .returned (.slice A (getF xs s).size c) ∧ Sl w' A (strCells (getF xs s)) ∧ (∀ ad, A = some ad → ad.spot = none) ∧ Below w.heap.size w w' := by
  obtain ⟨f, hmp, hf⟩ := h
  have hfs := hf s
  unfold getF at hz ⊢
  have HM := Lib.hid hmp
  clear hmp hf
  cases hl : lookF xs s with
  | none =>
    rw [hl] at hfs
    have HN := Lib.hid (show f s = none from hfs)
    clear hfs hl hz
    go_enter Try.func127, Try.ntmps127
    go_wp2_with (at_lookup; refine ev_look_ok rfl _ _ 147 rfl 9 120 Try.underlying9 Try.underlying147 _ (zeroS120 _) g n f rfl HM.out s rfl hs ?_; rw [HN.out]; simp only [Option.getD_none, Option.isSome_none])
    go_ret
    exact ⟨_, _, rfl, Sl.nil, fun ad e => by injection e with e; rw [← e], (Below.refl _ _).alloc (Nat.le_refl _) _⟩
  | some d =>
    rw [hl] at hfs hz
    obtain ⟨gb, c, e, hb⟩ := hfs
    have HN := Lib.hid e
    have HBB := Lib.hid hb
    clear hl e hb
    go_enter Try.func127, Try.ntmps127
    go_wp2_with (at_lookup; refine ev_look_ok rfl _ _ 147 rfl 9 120 Try.underlying9 Try.underlying147 _ (zeroS120 _) g n f rfl HM.out s rfl hs ?_; rw [HN.out]; simp only [Option.getD_some, Option.isSome_some])
    go_ret
    exact ⟨_, _, rfl, HBB.out.sl (by have : d.size ≤ 1000000 := hz; omega), fun ad e => by injection e with e; rw [← e], Below.refl _ _⟩
theorem get_any (g n : Nat) (xs : List Ty73) (s : ByteArray) (w : World) (h : FM w g n xs) (hs : s.size ≤ maxLen) (hz : (getF xs s).size ≤ 1000000) :
    Calls Try.prog 90 #[.map (some g), .string s] w fun e w' => e = .returned (.string (getF xs s)) ∧ Below w.heap.size w w' := by
  have H := Lib.hid h
  clear h
  go_enter Try.func90, Try.ntmps90
  go_wp2_with (go_at_call 127; (with_reducible refine (getBytes_any g n xs s _ H.out hs hz).mono ?_); rintro e w1 ⟨A, c, rfl, hsl, hsp, hb⟩; have HT := sl_text (P := Try.prog) (c := c) Try.underlying120 Try.underlying5 Try.underlying9 hsl hsp; clear hsl hsp)
  go_ret
  exact ⟨rfl, hb⟩
theorem splitNl_any (s : ByteArray) (w : World) (hs : s.size ≤ 1000000) :
    Calls Try.prog 128 #[.string s, .string ⟨#[10]⟩] w fun e w' => ∃ v, e = .returned v ∧ w'.ownsRow w.heap.size 9 1 v (splitF ⟨#[10]⟩ (s.size + 1) s).length (strs (splitF ⟨#[10]⟩ (s.size + 1) s)) ∧ Below w.heap.size w w' :=
  split_any s ⟨#[10]⟩ w (Nat.le_of_ble_eq_true rfl) (Nat.le_trans (Nat.add_le_add_right hs 1) (Nat.le_of_ble_eq_true rfl))
set_option maxRecDepth 100000 in
set_option maxHeartbeats 2000000 in
theorem lines_any (g n : Nat) (xs : List Ty73) (s : ByteArray) (w : World) (h : FM w g n xs) (hs : s.size ≤ maxLen) (hz : (getF xs s).size ≤ 1000000) :
    Calls Try.prog 91 #[.map (some g), .string s] w fun e w' => ∃ A c, e = .returned (.slice A (linesF (getF xs s)).length c) ∧ Sl w' A (strs (linesF (getF xs s))) ∧ Below w.heap.size w w' := by
  obtain ⟨f, hmp, hf⟩ := h
  have hfs := hf s
  have hlk := hmp.look (t := 147) Try.underlying9 Try.underlying147 (zeroS120 w) hs
  unfold getF at hz ⊢
  have hnil := mapNil147 g w
  clear hf hmp
  cases hl : lookF xs s with
  | none =>
    rw [hl] at hfs
    rw [show f s = none from hfs] at hlk
    simp only [Option.getD_none] at hlk ⊢
    clear hfs hl hz
    go_enter Try.func91, Try.ntmps91
    go_wp2_with fail
    go_ret
    exact ⟨_, _, rfl, Sl.nil, (Below.refl _ _).alloc (Nat.le_refl _) _⟩
  | some d =>
    rw [hl] at hfs hz
    obtain ⟨gb, c, e, hb⟩ := hfs
    rw [e] at hlk
    simp only [Option.getD_some] at hlk hz ⊢
    have HT := sl_text (P := Try.prog) (c := c) Try.underlying120 Try.underlying5 Try.underlying9 (hb.sl (Nat.le_trans hz (by decide))) (fun ad e => by injection e with e; rw [← e])
    clear e hb hl
    by_cases h0 : d.size = 0
    · have hd0 := empty_of_size h0
      subst hd0
      go_enter Try.func91, Try.ntmps91
      go_wp2_with fail
      go_ret
      exact ⟨_, _, rfl, Sl.nil, (Below.refl _ _).alloc (Nat.le_refl _) _⟩
    · have hpos : 0 < d.size := by omega
      have hp1 : d.size - 1 < d.size := Nat.sub_lt hpos (by decide)
      have hi : IntKind.i64.wrap ((d.size : Int) - 1) = (d.size : Int) - 1 := IntWalk.i64_in _ (by omega)
      have hi1 : (0 : Int) ≤ (d.size : Int) - 1 := by omega
      have hi2 : ((d.size : Int) - 1).toNat = d.size - 1 := by omega
      have hi3 : (d.size : Int) - 1 < (d.size : Int) := by omega
      have hi4 : ((d.size : Int) == 0) = false := by simp only [beq_eq_false_iff_ne, ne_eq]; omega
      by_cases hlast : d[d.size - 1] = 10
      · have hc : chopF d = d.extract 0 (d.size - 1) := by unfold chopF; rw [if_pos ⟨hpos, hlast⟩]
        have hL : linesF d = splitF ⟨#[10]⟩ ((d.extract 0 (d.size - 1)).size + 1) (d.extract 0 (d.size - 1)) := by unfold linesF; rw [if_neg h0, hc]
        have d1 : ((d[d.size - 1].toNat : Int) == 10) = true := by rw [hlast]; rfl
        have hz2 : (d.extract 0 (d.size - 1)).size ≤ 1000000 := by simp [ByteArray.size_extract]; omega
        have hlen := splitF_len ⟨#[10]⟩ (Nat.le_refl 1) ((d.extract 0 (d.size - 1)).size + 1) (d.extract 0 (d.size - 1))
        have HL := Lib.hid hL
        have HN := Lib.hid hlen
        clear hL hc hlast h0 hlen
        go_enter Try.func91, Try.ntmps91
        go_wp2_with (go_at_call 128; (with_reducible refine (splitNl_any _ _ hz2).mono ?_); rintro e w1 ⟨v, rfl, ho, hb⟩; have HO := Lib.hid ho; clear ho)
        go_ret
        obtain ⟨A, c', e2, _, hsl⟩ := own_slice HO.out (by have := HN.out; omega)
        rw [HL.out]
        exact ⟨A, c', ret_val e2, hsl, hb⟩
      · have hc : chopF d = d := by unfold chopF; rw [if_neg (by rintro ⟨_, e⟩; exact hlast e)]
        have hL : linesF d = splitF ⟨#[10]⟩ (d.size + 1) d := by unfold linesF; rw [if_neg h0, hc]
        have d1 : ((d[d.size - 1].toNat : Int) == 10) = false := by
          simp only [beq_eq_false_iff_ne, ne_eq]
          intro e
          exact hlast (UInt8.toNat_inj.1 (show d[d.size - 1].toNat = 10 by omega))
        have hlen := splitF_len ⟨#[10]⟩ (Nat.le_refl 1) (d.size + 1) d
        have HL := Lib.hid hL
        have HN := Lib.hid hlen
        clear hL hc hlast h0 hlen
        go_enter Try.func91, Try.ntmps91
        go_wp2_with (go_at_call 128; (with_reducible refine (splitNl_any _ _ hz).mono ?_); rintro e w1 ⟨v, rfl, ho, hb⟩; have HO := Lib.hid ho; clear ho)
        go_ret
        obtain ⟨A, c', e2, _, hsl⟩ := own_slice HO.out (by have := HN.out; omega)
        rw [HL.out]
        exact ⟨A, c', ret_val e2, hsl, hb⟩
end Go.Proofs.Ytdgblfldbikneaa
