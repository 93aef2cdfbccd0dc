/- Contracts: HlLines; files, newFiles, ZzFiles, GetBytes, Get, Lines, FileGet. -/
import Derived.Test.YtdgblfldbikneaaQ2
import Derived.Test.YtdgblfldbikneaaMp
import Derived.Test.YtdgblfldbikneaaBy
import Derived.Test.YtdgblfldbikneaaN3
namespace Go.Proofs.Ytdgblfldbikneaa
open Go.RowKit Go.Lib

/-- A text without a line feed at its end. -/
def chopF (s : ByteArray) : ByteArray := if ∃ h : 0 < s.size, s[s.size - 1] = 10 then s.extract 0 (s.size - 1) else s
def linesF (s : ByteArray) : List ByteArray := if s.size = 0 then [] else splitF ⟨#[10]⟩ ((chopF s).size + 1) (chopF s)
theorem empty_of_size {s : ByteArray} (h : s.size = 0) : s = ByteArray.empty := by
  apply ByteArray.ext
  apply Array.eq_empty_of_size_eq_zero
  exact h
theorem isEmpty_iff {s : ByteArray} : (s.toList == []) = decide (s.size = 0) := by
  rw [ByteArray.toList_eq]
  by_cases h : s.size = 0
  · rw [empty_of_size h]; rfl
  · have h2 : s.data.toList.length ≠ 0 := by simpa using h
    simp only [h, decide_false]
    simp only [beq_eq_false_iff_ne, ne_eq]
    intro e; rw [e] at h2; exact h2 rfl
theorem pieces10_any (s : ByteArray) (w : World) (hs : s.size ≤ 1000000) :
    Calls Try.prog 92 #[.string s, .int .u8 10] w fun e w' => ∃ v, e = .returned v ∧ w'.ownsRow w.heap.size 9 1 v (splitF ⟨#[10]⟩ (s.size + 1) s).length (strs (splitF ⟨#[10]⟩ (s.size + 1) s)) ∧ Below w.heap.size w w' :=
  pieces_any s 10 w hs
set_option maxRecDepth 100000 in
theorem hlLines_any (s : ByteArray) (w : World) (hs : s.size ≤ 1000000) :
    Calls Try.prog 43 #[.string s] w fun e w' => ∃ v, e = .returned v ∧ w'.ownsRow w.heap.size 9 1 v (linesF s).length (strs (linesF s)) ∧ Below w.heap.size w w' := by
  by_cases h0 : s.size = 0
  · have hs0 := empty_of_size h0
    subst hs0
    go_enter Try.func43, Try.ntmps43
    go_wp2
    go_ret
    exact ⟨_, rfl, own_nil _ _ _ _, Below.refl _ _⟩
  · have hne : (s.toList == []) = false := by rw [isEmpty_iff]; simpa using h0
    have hpos : 0 < s.size := by omega
    have hp1 : s.size - 1 < s.size := by omega
    have hi : IntKind.i64.wrap ((s.size : Int) - 1) = (s.size : Int) - 1 := IntWalk.i64_in _ (by omega)
    have hi1 : (0 : Int) ≤ (s.size : Int) - 1 := by omega
    have hi2 : ((s.size : Int) - 1).toNat = s.size - 1 := by omega
    have hi3 : (s.size : Int) - 1 < (s.size : Int) := by omega
    by_cases hl : s[s.size - 1] = 10
    · have hc : chopF s = s.extract 0 (s.size - 1) := by unfold chopF; rw [if_pos ⟨hpos, hl⟩]
      have hL : linesF s = splitF ⟨#[10]⟩ ((s.extract 0 (s.size - 1)).size + 1) (s.extract 0 (s.size - 1)) := by unfold linesF; rw [if_neg h0, hc]
      have d1 : ((s[s.size - 1].toNat : Int) == 10) = true := by rw [hl]; rfl
      have hz : (s.extract 0 (s.size - 1)).size ≤ 1000000 := by simp [ByteArray.size_extract]; omega
      have HL := Lib.hid hL
      clear hL hc hl h0
      go_enter Try.func43, Try.ntmps43
      go_wp2_with (go_at_call 92; (with_reducible refine (pieces10_any _ _ hz).mono ?_); rintro e w1 ⟨v, rfl, ho, hb⟩)
      go_ret
      exact ⟨_, rfl, by rw [HL.out]; exact ho, hb⟩
    · have hc : chopF s = s := by unfold chopF; rw [if_neg (by rintro ⟨_, e⟩; exact hl e)]
      have hL : linesF s = splitF ⟨#[10]⟩ (s.size + 1) s := by unfold linesF; rw [if_neg h0, hc]
      have d1 : ((s[s.size - 1].toNat : Int) == 10) = false := by
        simp only [beq_eq_false_iff_ne, ne_eq]
        intro e
        exact hl (UInt8.toNat_inj.1 (show s[s.size - 1].toNat = 10 by omega))
      have HL := Lib.hid hL
      clear hL hc hl h0
      go_enter Try.func43, Try.ntmps43
      go_wp2_with (go_at_call 92; (with_reducible refine (pieces10_any _ _ hs).mono ?_); rintro e w1 ⟨v, rfl, ho, hb⟩)
      go_ret
      exact ⟨_, rfl, by rw [HL.out]; exact ho, hb⟩
end Go.Proofs.Ytdgblfldbikneaa
