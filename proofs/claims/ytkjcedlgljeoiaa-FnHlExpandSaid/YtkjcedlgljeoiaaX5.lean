/- Expand: the closure; the value of the whole. -/
import Derived.Test.YtkjcedlgljeoiaaX4
namespace Go.Proofs.Ytkjcedlgljeoiaa
open Go.RowKit Go.Lib
set_option linter.unusedVariables false
set_option linter.unusedSimpArgs false
set_option maxRecDepth 100000 in
set_option maxHeartbeats 4000000 in
theorem exClo_any (A : Option Addr) (c : Nat) (xs : List Ty108) (s : ByteArray) (gb : Nat) (w : World) (h0 : Rows w (A) 2 (xs.map Ty108.cells)) (h1 : Blk w (gb) 40 #[.slice (A) (xs.length) (c)])  :
    Calls Try.prog 70 #[.string s, .pointer (some ⟨gb, 0, none⟩)] w fun e w' => e = .returned (.string (undF xs s)) ∧ Below w.heap.size w w' := by
  have hl_xs : xs.length ≤ 9223372036854775807 := by have := h0.1; simpa [strs, ptrs] using this
  have H0 := Lib.hid h0
  clear h0
  have H1 := Lib.hid h1
  clear h1
  suffices hQ : ∀ Q : Ending → World → Prop, Hid (∀ (e : Ending) (w' : World), (e = .returned (.string (undF xs s)) ∧ Below w.heap.size w w') → Post1 Q e w') → Calls Try.prog 70 #[.string s, .pointer (some ⟨gb, 0, none⟩)] w (fun e w' => Post1 Q e w') from hQ (fun e w' => e = .returned (.string (undF xs s)) ∧ Below w.heap.size w w') (fun _ _ h => by unfold Post1; exact h)
  intro Q HQ
  go_enter Try.func70, Try.ntmps70
  go_wp2_with (first
    | ((with_reducible refine at_dst (N := 4) rfl ?_); refine ev_ld rfl 40 _ rfl ⟨gb, 0, none⟩ rfl (.slice (A) (xs.length) (c)) (H1.out.cell 0) _ Try.underlying40 rfl ?_)
    | (go_at_call 71; (with_reducible refine (under_any A c xs s _ H0.out).mono ?_); rintro e w1 ⟨rfl, hb⟩
       have B_w1 := Lib.hid (below_trans (Below.refl _ _) hb)
       clear hb))
  go_ret
  exact HQ.out _ _ ⟨rfl, B_w1.out⟩
def pcF (xs : List Ty108) (p : ByteArray × Nat) : ByteArray := if p.1.toList == [] then (if p.2 = 0 then ⟨#[36]⟩ else ⟨#[]⟩) else undF xs p.1
def vrF (s : ByteArray) (j : Nat) : ByteArray × Nat := shF (s.extract (j + 1) s.size)
def exF (xs : List Ty108) (s : ByteArray) (j : Nat) : ByteArray :=
  if _h : j < s.size then
    if bt s j = 36 ∧ j + 1 < s.size then pcF xs (vrF s j) ++ exF xs s (j + 1 + (vrF s j).2)
    else s.extract j (j + 1) ++ exF xs s (j + 1)
  else ⟨#[]⟩
termination_by s.size - j
decreasing_by all_goals omega
theorem exF_end {xs : List Ty108} {s : ByteArray} {j : Nat} (h : s.size ≤ j) : exF xs s j = ⟨#[]⟩ := by rw [exF, dif_neg (by omega)]
theorem exF_one {xs : List Ty108} {s : ByteArray} {j : Nat} (h : j < s.size) (hn : s[j].toNat ≠ 36 ∨ j + 1 = s.size) : exF xs s j = s.extract j (j + 1) ++ exF xs s (j + 1) := by
  rw [exF, dif_pos h, if_neg]
  rw [bt_at h]; omega
theorem exF_var {xs : List Ty108} {s : ByteArray} {j : Nat} (h : j + 1 < s.size) (hn : s[j].toNat = 36) : exF xs s j = pcF xs (vrF s j) ++ exF xs s (j + 1 + (vrF s j).2) := by
  rw [exF, dif_pos (by omega), if_pos]
  rw [bt_at (show j < s.size by omega)]; omega
theorem shF_le {s : ByteArray} (h0 : 0 < s.size) : (shF s).2 ≤ s.size := by
  unfold shF
  split
  · split
    · next h => simp only [brk, Bool.and_eq_true, decide_eq_true_eq] at h; show 3 ≤ _; omega
    · split
      · next i hi => have := (List.find?_range_eq_some.1 hi).2.1; have := List.mem_range.1 this; show i + 1 ≤ _; omega
      · show 1 ≤ _; omega
  · split
    · show 1 ≤ _; omega
    · show nmLen s ≤ _
      unfold nmLen
      cases hf : firstN (fun j => !nmU (bt s j)) s.size with
      | none => exact Nat.le_refl _
      | some i => have := (List.find?_range_eq_some.1 hf).2.1; have := List.mem_range.1 this; show i ≤ _; omega
theorem vrF_le {s : ByteArray} {j : Nat} (h : j + 1 < s.size) : j + 1 + (vrF s j).2 ≤ s.size := by
  have h1 := shF_le (s := s.extract (j + 1) s.size) (by simp; omega)
  unfold vrF
  simp only [ByteArray.size_extract] at h1
  omega
theorem ext_step {s : ByteArray} {i j : Nat} (h : i ≤ j) (_hj : j < s.size) : s.extract i (j + 1) = s.extract i j ++ s.extract j (j + 1) := by
  simp [h]
theorem pcF_size {xs : List Ty108} {n : Nat} (hn : 1 ≤ n) (h : ∀ x ∈ xs, x.fText.size ≤ n) (p : ByteArray × Nat) : (pcF xs p).size ≤ n := by
  unfold pcF
  split
  · split
    · exact hn
    · exact Nat.zero_le _
  · exact undF_size h
end Go.Proofs.Ytkjcedlgljeoiaa
