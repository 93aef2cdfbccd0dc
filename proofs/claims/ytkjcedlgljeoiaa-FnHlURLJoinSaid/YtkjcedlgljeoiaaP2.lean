/- Contracts: errors.New, ChartName and what it calls, hlLives; zzFits3, HlOneOf, VersionSet.Has, HasVersion. -/
import Derived.Test.YtkjcedlgljeoiaaP1
namespace Go.Proofs.Ytkjcedlgljeoiaa
open Go.RowKit Go.Lib

def strs (xs : List ByteArray) : List Value := xs.map Value.string
theorem strs_len (xs : List ByteArray) : (strs xs).length = xs.length := by simp [strs]
theorem strs_at {w : World} {A : Option Addr} {xs : List ByteArray} (h : Sl w A (strs xs)) {k : Nat} (hk : k < xs.length) : ∃ ad, A = some ad ∧ w.cell? (ad.add k) = some (.string xs[k]) :=
  h.at_ (j := k) (by simp [strs, hk])

/-- An error of errors.New's making, of text s. -/
def IsErr (w : World) (v : Value) (s : ByteArray) : Prop := ∃ g, v = .iface 279 (.pointer (some ⟨g, 0, none⟩)) ∧ Blk w g 281 #[.string s]
theorem errNew_any (s : ByteArray) (w : World) :
    Calls Try.prog 173 #[.string s] w fun e w' => ∃ v, e = .returned v ∧ IsErr w' v s ∧ Below w.heap.size w w' := by
  go_enter Try.func173, Try.ntmps173
  go_wp2
  go_ret
  exact ⟨_, rfl, ⟨w.heap.size, rfl, Blk.new _ _ _⟩, (Below.refl _ _).alloc (Nat.le_refl _) _⟩

def chartNameB (s : ByteArray) : Bool := !s.toList.isEmpty && decide (s.size ≤ 250) && wordB s ⟨#[46, 95, 45]⟩
/-- Whether an error is none. -/
def isNilB : Value → Bool | .nilIface => true | _ => false
def ErrIs (v : Value) (b : Bool) : Prop := if b then v = .nilIface else ∃ g, v = .iface 279 (.pointer (some ⟨g, 0, none⟩))
set_option maxRecDepth 100000 in
theorem vChartName_any (s : ByteArray) (w : World) (h : s.size ≤ 4611686018427380000) :
    Calls Try.prog 189 #[.string s] w fun e w' => ∃ v, e = .returned v ∧ ErrIs v (chartNameB s) ∧ Below w.heap.size w w' := by
  cases h1 : s.toList.isEmpty
  · cases h2 : decide ((250 : Int) < (s.size : Int))
    · have h4 : decide (s.size ≤ 250) = true := by simp at h2 ⊢; omega
      cases h3 : wordB s ⟨#[46, 95, 45]⟩
      · have hf : chartNameB s = false := by simp [chartNameB, h1, h3]
        have HF := Lib.hid hf
        have H3 := Lib.hid h3
        clear hf h3 h4
        go_enter Try.func189, Try.ntmps189
        go_wp2_with (first
          | (go_at_call 146; (with_reducible refine (word_any s ⟨#[46, 95, 45]⟩ _ (Nat.le_trans (Nat.add_le_add_right h 3) (by omega))).mono ?_); rintro e w' ⟨rfl, rfl⟩; rw [H3.out])
          | (go_at_call 173; (with_reducible refine (errNew_any _ _).mono ?_); rintro e w1 ⟨v, rfl, ⟨g, rfl, hg⟩, hb⟩))
        go_ret
        exact ⟨_, rfl, by rw [HF.out]; exact ⟨g, rfl⟩, hb⟩
      · have hf : chartNameB s = true := by simp [chartNameB, h1, h3, h4]
        have HF := Lib.hid hf
        have H3 := Lib.hid h3
        clear hf h3 h4
        go_enter Try.func189, Try.ntmps189
        go_wp2_with (first
          | (go_at_call 146; (with_reducible refine (word_any s ⟨#[46, 95, 45]⟩ _ (Nat.le_trans (Nat.add_le_add_right h 3) (by omega))).mono ?_); rintro e w' ⟨rfl, rfl⟩; rw [H3.out])
          | (go_at_call 173; (with_reducible refine (errNew_any _ _).mono ?_); rintro e w1 ⟨v, rfl, ⟨g, rfl, hg⟩, hb⟩))
        go_ret
        exact ⟨_, rfl, by rw [HF.out]; exact rfl, Below.refl _ _⟩
    · have hf : chartNameB s = false := by simp at h2; simp [chartNameB]; omega
      have HF := Lib.hid hf
      clear hf
      go_enter Try.func189, Try.ntmps189
      go_wp2_with (go_at_call 173; (with_reducible refine (errNew_any _ _).mono ?_); rintro e w1 ⟨v, rfl, ⟨g, rfl, hg⟩, hb⟩)
      go_ret
      exact ⟨_, rfl, by rw [HF.out]; exact ⟨g, rfl⟩, hb⟩
  · have hf : chartNameB s = false := by simp [chartNameB, h1]
    have HF := Lib.hid hf
    clear hf
    go_enter Try.func189, Try.ntmps189
    go_wp2_with (go_at_call 173; (with_reducible refine (errNew_any _ _).mono ?_); rintro e w1 ⟨v, rfl, ⟨g, rfl, hg⟩, hb⟩)
    go_ret
    exact ⟨_, rfl, by rw [HF.out]; exact ⟨g, rfl⟩, hb⟩
theorem zzName_any (s : ByteArray) (w : World) (h : s.size ≤ 4611686018427380000) :
    Calls Try.prog 136 #[.string s] w fun e w' => ∃ v, e = .returned v ∧ ErrIs v (chartNameB s) ∧ Below w.heap.size w w' := by
  go_enter Try.func136, Try.ntmps136
  go_wp2_with (go_at_call 189; (with_reducible refine (vChartName_any _ _ h).mono ?_); rintro e w1 ⟨v, rfl, hv, hb⟩)
  go_ret
  exact ⟨_, rfl, hv, hb⟩
theorem chartName_any (s : ByteArray) (w : World) (h : s.size ≤ 4611686018427380000) :
    Calls Try.prog 73 #[.string s] w fun e w' => e = .returned (.bool (chartNameB s)) ∧ Below w.heap.size w w' := by
  cases hc : chartNameB s
  · have hz := fun W => zzName_any s W h
    rw [hc] at hz
    have HZ := Lib.hid hz
    clear hz hc
    go_enter Try.func73, Try.ntmps73
    go_wp2_with (go_at_call 136; (with_reducible refine (HZ.out _).mono ?_); rintro e w1 ⟨v, rfl, ⟨g, rfl⟩, hb⟩)
    go_ret
    exact ⟨rfl, hb⟩
  · have hz := fun W => zzName_any s W h
    rw [hc] at hz
    have HZ := Lib.hid hz
    clear hz hc
    go_enter Try.func73, Try.ntmps73
    go_wp2_with (go_at_call 136; (with_reducible refine (HZ.out _).mono ?_); rintro e w1 ⟨v, rfl, hv, hb⟩; obtain rfl : v = .nilIface := hv)
    go_ret
    exact ⟨rfl, hb⟩
theorem chartNameA : chartNameB ⟨#[97]⟩ = true := by decide +kernel
theorem hlLives_any (w : World) : Calls Try.prog 23 #[] w fun e w' => e = .returned (.bool true) ∧ Below w.heap.size w w' := by
  have hz := fun W => chartName_any ⟨#[97]⟩ W (Nat.le_of_ble_eq_true rfl)
  rw [chartNameA] at hz
  have HZ := Lib.hid hz
  clear hz
  go_enter Try.func23, Try.ntmps23
  go_wp2_with (go_at_call 73; (with_reducible refine (HZ.out _).mono ?_); rintro e w1 ⟨rfl, hb⟩)
  go_ret
  exact ⟨rfl, hb⟩
end Go.Proofs.Ytkjcedlgljeoiaa
