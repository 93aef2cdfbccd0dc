/- Bytes that are names: special, alnum, hlSpecial, hlName. -/
import Derived.Test.YtkjcedlgljeoiaaN5
import Derived.Test.YtkjcedlgljeoiaaWr
namespace Go.Proofs.Ytkjcedlgljeoiaa
open Go.RowKit Go.Lib

def spU (n : Nat) : Bool := n == 42 || n == 35 || n == 36 || n == 64 || n == 33 || n == 63 || n == 45 || (48 ≤ n && n ≤ 57)
def nmU (n : Nat) : Bool := n == 95 || alnumU n
set_option maxRecDepth 100000 in
set_option maxHeartbeats 4000000 in
theorem special_any (n : Nat) (w : World) (h : n ≤ 255) :
    Calls Try.prog 187 #[.int .u8 n] w fun e w' => e = .returned (.bool (spU n)) ∧ w = w' := by
  cases hs : spU n
  · have H : ∀ k : Nat, spU k = true → ((n : Int) == (k : Int)) = false := fun k hk => by
      by_cases e : n = k
      · subst e; rw [hs] at hk; exact absurd hk (by simp)
      · have : ¬ (n : Int) = (k : Int) := by omega
        simpa using this
    have d1 : ((n : Int) == 42) = false := H 42 rfl
    have d2 : ((n : Int) == 35) = false := H 35 rfl
    have d3 : ((n : Int) == 36) = false := H 36 rfl
    have d4 : ((n : Int) == 64) = false := H 64 rfl
    have d5 : ((n : Int) == 33) = false := H 33 rfl
    have d6 : ((n : Int) == 63) = false := H 63 rfl
    have d7 : ((n : Int) == 45) = false := H 45 rfl
    have d8 : ((n : Int) == 48) = false := H 48 rfl
    have d9 : ((n : Int) == 49) = false := H 49 rfl
    have d10 : ((n : Int) == 50) = false := H 50 rfl
    have d11 : ((n : Int) == 51) = false := H 51 rfl
    have d12 : ((n : Int) == 52) = false := H 52 rfl
    have d13 : ((n : Int) == 53) = false := H 53 rfl
    have d14 : ((n : Int) == 54) = false := H 54 rfl
    have d15 : ((n : Int) == 55) = false := H 55 rfl
    have d16 : ((n : Int) == 56) = false := H 56 rfl
    have d17 : ((n : Int) == 57) = false := H 57 rfl
    clear H hs
    go_enter Try.func187, Try.ntmps187
    go_wp2
    go_ret
    exact ⟨ret_bool rfl, rfl⟩
  · have hc : n = 42 ∨ n = 35 ∨ n = 36 ∨ n = 64 ∨ n = 33 ∨ n = 63 ∨ n = 45 ∨ n = 48 ∨ n = 49 ∨ n = 50 ∨ n = 51 ∨ n = 52 ∨ n = 53 ∨ n = 54 ∨ n = 55 ∨ n = 56 ∨ n = 57 := by
      simp [spU] at hs; omega
    clear hs
    rcases hc with rfl | rfl | rfl | rfl | rfl | rfl | rfl | rfl | rfl | rfl | rfl | rfl | rfl | rfl | rfl | rfl | rfl <;>
    · go_enter Try.func187, Try.ntmps187
      go_wp2
      go_ret
      exact ⟨ret_bool rfl, rfl⟩
set_option maxRecDepth 100000 in
set_option maxHeartbeats 4000000 in
theorem alnum_any (n : Nat) (w : World) (h : n ≤ 255) :
    Calls Try.prog 188 #[.int .u8 n] w fun e w' => e = .returned (.bool (nmU n)) ∧ w = w' := by
  have hc : (n < 48) ∨ (48 ≤ n ∧ n ≤ 57) ∨ (58 ≤ n ∧ n ≤ 64) ∨ (65 ≤ n ∧ n ≤ 90) ∨ (91 ≤ n ∧ n ≤ 94) ∨ (n = 95) ∨ (n = 96) ∨ (97 ≤ n ∧ n ≤ 122) ∨ (123 ≤ n) := by omega
  rcases hc with hc | hc | hc | hc | hc | hc | hc | hc | hc
  · have hv : nmU n = false := by simp [nmU, alnumU]; omega
    rw [hv]
    have d0 : ((n : Int) == 95) = false := by simp; omega
    have d1 : decide (48 ≤ (n : Int)) = false := by simp; omega
    have d2 : decide ((n : Int) ≤ 57) = true := by simp; omega
    have d3 : decide (97 ≤ (n : Int)) = false := by simp; omega
    have d4 : decide ((n : Int) ≤ 122) = true := by simp; omega
    have d5 : decide (65 ≤ (n : Int)) = false := by simp; omega
    have d6 : decide ((n : Int) ≤ 90) = true := by simp; omega
    clear hv hc
    go_enter Try.func188, Try.ntmps188
    go_wp2
    go_ret
    exact ⟨ret_bool rfl, rfl⟩
  · have hv : nmU n = true := by simp [nmU, alnumU]; omega
    rw [hv]
    have d0 : ((n : Int) == 95) = false := by simp; omega
    have d1 : decide (48 ≤ (n : Int)) = true := by simp; omega
    have d2 : decide ((n : Int) ≤ 57) = true := by simp; omega
    have d3 : decide (97 ≤ (n : Int)) = false := by simp; omega
    have d4 : decide ((n : Int) ≤ 122) = true := by simp; omega
    have d5 : decide (65 ≤ (n : Int)) = false := by simp; omega
    have d6 : decide ((n : Int) ≤ 90) = true := by simp; omega
    clear hv hc
    go_enter Try.func188, Try.ntmps188
    go_wp2
    go_ret
    exact ⟨ret_bool rfl, rfl⟩
  · have hv : nmU n = false := by simp [nmU, alnumU]; omega
    rw [hv]
    have d0 : ((n : Int) == 95) = false := by simp; omega
    have d1 : decide (48 ≤ (n : Int)) = true := by simp; omega
    have d2 : decide ((n : Int) ≤ 57) = false := by simp; omega
    have d3 : decide (97 ≤ (n : Int)) = false := by simp; omega
    have d4 : decide ((n : Int) ≤ 122) = true := by simp; omega
    have d5 : decide (65 ≤ (n : Int)) = false := by simp; omega
    have d6 : decide ((n : Int) ≤ 90) = true := by simp; omega
    clear hv hc
    go_enter Try.func188, Try.ntmps188
    go_wp2
    go_ret
    exact ⟨ret_bool rfl, rfl⟩
  · have hv : nmU n = true := by simp [nmU, alnumU]; omega
    rw [hv]
    have d0 : ((n : Int) == 95) = false := by simp; omega
    have d1 : decide (48 ≤ (n : Int)) = true := by simp; omega
    have d2 : decide ((n : Int) ≤ 57) = false := by simp; omega
    have d3 : decide (97 ≤ (n : Int)) = false := by simp; omega
    have d4 : decide ((n : Int) ≤ 122) = true := by simp; omega
    have d5 : decide (65 ≤ (n : Int)) = true := by simp; omega
    have d6 : decide ((n : Int) ≤ 90) = true := by simp; omega
    clear hv hc
    go_enter Try.func188, Try.ntmps188
    go_wp2
    go_ret
    exact ⟨ret_bool rfl, rfl⟩
  · have hv : nmU n = false := by simp [nmU, alnumU]; omega
    rw [hv]
    have d0 : ((n : Int) == 95) = false := by simp; omega
    have d1 : decide (48 ≤ (n : Int)) = true := by simp; omega
    have d2 : decide ((n : Int) ≤ 57) = false := by simp; omega
    have d3 : decide (97 ≤ (n : Int)) = false := by simp; omega
    have d4 : decide ((n : Int) ≤ 122) = true := by simp; omega
    have d5 : decide (65 ≤ (n : Int)) = true := by simp; omega
    have d6 : decide ((n : Int) ≤ 90) = false := by simp; omega
    clear hv hc
    go_enter Try.func188, Try.ntmps188
    go_wp2
    go_ret
    exact ⟨ret_bool rfl, rfl⟩
  · have hv : nmU n = true := by simp [nmU, alnumU]; omega
    rw [hv]
    have d0 : ((n : Int) == 95) = true := by simp; omega
    have d1 : decide (48 ≤ (n : Int)) = true := by simp; omega
    have d2 : decide ((n : Int) ≤ 57) = false := by simp; omega
    have d3 : decide (97 ≤ (n : Int)) = false := by simp; omega
    have d4 : decide ((n : Int) ≤ 122) = true := by simp; omega
    have d5 : decide (65 ≤ (n : Int)) = true := by simp; omega
    have d6 : decide ((n : Int) ≤ 90) = false := by simp; omega
    clear hv hc
    go_enter Try.func188, Try.ntmps188
    go_wp2
    go_ret
    exact ⟨ret_bool rfl, rfl⟩
  · have hv : nmU n = false := by simp [nmU, alnumU]; omega
    rw [hv]
    have d0 : ((n : Int) == 95) = false := by simp; omega
    have d1 : decide (48 ≤ (n : Int)) = true := by simp; omega
    have d2 : decide ((n : Int) ≤ 57) = false := by simp; omega
    have d3 : decide (97 ≤ (n : Int)) = false := by simp; omega
    have d4 : decide ((n : Int) ≤ 122) = true := by simp; omega
    have d5 : decide (65 ≤ (n : Int)) = true := by simp; omega
    have d6 : decide ((n : Int) ≤ 90) = false := by simp; omega
    clear hv hc
    go_enter Try.func188, Try.ntmps188
    go_wp2
    go_ret
    exact ⟨ret_bool rfl, rfl⟩
  · have hv : nmU n = true := by simp [nmU, alnumU]; omega
    rw [hv]
    have d0 : ((n : Int) == 95) = false := by simp; omega
    have d1 : decide (48 ≤ (n : Int)) = true := by simp; omega
    have d2 : decide ((n : Int) ≤ 57) = false := by simp; omega
    have d3 : decide (97 ≤ (n : Int)) = true := by simp; omega
    have d4 : decide ((n : Int) ≤ 122) = true := by simp; omega
    have d5 : decide (65 ≤ (n : Int)) = true := by simp; omega
    have d6 : decide ((n : Int) ≤ 90) = false := by simp; omega
    clear hv hc
    go_enter Try.func188, Try.ntmps188
    go_wp2
    go_ret
    exact ⟨ret_bool rfl, rfl⟩
  · have hv : nmU n = false := by simp [nmU, alnumU]; omega
    rw [hv]
    have d0 : ((n : Int) == 95) = false := by simp; omega
    have d1 : decide (48 ≤ (n : Int)) = true := by simp; omega
    have d2 : decide ((n : Int) ≤ 57) = false := by simp; omega
    have d3 : decide (97 ≤ (n : Int)) = true := by simp; omega
    have d4 : decide ((n : Int) ≤ 122) = false := by simp; omega
    have d5 : decide (65 ≤ (n : Int)) = true := by simp; omega
    have d6 : decide ((n : Int) ≤ 90) = false := by simp; omega
    clear hv hc
    go_enter Try.func188, Try.ntmps188
    go_wp2
    go_ret
    exact ⟨ret_bool rfl, rfl⟩
theorem enc_one {n : Nat} (h : n ≤ 127) : Utf8.encode (n : Int) = ⟨#[UInt8.ofNat n]⟩ := by
  have H : ((List.range 128).all fun n => decide ((Utf8.encode (n : Int)).data.toList = [UInt8.ofNat n])) = true := by kernel_rfl
  have := List.all_eq_true.1 H n (List.mem_range.2 (by omega))
  exact ByteArray.ext (Array.ext' (by simpa using this))
def sevenB : List ByteArray := [⟨#[42]⟩, ⟨#[35]⟩, ⟨#[36]⟩, ⟨#[64]⟩, ⟨#[33]⟩, ⟨#[63]⟩, ⟨#[45]⟩]
theorem seven_is {n : Nat} (h : n ≤ 127) : ((decide (48 ≤ n) && decide (n ≤ 57)) || oneOf (Utf8.encode (n : Int)) sevenB) = spU n := by
  have H : ((List.range 128).all fun n => ((decide (48 ≤ n) && decide (n ≤ 57)) || oneOf (Utf8.encode (n : Int)) sevenB) == spU n) = true := by kernel_rfl
  have := List.all_eq_true.1 H n (List.mem_range.2 (by omega))
  simpa using this
theorem under_is {n : Nat} (h : n ≤ 127) : allB (Utf8.encode (n : Int)) ⟨#[95]⟩ = nmU n := by
  have H : ((List.range 128).all fun n => allB (Utf8.encode (n : Int)) ⟨#[95]⟩ == nmU n) = true := by kernel_rfl
  have := List.all_eq_true.1 H n (List.mem_range.2 (by omega))
  simpa using this
end Go.Proofs.Ytkjcedlgljeoiaa
