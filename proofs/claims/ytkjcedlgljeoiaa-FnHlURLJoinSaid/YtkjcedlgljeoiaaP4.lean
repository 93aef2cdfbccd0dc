/- Contracts: plain.Join, plain.Split, plain.ReplaceAll, Transform. -/
import Derived.Test.YtkjcedlgljeoiaaP3
namespace Go.Proofs.Ytkjcedlgljeoiaa
open Go.RowKit Go.Lib

def joinF (sep : ByteArray) : List ByteArray → ByteArray
  | [] => ByteArray.empty
  | [x] => x
  | x :: y :: r => x ++ (sep ++ joinF sep (y :: r))
theorem ba_assoc (a b c : ByteArray) : a ++ b ++ c = a ++ (b ++ c) := by
  apply ByteArray.ext; simp [ByteArray.data_append, Array.append_assoc]
theorem joinF_snoc (sep : ByteArray) (x : ByteArray) : ∀ l : List ByteArray, l ≠ [] → joinF sep (l ++ [x]) = joinF sep l ++ sep ++ x
  | [], h => absurd rfl h
  | [y], _ => by simp [joinF, ba_assoc]
  | y :: z :: r, _ => by
    have ih := joinF_snoc sep x (z :: r) (by simp)
    simp only [List.cons_append] at ih ⊢
    simp only [joinF]
    rw [ih]
    simp [ba_assoc]
def szSum (xs : List ByteArray) : Nat := (xs.map ByteArray.size).sum
theorem joinF_size (sep : ByteArray) : ∀ l : List ByteArray, (joinF sep l).size ≤ szSum l + l.length * sep.size
  | [] => by simp [joinF, szSum]
  | [y] => by simp [joinF, szSum]
  | y :: z :: r => by
    have ih := joinF_size sep (z :: r)
    simp only [joinF, ByteArray.size_append]
    have h2 : szSum (y :: z :: r) = y.size + szSum (z :: r) := by simp [szSum]
    have h3 : (y :: z :: r).length * sep.size = sep.size + (z :: r).length * sep.size := by simp [Nat.add_mul]; omega
    rw [h2, h3]
    omega
theorem szSum_take (xs : List ByteArray) (k : Nat) : szSum (xs.take k) ≤ szSum xs := by
  induction xs generalizing k with
  | nil => simp
  | cons x xs ih =>
    cases k with
    | zero => simp [szSum]
    | succ k =>
      have := ih k
      simp [szSum] at this ⊢
      omega
theorem info5 : (Try.prog.info? 5).map (fun i => (i.zero, i.size, i.bytes)) = some (some (.int .u8 0), 1, 1) := by kernel_rfl
theorem info9 : (Try.prog.info? 9).map (fun i => (i.zero, i.size, i.bytes)) = some (some (.string ByteArray.empty), 1, 16) := by kernel_rfl

theorem joinF_take (sep : ByteArray) (xs : List ByteArray) (k : Nat) (h : k < xs.length) (h0 : 0 < k) : joinF sep (xs.take (k + 1)) = joinF sep (xs.take k) ++ sep ++ xs[k] := by
  rw [List.take_succ_eq_append_getElem h]
  exact joinF_snoc sep _ _ (by
    intro e
    have h2 : (xs.take k).length = 0 := by rw [e]; rfl
    rw [List.length_take] at h2
    omega)
theorem joinF_take_size (sep : ByteArray) (xs : List ByteArray) (k : Nat) : (joinF sep (xs.take k)).size ≤ szSum xs + xs.length * sep.size := by
  have h1 := joinF_size sep (xs.take k)
  have h2 := szSum_take xs k
  have h3 : (xs.take k).length * sep.size ≤ xs.length * sep.size := Nat.mul_le_mul_right _ (by simp; omega)
  omega

set_option maxHeartbeats 1000000 in
theorem join_any (A : Option Addr) (c : Nat) (xs : List ByteArray) (sep : ByteArray) (w : World) (h : Sl w A (strs xs)) (hs : szSum xs + xs.length * sep.size ≤ 70368744177664) :
    Calls Try.prog 195 #[.slice A xs.length c, .string sep] w fun e w' => e = .returned (.string (joinF sep xs)) ∧ Below w.heap.size w w' := by
  have hl : xs.length ≤ 9223372036854775807 := by simpa [strs_len] using h.1
  have H := Lib.hid h
  clear h
  go_enter Try.func195, Try.ntmps195
  go_wp2
  go_loopw [5, 10] (fun v i wr => ∃ k : Nat, k ≤ xs.length ∧ i = .int .i64 k ∧ wr.ownsRow w.heap.size 5 1 v (joinF sep (xs.take k)).size (strCells (joinF sep (xs.take k))) ∧ Below w.heap.size w wr) (fun _ i _ => xs.length - (intOf i).toNat)
  case atStart => exact ⟨0, Nat.zero_le _, rfl, own_nil _ _ _ _, Below.refl _ _⟩
  case round =>
    obtain ⟨k, hk, rfl, hown, hbel⟩ := hrel
    by_cases hlt : k < xs.length
    · obtain ⟨ad, rfl, hx⟩ := strs_at (H.out.below hbel) hlt
      have hz1 := joinF_take_size sep xs k
      have hz2 := joinF_take_size sep xs (k + 1)
      have HO := Lib.hid hown
      have HB := Lib.hid hbel
      clear hown hbel
      by_cases h0 : 0 < k
      · have hj := joinF_take sep xs k hlt h0
        have hzz := congrArg ByteArray.size hj
        simp only [ByteArray.size_append] at hzz
        have HJ := Lib.hid hj
        have HZ := Lib.hid hzz
        clear hj hzz
        go_wp2_with (first
          | ((with_reducible refine at_dst (N := 19) rfl ?_); refine ev_apps rfl _ _ 148 9 5 rfl Try.underlying148 Try.underlying9 info5 w.heap.size _ _ sep rfl HO.out rfl (by have := HZ.out; omega) HB.out.size ?_; intro v1 w1 ho1 hg1; have HO1 := Lib.hid ho1; have HB1 := Lib.hid (below_row HB.out hg1 HB.out.size (own_ge HO.out)); clear ho1 hg1)
          | ((with_reducible refine at_dst (N := 22) rfl ?_); refine ev_apps rfl _ _ 148 9 5 rfl Try.underlying148 Try.underlying9 info5 w.heap.size _ _ xs[k] rfl HO1.out rfl (by have := HZ.out; simp only [ByteArray.size_append]; omega) HB1.out.size ?_; intro v2 w2 ho2 hg2; have HO2 := Lib.hid ho2; have HB2 := Lib.hid (below_row HB1.out hg2 HB1.out.size (own_ge HO1.out)); clear ho2 hg2))
        go_roundw
        case rel => exact ⟨k + 1, by omega, by go_num, by rw [HJ.out]; exact HO2.out, HB2.out⟩
        case measure => simp [intOf]; omega
      · obtain rfl : k = 0 := by omega
        have hx0 : wr.cell? ad = some (.string xs[0]) := by simpa [Addr.add] using hx
        clear hx
        have hj : joinF sep (xs.take (0 + 1)) = joinF sep (xs.take 0) ++ xs[0] := by
          rw [List.take_succ_eq_append_getElem hlt]
          simp [joinF]
        have hzz := congrArg ByteArray.size hj
        simp only [ByteArray.size_append] at hzz
        have HJ := Lib.hid hj
        have HZ := Lib.hid hzz
        clear hj hzz
        go_wp2_with ((with_reducible refine at_dst (N := 22) rfl ?_); refine ev_apps rfl _ _ 148 9 5 rfl Try.underlying148 Try.underlying9 info5 w.heap.size _ _ xs[0] rfl HO.out rfl (by have := HZ.out; omega) HB.out.size ?_; intro v2 w2 ho2 hg2; have HO2 := Lib.hid ho2; have HB2 := Lib.hid (below_row HB.out hg2 HB.out.size (own_ge HO.out)); clear ho2 hg2)
        go_roundw
        case rel => exact ⟨0 + 1, by omega, by go_num, by rw [HJ.out]; exact HO2.out, HB2.out⟩
        case measure => simp [intOf]; omega
    · have he : xs.take k = xs := List.take_of_length_le (by omega)
      rw [he] at hown
      have hc := fun W (hW : W = wr) => by
        subst hW
        exact own_text (P := Try.prog) Try.underlying148 Try.underlying5 Try.underlying9 hown
      have hcv := hc wr rfl
      clear hc he hown
      go_wp2
      go_ret
      exact ⟨rfl, hbel⟩
end Go.Proofs.Ytkjcedlgljeoiaa
