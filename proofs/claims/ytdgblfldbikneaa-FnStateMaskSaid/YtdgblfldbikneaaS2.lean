/- Contracts of stOr, SetStateMask, StateMask; the walk of the law FnStateMask. -/
import Derived.Test.YtdgblfldbikneaaS0
import Derived.Test.YtdgblfldbikneaaCore
namespace Go.Proofs.Ytdgblfldbikneaa
open Go.RowKit

def orF (xs : List ByteArray) : Int := xs.foldl (fun a s => bits .or .u64 a (stN s.toList)) 0
theorem orF_snoc (xs : List ByteArray) (s : ByteArray) : orF (xs ++ [s]) = bits .or .u64 (orF xs) (stN s.toList) := by simp [orF]

theorem stOr_any (A : Option Addr) (c : Nat) (xs : List ByteArray) (w : World) (h : Sl w A (xs.map Value.string)) :
    Calls Try.prog 27 #[.slice A xs.length c] w fun e w' => e = .returned (.int .u64 (orF xs)) ∧ w = w' := by
  have hl : xs.length ≤ 9223372036854775807 := by simpa using h.1
  have H := Lib.hid h
  clear h
  go_enter Try.func27, Try.ntmps27
  go_wp2
  go_loop [3, 8] (fun v i => ∃ k : Nat, k ≤ xs.length ∧ i = .int .i64 k ∧ v = .int .u64 (orF (xs.take k))) (fun _ i => xs.length - (intOf i).toNat)
  case atStart => exact ⟨0, Nat.zero_le _, rfl, rfl⟩
  case round =>
    obtain ⟨k, hk, rfl, rfl⟩ := hrel
    by_cases hlt : k < xs.length
    · obtain ⟨ad, rfl, hx⟩ := H.out.at_ (j := k) (u := .string xs[k]) (by simp [hlt])
      have hs : Hid (orF (xs.take (k + 1)) = bits .or .u64 (orF (xs.take k)) (stN xs[k].toList)) := by
        rw [List.take_succ_eq_append_getElem hlt]; exact orF_snoc _ _
      clear H
      go_wp2_with (go_at_call 16; refine (stateOf_any _ _).mono ?_; rintro e w' ⟨rfl, rfl⟩)
      go_round
      case rel => exact ⟨k + 1, by omega, by go_num, by rw [hs.out]⟩
      case measure => simp [intOf]; omega
    · obtain rfl : k = xs.length := by omega
      go_wp2
      go_ret
      exact ⟨ret_int (by simp), rfl⟩

/-- The fields of a List that the flags fill. -/
def listCells (all d u ui p f s : Bool) (mask : Int) : Array Value :=
  #[.bool all, .bool false, .int .u64 0, .bool false, .bool false, .int .u64 mask, .int .i64 0, .int .i64 0, .string ByteArray.empty, .bool false, .bool false, .string ByteArray.empty,
    .bool u, .bool s, .bool ui, .bool d, .bool f, .bool p, .string ByteArray.empty]

theorem info123 : (Try.prog.info? 123).map (fun i => (i.zero, i.size)) = some (some (.agg (listCells false false false false false false false 0)), 19) := by kernel_rfl
def maskN (all d u ui p f s : Bool) : Int :=
  if all then 255
  else if (cond d 1 0 + cond u 2 0 + cond ui 4 0 + cond p 56 0 + cond f 128 0 + cond s 64 0 : Int) = 0 then 129
  else cond d 1 0 + cond u 2 0 + cond ui 4 0 + cond p 56 0 + cond f 128 0 + cond s 64 0

set_option maxHeartbeats 40000000 in
theorem setMask_any (g : Nat) (all d u ui p f s : Bool) (w : World) (h : Blk w g 123 (listCells all d u ui p f s 0)) :
    Calls Try.prog 72 #[.pointer (some ⟨g, 0, none⟩)] w fun e w' => e = .returned (.tuple #[]) ∧ w.setCell ⟨g, 5, none⟩ (.int .u64 (maskN all d u ui p f s)) = w' := by
  have c0 : w.cell? ⟨g, 0, none⟩ = some (.bool all) := h.cell 0
  have c5 : w.cell? ⟨g, 5, none⟩ = some (.int .u64 0) := h.cell 5
  have c12 : w.cell? ⟨g, 12, none⟩ = some (.bool u) := h.cell 12
  have c13 : w.cell? ⟨g, 13, none⟩ = some (.bool s) := h.cell 13
  have c14 : w.cell? ⟨g, 14, none⟩ = some (.bool ui) := h.cell 14
  have c15 : w.cell? ⟨g, 15, none⟩ = some (.bool d) := h.cell 15
  have c16 : w.cell? ⟨g, 16, none⟩ = some (.bool f) := h.cell 16
  have c17 : w.cell? ⟨g, 17, none⟩ = some (.bool p) := h.cell 17
  have f5 : w.frozen? ⟨g, 5, none⟩ = false := h.frozen 5
  clear h
  cases all
  · cases d <;> cases u <;> cases ui <;> cases p <;> cases f <;> cases s <;>
    (go_enter Try.func72, Try.ntmps72
     go_wp2
     first | go_end0 | refine bodyPost_ret (results_none rfl _ _ _) rfl ?_
     exact ⟨rfl, rfl⟩)
  · go_enter Try.func72, Try.ntmps72
    go_wp2
    first | go_end0 | refine bodyPost_ret (results_none rfl _ _ _) rfl ?_
    exact ⟨rfl, rfl⟩
end Go.Proofs.Ytdgblfldbikneaa
