/- Contracts of plain.Index, plain.Contains: the first place of a text in another one. -/
import Derived.Test.YtkjcedlgljeoiaaCore
import Derived.Test.YtkjcedlgljeoiaaProg
namespace Go.Proofs.Ytkjcedlgljeoiaa
open Go.RowKit

/-- The first number below n that has p. -/
def firstN (p : Nat → Bool) (n : Nat) : Option Nat := (List.range n).find? p
theorem firstN_some {p : Nat → Bool} {n k : Nat} (hk : k < n) (h : ∀ j, j < k → p j = false) (hp : p k = true) : firstN p n = some k := by
  unfold firstN
  rw [List.find?_range_eq_some]
  exact ⟨by simpa using hp, List.mem_range.2 hk, fun j hj => by simp [h j hj]⟩
theorem firstN_none {p : Nat → Bool} {n : Nat} (h : ∀ j, j < n → p j = false) : firstN p n = none := by
  unfold firstN
  rw [List.find?_eq_none]
  intro j hj
  simp [h j (List.mem_range.1 hj)]

/-- Whether sub stands in s at j. -/
def hereB (s sub : ByteArray) (j : Nat) : Bool := (s.extract j (j + sub.size)).toList == sub.toList
def idxO (s sub : ByteArray) : Option Nat := firstN (hereB s sub) (s.size + 1 - sub.size)
def idxI (s sub : ByteArray) : Int := match idxO s sub with | some k => (k : Int) | none => -1

theorem index_any (s sub : ByteArray) (w : World) (h : s.size + sub.size ≤ 4611686018427387904) :
    Calls Try.prog 145 #[.string s, .string sub] w fun e w' => e = .returned (.int .i64 (idxI s sub)) ∧ w = w' := by
  go_enter Try.func145, Try.ntmps145
  go_wp2
  go_loop [5] (fun i => ∃ k : Nat, k ≤ s.size + 1 ∧ i = .int .i64 k ∧ Hid (∀ j, j < k → hereB s sub j = false)) (fun i => s.size + 1 - (intOf i).toNat)
  case atStart => exact ⟨0, by omega, rfl, fun j hj => by omega⟩
  case round =>
    obtain ⟨k, hk, rfl, H⟩ := hrel
    by_cases hlt : k + sub.size ≤ s.size
    · cases hb : hereB s sub k
      · have h1 : ((s.extract k (k + sub.size)).toList == sub.toList) = false := hb
        go_wp2
        go_round
        case rel =>
          refine ⟨k + 1, by omega, by go_num, fun j hj => ?_⟩
          by_cases e : j = k
          · subst e; exact hb
          · exact H.out j (by omega)
        case measure => simp [intOf]; omega
      · have h1 : ((s.extract k (k + sub.size)).toList == sub.toList) = true := hb
        go_wp2
        go_ret
        exact ⟨ret_int (by unfold idxI idxO; rw [firstN_some (by omega) H.out hb]), rfl⟩
    · go_wp2
      go_ret
      exact ⟨ret_int (by unfold idxI idxO; rw [firstN_none (fun j hj => H.out j (by omega))]), rfl⟩
end Go.Proofs.Ytkjcedlgljeoiaa
