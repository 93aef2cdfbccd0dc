/- Contracts of the small functions on statuses: StateOf, FromName, Pending, IsPending, stStatuses, for every text. -/
import Derived.Test.YtdgblfldbikneaaProg
import Derived.WalkKit
import Derived.WalkLawsBesides
import Derived.WalkSpells
import Derived.Lib.Hide
namespace Go.Proofs.Ytdgblfldbikneaa
open Go.RowKit

def stN (l : List UInt8) : Int :=
  if l == [100, 101, 112, 108, 111, 121, 101, 100] then 1
  else if l == [117, 110, 105, 110, 115, 116, 97, 108, 108, 101, 100] then 2
  else if l == [115, 117, 112, 101, 114, 115, 101, 100, 101, 100] then 64
  else if l == [102, 97, 105, 108, 101, 100] then 128
  else if l == [117, 110, 105, 110, 115, 116, 97, 108, 108, 105, 110, 103] then 4
  else if l == [112, 101, 110, 100, 105, 110, 103, 45, 105, 110, 115, 116, 97, 108, 108] then 8
  else if l == [112, 101, 110, 100, 105, 110, 103, 45, 117, 112, 103, 114, 97, 100, 101] then 16
  else if l == [112, 101, 110, 100, 105, 110, 103, 45, 114, 111, 108, 108, 98, 97, 99, 107] then 32
  else 256
def pendB (l : List UInt8) : Bool :=
  l == [112, 101, 110, 100, 105, 110, 103, 45, 105, 110, 115, 116, 97, 108, 108] ||
  l == [112, 101, 110, 100, 105, 110, 103, 45, 117, 112, 103, 114, 97, 100, 101] ||
  l == [112, 101, 110, 100, 105, 110, 103, 45, 114, 111, 108, 108, 98, 97, 99, 107]
def stList : List ByteArray := [⟨#[117, 110, 107, 110, 111, 119, 110]⟩, ⟨#[100, 101, 112, 108, 111, 121, 101, 100]⟩, ⟨#[117, 110, 105, 110, 115, 116, 97, 108, 108, 101, 100]⟩,
  ⟨#[115, 117, 112, 101, 114, 115, 101, 100, 101, 100]⟩, ⟨#[102, 97, 105, 108, 101, 100]⟩, ⟨#[117, 110, 105, 110, 115, 116, 97, 108, 108, 105, 110, 103]⟩,
  ⟨#[112, 101, 110, 100, 105, 110, 103, 45, 105, 110, 115, 116, 97, 108, 108]⟩, ⟨#[112, 101, 110, 100, 105, 110, 103, 45, 117, 112, 103, 114, 97, 100, 101]⟩,
  ⟨#[112, 101, 110, 100, 105, 110, 103, 45, 114, 111, 108, 108, 98, 97, 99, 107]⟩]
def stCells : Array Value := (stList.map Value.string).toArray

theorem fromName_any (m : Int) (s : ByteArray) (w : World) :
    Calls Try.prog 59 #[.int .u64 m, .string s] w fun e w' => e = .returned (.int .u64 (stN s.toList)) ∧ w = w' := by
  go_enter Try.func59, Try.ntmps59
  go_wp2
  all_goals
    go_ret
    exact ⟨by simp [stN, *], rfl⟩

theorem stateOf_any (s : ByteArray) (w : World) :
    Calls Try.prog 16 #[.string s] w fun e w' => e = .returned (.int .u64 (stN s.toList)) ∧ w = w' := by
  go_enter Try.func16, Try.ntmps16
  go_wp2_with (go_at_call 59; refine (fromName_any _ _ _).mono ?_; rintro e w' ⟨rfl, rfl⟩)
  go_ret
  exact ⟨rfl, rfl⟩

theorem isPending_any (s : ByteArray) (w : World) :
    Calls Try.prog 60 #[.string s] w fun e w' => e = .returned (.bool (pendB s.toList)) ∧ w = w' := by
  cases h1 : s.toList == [112, 101, 110, 100, 105, 110, 103, 45, 105, 110, 115, 116, 97, 108, 108] <;>
  cases h2 : s.toList == [112, 101, 110, 100, 105, 110, 103, 45, 117, 112, 103, 114, 97, 100, 101] <;>
  (go_enter Try.func60, Try.ntmps60
   go_wp2
   go_ret
   exact ⟨by simp [pendB, h1, h2], rfl⟩)

theorem pending_any (s : ByteArray) (w : World) :
    Calls Try.prog 17 #[.string s] w fun e w' => e = .returned (.bool (pendB s.toList)) ∧ w = w' := by
  go_enter Try.func17, Try.ntmps17
  go_wp2_with (go_at_call 60; refine (isPending_any _ _).mono ?_; rintro e w' ⟨rfl, rfl⟩)
  go_ret
  exact ⟨rfl, rfl⟩

theorem stStatuses_any (w : World) :
    Calls Try.prog 15 #[] w fun e w' => e = .returned (.slice (some ⟨w.heap.size, 0, none⟩) 9 9) ∧ w.alloc (.cells stCells 9) = w' := by
  go_enter Try.func15, Try.ntmps15
  go_wp2
  go_ret
  exact ⟨rfl, rfl⟩
end Go.Proofs.Ytdgblfldbikneaa
