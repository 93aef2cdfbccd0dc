/- The walk of the law FnStates: for all a, b it returns true. -/
import Derived.Test.YtdgblfldbikneaaS0
import Derived.Deep.RegionWith
import Derived.Deep.DeepCutAuto
namespace Go.Proofs.Ytdgblfldbikneaa
open Go.RowKit

/-- What the law asks of two statuses. -/
def stGood (sx sy : ByteArray) : Prop :=
  ¬ stN sx.toList = 0 ∧ bits .and .u64 (stN sx.toList) (IntKind.u64.wrap (stN sx.toList - 1)) = 0 ∧ (stN sx.toList == stN sy.toList) = (sx.toList == sy.toList) ∧
  (8 < (sx.size : Int) → pendB sx.toList = ((sx.extract 0 8).toList == [112, 101, 110, 100, 105, 110, 103, 45])) ∧ ((sx.size : Int) ≤ 8 → ¬ pendB sx.toList = true)

set_option maxHeartbeats 1000000 in
theorem fnStates_core (x y : Nat) (a b : Int) (sx sy : ByteArray) (w : World) (ha : a.tmod 9 = (x : Int)) (hb : b.tmod 9 = (y : Int)) (hx : x < 9) (hy : y < 9)
    (cx : stCells[x]? = some (.string sx)) (cy : stCells[y]? = some (.string sy)) (H : stGood sx sy) :
    Calls Try.prog 3 #[.int .u8 a, .int .u8 b] w fun e w' => e = .returned (.bool true) ∧ Below w.heap.size w w' := by
  go_enter Try.func3, Try.ntmps3
  go_upto_region 1 with fail
  go_cut [5, 6] (fun s5 s6 wx => s5 = .string sx ∧ s6 = .string sy ∧ Below w.heap.size w wx)
  case first =>
    clear H
    go_region_with (go_at_call 15; refine (stStatuses_any _).mono ?_; rintro e w' ⟨rfl, rfl⟩)
    all_goals (go_wp2_with fail; go_meet; exact ⟨rfl, rfl, by first | exact ((((Below.refl _ _).alloc (Nat.le_refl _) _).alloc (by simp) _).drew) | exact ((((Below.refl _ _).alloc (Nat.le_refl _) _).alloc (by simp) _))⟩)
  case rest =>
    obtain ⟨rfl, rfl, hb1⟩ := hcut
    clear ha hb cx cy
    go_wp2_with (first | (go_at_call 16; refine (stateOf_any _ _).mono ?_; rintro e w' ⟨rfl, rfl⟩) | (go_at_call 17; refine (pending_any _ _).mono ?_; rintro e w' ⟨rfl, rfl⟩))
    all_goals
      obtain ⟨h1, h2, h3, h4, h5⟩ := H
      first
        | exact absurd ‹stN sx.toList = 0› h1
        | exact absurd h2 ‹_›
        | exact absurd h3 ‹_›
        | exact absurd (h4 ‹_›) ‹_›
        | exact absurd ‹pendB sx.toList = true› (h5 ‹_›)
        | (go_ret; exact ⟨by simp [pendB, h1], hb1⟩)

theorem stGood_all : ∀ x : Fin 9, ∀ y : Fin 9, stGood (stList.getD x.val ByteArray.empty) (stList.getD y.val ByteArray.empty) := by
  unfold stGood
  decide +kernel
theorem stCells_get (x : Nat) (h : x < 9) : stCells[x]? = some (.string (stList.getD x ByteArray.empty)) := by
  have : ∀ x : Fin 9, stList[x.val]? = some (stList.getD x.val ByteArray.empty) := by decide +kernel
  have h2 := this ⟨x, h⟩
  unfold stCells
  simp only [List.getElem?_toArray, List.getElem?_map]
  rw [h2]
  rfl

theorem fnStates_walk (a b : Int) (w : World) (ha : 0 ≤ a) (hb : 0 ≤ b) :
    Calls Try.prog 3 #[.int .u8 a, .int .u8 b] w fun e w' => e = .returned (.bool true) ∧ Below w.heap.size w w' := by
  have ha1 := Int.tmod_nonneg 9 ha
  have hb1 := Int.tmod_nonneg 9 hb
  have ha2 := Int.tmod_lt_of_pos a (show (0 : Int) < 9 by omega)
  have hb2 := Int.tmod_lt_of_pos b (show (0 : Int) < 9 by omega)
  obtain ⟨x, hx⟩ := Int.eq_ofNat_of_zero_le ha1
  obtain ⟨y, hy⟩ := Int.eq_ofNat_of_zero_le hb1
  have lx : x < 9 := by omega
  have ly : y < 9 := by omega
  exact fnStates_core x y a b _ _ w hx hy lx ly (stCells_get x lx) (stCells_get y ly) (stGood_all ⟨x, lx⟩ ⟨y, ly⟩)
end Go.Proofs.Ytdgblfldbikneaa
