/- The walk of the law FnStateMask. -/
import Derived.Test.YtdgblfldbikneaaS3
namespace Go.Proofs.Ytdgblfldbikneaa
open Go.RowKit

abbrev nmA : ByteArray := ⟨#[100, 101, 112, 108, 111, 121, 101, 100]⟩
abbrev nmB : ByteArray := ⟨#[117, 110, 105, 110, 115, 116, 97, 108, 108, 101, 100]⟩
abbrev nmC : ByteArray := ⟨#[117, 110, 105, 110, 115, 116, 97, 108, 108, 105, 110, 103]⟩
abbrev nmD : ByteArray := ⟨#[102, 97, 105, 108, 101, 100]⟩
abbrev nmE : ByteArray := ⟨#[115, 117, 112, 101, 114, 115, 101, 100, 101, 100]⟩
abbrev nm5 : Array Value := #[.string nmA, .string nmB, .string nmC, .string nmD, .string nmE]
def orB (b : Bool) (a n : Int) : Int := if b then bits .or .u64 a n else a
def wantF (d u ui f s : Bool) : Nat → Int
  | 0 => 0
  | 1 => orB d 0 1
  | 2 => orB u (orB d 0 1) 2
  | 3 => orB ui (orB u (orB d 0 1) 2) 4
  | 4 => orB f (orB ui (orB u (orB d 0 1) 2) 4) 128
  | _ => orB s (orB f (orB ui (orB u (orB d 0 1) 2) 4) 128) 64
theorem stN_A : stN nmA.toList = 1 := by decide +kernel
theorem stN_B : stN nmB.toList = 2 := by decide +kernel
theorem stN_C : stN nmC.toList = 4 := by decide +kernel
theorem stN_D : stN nmD.toList = 128 := by decide +kernel
theorem stN_E : stN nmE.toList = 64 := by decide +kernel

abbrev nmF : ByteArray := ⟨#[112, 101, 110, 100, 105, 110, 103, 45, 105, 110, 115, 116, 97, 108, 108]⟩
abbrev nmG : ByteArray := ⟨#[112, 101, 110, 100, 105, 110, 103, 45, 117, 112, 103, 114, 97, 100, 101]⟩
abbrev nmH : ByteArray := ⟨#[112, 101, 110, 100, 105, 110, 103, 45, 114, 111, 108, 108, 98, 97, 99, 107]⟩
theorem maskEq : ∀ d u ui p f s : Bool, maskN false d u ui p f s =
    if ((if p then bits .or .u64 (wantF d u ui f s 5) 56 else wantF d u ui f s 5) == 0) then 129 else (if p then bits .or .u64 (wantF d u ui f s 5) 56 else wantF d u ui f s 5) := by
  decide +kernel
theorem maskNz : ∀ d u ui f s : Bool, (bits .or .u64 (wantF d u ui f s 5) 56 == 0) = false := by decide +kernel
theorem stOr2 (w : World) : Calls Try.prog 27 #[.slice (some ⟨w.heap.size, 0, none⟩) 2 2] (w.alloc (.cells #[.string nmA, .string nmD] 9)) fun e w' => e = .returned (.int .u64 129) ∧ w.alloc (.cells #[.string nmA, .string nmD] 9) = w' :=
  (stOr_any _ 2 [nmA, nmD] _ ((Blk.new w 9 _).sl (by simp))).mono fun e w' ⟨he, hw⟩ => ⟨by rw [he]; exact ret_int (by decide +kernel), hw⟩
theorem stOr3 (w : World) : Calls Try.prog 27 #[.slice (some ⟨w.heap.size, 0, none⟩) 3 3] (w.alloc (.cells #[.string nmF, .string nmG, .string nmH] 9)) fun e w' => e = .returned (.int .u64 56) ∧ w.alloc (.cells #[.string nmF, .string nmG, .string nmH] 9) = w' :=
  (stOr_any _ 3 [nmF, nmG, nmH] _ ((Blk.new w 9 _).sl (by simp))).mono fun e w' ⟨he, hw⟩ => ⟨by rw [he]; exact ret_int (by decide +kernel), hw⟩
theorem stateOfA (w : World) : Calls Try.prog 16 #[.string nmA] w fun e w' => e = .returned (.int .u64 1) ∧ w = w' :=
  (stateOf_any nmA w).mono fun e w' ⟨he, hw⟩ => ⟨by rw [he, stN_A], hw⟩
theorem maskAll (d u ui p f s : Bool) (w : World) : Calls Try.prog 28 #[.bool true, .bool d, .bool u, .bool ui, .bool p, .bool f, .bool s] w fun e w' => e = .returned (.int .u64 255) ∧ Below w.heap.size w w' :=
  (stateMask_any true d u ui p f s w).mono fun e w' ⟨he, hw⟩ => ⟨by rw [he]; rfl, hw⟩
theorem sl_drop {w : World} {ad : Addr} {cs : List Value} {n : Nat} (h : Sl w (some ad) cs) : Sl w (some (ad.add n)) (cs.drop n) :=
  ⟨by have := h.1; simp; omega, fun hn => by
    obtain ⟨ad', e, hc⟩ := h.2 (by simp at hn; omega)
    injection e with e
    subst e
    exact ⟨_, rfl, fun j u hu => by rw [cadd_of_add]; exact hc _ u (by rw [← hu, List.getElem?_drop])⟩⟩
theorem stOr8 (w : World) (g : Nat) (h : Blk w g 9 stCells) : Calls Try.prog 27 #[.slice (some ⟨g, 1, none⟩) 8 8] w fun e w' => e = .returned (.int .u64 255) ∧ w = w' :=
  (stOr_any _ 8 (stList.drop 1) _ (by
    have h2 := sl_drop (n := 1) (h.sl (by decide +kernel))
    exact h2)).mono fun e w' ⟨he, hw⟩ => ⟨by rw [he]; exact ret_int (by decide +kernel), hw⟩
theorem blk_two (w : World) (o : Obj) (t : TypeId) (cs : Array Value) : Blk ((w.alloc o).alloc (.cells cs t)) (w.heap.size + 1) t cs := by
  have h := Blk.new (w.alloc o) t cs
  simpa using h

set_option maxRecDepth 100000 in
set_option maxHeartbeats 4000000 in
theorem maskLoop (d u ui p f s : Bool) (w : World) :
    Calls Try.prog 7 #[.bool d, .bool u, .bool ui, .bool p, .bool f, .bool s] w fun e w' => e = .returned (.bool true) ∧ Below w.heap.size w w' := by
  go_enter Try.func7, Try.ntmps7
  go_wp2_with fail
  go_loopw [13, 24] (fun v i wr => ∃ k : Nat, k ≤ 5 ∧ i = .int .i64 k ∧ v = .int .u64 (wantF d u ui f s k) ∧ Blk wr w.heap.size 4 #[.bool d, .bool u, .bool ui, .bool f, .bool s] ∧ Below w.heap.size w wr) (fun _ i _ => 5 - (intOf i).toNat)
  case atStart => exact ⟨0, by omega, rfl, rfl, Blk.new _ _ _, (Below.refl _ _).alloc (Nat.le_refl _) _⟩
  case round =>
    obtain ⟨k, hk, rfl, rfl, hb1, hbel1⟩ := hrel
    by_cases hlt : k < 5
    · have hk5 : k = 0 ∨ k = 1 ∨ k = 2 ∨ k = 3 ∨ k = 4 := by omega
      clear hk hlt
      rcases hk5 with rfl | rfl | rfl | rfl | rfl
      · have c0 : wr.cell? ⟨w.heap.size, 0, none⟩ = some (.bool d) := hb1.cell 0
        have hsn := stN_A
        cases d <;>
        (go_wp2_with (go_at_call 16; refine (stateOf_any nmA _).mono ?_; rintro e w' ⟨rfl, rfl⟩)
         go_roundw
         case rel => exact ⟨1, by omega, rfl, by first | rfl | (rw [hsn]; rfl), by first | exact hb1 | exact hb1.below ((Below.refl _ _).alloc (Nat.le_refl _) _), by first | exact hbel1 | exact below_alloc1 hbel1 _⟩
         case measure => simp [intOf])
      · have c0 : wr.cell? ⟨w.heap.size, 1, none⟩ = some (.bool u) := hb1.cell 1
        have hsn := stN_B
        cases u <;>
        (go_wp2_with (go_at_call 16; refine (stateOf_any nmB _).mono ?_; rintro e w' ⟨rfl, rfl⟩)
         go_roundw
         case rel => exact ⟨2, by omega, rfl, by first | rfl | (rw [hsn]; rfl), by first | exact hb1 | exact hb1.below ((Below.refl _ _).alloc (Nat.le_refl _) _), by first | exact hbel1 | exact below_alloc1 hbel1 _⟩
         case measure => simp [intOf])
      · have c0 : wr.cell? ⟨w.heap.size, 2, none⟩ = some (.bool ui) := hb1.cell 2
        have hsn := stN_C
        cases ui <;>
        (go_wp2_with (go_at_call 16; refine (stateOf_any nmC _).mono ?_; rintro e w' ⟨rfl, rfl⟩)
         go_roundw
         case rel => exact ⟨3, by omega, rfl, by first | rfl | (rw [hsn]; rfl), by first | exact hb1 | exact hb1.below ((Below.refl _ _).alloc (Nat.le_refl _) _), by first | exact hbel1 | exact below_alloc1 hbel1 _⟩
         case measure => simp [intOf])
      · have c0 : wr.cell? ⟨w.heap.size, 3, none⟩ = some (.bool f) := hb1.cell 3
        have hsn := stN_D
        cases f <;>
        (go_wp2_with (go_at_call 16; refine (stateOf_any nmD _).mono ?_; rintro e w' ⟨rfl, rfl⟩)
         go_roundw
         case rel => exact ⟨4, by omega, rfl, by first | rfl | (rw [hsn]; rfl), by first | exact hb1 | exact hb1.below ((Below.refl _ _).alloc (Nat.le_refl _) _), by first | exact hbel1 | exact below_alloc1 hbel1 _⟩
         case measure => simp [intOf])
      · have c0 : wr.cell? ⟨w.heap.size, 4, none⟩ = some (.bool s) := hb1.cell 4
        have hsn := stN_E
        cases s <;>
        (go_wp2_with (go_at_call 16; refine (stateOf_any nmE _).mono ?_; rintro e w' ⟨rfl, rfl⟩)
         go_roundw
         case rel => exact ⟨5, by omega, rfl, by first | rfl | (rw [hsn]; rfl), by first | exact hb1 | exact hb1.below ((Below.refl _ _).alloc (Nat.le_refl _) _), by first | exact hbel1 | exact below_alloc1 hbel1 _⟩
         case measure => simp [intOf])
    · obtain rfl : k = 5 := by omega
      clear hk hlt hb1
      have he := maskEq d u ui p f s
      have hnz := maskNz d u ui f s
      generalize wantF d u ui f s 5 = X at *
      cases p
      · have H := Lib.hid he
        clear he hnz
        go_wp2_with (first
          | (go_at_call 27; (with_reducible refine (stOr2 _).mono ?_); rintro e w' ⟨rfl, rfl⟩)
          | (go_at_call 28; (with_reducible refine (maskAll d u ui false f s _).mono ?_); rintro e w1 ⟨rfl, hbel2⟩)
          | (go_at_call 28; (with_reducible refine (stateMask_any false d u ui false f s _).mono ?_); rintro e w2 ⟨rfl, hbel3⟩)
          | (go_at_call 16; (with_reducible refine (stateOfA _).mono ?_); rintro e w' ⟨rfl, rfl⟩)
          | (go_at_call 15; (with_reducible refine (stStatuses_any _).mono ?_); rintro e w' ⟨rfl, rfl⟩)
          | (go_at_call 27; (with_reducible refine (stOr8 _ _ (Blk.new _ _ _)).mono ?_); rintro e w' ⟨rfl, rfl⟩)
          | (go_at_call 27; (with_reducible refine (stOr8 _ _ (blk_two _ _ _ _)).mono ?_); rintro e w' ⟨rfl, rfl⟩))
        all_goals
          have h0 := H.out
          first
            | (exfalso; simp [*] at h0; done)
            | (exfalso; simp_all; done)
            | (go_ret; exact ⟨by simp; rfl, below_alloc1 (below_alloc1 (below_trans (below_trans (by first | exact hbel1 | exact below_alloc1 hbel1 _) hbel2) hbel3) _) _⟩)
      · have H := Lib.hid he
        clear he
        go_wp2_with (first
          | (go_at_call 27; (with_reducible refine (stOr3 _).mono ?_); rintro e w' ⟨rfl, rfl⟩)
          | (go_at_call 28; (with_reducible refine (maskAll d u ui true f s _).mono ?_); rintro e w1 ⟨rfl, hbel2⟩)
          | (go_at_call 28; (with_reducible refine (stateMask_any false d u ui true f s _).mono ?_); rintro e w2 ⟨rfl, hbel3⟩)
          | (go_at_call 16; (with_reducible refine (stateOfA _).mono ?_); rintro e w' ⟨rfl, rfl⟩)
          | (go_at_call 15; (with_reducible refine (stStatuses_any _).mono ?_); rintro e w' ⟨rfl, rfl⟩)
          | (go_at_call 27; (with_reducible refine (stOr8 _ _ (Blk.new _ _ _)).mono ?_); rintro e w' ⟨rfl, rfl⟩)
          | (go_at_call 27; (with_reducible refine (stOr8 _ _ (blk_two _ _ _ _)).mono ?_); rintro e w' ⟨rfl, rfl⟩))
        all_goals
          have h0 := H.out
          first
            | (exfalso; simp [*] at h0; done)
            | (exfalso; simp_all; done)
            | (go_ret; exact ⟨by simp; rfl, below_alloc1 (below_alloc1 (below_trans (below_trans (by first | exact hbel1 | exact below_alloc1 hbel1 _) hbel2) hbel3) _) _⟩)
theorem fnStateMask_walk (d u ui p f s : Bool) (w : World) :
    Calls Try.prog 7 #[.bool d, .bool u, .bool ui, .bool p, .bool f, .bool s] w fun e w' => e = .returned (.bool true) ∧ Below w.heap.size w w' := maskLoop d u ui p f s w
end Go.Proofs.Ytdgblfldbikneaa
