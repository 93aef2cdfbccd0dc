/- Expand: the name behind a dollar sign, by the program and by the reference. -/
import Derived.Test.YtkjcedlgljeoiaaX3
namespace Go.Proofs.Ytkjcedlgljeoiaa
open Go.RowKit Go.Lib

/-- The byte at a place, 0 behind the end. -/
def bt (s : ByteArray) (j : Nat) : Nat := if h : j < s.size then s[j].toNat else 0
theorem bt_at {s : ByteArray} {j : Nat} (h : j < s.size) : bt s j = s[j].toNat := by unfold bt; rw [dif_pos h]
def brk (s : ByteArray) : Bool := decide (2 < s.size) && spU (bt s 1) && bt s 2 == 125
def cls (s : ByteArray) (j : Nat) : Bool := decide (1 ≤ j) && bt s j == 125
def nmLen (s : ByteArray) : Nat := (firstN (fun j => !nmU (bt s j)) s.size).getD s.size
def shF (s : ByteArray) : ByteArray × Nat :=
  if bt s 0 = 123 then
    if brk s then (s.extract 1 2, 3) else match firstN (cls s) s.size with
      | some i => (s.extract 1 i, i + 1)
      | none => (⟨#[]⟩, 1)
  else if spU (bt s 0) then (s.extract 0 1, 1) else (s.extract 0 (nmLen s), nmLen s)
theorem ext_nil (s : ByteArray) : s.extract 1 1 = ⟨#[]⟩ := by
  apply ByteArray.ext
  apply Array.eq_empty_of_size_eq_zero
  show (s.extract 1 1).size = 0
  simp
theorem shF_brk {s : ByteArray} (h0 : 0 < s.size) (h : s[0].toNat = 123) (hb : brk s = true) : shF s = (s.extract 1 2, 3) := by
  unfold shF; rw [if_pos (by rw [bt_at h0]; exact h), if_pos hb]
theorem shF_some {s : ByteArray} {k : Nat} (h0 : 0 < s.size) (h : s[0].toNat = 123) (hb : brk s = false) (hk1 : 1 ≤ k) (hk : k < s.size) (hn : ∀ j, ∀ h : j < s.size, 1 ≤ j → j < k → s[j].toNat ≠ 125) (hy : s[k].toNat = 125) : shF s = (s.extract 1 k, k + 1) := by
  have f : firstN (cls s) s.size = some k := firstN_some hk (fun j hj => by
    unfold cls
    by_cases h1 : 1 ≤ j
    · have := hn j (by omega) h1 hj
      simp [bt_at (show j < s.size by omega), this]
    · simp [h1]) (by simp [cls, hk1, bt_at hk, hy])
  unfold shF; rw [if_pos (by rw [bt_at h0]; exact h), hb, f]; rfl
theorem shF_none {s : ByteArray} (h0 : 0 < s.size) (h : s[0].toNat = 123) (hb : brk s = false) (hn : ∀ j, ∀ h : j < s.size, 1 ≤ j → s[j].toNat ≠ 125) : shF s = (⟨#[]⟩, 1) := by
  have f : firstN (cls s) s.size = none := firstN_none (fun j hj => by
    unfold cls
    by_cases h1 : 1 ≤ j
    · simp [bt_at hj, hn j hj h1]
    · simp [h1])
  unfold shF; rw [if_pos (by rw [bt_at h0]; exact h), hb, f]; rfl
theorem shF_sp {s : ByteArray} (h0 : 0 < s.size) (h : s[0].toNat ≠ 123) (hs : spU s[0].toNat = true) : shF s = (s.extract 0 1, 1) := by
  unfold shF; rw [bt_at h0, if_neg h, if_pos hs]
theorem shF_nm {s : ByteArray} {k : Nat} (h0 : 0 < s.size) (h : s[0].toNat ≠ 123) (hs : spU s[0].toNat = false) (hk : k ≤ s.size) (hy : ∀ j, ∀ h : j < s.size, j < k → nmU s[j].toNat = true) (hn : ∀ h : k < s.size, nmU s[k].toNat = false) : shF s = (s.extract 0 k, k) := by
  have e : nmLen s = k := by
    unfold nmLen
    by_cases hl : k < s.size
    · rw [firstN_some hl (fun j hj => by rw [bt_at (show j < s.size by omega), hy j (by omega) hj]; rfl) (by rw [bt_at hl, hn hl]; rfl)]; rfl
    · rw [firstN_none (fun j hj => by rw [bt_at hj, hy j hj (by omega)]; rfl)]; show s.size = k; omega
  unfold shF; rw [bt_at h0, if_neg h, hs, e]; rfl
theorem ret_two {a b : ByteArray} {m : Int} {n : Nat} {p : ByteArray × Nat} (h : p = (b, n)) (ha : a = b) (hm : m = (n : Int)) : Ending.returned (.tuple #[.string a, .int .i64 m]) = .returned (.tuple #[.string p.1, .int .i64 p.2]) := by subst h ha hm; rfl
theorem ne_of_eqF {n m : Nat} (h : ((n : Int) == (m : Int)) = false) : n ≠ m := fun e => by subst e; simp at h
theorem eq_of_eqT {n m : Nat} (h : ((n : Int) == (m : Int)) = true) : n = m := by
  have : (n : Int) = m := by simpa using h
  omega
set_option maxRecDepth 100000 in
set_option maxHeartbeats 4000000 in
theorem shellName_any (s : ByteArray) (w : World) (h0 : 0 < s.size) (hs : s.size ≤ 1099511627776) :
    Calls Try.prog 133 #[.string s] w fun e w' => e = .returned (.tuple #[.string (shF s).1, .int .i64 (shF s).2]) ∧ w = w' := by
  have hz : s[0].toNat ≤ 255 := by have := s[0].toNat_lt; omega
  cases a0 : ((s[0].toNat : Int) == 123)
  · have n0 : s[0].toNat ≠ 123 := ne_of_eqF (m := 123) a0
    cases a1 : spU s[0].toNat
    · have HS := Lib.hid a1
      go_enter Try.func133, Try.ntmps133
      go_wp2_with (go_at_call 187; (with_reducible refine (special_any s[0].toNat _ (by omega)).mono ?_); rintro e w' ⟨rfl, rfl⟩; rw [a1])
      go_loop [5] (fun i => ∃ k : Nat, k ≤ s.size ∧ i = .int .i64 k ∧ Hid (∀ j, ∀ h : j < s.size, j < k → nmU s[j].toNat = true)) (fun i => s.size - (intOf i).toNat)
      case atStart => exact ⟨0, by omega, rfl, fun j h hj => by omega⟩
      case round =>
        obtain ⟨k, hk, rfl, HN⟩ := hrel
        by_cases hlt : k < s.size
        · have hz2 : s[k].toNat ≤ 255 := by have := s[k].toNat_lt; omega
          cases b : nmU s[k].toNat
          · have HR := Lib.hid (shF_nm h0 n0 HS.out hk HN.out (fun _ => b))
            clear HN
            go_wp2_with (go_at_call 188; (with_reducible refine (alnum_any s[k].toNat _ (by omega)).mono ?_); rintro e w' ⟨rfl, rfl⟩; rw [b])
            go_ret2
            exact ⟨ret_two (HR.out) (by rfl) (by omega), rfl⟩
          · have HN2 : Hid (∀ j, ∀ h : j < s.size, j < k + 1 → nmU s[j].toNat = true) := fun j h hj => by
              by_cases e : j = k
              · subst e; exact b
              · exact HN.out j h (by omega)
            clear HN
            go_wp2_with (go_at_call 188; (with_reducible refine (alnum_any s[k].toNat _ (by omega)).mono ?_); rintro e w' ⟨rfl, rfl⟩; rw [b])
            refine ⟨⟨k + 1, by omega, by go_num, HN2⟩, ?_⟩
            simp [intOf]; omega
        · have HR := Lib.hid (shF_nm h0 n0 HS.out hk HN.out (fun h => absurd h hlt))
          clear HN
          go_wp2
          go_ret2
          exact ⟨ret_two (HR.out) (by rfl) (by omega), rfl⟩
    · have HR := Lib.hid (shF_sp h0 n0 a1)
      go_enter Try.func133, Try.ntmps133
      go_wp2_with (go_at_call 187; (with_reducible refine (special_any s[0].toNat _ (by omega)).mono ?_); rintro e w' ⟨rfl, rfl⟩; rw [a1])
      go_ret2
      exact ⟨ret_two (HR.out) (by rfl) (by omega), rfl⟩
  · have n0 : s[0].toNat = 123 := eq_of_eqT (m := 123) a0
    by_cases h2 : 2 < s.size
    · have hz1 : s[1].toNat ≤ 255 := by have := s[1].toNat_lt; omega
      cases a1 : spU s[1].toNat
      · have HBk := Lib.hid (show brk s = false by simp [brk, bt_at (show 1 < s.size by omega), a1])
        go_enter Try.func133, Try.ntmps133
        go_wp2_with (go_at_call 187; (with_reducible refine (special_any s[1].toNat _ (by omega)).mono ?_); rintro e w' ⟨rfl, rfl⟩; rw [a1])
        go_loop [4] (fun i => ∃ k : Nat, 1 ≤ k ∧ k ≤ s.size ∧ i = .int .i64 k ∧ Hid (∀ j, ∀ h : j < s.size, 1 ≤ j → j < k → s[j].toNat ≠ 125)) (fun i => s.size - (intOf i).toNat)
        case atStart => exact ⟨1, by omega, by omega, rfl, fun j h hj hj2 => by omega⟩
        case round =>
          obtain ⟨k, hk1, hk, rfl, HN⟩ := hrel
          by_cases hlt : k < s.size
          · cases b : ((s[k].toNat : Int) == 125)
            · have HN2 : Hid (∀ j, ∀ h : j < s.size, 1 ≤ j → j < k + 1 → s[j].toNat ≠ 125) := fun j h hj hj2 => by
                by_cases e : j = k
                · subst e; exact ne_of_eqF (m := 125) b
                · exact HN.out j h hj (by omega)
              clear HN
              go_wp2
              refine ⟨⟨k + 1, by omega, by omega, by go_num, HN2⟩, ?_⟩
              simp [intOf]; omega
            · have HR := Lib.hid (shF_some h0 n0 HBk.out hk1 hlt HN.out (eq_of_eqT (m := 125) b))
              clear HN
              cases c1 : ((k : Int) == 1)
              · go_wp2
                go_ret2
                exact ⟨ret_two (HR.out) (by rfl) (by omega), rfl⟩
              · have e1 : k = 1 := eq_of_eqT (m := 1) c1
                subst e1
                go_wp2
                go_ret2
                exact ⟨ret_two (HR.out) (ext_nil s).symm (by omega), rfl⟩
          · have HR := Lib.hid (shF_none h0 n0 HBk.out (fun j h hj => HN.out j h hj (by omega)))
            clear HN
            go_wp2
            go_ret2
            exact ⟨ret_two (HR.out) (by rfl) (by omega), rfl⟩
      · cases a2 : ((s[2].toNat : Int) == 125)
        · have n2 := ne_of_eqF (m := 125) a2
          have HBk := Lib.hid (show brk s = false by simp [brk, bt_at h2, n2])
          go_enter Try.func133, Try.ntmps133
          go_wp2_with (go_at_call 187; (with_reducible refine (special_any s[1].toNat _ (by omega)).mono ?_); rintro e w' ⟨rfl, rfl⟩; rw [a1])
          go_loop [4] (fun i => ∃ k : Nat, 1 ≤ k ∧ k ≤ s.size ∧ i = .int .i64 k ∧ Hid (∀ j, ∀ h : j < s.size, 1 ≤ j → j < k → s[j].toNat ≠ 125)) (fun i => s.size - (intOf i).toNat)
          case atStart => exact ⟨1, by omega, by omega, rfl, fun j h hj hj2 => by omega⟩
          case round =>
            obtain ⟨k, hk1, hk, rfl, HN⟩ := hrel
            by_cases hlt : k < s.size
            · cases b : ((s[k].toNat : Int) == 125)
              · have HN2 : Hid (∀ j, ∀ h : j < s.size, 1 ≤ j → j < k + 1 → s[j].toNat ≠ 125) := fun j h hj hj2 => by
                  by_cases e : j = k
                  · subst e; exact ne_of_eqF (m := 125) b
                  · exact HN.out j h hj (by omega)
                clear HN
                go_wp2
                refine ⟨⟨k + 1, by omega, by omega, by go_num, HN2⟩, ?_⟩
                simp [intOf]; omega
              · have HR := Lib.hid (shF_some h0 n0 HBk.out hk1 hlt HN.out (eq_of_eqT (m := 125) b))
                clear HN
                cases c1 : ((k : Int) == 1)
                · go_wp2
                  go_ret2
                  exact ⟨ret_two (HR.out) (by rfl) (by omega), rfl⟩
                · have e1 : k = 1 := eq_of_eqT (m := 1) c1
                  subst e1
                  go_wp2
                  go_ret2
                  exact ⟨ret_two (HR.out) (ext_nil s).symm (by omega), rfl⟩
            · have HR := Lib.hid (shF_none h0 n0 HBk.out (fun j h hj => HN.out j h hj (by omega)))
              clear HN
              go_wp2
              go_ret2
              exact ⟨ret_two (HR.out) (by rfl) (by omega), rfl⟩
        · have n2 := eq_of_eqT (m := 125) a2
          have HR := Lib.hid (shF_brk h0 n0 (show brk s = true by simp [brk, bt_at h2, bt_at (show 1 < s.size by omega), n2, a1, h2]))
          go_enter Try.func133, Try.ntmps133
          go_wp2_with (go_at_call 187; (with_reducible refine (special_any s[1].toNat _ (by omega)).mono ?_); rintro e w' ⟨rfl, rfl⟩; rw [a1])
          go_ret2
          exact ⟨ret_two (HR.out) (by rfl) (by omega), rfl⟩
    · have HBk := Lib.hid (show brk s = false by simp [brk, h2])
      go_enter Try.func133, Try.ntmps133
      go_wp2
      go_loop [4] (fun i => ∃ k : Nat, 1 ≤ k ∧ k ≤ s.size ∧ i = .int .i64 k ∧ Hid (∀ j, ∀ h : j < s.size, 1 ≤ j → j < k → s[j].toNat ≠ 125)) (fun i => s.size - (intOf i).toNat)
      case atStart => exact ⟨1, by omega, by omega, rfl, fun j h hj hj2 => by omega⟩
      case round =>
        obtain ⟨k, hk1, hk, rfl, HN⟩ := hrel
        by_cases hlt : k < s.size
        · cases b : ((s[k].toNat : Int) == 125)
          · have HN2 : Hid (∀ j, ∀ h : j < s.size, 1 ≤ j → j < k + 1 → s[j].toNat ≠ 125) := fun j h hj hj2 => by
              by_cases e : j = k
              · subst e; exact ne_of_eqF (m := 125) b
              · exact HN.out j h hj (by omega)
            clear HN
            go_wp2
            refine ⟨⟨k + 1, by omega, by omega, by go_num, HN2⟩, ?_⟩
            simp [intOf]; omega
          · have HR := Lib.hid (shF_some h0 n0 HBk.out hk1 hlt HN.out (eq_of_eqT (m := 125) b))
            clear HN
            cases c1 : ((k : Int) == 1)
            · go_wp2
              go_ret2
              exact ⟨ret_two (HR.out) (by rfl) (by omega), rfl⟩
            · have e1 : k = 1 := eq_of_eqT (m := 1) c1
              subst e1
              go_wp2
              go_ret2
              exact ⟨ret_two (HR.out) (ext_nil s).symm (by omega), rfl⟩
        · have HR := Lib.hid (shF_none h0 n0 HBk.out (fun j h hj => HN.out j h hj (by omega)))
          clear HN
          go_wp2
          go_ret2
          exact ⟨ret_two (HR.out) (by rfl) (by omega), rfl⟩
set_option maxRecDepth 100000 in
set_option maxHeartbeats 4000000 in
theorem hlVariable_any (s : ByteArray) (w : World) (h0 : 0 < s.size) (hs : s.size ≤ 1099511627776) (ha : ∀ j, ∀ h : j < s.size, s[j].toNat ≤ 127) :
    Calls Try.prog 72 #[.string s] w fun e w' => e = .returned (.tuple #[.string (shF s).1, .int .i64 (shF s).2]) ∧ Below w.heap.size w w' := by
  have hz : s[0].toNat ≤ 255 := by have := s[0].toNat_lt; omega
  have hz7 := ha 0 h0
  have HA := Lib.hid ha
  clear ha
  cases a0 : ((s[0].toNat : Int) == 123)
  · have n0 : s[0].toNat ≠ 123 := ne_of_eqF (m := 123) a0
    cases a1 : spU s[0].toNat
    · have HS := Lib.hid a1
      go_enter Try.func72, Try.ntmps72
      go_wp2_with (go_at_call 134; (with_reducible refine (hlSpecial_any s[0].toNat _ (by omega)).mono ?_); rintro e w' ⟨rfl, hb⟩; rw [a1])
      go_loopw [5] (fun i wr => ∃ k : Nat, k ≤ s.size ∧ i = .int .i64 k ∧ Hid (∀ j, ∀ h : j < s.size, j < k → nmU s[j].toNat = true) ∧ Hid (Below w.heap.size w wr)) (fun i _ => s.size - (intOf i).toNat)
      case atStart => exact ⟨0, by omega, rfl, fun j h hj => by omega, hb⟩
      case round =>
        obtain ⟨k, hk, rfl, HN, HB⟩ := hrel
        by_cases hlt : k < s.size
        · have hz2 : s[k].toNat ≤ 255 := by have := s[k].toNat_lt; omega
          have hz3 := HA.out k hlt
          cases b : nmU s[k].toNat
          · have HR := Lib.hid (shF_nm h0 n0 HS.out hk HN.out (fun _ => b))
            clear HN
            go_wp2_with (go_at_call 135; (with_reducible refine (hlName_any s[k].toNat _ (by omega)).mono ?_); rintro e w' ⟨rfl, hb2⟩; rw [b])
            go_ret2
            exact ⟨ret_two (HR.out) (by rfl) (by omega), below_trans HB.out hb2⟩
          · have HN2 : Hid (∀ j, ∀ h : j < s.size, j < k + 1 → nmU s[j].toNat = true) := fun j h hj => by
              by_cases e : j = k
              · subst e; exact b
              · exact HN.out j h (by omega)
            clear HN
            go_wp2_with (go_at_call 135; (with_reducible refine (hlName_any s[k].toNat _ (by omega)).mono ?_); rintro e w' ⟨rfl, hb2⟩; rw [b])
            refine ⟨⟨k + 1, by omega, by go_num, HN2, below_trans HB.out hb2⟩, ?_⟩
            simp [intOf]; omega
        · have HR := Lib.hid (shF_nm h0 n0 HS.out hk HN.out (fun h => absurd h hlt))
          clear HN
          go_wp2
          go_ret2
          exact ⟨ret_two (HR.out) (by rfl) (by omega), HB.out⟩
    · have HR := Lib.hid (shF_sp h0 n0 a1)
      go_enter Try.func72, Try.ntmps72
      go_wp2_with (go_at_call 134; (with_reducible refine (hlSpecial_any s[0].toNat _ (by omega)).mono ?_); rintro e w' ⟨rfl, hb⟩; rw [a1])
      go_ret2
      exact ⟨ret_two (HR.out) (by rfl) (by omega), hb⟩
  · have n0 : s[0].toNat = 123 := eq_of_eqT (m := 123) a0
    by_cases h2 : 2 < s.size
    · have hz1 : s[1].toNat ≤ 255 := by have := s[1].toNat_lt; omega
      have hz17 := HA.out 1 (by omega)
      cases a1 : spU s[1].toNat
      · have HBk := Lib.hid (show brk s = false by simp [brk, bt_at (show 1 < s.size by omega), a1])
        go_enter Try.func72, Try.ntmps72
        go_wp2_with (go_at_call 134; (with_reducible refine (hlSpecial_any s[1].toNat _ (by omega)).mono ?_); rintro e w' ⟨rfl, hb⟩; rw [a1])
        go_loopw [4] (fun i wr => ∃ k : Nat, 1 ≤ k ∧ k ≤ s.size ∧ i = .int .i64 k ∧ Hid (∀ j, ∀ h : j < s.size, 1 ≤ j → j < k → s[j].toNat ≠ 125) ∧ Hid (Below w.heap.size w wr)) (fun i _ => s.size - (intOf i).toNat)
        case atStart => exact ⟨1, by omega, by omega, rfl, fun j h hj hj2 => by omega, hb⟩
        case round =>
          obtain ⟨k, hk1, hk, rfl, HN, HB⟩ := hrel
          by_cases hlt : k < s.size
          · cases b : ((s[k].toNat : Int) == 125)
            · have HN2 : Hid (∀ j, ∀ h : j < s.size, 1 ≤ j → j < k + 1 → s[j].toNat ≠ 125) := fun j h hj hj2 => by
                by_cases e : j = k
                · subst e; exact ne_of_eqF (m := 125) b
                · exact HN.out j h hj (by omega)
              clear HN
              go_wp2
              refine ⟨⟨k + 1, by omega, by omega, by go_num, HN2, HB⟩, ?_⟩
              simp [intOf]; omega
            · have HR := Lib.hid (shF_some h0 n0 HBk.out hk1 hlt HN.out (eq_of_eqT (m := 125) b))
              clear HN
              go_wp2
              go_ret2
              exact ⟨ret_two (HR.out) (by rfl) (by omega), HB.out⟩
          · have HR := Lib.hid (shF_none h0 n0 HBk.out (fun j h hj => HN.out j h hj (by omega)))
            clear HN
            go_wp2
            go_ret2
            exact ⟨ret_two (HR.out) (by rfl) (by omega), HB.out⟩
      · cases a2 : ((s[2].toNat : Int) == 125)
        · have n2 := ne_of_eqF (m := 125) a2
          have HBk := Lib.hid (show brk s = false by simp [brk, bt_at h2, n2])
          go_enter Try.func72, Try.ntmps72
          go_wp2_with (go_at_call 134; (with_reducible refine (hlSpecial_any s[1].toNat _ (by omega)).mono ?_); rintro e w' ⟨rfl, hb⟩; rw [a1])
          go_loopw [4] (fun i wr => ∃ k : Nat, 1 ≤ k ∧ k ≤ s.size ∧ i = .int .i64 k ∧ Hid (∀ j, ∀ h : j < s.size, 1 ≤ j → j < k → s[j].toNat ≠ 125) ∧ Hid (Below w.heap.size w wr)) (fun i _ => s.size - (intOf i).toNat)
          case atStart => exact ⟨1, by omega, by omega, rfl, fun j h hj hj2 => by omega, hb⟩
          case round =>
            obtain ⟨k, hk1, hk, rfl, HN, HB⟩ := hrel
            by_cases hlt : k < s.size
            · cases b : ((s[k].toNat : Int) == 125)
              · have HN2 : Hid (∀ j, ∀ h : j < s.size, 1 ≤ j → j < k + 1 → s[j].toNat ≠ 125) := fun j h hj hj2 => by
                  by_cases e : j = k
                  · subst e; exact ne_of_eqF (m := 125) b
                  · exact HN.out j h hj (by omega)
                clear HN
                go_wp2
                refine ⟨⟨k + 1, by omega, by omega, by go_num, HN2, HB⟩, ?_⟩
                simp [intOf]; omega
              · have HR := Lib.hid (shF_some h0 n0 HBk.out hk1 hlt HN.out (eq_of_eqT (m := 125) b))
                clear HN
                go_wp2
                go_ret2
                exact ⟨ret_two (HR.out) (by rfl) (by omega), HB.out⟩
            · have HR := Lib.hid (shF_none h0 n0 HBk.out (fun j h hj => HN.out j h hj (by omega)))
              clear HN
              go_wp2
              go_ret2
              exact ⟨ret_two (HR.out) (by rfl) (by omega), HB.out⟩
        · have n2 := eq_of_eqT (m := 125) a2
          have HR := Lib.hid (shF_brk h0 n0 (show brk s = true by simp [brk, bt_at h2, bt_at (show 1 < s.size by omega), n2, a1, h2]))
          go_enter Try.func72, Try.ntmps72
          go_wp2_with (go_at_call 134; (with_reducible refine (hlSpecial_any s[1].toNat _ (by omega)).mono ?_); rintro e w' ⟨rfl, hb⟩; rw [a1])
          go_ret2
          exact ⟨ret_two (HR.out) (by rfl) (by omega), hb⟩
    · have HBk := Lib.hid (show brk s = false by simp [brk, h2])
      go_enter Try.func72, Try.ntmps72
      go_wp2
      go_loopw [4] (fun i wr => ∃ k : Nat, 1 ≤ k ∧ k ≤ s.size ∧ i = .int .i64 k ∧ Hid (∀ j, ∀ h : j < s.size, 1 ≤ j → j < k → s[j].toNat ≠ 125) ∧ Hid (Below w.heap.size w wr)) (fun i _ => s.size - (intOf i).toNat)
      case atStart => exact ⟨1, by omega, by omega, rfl, fun j h hj hj2 => by omega, Below.refl _ _⟩
      case round =>
        obtain ⟨k, hk1, hk, rfl, HN, HB⟩ := hrel
        by_cases hlt : k < s.size
        · cases b : ((s[k].toNat : Int) == 125)
          · have HN2 : Hid (∀ j, ∀ h : j < s.size, 1 ≤ j → j < k + 1 → s[j].toNat ≠ 125) := fun j h hj hj2 => by
              by_cases e : j = k
              · subst e; exact ne_of_eqF (m := 125) b
              · exact HN.out j h hj (by omega)
            clear HN
            go_wp2
            refine ⟨⟨k + 1, by omega, by omega, by go_num, HN2, HB⟩, ?_⟩
            simp [intOf]; omega
          · have HR := Lib.hid (shF_some h0 n0 HBk.out hk1 hlt HN.out (eq_of_eqT (m := 125) b))
            clear HN
            go_wp2
            go_ret2
            exact ⟨ret_two (HR.out) (by rfl) (by omega), HB.out⟩
        · have HR := Lib.hid (shF_none h0 n0 HBk.out (fun j h hj => HN.out j h hj (by omega)))
          clear HN
          go_wp2
          go_ret2
          exact ⟨ret_two (HR.out) (by rfl) (by omega), HB.out⟩
end Go.Proofs.Ytkjcedlgljeoiaa
