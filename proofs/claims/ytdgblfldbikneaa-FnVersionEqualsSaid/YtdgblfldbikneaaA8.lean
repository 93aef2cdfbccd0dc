/- Contracts: chSome, chCleaned, chTexts, chAlias. -/
import Derived.Test.YtdgblfldbikneaaA7
namespace Go.Proofs.Ytdgblfldbikneaa
open Go.RowKit Go.Lib
set_option linter.unusedVariables false
set_option linter.unusedSimpArgs false
theorem map_succ {α β : Type} (f : α → β) {l : List α} {k : Nat} (h : k < l.length) : (l.take (k + 1)).map f = (l.take k).map f ++ [f l[k]] := by
  rw [List.take_succ_eq_append_getElem h, List.map_append]; rfl
theorem own_strs {w : World} {B : Nat} {e : TypeId} {v : Value} {l : List ByteArray} {s : ByteArray} (h : w.ownsRow B e 1 v (l.length + 1) (strs l ++ [.string s])) : w.ownsRow B e 1 v (l ++ [s]).length (strs (l ++ [s])) := by
  have e1 : strs (l ++ [s]) = strs l ++ [.string s] := by simp [strs]
  rw [e1, List.length_append]
  exact h
def someF (xs : List ByteArray) : List ByteArray := (xs.take 6).map ascF
def cleansF (xs : List ByteArray) : List ByteArray := xs.map cleanF
set_option maxRecDepth 100000 in
set_option maxHeartbeats 2000000 in
theorem chSome_any (A : Option Addr) (c : Nat) (xs : List ByteArray) (w : World) (h : Sl w A (strs xs)) (hx : ∀ x ∈ xs, x.size ≤ 9223372036854775807) :
    Calls Try.prog 93 #[.slice A xs.length c] w fun e w' => ∃ v, e = .returned v ∧ w'.ownsRow w.heap.size 9 1 v (someF xs).length (strs (someF xs)) ∧ Below w.heap.size w w' := by
  have hl : xs.length ≤ 9223372036854775807 := by simpa [strs] using h.1
  have H := Lib.hid h
  have HX := Lib.hid hx
  clear h hx
  go_enter Try.func93, Try.ntmps93
  go_wp2_with fail
  go_loopw [3, 4] (fun v i wr => ∃ k : Nat, k ≤ xs.length ∧ k ≤ 6 ∧ i = .int .i64 k ∧ Hid (wr.ownsRow w.heap.size 9 1 v ((xs.take k).map ascF).length (strs ((xs.take k).map ascF))) ∧ Hid (Below w.heap.size w wr)) (fun _ i _ => xs.length - (intOf i).toNat)
  case atStart => exact ⟨0, Nat.zero_le _, by omega, rfl, own_nil _ _ _ _, Below.refl _ _⟩
  case round =>
    obtain ⟨k, hk, hk6, rfl, HO, HB⟩ := hrel
    by_cases hlt : k < xs.length
    · by_cases h6 : k < 6
      · obtain ⟨ad, rfl, hx⟩ := (H.out.below HB.out).at_ (j := k) (u := .string xs[k]) (by simp [strs, hlt])
        have hzk := HX.out xs[k] (List.getElem_mem hlt)
        have HC := Lib.hid hx
        clear hx
        have HS := Lib.hid (map_succ ascF hlt)
        have hlen : ((xs.take k).map ascF).length ≤ k := by simp; omega
        go_wp2_with (first
          | ((with_reducible refine at_dst (N := 19) rfl ?_); refine ev_ld rfl 9 _ rfl _ rfl (.string (xs[k])) (HC.out) _ Try.underlying9 rfl ?_)
          | (go_at_call 25; (with_reducible refine (chAscii_any _ _ hzk).mono ?_); rintro e w1 ⟨rfl, hb⟩
             have own_w1 := Lib.hid (own_below HO.out hb)
             have B_w1 := Lib.hid (below_trans HB.out hb)
             clear hb)
          | ((with_reducible refine at_dst (N := 21) rfl ?_); refine ev_bs rfl 22 9 1 _ rfl #[.string (ascF xs[k])] (by go_simp) ?_; intro g21 w2 hg hB hb
             have low_g21 := Nat.le_trans B_w1.out.size hg
             have own_w2 := Lib.hid (own_below own_w1.out hb)
             have B_w2 := Lib.hid (below_trans B_w1.out hb)
             have g21_w2 : Hid (Blk w2 g21 9 #[.string (ascF xs[k])]) := hB
             clear hB hb)
          | ((with_reducible refine at_dst (N := 22) rfl ?_); refine ev_app rfl _ _ 22 9 rfl Try.underlying22 _ 1 _ tin9 rfl (by omega) w.heap.size _ _ _ rfl own_w2.out _ 1 1 [.string (ascF xs[k])] rfl (g21_w2.out.sl (by simp)) rfl (by simp [Value.oneCell']) (by omega) (by omega) B_w2.out.size ?_; intro v22_w3 w3 ho1 hg1 hat1
             have B_w3 := Lib.hid (below_row B_w2.out hg1 B_w2.out.size (own_ge own_w2.out))
             have own_w3 := Lib.hid ho1
             clear ho1 hg1 hat1))
        refine ⟨⟨k + 1, by omega, by omega, by go_num, by show World.ownsRow _ _ _ _ _ _ _; rw [HS.out]; exact own_strs own_w3.out, B_w3⟩, ?_⟩
        simp [intOf]; omega
      · obtain rfl : k = 6 := by omega
        go_wp2_with fail
        go_ret
        have hE := HO.out
        have e : (xs.take 6).map ascF = someF xs := rfl
        rw [e] at hE
        exact ⟨_, rfl, hE, HB.out⟩
    · obtain rfl : k = xs.length := by omega
      go_wp2_with fail
      go_ret
      have hE := HO.out
      have e : (xs.take xs.length).map ascF = someF xs := by unfold someF; rw [List.take_length, List.take_of_length_le (by omega)]
      rw [e] at hE
      exact ⟨_, rfl, hE, HB.out⟩
set_option maxRecDepth 100000 in
set_option maxHeartbeats 2000000 in
theorem chCleaned_any (A : Option Addr) (c : Nat) (xs : List ByteArray) (w : World) (h : Sl w A (strs xs)) (hx : ∀ x ∈ xs, x.size ≤ 1000000) (hn : xs.length ≤ 1000000) :
    Calls Try.prog 98 #[.slice A xs.length c] w fun e w' => ∃ v, e = .returned v ∧ w'.ownsRow w.heap.size 9 1 v (cleansF xs).length (strs (cleansF xs)) ∧ Below w.heap.size w w' := by
  have hl : xs.length ≤ 9223372036854775807 := by simpa [strs] using h.1
  have H := Lib.hid h
  have HX := Lib.hid hx
  clear h hx
  go_enter Try.func98, Try.ntmps98
  go_wp2_with fail
  go_loopw [3, 8] (fun v i wr => ∃ k : Nat, k ≤ xs.length ∧ i = .int .i64 k ∧ Hid (wr.ownsRow w.heap.size 9 1 v ((xs.take k).map cleanF).length (strs ((xs.take k).map cleanF))) ∧ Hid (Below w.heap.size w wr)) (fun _ i _ => xs.length - (intOf i).toNat)
  case atStart => exact ⟨0, Nat.zero_le _, rfl, own_nil _ _ _ _, Below.refl _ _⟩
  case round =>
    obtain ⟨k, hk, rfl, HO, HB⟩ := hrel
    by_cases hlt : k < xs.length
    · obtain ⟨ad, rfl, hx⟩ := (H.out.below HB.out).at_ (j := k) (u := .string xs[k]) (by simp [strs, hlt])
      have hzk := HX.out xs[k] (List.getElem_mem hlt)
      have HC := Lib.hid hx
      clear hx
      have HS := Lib.hid (map_succ cleanF hlt)
      have hlen : ((xs.take k).map cleanF).length ≤ k := by simp; omega
      go_wp2_with (first
        | ((with_reducible refine at_dst (N := 11) rfl ?_); refine ev_ld rfl 9 _ rfl _ rfl (.string (xs[k])) (HC.out) _ Try.underlying9 rfl ?_)
        | (go_at_call 68; (with_reducible refine (chClean_any _ _ hzk).mono ?_); rintro e w1 ⟨rfl, hb⟩
           have own_w1 := Lib.hid (own_below HO.out hb)
           have B_w1 := Lib.hid (below_trans HB.out hb)
           clear hb)
        | ((with_reducible refine at_dst (N := 15) rfl ?_); refine ev_bs rfl 22 9 1 _ rfl #[.string (cleanF xs[k])] (by go_simp) ?_; intro g15 w2 hg hB hb
           have low_g15 := Nat.le_trans B_w1.out.size hg
           have own_w2 := Lib.hid (own_below own_w1.out hb)
           have B_w2 := Lib.hid (below_trans B_w1.out hb)
           have g15_w2 : Hid (Blk w2 g15 9 #[.string (cleanF xs[k])]) := hB
           clear hB hb)
        | ((with_reducible refine at_dst (N := 16) rfl ?_); refine ev_app rfl _ _ 22 9 rfl Try.underlying22 _ 1 _ tin9 rfl (by omega) w.heap.size _ _ _ rfl own_w2.out _ 1 1 [.string (cleanF xs[k])] rfl (g15_w2.out.sl (by simp)) rfl (by simp [Value.oneCell']) (by omega) (by omega) B_w2.out.size ?_; intro v16_w3 w3 ho1 hg1 hat1
           have B_w3 := Lib.hid (below_row B_w2.out hg1 B_w2.out.size (own_ge own_w2.out))
           have own_w3 := Lib.hid ho1
           clear ho1 hg1 hat1))
      refine ⟨⟨k + 1, by omega, by go_num, by show World.ownsRow _ _ _ _ _ _ _; rw [HS.out]; exact own_strs own_w3.out, B_w3⟩, ?_⟩
      simp [intOf]; omega
    · obtain rfl : k = xs.length := by omega
      go_wp2_with fail
      go_ret
      have hE := HO.out
      have e : (xs.take xs.length).map cleanF = cleansF xs := by unfold cleansF; rw [List.take_length]
      rw [e] at hE
      exact ⟨_, rfl, hE, HB.out⟩
theorem toList_eq3 {s t : ByteArray} : (s.toList == t.toList) = decide (s = t) := by
  rw [ByteArray.toList_eq, ByteArray.toList_eq]
  by_cases h : s = t
  · subst h; simp
  · have h2 : ¬ s.data = t.data := fun e => h (ByteArray.ext e)
    simp [h, h2]
set_option maxRecDepth 100000 in
set_option maxHeartbeats 2000000 in
theorem chTexts_any (A : Option Addr) (c : Nat) (xs : List ByteArray) (A2 : Option Addr) (c2 : Nat) (ys : List ByteArray) (w : World) (h : Sl w A (strs xs)) (h2 : Sl w A2 (strs ys)) :
    Calls Try.prog 100 #[.slice A xs.length c, .slice A2 ys.length c2] w fun e w' => e = .returned (.bool (decide (xs = ys))) ∧ Below w.heap.size w w' := by
  have hl : xs.length ≤ 9223372036854775807 := by simpa [strs] using h.1
  have hl2 : ys.length ≤ 9223372036854775807 := by simpa [strs] using h2.1
  have H := Lib.hid h
  have H2 := Lib.hid h2
  clear h h2
  by_cases hne : xs.length = ys.length
  case neg =>
    have d0 : ((xs.length : Int) == (ys.length : Int)) = false := by simp only [beq_eq_false_iff_ne, ne_eq]; omega
    go_enter Try.func100, Try.ntmps100
    go_wp2_with fail
    go_ret
    exact ⟨ret_bool (by symm; rw [decide_eq_false_iff_not]; intro e; rw [e] at hne; exact hne rfl), Below.refl _ _⟩
  have d0 : ((xs.length : Int) == (ys.length : Int)) = true := by simp only [beq_iff_eq]; omega
  go_enter Try.func100, Try.ntmps100
  go_wp2_with fail
  go_loopw [5, 13] (fun _ i wr => ∃ k : Nat, k ≤ xs.length ∧ i = .int .i64 k ∧ Hid (∀ j, ∀ h : j < xs.length, ∀ h2 : j < ys.length, j < k → xs[j] = ys[j]) ∧ Hid (Below w.heap.size w wr)) (fun _ i _ => xs.length - (intOf i).toNat)
  case atStart => exact ⟨0, Nat.zero_le _, rfl, fun j _ _ h0 => by omega, Below.refl _ _⟩
  case round =>
    obtain ⟨k, hk, rfl, HA, HB⟩ := hrel
    clear d0
    by_cases hlt : k < xs.length
    · have hlt2 : k < ys.length := by omega
      obtain ⟨ad, rfl, hx⟩ := (H.out.below HB.out).at_ (j := k) (u := .string xs[k]) (by simp [strs, hlt])
      obtain ⟨ad2, rfl, hx2⟩ := (H2.out.below HB.out).at_ (j := k) (u := .string ys[k]) (by simp [strs, hlt2])
      have HC := Lib.hid hx
      have HC2 := Lib.hid hx2
      clear hx hx2
      have b0 : (0 : Int) ≤ (k : Int) := by omega
      have b1 : (k : Int) < (xs.length : Int) := by omega
      have b2 : (k : Int) < (ys.length : Int) := by omega
      have b3 : ((k : Int)).toNat = k := by omega
      cases he : xs[k].toList == ys[k].toList
      · skip
        go_upto_region 6 with fail
        refine wp_region_grow [some [], some [], some [(0, 16), (1, 17)], some [(2, 18)], some [], some [], some [(4, 20), (5, 21)], some [(6, 22)], none]
            [fun v _ => v = .slice (some ad) xs.length c,
             fun v _ => v = .int .i64 (↑k),
             fun v _ => v = .pointer (some (ad.add k)),
             fun v _ => v = .string (xs[k]),
             fun v _ => v = .slice (some ad2) ys.length c2,
             fun v _ => v = .int .i64 (↑k),
             fun v _ => v = .pointer (some (ad2.add k)),
             fun v _ => v = .string (ys[k]),
             fun _ _ => True] 26 (by kernel_rfl) rfl rfl (by kernel_rfl) ?_ ?_ ?_
        · intro p hp
          simp only [List.mem_cons, List.not_mem_nil, or_false] at hp
          rcases hp with rfl | rfl | rfl | rfl | rfl | rfl | rfl | rfl | rfl
          · exact stab_eq _
          · exact stab_eq _
          · exact stab_eq _
          · exact stab_eq _
          · exact stab_eq _
          · exact stab_eq _
          · exact stab_eq _
          · exact stab_eq _
          · exact stab_true
        · simp only [oblGo, obl1, withDeps, oblK, postAt, List.getD_cons_zero, List.getD_cons_succ, forall_eq]
          refine ⟨?_, ?_, ?_, ?_, ?_, ?_, ?_, ?_, trivial⟩
          · intro wg hg
            go_simp
          · intro wg hg
            go_simp
          · intro wg hg
            go_simp
          · intro wg hg
            exact gr_ld 9 _ rfl _ rfl (.string (xs[k])) (hg.cell (HC.out)) _ Try.underlying9 rfl rfl
          · intro wg hg
            go_simp
          · intro wg hg
            go_simp
          · intro wg hg
            go_simp
          · intro wg hg
            exact gr_ld 9 _ rfl _ rfl (.string (ys[k])) (hg.cell (HC2.out)) _ Try.underlying9 rfl rfl
        simp only [headDs, withDeps, postAt, List.getD_cons_zero, List.getD_cons_succ, forall_eq, tailOps]
        intro w1 hgr
        simp only [Act.put, List.setIfInBounds_toArray, List.set_cons_succ, List.set_cons_zero]
        have B_w1 := Lib.hid (below_trans HB.out (show Below _ _ _ from hgr))
        clear hgr
        go_wp2_with fail
        go_ret
        exact ⟨ret_bool (by symm; rw [decide_eq_false_iff_not]; intro e; subst e; simp at he), B_w1.out⟩
      · skip
        go_upto_region 6 with fail
        refine wp_region_grow [some [], some [], some [(0, 16), (1, 17)], some [(2, 18)], some [], some [], some [(4, 20), (5, 21)], some [(6, 22)], none]
            [fun v _ => v = .slice (some ad) xs.length c,
             fun v _ => v = .int .i64 (↑k),
             fun v _ => v = .pointer (some (ad.add k)),
             fun v _ => v = .string (xs[k]),
             fun v _ => v = .slice (some ad2) ys.length c2,
             fun v _ => v = .int .i64 (↑k),
             fun v _ => v = .pointer (some (ad2.add k)),
             fun v _ => v = .string (ys[k]),
             fun _ _ => True] 26 (by kernel_rfl) rfl rfl (by kernel_rfl) ?_ ?_ ?_
        · intro p hp
          simp only [List.mem_cons, List.not_mem_nil, or_false] at hp
          rcases hp with rfl | rfl | rfl | rfl | rfl | rfl | rfl | rfl | rfl
          · exact stab_eq _
          · exact stab_eq _
          · exact stab_eq _
          · exact stab_eq _
          · exact stab_eq _
          · exact stab_eq _
          · exact stab_eq _
          · exact stab_eq _
          · exact stab_true
        · simp only [oblGo, obl1, withDeps, oblK, postAt, List.getD_cons_zero, List.getD_cons_succ, forall_eq]
          refine ⟨?_, ?_, ?_, ?_, ?_, ?_, ?_, ?_, trivial⟩
          · intro wg hg
            go_simp
          · intro wg hg
            go_simp
          · intro wg hg
            go_simp
          · intro wg hg
            exact gr_ld 9 _ rfl _ rfl (.string (xs[k])) (hg.cell (HC.out)) _ Try.underlying9 rfl rfl
          · intro wg hg
            go_simp
          · intro wg hg
            go_simp
          · intro wg hg
            go_simp
          · intro wg hg
            exact gr_ld 9 _ rfl _ rfl (.string (ys[k])) (hg.cell (HC2.out)) _ Try.underlying9 rfl rfl
        simp only [headDs, withDeps, postAt, List.getD_cons_zero, List.getD_cons_succ, forall_eq, tailOps]
        intro w2 hgr
        simp only [Act.put, List.setIfInBounds_toArray, List.set_cons_succ, List.set_cons_zero]
        have B_w2 := Lib.hid (below_trans HB.out (show Below _ _ _ from hgr))
        clear hgr
        go_wp2_with fail
        have HA2 : Hid (∀ j, ∀ h : j < xs.length, ∀ h2 : j < ys.length, j < k + 1 → xs[j] = ys[j]) := fun j hj hj2 hjk => by
          by_cases e : j = k
          · subst e; rw [toList_eq3] at he; simpa using he
          · exact HA.out j hj hj2 (by omega)
        refine ⟨⟨k + 1, by omega, by go_num, HA2, B_w2⟩, ?_⟩
        simp [intOf]; omega
    · obtain rfl : k = xs.length := by omega
      go_wp2_with fail
      go_ret
      exact ⟨ret_bool (by symm; rw [decide_eq_true_eq]; exact List.ext_getElem hne fun j h1 h2 => HA.out j h1 h2 h1), HB.out⟩
def alB (c : UInt8) : Bool := decide ((97 ≤ c.toNat ∧ c.toNat ≤ 122) ∨ (65 ≤ c.toNat ∧ c.toNat ≤ 90) ∨ (48 ≤ c.toNat ∧ c.toNat ≤ 57) ∨ c.toNat = 95 ∨ c.toNat = 45)
def aliasF (s : ByteArray) : Bool := s.data.toList.all alB
theorem aliasF_no {s : ByteArray} {k : Nat} (h : k < s.size) (hb : alB s[k] = false) : aliasF s = false := by
  unfold aliasF
  rw [List.all_eq_false]
  exact ⟨s[k], Array.getElem_mem_toList (by simpa using h), by simp [hb]⟩
theorem aliasF_yes {s : ByteArray} (h : ∀ j, ∀ hj : j < s.size, alB s[j] = true) : aliasF s = true := by
  unfold aliasF
  rw [List.all_eq_true]
  intro x hx
  obtain ⟨j, hj, rfl⟩ := List.getElem_of_mem hx
  exact h j (by simpa using hj)
set_option maxRecDepth 100000 in
set_option maxHeartbeats 2000000 in
theorem chAlias_any (s : ByteArray) (w : World) (hs : s.size ≤ 9223372036854775807) : Calls Try.prog 99 #[.string s] w fun e w' => e = .returned (.bool (aliasF s)) ∧ w = w' := by
  go_enter Try.func99, Try.ntmps99
  go_wp2
  go_loop [3, 4] (fun i _ => ∃ k : Nat, k ≤ s.size ∧ i = .int .i64 k ∧ Hid (∀ j, ∀ hj : j < s.size, j < k → alB s[j] = true)) (fun i _ => s.size - (intOf i).toNat)
  case atStart => exact ⟨0, Nat.zero_le _, rfl, fun j _ h0 => by omega⟩
  case round =>
    obtain ⟨k, hk, rfl, HA⟩ := hrel
    by_cases hlt : k < s.size
    · have h255 : (s[k].toNat : Int) ≤ 255 := by have := s[k].toNat_lt; omega
      go_wp2
      all_goals (try simp only [Bool.not_eq_eq_eq_not, Bool.not_true, Bool.not_false, decide_eq_true_eq, decide_eq_false_iff_not, beq_iff_eq, beq_eq_false_iff_ne, ne_eq] at *)
      all_goals first
        | (refine ⟨⟨k + 1, by omega, by go_num, fun j hj hjk => ?_⟩, ?_⟩
           · by_cases e : j = k
             · subst e; unfold alB; rw [decide_eq_true_eq]; omega
             · exact HA.out j hj (by omega)
           · simp [intOf]; omega)
        | (go_ret
           exact ⟨ret_bool (aliasF_no hlt (by unfold alB; rw [decide_eq_false_iff_not]; omega)).symm, rfl⟩)
    · obtain rfl : k = s.size := by omega
      go_wp2
      go_ret
      exact ⟨ret_bool (aliasF_yes fun j hj => HA.out j hj hj).symm, rfl⟩
end Go.Proofs.Ytdgblfldbikneaa
