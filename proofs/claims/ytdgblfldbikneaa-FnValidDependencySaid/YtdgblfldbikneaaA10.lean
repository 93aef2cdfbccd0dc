/- Contracts: Dependency.Validate. -/
import Derived.Test.YtdgblfldbikneaaA9
namespace Go.Proofs.Ytdgblfldbikneaa
open Go.RowKit Go.Lib
set_option linter.unusedVariables false
set_option linter.unusedSimpArgs false
theorem ok_alias : ∀ n : Fin 256, okU lowDash n.val = alB (UInt8.ofNat n.val) := by decide +kernel
theorem wordB_alias (s : ByteArray) (h : s.data.toList ≠ []) : wordB s lowDash = aliasF s := by
  unfold wordB aliasF
  have e : s.data.toList.isEmpty = false := by
    cases hh : s.data.toList with
    | nil => exact absurd hh h
    | cons _ _ => rfl
  rw [e, Bool.not_false, Bool.and_true]
  congr 1
  funext c
  have := ok_alias ⟨c.toNat, c.toNat_lt⟩
  simpa [UInt8.ofNat_toNat] using this
def setsF (xs : List ByteArray) (k : Nat) : List ByteArray := (xs.take k).map cleanF ++ xs.drop k
theorem setsF_zero (xs : List ByteArray) : setsF xs 0 = xs := by simp [setsF]
theorem setsF_len (xs : List ByteArray) (k : Nat) : (setsF xs k).length = xs.length := by simp [setsF]; omega
theorem setsF_get {xs : List ByteArray} {k : Nat} (h : k < xs.length) : (setsF xs k)[k]? = some xs[k] := by
  unfold setsF
  rw [List.getElem?_append_right (by simp; omega)]
  simp [Nat.min_eq_left (Nat.le_of_lt h), h]
theorem setsF_succ {xs : List ByteArray} {k : Nat} (h : k < xs.length) : (setsF xs k).set k (cleanF xs[k]) = setsF xs (k + 1) := by
  unfold setsF
  rw [List.take_succ_eq_append_getElem h, List.drop_eq_getElem_cons h, List.set_append_right _ _ (by simp; omega)]
  have e : k - ((xs.take k).map cleanF).length = 0 := by simp; omega
  rw [e, List.set_cons_zero, List.map_append, List.append_assoc]
  rfl
theorem setsF_all (xs : List ByteArray) : setsF xs xs.length = cleansF xs := by simp [setsF, cleansF]
set_option maxRecDepth 100000 in
set_option maxHeartbeats 4000000 in
theorem depVal_ok (g B : Nat) (a b r d al : ByteArray) (A : Option Addr) (c : Nat) (tags : List ByteArray) (w : World) (hg0 : Blk w g 211 #[.string a, .string b, .string r, .string d, .slice A tags.length c, .bool false, .slice none 0 0, .string al])
    (ho : w.ownsRow B 9 1 (.slice A tags.length c) tags.length (strs tags)) (ha : a.size ≤ 1000000) (hb0 : b.size ≤ 1000000) (hr : r.size ≤ 1000000) (hd : d.size ≤ 1000000) (hal : al.size ≤ 1000000) (ht : ∀ x ∈ tags, x.size ≤ 1000000) (hta : ∀ x ∈ tags, asciiB x)
    (aa : asciiB a) (ab : asciiB b) (ar : asciiB r) (ad : asciiB d) (hn : tags.length ≤ 1000000) (hal0 : aliasF al = true) :
    Calls Try.prog 96 #[.pointer (some ⟨g, 0, none⟩)] w fun e w' => e = .returned .nilIface ∧ Blk w' g 211 #[.string (cleanF a), .string (cleanF b), .string (cleanF r), .string (cleanF d), .slice A tags.length c, .bool false, .slice none 0 0, .string al] ∧ w'.ownsRow B 9 1 (.slice A tags.length c) tags.length (strs (cleansF tags)) ∧ GrX (fun k => k = g ∨ ∃ ad, A = some ad ∧ k = ad.block) w w' := by
  have HAL := Lib.hid hal0
  clear hal0
  have La := ha
  have Lb := hb0
  have Lr := hr
  have Ld := hd
  have HT := Lib.hid ht
  have HTA := Lib.hid hta
  have HG := Lib.hid hg0
  have HO := Lib.hid ho
  have Aa := Lib.hid aa
  have Ab := Lib.hid ab
  have Ar := Lib.hid ar
  have Ad := Lib.hid ad
  clear ha hb0 hr hd ht hta hg0 ho aa ab ar ad
  go_enter Try.func96, Try.ntmps96
  go_wp2_with (first
    | ((with_reducible refine at_dst (N := 11) rfl ?_); refine ev_ld rfl 9 _ rfl ⟨g, 0, none⟩ rfl (.string a) (HG.out.cell 0) _ Try.underlying9 rfl ?_)
    | (go_at_call 113; (with_reducible refine (sanStr_any a _ La Aa.out).mono ?_); rintro e w1 ⟨rfl, hb⟩
       have g_w1 := Lib.hid (HG.out.below hb)
       have own_w1 := Lib.hid (own_below HO.out hb)
       have B_w1 : Hid (GrX (fun k => k = g ∨ ∃ ad, A = some ad ∧ k = ad.block) w w1) := GrX.trans (GrX.refl _ _) (GrX.below hb)
       clear hb)
    | (refine ev_store1 rfl 9 _ _ rfl g 0 _ rfl (.string (cleanF a)) rfl 211 g_w1.out tsz9 (by simp) rfl rfl ?_; intro w2 hB hg hz
       have own_w2 := Lib.hid (own_grown own_w1.out hg (own_ne own_w1.out g_w1.out (by decide)))
       have B_w2 : Hid (GrX (fun k => k = g ∨ ∃ ad, A = some ad ∧ k = ad.block) w w2) := GrX.trans' B_w1.out (GrX.grown (S := fun k => k = g) hg rfl) (fun k hk hlt => by subst hk; exact .inl rfl)
       have g_w2 : Hid (Blk w2 g 211 #[.string (cleanF a), .string b, .string r, .string d, .slice A tags.length c, .bool false, .slice none 0 0, .string al]) := hB
       clear hB hg hz)
    | ((with_reducible refine at_dst (N := 19) rfl ?_); refine ev_ld rfl 9 _ rfl ⟨g, 1, none⟩ rfl (.string b) (g_w2.out.cell 1) _ Try.underlying9 rfl ?_)
    | (go_at_call 113; (with_reducible refine (sanStr_any b _ Lb Ab.out).mono ?_); rintro e w3 ⟨rfl, hb⟩
       have g_w3 := Lib.hid (g_w2.out.below hb)
       have own_w3 := Lib.hid (own_below own_w2.out hb)
       have B_w3 : Hid (GrX (fun k => k = g ∨ ∃ ad, A = some ad ∧ k = ad.block) w w3) := GrX.trans B_w2.out (GrX.below hb)
       clear hb)
    | (refine ev_store1 rfl 9 _ _ rfl g 1 _ rfl (.string (cleanF b)) rfl 211 g_w3.out tsz9 (by simp) rfl rfl ?_; intro w4 hB hg hz
       have own_w4 := Lib.hid (own_grown own_w3.out hg (own_ne own_w3.out g_w3.out (by decide)))
       have B_w4 : Hid (GrX (fun k => k = g ∨ ∃ ad, A = some ad ∧ k = ad.block) w w4) := GrX.trans' B_w3.out (GrX.grown (S := fun k => k = g) hg rfl) (fun k hk hlt => by subst hk; exact .inl rfl)
       have g_w4 : Hid (Blk w4 g 211 #[.string (cleanF a), .string (cleanF b), .string r, .string d, .slice A tags.length c, .bool false, .slice none 0 0, .string al]) := hB
       clear hB hg hz)
    | ((with_reducible refine at_dst (N := 27) rfl ?_); refine ev_ld rfl 9 _ rfl ⟨g, 2, none⟩ rfl (.string r) (g_w4.out.cell 2) _ Try.underlying9 rfl ?_)
    | (go_at_call 113; (with_reducible refine (sanStr_any r _ Lr Ar.out).mono ?_); rintro e w5 ⟨rfl, hb⟩
       have g_w5 := Lib.hid (g_w4.out.below hb)
       have own_w5 := Lib.hid (own_below own_w4.out hb)
       have B_w5 : Hid (GrX (fun k => k = g ∨ ∃ ad, A = some ad ∧ k = ad.block) w w5) := GrX.trans B_w4.out (GrX.below hb)
       clear hb)
    | (refine ev_store1 rfl 9 _ _ rfl g 2 _ rfl (.string (cleanF r)) rfl 211 g_w5.out tsz9 (by simp) rfl rfl ?_; intro w6 hB hg hz
       have own_w6 := Lib.hid (own_grown own_w5.out hg (own_ne own_w5.out g_w5.out (by decide)))
       have B_w6 : Hid (GrX (fun k => k = g ∨ ∃ ad, A = some ad ∧ k = ad.block) w w6) := GrX.trans' B_w5.out (GrX.grown (S := fun k => k = g) hg rfl) (fun k hk hlt => by subst hk; exact .inl rfl)
       have g_w6 : Hid (Blk w6 g 211 #[.string (cleanF a), .string (cleanF b), .string (cleanF r), .string d, .slice A tags.length c, .bool false, .slice none 0 0, .string al]) := hB
       clear hB hg hz)
    | ((with_reducible refine at_dst (N := 35) rfl ?_); refine ev_ld rfl 9 _ rfl ⟨g, 3, none⟩ rfl (.string d) (g_w6.out.cell 3) _ Try.underlying9 rfl ?_)
    | (go_at_call 113; (with_reducible refine (sanStr_any d _ Ld Ad.out).mono ?_); rintro e w7 ⟨rfl, hb⟩
       have g_w7 := Lib.hid (g_w6.out.below hb)
       have own_w7 := Lib.hid (own_below own_w6.out hb)
       have B_w7 : Hid (GrX (fun k => k = g ∨ ∃ ad, A = some ad ∧ k = ad.block) w w7) := GrX.trans B_w6.out (GrX.below hb)
       clear hb)
    | (refine ev_store1 rfl 9 _ _ rfl g 3 _ rfl (.string (cleanF d)) rfl 211 g_w7.out tsz9 (by simp) rfl rfl ?_; intro w8 hB hg hz
       have own_w8 := Lib.hid (own_grown own_w7.out hg (own_ne own_w7.out g_w7.out (by decide)))
       have B_w8 : Hid (GrX (fun k => k = g ∨ ∃ ad, A = some ad ∧ k = ad.block) w w8) := GrX.trans' B_w7.out (GrX.grown (S := fun k => k = g) hg rfl) (fun k hk hlt => by subst hk; exact .inl rfl)
       have g_w8 : Hid (Blk w8 g 211 #[.string (cleanF a), .string (cleanF b), .string (cleanF r), .string (cleanF d), .slice A tags.length c, .bool false, .slice none 0 0, .string al]) := hB
       clear hB hg hz)
    | ((with_reducible refine at_dst (N := 42) rfl ?_); refine ev_ld rfl 22 _ rfl ⟨g, 4, none⟩ rfl (.slice A tags.length c) (g_w8.out.cell 4) _ Try.underlying22 rfl ?_))
  go_loopw [3, 44] (fun _ i wr => ∃ k : Nat, k ≤ tags.length ∧ i = .int .i64 k ∧ Hid (Blk wr g 211 #[.string (cleanF a), .string (cleanF b), .string (cleanF r), .string (cleanF d), .slice A tags.length c, .bool false, .slice none 0 0, .string al]) ∧ Hid (wr.ownsRow B 9 1 (.slice A tags.length c) tags.length (strs (setsF tags k))) ∧ Hid (GrX (fun k => k = g ∨ ∃ ad, A = some ad ∧ k = ad.block) w wr)) (fun _ i _ => tags.length - (intOf i).toNat)
  case atStart => exact ⟨0, Nat.zero_le _, rfl, g_w8, by rw [setsF_zero]; exact own_w8, B_w8⟩
  case round =>
    clear g_w8 own_w8 B_w8
    obtain ⟨k, hk, rfl, HG, HO, HB⟩ := hrel
    by_cases hlt : k < tags.length
    · obtain ⟨gt, cur, rfl, hgt, hbt, hkc, hck, hset⟩ := own_open HO.out hlt
      have HBT := Lib.hid hbt
      have HSET := Lib.hid hset
      clear hbt hset
      have hzk := HT.out tags[k] (List.getElem_mem hlt)
      have haa := HTA.out tags[k] (List.getElem_mem hlt)
      have b0 : (0 : Int) ≤ (k : Int) := by omega
      have b1 : (k : Int) < (tags.length : Int) := by omega
      have b3 : ((k : Int)).toNat = k := by omega
      have hcell : Hid (wr.cell? ⟨gt, k, none⟩ = some (.string tags[k])) := by
        show _ = _
        rw [HBT.out.cell, hck]; simp [strs, setsF_get hlt]
      have n_g_gt : g ≠ gt := HG.out.ne HBT.out (by decide)
      go_upto_region 10 with fail
      refine wp_region_grow [some [], some [(0, 47)], some [(1, 48)], some [(2, 49)], some [], some [], some [(5, 52)], some [(6, 53)], some [(7, 54)], some [], some [(8, 55), (9, 56)], some [(10, 57)], some [(11, 58)], none, none]
          [fun v _ => v = .pointer (some ⟨g, 0, none⟩),
           fun v _ => v = .pointer (some ⟨g, 0, none⟩),
           fun v _ => v = .pointer (some ⟨g, 4, none⟩),
           fun v _ => v = .slice (some ⟨gt, 0, none⟩) tags.length c,
           fun v _ => v = .int .i64 (↑k),
           fun v _ => v = .pointer (some ⟨g, 0, none⟩),
           fun v _ => v = .pointer (some ⟨g, 0, none⟩),
           fun v _ => v = .pointer (some ⟨g, 4, none⟩),
           fun v _ => v = .slice (some ⟨gt, 0, none⟩) tags.length c,
           fun v _ => v = .int .i64 (↑k),
           fun v _ => v = .pointer (some ⟨gt, k, none⟩),
           fun v _ => v = .string (tags[k]),
           fun v _ => v = .string (cleanF tags[k]),
           fun _ _ => True,
           fun _ _ => True] 76 (by kernel_rfl) rfl rfl (by kernel_rfl) ?_ ?_ ?_
      · intro p hp
        simp only [List.mem_cons, List.not_mem_nil, or_false] at hp
        rcases hp with rfl | rfl | rfl | rfl | rfl | rfl | rfl | rfl | rfl | rfl | rfl | rfl | rfl | rfl | rfl
        · exact stab_eq _
        · exact stab_eq _
        · exact stab_eq _
        · exact stab_eq _
        · exact stab_eq _
        · exact stab_eq _
        · exact stab_eq _
        · exact stab_eq _
        · exact stab_eq _
        · exact stab_eq _
        · exact stab_eq _
        · exact stab_eq _
        · exact stab_eq _
        · exact stab_true
        · exact stab_true
      · simp only [oblGo, obl1, withDeps, oblK, postAt, List.getD_cons_zero, List.getD_cons_succ, forall_eq]
        refine ⟨?_, ?_, ?_, ?_, ?_, ?_, ?_, ?_, ?_, ?_, ?_, ?_, ?_, trivial⟩
        · intro wg hg
          go_simp
        · intro wg hg
          go_simp
        · intro wg hg
          go_simp
        · intro wg hg
          exact gr_ld 22 _ rfl ⟨g, 4, none⟩ rfl (.slice (some ⟨gt, 0, none⟩) tags.length c) ((HG.out.below hg).cell 4) _ Try.underlying22 rfl rfl
        · intro wg hg
          go_simp
        · intro wg hg
          go_simp
        · intro wg hg
          go_simp
        · intro wg hg
          go_simp
        · intro wg hg
          exact gr_ld 22 _ rfl ⟨g, 4, none⟩ rfl (.slice (some ⟨gt, 0, none⟩) tags.length c) ((HG.out.below hg).cell 4) _ Try.underlying22 rfl rfl
        · intro wg hg
          go_simp
        · intro wg hg
          go_simp
        · intro wg hg
          exact gr_ld 9 _ rfl _ rfl (.string (tags[k])) (hg.cell (hcell.out)) _ Try.underlying9 rfl rfl
        · intro wg hg
          go_simp
          exact (sanStr_any _ _ hzk haa).mono fun _ _ h => h
      simp only [headDs, withDeps, postAt, List.getD_cons_zero, List.getD_cons_succ, forall_eq, tailOps]
      intro w9 hgr
      simp only [Act.put, List.setIfInBounds_toArray, List.set_cons_succ, List.set_cons_zero]
      have g_w9 := Lib.hid (HG.out.below (show Below _ _ _ from hgr))
      have gt_w9 := Lib.hid (HBT.out.below (show Below _ _ _ from hgr))
      have B_w9 : Hid (GrX (fun k => k = g ∨ ∃ ad, some (⟨gt, 0, none⟩ : Addr) = some ad ∧ k = ad.block) w w9) := GrX.trans HB.out (GrX.below (show Below _ _ _ from hgr))
      clear hgr
      go_wp2_with (first
        | (refine ev_store1 rfl 9 _ _ rfl gt k _ rfl (.string (cleanF tags[k])) rfl 9 gt_w9.out tsz9 hkc rfl rfl ?_; intro w10 hB hg hz
           have g_w10 := Lib.hid (g_w9.out.grown hg n_g_gt)
           have B_w10 : Hid (GrX (fun k => k = g ∨ ∃ ad, some (⟨gt, 0, none⟩ : Addr) = some ad ∧ k = ad.block) w w10) := GrX.trans' B_w9.out (GrX.grown (S := fun k => k = gt) hg rfl) (fun k hk hlt => by subst hk; exact .inr ⟨_, rfl, rfl⟩)
           have own_w10 := Lib.hid (HSET.out _ _ hB)
           clear hB hg hz))
      refine ⟨⟨k + 1, by omega, by go_num, g_w10, by show World.ownsRow _ _ _ _ _ _ _; rw [← setsF_succ hlt]; have := own_w10.out; simpa [strs, List.map_set] using this, B_w10⟩, ?_⟩
      simp [intOf]; omega
    · obtain rfl : k = tags.length := by omega
      rw [setsF_all] at HO
      by_cases h0 : al.data.toList = []
      · skip
        obtain rfl : al = ⟨#[]⟩ := ByteArray.ext (Array.ext' h0)
        go_wp2_with (first | ((with_reducible refine at_dst (N := 65) rfl ?_); refine ev_ld rfl 9 _ rfl ⟨g, 7, none⟩ rfl (.string ⟨#[]⟩) (HG.out.cell 7) _ Try.underlying9 rfl ?_))
        go_ret
        exact ⟨rfl, HG.out, HO.out, HB.out⟩
      · skip
        have hw : wordB al lowDash = true := by rw [wordB_alias al h0]; exact HAL.out
        have HWD : al.size + lowDash.size ≤ 4611686018427387000 := by show al.size + 2 ≤ _; omega
        have HW := Lib.hid hw
        have e0 : ¬ al.toList = [] := by rw [ByteArray.toList_eq]; exact h0
        have e1 : al.toList.isEmpty = false := by simp [e0]
        clear hw h0
        go_wp2_with (first
          | ((with_reducible refine at_dst (N := 65) rfl ?_); refine ev_ld rfl 9 _ rfl ⟨g, 7, none⟩ rfl (.string al) (HG.out.cell 7) _ Try.underlying9 rfl ?_)
          | ((with_reducible refine at_dst (N := 71) rfl ?_); refine wl_guard rfl ?_; refine ev_ld rfl 9 _ rfl ⟨g, 7, none⟩ rfl (.string al) (HG.out.cell 7) _ Try.underlying9 rfl ?_)
          | (go_at_call 129; (with_reducible refine (word_any al lowDash _ HWD).mono ?_); rintro e wq ⟨rfl, rfl⟩
             rw [HW.out]))
        go_ret
        exact ⟨rfl, HG.out, HO.out, HB.out⟩
set_option maxRecDepth 100000 in
set_option maxHeartbeats 4000000 in
theorem depVal_bad (g B : Nat) (a b r d al : ByteArray) (A : Option Addr) (c : Nat) (tags : List ByteArray) (w : World) (hg0 : Blk w g 211 #[.string a, .string b, .string r, .string d, .slice A tags.length c, .bool false, .slice none 0 0, .string al])
    (ho : w.ownsRow B 9 1 (.slice A tags.length c) tags.length (strs tags)) (ha : a.size ≤ 1000000) (hb0 : b.size ≤ 1000000) (hr : r.size ≤ 1000000) (hd : d.size ≤ 1000000) (hal : al.size ≤ 1000000) (ht : ∀ x ∈ tags, x.size ≤ 1000000) (hta : ∀ x ∈ tags, asciiB x)
    (aa : asciiB a) (ab : asciiB b) (ar : asciiB r) (ad : asciiB d) (hn : tags.length ≤ 1000000) (hal0 : aliasF al = false) :
    Calls Try.prog 96 #[.pointer (some ⟨g, 0, none⟩)] w fun e w' => (∃ m, e = .returned (.iface 186 (.string m))) ∧ Blk w' g 211 #[.string (cleanF a), .string (cleanF b), .string (cleanF r), .string (cleanF d), .slice A tags.length c, .bool false, .slice none 0 0, .string al] ∧ w'.ownsRow B 9 1 (.slice A tags.length c) tags.length (strs (cleansF tags)) ∧ GrX (fun k => k = g ∨ ∃ ad, A = some ad ∧ k = ad.block) w w' := by
  have HAL := Lib.hid hal0
  clear hal0
  have La := ha
  have Lb := hb0
  have Lr := hr
  have Ld := hd
  have HT := Lib.hid ht
  have HTA := Lib.hid hta
  have HG := Lib.hid hg0
  have HO := Lib.hid ho
  have Aa := Lib.hid aa
  have Ab := Lib.hid ab
  have Ar := Lib.hid ar
  have Ad := Lib.hid ad
  clear ha hb0 hr hd ht hta hg0 ho aa ab ar ad
  go_enter Try.func96, Try.ntmps96
  go_wp2_with (first
    | ((with_reducible refine at_dst (N := 11) rfl ?_); refine ev_ld rfl 9 _ rfl ⟨g, 0, none⟩ rfl (.string a) (HG.out.cell 0) _ Try.underlying9 rfl ?_)
    | (go_at_call 113; (with_reducible refine (sanStr_any a _ La Aa.out).mono ?_); rintro e w1 ⟨rfl, hb⟩
       have g_w1 := Lib.hid (HG.out.below hb)
       have own_w1 := Lib.hid (own_below HO.out hb)
       have B_w1 : Hid (GrX (fun k => k = g ∨ ∃ ad, A = some ad ∧ k = ad.block) w w1) := GrX.trans (GrX.refl _ _) (GrX.below hb)
       clear hb)
    | (refine ev_store1 rfl 9 _ _ rfl g 0 _ rfl (.string (cleanF a)) rfl 211 g_w1.out tsz9 (by simp) rfl rfl ?_; intro w2 hB hg hz
       have own_w2 := Lib.hid (own_grown own_w1.out hg (own_ne own_w1.out g_w1.out (by decide)))
       have B_w2 : Hid (GrX (fun k => k = g ∨ ∃ ad, A = some ad ∧ k = ad.block) w w2) := GrX.trans' B_w1.out (GrX.grown (S := fun k => k = g) hg rfl) (fun k hk hlt => by subst hk; exact .inl rfl)
       have g_w2 : Hid (Blk w2 g 211 #[.string (cleanF a), .string b, .string r, .string d, .slice A tags.length c, .bool false, .slice none 0 0, .string al]) := hB
       clear hB hg hz)
    | ((with_reducible refine at_dst (N := 19) rfl ?_); refine ev_ld rfl 9 _ rfl ⟨g, 1, none⟩ rfl (.string b) (g_w2.out.cell 1) _ Try.underlying9 rfl ?_)
    | (go_at_call 113; (with_reducible refine (sanStr_any b _ Lb Ab.out).mono ?_); rintro e w3 ⟨rfl, hb⟩
       have g_w3 := Lib.hid (g_w2.out.below hb)
       have own_w3 := Lib.hid (own_below own_w2.out hb)
       have B_w3 : Hid (GrX (fun k => k = g ∨ ∃ ad, A = some ad ∧ k = ad.block) w w3) := GrX.trans B_w2.out (GrX.below hb)
       clear hb)
    | (refine ev_store1 rfl 9 _ _ rfl g 1 _ rfl (.string (cleanF b)) rfl 211 g_w3.out tsz9 (by simp) rfl rfl ?_; intro w4 hB hg hz
       have own_w4 := Lib.hid (own_grown own_w3.out hg (own_ne own_w3.out g_w3.out (by decide)))
       have B_w4 : Hid (GrX (fun k => k = g ∨ ∃ ad, A = some ad ∧ k = ad.block) w w4) := GrX.trans' B_w3.out (GrX.grown (S := fun k => k = g) hg rfl) (fun k hk hlt => by subst hk; exact .inl rfl)
       have g_w4 : Hid (Blk w4 g 211 #[.string (cleanF a), .string (cleanF b), .string r, .string d, .slice A tags.length c, .bool false, .slice none 0 0, .string al]) := hB
       clear hB hg hz)
    | ((with_reducible refine at_dst (N := 27) rfl ?_); refine ev_ld rfl 9 _ rfl ⟨g, 2, none⟩ rfl (.string r) (g_w4.out.cell 2) _ Try.underlying9 rfl ?_)
    | (go_at_call 113; (with_reducible refine (sanStr_any r _ Lr Ar.out).mono ?_); rintro e w5 ⟨rfl, hb⟩
       have g_w5 := Lib.hid (g_w4.out.below hb)
       have own_w5 := Lib.hid (own_below own_w4.out hb)
       have B_w5 : Hid (GrX (fun k => k = g ∨ ∃ ad, A = some ad ∧ k = ad.block) w w5) := GrX.trans B_w4.out (GrX.below hb)
       clear hb)
    | (refine ev_store1 rfl 9 _ _ rfl g 2 _ rfl (.string (cleanF r)) rfl 211 g_w5.out tsz9 (by simp) rfl rfl ?_; intro w6 hB hg hz
       have own_w6 := Lib.hid (own_grown own_w5.out hg (own_ne own_w5.out g_w5.out (by decide)))
       have B_w6 : Hid (GrX (fun k => k = g ∨ ∃ ad, A = some ad ∧ k = ad.block) w w6) := GrX.trans' B_w5.out (GrX.grown (S := fun k => k = g) hg rfl) (fun k hk hlt => by subst hk; exact .inl rfl)
       have g_w6 : Hid (Blk w6 g 211 #[.string (cleanF a), .string (cleanF b), .string (cleanF r), .string d, .slice A tags.length c, .bool false, .slice none 0 0, .string al]) := hB
       clear hB hg hz)
    | ((with_reducible refine at_dst (N := 35) rfl ?_); refine ev_ld rfl 9 _ rfl ⟨g, 3, none⟩ rfl (.string d) (g_w6.out.cell 3) _ Try.underlying9 rfl ?_)
    | (go_at_call 113; (with_reducible refine (sanStr_any d _ Ld Ad.out).mono ?_); rintro e w7 ⟨rfl, hb⟩
       have g_w7 := Lib.hid (g_w6.out.below hb)
       have own_w7 := Lib.hid (own_below own_w6.out hb)
       have B_w7 : Hid (GrX (fun k => k = g ∨ ∃ ad, A = some ad ∧ k = ad.block) w w7) := GrX.trans B_w6.out (GrX.below hb)
       clear hb)
    | (refine ev_store1 rfl 9 _ _ rfl g 3 _ rfl (.string (cleanF d)) rfl 211 g_w7.out tsz9 (by simp) rfl rfl ?_; intro w8 hB hg hz
       have own_w8 := Lib.hid (own_grown own_w7.out hg (own_ne own_w7.out g_w7.out (by decide)))
       have B_w8 : Hid (GrX (fun k => k = g ∨ ∃ ad, A = some ad ∧ k = ad.block) w w8) := GrX.trans' B_w7.out (GrX.grown (S := fun k => k = g) hg rfl) (fun k hk hlt => by subst hk; exact .inl rfl)
       have g_w8 : Hid (Blk w8 g 211 #[.string (cleanF a), .string (cleanF b), .string (cleanF r), .string (cleanF d), .slice A tags.length c, .bool false, .slice none 0 0, .string al]) := hB
       clear hB hg hz)
    | ((with_reducible refine at_dst (N := 42) rfl ?_); refine ev_ld rfl 22 _ rfl ⟨g, 4, none⟩ rfl (.slice A tags.length c) (g_w8.out.cell 4) _ Try.underlying22 rfl ?_))
  go_loopw [3, 44] (fun _ i wr => ∃ k : Nat, k ≤ tags.length ∧ i = .int .i64 k ∧ Hid (Blk wr g 211 #[.string (cleanF a), .string (cleanF b), .string (cleanF r), .string (cleanF d), .slice A tags.length c, .bool false, .slice none 0 0, .string al]) ∧ Hid (wr.ownsRow B 9 1 (.slice A tags.length c) tags.length (strs (setsF tags k))) ∧ Hid (GrX (fun k => k = g ∨ ∃ ad, A = some ad ∧ k = ad.block) w wr)) (fun _ i _ => tags.length - (intOf i).toNat)
  case atStart => exact ⟨0, Nat.zero_le _, rfl, g_w8, by rw [setsF_zero]; exact own_w8, B_w8⟩
  case round =>
    clear g_w8 own_w8 B_w8
    obtain ⟨k, hk, rfl, HG, HO, HB⟩ := hrel
    by_cases hlt : k < tags.length
    · obtain ⟨gt, cur, rfl, hgt, hbt, hkc, hck, hset⟩ := own_open HO.out hlt
      have HBT := Lib.hid hbt
      have HSET := Lib.hid hset
      clear hbt hset
      have hzk := HT.out tags[k] (List.getElem_mem hlt)
      have haa := HTA.out tags[k] (List.getElem_mem hlt)
      have b0 : (0 : Int) ≤ (k : Int) := by omega
      have b1 : (k : Int) < (tags.length : Int) := by omega
      have b3 : ((k : Int)).toNat = k := by omega
      have hcell : Hid (wr.cell? ⟨gt, k, none⟩ = some (.string tags[k])) := by
        show _ = _
        rw [HBT.out.cell, hck]; simp [strs, setsF_get hlt]
      have n_g_gt : g ≠ gt := HG.out.ne HBT.out (by decide)
      go_upto_region 10 with fail
      refine wp_region_grow [some [], some [(0, 47)], some [(1, 48)], some [(2, 49)], some [], some [], some [(5, 52)], some [(6, 53)], some [(7, 54)], some [], some [(8, 55), (9, 56)], some [(10, 57)], some [(11, 58)], none, none]
          [fun v _ => v = .pointer (some ⟨g, 0, none⟩),
           fun v _ => v = .pointer (some ⟨g, 0, none⟩),
           fun v _ => v = .pointer (some ⟨g, 4, none⟩),
           fun v _ => v = .slice (some ⟨gt, 0, none⟩) tags.length c,
           fun v _ => v = .int .i64 (↑k),
           fun v _ => v = .pointer (some ⟨g, 0, none⟩),
           fun v _ => v = .pointer (some ⟨g, 0, none⟩),
           fun v _ => v = .pointer (some ⟨g, 4, none⟩),
           fun v _ => v = .slice (some ⟨gt, 0, none⟩) tags.length c,
           fun v _ => v = .int .i64 (↑k),
           fun v _ => v = .pointer (some ⟨gt, k, none⟩),
           fun v _ => v = .string (tags[k]),
           fun v _ => v = .string (cleanF tags[k]),
           fun _ _ => True,
           fun _ _ => True] 76 (by kernel_rfl) rfl rfl (by kernel_rfl) ?_ ?_ ?_
      · intro p hp
        simp only [List.mem_cons, List.not_mem_nil, or_false] at hp
        rcases hp with rfl | rfl | rfl | rfl | rfl | rfl | rfl | rfl | rfl | rfl | rfl | rfl | rfl | rfl | rfl
        · exact stab_eq _
        · exact stab_eq _
        · exact stab_eq _
        · exact stab_eq _
        · exact stab_eq _
        · exact stab_eq _
        · exact stab_eq _
        · exact stab_eq _
        · exact stab_eq _
        · exact stab_eq _
        · exact stab_eq _
        · exact stab_eq _
        · exact stab_eq _
        · exact stab_true
        · exact stab_true
      · simp only [oblGo, obl1, withDeps, oblK, postAt, List.getD_cons_zero, List.getD_cons_succ, forall_eq]
        refine ⟨?_, ?_, ?_, ?_, ?_, ?_, ?_, ?_, ?_, ?_, ?_, ?_, ?_, trivial⟩
        · intro wg hg
          go_simp
        · intro wg hg
          go_simp
        · intro wg hg
          go_simp
        · intro wg hg
          exact gr_ld 22 _ rfl ⟨g, 4, none⟩ rfl (.slice (some ⟨gt, 0, none⟩) tags.length c) ((HG.out.below hg).cell 4) _ Try.underlying22 rfl rfl
        · intro wg hg
          go_simp
        · intro wg hg
          go_simp
        · intro wg hg
          go_simp
        · intro wg hg
          go_simp
        · intro wg hg
          exact gr_ld 22 _ rfl ⟨g, 4, none⟩ rfl (.slice (some ⟨gt, 0, none⟩) tags.length c) ((HG.out.below hg).cell 4) _ Try.underlying22 rfl rfl
        · intro wg hg
          go_simp
        · intro wg hg
          go_simp
        · intro wg hg
          exact gr_ld 9 _ rfl _ rfl (.string (tags[k])) (hg.cell (hcell.out)) _ Try.underlying9 rfl rfl
        · intro wg hg
          go_simp
          exact (sanStr_any _ _ hzk haa).mono fun _ _ h => h
      simp only [headDs, withDeps, postAt, List.getD_cons_zero, List.getD_cons_succ, forall_eq, tailOps]
      intro w9 hgr
      simp only [Act.put, List.setIfInBounds_toArray, List.set_cons_succ, List.set_cons_zero]
      have g_w9 := Lib.hid (HG.out.below (show Below _ _ _ from hgr))
      have gt_w9 := Lib.hid (HBT.out.below (show Below _ _ _ from hgr))
      have B_w9 : Hid (GrX (fun k => k = g ∨ ∃ ad, some (⟨gt, 0, none⟩ : Addr) = some ad ∧ k = ad.block) w w9) := GrX.trans HB.out (GrX.below (show Below _ _ _ from hgr))
      clear hgr
      go_wp2_with (first
        | (refine ev_store1 rfl 9 _ _ rfl gt k _ rfl (.string (cleanF tags[k])) rfl 9 gt_w9.out tsz9 hkc rfl rfl ?_; intro w10 hB hg hz
           have g_w10 := Lib.hid (g_w9.out.grown hg n_g_gt)
           have B_w10 : Hid (GrX (fun k => k = g ∨ ∃ ad, some (⟨gt, 0, none⟩ : Addr) = some ad ∧ k = ad.block) w w10) := GrX.trans' B_w9.out (GrX.grown (S := fun k => k = gt) hg rfl) (fun k hk hlt => by subst hk; exact .inr ⟨_, rfl, rfl⟩)
           have own_w10 := Lib.hid (HSET.out _ _ hB)
           clear hB hg hz))
      refine ⟨⟨k + 1, by omega, by go_num, g_w10, by show World.ownsRow _ _ _ _ _ _ _; rw [← setsF_succ hlt]; have := own_w10.out; simpa [strs, List.map_set] using this, B_w10⟩, ?_⟩
      simp [intOf]; omega
    · obtain rfl : k = tags.length := by omega
      rw [setsF_all] at HO
      have h0 : al.data.toList ≠ [] := fun e => by
        have : aliasF al = true := by simp [aliasF, e]
        rw [HAL.out] at this; cases this
      have hw : wordB al lowDash = false := by rw [wordB_alias al h0]; exact HAL.out
      have HWD : al.size + lowDash.size ≤ 4611686018427387000 := by show al.size + 2 ≤ _; omega
      have HW := Lib.hid hw
      have e0 : ¬ al.toList = [] := by rw [ByteArray.toList_eq]; exact h0
      have e1 : al.toList.isEmpty = false := by simp [e0]
      clear hw h0
      go_wp2_with (first
        | ((with_reducible refine at_dst (N := 65) rfl ?_); refine ev_ld rfl 9 _ rfl ⟨g, 7, none⟩ rfl (.string al) (HG.out.cell 7) _ Try.underlying9 rfl ?_)
        | ((with_reducible refine at_dst (N := 71) rfl ?_); refine wl_guard rfl ?_; refine ev_ld rfl 9 _ rfl ⟨g, 7, none⟩ rfl (.string al) (HG.out.cell 7) _ Try.underlying9 rfl ?_)
        | (go_at_call 129; (with_reducible refine (word_any al lowDash _ HWD).mono ?_); rintro e wq ⟨rfl, rfl⟩
           rw [HW.out]))
      go_ret
      exact ⟨⟨_, rfl⟩, HG.out, HO.out, HB.out⟩
set_option maxRecDepth 100000 in
theorem depVal_nil (w : World) : Calls Try.prog 96 #[.pointer none] w fun e w' => (∃ m, e = .returned (.iface 186 (.string m))) ∧ w = w' := by
  go_enter Try.func96, Try.ntmps96
  go_wp2
  go_ret
  exact ⟨⟨_, rfl⟩, rfl⟩
end Go.Proofs.Ytdgblfldbikneaa
