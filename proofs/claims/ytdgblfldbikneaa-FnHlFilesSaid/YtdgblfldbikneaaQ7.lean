/- FileGet; FnHlFiles: the walk. -/
import Derived.Test.YtdgblfldbikneaaQ6
namespace Go.Proofs.Ytdgblfldbikneaa
open Go.RowKit Go.Lib

set_option maxRecDepth 100000 in
theorem fileGet_any (A : Option Addr) (c : Nat) (xs : List Ty73) (s : ByteArray) (w : World) (h : Rows w A 2 (xs.map Ty73.cells)) (hn : xs.length ≤ 1000000) (hnm : ∀ k, ∀ h : k < xs.length, xs[k].fName.size ≤ 1000000) (hs : s.size ≤ maxLen) (hz : (getF xs s).size ≤ 1000000) :
    Calls Try.prog 42 #[.slice A xs.length c, .string s] w fun e w' => ∃ A2 c2, e = .returned (.tuple #[.string (getF xs s), .slice A2 (linesF (getF xs s)).length c2]) ∧ Sl w' A2 (strs (linesF (getF xs s))) ∧ Below w.heap.size w w' := by
  have H := Lib.hid h
  have HN := Lib.hid hnm
  clear h hnm
  go_enter Try.func42, Try.ntmps42
  go_wp2_with (first
    | (go_at_call 89; (with_reducible refine (files_any A c xs _ H.out hn).mono ?_); rintro e w1 ⟨v, ps, rfl, ho, hf, hb1⟩; obtain ⟨A1, c1, rfl, _, hsl⟩ := own_slice ho (by omega); have HS := Lib.hid hsl; have HF := Lib.hid hf; clear ho hsl hf)
    | (go_at_call 88; (with_reducible refine (zzFiles_any A1 c1 ps xs _ HS.out HF.out hn HN.out).mono ?_); rintro e w2 ⟨g, rfl, hm, hb2⟩; have HM := Lib.hid hm; clear hm)
    | (go_at_call 90; (with_reducible refine (get_any g _ xs s _ HM.out hs hz).mono ?_); rintro e w3 ⟨rfl, hb3⟩
       have HM3 : Hid (FM w3 g xs.length xs) := by
         obtain ⟨f, h1, h2⟩ := HM.out
         exact ⟨f, h1.below hb3, fun s => (h2 s).below hb3⟩)
    | (go_at_call 91; (with_reducible refine (lines_any g _ xs s _ HM3.out hs hz).mono ?_); rintro e w4 ⟨A4, c4, rfl, hsl, hb4⟩; have HL := Lib.hid hsl; clear hsl))
  go_ret2
  exact ⟨A4, c4, rfl, HL.out, below_trans (below_trans (below_trans hb1 hb2) hb3) hb4⟩
theorem hlShort2_any (g : Nat) (a b : ByteArray) (w : World) (h : Blk w g 9 #[.string a, .string b]) :
    Calls Try.prog 38 #[.slice (some ⟨g, 0, none⟩) 2 2] w fun e w' => e = .returned (.bool (shortS a && shortS b)) ∧ w = w' := by
  have h2 := hlShort_any (some ⟨g, 0, none⟩) 2 [a, b] w (h.sl (by simp))
  have e : shortB [a, b] = (shortS a && shortS b) := by simp [shortB]
  rw [e] at h2
  exact h2
theorem shortS_le {s : ByteArray} (h : shortS s = true) : s.size ≤ 100 := by
  simp only [shortS, Bool.and_eq_true, decide_eq_true_eq] at h
  exact h.1
theorem getF_succ {xs : List Ty73} {k : Nat} (h : k < xs.length) (s : ByteArray) : getF (xs.take (k + 1)) s = if xs[k].fName = s then xs[k].fData else getF (xs.take k) s := by
  unfold getF
  rw [lookF_succ h]
  split <;> rfl
theorem getF_size {xs : List Ty73} (s : ByteArray) (h : ∀ j, ∀ hj : j < xs.length, xs[j].fData.size ≤ 100) : ∀ k, (getF (xs.take k) s).size ≤ 100 := by
  intro k
  induction k with
  | zero => simp [getF, lookF]
  | succ k ih =>
    by_cases hk : k < xs.length
    · rw [getF_succ hk]
      split
      · exact h k hk
      · exact ih
    · rw [List.take_of_length_le (by omega)]
      rw [List.take_of_length_le (by omega)] at ih
      exact ih

set_option maxRecDepth 100000 in
set_option maxHeartbeats 2000000 in
theorem fnHlFiles_walk (A : Option Addr) (c : Nat) (xs : List Ty73) (name : ByteArray) (w : World) (h : Rows w A 2 (xs.map Ty73.cells)) (_hcap : xs.length ≤ c) (hok : ∀ x ∈ xs, x.ok w) (hnm : name.size ≤ maxLen) :
    Calls Try.prog 11 #[.slice A xs.length c, .string name] w fun e w' => e = .returned (.bool true) ∧ Below w.heap.size w w' := by
  have hl : xs.length ≤ 9223372036854775807 := by simpa using h.1
  have H := Lib.hid h
  have HK := Lib.hid hok
  have HNM := Lib.hid hnm
  have hnm' : name.size ≤ 9223372036854775807 := by simpa [maxLen] using hnm
  clear h hok hnm
  cases hf : fits41 xs
  · have hc := fun W (a : Rows W A 2 (xs.map Ty73.cells)) (b : ∀ x ∈ xs, x.ok W) => fits41_any A c xs W a b
    rw [hf] at hc
    have HC := Lib.hid hc
    clear hc hf
    go_enter Try.func11, Try.ntmps11
    go_wp2_with (go_at_call 41; (with_reducible refine (HC.out _ H.out HK.out).mono ?_); rintro e w1 ⟨rfl, hb1⟩)
    go_ret
    exact ⟨rfl, hb1⟩
  have hc := fun W (a : Rows W A 2 (xs.map Ty73.cells)) (b : ∀ x ∈ xs, x.ok W) => fits41_any A c xs W a b
  rw [hf] at hc
  have HC := Lib.hid hc
  clear hc hf
  by_cases hbig : 2147483647 < name.size
  · go_enter Try.func11, Try.ntmps11
    go_wp2_with (go_at_call 41; (with_reducible refine (HC.out _ H.out HK.out).mono ?_); rintro e w1 ⟨rfl, hb1⟩)
    go_ret
    exact ⟨rfl, hb1⟩
  have hsm : name.size ≤ 2147483647 := by omega
  clear hbig hnm'
  by_cases h20 : 20 < xs.length
  · go_enter Try.func11, Try.ntmps11
    go_wp2_with (go_at_call 41; (with_reducible refine (HC.out _ H.out HK.out).mono ?_); rintro e w1 ⟨rfl, hb1⟩)
    go_ret
    exact ⟨rfl, hb1⟩
  have x20 : xs.length ≤ 20 := by omega
  clear h20
  go_enter Try.func11, Try.ntmps11
  go_wp2_with (go_at_call 41; (with_reducible refine (HC.out _ H.out HK.out).mono ?_); rintro e w1 ⟨rfl, hb1⟩; have HB1 := Lib.hid hb1; clear hb1)
  go_loopw [5, 23] (fun t i wr => ∃ k : Nat, k ≤ xs.length ∧ i = .int .i64 k ∧ t = .string (getF (xs.take k) name) ∧ Hid (∀ j, ∀ hj : j < xs.length, j < k → shortS xs[j].fName = true ∧ shortS xs[j].fData = true) ∧ Hid (Below w.heap.size w wr)) (fun _ i _ => xs.length - (intOf i).toNat)
  case atStart => exact ⟨0, Nat.zero_le _, rfl, rfl, fun j _ h0 => by omega, HB1⟩
  case round =>
    clear HB1
    obtain ⟨k, hk, rfl, rfl, HA, HB⟩ := hrel
    by_cases hlt : k < xs.length
    · obtain ⟨ad, rfl, hx⟩ := rows73 (H.out.below HB.out) hlt
      have HX := Lib.hid hx
      have hG := getF_succ hlt name
      clear hx
      cases hs : (shortS xs[k].fName && shortS xs[k].fData)
      · have hc := fun g W => hlShort2_any g xs[k].fName xs[k].fData W
        rw [hs] at hc
        have HCS := Lib.hid hc
        clear hc hs hG HA
        go_wp2_with (first
          | ((with_reducible refine at_dst (N := 26) rfl ?_); refine ev_loadR rfl 73 _ rfl _ rfl _ HX.out _ Try.underlying73 rfl sz73 ?_)
          | ((with_reducible refine at_dst (N := 7) rfl ?_); refine ev_alloc rfl 73 rfl _ _ zero73 ?_; intro g w2 hg hB hb; have G1 := Lib.hid hB; have B1 := Lib.hid (below_trans HB.out hb); have hgb := Nat.le_trans HB.out.size hg; clear hB hb hg)
          | (refine ev_store rfl 73 _ _ rfl g _ _ rfl rfl 73 G1.out sz73 rfl rfl ?_; intro w3 hB2 hg2 hz2
             have q0 : w3.cell? ⟨g, 0, none⟩ = some (.string xs[k].fName) := hB2.cell 0
             have q1 : w3.cell? ⟨g, 1, none⟩ = some (.string xs[k].fData) := hB2.cell 1
             have B2 := Lib.hid (below_grown B1.out hg2 B1.out.size hgb)
             clear hB2 hg2 hz2)
          | (go_at_call 38; (with_reducible refine (HCS.out _ _ (Blk.new w3 9 #[.string xs[k].fName, .string xs[k].fData])).mono ?_); rintro e w' ⟨rfl, rfl⟩))
        go_ret
        exact ⟨rfl, below_alloc1 B2.out _⟩
      · have hc := fun g W => hlShort2_any g xs[k].fName xs[k].fData W
        rw [hs] at hc
        have HCS := Lib.hid hc
        have HA2 : Hid (∀ j, ∀ hj : j < xs.length, j < k + 1 → shortS xs[j].fName = true ∧ shortS xs[j].fData = true) := fun j hj hjk => by
          by_cases e : j = k
          · subst e; simpa using hs
          · exact HA.out j hj (by omega)
        clear hc hs HA
        cases he : xs[k].fName.toList == name.toList
        · have hne : ¬ xs[k].fName = name := by
            rw [toList_eq] at he
            intro e
            rw [e] at he
            simp at he
          rw [if_neg hne] at hG
          have HG := Lib.hid hG
          have HE := Lib.hid he
          clear hG hne
          go_wp2_with (first
            | ((with_reducible refine at_dst (N := 26) rfl ?_); refine ev_loadR rfl 73 _ rfl _ rfl _ HX.out _ Try.underlying73 rfl sz73 ?_)
            | ((with_reducible refine at_dst (N := 7) rfl ?_); refine ev_alloc rfl 73 rfl _ _ zero73 ?_; intro g w2 hg hB hb; have G1 := Lib.hid hB; have B1 := Lib.hid (below_trans HB.out hb); have hgb := Nat.le_trans HB.out.size hg; clear hB hb hg)
            | (refine ev_store rfl 73 _ _ rfl g _ _ rfl rfl 73 G1.out sz73 rfl rfl ?_; intro w3 hB2 hg2 hz2
               have q0 : w3.cell? ⟨g, 0, none⟩ = some (.string xs[k].fName) := hB2.cell 0
               have q1 : w3.cell? ⟨g, 1, none⟩ = some (.string xs[k].fData) := hB2.cell 1
               have hbA : Below w3.heap.size w3 (w3.alloc (.cells #[.string xs[k].fName, .string xs[k].fData] 9)) := (Below.refl _ _).alloc (Nat.le_refl _) _
               have p0 : (w3.alloc (.cells #[.string xs[k].fName, .string xs[k].fData] 9)).cell? ⟨g, 0, none⟩ = some (.string xs[k].fName) := cell_below hbA q0
               have p1 : (w3.alloc (.cells #[.string xs[k].fName, .string xs[k].fData] 9)).cell? ⟨g, 1, none⟩ = some (.string xs[k].fData) := cell_below hbA q1
               have B2 := Lib.hid (below_grown B1.out hg2 B1.out.size hgb)
               clear hB2 hg2 hz2 hbA)
            | (go_at_call 38; (with_reducible refine (HCS.out _ _ (Blk.new w3 9 #[.string xs[k].fName, .string xs[k].fData])).mono ?_); rintro e w' ⟨rfl, rfl⟩))
          refine ⟨⟨k + 1, by omega, by go_num, by rw [HG.out], HA2, below_alloc1 B2.out _⟩, ?_⟩
          simp [intOf]; omega
        · have hne : xs[k].fName = name := by
            rw [toList_eq] at he
            exact (by simpa using he : name = xs[k].fName).symm
          rw [if_pos hne] at hG
          have HG := Lib.hid hG
          have HE := Lib.hid he
          clear hG hne
          go_wp2_with (first
            | ((with_reducible refine at_dst (N := 26) rfl ?_); refine ev_loadR rfl 73 _ rfl _ rfl _ HX.out _ Try.underlying73 rfl sz73 ?_)
            | ((with_reducible refine at_dst (N := 7) rfl ?_); refine ev_alloc rfl 73 rfl _ _ zero73 ?_; intro g w2 hg hB hb; have G1 := Lib.hid hB; have B1 := Lib.hid (below_trans HB.out hb); have hgb := Nat.le_trans HB.out.size hg; clear hB hb hg)
            | (refine ev_store rfl 73 _ _ rfl g _ _ rfl rfl 73 G1.out sz73 rfl rfl ?_; intro w3 hB2 hg2 hz2
               have q0 : w3.cell? ⟨g, 0, none⟩ = some (.string xs[k].fName) := hB2.cell 0
               have q1 : w3.cell? ⟨g, 1, none⟩ = some (.string xs[k].fData) := hB2.cell 1
               have hbA : Below w3.heap.size w3 (w3.alloc (.cells #[.string xs[k].fName, .string xs[k].fData] 9)) := (Below.refl _ _).alloc (Nat.le_refl _) _
               have p0 : (w3.alloc (.cells #[.string xs[k].fName, .string xs[k].fData] 9)).cell? ⟨g, 0, none⟩ = some (.string xs[k].fName) := cell_below hbA q0
               have p1 : (w3.alloc (.cells #[.string xs[k].fName, .string xs[k].fData] 9)).cell? ⟨g, 1, none⟩ = some (.string xs[k].fData) := cell_below hbA q1
               have B2 := Lib.hid (below_grown B1.out hg2 B1.out.size hgb)
               clear hB2 hg2 hz2 hbA)
            | (go_at_call 38; (with_reducible refine (HCS.out _ _ (Blk.new w3 9 #[.string xs[k].fName, .string xs[k].fData])).mono ?_); rintro e w' ⟨rfl, rfl⟩))
          refine ⟨⟨k + 1, by omega, by go_num, by rw [HG.out], HA2, below_alloc1 B2.out _⟩, ?_⟩
          simp [intOf]; omega
    · obtain rfl : k = xs.length := by omega
      have hgs := getF_size (xs := xs) name (fun j hj => shortS_le (HA.out j hj hj).2) xs.length
      have hns : ∀ k, ∀ h : k < xs.length, xs[k].fName.size ≤ 1000000 := fun j hj => Nat.le_trans (shortS_le (HA.out j hj hj).1) (by decide)
      rw [List.take_length] at hgs ⊢
      have HNS := Lib.hid hns
      have hlen : (linesF (getF xs name)).length ≤ 1000000 := by
        unfold linesF
        split
        · simp
        · have h1 := splitF_len ⟨#[10]⟩ (Nat.le_refl 1) ((chopF (getF xs name)).size + 1) (chopF (getF xs name))
          have h2 : (chopF (getF xs name)).size ≤ (getF xs name).size := by
            unfold chopF
            split
            · simp [ByteArray.size_extract]
            · exact Nat.le_refl _
          omega
      have HLN := Lib.hid hlen
      have hgs2 : (getF xs name).size ≤ 1000000 := by omega
      clear hns hlen HA HC
      go_wp2_with (first
        | (go_at_call 42; (with_reducible refine (fileGet_any A c xs name _ (H.out.below HB.out) (by omega) HNS.out HNM.out hgs2).mono ?_); rintro e w1 ⟨A2, c2, rfl, hsl, hb1⟩; have HL := Lib.hid hsl; have B1 := Lib.hid (below_trans HB.out hb1); clear hsl hb1)
        | (go_at_call 43; (with_reducible refine (hlLines_any (getF xs name) _ hgs2).mono ?_); rintro e w2 ⟨v, rfl, ho, hb2⟩; obtain ⟨A3, c3, rfl, _, hsl⟩ := own_slice ho (by have := HLN.out; omega); have HL2 := Lib.hid (HL.out.below hb2); have HL3 := Lib.hid hsl; have B2 := Lib.hid (below_trans B1.out hb2); clear ho hsl hb2)
        | (go_at_call 40; (with_reducible refine (hlSame_any A2 c2 _ A3 c3 _ _ HL2.out HL3.out).mono ?_); rintro e w3 ⟨rfl, hb3⟩; have B3 := Lib.hid (below_trans B2.out hb3); clear hb3)
        | (go_at_call 36; (with_reducible refine (hlLives_any _).mono ?_); rintro e w4 ⟨rfl, hb4⟩; have B4 := Lib.hid (below_trans B3.out hb4); clear hb4))
      go_ret
      exact ⟨rfl, B4.out⟩
end Go.Proofs.Ytdgblfldbikneaa
