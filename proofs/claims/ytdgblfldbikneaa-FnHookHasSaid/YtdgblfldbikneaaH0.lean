/- Contract: impl.hook: a hook's own copy. -/
import Derived.Test.YtdgblfldbikneaaP5
import Derived.Test.YtdgblfldbikneaaMs
namespace Go.Proofs.Ytdgblfldbikneaa
open Go.RowKit Go.Lib

theorem info183 : (Try.prog.info? 183).map (fun i => (i.zero, i.size, i.bytes)) = some (some (.string ByteArray.empty), 1, 16) := by kernel_rfl
theorem info108 : (Try.prog.info? 108).map (fun i => (i.zero, i.size, i.bytes)) = some (some (.string ByteArray.empty), 1, 16) := by kernel_rfl
theorem info110 : (Try.prog.info? 110).map (fun i => (i.zero, i.size, i.bytes)) = some (some (.string ByteArray.empty), 1, 16) := by kernel_rfl
theorem sz175 : (Try.prog.info? 175).map (·.size) = some 1 := by kernel_rfl
theorem sz179 : (Try.prog.info? 179).map (·.size) = some 1 := by kernel_rfl
theorem sz180 : (Try.prog.info? 180).map (·.size) = some 1 := by kernel_rfl
abbrev hkCells (n k p m : ByteArray) (ve : Value) (wt : Int) (vd vo : Value) : Array Value := #[.string n, .string k, .string p, .string m, ve, .string ⟨#[]⟩, .int .i64 wt, vd, vo]
/-- A hook of the library's, at block g; its rows and itself lie behind B. -/
def HookIn (B : Nat) (w : World) (g : Nat) (n k p m : ByteArray) (wt : Int) (es ds os : List ByteArray) : Prop :=
  ∃ ve vd vo, Blk w g 182 (hkCells n k p m ve wt vd vo) ∧ B ≤ g ∧ w.ownsRow B 183 1 ve es.length (strs es) ∧ w.ownsRow B 108 1 vd ds.length (strs ds) ∧ w.ownsRow B 110 1 vo os.length (strs os)
theorem own_one {w : World} {B : Nat} {e : TypeId} {v : Value} {n : Nat} {cs : List Value} (h : w.ownsRow B e 1 v n cs) : v.oneCell' = true ∧ v.cells = #[v] := by
  rcases h.2 with ⟨rfl, _⟩ | ⟨g, cap, cur, rfl, _⟩ <;> exact ⟨rfl, rfl⟩
theorem own_set {w w' : World} {B : Nat} {e : TypeId} {v : Value} {n g : Nat} {cs : List Value} {t : TypeId} {c : Array Value} (h : w.ownsRow B e 1 v n cs) (hb : w.grownBy w' (some g)) (hg : Blk w g t c) (ht : e ≠ t) : w'.ownsRow B e 1 v n cs :=
  own_grown h hb (own_ne h hg ht)
theorem strs_take (xs : List ByteArray) {k : Nat} (h : k < xs.length) : strs (xs.take (k + 1)) = strs (xs.take k) ++ strs [xs[k]] := by
  rw [List.take_succ_eq_append_getElem h]
  simp only [strs, List.map_append, List.map_cons, List.map_nil]
theorem own_take {w : World} {B : Nat} {e : TypeId} {v : Value} {xs : List ByteArray} {k : Nat} (hk : k < xs.length) (h : w.ownsRow B e 1 v ((xs.take k).length + 1) (strs (xs.take k) ++ strs [xs[k]])) : w.ownsRow B e 1 v (xs.take (k + 1)).length (strs (xs.take (k + 1))) := by
  rw [strs_take xs hk]
  have : (xs.take (k + 1)).length = (xs.take k).length + 1 := by simp; omega
  rw [this]
  exact h

set_option maxRecDepth 100000 in
set_option maxHeartbeats 2000000 in
theorem hook_any (n kd p m : ByteArray) (A4 : Option Addr) (c4 : Nat) (es : List ByteArray) (A5 : Option Addr) (c5 : Nat) (ds : List ByteArray) (A6 : Option Addr) (c6 : Nat) (os : List ByteArray) (wt : Int) (w : World)
    (h4 : Sl w A4 (strs es)) (h5 : Sl w A5 (strs ds)) (h6 : Sl w A6 (strs os)) (l4 : es.length ≤ 1000000) (l5 : ds.length ≤ 1000000) (l6 : os.length ≤ 1000000) :
    Calls Try.prog 61 #[.agg #[.string n, .string kd, .string p, .string m, .slice A4 es.length c4, .slice A5 ds.length c5, .slice A6 os.length c6, .int .i64 wt]] w
      fun e w' => ∃ g, e = .returned (.pointer (some ⟨g, 0, none⟩)) ∧ HookIn w.heap.size w' g n kd p m wt es ds os ∧ Below w.heap.size w w' := by
  have H4 := Lib.hid h4
  have H5 := Lib.hid h5
  have H6 := Lib.hid h6
  clear h4 h5 h6
  go_enter Try.func61, Try.ntmps61
  go_upto_region 2 with (first
    | ((with_reducible refine at_dst (N := 1) rfl ?_); refine ev_box rfl 32 _ rfl _ rfl ?_; intro g0 w1 hg0 hB0 hb0
       have H0 : Hid (Blk w1 g0 32 #[.string n, .string kd, .string p, .string m, .slice A4 es.length c4, .slice A5 ds.length c5, .slice A6 os.length c6, .int .i64 wt]) := hB0
       clear hB0
       have HB0 := Lib.hid hb0
       clear hb0
       have q0 : w1.cell? ⟨g0, 0, none⟩ = some (.string n) := H0.out.cell 0
       have q1 : w1.cell? ⟨g0, 1, none⟩ = some (.string kd) := H0.out.cell 1
       have q2 : w1.cell? ⟨g0, 2, none⟩ = some (.string p) := H0.out.cell 2
       have q3 : w1.cell? ⟨g0, 3, none⟩ = some (.string m) := H0.out.cell 3
       have q7 : w1.cell? ⟨g0, 7, none⟩ = some (.int .i64 wt) := H0.out.cell 7)
    | ((with_reducible refine at_dst (N := 21) rfl ?_); refine ev_box rfl 182 _ rfl _ rfl ?_; intro g w2 hg hB hb
       have HK : Hid (HookIn w.heap.size w2 g n kd p m wt [] [] []) := ⟨.slice none 0 0, .slice none 0 0, .slice none 0 0, hB, Nat.le_trans HB0.out.size hg, own_nil _ _ _ _, own_nil _ _ _ _, own_nil _ _ _ _⟩
       have H02 := Lib.hid (H0.out.below hb)
       have HB2 := Lib.hid (below_trans HB0.out hb)
       clear hB hb q0 q1 q2 q3 q7 H0 HB0 hg))
  have q4 : w2.cell? ⟨g0, 4, none⟩ = some (.slice A4 es.length c4) := H02.out.cell 4
  go_upto_region 3 with fail
  go_loopw [25] (fun i wr => ∃ k : Nat, k ≤ es.length ∧ i = .int .i64 k ∧ Hid (HookIn w.heap.size wr g n kd p m wt (es.take k) [] []) ∧ Hid (Blk wr g0 32 #[.string n, .string kd, .string p, .string m, .slice A4 es.length c4, .slice A5 ds.length c5, .slice A6 os.length c6, .int .i64 wt]) ∧ Hid (Below w.heap.size w wr)) (fun i _ => es.length - (intOf i).toNat)
  case atStart => exact ⟨0, Nat.zero_le _, rfl, HK, H02, HB2⟩
  case round =>
    clear q4 HK H02 HB2
    obtain ⟨k, hk, rfl, HK, H02, HB2⟩ := hrel
    by_cases hlt : k < es.length
    · obtain ⟨ad, rfl, hx⟩ := strs_at (H4.out.below HB2.out) hlt
      obtain ⟨ve, vd, vo, hB, hBg, o1, o2, o3⟩ := HK.out
      have r4 : wr.cell? ⟨g, 4, none⟩ = some ve := hB.cell 4
      have HB := Lib.hid hB
      have O1 := Lib.hid o1
      have O2 := Lib.hid o2
      have O3 := Lib.hid o3
      clear hB o1 o2 o3 HK
      have hbA : Hid (Below wr.heap.size wr (wr.alloc (.cells #[.string es[k]] 183))) := (Below.refl _ _).alloc (Nat.le_refl _) _
      have hsA : Hid (Sl (wr.alloc (.cells #[.string es[k]] 183)) (some ⟨wr.heap.size, 0, none⟩) (strs [es[k]])) := (Blk.new wr 183 #[.string es[k]]).sl (by simp)
      go_wp2_with (first
        | ((with_reducible refine at_dst (N := 36) rfl ?_); refine ev_app (w := wr.alloc (.cells #[.string es[k]] 183)) rfl _ _ 175 183 rfl Try.underlying175 _ 1 16 info183 rfl (by omega) w.heap.size _ _ _ rfl (own_below O1.out hbA.out) _ 1 1 (strs [es[k]]) rfl hsA.out (by simp [strs]) (by simp [strs, Value.oneCell']) (by simp; omega) (by simp; omega) (Nat.le_trans HB2.out.size hbA.out.size) ?_; intro v1 w1 ho1 hg1 hat1
           have HB1 := Lib.hid ((HB.out.below hbA.out).row hg1 (own_ne (own_below O1.out hbA.out) (HB.out.below hbA.out) (by decide)))
           have H01 := Lib.hid ((H02.out.below hbA.out).row hg1 (own_ne (own_below O1.out hbA.out) (H02.out.below hbA.out) (by decide)))
           have O21 := Lib.hid (own_row (own_below O2.out hbA.out) hg1 (own_apart (own_below O2.out hbA.out) (own_below O1.out hbA.out) (by decide)))
           have O31 := Lib.hid (own_row (own_below O3.out hbA.out) hg1 (own_apart (own_below O3.out hbA.out) (own_below O1.out hbA.out) (by decide)))
           have HX := Lib.hid (below_row (below_trans HB2.out hbA.out) hg1 (Nat.le_trans HB2.out.size hbA.out.size) (own_ge O1.out))
           have O11 := Lib.hid ho1
           clear ho1 hg1 hat1)
        | (refine ev_store1 rfl 175 _ _ rfl g 4 _ rfl v1 rfl 182 HB1.out sz175 (by simp) (own_one O11.out).1 (own_one O11.out).2 ?_; intro w2 hB2 hg2 hz2))
      have hng : g0 ≠ g := fun e => by
        have h1 := H01.out
        subst e
        have h2 := HB1.out
        unfold Blk at h1 h2
        rw [h1] at h2
        injection h2 with h2
        injection h2 with _ h2
        exact absurd h2 (by decide)
      go_roundw
      case rel =>
        exact ⟨k + 1, by omega, by go_num, ⟨v1, vd, vo, hB2, hBg, own_take hlt (own_set O11.out hg2 HB1.out (by decide)), own_set O21.out hg2 HB1.out (by decide), own_set O31.out hg2 HB1.out (by decide)⟩,
          H01.out.grown hg2 hng, below_grown HX.out hg2 HX.out.size hBg⟩
      case measure => simp [intOf]; omega
    · obtain rfl : k = es.length := by omega
      rw [List.take_length] at HK
      have q5 : wr.cell? ⟨g0, 5, none⟩ = some (.slice A5 ds.length c5) := H02.out.cell 5
      go_upto_region 8 with fail
      go_loopw [43] (fun i wr => ∃ k : Nat, k ≤ ds.length ∧ i = .int .i64 k ∧ Hid (HookIn w.heap.size wr g n kd p m wt es (ds.take k) []) ∧ Hid (Blk wr g0 32 #[.string n, .string kd, .string p, .string m, .slice A4 es.length c4, .slice A5 ds.length c5, .slice A6 os.length c6, .int .i64 wt]) ∧ Hid (Below w.heap.size w wr)) (fun i _ => ds.length - (intOf i).toNat)
      case atStart => exact ⟨0, Nat.zero_le _, rfl, HK, H02, HB2⟩
      case round =>
        clear q5 HK H02 HB2
        obtain ⟨k, hk, rfl, HK, H02, HB2⟩ := hrel
        by_cases hlt : k < ds.length
        · obtain ⟨ad, rfl, hx⟩ := strs_at (H5.out.below HB2.out) hlt
          obtain ⟨ve, vd, vo, hB, hBg, o1, o2, o3⟩ := HK.out
          have r4 : wr.cell? ⟨g, 7, none⟩ = some vd := hB.cell 7
          have HB := Lib.hid hB
          have O1 := Lib.hid o1
          have O2 := Lib.hid o2
          have O3 := Lib.hid o3
          clear hB o1 o2 o3 HK
          have hbA : Hid (Below wr.heap.size wr (wr.alloc (.cells #[.string ds[k]] 108))) := (Below.refl _ _).alloc (Nat.le_refl _) _
          have hsA : Hid (Sl (wr.alloc (.cells #[.string ds[k]] 108)) (some ⟨wr.heap.size, 0, none⟩) (strs [ds[k]])) := (Blk.new wr 108 #[.string ds[k]]).sl (by simp)
          go_wp2_with (first
            | ((with_reducible refine at_dst (N := 54) rfl ?_); refine ev_app (w := wr.alloc (.cells #[.string ds[k]] 108)) rfl _ _ 179 108 rfl Try.underlying179 _ 1 16 info108 rfl (by omega) w.heap.size _ _ _ rfl (own_below O2.out hbA.out) _ 1 1 (strs [ds[k]]) rfl hsA.out (by simp [strs]) (by simp [strs, Value.oneCell']) (by simp; omega) (by simp; omega) (Nat.le_trans HB2.out.size hbA.out.size) ?_; intro v1 w1 ho1 hg1 hat1
               have HB1 := Lib.hid ((HB.out.below hbA.out).row hg1 (own_ne (own_below O2.out hbA.out) (HB.out.below hbA.out) (by decide)))
               have H01 := Lib.hid ((H02.out.below hbA.out).row hg1 (own_ne (own_below O2.out hbA.out) (H02.out.below hbA.out) (by decide)))
               have O11 := Lib.hid (own_row (own_below O1.out hbA.out) hg1 (own_apart (own_below O1.out hbA.out) (own_below O2.out hbA.out) (by decide)))
               have O31 := Lib.hid (own_row (own_below O3.out hbA.out) hg1 (own_apart (own_below O3.out hbA.out) (own_below O2.out hbA.out) (by decide)))
               have HX := Lib.hid (below_row (below_trans HB2.out hbA.out) hg1 (Nat.le_trans HB2.out.size hbA.out.size) (own_ge O2.out))
               have O21 := Lib.hid ho1
               clear ho1 hg1 hat1)
            | (refine ev_store1 rfl 179 _ _ rfl g 7 _ rfl v1 rfl 182 HB1.out sz179 (by simp) (own_one O21.out).1 (own_one O21.out).2 ?_; intro w2 hB2 hg2 hz2))
          have hng : g0 ≠ g := fun e => by
            have h1 := H01.out
            subst e
            have h2 := HB1.out
            unfold Blk at h1 h2
            rw [h1] at h2
            injection h2 with h2
            injection h2 with _ h2
            exact absurd h2 (by decide)
          go_roundw
          case rel =>
            exact ⟨k + 1, by omega, by go_num, ⟨ve, v1, vo, hB2, hBg, own_set O11.out hg2 HB1.out (by decide), own_take hlt (own_set O21.out hg2 HB1.out (by decide)), own_set O31.out hg2 HB1.out (by decide)⟩,
              H01.out.grown hg2 hng, below_grown HX.out hg2 HX.out.size hBg⟩
          case measure => simp [intOf]; omega
        · obtain rfl : k = ds.length := by omega
          rw [List.take_length] at HK
          have q6 : wr.cell? ⟨g0, 6, none⟩ = some (.slice A6 os.length c6) := H02.out.cell 6
          go_upto_region 13 with fail
          go_loopw [61] (fun i wr => ∃ k : Nat, k ≤ os.length ∧ i = .int .i64 k ∧ Hid (HookIn w.heap.size wr g n kd p m wt es ds (os.take k)) ∧ Hid (Blk wr g0 32 #[.string n, .string kd, .string p, .string m, .slice A4 es.length c4, .slice A5 ds.length c5, .slice A6 os.length c6, .int .i64 wt]) ∧ Hid (Below w.heap.size w wr)) (fun i _ => os.length - (intOf i).toNat)
          case atStart => exact ⟨0, Nat.zero_le _, rfl, HK, H02, HB2⟩
          case round =>
            clear q6 HK H02 HB2
            obtain ⟨k, hk, rfl, HK, H02, HB2⟩ := hrel
            by_cases hlt : k < os.length
            · obtain ⟨ad, rfl, hx⟩ := strs_at (H6.out.below HB2.out) hlt
              obtain ⟨ve, vd, vo, hB, hBg, o1, o2, o3⟩ := HK.out
              have r4 : wr.cell? ⟨g, 8, none⟩ = some vo := hB.cell 8
              have HB := Lib.hid hB
              have O1 := Lib.hid o1
              have O2 := Lib.hid o2
              have O3 := Lib.hid o3
              clear hB o1 o2 o3 HK
              have hbA : Hid (Below wr.heap.size wr (wr.alloc (.cells #[.string os[k]] 110))) := (Below.refl _ _).alloc (Nat.le_refl _) _
              have hsA : Hid (Sl (wr.alloc (.cells #[.string os[k]] 110)) (some ⟨wr.heap.size, 0, none⟩) (strs [os[k]])) := (Blk.new wr 110 #[.string os[k]]).sl (by simp)
              go_wp2_with (first
                | ((with_reducible refine at_dst (N := 72) rfl ?_); refine ev_app (w := wr.alloc (.cells #[.string os[k]] 110)) rfl _ _ 180 110 rfl Try.underlying180 _ 1 16 info110 rfl (by omega) w.heap.size _ _ _ rfl (own_below O3.out hbA.out) _ 1 1 (strs [os[k]]) rfl hsA.out (by simp [strs]) (by simp [strs, Value.oneCell']) (by simp; omega) (by simp; omega) (Nat.le_trans HB2.out.size hbA.out.size) ?_; intro v1 w1 ho1 hg1 hat1
                   have HB1 := Lib.hid ((HB.out.below hbA.out).row hg1 (own_ne (own_below O3.out hbA.out) (HB.out.below hbA.out) (by decide)))
                   have H01 := Lib.hid ((H02.out.below hbA.out).row hg1 (own_ne (own_below O3.out hbA.out) (H02.out.below hbA.out) (by decide)))
                   have O11 := Lib.hid (own_row (own_below O1.out hbA.out) hg1 (own_apart (own_below O1.out hbA.out) (own_below O3.out hbA.out) (by decide)))
                   have O21 := Lib.hid (own_row (own_below O2.out hbA.out) hg1 (own_apart (own_below O2.out hbA.out) (own_below O3.out hbA.out) (by decide)))
                   have HX := Lib.hid (below_row (below_trans HB2.out hbA.out) hg1 (Nat.le_trans HB2.out.size hbA.out.size) (own_ge O3.out))
                   have O31 := Lib.hid ho1
                   clear ho1 hg1 hat1)
                | (refine ev_store1 rfl 180 _ _ rfl g 8 _ rfl v1 rfl 182 HB1.out sz180 (by simp) (own_one O31.out).1 (own_one O31.out).2 ?_; intro w2 hB2 hg2 hz2))
              have hng : g0 ≠ g := fun e => by
                have h1 := H01.out
                subst e
                have h2 := HB1.out
                unfold Blk at h1 h2
                rw [h1] at h2
                injection h2 with h2
                injection h2 with _ h2
                exact absurd h2 (by decide)
              go_roundw
              case rel =>
                exact ⟨k + 1, by omega, by go_num, ⟨ve, vd, v1, hB2, hBg, own_set O11.out hg2 HB1.out (by decide), own_set O21.out hg2 HB1.out (by decide), own_take hlt (own_set O31.out hg2 HB1.out (by decide))⟩,
                  H01.out.grown hg2 hng, below_grown HX.out hg2 HX.out.size hBg⟩
              case measure => simp [intOf]; omega
            · obtain rfl : k = os.length := by omega
              rw [List.take_length] at HK
              go_wp2
              go_ret
              exact ⟨g, rfl, HK.out, HB2.out⟩
end Go.Proofs.Ytdgblfldbikneaa
