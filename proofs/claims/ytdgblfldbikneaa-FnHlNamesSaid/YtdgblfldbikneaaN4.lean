/- Contracts: ZzDuplicates, PluginDuplicates; HlAll. -/
import Derived.Test.YtdgblfldbikneaaN3
namespace Go.Proofs.Ytdgblfldbikneaa
open Go.RowKit Go.Lib

theorem zzDup_any (A : Option Addr) (c : Nat) (ps : List Value) (ns : List ByteArray) (w : World) (h : Sl w A ps) (hp : PlugsAt w ps ns) (hn : ns.length ≤ 1000000) (hs : ∀ k, ∀ h : k < ns.length, ns[k].size ≤ 1000000) :
    Calls Try.prog 103 #[.slice A ns.length c] w fun e w' => ∃ v, e = .returned v ∧ ErrIs v (!dupB ns) ∧ Below w.heap.size w w' := by
  have H := Lib.hid h
  have HP := Lib.hid hp
  have HS := Lib.hid hs
  clear h hp hs
  go_enter Try.func103, Try.ntmps103
  go_wp2_with (go_at_call 131; (with_reducible refine (detectDup_any A c ps ns _ H.out HP.out hn HS.out).mono ?_); rintro e w1 ⟨v, rfl, hv, hb⟩)
  go_ret
  exact ⟨v, rfl, hv, hb⟩
theorem info156 : (Try.prog.info? 156).map (fun i => (i.zero, i.size, i.bytes)) = some (some (.pointer none), 1, 8) := by kernel_rfl
set_option maxRecDepth 100000 in
set_option maxHeartbeats 2000000 in
theorem pluginDup_any (A : Option Addr) (c : Nat) (xs : List ByteArray) (w : World) (h : Sl w A (strs xs)) (hn : xs.length ≤ 1000000) (hs : ∀ k, ∀ h : k < xs.length, xs[k].size ≤ 1000000) :
    Calls Try.prog 51 #[.slice A xs.length c] w fun e w' => e = .returned (.bool (dupB xs)) ∧ Below w.heap.size w w' := by
  have H := Lib.hid h
  have HS := Lib.hid hs
  clear h hs
  go_enter Try.func51, Try.ntmps51
  go_wp2_with fail
  go_loopw [3, 8] (fun v i wr => ∃ (k : Nat) (ps : List Value), k ≤ xs.length ∧ i = .int .i64 k ∧ Hid (wr.ownsRow w.heap.size 156 1 v k ps) ∧ Hid (PlugsAt wr ps (xs.take k)) ∧ Hid (Below w.heap.size w wr)) (fun _ i _ => xs.length - (intOf i).toNat)
  case atStart => exact ⟨0, [], Nat.zero_le _, rfl, own_nil _ _ _ _, ⟨rfl, fun k hk => by simp at hk⟩, Below.refl _ _⟩
  case round =>
    obtain ⟨k, ps, hk, rfl, HO, HP, HB⟩ := hrel
    by_cases hlt : k < xs.length
    · obtain ⟨ad, rfl, hx⟩ := strs_at (H.out.below HB.out) hlt
      go_wp2_with (first
        | ((with_reducible refine at_dst (N := 15) rfl ?_); refine ev_box rfl 160 _ rfl _ rfl ?_; intro gm w1 hgm hB hb; have M1 : Hid (Blk w1 gm 160 (pmCells xs[k] ⟨#[]⟩)) := hB; have O1 := Lib.hid (own_below HO.out hb); have P1 := Lib.hid (HP.out.below hb); have B1 := Lib.hid (below_trans HB.out hb); clear hB hb hx)
        | ((with_reducible refine at_dst (N := 17) rfl ?_); refine ev_box rfl 162 _ rfl _ rfl ?_; intro gp w2 hgp hB hb; have G2 : Hid (Blk w2 gp 162 #[.pointer (some ⟨gm, 0, none⟩), .string ⟨#[]⟩]) := hB; have M2 := Lib.hid (M1.out.below hb); have O2 := Lib.hid (own_below O1.out hb); have P2 := Lib.hid (P1.out.below hb); have B2 := Lib.hid (below_trans B1.out hb)
           have hbA : Hid (Below w2.heap.size w2 (w2.alloc (.cells #[.pointer (some ⟨gp, 0, none⟩)] 156))) := (Below.refl _ _).alloc (Nat.le_refl _) _
           have hsA : Hid (Sl (w2.alloc (.cells #[.pointer (some ⟨gp, 0, none⟩)] 156)) (some ⟨w2.heap.size, 0, none⟩) [.pointer (some ⟨gp, 0, none⟩)]) := (Blk.new w2 156 #[.pointer (some ⟨gp, 0, none⟩)]).sl (by simp)
           clear hB hb)
        | ((with_reducible refine at_dst (N := 19) rfl ?_); refine ev_app (w := w2.alloc (.cells #[.pointer (some ⟨gp, 0, none⟩)] 156)) rfl _ _ 164 156 rfl Try.underlying164 _ 1 8 info156 rfl (by omega) w.heap.size _ _ _ rfl (own_below O2.out hbA.out) _ 1 1 [.pointer (some ⟨gp, 0, none⟩)] rfl hsA.out (by simp) (by simp [Value.oneCell']) (by omega) (by omega) (Nat.le_trans B2.out.size hbA.out.size) ?_; intro v3 w3 ho3 hg3 hat3
           have hne : ∀ g t c, Blk (w2.alloc (.cells #[.pointer (some ⟨gp, 0, none⟩)] 156)) g t c → t = 162 ∨ t = 160 → some g ≠ Value.ownBlock _ := fun g t c hb ht e => own_ne (own_below O2.out hbA.out) hb (by rcases ht with rfl | rfl <;> decide) e.symm
           have P3 := Lib.hid ((P2.out.below hbA.out).kept hg3 hne)
           have G3 := Lib.hid ((G2.out.below hbA.out).kept hg3 (hne _ _ _ (G2.out.below hbA.out) (.inl rfl)))
           have M3 := Lib.hid ((M2.out.below hbA.out).kept hg3 (hne _ _ _ (M2.out.below hbA.out) (.inr rfl)))
           have B3 := Lib.hid (below_row (below_trans B2.out hbA.out) hg3 (Nat.le_trans B2.out.size hbA.out.size) (own_ge O2.out))
           have O3 := Lib.hid ho3
           clear ho3 hg3 hat3 hne))
      go_roundw
      case rel =>
        refine ⟨k + 1, ps ++ [.pointer (some ⟨gp, 0, none⟩)], by omega, by go_num, O3, ⟨?_, fun j hj => ?_⟩, B3.out⟩
        · have := P3.out.1
          simp at this ⊢
          omega
        · have hl : ps.length = k := by have := P3.out.1; simp at this; omega
          have hj2 : j < k + 1 := by simp at hj; omega
          by_cases e : j = k
          · subst e
            refine ⟨gp, gm, by rw [List.getElem?_append_right (by omega)]; simp [hl], G3.out, ?_⟩
            have : (xs.take (j + 1))[j] = xs[j] := by simp
            rw [this]
            exact M3.out
          · obtain ⟨gp', gm', e1, e2, e3⟩ := P3.out.2 j (by simp; omega)
            refine ⟨gp', gm', by rw [List.getElem?_append_left (by omega)]; exact e1, e2, ?_⟩
            have : (xs.take (k + 1))[j] = (xs.take k)[j]'(by simp; omega) := by simp
            rw [this]
            exact e3
      case measure => simp [intOf]; omega
    · obtain rfl : k = xs.length := by omega
      rw [List.take_length] at HP
      obtain ⟨A', c', rfl, _, hsl⟩ := own_slice HO.out (by omega)
      have HSL := Lib.hid hsl
      clear hsl
      cases hd : dupB xs
      · have hz := fun W => zzDup_any A' c' ps xs W
        rw [hd] at hz
        have HZ := Lib.hid hz
        have HD := Lib.hid hd
        clear hz hd
        go_wp2_with (go_at_call 103; (with_reducible refine (HZ.out _ HSL.out HP.out hn HS.out).mono ?_); rintro e w1 ⟨v, rfl, hv, hb⟩; obtain rfl : v = .nilIface := hv)
        go_ret
        exact ⟨ret_bool HD.out.symm, below_trans HB.out hb⟩
      · have hz := fun W => zzDup_any A' c' ps xs W
        rw [hd] at hz
        have HZ := Lib.hid hz
        have HD := Lib.hid hd
        clear hz hd
        go_wp2_with (go_at_call 103; (with_reducible refine (HZ.out _ HSL.out HP.out hn HS.out).mono ?_); rintro e w1 ⟨v, rfl, ⟨g, rfl⟩, hb⟩)
        go_ret
        exact ⟨ret_bool HD.out.symm, below_trans HB.out hb⟩

/-- Whether a byte is a letter, a digit, or in set. -/
def okB (set : ByteArray) (c : UInt8) : Bool := alnumU c.toNat || set.data.toList.any fun x => x == c
def allB (s set : ByteArray) : Bool := (s.data.toList.all fun c => okB set c) && !s.data.toList.isEmpty
theorem allB_no {s set : ByteArray} {k : Nat} (hk : k < s.size) (h : okB set s[k] = false) : allB s set = false := by
  unfold allB
  rw [Bool.and_eq_false_iff]
  left
  rw [List.all_eq_false]
  exact ⟨s[k], Array.mem_toList_iff.2 (Array.getElem_mem _), by simp [h]⟩
theorem allB_yes {s set : ByteArray} (h : ∀ k, ∀ hk : k < s.size, okB set s[k] = true) : allB s set = !s.data.toList.isEmpty := by
  unfold allB
  have : (s.data.toList.all fun c => okB set c) = true := by
    rw [List.all_eq_true]
    intro c hc
    obtain ⟨k, hk, rfl⟩ := List.mem_iff_getElem.1 hc
    exact h k (by simpa using hk)
  rw [this, Bool.true_and]
end Go.Proofs.Ytdgblfldbikneaa
