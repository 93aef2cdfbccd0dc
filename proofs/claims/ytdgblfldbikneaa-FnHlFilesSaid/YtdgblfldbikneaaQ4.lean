/- Contracts: files, newFiles, ZzFiles: files as a map. -/
import Derived.Test.YtdgblfldbikneaaQ3
namespace Go.Proofs.Ytdgblfldbikneaa
open Go.RowKit Go.Lib

theorem BB.kept {w w' : World} {row : Option Nat} {g : Nat} {e : TypeId} {b : ByteArray} (h : BB w g e b) (hg : w.grownBy w' row) (hne : some g ≠ row) : BB w' g e b := by
  have hl := h.lt
  obtain ⟨tail, h⟩ := h
  exact ⟨tail, (hg.block g hl hne).trans h⟩
/-- A pointer to a file of the library's. -/
def FileAt (w : World) (v : Value) (x : Ty73) : Prop := ∃ gp gb c, v = .pointer (some ⟨gp, 0, none⟩) ∧ Blk w gp 206 #[.string x.fName, .slice (some ⟨gb, 0, none⟩) x.fData.size c] ∧ BB w gb 5 x.fData
def FilesAt (w : World) (ps : List Value) (xs : List Ty73) : Prop := ps.length = xs.length ∧ ∀ k, ∀ h : k < xs.length, ∃ v, ps[k]? = some v ∧ FileAt w v xs[k]
theorem FileAt.below {w w' : World} {v : Value} {x : Ty73} (h : FileAt w v x) (hb : Below w.heap.size w w') : FileAt w' v x := by
  obtain ⟨gp, gb, c, e, h1, h2⟩ := h
  exact ⟨gp, gb, c, e, h1.below hb, h2.below hb⟩
theorem FileAt.kept {w w' : World} {row : Option Nat} {v : Value} {x : Ty73} (h : FileAt w v x) (hg : w.grownBy w' row) (hr : ∀ g, (∃ c, Blk w g 206 c) ∨ (∃ b, BB w g 5 b) → some g ≠ row) : FileAt w' v x := by
  obtain ⟨gp, gb, c, e, h1, h2⟩ := h
  exact ⟨gp, gb, c, e, h1.kept hg (hr _ (.inl ⟨_, h1⟩)), h2.kept hg (hr _ (.inr ⟨_, h2⟩))⟩
theorem FilesAt.below {w w' : World} {ps : List Value} {xs : List Ty73} (h : FilesAt w ps xs) (hb : Below w.heap.size w w') : FilesAt w' ps xs :=
  ⟨h.1, fun k hk => by obtain ⟨v, e, f⟩ := h.2 k hk; exact ⟨v, e, f.below hb⟩⟩
theorem FilesAt.kept {w w' : World} {row : Option Nat} {ps : List Value} {xs : List Ty73} (h : FilesAt w ps xs) (hg : w.grownBy w' row) (hr : ∀ g, (∃ c, Blk w g 206 c) ∨ (∃ b, BB w g 5 b) → some g ≠ row) : FilesAt w' ps xs :=
  ⟨h.1, fun k hk => by obtain ⟨v, e, f⟩ := h.2 k hk; exact ⟨v, e, f.kept hg hr⟩⟩
theorem FilesAt.snoc {w : World} {ps : List Value} {xs : List Ty73} {k : Nat} (hk : k < xs.length) {v : Value} (h : FilesAt w ps (xs.take k)) (hv : FileAt w v xs[k]) : FilesAt w (ps ++ [v]) (xs.take (k + 1)) := by
  have hl : ps.length = k := by have := h.1; simp at this; omega
  refine ⟨by simp; omega, fun j hj => ?_⟩
  have hj2 : j < k + 1 := by simp at hj; omega
  by_cases e : j = k
  · subst e
    refine ⟨v, by rw [List.getElem?_append_right (by omega)]; simp [hl], ?_⟩
    have : (xs.take (j + 1))[j] = xs[j] := by simp
    rw [this]; exact hv
  · obtain ⟨u, e1, e2⟩ := h.2 j (by simp; omega)
    refine ⟨u, by rw [List.getElem?_append_left (by omega)]; exact e1, ?_⟩
    have : (xs.take (k + 1))[j] = (xs.take k)[j]'(by simp; omega) := by simp
    rw [this]; exact e2
theorem info204 : (Try.prog.info? 204).map (fun i => (i.zero, i.size, i.bytes)) = some (some (.pointer none), 1, 8) := by kernel_rfl
theorem BB.ne_own {w : World} {g : Nat} {b : ByteArray} (h : BB w g 5 b) {base sz m : Nat} {e : TypeId} {v : Value} {cs : List Value} (ho : w.ownsRow base e sz v m cs) (he : e ≠ 5) : some g ≠ v.ownBlock := by
  rcases ho.2 with ⟨rfl, _⟩ | ⟨g', cap, cur, rfl, _, hh, _⟩
  · simp [Value.ownBlock]
  · intro he2
    have : g = g' := by simpa [Value.ownBlock] using he2
    subst this
    obtain ⟨tail, h⟩ := h
    rw [h] at hh
    injection hh with hh
    injection hh with _ hh
    exact he hh.symm

set_option maxRecDepth 100000 in
set_option maxHeartbeats 2000000 in
theorem files_any (A : Option Addr) (c : Nat) (xs : List Ty73) (w : World) (h : Rows w A 2 (xs.map Ty73.cells)) (hn : xs.length ≤ 1000000) :
    Calls Try.prog 89 #[.slice A xs.length c] w fun e w' => ∃ v ps, e = .returned v ∧ w'.ownsRow w.heap.size 204 1 v xs.length ps ∧ FilesAt w' ps xs ∧ Below w.heap.size w w' := by
  have H := Lib.hid h
  clear h
  go_enter Try.func89, Try.ntmps89
  go_wp2_with fail
  go_loopw [3, 8] (fun v i wr => ∃ (k : Nat) (ps : List Value), k ≤ xs.length ∧ i = .int .i64 k ∧ Hid (wr.ownsRow w.heap.size 204 1 v k ps) ∧ Hid (FilesAt wr ps (xs.take k)) ∧ Hid (Below w.heap.size w wr)) (fun _ i _ => xs.length - (intOf i).toNat)
  case atStart => exact ⟨0, [], Nat.zero_le _, rfl, own_nil _ _ _ _, ⟨rfl, fun k hk => by simp at hk⟩, Below.refl _ _⟩
  case round =>
    obtain ⟨k, ps, hk, rfl, HO, HP, HB⟩ := hrel
    by_cases hlt : k < xs.length
    · obtain ⟨ad, rfl, hx⟩ := rows73 (H.out.below HB.out) hlt
      have HX := Lib.hid hx
      clear hx
      go_wp2_with (first
        | ((with_reducible refine at_dst (N := 11) rfl ?_); refine ev_loadR rfl 73 _ rfl _ rfl _ HX.out _ Try.underlying73 rfl sz73 ?_)
        | ((with_reducible refine at_dst (N := 5) rfl ?_); refine ev_alloc rfl 73 rfl _ _ zero73 ?_; intro g w1 hg hB hb; have G1 := Lib.hid hB; have O1 := Lib.hid (own_below HO.out hb); have P1 := Lib.hid (HP.out.below hb); have B1 := Lib.hid (below_trans HB.out hb); have hgb := Nat.le_trans HB.out.size hg; clear hB hb hg)
        | (refine ev_store rfl 73 _ _ rfl g _ _ rfl rfl 73 G1.out sz73 rfl rfl ?_; intro w2 hB2 hg2 hz2
           have q0 : w2.cell? ⟨g, 0, none⟩ = some (.string xs[k].fName) := hB2.cell 0
           have q1 : w2.cell? ⟨g, 1, none⟩ = some (.string xs[k].fData) := hB2.cell 1
           have O2 := Lib.hid (own_grown O1.out hg2 (own_ne O1.out G1.out (by decide)))
           have P2 := Lib.hid (P1.out.kept hg2 (fun g' hh e => by
             injection e with e
             subst e
             rcases hh with ⟨cc, hh⟩ | ⟨b, ⟨tail, hh⟩⟩
             · exact hh.ne G1.out (by decide) rfl
             · have h1 := G1.out
               unfold Blk at h1
               rw [h1] at hh
               injection hh with hh
               injection hh with _ hh
               exact absurd hh (by decide)))
           have B2 := Lib.hid (below_grown B1.out hg2 B1.out.size hgb)
           clear hB2 hg2 hz2)
        | ((with_reducible refine at_dst (N := 17) rfl ?_); refine ev_bytes rfl 9 120 5 _ rfl Try.underlying9 Try.underlying120 Try.underlying5 _ rfl ?_; intro gb cb w3 hgb3 hcb hBB hb3
           have BB3 := Lib.hid hBB
           have O3 := Lib.hid (own_below O2.out hb3)
           have P3 := Lib.hid (P2.out.below hb3)
           have B3 := Lib.hid (below_trans B2.out hb3)
           clear hBB hb3 q0 q1)
        | ((with_reducible refine at_dst (N := 19) rfl ?_); refine ev_box rfl 206 _ rfl _ rfl ?_; intro gp w4 hgp hB4 hb4
           have hF4 : Hid (FileAt w4 (.pointer (some ⟨gp, 0, none⟩)) xs[k]) := ⟨gp, gb, cb, rfl, hB4, BB3.out.below hb4⟩
           have O4 := Lib.hid (own_below O3.out hb4)
           have P4 := Lib.hid (P3.out.below hb4)
           have B4 := Lib.hid (below_trans B3.out hb4)
           have hbA : Hid (Below w4.heap.size w4 (w4.alloc (.cells #[.pointer (some ⟨gp, 0, none⟩)] 204))) := (Below.refl _ _).alloc (Nat.le_refl _) _
           have hsA : Hid (Sl (w4.alloc (.cells #[.pointer (some ⟨gp, 0, none⟩)] 204)) (some ⟨w4.heap.size, 0, none⟩) [.pointer (some ⟨gp, 0, none⟩)]) := (Blk.new w4 204 #[.pointer (some ⟨gp, 0, none⟩)]).sl (by simp)
           clear hB4 hb4)
        | ((with_reducible refine at_dst (N := 21) rfl ?_); refine ev_app (w := w4.alloc (.cells #[.pointer (some ⟨gp, 0, none⟩)] 204)) rfl _ _ 149 204 rfl Try.underlying149 _ 1 8 info204 rfl (by omega) w.heap.size _ _ _ rfl (own_below O4.out hbA.out) _ 1 1 [.pointer (some ⟨gp, 0, none⟩)] rfl hsA.out (by simp) (by simp [Value.oneCell']) (by omega) (by omega) (Nat.le_trans B4.out.size hbA.out.size) ?_; intro v5 w5 ho5 hg5 hat5
           have hne : ∀ g, (∃ c, Blk (w4.alloc (.cells #[.pointer (some ⟨gp, 0, none⟩)] 204)) g 206 c) ∨ (∃ b, BB (w4.alloc (.cells #[.pointer (some ⟨gp, 0, none⟩)] 204)) g 5 b) → some g ≠ Value.ownBlock _ := fun g hh => by
             rcases hh with ⟨c, hh⟩ | ⟨b, hh⟩
             · exact fun e => own_ne (own_below O4.out hbA.out) hh (by decide) e.symm
             · exact hh.ne_own (own_below O4.out hbA.out) (by decide)
           have P5 := Lib.hid (((P4.out.below hbA.out).kept hg5 hne).snoc hlt ((hF4.out.below hbA.out).kept hg5 hne))
           have B5 := Lib.hid (below_row (below_trans B4.out hbA.out) hg5 (Nat.le_trans B4.out.size hbA.out.size) (own_ge O4.out))
           have O5 := Lib.hid ho5
           clear ho5 hg5 hat5 hne))
      go_roundw
      case rel => exact ⟨k + 1, _, by omega, by go_num, O5, P5, B5⟩
      case measure => simp [intOf]; omega
    · obtain rfl : k = xs.length := by omega
      rw [List.take_length] at HP
      go_wp2
      go_ret
      exact ⟨_, ps, rfl, HO.out, HP.out, HB.out⟩
end Go.Proofs.Ytdgblfldbikneaa
