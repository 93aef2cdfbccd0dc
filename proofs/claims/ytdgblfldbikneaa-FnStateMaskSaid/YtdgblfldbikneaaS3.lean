/- The contract of StateMask. -/
import Derived.Test.YtdgblfldbikneaaS2
namespace Go.Proofs.Ytdgblfldbikneaa
open Go.RowKit

theorem sz123 : (Try.prog.info? 123).map (·.size) = some 19 := by kernel_rfl
theorem grown_setCell (w : World) (g i : Nat) (v : Value) : w.grownBy (w.setCell ⟨g, i, none⟩ v) (some g) :=
  ⟨rfl, rfl, rfl, by simp [World.setCell], fun k _ hne => Below.heap_setCell w ⟨g, i, none⟩ v k (fun e => hne (by rw [e]))⟩

theorem setMask_blk (g : Nat) (all d u ui p f s : Bool) (w : World) (h : Blk w g 123 (listCells all d u ui p f s 0)) :
    Calls Try.prog 72 #[.pointer (some ⟨g, 0, none⟩)] w fun e w' => e = .returned (.tuple #[]) ∧ Blk w' g 123 (listCells all d u ui p f s (maskN all d u ui p f s)) ∧ w.grownBy w' (some g) :=
  (setMask_any g all d u ui p f s w h).mono fun e w' ⟨he, hw⟩ => ⟨he, by rw [← hw]; exact h.set_ 5 _, by rw [← hw]; exact grown_setCell _ _ _ _⟩

set_option maxRecDepth 100000 in
theorem stateMask_any (all d u ui p f s : Bool) (w : World) :
    Calls Try.prog 28 #[.bool all, .bool d, .bool u, .bool ui, .bool p, .bool f, .bool s] w fun e w' => e = .returned (.int .u64 (maskN all d u ui p f s)) ∧ Below w.heap.size w w' := by
  go_enter Try.func28, Try.ntmps28
  go_wp2_with (first
    | (refine ev_alloc rfl 123 rfl _ _ info123 ?_; intro g w1 hg hb1 hbel1)
    | (refine ev_store rfl 123 _ _ rfl g _ _ rfl rfl 123 hb1 sz123 rfl rfl ?_; intro w2 hb2 hgr2 hsz2)
    | (go_at_call 72; refine (setMask_blk g all d u ui p f s _ hb2).mono ?_; rintro e w3 ⟨rfl, hb3, hgr3⟩; have c5 : w3.cell? ⟨g, 5, none⟩ = some (.int .u64 (maskN all d u ui p f s)) := hb3.cell 5))
  go_ret
  have hlt1 := hb1.lt
  exact ⟨rfl, below_grown (below_grown hbel1 hgr2 hbel1.size hg) hgr3 (by rw [hsz2]; exact hbel1.size) hg⟩
end Go.Proofs.Ytdgblfldbikneaa
