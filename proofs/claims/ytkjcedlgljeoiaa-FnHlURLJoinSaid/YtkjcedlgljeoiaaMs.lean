/- More words for memory: a struct put into a new block ('box'), a field stored; rows of one's own beside each other. -/
import Derived.Test.YtkjcedlgljeoiaaRw
import Derived.Deep.MidRow
namespace Go.Proofs.Ytkjcedlgljeoiaa
open Go.RowKit Go.Lib

section
variable {P : Program} {ops : Array Oper} {rest : List Oper} {o : Oper} {a : Act} {w : World} {Q : Exit → Act → World → Prop}
/-- 'box': a new block that holds the cells of a value. -/
theorem ev_box (hgd : o.guard = none) (ty : TypeId) (x : Operand) (ho : o.op = .box ty x) (v : Value) (hx : a.eval x = v)
    (h : ∀ (g : Nat) (w1 : World), w.heap.size ≤ g → Blk w1 g ty v.cells → Below w.heap.size w w1 → wpList P ops Q rest (a.put o.dst (.pointer (some ⟨g, 0, none⟩))) w1) : wpList P ops Q (o :: rest) a w := by
  refine ev_run hgd (w1 := w.alloc (.cells v.cells ty)) (v := .pointer (some ⟨w.heap.size, 0, none⟩)) ?_ (h _ _ (Nat.le_refl _) (Blk.new w ty v.cells) ((Below.refl _ _).alloc (Nat.le_refl _) _))
  unfold execOp
  simp only [ho, hx]
  rfl
/-- 'store' of one cell into a block that is known whole. -/
theorem ev_store1 (hgd : o.guard = none) (ty : TypeId) (x y : Operand) (ho : o.op = .store ty x y) (g i : Nat) (old : Array Value) (hx : a.eval x = .pointer (some ⟨g, i, none⟩)) (u : Value) (hy : a.eval y = u)
    (t : TypeId) (hb : Blk w g t old) (hi : (P.info? ty).map (·.size) = some 1) (hs : i < old.size) (h1 : u.oneCell' = true) (hc : u.cells = #[u])
    (h : ∀ w1 : World, Blk w1 g t (old.setIfInBounds i u) → w.grownBy w1 (some g) → w1.heap.size = w.heap.size → wpList P ops Q rest (a.put o.dst undef) w1) : wpList P ops Q (o :: rest) a w := by
  have hw : w.grownBy (w.setCell ⟨g, i, none⟩ u) (some g) := ⟨rfl, rfl, rfl, by simp [World.setCell], fun k _ hne => Below.heap_setCell w ⟨g, i, none⟩ _ k (fun e => hne (by rw [e]))⟩
  have hcell : w.cell? ⟨g, i, none⟩ = some old[i] := by rw [hb.cell]; exact Array.getElem?_eq_getElem hs
  have := run_storeCells_cells (P := P) g i [u] 0 w (fun j hj => by
      obtain rfl : j = 0 := by simpa using hj
      simp [hcell]) (fun j hj => by
      obtain rfl : j = 0 := by simpa using hj
      exact hb.frozen i)
    (fun v hv => by rw [List.mem_singleton.1 hv]; exact h1)
  have hsv : (storeVar ty ⟨g, i, none⟩ u).run P w = .ok () (w.setCell ⟨g, i, none⟩ u) := by
    cases hq : P.info? ty with
    | none => simp [hq] at hi
    | some inf =>
      have hz : inf.size = 1 := by simpa [hq] using hi
      simp only [Nat.add_zero] at this
      simp [storeVar, sizeOf, typeInfo, hq, hc, hz, this]
      rfl
  refine wpList_plain hgd fun K hK => ?_
  unfold Oper.wp execOp
  simp only [ho, hx, hy, Instr.storeAt, Instr.sureAddr, Sem.run_bind, Sem.run_pure, Result.andThen_ok, hsv]
  exact hK _ _ (h _ (hb.set_ i u) hw (by simp [World.setCell]))
end
section
variable {w w' : World} {base base2 : Nat} {e e2 : TypeId} {sz sz2 n n2 : Nat} {v v2 : Value} {cs cs2 : List Value}
/-- Rows of two types lie apart. -/
theorem own_apart (h : w.ownsRow base e sz v n cs) (h2 : w.ownsRow base2 e2 sz2 v2 n2 cs2) (ht : e ≠ e2) : ∀ k, v2.ownBlock = some k → v.ownBlock ≠ some k := by
  intro k hk
  rcases h2.2 with ⟨rfl, _⟩ | ⟨g, cap, cur, rfl, _, hh, _⟩
  · simp [Value.ownBlock] at hk
  · have : g = k := by simpa [Value.ownBlock] using hk
    subst this
    rcases h.2 with ⟨rfl, _⟩ | ⟨g', cap', cur', rfl, _, hh', _⟩
    · simp [Value.ownBlock]
    · intro he
      have : g' = g := by simpa [Value.ownBlock] using he
      subst this
      rw [hh] at hh'
      injection hh' with hh'
      injection hh' with _ hh'
      exact ht hh'.symm
theorem own_row (h : w.ownsRow base e sz v n cs) (hb : w.grownBy w' v2.ownBlock) (hne : ∀ k, v2.ownBlock = some k → v.ownBlock ≠ some k) : w'.ownsRow base e sz v n cs := by
  obtain ⟨hl, h2⟩ := h
  refine ⟨hl, ?_⟩
  rcases h2 with h2 | ⟨g, cap, cur, rfl, hbb, hh, r⟩
  · exact .inl h2
  · exact .inr ⟨g, cap, cur, rfl, hbb, (hb.block g (Array.getElem?_eq_some_iff.1 hh).1 (fun e2 => hne g e2.symm (by simp [Value.ownBlock]))).trans hh, r⟩
theorem own_mono (h : w.ownsRow base e sz v n cs) (hb : base2 ≤ base) : w.ownsRow base2 e sz v n cs := by
  obtain ⟨hl, h2⟩ := h
  refine ⟨hl, ?_⟩
  rcases h2 with h2 | ⟨g, cap, cur, rfl, hbb, r⟩
  · exact .inl h2
  · exact .inr ⟨g, cap, cur, rfl, Nat.le_trans hb hbb, r⟩
end
end Go.Proofs.Ytkjcedlgljeoiaa
