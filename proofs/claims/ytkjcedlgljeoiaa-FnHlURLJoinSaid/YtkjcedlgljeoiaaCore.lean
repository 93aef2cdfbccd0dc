/- Words for memory: a slice that reads as a list of cells, kept over whatever leaves the elder blocks alone; a block known whole; elements read. -/
import Derived.WalkKit
import Derived.WalkLawsBesides
import Derived.WalkSpells
import Derived.Lib.Hide
import Derived.Deep.RegionWith
import Derived.Deep.DeepCutAuto
import Derived.Deep.QuietTactic
import Derived.BigQuiet
import Derived.Laws.OwnMore
import Derived.Deep.LoopGhost
import Derived.KernelRfl
import Derived.Deep.WholeRow
namespace Go.Proofs.Ytkjcedlgljeoiaa
open Go.RowKit

theorem cblock_of_add (a : Addr) (n : Nat) : (a.add n).block = a.block := by unfold Addr.add; split <;> rfl
theorem cadd_of_add (a : Addr) (i j : Nat) : (a.add i).add j = a.add (i + j) := by
  unfold Addr.add
  by_cases hi : i = 0 <;> by_cases hj : j = 0 <;> simp [hi, hj, Nat.add_assoc]
theorem cadd_zero (g j : Nat) : (⟨g, 0, none⟩ : Addr).add j = ⟨g, j, none⟩ := by unfold Addr.add; split <;> simp_all
theorem cadd_off (ad : Addr) (m j : Nat) (hj : 0 < j) : ad.add (m + j) = ⟨(ad.add m).block, (ad.add m).off + j, none⟩ := by
  unfold Addr.add
  by_cases hm : m = 0
  · subst hm
    simp [Nat.ne_of_gt hj]
  · simp [hm, Nat.add_assoc]

/-- The slice at A holds the cells cs. -/
def Sl (w : World) (A : Option Addr) (cs : List Value) : Prop :=
  cs.length ≤ 9223372036854775807 ∧ (0 < cs.length → ∃ ad, A = some ad ∧ ∀ j u, cs[j]? = some u → w.cell? (ad.add j) = some u)

section
variable {w w' : World} {A : Option Addr} {cs : List Value}
theorem Sl.nil : Sl w A [] := ⟨by simp, fun h => absurd h (by simp)⟩
theorem Sl.keep (h : Sl w A cs) (hk : ∀ p u, w.cell? p = some u → w'.cell? p = some u) : Sl w' A cs :=
  ⟨h.1, fun hn => by
    obtain ⟨ad, e, hc⟩ := h.2 hn
    exact ⟨ad, e, fun j u hu => hk _ _ (hc j u hu)⟩⟩
theorem cell_below {w w' : World} (hb : Below w.heap.size w w') {p : Addr} {u : Value} (h : w.cell? p = some u) : w'.cell? p = some u :=
  (hb.cell (World.block_lt_of_cell? w p h)).trans h
theorem Sl.below (h : Sl w A cs) (hb : Below w.heap.size w w') : Sl w' A cs := h.keep fun _ _ hp => cell_below hb hp
theorem Sl.at_ (h : Sl w A cs) {j : Nat} {u : Value} (hu : cs[j]? = some u) : ∃ ad, A = some ad ∧ w.cell? (ad.add j) = some u := by
  obtain ⟨ad, e, hc⟩ := h.2 (by have := (List.getElem?_eq_some_iff.1 hu).1; omega)
  exact ⟨ad, e, hc j u hu⟩
end
theorem below_trans {w w1 w2 : World} (h : Below w.heap.size w w1) (k : Below w1.heap.size w1 w2) : Below w.heap.size w w2 :=
  h.trans (k.mono h.size)
theorem below_alloc1 {w w1 : World} (h : Below w.heap.size w w1) (o : Obj) : Below w.heap.size w (w1.alloc o) := h.alloc h.size o
theorem below_drewN1 {B : Nat} {w w1 : World} (h : Below B w w1) (n : Nat) : Below B w (w1.drewN n) := ⟨h.os, h.tape, h.output, h.size, h.block⟩
/-- A block known whole. -/
def Blk (w : World) (g : Nat) (t : TypeId) (cs : Array Value) : Prop := w.heap[g]? = some (.cells cs t (0, 0))
section
variable {w w' : World} {g : Nat} {t : TypeId} {cs : Array Value}
theorem Blk.lt (h : Blk w g t cs) : g < w.heap.size := by
  rcases Nat.lt_or_ge g w.heap.size with hlt | hge
  · exact hlt
  · unfold Blk at h; rw [Array.getElem?_eq_none hge] at h; cases h
theorem Blk.cell (h : Blk w g t cs) (i : Nat) : w.cell? ⟨g, i, none⟩ = cs[i]? := cell_of_row w g i cs t (0, 0) h
theorem Blk.frozen (h : Blk w g t cs) (i : Nat) : w.frozen? ⟨g, i, none⟩ = false := by
  unfold Blk at h
  simp [World.frozen?, h]
theorem Blk.new (w : World) (t : TypeId) (cs : Array Value) : Blk (w.alloc (.cells cs t)) w.heap.size t cs := heap_alloc_new w _
theorem Blk.below (h : Blk w g t cs) (hb : Below w.heap.size w w') : Blk w' g t cs := (hb.block g h.lt).trans h
theorem Blk.set_ (h : Blk w g t cs) (i : Nat) (u : Value) : Blk (w.setCell ⟨g, i, none⟩ u) g t (cs.setIfInBounds i u) := by
  unfold Blk at h ⊢
  simp [World.setCell, Array.getElem?_modify, h]
theorem Blk.far (h : Blk w g t cs) {p : Addr} (hp : g ≠ p.block) (u : Value) : Blk (w.setCell p u) g t cs := (Below.heap_setCell w p u g hp).trans h
/-- A block of one's own as a slice. -/
theorem Blk.sl (h : Blk w g t cs) (hl : cs.size ≤ 9223372036854775807) : Sl w (some ⟨g, 0, none⟩) cs.toList :=
  ⟨by simpa using hl, fun _ => ⟨_, rfl, fun j u hu => by rw [cadd_zero, h.cell]; simpa using hu⟩⟩
end
theorem ret_int {k : IntKind} {a b : Int} (h : a = b) : Ending.returned (.int k a) = .returned (.int k b) := by rw [h]
theorem ret_bool {a b : Bool} (h : a = b) : Ending.returned (.bool a) = .returned (.bool b) := by rw [h]
theorem ret_str {a b : ByteArray} (h : a = b) : Ending.returned (.string a) = .returned (.string b) := by rw [h]
theorem ret_val {a b : Value} (h : a = b) : Ending.returned a = .returned b := by rw [h]
section
variable {P : Program} {ops : Array Oper} {rest : List Oper} {o : Oper} {a : Act} {w : World} {Q : Exit → Act → World → Prop}
theorem ev_run {w1 : World} {v : Value} (hgd : o.guard = none) (hrun : (execOp a.eval o).run P w = .ok (.value v) w1) (h : wpList P ops Q rest (a.put o.dst v) w1) : wpList P ops Q (o :: rest) a w := by
  refine wpList_plain hgd fun K hK => ?_
  unfold Oper.wp
  rw [hrun]
  exact hK _ _ h
/-- Whatever lays one new block of cells and hands back a slice of it whole. -/
theorem ev_news (hgd : o.guard = none) (t : TypeId) (cs : Array Value) (n : Nat) (hrun : (execOp a.eval o).run P w = .ok (.value (.slice (some ⟨w.heap.size, 0, none⟩) n n)) (w.alloc (.cells cs t)))
    (h : ∀ (g : Nat) (w1 : World), w.heap.size ≤ g → Blk w1 g t cs → Below w.heap.size w w1 → wpList P ops Q rest (a.put o.dst (.slice (some ⟨g, 0, none⟩) n n)) w1) : wpList P ops Q (o :: rest) a w :=
  ev_run hgd hrun (h _ _ (Nat.le_refl _) (Blk.new w t cs) ((Below.refl _ _).alloc (Nat.le_refl _) _))
/-- Whatever lays one new block of cells and hands back a pointer to it. -/
theorem ev_newp (hgd : o.guard = none) (t : TypeId) (cs : Array Value) (hrun : (execOp a.eval o).run P w = .ok (.value (.pointer (some ⟨w.heap.size, 0, none⟩))) (w.alloc (.cells cs t)))
    (h : ∀ (g : Nat) (w1 : World), w.heap.size ≤ g → Blk w1 g t cs → Below w.heap.size w w1 → wpList P ops Q rest (a.put o.dst (.pointer (some ⟨g, 0, none⟩))) w1) : wpList P ops Q (o :: rest) a w :=
  ev_run hgd hrun (h _ _ (Nat.le_refl _) (Blk.new w t cs) ((Below.refl _ _).alloc (Nat.le_refl _) _))
theorem at_dst {N : Tmp} (_hN : o.dst = some N) (h : wpList P ops Q (o :: rest) a w) : wpList P ops Q (o :: rest) a w := h
/-- 'alloc': a new block of zero cells. -/
theorem ev_alloc (hgd : o.guard = none) (ty : TypeId) (ho : o.op = .alloc ty) (z : Value) (n : Nat) (hz : (P.info? ty).map (fun i => (i.zero, i.size)) = some (some z, n))
    (h : ∀ (g : Nat) (w1 : World), w.heap.size ≤ g → Blk w1 g ty z.cells → Below w.heap.size w w1 → wpList P ops Q rest (a.put o.dst (.pointer (some ⟨g, 0, none⟩))) w1) : wpList P ops Q (o :: rest) a w := by
  refine ev_run hgd (w1 := w.alloc (.cells z.cells ty)) (v := .pointer (some ⟨w.heap.size, 0, none⟩)) ?_ (h _ _ (Nat.le_refl _) (Blk.new w ty z.cells) ((Below.refl _ _).alloc (Nat.le_refl _) _))
  have := (zero_of_info hz).1
  simp [execOp, ho, this, go_sem]
/-- 'store' of a whole struct into a block that is known whole. -/
theorem ev_store (hgd : o.guard = none) (ty : TypeId) (x y : Operand) (ho : o.op = .store ty x y) (g : Nat) (old cells : Array Value) (hx : a.eval x = .pointer (some ⟨g, 0, none⟩)) (hy : a.eval y = .agg cells)
    (t : TypeId) (hb : Blk w g t old) (hi : (P.info? ty).map (·.size) = some cells.size) (hs : old.size = cells.size) (h1 : cells.toList.all (·.oneCell') = true)
    (h : ∀ w1 : World, Blk w1 g t cells → w.grownBy w1 (some g) → w1.heap.size = w.heap.size → wpList P ops Q rest (a.put o.dst undef) w1) : wpList P ops Q (o :: rest) a w := by
  have hw : w.grownBy (w.setRow g cells) (some g) := by
    refine ⟨rfl, rfl, rfl, by simp, fun k _ hk => ?_⟩
    simp only [World.setRow]
    rw [Array.getElem?_modify, if_neg (fun e => hk (by rw [e]))]
  have hb2 : Blk (w.setRow g cells) g t cells := by
    unfold Blk at hb ⊢
    simp [World.setRow, Array.getElem?_modify, hb]
  refine wpList_plain hgd fun K hK => wp_store_row ty x y ho g cells hx hy t old hb hi hs (by rw [← Array.all_toList]; exact h1) (hK _ _ (h _ hb2 hw (by simp)))
end
theorem Blk.grown {w w' : World} {g k : Nat} {t : TypeId} {cs : Array Value} (h : Blk w g t cs) (hb : w.grownBy w' (some k)) (hg : g ≠ k) : Blk w' g t cs := (hb.block g h.lt (fun e => hg (by injection e))).trans h
theorem Sl.grown {w w' : World} {A : Option Addr} {cs : List Value} {g : Nat} (h : Sl w A cs) (hb : w.grownBy w' (some g)) (hg : ∀ ad, A = some ad → ad.block ≠ g) : Sl w' A cs :=
  ⟨h.1, fun hn => by
    obtain ⟨ad, e, hc⟩ := h.2 hn
    refine ⟨ad, e, fun j u hu => ?_⟩
    have hcell := hc j u hu
    have hlt := World.block_lt_of_cell? w _ hcell
    have : w'.heap[(ad.add j).block]? = w.heap[(ad.add j).block]? := hb.block _ hlt (fun e2 => by
      injection e2 with e2
      rw [cblock_of_add] at e2
      exact hg ad e e2)
    rw [World.cell?_of_block this]
    exact hcell⟩
theorem below_grown {B : Nat} {w w1 w2 : World} {g : Nat} (h : Below B w w1) (hg : w1.grownBy w2 (some g)) (hB : B ≤ w1.heap.size) (hr : B ≤ g) : Below B w w2 :=
  h.grown hg hB (fun k hk => by injection hk with hk; omega)
end Go.Proofs.Ytkjcedlgljeoiaa

