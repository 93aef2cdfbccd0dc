/- More words: some blocks may have turned; a cell of an own row stored; an own row opened. -/
import Derived.Test.YtkjcedlgljeoiaaWk
import Derived.Defers
import Derived.Recover
import Derived.Laws.Pointers
namespace Go.Proofs.Ytkjcedlgljeoiaa
open Go.RowKit Go.Lib

/-- Of what there was only the blocks of S may have turned. -/
structure GrX (S : Nat → Prop) (w w' : World) : Prop where
  os : w'.os = w.os
  tape : w'.tape = w.tape
  output : w'.output = w.output
  size : w.heap.size ≤ w'.heap.size
  block : ∀ k, k < w.heap.size → ¬ S k → w'.heap[k]? = w.heap[k]?
section
variable {S S2 : Nat → Prop} {w w' w2 : World}
theorem GrX.refl (S : Nat → Prop) (w : World) : GrX S w w := ⟨rfl, rfl, rfl, Nat.le_refl _, fun _ _ _ => rfl⟩
theorem GrX.below (hb : Below w.heap.size w w') : GrX S w w' := ⟨hb.os, hb.tape, hb.output, hb.size, fun k hk _ => hb.block k hk⟩
theorem GrX.grown {g : Nat} (hb : w.grownBy w' (some g)) (hS : S g) : GrX S w w' := ⟨hb.os, hb.tape, hb.output, hb.size, fun k hk hn => hb.block k hk (fun e => by injection e with e; subst e; exact hn hS)⟩
theorem GrX.row {o : Option Nat} (hb : w.grownBy w' o) (hS : ∀ g, o = some g → S g) : GrX S w w' := ⟨hb.os, hb.tape, hb.output, hb.size, fun k hk hn => hb.block k hk (fun e => hn (hS k e.symm))⟩
theorem GrX.trans (h : GrX S w w') (k : GrX S w' w2) : GrX S w w2 :=
  ⟨k.os.trans h.os, k.tape.trans h.tape, k.output.trans h.output, Nat.le_trans h.size k.size, fun i hi hn => (k.block i (Nat.lt_of_lt_of_le hi h.size) hn).trans (h.block i hi hn)⟩
/-- .. and a step that turns blocks that are new, or of S. -/
theorem GrX.trans' (h : GrX S w w') (k : GrX S2 w' w2) (hn : ∀ i, S2 i → i < w.heap.size → S i) : GrX S w w2 :=
  ⟨k.os.trans h.os, k.tape.trans h.tape, k.output.trans h.output, Nat.le_trans h.size k.size, fun i hi hs => (k.block i (Nat.lt_of_lt_of_le hi h.size) (fun hh => hs (hn i hh hi))).trans (h.block i hi hs)⟩
theorem GrX.mono (h : GrX S w w') (hs : ∀ k, S k → S2 k) : GrX S2 w w' := ⟨h.os, h.tape, h.output, h.size, fun k hk hn => h.block k hk (fun hh => hn (hs k hh))⟩
/-- Blocks that are new need no word. -/
theorem GrX.old (h : GrX S w w') (hs : ∀ k, S k → k < w.heap.size → S2 k) : GrX S2 w w' := ⟨h.os, h.tape, h.output, h.size, fun k hk hn => h.block k hk (fun hh => hn (hs k hh hk))⟩
theorem Blk.grx {g : Nat} {t : TypeId} {cs : Array Value} (h : Blk w g t cs) (hb : GrX S w w') (hn : ¬ S g) : Blk w' g t cs := (hb.block g h.lt hn).trans h
theorem own_grx {B : Nat} {e : TypeId} {sz n : Nat} {v : Value} {cs : List Value} (h : w.ownsRow B e sz v n cs) (hb : GrX S w w') (hn : ∀ k, v.ownBlock = some k → ¬ S k) : w'.ownsRow B e sz v n cs := by
  obtain ⟨h1, h2⟩ := h
  refine ⟨h1, ?_⟩
  rcases h2 with h2 | ⟨g, cap, cur, hv, hg, hh, r⟩
  · exact Or.inl h2
  · have hlt : g < w.heap.size := by
      rcases Nat.lt_or_ge g w.heap.size with hlt | hge
      · exact hlt
      · rw [Array.getElem?_eq_none hge] at hh; cases hh
    exact Or.inr ⟨g, cap, cur, hv, hg, by rw [hb.block g hlt (hn g (by rw [hv]; rfl))]; exact hh, r⟩
theorem below_grx {B : Nat} {w0 : World} (h : Below B w0 w) (hb : GrX S w w') (hB : B ≤ w.heap.size) (hs : ∀ k, S k → B ≤ k) : Below B w0 w' :=
  h.trans ⟨hb.os, hb.tape, hb.output, hb.size, fun k hk => hb.block k (Nat.lt_of_lt_of_le hk hB) (fun hh => by have := hs k hh; omega)⟩
theorem Sl.grx {A : Option Addr} {cs : List Value} (h : Sl w A cs) (hb : GrX S w w') (hn : ∀ ad, A = some ad → ¬ S ad.block) : Sl w' A cs :=
  ⟨h.1, fun hl => by
    obtain ⟨ad, e, hc⟩ := h.2 hl
    refine ⟨ad, e, fun j u hu => ?_⟩
    have hcell := hc j u hu
    have hlt := World.block_lt_of_cell? w _ hcell
    have : w'.heap[(ad.add j).block]? = w.heap[(ad.add j).block]? := hb.block _ hlt (by rw [cblock_of_add]; exact hn ad e)
    rw [World.cell?_of_block this]
    exact hcell⟩
end
/-- An own row of one cell an element: its block, and what becomes of it when a cell is stored. -/
theorem own_open {w : World} {B : Nat} {e : TypeId} {A : Option Addr} {n c k : Nat} {cs : List Value} (h : w.ownsRow B e 1 (.slice A n c) n cs) (hk : k < n) :
    ∃ g cur, A = some ⟨g, 0, none⟩ ∧ B ≤ g ∧ Blk w g e cur ∧ k < cur.size ∧ cur[k]? = cs[k]? ∧ ∀ u w1, Blk w1 g e (cur.setIfInBounds k u) → w1.ownsRow B e 1 (.slice (some ⟨g, 0, none⟩) n c) n (cs.set k u) := by
  obtain ⟨hl, h | ⟨g, cap, cur, hv, hg, hh, hn, hm, hz, ht⟩⟩ := h
  · obtain ⟨h1, h2⟩ := h
    injection h1 with _ h1
    omega
  · injection hv with h1 h2 h3
    subst h3
    rw [Nat.mul_one] at hz ht hl
    refine ⟨g, cur, h1, hg, hh, by omega, ?_, fun u w1 hb => ⟨by rw [List.length_set, hl, Nat.mul_one], .inr ⟨g, c, cur.setIfInBounds k u, rfl, hg, hb, hn, hm, by simp [hz], ?_⟩⟩⟩
    · rw [← ht, List.getElem?_take, if_pos hk]; simp
    · rw [Nat.mul_one, Array.toList_setIfInBounds, ← ht]
      rw [List.take_set]
theorem own_form {w : World} {B : Nat} {e : TypeId} {sz n : Nat} {v : Value} {cs : List Value} (h : w.ownsRow B e sz v n cs) : ∃ A c, v = .slice A n c ∧ (∀ ad, A = some ad → ad.spot = none ∧ B ≤ ad.block ∧ ad.block < w.heap.size) := by
  obtain ⟨_, ⟨h1, h2⟩ | ⟨g, cap, cur, hv, hg, hh, _⟩⟩ := h
  · subst h2; exact ⟨none, 0, h1, fun ad h => by cases h⟩
  · have hlt : g < w.heap.size := by
      rcases Nat.lt_or_ge g w.heap.size with hlt | hge
      · exact hlt
      · rw [Array.getElem?_eq_none hge] at hh; cases hh
    exact ⟨some ⟨g, 0, none⟩, cap, hv, fun ad h => by injection h with h; subst h; exact ⟨rfl, hg, hlt⟩⟩
/-- A row as it is read. -/
theorem own_sl1 {w : World} {B : Nat} {e : TypeId} {A : Option Addr} {n c : Nat} {cs : List Value} (h : w.ownsRow B e 1 (.slice A n c) n cs) (hn : n ≤ 9223372036854775807) : Sl w A cs := by
  obtain ⟨A', c', e, _, hs⟩ := own_slice h (by omega)
  injection e with e1 e2 e3
  rw [e1]; exact hs
/-- A deferred closure that recovers, where nothing panicked. -/
theorem leaves_catch {P : Program} {fn : Func} {tmps : Array Value} {R : Ending → World → Prop} {fv : Fn} {cap dargs : Array Value} {w : World} {f : FuncId} {args : Array Value} {v : Value} (hi : (invoke (.fn fv cap) dargs).run P w = .ok (.enter f args) w)
    (h : CallsD P f args .returning w fun e u' w' => e = .returned (.tuple #[]) ∧ u' = .returning ∧ w' = w) (hr : (results fn tmps).run P w = .ok v w) (hR : R (.returned v) w) :
    Leaves P fn tmps R [{ target := .fn fv cap, args := dargs }] .returning w := by
  refine leaves_cons (by simp) hi ?_
  refine h.mono ?_
  rintro e u' w' ⟨rfl, rfl, rfl⟩
  exact ⟨v, hr, hR⟩
end Go.Proofs.Ytkjcedlgljeoiaa
