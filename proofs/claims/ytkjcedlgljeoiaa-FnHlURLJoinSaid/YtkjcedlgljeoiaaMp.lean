/- A map of the call's own with strings for keys, as a function: made, looked up, written. -/
import Derived.Test.YtkjcedlgljeoiaaMs
import Derived.Maps.OwnSet
import Derived.Maps.OwnOps
namespace Go.Proofs.Ytkjcedlgljeoiaa
open Go.RowKit Go.Lib

/-- Every value as a datum that is opaque. -/
def heldR (v : Value) : Option (DataW Value × List MemPlace) := some (.held v, [])
def kS (s : ByteArray) : Lit := .string s.data.toList
theorem kS_inj {s t : ByteArray} (h : kS s = kS t) : s = t := by
  unfold kS at h
  injection h with h
  apply ByteArray.ext
  apply Array.ext'
  exact h
theorem kS_key (s : ByteArray) : WideAt.IsKeyLit (kS s) := by
  unfold kS; trivial
/-- Block g is a map of at most n entries that has, at s, what f says. -/
def Mp (P : Program) (k : TypeId) (w : World) (g n : Nat) (f : ByteArray → Option Value) : Prop :=
  ∃ D : DataW Value, w.ownsMap P k heldR g n D ∧ Maps.IsMap D ∧ ∀ s, Maps.has D (kS s) = (f s).isSome ∧ ∀ v, f s = some v → ∀ z, D.atKey (kS s) z = .held v
def fput (f : ByteArray → Option Value) (s : ByteArray) (v : Value) : ByteArray → Option Value := fun t => if t = s then some v else f t
section
variable {P : Program} {k : TypeId} {w w' : World} {g n : Nat} {f : ByteArray → Option Value}
theorem Mp.new (w : World) (P : Program) (k : TypeId) : Mp P k (w.alloc (.map #[] 0)) w.heap.size 0 (fun _ => none) :=
  ⟨_, World.ownsMap_made w P k heldR, Maps.isMap_empty, fun s => ⟨rfl, fun v h => by cases h⟩⟩
theorem Mp.lt (h : Mp P k w g n f) : g < w.heap.size := by
  obtain ⟨D, h, _⟩ := h
  exact h.lt
theorem Mp.kept {row : Option Nat} (h : Mp P k w g n f) (hg : w.grownBy w' row) (hne : some g ≠ row) : Mp P k w' g n f := by
  obtain ⟨D, h, r⟩ := h
  exact ⟨D, h.kept hg hne, r⟩
theorem Mp.below (h : Mp P k w g n f) (hb : Below w.heap.size w w') : Mp P k w' g n f := by
  refine h.kept (row := none) ⟨hb.os, hb.tape, hb.output, hb.size, fun j hj _ => hb.block j hj⟩ (by simp)
theorem Mp.ne_blk (h : Mp P k w g n f) {g' : Nat} {t : TypeId} {c : Array Value} (hb : Blk w g' t c) : g ≠ g' := by
  rintro rfl
  obtain ⟨D, ⟨es, cl, h, _⟩, _⟩ := h
  unfold Blk at hb
  rw [h] at hb
  cases hb
theorem Mp.ne_own (h : Mp P k w g n f) {base : Nat} {e : TypeId} {sz m : Nat} {v : Value} {cs : List Value} (ho : w.ownsRow base e sz v m cs) : some g ≠ v.ownBlock := by
  rcases ho.2 with ⟨rfl, _⟩ | ⟨g', cap, cur, rfl, _, hh, _⟩
  · simp [Value.ownBlock]
  · intro he
    have : g = g' := by simpa [Value.ownBlock] using he
    subst this
    obtain ⟨D, ⟨es, cl, h, _⟩, _⟩ := h
    rw [h] at hh
    cases hh
theorem Mp.mono (h : Mp P k w g n f) {m : Nat} (hm : n ≤ m) : Mp P k w g m f := by
  obtain ⟨D, h, r⟩ := h
  exact ⟨D, h.mono hm, r⟩
end
section
variable {P : Program} {ops : Array Oper} {rest : List Oper} {o : Oper} {a : Act} {w : World} {Q : Exit → Act → World → Prop}
/-- 'v, ok := m[s]'. -/
theorem ev_look_ok (hgd : o.guard = none) (m x : Operand) (t : TypeId) (ho : o.op = .lookup t m x true) (k e : TypeId) (hk : P.underlying k = some .string) (ht : P.underlying t = some (.map k e)) (z : Value) (hz : (zeroValue e).run P w = .ok z w)
    (g n : Nat) (f : ByteArray → Option Value) (hm : a.eval m = .map (some g)) (H : Mp P k w g n f) (s : ByteArray) (hx : a.eval x = .string s) (hs : s.size ≤ maxLen)
    (h : wpList P ops Q rest (a.put o.dst (.tuple #[(f s).getD z, .bool (f s).isSome])) w) : wpList P ops Q (o :: rest) a w := by
  obtain ⟨D, hown, _, hf⟩ := H
  refine wpList_lookup_own_ok w hgd m x t ho k e (Maps.string_keyed hk) ht heldR hz _ _ rfl g n D hm hown _ _ hx (Go.WideMaps.keyOf_string_mk hk hs) ?_
  intro v ps hv
  obtain ⟨h1, h2⟩ := hf s
  have hh : Maps.has D (.string s.data.toList) = (f s).isSome := h1
  rw [hh]
  cases hfs : f s with
  | none =>
    rw [hfs] at hh h
    have := Maps.atKey_of_not_has (k := kS s) hh (.held z)
    have e1 : D.atKey (.string s.data.toList) (.held z) = .held z := this
    rw [e1] at hv
    simp only [heldR, Option.some.injEq, Prod.mk.injEq, DataW.held.injEq] at hv
    rw [hv.1]
    exact h
  | some u =>
    rw [hfs] at h
    have e1 : D.atKey (.string s.data.toList) (.held z) = .held u := h2 u hfs _
    rw [e1] at hv
    simp only [heldR, Option.some.injEq, Prod.mk.injEq, DataW.held.injEq] at hv
    rw [hv.1]
    exact h
/-- 'm[s]'. -/
theorem ev_look (hgd : o.guard = none) (m x : Operand) (t : TypeId) (ho : o.op = .lookup t m x false) (k e : TypeId) (hk : P.underlying k = some .string) (ht : P.underlying t = some (.map k e)) (z : Value) (hz : (zeroValue e).run P w = .ok z w)
    (g n : Nat) (f : ByteArray → Option Value) (hm : a.eval m = .map (some g)) (H : Mp P k w g n f) (s : ByteArray) (hx : a.eval x = .string s) (hs : s.size ≤ maxLen)
    (h : wpList P ops Q rest (a.put o.dst ((f s).getD z)) w) : wpList P ops Q (o :: rest) a w := by
  obtain ⟨D, hown, _, hf⟩ := H
  obtain ⟨v, ps, hrun, hv⟩ := hown.lookup (Maps.string_keyed hk) ht hz (zd := .held z) (zp := []) rfl (Go.WideMaps.keyOf_string_mk hk hs)
  refine wpList_plain hgd fun K hK => ?_
  obtain ⟨h1, h2⟩ := hf s
  have e0 : v = (f s).getD z := by
    cases hfs : f s with
    | none =>
      have hh : Maps.has D (kS s) = false := by rw [h1, hfs]; rfl
      have e1 : D.atKey (.string s.data.toList) (.held z) = .held z := Maps.atKey_of_not_has (k := kS s) hh (.held z)
      rw [e1] at hv
      simp only [heldR, Option.some.injEq, Prod.mk.injEq, DataW.held.injEq] at hv
      exact hv.1
    | some u =>
      have e1 : D.atKey (.string s.data.toList) (.held z) = .held u := h2 u hfs _
      rw [e1] at hv
      simp only [heldR, Option.some.injEq, Prod.mk.injEq, DataW.held.injEq] at hv
      exact hv.1
  unfold Oper.wp
  simp [execOp, ho, hm, hx, hrun, Result.andThen]
  rw [e0]
  exact hK _ _ h
/-- 'm[s] = v'. -/
theorem ev_mput (hgd : o.guard = none) (m x y : Operand) (t : TypeId) (ho : o.op = .mapUpdate t m x y) (k e : TypeId) (hk : P.underlying k = some .string) (ht : P.underlying t = some (.map k e))
    (g n : Nat) (f : ByteArray → Option Value) (hm : a.eval m = .map (some g)) (H : Mp P k w g n f) (hn : n < maxLen) (s : ByteArray) (hx : a.eval x = .string s) (hs : s.size ≤ maxLen) (v : Value) (hy : a.eval y = v)
    (h : ∀ w1, Mp P k w1 g (n + 1) (fput f s v) → w.grownBy w1 (some g) → wpList P ops Q rest (a.put o.dst undef) w1) : wpList P ops Q (o :: rest) a w := by
  obtain ⟨D, hown, hM, hf⟩ := H
  refine wpList_mapUpdate_own w hgd m x y t ho k e (Maps.string_keyed hk) ht heldR g n D hm hown hn _ _ _ hx hy (Go.WideMaps.keyOf_string_mk hk hs) (.held v) [] rfl ?_
  intro w1 h1 h2
  refine h w1 ⟨_, h1, hM.put _ _, fun u => ?_⟩ h2
  by_cases e1 : u = s
  · subst e1
    simp only [fput, if_true]
    exact ⟨Maps.has_put_same hM (kS_key _) _, fun v' hv' z => by injection hv' with hv'; subst hv'; exact Maps.atKey_put_same hM (kS_key _) _ _⟩
  · have hne : kS u ≠ kS s := fun h => e1 (kS_inj h)
    simp only [fput, if_neg e1]
    obtain ⟨f1, f2⟩ := hf u
    refine ⟨?_, fun v' hv' z => ?_⟩
    · rw [← f1]; exact Maps.has_put_other hne _
    · rw [← f2 v' hv' z]; exact Maps.atKey_put_other hne _ _
end
end Go.Proofs.Ytkjcedlgljeoiaa
