/- A struct stored into a row of one's own. -/
import Derived.Test.YtkjcedlgljeoiaaWq
import Derived.Deep.MidRow
namespace Go.Proofs.Ytkjcedlgljeoiaa
open Go.RowKit Go.Lib
set_option linter.unusedVariables false
set_option linter.unusedSimpArgs false

def setA (cur : Array Value) : Nat → List Value → Array Value
  | _, [] => cur
  | o, v :: r => setA (cur.setIfInBounds o v) (o + 1) r
theorem setA_size : ∀ (vs : List Value) (cur : Array Value) (o : Nat), (setA cur o vs).size = cur.size
  | [], _, _ => rfl
  | v :: r, cur, o => by rw [setA, setA_size r]; simp
theorem setA_get : ∀ (vs : List Value) (cur : Array Value) (o j : Nat), o + vs.length ≤ cur.size → (setA cur o vs)[j]? = if o ≤ j ∧ j < o + vs.length then vs[j - o]? else cur[j]?
  | [], cur, o, j, _ => by rw [setA, if_neg (by simp)]
  | v :: r, cur, o, j, h => by
    rw [setA, setA_get r _ _ _ (by simp at h ⊢; omega)]
    simp only [List.length_cons] at h ⊢
    by_cases h1 : o + 1 ≤ j ∧ j < o + 1 + r.length
    · rw [if_pos h1, if_pos (by omega), show j - o = (j - (o + 1)) + 1 by omega, List.getElem?_cons_succ]
    · rw [if_neg h1]
      by_cases h2 : j = o
      · subst h2
        rw [if_pos (by omega), Nat.sub_self, List.getElem?_cons_zero, Array.getElem?_setIfInBounds]
        simp; omega
      · rw [if_neg (by omega), Array.getElem?_setIfInBounds]
        simp; omega
theorem setCells_blk {g : Nat} {t : TypeId} : ∀ (vs : List Value) (o : Nat) (w : World) (cur : Array Value), Blk w g t cur → Blk (w.setCells g o vs) g t (setA cur o vs) ∧ w.grownBy (w.setCells g o vs) (some g)
  | [], _, w, cur, h => ⟨h, World.grownBy.refl w _⟩
  | v :: r, o, w, cur, h => by
    have h1 := h.set_ o v
    obtain ⟨h2, h3⟩ := setCells_blk (g := g) (t := t) r (o + 1) _ _ h1
    refine ⟨h2, ?_⟩
    have e : w.grownBy (w.setCell ⟨g, o, none⟩ v) (some g) := ⟨rfl, rfl, rfl, by simp [World.setCell], fun k _ hne => Below.heap_setCell w ⟨g, o, none⟩ _ k (fun e => hne (by rw [e]))⟩
    exact ⟨h3.os.trans e.os, h3.tape.trans e.tape, h3.output.trans e.output, Nat.le_trans e.size h3.size, fun k hk hn => (h3.block k (Nat.lt_of_lt_of_le hk e.size) hn).trans (e.block k hk hn)⟩
theorem flatC_get {α : Type} {f : α → List Value} {C : Nat} (hf : ∀ x, (f x).length = C) : ∀ (xs : List α) (q r : Nat), r < C → (flatC f xs)[q * C + r]? = (xs[q]?).bind fun x => (f x)[r]?
  | [], q, r, _ => by simp [flatC]
  | x :: xs, q, r, hr => by
    have e0 : flatC f (x :: xs) = f x ++ flatC f xs := by simp [flatC]
    rw [e0]
    cases q with
    | zero => rw [Nat.zero_mul, Nat.zero_add, List.getElem?_append_left (by rw [hf]; exact hr)]; rfl
    | succ q =>
      rw [List.getElem?_append_right (by rw [hf, Nat.succ_mul]; omega), hf, show (q + 1) * C + r - C = q * C + r by rw [Nat.succ_mul]; omega, flatC_get hf xs q r hr, List.getElem?_cons_succ]
theorem own_openT {α : Type} {f : α → List Value} {w : World} {B : Nat} {e : TypeId} {sz : Nat} {A : Option Addr} {n c : Nat} {xs : List α} (h : w.ownsRow B e sz (.slice A n c) n (flatC f xs)) (hl : xs.length = n) (hf : ∀ x, (f x).length = sz) {k : Nat} (hk : k < n) :
    ∃ g, A = some ⟨g, 0, none⟩ ∧ B ≤ g ∧ g < w.heap.size ∧ (∀ x, xs[k]? = some x → ∀ i u, (f x)[i]? = some u → w.cell? ((⟨g, k * sz, none⟩ : Addr).add i) = some u) ∧
      ∀ w1 : World, w1.heap[g]? = w.heap[g]? → ∀ x, w1.there g (k * sz) sz ∧ (w1.setCells g (k * sz) (f x)).ownsRow B e sz (.slice (some ⟨g, 0, none⟩) n c) n (flatC f (xs.set k x)) ∧ w1.grownBy (w1.setCells g (k * sz) (f x)) (some g) := by
  obtain ⟨hl0, h | ⟨g, cap, cur, hv, hg, hh, hn, hm, hz, ht⟩⟩ := h
  · obtain ⟨h1, h2⟩ := h
    injection h1 with _ h1
    omega
  · injection hv with h1 h2 h3
    subst h3
    have hks : k * sz + sz ≤ n * sz := by rw [← Nat.succ_mul]; exact Nat.mul_le_mul_right _ hk
    have hns : n * sz ≤ c * sz := Nat.mul_le_mul_right _ hn
    refine ⟨g, h1, hg, heap_lt hh, fun x hx i u hu => ?_, fun w1 hw1 x => ?_⟩
    · have hi : i < sz := by rw [← hf x]; exact (List.getElem?_eq_some_iff.1 hu).1
      rw [Addr.add_mid, cell_of_row w g _ cur e (0, 0) hh, ← Array.getElem?_toList]
      have e1 : (cur.toList.take (n * sz))[k * sz + i]? = some u := by rw [ht, flatC_get hf xs k i hi, hx]; exact hu
      rw [List.getElem?_take, if_pos (by omega)] at e1
      exact e1
    · have hb : Blk w1 g e cur := hw1.trans hh
      obtain ⟨hb2, hg2⟩ := setCells_blk (f x) (k * sz) w1 cur hb
      have hlx : (f x).length = sz := hf x
      refine ⟨fun j hj => ⟨?_, hb.frozen _⟩, ⟨?_, .inr ⟨g, c, setA cur (k * sz) (f x), rfl, hg, hb2, hn, hm, by rw [setA_size]; exact hz, ?_⟩⟩, hg2⟩
      · rw [hb.cell]; simp; omega
      · rw [flatC_len hf, List.length_set, hl]
      · apply List.ext_getElem?
        intro j
        by_cases hj : j < n * sz
        · have hsz : 0 < sz := by
            rcases Nat.eq_zero_or_pos sz with h0 | h0
            · rw [h0, Nat.mul_zero] at hj; omega
            · exact h0
          rw [List.getElem?_take, if_pos hj, Array.getElem?_toList, setA_get _ _ _ _ (by omega), hlx]
          have hjj : j = j / sz * sz + j % sz := by rw [Nat.mul_comm]; exact (Nat.div_add_mod j sz).symm
          have hmod : j % sz < sz := Nat.mod_lt _ hsz
          have e2 : (flatC f (xs.set k x))[j]? = ((xs.set k x)[j / sz]?).bind fun y => (f y)[j % sz]? := by
            rw [show (flatC f (xs.set k x))[j]? = (flatC f (xs.set k x))[j / sz * sz + j % sz]? by rw [← hjj]]
            exact flatC_get hf _ _ _ hmod
          have e3 : (flatC f xs)[j]? = (xs[j / sz]?).bind fun y => (f y)[j % sz]? := by
            rw [show (flatC f xs)[j]? = (flatC f xs)[j / sz * sz + j % sz]? by rw [← hjj]]
            exact flatC_get hf _ _ _ hmod
          rw [e2]
          by_cases hq : j / sz = k
          · rw [if_pos (by rw [← hq]; constructor <;> omega), hq, List.getElem?_set_self (by omega)]
            show _ = (f x)[j % sz]?
            congr 1
            rw [← hq]; omega
          · have hout : ¬ (k * sz ≤ j ∧ j < k * sz + sz) := fun ⟨h5, h6⟩ => hq (by
              apply Nat.div_eq_of_lt_le
              · exact h5
              · rw [Nat.succ_mul]; exact h6)
            rw [if_neg hout, List.getElem?_set_ne (fun e => hq e.symm), ← e3, ← ht, List.getElem?_take, if_pos hj, Array.getElem?_toList]
        · rw [List.getElem?_eq_none (by rw [List.length_take]; omega), List.getElem?_eq_none (by rw [flatC_len hf, List.length_set, hl]; omega)]
/-- A part of a slice. -/
def subA (A : Option Addr) (p sz c : Nat) : Option Addr := if c = p then A else A.map (·.add (p * sz))
theorem TSl.sub {w : World} {A : Option Addr} {e : TypeId} {cs : List Value} {p sz c m : Nat} (h : TSl w A e cs) (hm : m = 0 ∨ p < c) : TSl w (subA A p sz c) e ((cs.drop (p * sz)).take (m * sz)) := by
  rcases hm with rfl | hm
  · rw [Nat.zero_mul, List.take_zero]; exact TSl.nil
  · have e1 : subA A p sz c = A.map (·.add (p * sz)) := by unfold subA; rw [if_neg (by omega)]
    rw [e1]
    by_cases h0 : ((cs.drop (p * sz)).take (m * sz)) = []
    · rw [h0]; exact TSl.nil
    · have hne : cs ≠ [] := fun e => h0 (by rw [e]; simp)
      have hpos : 0 < cs.length := List.length_pos_iff.2 hne
      obtain ⟨hs, ht⟩ := h
      obtain ⟨ad, rfl, hc⟩ := hs.2 hpos
      refine ⟨⟨?_, fun _ => ⟨ad.add (p * sz), rfl, fun j u hu => ?_⟩⟩, fun ad2 h1 _ => ?_⟩
      · have := hs.1; simp; omega
      · rw [cadd_of_add]
        apply hc
        rw [List.getElem?_take] at hu
        split at hu
        · rwa [List.getElem?_drop] at hu
        · cases hu
      · simp only [Option.map_some, Option.some.injEq] at h1
        subst h1
        rw [cblock_of_add]
        exact ht ad rfl hne
theorem flatC_drop {α : Type} {f : α → List Value} {C : Nat} (hf : ∀ x, (f x).length = C) : ∀ (p : Nat) (xs : List α), (flatC f xs).drop (p * C) = flatC f (xs.drop p)
  | 0, xs => by simp
  | p + 1, [] => by simp [flatC]
  | p + 1, x :: xs => by
    have e0 : flatC f (x :: xs) = f x ++ flatC f xs := by simp [flatC]
    rw [e0, Nat.succ_mul, Nat.add_comm, List.drop_append, List.drop_eq_nil_of_le (by rw [hf]; omega), hf, List.nil_append, Nat.add_sub_cancel_left, flatC_drop hf p xs, List.drop_succ_cons]
theorem flatC_takeC {α : Type} {f : α → List Value} {C : Nat} (hf : ∀ x, (f x).length = C) : ∀ (p : Nat) (xs : List α), (flatC f xs).take (p * C) = flatC f (xs.take p)
  | 0, xs => by simp [flatC]
  | p + 1, [] => by simp [flatC]
  | p + 1, x :: xs => by
    have e0 : flatC f (x :: xs) = f x ++ flatC f xs := by simp [flatC]
    have e1 : flatC f ((x :: xs).take (p + 1)) = f x ++ flatC f (xs.take p) := by simp [flatC]
    rw [e0, e1, Nat.succ_mul, Nat.add_comm, List.take_append, List.take_of_length_le (by rw [hf]; omega), hf, Nat.add_sub_cancel_left, flatC_takeC hf p xs]
theorem TSl.subT {α : Type} {f : α → List Value} {w : World} {A : Option Addr} {e : TypeId} {xs : List α} {p sz c m : Nat} (h : TSl w A e (flatC f xs)) (hf : ∀ x, (f x).length = sz) (hm : m = 0 ∨ p < c) : TSl w (subA A p sz c) e (flatC f ((xs.drop p).take m)) := by
  have := h.sub (p := p) (sz := sz) (c := c) (m := m) hm
  rwa [flatC_drop hf, flatC_takeC hf] at this
theorem TSl.rows {α : Type} {f : α → List Value} {w : World} {A : Option Addr} {e : TypeId} {xs : List α} {sz : Nat} (h : TSl w A e (flatC f xs)) (hsz : 0 < sz) (hf : ∀ x, (f x).length = sz) : Rows w A sz (xs.map f) :=
  h.1.toRows hsz (fun row hr => by obtain ⟨x, _, rfl⟩ := List.mem_map.1 hr; exact hf x) rfl
theorem flatC_app {α : Type} (f : α → List Value) (xs ys : List α) : flatC f (xs ++ ys) = flatC f xs ++ flatC f ys := by simp [flatC]
theorem own_cap {w : World} {B : Nat} {e : TypeId} {sz n c : Nat} {A : Option Addr} {cs : List Value} (h : w.ownsRow B e sz (.slice A n c) n cs) : n ≤ c := by
  obtain ⟨_, h | ⟨g, cap, cur, hv, _, _, h1, _⟩⟩ := h
  · obtain ⟨h1, h2⟩ := h
    omega
  · injection hv with _ _ h3
    omega
theorem own_addr {w : World} {B : Nat} {e : TypeId} {sz n c : Nat} {A : Option Addr} {cs : List Value} (h : w.ownsRow B e sz (.slice A n c) n cs) (hn : 0 < n) : ∃ g, A = some ⟨g, 0, none⟩ := by
  obtain ⟨_, h | ⟨g, cap, cur, hv, _⟩⟩ := h
  · obtain ⟨h1, h2⟩ := h
    injection h1 with _ h1
    omega
  · injection hv with h1
    exact ⟨g, h1⟩
theorem Rows.elz {w : World} {g C : Nat} {rows : List (List Value)} (h : Rows w (some ⟨g, 0, none⟩) C rows) {j : Nat} {row : List Value} (hj : rows[j]? = some row) : ∀ i u, row[i]? = some u → w.cell? ((⟨g, j * C, none⟩ : Addr).add i) = some u := by
  intro i u hu
  have := h.el hj i u hu
  rwa [cadd_zero] at this
theorem Sl.elz {w : World} {g : Nat} {cs : List Value} (h : Sl w (some ⟨g, 0, none⟩) cs) {j : Nat} {u : Value} (hu : cs[j]? = some u) : w.cell? ⟨g, j, none⟩ = some u := by
  have := h.el hu
  rwa [cadd_zero] at this
section
variable {P : Program} {ops : Array Oper} {rest : List Oper} {o : Oper} {a : Act} {w : World} {Q : Exit → Act → World → Prop}
/-- 'x[i:j]' of a slice. -/
theorem ev_slice_lh (hgd : o.guard = none) (t e : TypeId) (x l h : Operand) (ho : o.op = .slice t x (some l) (some h) none) (ht : P.underlying t = some (.slice e)) (sz : Nat) (hz : (P.info? e).map (·.size) = some sz)
    (A : Option Addr) (n c p q : Nat) (hx : a.eval x = .slice A n c) (hl : a.eval l = .int .i64 p) (hh : a.eval h = .int .i64 q) (hpq : p ≤ q) (hqc : q ≤ c) (m : Nat) (hm : q - p = m)
    (hk : wpList P ops Q rest (a.put o.dst (.slice (subA A p sz c) m (c - p))) w) : wpList P ops Q (o :: rest) a w := by
  subst hm
  have he : P.elem t = e := by simp [Program.elem, ht]
  have ht' : P.underlying t = some (.slice (P.elem t)) := by rw [he]; exact ht
  refine ev_run hgd (w1 := w) ?_ hk
  have hs : (sizeOf e).run P w = .ok sz w := by
    cases hq : P.info? e with
    | none => simp [hq] at hz
    | some i => have : i.size = sz := by simpa [hq] using hz
                simp [sizeOf, typeInfo, hq, this]
  have hrun := run_slice_lh (P := P) w t A n c ht' .i64 .i64 (p : Int) (q : Int) (by omega) (by omega) (by omega)
  rw [he, hs] at hrun
  unfold execOp
  simp only [ho, Option.map_some, Option.map_none, hx, hl, hh, Sem.run_bind, run_sliceAt_slice w t _ _ _ _ ht']
  rw [hrun]
  simp [sliced, subA]
/-- 'x[:j]' of a slice. -/
theorem ev_slice_h (hgd : o.guard = none) (t e : TypeId) (x h : Operand) (ho : o.op = .slice t x none (some h) none) (ht : P.underlying t = some (.slice e)) (sz : Nat) (hz : (P.info? e).map (·.size) = some sz)
    (A : Option Addr) (n c q : Nat) (hx : a.eval x = .slice A n c) (hh : a.eval h = .int .i64 q) (hqc : q ≤ c)
    (hk : wpList P ops Q rest (a.put o.dst (.slice A q c)) w) : wpList P ops Q (o :: rest) a w := by
  have he : P.elem t = e := by simp [Program.elem, ht]
  have ht' : P.underlying t = some (.slice (P.elem t)) := by rw [he]; exact ht
  refine ev_run hgd (w1 := w) ?_ hk
  have hs : (sizeOf e).run P w = .ok sz w := by
    cases hq : P.info? e with
    | none => simp [hq] at hz
    | some i => have : i.size = sz := by simpa [hq] using hz
                simp [sizeOf, typeInfo, hq, this]
  have hrun := run_slice_h (P := P) w t A n c ht' .i64 (q : Int) (by omega) (by omega)
  rw [he, hs] at hrun
  unfold execOp
  simp only [ho, Option.map_some, Option.map_none, hx, hh, Sem.run_bind, run_sliceAt_slice w t _ _ _ _ ht']
  rw [hrun]
  cases A <;> simp [sliced, Addr.add]
theorem at_none (_hN : o.dst = none) (h : wpList P ops Q (o :: rest) a w) : wpList P ops Q (o :: rest) a w := h
/-- 'store' of a struct into the midst of a block. -/
theorem ev_storeT (hgd : o.guard = none) (ty : TypeId) (x y : Operand) (ho : o.op = .store ty x y) (g i : Nat) (cells : Array Value) (hx : a.eval x = .pointer (some ⟨g, i, none⟩)) (hy : a.eval y = .agg cells)
    (ht : w.there g i cells.size) (hi : (P.info? ty).map (·.size) = some cells.size) (h1 : cells.all (·.oneCell') = true) (h : wpList P ops Q rest (a.put o.dst undef) (w.setCells g i cells.toList)) : wpList P ops Q (o :: rest) a w :=
  wpList_store_mid hgd ty x y ho g i cells hx hy ht hi h1 h
end
end Go.Proofs.Ytkjcedlgljeoiaa
