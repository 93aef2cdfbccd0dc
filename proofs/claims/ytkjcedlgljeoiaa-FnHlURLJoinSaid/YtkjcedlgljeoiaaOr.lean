/- What a reading of cells at a type says: strings, numbers, structs, slices; slices of structs as rows of cells; a struct loaded out of a slice. -/
import Derived.Test.YtkjcedlgljeoiaaOq
import Derived.Deep.MidRow
namespace Go.Proofs.Ytkjcedlgljeoiaa
open Go.RowKit Go.ChangeShapes Go.WideShapes Go.Deep

/-- The slice at A holds rows of C cells each. -/
def Rows (w : World) (A : Option Addr) (C : Nat) (rows : List (List Value)) : Prop :=
  rows.length ≤ 9223372036854775807 ∧ (0 < rows.length → ∃ ad, A = some ad ∧ ∀ j row, rows[j]? = some row → ∀ i u, row[i]? = some u → w.cell? ((ad.add (j * C)).add i) = some u)
section
variable {w w' : World} {A : Option Addr} {C : Nat} {rows : List (List Value)}
theorem Rows.keep (h : Rows w A C rows) (hk : ∀ p u, w.cell? p = some u → w'.cell? p = some u) : Rows w' A C rows :=
  ⟨h.1, fun hn => by
    obtain ⟨ad, e, hc⟩ := h.2 hn
    exact ⟨ad, e, fun j row hj i u hu => hk _ _ (hc j row hj i u hu)⟩⟩
theorem Rows.below (h : Rows w A C rows) (hb : Below w.heap.size w w') : Rows w' A C rows := h.keep fun _ _ hp => cell_below hb hp
theorem Rows.at_ (h : Rows w A C rows) {j : Nat} {row : List Value} (hj : rows[j]? = some row) : ∃ ad, A = some ad ∧ ∀ i u, row[i]? = some u → w.cell? ((ad.add (j * C)).add i) = some u := by
  obtain ⟨ad, e, hc⟩ := h.2 (by have := (List.getElem?_eq_some_iff.1 hj).1; omega)
  exact ⟨ad, e, hc j row hj⟩
theorem Rows.nil : Rows w A C [] := ⟨by simp, fun h => absurd h (by simp)⟩
/-- Rows that lie one behind the other in one run of cells. -/
theorem Sl.toRows {cs : List Value} (h : Sl w A cs) (hC : 0 < C) (hr : ∀ row ∈ rows, row.length = C) (e : cs = rows.flatten) : Rows w A C rows := by
  subst e
  have hlen : rows.flatten.length = rows.length * C := by
    clear h
    induction rows with
    | nil => simp
    | cons r rs ih =>
      rw [List.flatten_cons, List.length_append, hr r (by simp), ih (fun x hx => hr x (by simp [hx])), List.length_cons, Nat.succ_mul]
      omega
  have hget : ∀ j row, rows[j]? = some row → ∀ i u, row[i]? = some u → rows.flatten[j * C + i]? = some u := by
    clear h hlen
    induction rows with
    | nil => intro j row hj; simp at hj
    | cons r rs ih =>
      intro j row hj i u hu
      have hrl := hr r (by simp)
      cases j with
      | zero =>
        simp at hj
        subst hj
        rw [List.flatten_cons, Nat.zero_mul, Nat.zero_add, List.getElem?_append_left (List.getElem?_eq_some_iff.1 hu).1]
        exact hu
      | succ j =>
        have h2 := ih (fun x hx => hr x (by simp [hx])) j row (by simpa using hj) i u hu
        rw [List.flatten_cons, List.getElem?_append_right (by rw [hrl, Nat.succ_mul]; omega), hrl, Nat.succ_mul]
        have : j * C + C + i - C = j * C + i := by omega
        rw [this]
        exact h2
  refine ⟨?_, fun hn => ?_⟩
  · have h1 := h.1
    rw [hlen] at h1
    exact Nat.le_trans (Nat.le_mul_of_pos_right _ hC) h1
  · obtain ⟨ad, e, hc⟩ := h.2 (by rw [hlen]; exact Nat.mul_pos hn hC)
    refine ⟨ad, e, fun j row hj i u hu => ?_⟩
    rw [cadd_of_add]
    exact hc _ u (hget j row hj i u hu)
end
section
variable {P : Program} {ops : Array Oper} {rest : List Oper} {o : Oper} {a : Act} {w : World} {Q : Exit → Act → World → Prop}
/-- 'load' of a struct whose cells lie at p, wherever that is. -/
theorem ev_loadR (hgd : o.guard = none) (ty : TypeId) (x : Operand) (ho : o.op = .load ty x) (p : Addr) (hx : a.eval x = .pointer (some p)) (cs : List Value) (hc : ∀ i u, cs[i]? = some u → w.cell? (p.add i) = some u)
    (d : TypeDesc) (hu : P.underlying ty = some d) (hd : d.isRow = true) (hi : (P.info? ty).map (·.size) = some cs.length)
    (h : wpList P ops Q rest (a.put o.dst (.agg cs.toArray)) w) : wpList P ops Q (o :: rest) a w := by
  have hl : (loadCells p cs.length).run P w = .ok cs.toArray w := run_loadCells_list (P := P) w p cs hc
  have hv : (loadVar ty p).run P w = .ok (.agg cs.toArray) w := by
    cases hq : P.info? ty with
    | none => simp [hq] at hi
    | some i =>
      have hs : i.size = cs.length := by simpa [hq] using hi
      have hagg : (isAgg ty).run P w = .ok true w := by
        unfold isAgg
        rw [Sem.run_bind, run_underlying hu w]
        cases d <;> simp_all
      simp [loadVar, Sem.run_bind, hagg, sizeOf, typeInfo, hq, hs, hl]
  refine wpList_plain hgd fun K hK => ?_
  unfold Oper.wp execOp
  simp only [ho, hx, Instr.loadAt, Instr.sureAddr, Sem.run_bind, Sem.run_pure, Result.andThen_ok, hv]
  exact hK _ _ h
/-- The same out of a block known whole. -/
theorem ev_loadB (hgd : o.guard = none) (ty : TypeId) (x : Operand) (ho : o.op = .load ty x) (g : Nat) (hx : a.eval x = .pointer (some ⟨g, 0, none⟩)) (t : TypeId) (cs : Array Value) (hb : Blk w g t cs)
    (d : TypeDesc) (hu : P.underlying ty = some d) (hd : d.isRow = true) (hi : (P.info? ty).map (·.size) = some cs.size)
    (h : wpList P ops Q rest (a.put o.dst (.agg cs)) w) : wpList P ops Q (o :: rest) a w := by
  refine ev_loadR hgd ty x ho _ hx cs.toList (fun i u hu => ?_) d hu hd (by simpa using hi) (by simpa using h)
  rw [cadd_zero, hb.cell]
  simpa using hu
end

/-- The cells cs read as something at type t. -/
def Rd {H : Type} (enc : TypeId × Value → H) (P : Program) (w : World) (base : Nat) (spare : Nat → Bool) (held : Bool) (t : TypeId) (cs : List Value) : Prop := ∃ fuel x, DataW.trod enc P w base spare held fuel t cs = some x
section
variable {H : Type} {enc : TypeId × Value → H} {P : Program} {w : World} {base : Nat} {spare : Nat → Bool} {held : Bool} {t : TypeId} {cs : List Value}
theorem rd_string (ht : P.underlying t = some .string) (h : Rd enc P w base spare held t cs) : ∃ s : ByteArray, cs = [.string s] ∧ s.size ≤ maxLen := by
  obtain ⟨f, x, h⟩ := h
  obtain ⟨s, e, _, hs⟩ := DataW.trod_string ht h
  exact ⟨s, e, hs⟩
theorem rd_int {k : IntKind} (ht : P.underlying t = some (.int k)) (h : Rd enc P w base spare held t cs) : ∃ n : Int, cs = [.int k n] ∧ (Lit.int k n).wf = true := by
  obtain ⟨f, x, h⟩ := h
  obtain ⟨s, e, _, hs⟩ := DataW.trod_int ht h
  exact ⟨s, e, hs⟩
theorem rd_bool (ht : P.underlying t = some .bool) (h : Rd enc P w base spare held t cs) : ∃ b : Bool, cs = [.bool b] := by
  obtain ⟨f, x, h⟩ := h
  obtain ⟨s, e, _⟩ := DataW.trod_bool ht h
  exact ⟨s, e⟩
theorem rd_len {fs : Array Field} (ht : P.underlying t = some (.struct fs)) (h : Rd enc P w base spare held t cs) : cs.length = P.cellsOf t := by
  obtain ⟨f, x, h⟩ := h
  obtain ⟨xs, n, _, _, hl, _⟩ := DataW.trod_struct ht h
  exact hl
theorem rd_field {fs : Array Field} (ht : P.underlying t = some (.struct fs)) (h : Rd enc P w base spare held t cs) (i : Nat) (f : Field) (hf : fs[i]? = some f) : Rd enc P w base spare held f.type ((cs.drop f.offset).take (P.cellsOf f.type)) := by
  obtain ⟨fu, x, h⟩ := h
  obtain ⟨xs, n, _, _, _, hl, hg⟩ := DataW.trod_struct ht h
  have h1 := hg i f hf
  have hi : i < xs.length := by rw [hl]; exact (Array.getElem?_eq_some_iff.1 hf).1
  exact ⟨n, xs[i], by rw [h1, List.getElem?_eq_getElem hi]⟩
theorem rd_slice {e : TypeId} (ht : P.underlying t = some (.slice e)) (h : Rd enc P w base spare held t cs) :
    ∃ (a : Option Addr) (c : Nat) (rows : List (List Value)), cs = [.slice a rows.length c] ∧ rows.length ≤ c ∧ c ≤ maxLen ∧ Rows w a (P.cellsOf e) rows ∧ ∀ row ∈ rows, row.length = P.cellsOf e ∧ Rd enc P w base spare held e row := by
  obtain ⟨f, x, h⟩ := h
  rcases open_slice ht h with ⟨rfl, _⟩ | ⟨a, len, cap, m, n, D, Pl, rfl, _, hl, hm, hmm, _, hi⟩
  · exact ⟨none, 0, [], rfl, Nat.le_refl _, by simp [maxLen], Rows.nil, by simp⟩
  · have hlm : len ≤ m := by rw [hmm]; split <;> omega
    have hrow : ∀ i, i < len → ∃ row : List Value, row.length = P.cellsOf e ∧ Rd enc P w base spare held e row ∧ ∀ j u, row[j]? = some u → w.cell? ((a.add (i * P.cellsOf e)).add j) = some u := fun i hil => by
      obtain ⟨cs', hc, ht'⟩ := hi i (by omega)
      obtain ⟨_, hcl, hat⟩ := World.cells?_some hc
      exact ⟨cs', hcl, ⟨_, _, ht'⟩, fun j u hu => by exact (hat j (by rw [← hcl]; exact (List.getElem?_eq_some_iff.1 hu).1)).trans hu⟩
    obtain ⟨g, hg⟩ : ∃ g : Nat → List Value, ∀ i, i < len → (g i).length = P.cellsOf e ∧ Rd enc P w base spare held e (g i) ∧ ∀ j u, (g i)[j]? = some u → w.cell? ((a.add (i * P.cellsOf e)).add j) = some u :=
      ⟨fun i => if h : i < len then (hrow i h).choose else [], fun i hil => by simp only [dif_pos hil]; exact (hrow i hil).choose_spec⟩
    refine ⟨some a, cap, (List.range len).map g, by simp, by simpa using hl, hm, ⟨by simp [maxLen] at *; omega, fun _ => ⟨a, rfl, fun j row hj i u hu => ?_⟩⟩, fun row hr => ?_⟩
    · rw [List.getElem?_map] at hj
      obtain ⟨j', hj', rfl⟩ := Option.map_eq_some_iff.1 hj
      have hjl : j < len := by have := (List.getElem?_eq_some_iff.1 hj').1; simpa using this
      have : j' = j := by rw [List.getElem?_range hjl] at hj'; injection hj' with hj'; exact hj'.symm
      subst this
      exact (hg j' hjl).2.2 i u hu
    · obtain ⟨i, hi', rfl⟩ := List.mem_map.1 hr
      exact ⟨(hg i (List.mem_range.1 hi')).1, (hg i (List.mem_range.1 hi')).2.1⟩
theorem rows_map {α : Type} {f : α → List Value} {Q : α → Prop} : ∀ {rows : List (List Value)}, (∀ r ∈ rows, ∃ x, r = f x ∧ Q x) → ∃ xs : List α, rows = xs.map f ∧ ∀ x ∈ xs, Q x
  | [], _ => ⟨[], rfl, by simp⟩
  | r :: rs, h => by
    obtain ⟨x, rfl, hx⟩ := h r (by simp)
    obtain ⟨xs, rfl, hxs⟩ := rows_map (rows := rs) (fun r hr => h r (by simp [hr]))
    exact ⟨x :: xs, rfl, fun y hy => by rcases List.mem_cons.1 hy with rfl | hy; exact hx; exact hxs y hy⟩
/-- Rows of one cell each are cells. -/
theorem Rows.sl {A : Option Addr} {cs : List Value} (h : Rows w A 1 (cs.map fun v => [v])) : Sl w A cs :=
  ⟨by simpa using h.1, fun hn => by
    obtain ⟨ad, e, hc⟩ := h.2 (by simpa using hn)
    refine ⟨ad, e, fun j u hu => ?_⟩
    have := hc j [u] (by simp [hu]) 0 u rfl
    rw [cadd_of_add] at this
    simpa using this⟩
theorem rd_strings {e : TypeId} (ht : P.underlying t = some (.slice e)) (he : P.underlying e = some .string) (hc1 : P.cellsOf e = 1) (h : Rd enc P w base spare held t cs) :
    ∃ (a : Option Addr) (c : Nat) (xs : List ByteArray), cs = [.slice a xs.length c] ∧ xs.length ≤ c ∧ c ≤ maxLen ∧ Sl w a (xs.map Value.string) ∧ ∀ x ∈ xs, x.size ≤ maxLen := by
  obtain ⟨a, c, rows, rfl, h1, h2, h3, h4⟩ := rd_slice ht h
  obtain ⟨xs, rfl, hx⟩ := rows_map (f := fun s => [Value.string s]) (Q := fun s => s.size ≤ maxLen) (fun r hr => rd_string he (h4 r hr).2)
  refine ⟨a, c, xs, by simp, by simpa using h1, h2, ?_, hx⟩
  rw [hc1] at h3
  exact Rows.sl (by simpa [List.map_map, Function.comp_def] using h3)
theorem open_rowsT {α : Type} {f : α → List Value} {Q : α → Prop} {e : TypeId} {a0 : Option Addr} {n0 c0 : Nat} (ht : P.underlying t = some (.slice e)) (hop : ∀ cs, Rd enc P w base spare held e cs → ∃ x, cs = f x ∧ Q x) (h : Rd enc P w base spare held t [.slice a0 n0 c0]) :
    ∃ (a : Option Addr) (c : Nat) (xs : List α), Value.slice a0 n0 c0 = .slice a xs.length c ∧ Rows w a (P.cellsOf e) (xs.map f) ∧ xs.length ≤ c ∧ ∀ x ∈ xs, Q x := by
  obtain ⟨a, c, rows, h0, h1, _, h3, h4⟩ := rd_slice ht h
  obtain ⟨xs, rfl, hx⟩ := rows_map (f := f) (Q := Q) (fun r hr => hop r (h4 r hr).2)
  injection h0 with h0
  exact ⟨a, c, xs, by rw [h0]; simp, h3, by simpa using h1, hx⟩
end
end Go.Proofs.Ytkjcedlgljeoiaa
