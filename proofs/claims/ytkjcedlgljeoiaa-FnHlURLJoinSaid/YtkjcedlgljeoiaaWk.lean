/- Words for printed walks: a load by itself; what an operation of a drawn region may do; results out of cells. -/
import Derived.Test.YtkjcedlgljeoiaaGr
import Derived.Test.YtkjcedlgljeoiaaOr
import Derived.Test.YtkjcedlgljeoiaaMp
import Derived.ArgAppend
namespace Go.Proofs.Ytkjcedlgljeoiaa
open Go.RowKit Go.Lib

section
variable {P : Program} {ops : Array Oper} {rest : List Oper} {o : Oper} {a : Act} {w : World} {Q : Exit → Act → World → Prop}
theorem load_one (w : World) (ty : TypeId) (p : Addr) (v : Value) (hc : w.cell? p = some v) (d : TypeDesc) (hu : P.underlying ty = some d) (hd : d.isRow = false) : (loadVar ty p).run P w = .ok v w := by
  have hagg : (isAgg ty).run P w = .ok false w := by
    unfold isAgg
    rw [Sem.run_bind, run_underlying hu w]
    cases d <;> simp_all
  simp [loadVar, Sem.run_bind, hagg, hc]
theorem load_row (w : World) (ty : TypeId) (p : Addr) (cs : List Value) (hc : ∀ i u, cs[i]? = some u → w.cell? (p.add i) = some u) (d : TypeDesc) (hu : P.underlying ty = some d) (hd : d.isRow = true) (hi : (P.info? ty).map (·.size) = some cs.length) :
    (loadVar ty p).run P w = .ok (.agg cs.toArray) w := by
  have hl : (loadCells p cs.length).run P w = .ok cs.toArray w := run_loadCells_list (P := P) w p cs hc
  cases hq : P.info? ty with
  | none => simp [hq] at hi
  | some i =>
    have hs : i.size = cs.length := by simpa [hq] using hi
    have hagg : (isAgg ty).run P w = .ok true w := by
      unfold isAgg
      rw [Sem.run_bind, run_underlying hu w]
      cases d <;> simp_all
    simp [loadVar, Sem.run_bind, hagg, sizeOf, typeInfo, hq, hs, hl]
/-- A struct out of the midst of a block. -/
theorem load_mid (w : World) (ty : TypeId) (g i : Nat) (t : TypeId) (cs : Array Value) (hb : Blk w g t cs) (k : Nat) (hk : i + k ≤ cs.size) (d : TypeDesc) (hu : P.underlying ty = some d) (hd : d.isRow = true) (hi : (P.info? ty).map (·.size) = some k) :
    (loadVar ty ⟨g, i, none⟩).run P w = .ok (.agg (cs.extract i (i + k))) w := by
  have h := load_row (P := P) w ty ⟨g, i, none⟩ (cs.extract i (i + k)).toList (fun j u hu => by
    have e : (⟨g, i, none⟩ : Addr).add j = ⟨g, i + j, none⟩ := by unfold Addr.add; split <;> simp_all
    rw [e, hb.cell]
    rw [Array.getElem?_toList, Array.getElem?_extract] at hu
    split at hu
    · exact hu
    · cases hu) d hu hd (by simp [hi]; omega)
  rw [Array.toArray_toList] at h
  exact h
/-- A guarded operation that is wanted, as one without a guard. -/
theorem wl_guard (hw : Region.wanted o (yielded ops a.tmps) = true) (h : wpList P ops Q ({ o with guard := none } :: rest) a w) : wpList P ops Q (o :: rest) a w := by
  unfold wpList at h ⊢
  rw [if_pos (by rfl)] at h
  rw [if_pos hw]
  exact h
/-- 'load' of one cell. -/
theorem ev_ld (hgd : o.guard = none) (ty : TypeId) (x : Operand) (ho : o.op = .load ty x) (p : Addr) (hx : a.eval x = .pointer (some p)) (v : Value) (hc : w.cell? p = some v) (d : TypeDesc) (hu : P.underlying ty = some d) (hd : d.isRow = false)
    (h : wpList P ops Q rest (a.put o.dst v) w) : wpList P ops Q (o :: rest) a w := by
  have hv := load_one (P := P) w ty p v hc d hu hd
  refine wpList_plain hgd fun K hK => ?_
  unfold Oper.wp execOp
  simp only [ho, hx, Instr.loadAt, Instr.sureAddr, Sem.run_bind, Sem.run_pure, Result.andThen_ok, hv]
  exact hK _ _ h
/-- 'load' of a struct out of the midst of a block. -/
theorem ev_ldm (hgd : o.guard = none) (ty : TypeId) (x : Operand) (ho : o.op = .load ty x) (g i : Nat) (hx : a.eval x = .pointer (some ⟨g, i, none⟩)) (t : TypeId) (cs : Array Value) (hb : Blk w g t cs) (k : Nat) (hk : i + k ≤ cs.size)
    (d : TypeDesc) (hu : P.underlying ty = some d) (hd : d.isRow = true) (hi : (P.info? ty).map (·.size) = some k) (v : Value) (hv0 : .agg (cs.extract i (i + k)) = v)
    (h : wpList P ops Q rest (a.put o.dst v) w) : wpList P ops Q (o :: rest) a w := by
  have hv := load_mid (P := P) w ty g i t cs hb k hk d hu hd hi
  rw [hv0] at hv
  refine wpList_plain hgd fun K hK => ?_
  unfold Oper.wp execOp
  simp only [ho, hx, Instr.loadAt, Instr.sureAddr, Sem.run_bind, Sem.run_pure, Result.andThen_ok, hv]
  exact hK _ _ h
/-- 'buildSlice': a new block, and a slice of it whole. -/
theorem ev_bs (hgd : o.guard = none) (ty e : TypeId) (n : Nat) (parts : Array (Nat × Operand)) (ho : o.op = .buildSlice ty n parts) (cs : Array Value) (hrun : (execOp a.eval o).run P w = .ok (.value (.slice (some ⟨w.heap.size, 0, none⟩) n n)) (w.alloc (.cells cs e)))
    (h : ∀ (g : Nat) (w1 : World), w.heap.size ≤ g → Blk w1 g e cs → Below w.heap.size w w1 → wpList P ops Q rest (a.put o.dst (.slice (some ⟨g, 0, none⟩) n n)) w1) : wpList P ops Q (o :: rest) a w :=
  have _ := ho
  ev_news hgd e cs n hrun h

variable {p : Post}
theorem gr_val {v : Value} {w1 : World} (hrun : (execOp a.eval o).run P w = .ok (.value v) w1) (hg : Gr w w1) (hp : p v w1) : grAt P o a w p := by
  unfold grAt
  rw [hrun]
  exact ⟨hg, hp⟩
theorem gr_ld (ty : TypeId) (x : Operand) (ho : o.op = .load ty x) (q : Addr) (hx : a.eval x = .pointer (some q)) (v : Value) (hc : w.cell? q = some v) (d : TypeDesc) (hu : P.underlying ty = some d) (hd : d.isRow = false) (hp : p v w) : grAt P o a w p := by
  have hv := load_one (P := P) w ty q v hc d hu hd
  refine gr_val (w1 := w) ?_ (Gr.refl w) hp
  unfold execOp
  simp only [ho, hx, Instr.loadAt, Instr.sureAddr, Sem.run_bind, Sem.run_pure, Result.andThen_ok, hv]
theorem gr_ldm (ty : TypeId) (x : Operand) (ho : o.op = .load ty x) (g i : Nat) (hx : a.eval x = .pointer (some ⟨g, i, none⟩)) (t : TypeId) (cs : Array Value) (hb : Blk w g t cs) (k : Nat) (hk : i + k ≤ cs.size)
    (d : TypeDesc) (hu : P.underlying ty = some d) (hd : d.isRow = true) (hi : (P.info? ty).map (·.size) = some k) (hp : p (.agg (cs.extract i (i + k))) w) : grAt P o a w p := by
  have hv := load_mid (P := P) w ty g i t cs hb k hk d hu hd hi
  refine gr_val (w1 := w) ?_ (Gr.refl w) hp
  unfold execOp
  simp only [ho, hx, Instr.loadAt, Instr.sureAddr, Sem.run_bind, Sem.run_pure, Result.andThen_ok, hv]
theorem gr_ldr (ty : TypeId) (x : Operand) (ho : o.op = .load ty x) (q : Addr) (hx : a.eval x = .pointer (some q)) (cs : List Value) (hc : ∀ i u, cs[i]? = some u → w.cell? (q.add i) = some u)
    (d : TypeDesc) (hu : P.underlying ty = some d) (hd : d.isRow = true) (hi : (P.info? ty).map (·.size) = some cs.length) (hp : p (.agg cs.toArray) w) : grAt P o a w p := by
  have hv := load_row (P := P) w ty q cs hc d hu hd hi
  refine gr_val (w1 := w) ?_ (Gr.refl w) hp
  unfold execOp
  simp only [ho, hx, Instr.loadAt, Instr.sureAddr, Sem.run_bind, Sem.run_pure, Result.andThen_ok, hv]
theorem gr_box (ty : TypeId) (x : Operand) (ho : o.op = .box ty x) (v : Value) (hx : a.eval x = v) (hp : ∀ g w1, w.heap.size ≤ g → Blk w1 g ty v.cells → Gr w w1 → p (.pointer (some ⟨g, 0, none⟩)) w1) : grAt P o a w p := by
  have hb : Gr w (w.alloc (.cells v.cells ty)) := (Below.refl _ _).alloc (Nat.le_refl _) _
  refine gr_val (w1 := w.alloc (.cells v.cells ty)) (v := .pointer (some ⟨w.heap.size, 0, none⟩)) ?_ hb (hp _ _ (Nat.le_refl _) (Blk.new w ty v.cells) hb)
  unfold execOp
  simp only [ho, hx]
  rfl
theorem gr_alloc (ty : TypeId) (ho : o.op = .alloc ty) (z : Value) (n : Nat) (hz : (P.info? ty).map (fun i => (i.zero, i.size)) = some (some z, n)) (hp : ∀ g w1, w.heap.size ≤ g → Blk w1 g ty z.cells → Gr w w1 → p (.pointer (some ⟨g, 0, none⟩)) w1) : grAt P o a w p := by
  have hb : Gr w (w.alloc (.cells z.cells ty)) := (Below.refl _ _).alloc (Nat.le_refl _) _
  refine gr_val (w1 := w.alloc (.cells z.cells ty)) (v := .pointer (some ⟨w.heap.size, 0, none⟩)) ?_ hb (hp _ _ (Nat.le_refl _) (Blk.new w ty z.cells) hb)
  have := (zero_of_info hz).1
  simp [execOp, ho, this, go_sem]
theorem gr_bs (e : TypeId) (n : Nat) (cs : Array Value) (hrun : (execOp a.eval o).run P w = .ok (.value (.slice (some ⟨w.heap.size, 0, none⟩) n n)) (w.alloc (.cells cs e)))
    (hp : ∀ g w1, w.heap.size ≤ g → Blk w1 g e cs → Gr w w1 → p (.slice (some ⟨g, 0, none⟩) n n) w1) : grAt P o a w p := by
  have hb : Gr w (w.alloc (.cells cs e)) := (Below.refl _ _).alloc (Nat.le_refl _) _
  exact gr_val hrun hb (hp _ _ (Nat.le_refl _) (Blk.new w e cs) hb)
theorem Gr.of_grown {w w' : World} (h : w.grownBy w' none) : Gr w w' := ⟨h.os, h.tape, h.output, h.size, fun k hk => h.block k hk (by simp)⟩
/-- 'append(s, x..)' where s is full: nothing elder is written. -/
theorem gr_app (s x : Operand) (t e : TypeId) (ho : o.op = .call { callee := .builtin .append, args := #[s, x], argTypes := #[t, t] })
    (ht : P.underlying t = some (.slice e)) (z : Value) (sz bytes : Nat) (hi : (P.info? e).map (fun i => (i.zero, i.size, i.bytes)) = some (some z, sz, bytes)) (hz : z.cells.size = sz) (hs0 : 0 < sz)
    (g : Nat) (cs : Array Value) (hs : a.eval s = .slice (some ⟨g, 0, none⟩) 0 0) (hB : Blk w g e #[]) (A : Option Addr) (m c : Nat) (news : List Value) (hx : a.eval x = .slice A m c) (hr : Sl w A news) (hm : news.length = m * sz)
    (h1 : ∀ u ∈ news, u.oneCell' = true) (hbytes : m * bytes ≤ 140737488355328) (h63 : m ≤ 140737488355328) (base : Nat) (hbg : base ≤ g)
    (hp : ∀ v' w', w'.ownsRow base e sz v' m news → Gr w w' → p v' w') : grAt P o a w p := by
  have _ := cs
  obtain ⟨i0, hi0, hzz⟩ := Option.map_eq_some_iff.1 hi
  simp only [Prod.mk.injEq] at hzz
  obtain ⟨hz0, hz1, hz2⟩ := hzz
  have hbs : base ≤ w.heap.size := Nat.le_trans hbg (Nat.le_of_lt hB.lt)
  have key : ∃ v' w', (Builtin.append_ #[t, t] o.type #[.slice (some ⟨g, 0, none⟩) 0 0, .slice A m c]).run P w = .ok v' w' ∧ w'.ownsRow base e sz v' m news ∧ Gr w w' := by
    rcases Nat.eq_zero_or_pos news.length with h0 | h0
    · have hnews : news = [] := List.eq_nil_of_length_eq_zero h0
      subst hnews
      have hm0 : m = 0 := by
        have h2 : m * sz = 0 := by simpa using hm.symm
        rcases Nat.mul_eq_zero.1 h2 with h2 | h2 <;> omega
      subst hm0
      refine ⟨.slice (some ⟨g, 0, none⟩) 0 0, w, ?_, ⟨by simp, .inr ⟨g, 0, #[], rfl, hbg, hB, Nat.le_refl _, by simp [maxLen], by simp, by simp⟩⟩, Gr.refl w⟩
      cases A <;> simp [Builtin.append_, run_underlying ht, sizeOf, typeInfo, hi0, Builtin.lenOf, Builtin.firstCells, storeCells, loadCells, loadCellsFrom]
    · obtain ⟨ad, rfl, hc⟩ := hr.2 h0
      have hmp : 0 < m := by
        rcases Nat.eq_zero_or_pos m with h | h
        · rw [h, Nat.zero_mul] at hm; omega
        · exact h
      obtain ⟨v', w', q1, q2, q3⟩ := run_append_arg_grows (P := P) (w := w) t o.type e i0 z sz bytes ht hi0 hz0 hz1 hz2 hz hs0 ⟨g, 0, none⟩ 0 0 [] (by simp) (by simp) ad m c news hm hc (by omega) (by simp only [maxLen]; omega) (by simpa using hbytes)
      refine ⟨v', w', q1, ?_, Gr.of_grown q3⟩
      simp only [Nat.zero_add, List.nil_append] at q2
      exact own_mono q2 hbs
  obtain ⟨v', w', q1, q2, q3⟩ := key
  refine gr_val (w1 := w') (v := v') ?_ q3 (hp v' w' q2 q3)
  unfold execOp
  simp only [ho, resolve, invoke, builtin, Sem.run_bind, Sem.run_pure, Result.andThen_ok, List.map_toArray, List.map_cons, List.map_nil, hs, hx, q1]
end
/-- What a result variable holds. -/
@[reducible] def rvRun (P : Program) (tmps : Array Value) (w : World) : ResultVar → Value → Prop
  | .tmp t, v => tmps[t]?.getD undef = v
  | .cell p ty, v => ∃ ad, tmps[p]?.getD undef = .pointer (some ad) ∧ (loadVar ty ad).run P w = .ok v w
theorem results1 {P : Program} {fn : Func} {tmps : Array Value} {w : World} {r : ResultVar} {v : Value} (h : fn.results = #[r]) (h1 : rvRun P tmps w r v) : (results fn tmps).run P w = .ok v w := by
  simp only [results, h]
  cases r <;> simp only [rvRun] at h1 <;> (try (obtain ⟨a1, h1, k1⟩ := h1)) <;> simp [asAddr, *]
theorem results2 {P : Program} {fn : Func} {tmps : Array Value} {w : World} {r s : ResultVar} {v u : Value} (h : fn.results = #[r, s]) (h1 : rvRun P tmps w r v) (h2 : rvRun P tmps w s u) : (results fn tmps).run P w = .ok (.tuple #[v, u]) w := by
  simp only [results, h]
  cases r <;> cases s <;> simp only [rvRun] at h1 h2 <;> (try (obtain ⟨a1, h1, k1⟩ := h1)) <;> (try (obtain ⟨a2, h2, k2⟩ := h2)) <;> simp [asAddr, *]
theorem results3 {P : Program} {fn : Func} {tmps : Array Value} {w : World} {r s t : ResultVar} {v u x : Value} (h : fn.results = #[r, s, t]) (h1 : rvRun P tmps w r v) (h2 : rvRun P tmps w s u) (h3 : rvRun P tmps w t x) : (results fn tmps).run P w = .ok (.tuple #[v, u, x]) w := by
  simp only [results, h]
  cases r <;> cases s <;> cases t <;> simp only [rvRun] at h1 h2 h3 <;> (try (obtain ⟨a1, h1, k1⟩ := h1)) <;> (try (obtain ⟨a2, h2, k2⟩ := h2)) <;> (try (obtain ⟨a3, h3, k3⟩ := h3)) <;> simp [asAddr, *]
theorem stab_eq (u : Value) : Stab fun v _ => v = u := fun _ _ _ h _ => h
theorem stab_true : Stab fun _ _ => True := fun _ _ _ h _ => h
theorem stab_blk {F : Nat → Value} {B : Nat} {t : TypeId} {cs : Array Value} : Stab fun v w => ∃ g, v = F g ∧ B ≤ g ∧ Blk w g t cs := fun _ _ _ ⟨g, e, h, hb⟩ hg => ⟨g, e, h, hb.below hg⟩
theorem stab_own {B e sz n : Nat} {cs : List Value} : Stab fun v w => w.ownsRow B e sz v n cs := fun _ _ _ h hg => own_below h hg
theorem stab_sl {n : Nat} {cs : List Value} : Stab fun v w => ∃ A c, v = .slice A n c ∧ Sl w A cs := fun _ _ _ ⟨A, c, e, h⟩ hg => ⟨A, c, e, h.below hg⟩
theorem stab_p {p : Value → World → Prop} (h : ∀ v w w', p v w → Gr w w' → p v w') : Stab p := h
end Go.Proofs.Ytkjcedlgljeoiaa
