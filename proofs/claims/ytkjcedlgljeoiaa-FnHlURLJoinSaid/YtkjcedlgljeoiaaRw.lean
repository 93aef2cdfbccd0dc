/- Rows of the call's own: append of one element, of a slice's elements, of a text; the text of a row of bytes. -/
import Derived.Test.YtkjcedlgljeoiaaCore
import Derived.Maps.AppendAt
import Derived.Lib.AppendStr
import Derived.Lib.ConvBytes
import Derived.Laws.BytesArg
import Derived.Deep.RegionLaw
import Derived.OwnWalk
namespace Go.Proofs.Ytkjcedlgljeoiaa
open Go.RowKit Go.Lib

theorem own_nil (w : World) (base : Nat) (e : TypeId) (sz : Nat) : w.ownsRow base e sz (.slice none 0 0) 0 [] := ⟨by simp, .inl ⟨rfl, rfl⟩⟩
section
variable {w w' : World} {base : Nat} {e : TypeId} {sz n : Nat} {v : Value} {cs : List Value}
theorem own_slice (h : w.ownsRow base e sz v n cs) (hn : n * sz ≤ 9223372036854775807) : ∃ A c, v = .slice A n c ∧ n ≤ c ∧ Sl w A cs := by
  obtain ⟨hl, h2⟩ := h
  rcases h2 with ⟨rfl, rfl⟩ | ⟨g, cap, cur, rfl, hb, hh, hc, hm, hs, ht⟩
  · exact ⟨none, 0, rfl, Nat.le_refl _, by
      have : cs = [] := List.eq_nil_of_length_eq_zero (by simpa using hl)
      subst this; exact Sl.nil⟩
  · refine ⟨_, cap, rfl, hc, by omega, fun _ => ⟨_, rfl, fun j u hu => ?_⟩⟩
    rw [cadd_zero]
    rw [cell_of_row w g j cur e (0, 0) hh, ← Array.getElem?_toList]
    rw [← ht, List.getElem?_take] at hu
    split at hu
    · exact hu
    · cases hu
theorem own_below (h : w.ownsRow base e sz v n cs) (hb : Below w.heap.size w w') : w'.ownsRow base e sz v n cs := by
  obtain ⟨hl, h2⟩ := h
  refine ⟨hl, ?_⟩
  rcases h2 with h2 | ⟨g, cap, cur, rfl, hbb, hh, r⟩
  · exact .inl h2
  · exact .inr ⟨g, cap, cur, rfl, hbb, (Blk.below (w := w) (g := g) hh hb), r⟩
theorem own_grown {k : Nat} (h : w.ownsRow base e sz v n cs) (hb : w.grownBy w' (some k)) (hk : v.ownBlock ≠ some k) : w'.ownsRow base e sz v n cs := by
  obtain ⟨hl, h2⟩ := h
  refine ⟨hl, ?_⟩
  rcases h2 with h2 | ⟨g, cap, cur, rfl, hbb, hh, r⟩
  · exact .inl h2
  · exact .inr ⟨g, cap, cur, rfl, hbb, (Blk.grown (w := w) (g := g) hh hb (fun e2 => hk (by simp [Value.ownBlock, e2]))), r⟩
theorem own_ge (h : w.ownsRow base e sz v n cs) : ∀ k, v.ownBlock = some k → base ≤ k := by
  rcases h.2 with ⟨rfl, _⟩ | ⟨g, cap, cur, rfl, hb, _⟩
  · intro k hk; simp [Value.ownBlock] at hk
  · intro k hk
    have : g = k := by simpa [Value.ownBlock] using hk
    omega
theorem own_lt (h : w.ownsRow base e sz v n cs) : ∀ k, v.ownBlock = some k → k < w.heap.size := by
  rcases h.2 with ⟨rfl, _⟩ | ⟨g, cap, cur, rfl, hb, hh, _⟩
  · intro k hk; simp [Value.ownBlock] at hk
  · intro k hk
    have : g = k := by simpa [Value.ownBlock] using hk
    subst this
    exact (Array.getElem?_eq_some_iff.1 hh).1
/-- By types: a block of another type is none of the row. -/
theorem own_ne (h : w.ownsRow base e sz v n cs) {g : Nat} {t : TypeId} {c : Array Value} (hb : Blk w g t c) (ht : e ≠ t) : v.ownBlock ≠ some g := by
  rcases h.2 with ⟨rfl, _⟩ | ⟨g', cap, cur, rfl, _, hh, _⟩
  · simp [Value.ownBlock]
  · intro he
    have : g' = g := by simpa [Value.ownBlock] using he
    subst this
    unfold Blk at hb
    rw [hh] at hb
    injection hb with hb
    injection hb with _ hb
    exact ht hb
end
/-- 'Below' behind a write to a row of one's own. -/
theorem below_row {B : Nat} {w w1 w2 : World} {v : Value} (h : Below B w w1) (hg : w1.grownBy w2 v.ownBlock) (hB : B ≤ w1.heap.size) (hr : ∀ k, v.ownBlock = some k → B ≤ k) : Below B w w2 := h.grown hg hB hr
theorem Blk.row {w w' : World} {g : Nat} {t : TypeId} {cs : Array Value} {v : Value} (h : Blk w g t cs) (hb : w.grownBy w' v.ownBlock) (hg : v.ownBlock ≠ some g) : Blk w' g t cs := (hb.block g h.lt (fun e => hg e.symm)).trans h
theorem Sl.row {w w' : World} {A : Option Addr} {cs : List Value} {v : Value} (h : Sl w A cs) (hb : w.grownBy w' v.ownBlock) (hg : ∀ ad, A = some ad → v.ownBlock ≠ some ad.block) : Sl w' A cs :=
  ⟨h.1, fun hn => by
    obtain ⟨ad, e, hc⟩ := h.2 hn
    refine ⟨ad, e, fun j u hu => ?_⟩
    have hcell := hc j u hu
    have hlt := World.block_lt_of_cell? w _ hcell
    have : w'.heap[(ad.add j).block]? = w.heap[(ad.add j).block]? := hb.block _ hlt (fun e2 => by
      rw [cblock_of_add] at e2
      exact hg ad e e2.symm)
    rw [World.cell?_of_block this]
    exact hcell⟩

section
variable {P : Program} {ops : Array Oper} {rest : List Oper} {o : Oper} {a : Act} {w : World} {Q : Exit → Act → World → Prop}
theorem app_run (s x : Operand) (t e : TypeId) (ho : o.op = .call { callee := .builtin .append, args := #[s, x], argTypes := #[t, t] })
    (ht : P.underlying t = some (.slice e)) (z : Value) (sz bytes : Nat) (hi : (P.info? e).map (fun i => (i.zero, i.size, i.bytes)) = some (some z, sz, bytes)) (hz : z.cells.size = sz) (hs0 : 0 < sz)
    (base : Nat) (v : Value) (n : Nat) (cs : List Value) (hs : a.eval s = v) (hown : w.ownsRow base e sz v n cs) (A : Option Addr) (m c : Nat) (news : List Value) (hx : a.eval x = .slice A m c) (hr : Sl w A news) (hm : news.length = m * sz)
    (h1 : ∀ u ∈ news, u.oneCell' = true) (hbytes : (n + m) * bytes ≤ 140737488355328) (h63 : n + m ≤ 140737488355328) (hbase : base ≤ w.heap.size) :
    ∃ v' w', (execOp a.eval o).run P w = .ok (.value v') w' ∧ w'.ownsRow base e sz v' (n + m) (cs ++ news) ∧ w.grownBy w' v.ownBlock ∧ (v'.ownBlock = v.ownBlock ∨ v'.ownBlock = some w.heap.size) := by
  obtain ⟨i0, hi0, hzz⟩ := Option.map_eq_some_iff.1 hi
  simp only [Prod.mk.injEq] at hzz
  obtain ⟨hz0, hz1, hz2⟩ := hzz
  have key : ∃ v' w', (Builtin.append_ #[t, t] o.type #[v, .slice A m c]).run P w = .ok v' w' ∧ w'.ownsRow base e sz v' (n + m) (cs ++ news) ∧ w.grownBy w' v.ownBlock ∧ (v'.ownBlock = v.ownBlock ∨ v'.ownBlock = some w.heap.size) := by
    rcases Nat.eq_zero_or_pos news.length with h0 | h0
    · have hnews : news = [] := List.eq_nil_of_length_eq_zero h0
      subst hnews
      have hm0 : m = 0 := by
        have h2 : m * sz = 0 := by simpa using hm.symm
        rcases Nat.mul_eq_zero.1 h2 with h2 | h2 <;> omega
      subst hm0
      cases A with
      | none =>
        refine ⟨v, w, ?_, by simpa using hown, World.grownBy.refl w _, .inl rfl⟩
        rcases hown.2 with ⟨rfl, rfl⟩ | ⟨g, cap, cur, rfl, _, _, hnc, _⟩
        · simp [Builtin.append_, run_underlying ht, sizeOf, typeInfo, hi0, Builtin.lenOf, Builtin.firstCells]
        · simp [Builtin.append_, run_underlying ht, sizeOf, typeInfo, hi0, Builtin.lenOf, Builtin.firstCells, hnc, storeCells]
      | some ad =>
        obtain ⟨v', w', q1, q2, q3, _, q5⟩ := run_append_own_at (P := P) w base t o.type e i0 z sz bytes ht hi0 hz0 hz1 hz2 hz hs0 v n cs hown ad 0 c [] (by simp) (by simp) (by simp) (by simp only [maxLen]; omega) hbytes hbase
        exact ⟨v', w', q1, q2, q3, q5⟩
    · obtain ⟨ad, rfl, hc⟩ := hr.2 h0
      obtain ⟨v', w', q1, q2, q3, _, q5⟩ := run_append_own_at (P := P) w base t o.type e i0 z sz bytes ht hi0 hz0 hz1 hz2 hz hs0 v n cs hown ad m c news hm hc h1 (by simp only [maxLen]; omega) hbytes hbase
      exact ⟨v', w', q1, q2, q3, q5⟩
  obtain ⟨v', w', q1, q2⟩ := key
  refine ⟨v', w', ?_, q2⟩
  unfold execOp
  simp only [ho, resolve, invoke, builtin, Sem.run_bind, Sem.run_pure, Result.andThen_ok, List.map_toArray, List.map_cons, List.map_nil, hs, hx, q1]
theorem ev_app (hgd : o.guard = none) (s x : Operand) (t e : TypeId) (ho : o.op = .call { callee := .builtin .append, args := #[s, x], argTypes := #[t, t] })
    (ht : P.underlying t = some (.slice e)) (z : Value) (sz bytes : Nat) (hi : (P.info? e).map (fun i => (i.zero, i.size, i.bytes)) = some (some z, sz, bytes)) (hz : z.cells.size = sz) (hs0 : 0 < sz)
    (base : Nat) (v : Value) (n : Nat) (cs : List Value) (hs : a.eval s = v) (hown : w.ownsRow base e sz v n cs) (A : Option Addr) (m c : Nat) (news : List Value) (hx : a.eval x = .slice A m c) (hr : Sl w A news) (hm : news.length = m * sz)
    (h1 : ∀ u ∈ news, u.oneCell' = true) (hbytes : (n + m) * bytes ≤ 140737488355328) (h63 : n + m ≤ 140737488355328) (hbase : base ≤ w.heap.size)
    (h : ∀ v' w', w'.ownsRow base e sz v' (n + m) (cs ++ news) → w.grownBy w' v.ownBlock → (v'.ownBlock = v.ownBlock ∨ v'.ownBlock = some w.heap.size) → wpList P ops Q rest (a.put o.dst v') w') : wpList P ops Q (o :: rest) a w := by
  obtain ⟨v', w', q1, q2, q3, q4⟩ := app_run (P := P) s x t e ho ht z sz bytes hi hz hs0 base v n cs hs hown A m c news hx hr hm h1 hbytes h63 hbase
  exact ev_run hgd q1 (h v' w' q2 q3 q4)
/-- The same as a step of a region that draws. -/
theorem st_app {Kc : Act → World → Prop} (hw : Region.wanted o (yielded ops a.tmps) = true) (s x : Operand) (t e : TypeId) (ho : o.op = .call { callee := .builtin .append, args := #[s, x], argTypes := #[t, t] })
    (ht : P.underlying t = some (.slice e)) (z : Value) (sz bytes : Nat) (hi : (P.info? e).map (fun i => (i.zero, i.size, i.bytes)) = some (some z, sz, bytes)) (hz : z.cells.size = sz) (hs0 : 0 < sz)
    (base : Nat) (v : Value) (n : Nat) (cs : List Value) (hs : a.eval s = v) (hown : w.ownsRow base e sz v n cs) (A : Option Addr) (m c : Nat) (news : List Value) (hx : a.eval x = .slice A m c) (hr : Sl w A news) (hm : news.length = m * sz)
    (h1 : ∀ u ∈ news, u.oneCell' = true) (hbytes : (n + m) * bytes ≤ 140737488355328) (h63 : n + m ≤ 140737488355328) (hbase : base ≤ w.heap.size)
    (h : ∀ v' w', w'.ownsRow base e sz v' (n + m) (cs ++ news) → w.grownBy w' v.ownBlock → (v'.ownBlock = v.ownBlock ∨ v'.ownBlock = some w.heap.size) → Kc (a.put o.dst v') w') :
    if Region.wanted o (yielded ops a.tmps) = true then Oper.wp P o a w Kc Q else Kc (a.put o.dst undef) w := by
  obtain ⟨v', w', q1, q2, q3, q4⟩ := app_run (P := P) s x t e ho ht z sz bytes hi hz hs0 base v n cs hs hown A m c news hx hr hm h1 hbytes h63 hbase
  rw [if_pos hw]
  unfold Oper.wp
  rw [q1]
  exact h v' w' q2 q3 q4
/-- append(b, s...), s a text. -/
theorem ev_apps (hgd : o.guard = none) (sl x : Operand) (t u e : TypeId) (ho : o.op = .call { callee := .builtin .append, args := #[sl, x], argTypes := #[t, u] })
    (ht : P.underlying t = some (.slice e)) (hu : P.underlying u = some .string) (hi : (P.info? e).map (fun i => (i.zero, i.size, i.bytes)) = some (some (.int .u8 0), 1, 1))
    (base : Nat) (v : Value) (b s : ByteArray) (hs : a.eval sl = v) (hown : w.ownsRow base e 1 v b.size (strCells b)) (hx : a.eval x = .string s) (h63 : b.size + s.size ≤ 140737488355328) (hbase : base ≤ w.heap.size)
    (h : ∀ v' w', w'.ownsRow base e 1 v' (b ++ s).size (strCells (b ++ s)) → w.grownBy w' v.ownBlock → wpList P ops Q rest (a.put o.dst v') w') : wpList P ops Q (o :: rest) a w := by
  obtain ⟨i0, hi0, hzz⟩ := Option.map_eq_some_iff.1 hi
  simp only [Prod.mk.injEq] at hzz
  obtain ⟨hz0, hz1, hz2⟩ := hzz
  refine wpList_append_own_string w hgd sl x t u ho base e i0 ht hu hi0 hz0 hz1 hz2 v b.size (strCells b) hs hown s hx (by simp only [maxLen]; omega) h63 hbase ?_
  intro v' w' h2 h3 _
  refine h v' w' ?_ h3
  have e1 : (b ++ s).size = b.size + s.size := ByteArray.size_append
  have e2 : strCells (b ++ s) = strCells b ++ strCells s := by simp [strCells, ByteArray.data_append]
  rw [e1, e2]
  exact h2
end
/-- The text of a row of bytes. -/
theorem own_text {P : Program} {w : World} {base : Nat} {src dst e e' : TypeId} {v : Value} {b : ByteArray} (hs : P.underlying src = some (.slice e)) (he : P.underlying e = some (.int .u8)) (hd : P.underlying dst = some .string)
    (h : w.ownsRow base e' 1 v b.size (strCells b)) : (convert src dst v).run P w = .ok (.string b) w := by
  rcases h.2 with ⟨rfl, h0⟩ | ⟨g, cap, cur, rfl, _⟩
  · have hb : b = ByteArray.empty := by
      apply ByteArray.ext
      apply Array.eq_empty_of_size_eq_zero
      exact h0
    subst hb
    exact run_convert_bytes_nil w src e hs he 0 0 dst hd
  · have hx : strOfNums (b.data.toList.map fun c => (c.toNat : Int)) = b := by
      apply ByteArray.ext
      apply Array.ext'
      rw [strOfNums_data]
      simp [List.map_map, Function.comp_def]
    rw [← hx]
    have hl : (b.data.toList.map fun c => (c.toNat : Int)).length = b.size := by simp
    have hsz : (strOfNums (b.data.toList.map fun c => (c.toNat : Int))).size = b.size := by rw [hx]
    refine run_convert_bytes_arg w src e hs he g 0 _ cap _ (by rw [hsz]; exact hl) (fun i hi => ?_) dst hd
    rw [hsz] at hi
    have hc := h.cells (g := g) rfl i (.int .u8 ((b.data.toList.map fun c => (c.toNat : Int)).getD i 0)) (by
      have hi2 : i < b.data.toList.length := by simpa using hi
      simp [strCells, List.getD_eq_getElem?_getD, List.getElem?_map, List.getElem?_eq_getElem hi2])
    rw [cadd_zero] at hc
    rw [Nat.zero_add]
    exact hc
end Go.Proofs.Ytkjcedlgljeoiaa
