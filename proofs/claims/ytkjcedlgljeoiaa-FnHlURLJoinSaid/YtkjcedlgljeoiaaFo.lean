/- The operations, one by one: what each leaves, over parts of memory. -/
import Derived.Test.YtkjcedlgljeoiaaFw
import Derived.IntWalk
namespace Go.Proofs.Ytkjcedlgljeoiaa
open Go.RowKit

section
variable {n : Nat} {D : List Deferred} {a : Act} {E E' : List (Nat × Value)} {P : Program} {w : World} {R : Ctx} {L : List SA}
variable {ops : Array Oper} {rest : List Oper} {o : Oper} {Q : Exit → Act → World → Prop}
theorem nble {n d : Nat} (h : Nat.ble n d = false) : d < n := by have := (Nat.not_le_of_not_ble_eq_true (by rw [h]; simp : ¬ Nat.ble n d = true)); omega
/-- The same, the run being known otherwise. -/
theorem op_r (F : Fr n D a E) {d : Nat} {v : Value} (hrun : (execOp a.eval o).run P w = .ok (.value v) w) (hgd : o.guard = none) (hd : o.dst = some d) (hn : Nat.ble n d = false)
    (h : ∀ a', Fr n D a' ((d, v) :: E) → wpList P ops Q rest a' w) : wpList P ops Q (o :: rest) a w := by
  refine ev_run hgd hrun ?_
  rw [hd]
  exact h _ (F.put (nble hn))
/-- An operation on a part of memory. -/
theorem op_s (F : Fr n D a E) {d : Nat} {p : SPost} (hs : sAt P R L o a w p) (hgd : o.guard = none) (hd : o.dst = some d) (hn : Nat.ble n d = false)
    (h : ∀ v A w', p v A → Sp R w' (A :: L) → ∀ a', Fr n D a' ((d, v) :: E) → wpList P ops Q rest a' w') : wpList P ops Q (o :: rest) a w :=
  wpList_plain hgd fun K hK => wp_of_sAt hs fun v A w' hp hS => hK _ _ (by rw [hd]; exact h v A w' hp hS _ (F.put (nble hn)))
theorem op_s0 (F : Fr n D a E) {p : SPost} (hs : sAt P R L o a w p) (hgd : o.guard = none) (hd : o.dst = none)
    (h : ∀ v A w', p v A → Sp R w' (A :: L) → Fr n D a E → wpList P ops Q rest a w') : wpList P ops Q (o :: rest) a w :=
  wpList_plain hgd fun K hK => wp_of_sAt hs fun v A w' hp hS => hK _ _ (by rw [hd]; exact h v A w' hp hS F)
/-- A call. -/
theorem op_c (F : Fr n D a E) {d : Nat} {f : FuncId} {args : Array Value} {Φ : Ending → World → Prop} (hex : (execOp (valE E) o).run P w = .ok (.enter f args) w) (hk : knownL E o.op.operands.toList = true) (hs : isSelect o.op = false)
    (hc : Calls P f args w Φ) (hgd : o.guard = none) (hd : o.dst = some d) (hn : Nat.ble n d = false)
    (h : ∀ e w', Φ e w' → ∃ v, e = .returned v ∧ ∀ a', Fr n D a' ((d, v) :: E) → wpList P ops Q rest a' w') : wpList P ops Q (o :: rest) a w := by
  refine wpList_plain hgd fun K hK => ?_
  unfold Oper.wp
  rw [F.evs hk hs, hex]
  refine hc.mono fun e w' hΦ => ?_
  obtain ⟨v, he, h1⟩ := h e w' hΦ
  subst he
  rw [hd]
  exact hK _ _ (h1 _ (F.put (nble hn)))
theorem op_c0 (F : Fr n D a E) {f : FuncId} {args : Array Value} {Φ : Ending → World → Prop} (hex : (execOp (valE E) o).run P w = .ok (.enter f args) w) (hk : knownL E o.op.operands.toList = true) (hs : isSelect o.op = false)
    (hc : Calls P f args w Φ) (hgd : o.guard = none) (hd : o.dst = none)
    (h : ∀ e w', Φ e w' → ∃ v, e = .returned v ∧ (Fr n D a E → wpList P ops Q rest a w')) : wpList P ops Q (o :: rest) a w := by
  refine wpList_plain hgd fun K hK => ?_
  unfold Oper.wp
  rw [F.evs hk hs, hex]
  refine hc.mono fun e w' hΦ => ?_
  obtain ⟨v, he, h1⟩ := h e w' hΦ
  subst he
  rw [hd]
  exact hK _ _ (h1 F)
/-- A guarded operation. -/
theorem op_want (F : Fr n D a E) (hg : guardIs ops E o = some true) (hn : (match (ops[(o.guard.map (·.1)).getD 0]?).bind (·.dst) with | some t => Nat.ble n t | none => false) = false)
    (h : wpList P ops Q ({ o with guard := none } :: rest) a w) : wpList P ops Q (o :: rest) a w :=
  wl_guard (F.wanted hg fun t ht => by rw [ht] at hn; exact nble hn) h
theorem op_skip (F : Fr n D a E) (hg : guardIs ops E o = some false) (hn : (match (ops[(o.guard.map (·.1)).getD 0]?).bind (·.dst) with | some t => Nat.ble n t | none => false) = false)
    {d : Nat} (hd : o.dst = some d) (hn2 : Nat.ble n d = false) (h : ∀ a', Fr n D a' ((d, undef) :: E) → wpList P ops Q rest a' w) : wpList P ops Q (o :: rest) a w := by
  have hw := F.wanted hg fun t ht => by rw [ht] at hn; exact nble hn
  unfold wpList
  rw [if_neg (by rw [hw]; simp), hd]
  exact h _ (F.put (nble hn2))

theorem fw_enterD {f : FuncId} {fn : Func} {c : Code} {args : Array Value} {R : Ending → World → Prop} (hf : P.funcs[f]? = some fn) (hb : fn.body = some c) (n : Nat) (hn : fn.ntmps = n) (ha : args.size ≤ n)
    (h : ∀ a, Fr n [] a (numb 0 args.toList) → c.wp P (bodyPostD P fn R) a w) : Calls P f args w R := by
  refine calls_of_wp_defers hf hb (h _ ⟨?_, rfl, fun t v ht => ?_⟩)
  · simp [hn]; omega
  · have h2 := (look_numb _ 0 t v ht).2
    simp only [Nat.sub_zero, Array.getElem?_toList] at h2
    have hlt := (Array.getElem?_eq_some_iff.1 h2).1
    simp [Array.getElem?_append, hlt]
    have h3 := (Array.getElem?_eq_some_iff.1 h2).2
    exact h3
theorem op_defer (F : Fr n D a E) (d : Deferred) (hex : (execOp (valE E) o).run P w = .ok (.defer d) w) (hk : knownL E o.op.operands.toList = true) (hs : isSelect o.op = false) (hgd : o.guard = none) (hd : o.dst = none)
    (h : ∀ a', Fr n (d :: D) a' E → wpList P ops Q rest a' w) : wpList P ops Q (o :: rest) a w := by
  refine wpList_plain hgd fun K hK => ?_
  unfold Oper.wp
  rw [F.evs hk hs, hex]
  rw [← F.dfs] at h
  simp only [Oper.upon, hd]
  exact hK _ _ (h _ ⟨F.size, rfl, F.get⟩)
theorem Fr.rvc (F : Fr n D a E) {t : Nat} {ty : TypeId} {p : Addr} {v : Value} (h : look E t = some (.pointer (some p))) (hl : (loadVar ty p).run P w = .ok v w) : rvRun P a.tmps w (.cell t ty) v :=
  ⟨p, by rw [← Array.getD_eq_getD_getElem?]; exact F.get t _ h, hl⟩
theorem Fr.rvt (F : Fr n D a E) {t : Nat} {v : Value} (h : look E t = some v) : rvRun P a.tmps w (.tmp t) v := by
  show a.tmps[t]?.getD undef = v
  rw [← Array.getD_eq_getD_getElem?]; exact F.get t _ h
theorem ld_mid {ty : TypeId} {g i : Nat} {t : TypeId} {cs : Array Value} (hb : Blk w g t cs) (k : Nat) (hk : Nat.ble (i + k) cs.size = true) {d : TypeDesc} (hu : P.underlying ty = some d) (hd : d.isRow = true) (hi : (P.info? ty).map (·.size) = some k) {v : Array Value} (hv : cs.extract i (i + k) = v) :
    (loadVar ty ⟨g, i, none⟩).run P w = .ok (.agg v) w := by
  have h := load_mid (P := P) w ty g i t cs hb k (Nat.le_of_ble_eq_true hk) d hu hd hi
  rw [hv] at h
  exact h
theorem Fr.resC {fn : Func} {T : Ending → World → Prop} (F : Fr n [] a E) {v : Value} (hr : (results fn a.tmps).run P w = .ok v w) (hR : T (.returned v) w) : bodyPost P fn T .ret a w ∧ bodyPost P fn T .normal a w :=
  ⟨⟨F.dfs, _, hr, hR⟩, ⟨F.dfs, _, hr, hR⟩⟩
theorem Fr.leaveD {fn : Func} {T : Ending → World → Prop} {fv : Fn} {cap dargs : Array Value} {f : FuncId} {args : Array Value} (F : Fr n [{ target := .fn fv cap, args := dargs }] a E) (hi : (invoke (.fn fv cap) dargs).run P w = .ok (.enter f args) w)
    (hc : CallsD P f args .returning w fun e u' w' => e = .returned (.tuple #[]) ∧ u' = .returning ∧ w' = w) {v : Value} (hr : (results fn a.tmps).run P w = .ok v w) (hR : T (.returned v) w) : bodyPostD P fn T .ret a w ∧ bodyPostD P fn T .normal a w := by
  have h := leaves_catch hi hc hr hR
  have h2 : Leaves P fn a.tmps T a.defers .returning w := by rw [F.dfs]; exact h
  exact ⟨h2, h2⟩

-- what an operation comes to, its operands being known
theorem r_pick {c x y : Operand} (ho : o.op = .pick c x y) {q : Bool} (hc : a.eval c = .bool q) {v : Value} (hx : (if q then a.eval x else a.eval y) = v) : (execOp a.eval o).run P w = .ok (.value v) w := by
  subst hx
  unfold execOp
  simp only [ho, hc]
  rfl
theorem r_arith {op : BinOp} {t t2 : TypeId} {x y : Operand} (ho : o.op = .binOp op t x y t2) {k : IntKind} {p q : Int} (hx : a.eval x = .int k p) (hy : a.eval y = .int k q) {r z : Int}
    (hop : (op = .add ∧ p + q = r) ∨ (op = .sub ∧ p - q = r) ∨ (op = .mul ∧ p * q = r)) (hw : k.wrap r = z) : (execOp a.eval o).run P w = .ok (.value (.int k z)) w := by
  subst hw
  unfold execOp
  simp only [ho, hx, hy]
  rcases hop with ⟨rfl, rfl⟩ | ⟨rfl, rfl⟩ | ⟨rfl, rfl⟩ <;> simp [eqGuard, binOp, Op.intArith]
theorem r_add {t t2 : TypeId} {x y : Operand} (ho : o.op = .binOp .add t x y t2) {k : IntKind} {p q : Int} (hx : a.eval x = .int k p) (hy : a.eval y = .int k q) {z : Int} (hw : k.wrap (p + q) = z) : (execOp a.eval o).run P w = .ok (.value (.int k z)) w := r_arith ho hx hy (.inl ⟨rfl, rfl⟩) hw
theorem r_sub {t t2 : TypeId} {x y : Operand} (ho : o.op = .binOp .sub t x y t2) {k : IntKind} {p q : Int} (hx : a.eval x = .int k p) (hy : a.eval y = .int k q) {z : Int} (hw : k.wrap (p - q) = z) : (execOp a.eval o).run P w = .ok (.value (.int k z)) w := r_arith ho hx hy (.inr (.inl ⟨rfl, rfl⟩)) hw
theorem r_mul {t t2 : TypeId} {x y : Operand} (ho : o.op = .binOp .mul t x y t2) {k : IntKind} {p q : Int} (hx : a.eval x = .int k p) (hy : a.eval y = .int k q) {z : Int} (hw : k.wrap (p * q) = z) : (execOp a.eval o).run P w = .ok (.value (.int k z)) w := r_arith ho hx hy (.inr (.inr ⟨rfl, rfl⟩)) hw
theorem wr64 {r z : Int} (h : r = z) (h1 : -9223372036854775808 ≤ z) (h2 : z ≤ 9223372036854775807) : IntKind.i64.wrap r = z := by subst h; exact IntWalk.i64_in _ ⟨h1, h2⟩
theorem r_sadd {t t2 : TypeId} {x y : Operand} (ho : o.op = .binOp .add t x y t2) {s u : ByteArray} (hx : a.eval x = .string s) (hy : a.eval y = .string u) (h : s.size + u.size ≤ 9223372036854775807) : (execOp a.eval o).run P w = .ok (.value (.string (s ++ u))) w := by
  unfold execOp
  simp only [ho, hx, hy]
  simp [eqGuard, binOp, Op.stringOp]; omega
theorem r_ix {t e : TypeId} {x i : Operand} (ho : o.op = .indexAddr t x i) (ht : P.underlying t = some (.slice e)) (sz : Nat) (hz : (P.info? e).map (·.size) = some sz) {A : Option Addr} {ad : Addr} {m c : Nat} (hx : a.eval x = .slice A m c) (hA : A = some ad) {kd : IntKind} {z : Int} (hi : a.eval i = .int kd z)
    (k : Nat) (hk : z = k) (h : k < m) {p : Addr} (hp : ad.add (k * sz) = p) : (execOp a.eval o).run P w = .ok (.value (.pointer (some p))) w := by
  subst hp; subst hk; subst hA
  unfold execOp
  cases hq : P.info? e with
  | none => simp [hq] at hz
  | some inf =>
    have hs : inf.size = sz := by simpa [hq] using hz
    simp [ho, hx, hi, Instr.indexAt, asIntOf, Sem.run_bind, run_underlying ht w, sizeOf, typeInfo, hq, hs, h]
theorem Sl.elA {A : Option Addr} {ad : Addr} {cs : List Value} (h : Sl w A cs) (hA : A = some ad) {j : Nat} {u : Value} (hu : cs[j]? = some u) : w.cell? (ad.add j) = some u := by subst hA; exact h.el hu
theorem Rows.elA {A : Option Addr} {ad : Addr} {C : Nat} {rows : List (List Value)} (h : Rows w A C rows) (hA : A = some ad) {j : Nat} {row : List Value} (hj : rows[j]? = some row) : ∀ i u, row[i]? = some u → w.cell? ((ad.add (j * C)).add i) = some u := by subst hA; exact h.el hj
theorem add0 (p : Addr) : p.add 0 = p := by simp [Addr.add]
theorem add_blk (g k : Nat) : (⟨g, 0, none⟩ : Addr).add k = ⟨g, k, none⟩ := cadd_zero g k
theorem r_index {t : TypeId} {x i : Operand} (ho : o.op = .index t x i) (ht : P.underlying t = some .string) {s : ByteArray} (hx : a.eval x = .string s) {kd : IntKind} {z : Int} (hi : a.eval i = .int kd z) (k : Nat) (hk : z = k) (h : k < s.size) :
    (execOp a.eval o).run P w = .ok (.value (.int .u8 s[k].toNat)) w := by
  subst hk
  unfold execOp
  simp [ho, hx, hi, Instr.index, asIntOf, Sem.run_bind, run_underlying ht w, h]
theorem r_ld {ty : TypeId} {x : Operand} (ho : o.op = .load ty x) {p : Addr} (hx : a.eval x = .pointer (some p)) {v : Value} (hc : w.cell? p = some v) {d : TypeDesc} (hu : P.underlying ty = some d) (hd : d.isRow = false) : (execOp a.eval o).run P w = .ok (.value v) w := by
  have hv := load_one (P := P) w ty p v hc d hu hd
  unfold execOp
  simp only [ho, hx, Instr.loadAt, Instr.sureAddr, Sem.run_bind, Sem.run_pure, Result.andThen_ok, hv]
theorem r_ldm {ty : TypeId} {x : Operand} (ho : o.op = .load ty x) {g i : Nat} (hx : a.eval x = .pointer (some ⟨g, i, none⟩)) {t : TypeId} {cs : Array Value} (hb : Blk w g t cs) (k : Nat) (hk : Nat.ble (i + k) cs.size = true) {d : TypeDesc} (hu : P.underlying ty = some d) (hd : d.isRow = true)
    (hi : (P.info? ty).map (·.size) = some k) {v : Array Value} (hv : cs.extract i (i + k) = v) : (execOp a.eval o).run P w = .ok (.value (.agg v)) w := by
  have h := load_mid (P := P) w ty g i t cs hb k (Nat.le_of_ble_eq_true hk) d hu hd hi
  rw [hv] at h
  unfold execOp
  simp only [ho, hx, Instr.loadAt, Instr.sureAddr, Sem.run_bind, Sem.run_pure, Result.andThen_ok, h]
theorem r_ldR {ty : TypeId} {x : Operand} (ho : o.op = .load ty x) {p : Addr} (hx : a.eval x = .pointer (some p)) {cs : List Value} (hc : ∀ i u, cs[i]? = some u → w.cell? (p.add i) = some u) {d : TypeDesc} (hu : P.underlying ty = some d) (hd : d.isRow = true)
    (hi : (P.info? ty).map (·.size) = some cs.length) {v : Array Value} (hv : cs.toArray = v) : (execOp a.eval o).run P w = .ok (.value (.agg v)) w := by
  have h := load_row (P := P) w ty p cs hc d hu hd hi
  rw [hv] at h
  unfold execOp
  simp only [ho, hx, Instr.loadAt, Instr.sureAddr, Sem.run_bind, Sem.run_pure, Result.andThen_ok, h]

theorem Sp.ofblk {g : Nat} {t : TypeId} {cs : Array Value} {sz m : Nat} (S : Sp R w (SA.blk g t cs :: L)) (hn : cs.size = m * sz) (hm : m ≤ 9223372036854775807) {l : List Value} (hl : cs.toList = l) : Sp R w (SA.own (.slice (some ⟨g, 0, none⟩) m m) t sz m l :: L) := by
  subst hl
  exact
  S.upd rfl rfl rfl fun F hF => ⟨F, ⟨own_of_blk hF.1 (Nat.zero_le _) hn hm, fun k => (hF.2 k).trans ⟨fun e => by rw [e]; rfl, fun e => by injection e with e; exact e.symm⟩⟩, fun k h => .inl h, fun _ _ _ => rfl⟩
theorem r_cvi {src dst : TypeId} {x : Operand} {kd q : IntKind} (ho : o.op = .convert src dst x) {d0 : TypeDesc} (hs : P.underlying src = some d0) (hd : P.underlying dst = some (.int q)) {z : Int} (hx : a.eval x = .int kd z) (hw : q.wrap z = z) : (execOp a.eval o).run P w = .ok (.value (.int q z)) w := by
  unfold execOp
  simp [ho, hx, convert, Sem.run_bind, run_underlying hs w, run_underlying hd w, Conv.intToInt, hw]
theorem r_sl_gen {t : TypeId} {x : Operand} {lo hi : Option Operand} (ho : o.op = .slice t x lo hi none) (ht : P.underlying t = some .string) {s : ByteArray} (hx : a.eval x = .string s) {l h : Nat}
    (hb : (Instr.sliceBounds false s.size s.size (lo.map a.eval) (hi.map a.eval) none).run P w = .ok (l, h, s.size) w) {r : ByteArray} (hr : s.extract l h = r) : (execOp a.eval o).run P w = .ok (.value (.string r)) w := by
  subst hr
  unfold execOp
  simp only [ho, hx, Option.map_none]
  simp [Instr.sliceAt, Instr.slice, Sem.run_bind, run_underlying ht w, hb]
theorem r_slh {t : TypeId} {x hi : Operand} (ho : o.op = .slice t x none (some hi) none) (ht : P.underlying t = some .string) {s : ByteArray} (hx : a.eval x = .string s) {kh : IntKind} {zh : Int} (hh : a.eval hi = .int kh zh) (l h : Nat) (e : zh = h ∧ l = 0) (hb : h ≤ s.size) {r : ByteArray} (hr : s.extract l h = r) :
    (execOp a.eval o).run P w = .ok (.value (.string r)) w := by
  obtain ⟨rfl, rfl⟩ := e
  refine r_sl_gen ho ht hx (l := 0) (h := h) ?_ hr
  simp [Instr.sliceBounds, hh, Sem.run_bind, run_sliceBound, hb]
theorem r_sll {t : TypeId} {x lo : Operand} (ho : o.op = .slice t x (some lo) none none) (ht : P.underlying t = some .string) {s : ByteArray} (hx : a.eval x = .string s) {kl : IntKind} {zl : Int} (hl : a.eval lo = .int kl zl) (l h : Nat) (e : zl = l ∧ h = s.size) (hb : l ≤ s.size) {r : ByteArray} (hr : s.extract l h = r) :
    (execOp a.eval o).run P w = .ok (.value (.string r)) w := by
  obtain ⟨rfl, rfl⟩ := e
  refine r_sl_gen ho ht hx (l := l) (h := s.size) ?_ hr
  simp [Instr.sliceBounds, hl, Sem.run_bind, run_sliceBound, hb]
theorem r_sllh {t : TypeId} {x lo hi : Operand} (ho : o.op = .slice t x (some lo) (some hi) none) (ht : P.underlying t = some .string) {s : ByteArray} (hx : a.eval x = .string s) {kl kh : IntKind} {zl zh : Int} (hl : a.eval lo = .int kl zl) (hh : a.eval hi = .int kh zh) (l h : Nat) (e : zl = l ∧ zh = h)
    (hb : l ≤ h ∧ h ≤ s.size) {r : ByteArray} (hr : s.extract l h = r) : (execOp a.eval o).run P w = .ok (.value (.string r)) w := by
  obtain ⟨rfl, rfl⟩ := e
  refine r_sl_gen ho ht hx (l := l) (h := h) ?_ hr
  simp [Instr.sliceBounds, hl, hh, Sem.run_bind, run_sliceBound, hb.1, hb.2]
theorem r_eq {op : BinOp} {t t2 : TypeId} {x y : Operand} {xs ys : Array Value} {b : Bool} (hb : (binOp op t (.agg xs) (.agg ys)).run P w = .ok (.bool b) w) (ho : o.op = .binOp op t x y t2) (hx : a.eval x = .agg xs) (hy : a.eval y = .agg ys) (hm : P.eqGuardType P.depth t = false) :
    (execOp a.eval o).run P w = .ok (.value (.bool b)) w := by
  unfold execOp
  simp only [ho, hx, hy]
  have hg : (eqGuard op t x y (.agg xs) (.agg ys)).run P w = .ok () w := by
    unfold eqGuard
    cases op <;> simp [Sem.run_bind, hm]
  simp [Sem.run_bind, hg, hb]

-- in a region that draws
theorem s_r {v : Value} (hrun : (execOp a.eval o).run P w = .ok (.value v) w) (S : Sp R w (SA.emp :: L)) : sAt P R L o a w (fun u A => u = v ∧ A = SA.emp) := by
  unfold sAt
  rw [hrun]
  exact ⟨_, ⟨rfl, rfl⟩, S⟩
theorem s_p (F : Fr n D a E) {v : Value} (hrun : (execOp (valE E) o).run P w = .ok (.value v) w) (hk : knownL E o.op.operands.toList = true) (hs : isSelect o.op = false) (S : Sp R w (SA.emp :: L)) : sAt P R L o a w (fun u A => u = v ∧ A = SA.emp) :=
  s_r (by rw [F.evs hk hs]; exact hrun) S
/-- A new block, and a pointer to it. -/
theorem s_newp (F : Fr n D a E) (t : TypeId) (cs : Array Value) (hrun : (execOp (valE E) o).run P w = .ok (.value (.pointer (some ⟨w.heap.size, 0, none⟩))) (w.alloc (.cells cs t))) (hk : knownL E o.op.operands.toList = true) (hs : isSelect o.op = false)
    (S : Sp R w L) : sAt P R L o a w (fun v A => ∃ g : Nat, v = .pointer (some ⟨g, 0, none⟩) ∧ A = SA.blk g t cs) := by
  unfold sAt
  rw [F.evs hk hs, hrun]
  exact ⟨_, ⟨_, rfl, rfl⟩, S.newblk ((Below.refl _ _).alloc (Nat.le_refl _) _) (Nat.le_refl _) (Blk.new w t cs)⟩
/-- A new block, and a slice of it whole. -/
theorem s_news (F : Fr n D a E) (t : TypeId) (cs : Array Value) (m : Nat) (hrun : (execOp (valE E) o).run P w = .ok (.value (.slice (some ⟨w.heap.size, 0, none⟩) m m)) (w.alloc (.cells cs t))) (hk : knownL E o.op.operands.toList = true) (hs : isSelect o.op = false)
    (S : Sp R w L) : sAt P R L o a w (fun v A => ∃ g : Nat, v = .slice (some ⟨g, 0, none⟩) m m ∧ A = SA.blk g t cs) := by
  unfold sAt
  rw [F.evs hk hs, hrun]
  exact ⟨_, ⟨_, rfl, rfl⟩, S.newblk ((Below.refl _ _).alloc (Nat.le_refl _) _) (Nat.le_refl _) (Blk.new w t cs)⟩
theorem store_run {ty : TypeId} {g i : Nat} {old : Array Value} {u : Value} {t : TypeId} (hb : Blk w g t old) (hi : (P.info? ty).map (·.size) = some 1) (hs : i < old.size) (h1 : u.oneCell' = true) (hc : u.cells = #[u]) :
    (storeVar ty ⟨g, i, none⟩ u).run P w = .ok () (w.setCell ⟨g, i, none⟩ u) := by
  have hcell : w.cell? ⟨g, i, none⟩ = some old[i] := by rw [hb.cell]; exact Array.getElem?_eq_getElem hs
  have := run_storeCells_cells (P := P) g i [u] 0 w (fun j hj => by
      obtain rfl : j = 0 := by simpa using hj
      simp [hcell]) (fun j hj => by
      obtain rfl : j = 0 := by simpa using hj
      exact hb.frozen i)
    (fun v hv => by rw [List.mem_singleton.1 hv]; exact h1)
  cases hq : P.info? ty with
  | none => simp [hq] at hi
  | some inf =>
    have hz : inf.size = 1 := by simpa [hq] using hi
    simp only [Nat.add_zero] at this
    simp [storeVar, sizeOf, typeInfo, hq, hc, hz, this]
    rfl
/-- 'store' of one cell. -/
theorem s_st {ty : TypeId} {x y : Operand} (ho : o.op = .store ty x y) {g i : Nat} {old : Array Value} (hx : a.eval x = .pointer (some ⟨g, i, none⟩)) {u : Value} (hy : a.eval y = u) {t : TypeId} (S : Sp R w (SA.blk g t old :: L))
    (hi : (P.info? ty).map (·.size) = some 1) (hs : Nat.ble old.size i = false) (h1 : u.oneCell' = true) (hc : u.cells = #[u]) {cs : Array Value} (hcs : old.setIfInBounds i u = cs) : sAt P R L o a w (fun _ A => A = SA.blk g t cs) := by
  subst hcs
  have hb := S.bk 0 rfl
  unfold sAt execOp
  simp only [ho, hx, hy, Instr.storeAt, Instr.sureAddr, Sem.run_bind, Sem.run_pure, Result.andThen_ok, store_run (P := P) hb hi (nble hs) h1 hc]
  refine ⟨_, rfl, S.upd rfl rfl rfl fun F hF => ⟨F, ⟨hb.set_ i u, hF.2⟩, fun k h => .inl h, fun k _ hk => Below.heap_setCell w ⟨g, i, none⟩ _ k fun e => hk ((hF.2 k).2 e)⟩⟩
/-- 'store' of a struct over a whole block. -/
theorem s_stb {ty : TypeId} {x y : Operand} (ho : o.op = .store ty x y) {g : Nat} {old cells : Array Value} (hx : a.eval x = .pointer (some ⟨g, 0, none⟩)) (hy : a.eval y = .agg cells) {t : TypeId} (S : Sp R w (SA.blk g t old :: L))
    (hi : (P.info? ty).map (·.size) = some cells.size) (hs : old.size = cells.size) (h1 : cells.toList.all (·.oneCell') = true) : sAt P R L o a w (fun _ A => A = SA.blk g t cells) := by
  have hb := S.bk 0 rfl
  have hb2 : Blk (w.setRow g cells) g t cells := by
    unfold Blk at hb ⊢
    simp [World.setRow, Array.getElem?_modify, hb]
  have key : ∀ (K : Act → World → Prop) (Q : Exit → Act → World → Prop), K (a.put o.dst undef) (w.setRow g cells) → o.wp P a w K Q := fun K Q h => wp_store_row ty x y ho g cells hx hy t old hb hi hs (by rw [← Array.all_toList]; exact h1) h
  have hS : Sp R (w.setRow g cells) (SA.blk g t cells :: L) := S.upd rfl rfl rfl fun F hF => ⟨F, ⟨hb2, hF.2⟩, fun k h => .inl h, fun k _ hk => by
    simp only [World.setRow]
    rw [Array.getElem?_modify, if_neg (fun e => hk ((hF.2 k).2 e.symm))]⟩
  have hk := key (fun _ w' => w' = w.setRow g cells) (fun _ _ _ => False) rfl
  unfold Oper.wp at hk
  unfold sAt
  cases hr : (execOp a.eval o).run P w with
  | ok nx w' =>
    rw [hr] at hk
    unfold execOp at hr
    simp only [ho, Sem.run_bind] at hr
    cases h2 : (Instr.storeAt ty (a.eval x) (a.eval y)).run P w with
    | ok q w2 =>
      rw [h2] at hr
      injection hr with e1 e2
      subst e1; subst e2
      simp only [Oper.upon] at hk
      subst hk
      exact ⟨_, rfl, hS⟩
    | halt q w2 => rw [h2] at hr; cases hr
  | halt q w' => rw [hr] at hk; cases q <;> exact hk.elim
/-- append. -/
theorem s_app {s x : Operand} {t e : TypeId} (ho : o.op = .call { callee := .builtin .append, args := #[s, x], argTypes := #[t, t] }) (ht : P.underlying t = some (.slice e)) {z : Value} (sz bytes : Nat) (hi : (P.info? e).map (fun i => (i.zero, i.size, i.bytes)) = some (some z, sz, bytes))
    (hz : z.cells.size = sz) (hs0 : Nat.ble sz 0 = false) {v : Value} {n : Nat} {cs : List Value} (hs : a.eval s = v) (S : Sp R w (SA.own v e sz n cs :: L)) {A : Option Addr} {m c : Nat} (news : List Value) (hx : a.eval x = .slice A m c) (hr : Sl w A news) (hm : news.length = m * sz)
    (h1 : ∀ u ∈ news, u.oneCell' = true) (hbytes : (n + m) * bytes ≤ 140737488355328) (h63 : n + m ≤ 140737488355328) {n' : Nat} (hn' : n + m = n') {cs' : List Value} (hcs' : cs ++ news = cs') :
    sAt P R L o a w (fun v' A => ∃ A' c', v' = .slice A' n' c' ∧ A = SA.own (.slice A' n' c') e sz n' cs') := by
  subst hn'; subst hcs'
  obtain ⟨v', w', q1, q2, q3, q4⟩ := app_run (P := P) s x t e ho ht z sz bytes hi hz (nble hs0) 0 v n cs hs (S.ow 0 rfl) A m c news hx hr hm h1 hbytes h63 (Nat.zero_le _)
  obtain ⟨A', c', rfl, _⟩ := own_form q2
  unfold sAt
  rw [q1]
  refine ⟨_, ⟨A', c', rfl, rfl⟩, S.upd q3.os q3.tape q3.output fun F hF => ⟨fun k => Value.ownBlock (.slice A' (n + m) c') = some k, ⟨q2, fun _ => Iff.rfl⟩, fun k hk => ?_, fun k hl hk => q3.block k hl fun e => hk ((hF.2 k).2 e.symm)⟩⟩
  rcases q4 with q4 | q4
  · exact .inl ((hF.2 k).2 (q4 ▸ hk))
  · rw [q4] at hk; injection hk with hk; exact .inr (by omega)
/-- A slice of a slice. -/
theorem r_slc {t e : TypeId} {x : Operand} {lo hi : Option Operand} (ho : o.op = .slice t x lo hi none) (ht : P.underlying t = some (.slice e)) (sz : Nat) (hz : (P.info? e).map (·.size) = some sz) {A : Option Addr} {m c : Nat} (hx : a.eval x = .slice A m c) {l h : Nat}
    (hb : (Instr.sliceBounds true m c (lo.map a.eval) (hi.map a.eval) none).run P w = .ok (l, h, c) w) : (execOp a.eval o).run P w = .ok (.value (.slice (if c = l then A else A.map (·.add (l * sz))) (h - l) (c - l))) w := by
  unfold execOp
  simp only [ho, hx, Option.map_none]
  cases hq : P.info? e with
  | none => simp [hq] at hz
  | some inf =>
    have hs : inf.size = sz := by simpa [hq] using hz
    simp [Instr.sliceAt, Instr.slice, Sem.run_bind, run_underlying ht w, hb, sizeOf, typeInfo, hq, hs]
theorem r_slch {t e : TypeId} {x hi : Operand} (ho : o.op = .slice t x none (some hi) none) (ht : P.underlying t = some (.slice e)) (sz : Nat) (hz : (P.info? e).map (·.size) = some sz) {A : Option Addr} {m c : Nat} (hx : a.eval x = .slice A m c) {kh : IntKind} {zh : Int} (hh : a.eval hi = .int kh zh)
    (h : Nat) (e1 : zh = h) (hb : h ≤ c) : (execOp a.eval o).run P w = .ok (.value (.slice A h c)) w := by
  subst e1
  have := r_slc (P := P) (w := w) ho ht sz hz hx (l := 0) (h := h) (by simp [Instr.sliceBounds, hh, run_sliceBound, hb])
  rw [this]
  cases A <;> simp [Addr.add]
theorem r_slcl {t e : TypeId} {x lo : Operand} (ho : o.op = .slice t x (some lo) none none) (ht : P.underlying t = some (.slice e)) (sz : Nat) (hz : (P.info? e).map (·.size) = some sz) {A : Option Addr} {m c : Nat} (hx : a.eval x = .slice A m c) {kl : IntKind} {zl : Int} (hl : a.eval lo = .int kl zl)
    (l : Nat) (e1 : zl = l) (hb : l ≤ m) : (execOp a.eval o).run P w = .ok (.value (.slice (subA A l sz c) (m - l) (c - l))) w := by
  subst e1
  exact r_slc (P := P) (w := w) ho ht sz hz hx (l := l) (h := m) (by simp [Instr.sliceBounds, hl, run_sliceBound, hb])
theorem r_slclh {t e : TypeId} {x lo hi : Operand} (ho : o.op = .slice t x (some lo) (some hi) none) (ht : P.underlying t = some (.slice e)) (sz : Nat) (hz : (P.info? e).map (·.size) = some sz) {A : Option Addr} {m c : Nat} (hx : a.eval x = .slice A m c) {kl kh : IntKind} {zl zh : Int} (hl : a.eval lo = .int kl zl) (hh : a.eval hi = .int kh zh)
    (l h : Nat) (e1 : zl = l ∧ zh = h) (hb : l ≤ h ∧ h ≤ c) : (execOp a.eval o).run P w = .ok (.value (.slice (subA A l sz c) (h - l) (c - l))) w := by
  obtain ⟨rfl, rfl⟩ := e1
  exact r_slc (P := P) (w := w) ho ht sz hz hx (l := l) (h := h) (by simp [Instr.sliceBounds, hl, hh, run_sliceBound, hb.1, hb.2])
theorem own_cap' {e : TypeId} {sz m c : Nat} {A : Option Addr} {cs : List Value} (h : w.ownsRow 0 e sz (.slice A m c) m cs) : m ≤ c := own_cap h
theorem own_take {e : TypeId} {sz m c h : Nat} {A : Option Addr} {cs : List Value} (ho : w.ownsRow 0 e sz (.slice A m c) m cs) (hh : h ≤ m) : w.ownsRow 0 e sz (.slice A h c) h (cs.take (h * sz)) := by
  have hle : h * sz ≤ m * sz := Nat.mul_le_mul_right _ hh
  refine ⟨by rw [List.length_take, ho.1]; omega, ?_⟩
  rcases ho.2 with ⟨h1, h2⟩ | ⟨g, cap, cur, h1, h2, h3, h4, h5, h6, h7⟩
  · injection h1 with e1 e2 e3
    subst e1; subst e3
    obtain rfl : h = 0 := by omega
    exact .inl ⟨rfl, rfl⟩
  · injection h1 with e1 e2 e3
    subst e1; subst e3
    refine .inr ⟨g, c, cur, rfl, h2, h3, by omega, h5, h6, ?_⟩
    rw [← h7, List.take_take, Nat.min_eq_left hle]
/-- 'x[:h]' of a row of one's own. -/
theorem s_shr {t e : TypeId} {x hi : Operand} (ho : o.op = .slice t x none (some hi) none) (ht : P.underlying t = some (.slice e)) (sz : Nat) (hz : (P.info? e).map (·.size) = some sz) {A : Option Addr} {m c : Nat} (hx : a.eval x = .slice A m c) {kh : IntKind} {zh : Int} (hh : a.eval hi = .int kh zh)
    (h : Nat) (e1 : zh = h) (hle : h ≤ m) {cs cs' : List Value} (S : Sp R w (SA.own (.slice A m c) e sz m cs :: L)) (hcs : cs.take (h * sz) = cs') : sAt P R L o a w (fun v B => v = .slice A h c ∧ B = SA.own (.slice A h c) e sz h cs') := by
  subst hcs
  have hc := own_cap (S.ow 0 rfl)
  unfold sAt
  rw [r_slch (P := P) (w := w) ho ht sz hz hx hh h e1 (by omega)]
  exact ⟨_, ⟨rfl, rfl⟩, S.upd rfl rfl rfl fun F hF => ⟨F, ⟨own_take hF.1 hle, fun k => (hF.2 k).trans (by cases A <;> simp [Value.ownBlock])⟩, fun k h => .inl h, fun _ _ _ => rfl⟩⟩
/-- A call. -/
theorem s_c (F : Fr n D a E) {f : FuncId} {args : Array Value} {Φ : Ending → World → Prop} {p : SPost} (hex : (execOp (valE E) o).run P w = .ok (.enter f args) w) (hk : knownL E o.op.operands.toList = true) (hs : isSelect o.op = false)
    (hc : Calls P f args w Φ) (h : ∀ e w', Φ e w' → ∃ v A, e = .returned v ∧ p v A ∧ Sp R w' (A :: L)) : sAt P R L o a w p := by
  unfold sAt
  rw [F.evs hk hs, hex]
  exact hc.mono h

-- code
variable {c : Code}
theorem fw_loop (I : Nat → Act → World → Prop) (n0 : Nat) (h0 : I n0 a w) (round : ∀ m a w, I m a w → ∀ K : Act → World → Prop, (∀ m' a' w', m' < m → I m' a' w' → K a' w') → c.wp P (Exit.then K Q) a w) : (Code.loop c).wp P Q a w :=
  wp_loop_ghost I n0 h0 fun m a w h => round m a w h _ fun m' _ _ h1 h2 => ⟨m', h1, h2⟩
theorem fw_cut {x y : Code} (I : Act → World → Prop) (hx : ∀ K : Act → World → Prop, (∀ a w, I a w → K a w) → x.wp P (Exit.then K Q) a w) (hy : ∀ a w, I a w → y.wp P Q a w) : (Code.seq x y).wp P Q a w :=
  wp_seq (hx _ hy)
theorem ex_then {K : Act → World → Prop} {i : Nat} (h : Q (.exit i) a w) : Exit.then K Q (.exit i) a w := h
theorem ex_in {i : Nat} (h : Q .normal a w) : Exit.inBlock i Q (.exit i) a w := by simpa only [Exit.inBlock, if_true] using h
theorem ex_out {i j : Nat} (hj : Nat.beq j i = false) (h : Q (.exit j) a w) : Exit.inBlock i Q (.exit j) a w := by
  have : j ≠ i := fun e => by subst e; simp at hj
  simpa only [Exit.inBlock, if_neg this] using h
theorem ret_then {K : Act → World → Prop} (h : Q .ret a w) : Exit.then K Q .ret a w := h
theorem ret_in {i : Nat} (h : Q .ret a w) : Exit.inBlock i Q .ret a w := h
theorem Fr.sb (F : Fr n D a E) (t : Nat) {b q : Bool} (h : look E t = some (.bool b)) (hc : b = q) : Fr n D a ((t, .bool q) :: E) := by subst hc; exact F.k t h F
theorem btf (b : Bool) : b = true ∨ b = false := by cases b <;> simp
variable {fn : Func} {T : Ending → World → Prop}
theorem Fr.res0 (F : Fr n [] a E) (h : fn.results = #[]) (hR : T (.returned (.tuple #[])) w) : bodyPost P fn T .ret a w ∧ bodyPost P fn T .normal a w :=
  ⟨⟨F.dfs, _, results_none h _ _ _, hR⟩, ⟨F.dfs, _, results_none h _ _ _, hR⟩⟩
theorem Fr.res1 (F : Fr n [] a E) {t : Nat} (h : fn.results = #[.tmp t]) {v : Value} (hv : look E t = some v) (hR : T (.returned v) w) : bodyPost P fn T .ret a w ∧ bodyPost P fn T .normal a w := by
  have h1 := results_tmp h a.tmps P w
  rw [F.get t v hv] at h1
  exact ⟨⟨F.dfs, _, h1, hR⟩, ⟨F.dfs, _, h1, hR⟩⟩
theorem Fr.res2 (F : Fr n [] a E) {t u : Nat} (h : fn.results = #[.tmp t, .tmp u]) {v v2 : Value} (hv : look E t = some v) (hv2 : look E u = some v2) (hR : T (.returned (.tuple #[v, v2])) w) : bodyPost P fn T .ret a w ∧ bodyPost P fn T .normal a w := by
  have h1 := results_tmp2 h a.tmps P w
  rw [F.get t v hv, F.get u v2 hv2] at h1
  exact ⟨⟨F.dfs, _, h1, hR⟩, ⟨F.dfs, _, h1, hR⟩⟩
theorem Fr.res3 (F : Fr n [] a E) {t u s : Nat} (h : fn.results = #[.tmp t, .tmp u, .tmp s]) {v v2 v3 : Value} (hv : look E t = some v) (hv2 : look E u = some v2) (hv3 : look E s = some v3) (hR : T (.returned (.tuple #[v, v2, v3])) w) : bodyPost P fn T .ret a w ∧ bodyPost P fn T .normal a w := by
  have h1 : (results fn a.tmps).run P w = .ok (.tuple #[a.tmps.getD t undef, a.tmps.getD u undef, a.tmps.getD s undef]) w := by simp [results, h]
  rw [F.get t v hv, F.get u v2 hv2, F.get s v3 hv3] at h1
  exact ⟨⟨F.dfs, _, h1, hR⟩, ⟨F.dfs, _, h1, hR⟩⟩
end
end Go.Proofs.Ytkjcedlgljeoiaa
