/- A quick walk: the frame as a list of slots that are known; one step for each operation. -/
import Derived.Test.YtkjcedlgljeoiaaSx
import Derived.Lib.Hide
namespace Go.Proofs.Ytkjcedlgljeoiaa
open Go.RowKit

/-- The value of a slot, if it is known. -/
def look : List (Nat × Value) → Nat → Option Value
  | [], _ => none
  | (d, v) :: E, t => if Nat.beq d t then some v else look E t
def val (E : List (Nat × Value)) : Operand → Option Value
  | .tmp t => look E t
  | .const v => some v
  | .global g => some (.pointer (some ⟨g, 0, none⟩))
  | .func f => some (.func (.func f) #[] #[])
def valE (E : List (Nat × Value)) (x : Operand) : Value := (val E x).getD undef
def knownL (E : List (Nat × Value)) (l : List Operand) : Bool := l.all fun x => (val E x).isSome
def isSelect : Op → Bool
  | .select _ _ => true
  | _ => false
structure Fr (n : Nat) (D : List Deferred) (a : Act) (E : List (Nat × Value)) : Prop where
  size : a.tmps.size = n
  dfs : a.defers = D
  get : ∀ t v, look E t = some v → a.tmps.getD t undef = v
section
variable {n : Nat} {D : List Deferred} {a : Act} {E E' : List (Nat × Value)} {P : Program} {w : World}
theorem Fr.nil (F : Fr n D a E) : Fr n D a [] := ⟨F.size, F.dfs, fun t v h => by cases h⟩
theorem Fr.k (F : Fr n D a E) (t : Nat) {v : Value} (h : look E t = some v) (G : Fr n D a E') : Fr n D a ((t, v) :: E') := ⟨F.size, F.dfs, fun s u hs => by
  unfold look at hs
  split at hs
  · next e => injection hs with hs; subst hs; rw [← Nat.eq_of_beq_eq_true e]; exact F.get t _ h
  · exact G.get s u hs⟩
theorem Fr.put (F : Fr n D a E) {d : Nat} {v : Value} (hd : d < n) : Fr n D (a.put (some d) v) ((d, v) :: E) := ⟨by rw [put_size]; exact F.size, by rw [put_dfs]; exact F.dfs, fun s u hs => by
  unfold look at hs
  rw [put_getD]
  split at hs
  · next e => injection hs with hs; subst hs; rw [if_pos ⟨(Nat.eq_of_beq_eq_true e).symm, by rw [F.size]; exact hd⟩]
  · next e => rw [if_neg (fun h => e (by rw [h.1]; exact Nat.beq_refl _))]; exact F.get s u hs⟩
theorem Fr.ev (F : Fr n D a E) {x : Operand} {v : Value} (h : val E x = some v) : a.eval x = v := by
  cases x with
  | tmp t => exact F.get t v h
  | const c => injection h
  | global g => injection h
  | func f => injection h
theorem Fr.evs (F : Fr n D a E) {o : Oper} (hk : knownL E o.op.operands.toList = true) (hs : isSelect o.op = false) : execOp a.eval o = execOp (valE E) o :=
  execOp_congr o (fun cs b h => by rw [h] at hs; cases hs) fun x hx => by
    have := List.all_eq_true.1 hk x (by simpa using hx)
    obtain ⟨v, hv⟩ := Option.isSome_iff_exists.1 this
    rw [F.ev hv, valE, hv]; rfl
def numb : Nat → List Value → List (Nat × Value)
  | _, [] => []
  | k, v :: l => (k, v) :: numb (k + 1) l
theorem look_numb : ∀ (l : List Value) (k t : Nat) (v : Value), look (numb k l) t = some v → k ≤ t ∧ l[t - k]? = some v
  | [], _, _, _, h => by cases h
  | x :: l, k, t, v, h => by
    unfold numb look at h
    split at h
    · next e => injection h with h; subst h; have := Nat.eq_of_beq_eq_true e; subst this; exact ⟨Nat.le_refl _, by simp⟩
    · obtain ⟨h1, h2⟩ := look_numb l (k + 1) t v h
      refine ⟨by omega, ?_⟩
      rw [show t - k = (t - (k + 1)) + 1 by omega, List.getElem?_cons_succ]
      exact h2
theorem fw_enter {f : FuncId} {fn : Func} {c : Code} {args : Array Value} {R : Ending → World → Prop} (hf : P.funcs[f]? = some fn) (hb : fn.body = some c) (n : Nat) (hn : fn.ntmps = n) (ha : args.size ≤ n)
    (h : ∀ a, Fr n [] a (numb 0 args.toList) → c.wp P (bodyPost P fn R) a w) : Calls P f args w R := by
  refine calls_of_wp hf hb (h _ ⟨?_, rfl, fun t v ht => ?_⟩)
  · simp [hn]; omega
  · have h2 := (look_numb _ 0 t v ht).2
    simp only [Nat.sub_zero, Array.getElem?_toList] at h2
    have hlt := (Array.getElem?_eq_some_iff.1 h2).1
    simp [Array.getElem?_append, hlt]
    have h3 := (Array.getElem?_eq_some_iff.1 h2).2
    exact h3

variable {ops : Array Oper} {rest : List Oper} {o : Oper} {Q : Exit → Act → World → Prop}
/-- An operation that leaves memory alone. -/
theorem op_p (F : Fr n D a E) {d : Nat} (v : Value) (hrun : (execOp (valE E) o).run P w = .ok (.value v) w) (hgd : o.guard = none) (hd : o.dst = some d) (hn : Nat.ble n d = false) (hk : knownL E o.op.operands.toList = true) (hs : isSelect o.op = false)
    (h : ∀ a', Fr n D a' ((d, v) :: E) → wpList P ops Q rest a' w) : wpList P ops Q (o :: rest) a w := by
  refine ev_run hgd (v := v) (w1 := w) (by rw [F.evs hk hs]; exact hrun) ?_
  rw [hd]
  exact h _ (F.put (by have := (Nat.not_le_of_not_ble_eq_true (by rw [hn]; simp : ¬ Nat.ble n d = true)); omega))
/-- An operation that is not wanted. -/
def guardIs (ops : Array Oper) (E : List (Nat × Value)) (o : Oper) : Option Bool :=
  match o.guard with
  | none => some true
  | some (g, want) => match (ops[g]?).bind (·.dst) with
    | some t => match look E t with
      | some (.bool b) => some (b == want)
      | some (.tuple _) => some false
      | _ => none
    | none => none
theorem Fr.wanted (F : Fr n D a E) {q : Bool} (h : guardIs ops E o = some q) (hn : ∀ t, (ops[(o.guard.map (·.1)).getD 0]?).bind (·.dst) = some t → t < n) : Region.wanted o (yielded ops a.tmps) = q := by
  unfold guardIs at h
  unfold Region.wanted
  cases hg : o.guard with
  | none => rw [hg] at h; injection h
  | some gw =>
    obtain ⟨g, want⟩ := gw
    rw [hg] at h
    simp only at h ⊢
    cases ht : (ops[g]?).bind (·.dst) with
    | none => rw [ht] at h; cases h
    | some t =>
      rw [ht] at h
      simp only at h
      have hlt : t < n := hn t (by rw [hg]; exact ht)
      cases hl : look E t with
      | none => rw [hl] at h; cases h
      | some v =>
        rw [hl] at h
        cases v <;> first | (cases h; done) | skip
        case bool b =>
          simp only [Option.some.injEq] at h
          subst h
          have h1 := F.get t _ hl
          have h2 : a.tmps[t]? = some (.bool b) := by
            have h3 : t < a.tmps.size := by rw [F.size]; exact hlt
            simp [h3] at h1 ⊢
            exact h1
          unfold yielded
          simp [ht, h2]
        case tuple vs =>
          simp only [Option.some.injEq] at h
          subst h
          have h1 := F.get t _ hl
          have h2 : a.tmps[t]? = some (.tuple vs) := by
            have h3 : t < a.tmps.size := by rw [F.size]; exact hlt
            simp [h3] at h1 ⊢
            exact h1
          unfold yielded
          simp [ht, h2]
end
end Go.Proofs.Ytkjcedlgljeoiaa
