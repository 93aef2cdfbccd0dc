/- A region that draws its order: some operations only read or make memory, and may come up in whatever order; the others stand behind all of these, in a fixed order. One walk serves every order. -/
import Derived.Test.YtkjcedlgljeoiaaCore
import Derived.StillTail
namespace Go.Proofs.Ytkjcedlgljeoiaa
open Go.RowKit

/-- The memory grows: all that was there stands as it was. -/
def Gr (w w' : World) : Prop := Below w.heap.size w w'
theorem Gr.refl (w : World) : Gr w w := Below.refl _ _
theorem Gr.trans {a b c : World} (h : Gr a b) (k : Gr b c) : Gr a c := below_trans h k
theorem Gr.bel {w w' : World} (h : Gr w w') : Below w.heap.size w w' := h
theorem Gr.cell {w w' : World} (h : Gr w w') {p : Addr} {u : Value} (hc : w.cell? p = some u) : w'.cell? p = some u := cell_below h hc
theorem Gr.drew (w : World) : Gr w { w with drawn := w.drawn + 1 } := ⟨rfl, rfl, rfl, Nat.le_refl _, fun _ _ => rfl⟩

abbrev Post := Value → World → Prop
def Stab (p : Post) : Prop := ∀ v w w', p v w → Gr w w' → p v w'
def grUpon (P : Program) (w : World) (p : Post) : Result Next → Prop
  | .ok (.value v) w' => Gr w w' ∧ p v w'
  | .ok .skip w' => Gr w w' ∧ p undef w'
  | .ok (.enter f args) w' => Gr w w' ∧ Calls P f args w' (fun e w'' => ∃ v, e = .returned v ∧ Gr w w'' ∧ p v w'')
  | _ => False
def grAt (P : Program) (o : Oper) (a : Act) (w : World) (p : Post) : Prop := grUpon P w p ((execOp a.eval o).run P w)
attribute [go_sem] grAt grUpon Gr.refl
theorem wp_of_grAt {P : Program} {o : Oper} {a : Act} {w : World} {p : Post} {K : Act → World → Prop} {Q : Exit → Act → World → Prop} (h : grAt P o a w p) (hK : ∀ v w', Gr w w' → p v w' → K (a.put o.dst v) w') : o.wp P a w K Q := by
  unfold grAt at h
  unfold Oper.wp
  generalize (execOp a.eval o).run P w = r at *
  cases r with
  | ok n w' =>
    cases n <;> simp only [grUpon] at h <;> simp only [Oper.upon]
    case value u => exact hK _ _ h.1 h.2
    case skip => exact hK _ _ h.1 h.2
    case enter f args =>
      exact h.2.mono fun e w'' ⟨v, he, h1, h2⟩ => by subst he; exact hK _ _ h1 h2
  | halt x w' => simp only [grUpon] at h

def postAt (ps : List Post) (k : Nat) : Post := ps.getD k (fun _ _ => True)
def withDeps (ps : List Post) (w : World) (K : Act → Prop) : List (Nat × Tmp) → Act → Prop
  | [], a => K a
  | (j, d) :: js, a => ∀ v, postAt ps j v w → withDeps ps w K js (a.put (some d) v)
def oblK (P : Program) (ops : Array Oper) (o : Oper) (a : Act) (w : World) (p : Post) : Prop :=
  match o.guard with
  | none => grAt P o a w p
  | some _ => if Region.wanted o (yielded ops a.tmps) then grAt P o a w p else p undef w
def obl1 (P : Program) (ops : Array Oper) (ps : List Post) (a0 : Act) (w0 : World) (ds : List (Nat × Tmp)) (o : Oper) (p : Post) : Prop :=
  ∀ w, Gr w0 w → withDeps ps w (fun a => oblK P ops o a w p) ds a0
/-- What is owed for each of the operations that may come up in whatever order. -/
def oblGo (P : Program) (ops : Array Oper) (ps : List Post) (a0 : Act) (w0 : World) : List Oper → List (Option (List (Nat × Tmp))) → Nat → Prop
  | o :: l, some ds :: s, k => obl1 P ops ps a0 w0 ds o (postAt ps k) ∧ oblGo P ops ps a0 w0 l s (k + 1)
  | _ :: l, none :: s, k => oblGo P ops ps a0 w0 l s (k + 1)
  | _, _, _ => True
def tailOps : List Oper → List (Option (List (Nat × Tmp))) → List Oper
  | o :: l, none :: s => o :: tailOps l s
  | _ :: l, some _ :: s => tailOps l s
  | _, _ => []
def headDs : List Oper → List (Option (List (Nat × Tmp))) → Nat → List (Nat × Tmp)
  | o :: l, some _ :: s, k => (match o.dst with | some d => (k, d) :: headDs l s (k + 1) | none => headDs l s (k + 1))
  | _ :: l, none :: s, k => headDs l s (k + 1)
  | _, _, _ => []

/-- The numbers of the operations that stand behind. -/
def tailIx (sp : List (Option (List (Nat × Tmp)))) (n : Nat) : List Nat := (List.range n).filter fun k => ((sp[k]?).join).isNone
def headIx (sp : List (Option (List (Nat × Tmp)))) (n : Nat) : List Nat := (List.range n).filter fun k => ((sp[k]?).join).isSome
def seqI (md : Region.Mode) (ops : Array Oper) : List Nat → Array Bool → Bool
  | [], listed => (Region.ready md ops listed).isEmpty
  | k :: t, listed => decide (Region.ready md ops listed = [k]) && seqI md ops t (listed.setIfInBounds k true)
/-- Each of the operations of a list is waited for by one of those that are marked. -/
def underB (md : Region.Mode) (ops : Array Oper) : List Nat → List Nat → Bool
  | [], _ => true
  | i :: l, S => S.any (fun j => Region.waitsFor md ops j i) && underB md ops l (i :: S)
def dstOf (ops : Array Oper) (k : Nat) : Option Tmp := (ops[k]?).bind (·.dst)
/-- One of those that may come up in whatever order: it waits for what it looks at. -/
def headB (md : Region.Mode) (ops : Array Oper) (sp : List (Option (List (Nat × Tmp)))) (N k : Nat) : Bool :=
  match ops[k]?, (sp[k]?).join with
  | some o, some ds =>
    (match o.dst with | some d => decide (d < N) | none => true) &&
    ds.all (fun jd => Region.waitsFor md ops k jd.1 && (dstOf ops jd.1 == some jd.2) && ((sp[jd.1]?).join).isSome) &&
    (o.looksAt ops).all (fun t => (headIx sp ops.size).all fun j => dstOf ops j != some t || ds.contains (j, t)) &&
    o.after.all (fun e => !Region.binds md e || (decide (e.on < k) && ((sp[e.on]?).join).isSome)) &&
    (headIx sp ops.size).all (fun j => j == k || (match o.dst with | some d => dstOf ops j != some d | none => true))
  | _, _ => false
def chainI (md : Region.Mode) (ops : Array Oper) : List Nat → Bool
  | a :: b :: t => Region.waitsFor md ops b a && chainI md ops (b :: t)
  | _ => true
def grB (md : Region.Mode) (ops : Array Oper) (sp : List (Option (List (Nat × Tmp)))) (N : Nat) : Bool :=
  Region.noSelect ops && (headIx sp ops.size).all (headB md ops sp N) && chainI md ops (tailIx sp ops.size) &&
  (match tailIx sp ops.size with | [] => true | t :: _ => underB md ops (headIx sp ops.size).reverse [t]) &&
  seqI md ops (tailIx sp ops.size) ((Array.range ops.size).map fun k => ((sp[k]?).join).isSome)

section
variable {P : Program} {ops : Array Oper} {md : Region.Mode} {sp : List (Option (List (Nat × Tmp)))} {ps : List Post}

theorem put_getD (a : Act) (d t : Tmp) (v : Value) : (a.put (some d) v).tmps.getD t undef = if t = d ∧ d < a.tmps.size then v else a.tmps.getD t undef := by
  simp only [Act.put, Array.getD_eq_getD_getElem?, Array.getElem?_setIfInBounds]
  by_cases h : d = t
  · subst h
    by_cases h2 : d < a.tmps.size
    · simp [h2]
    · simp [h2]
  · have : ¬ t = d := fun e => h e.symm
    simp [h, this]
theorem put_size (a : Act) (d : Option Tmp) (v : Value) : (a.put d v).tmps.size = a.tmps.size := by cases d <;> simp [Act.put]
theorem put_dfs (a : Act) (d : Option Tmp) (v : Value) : (a.put d v).defers = a.defers := by cases d <;> rfl

theorem withDeps_at {w : World} {K : Act → Prop} : ∀ (ds : List (Nat × Tmp)) (a0 a : Act), a0.tmps.size = a.tmps.size →
    (∀ jd ∈ ds, postAt ps jd.1 (a.tmps.getD jd.2 undef) w) → withDeps ps w K ds a0 →
    ∃ a', K a' ∧ a'.tmps.size = a.tmps.size ∧ a'.defers = a0.defers ∧ ∀ t, a'.tmps.getD t undef = if t ∈ ds.map (·.2) then a.tmps.getD t undef else a0.tmps.getD t undef
  | [], a0, a, hs, _, h => ⟨a0, h, hs, rfl, fun t => by simp⟩
  | (j, d) :: js, a0, a, hs, hp, h => by
    have h1 := h (a.tmps.getD d undef) (hp (j, d) (by simp))
    obtain ⟨a', hK, h2, h3, h4⟩ := withDeps_at js (a0.put (some d) (a.tmps.getD d undef)) a (by rw [put_size]; exact hs) (fun jd hjd => hp jd (by simp [hjd])) h1
    refine ⟨a', hK, h2, by rw [h3, put_dfs], fun t => ?_⟩
    rw [h4 t, put_getD]
    by_cases ht : t ∈ js.map (·.2)
    · rw [if_pos ht, if_pos (by simp only [List.map_cons, List.mem_cons]; exact .inr ht)]
    · rw [if_neg ht]
      by_cases hd : t = d
      · subst hd
        rw [if_pos (by simp : t ∈ ((j, t) :: js).map (·.2))]
        by_cases hl : t < a0.tmps.size
        · rw [if_pos ⟨rfl, hl⟩]
        · rw [if_neg (by simp [hl])]
          have : ¬ t < a.tmps.size := by omega
          simp [hl, this]
      · rw [if_neg (by simp [hd]), if_neg (by simp only [List.map_cons, List.mem_cons]; exact fun hh => hh.elim hd ht)]

theorem eval_same {a b : Act} {x : Operand} (h : ∀ t, x = .tmp t → a.tmps.getD t undef = b.tmps.getD t undef) : a.eval x = b.eval x := by
  cases x with
  | tmp t => exact h t rfl
  | _ => rfl
theorem exec_same {o : Oper} (hs : ∀ cs b, o.op ≠ .select cs b) {a b : Act} (h : ∀ t ∈ o.looksAt ops, a.tmps.getD t undef = b.tmps.getD t undef) : execOp a.eval o = execOp b.eval o :=
  execOp_congr o hs fun x hx => eval_same fun t ht => h t (by
    subst ht
    exact List.mem_append_left _ (List.mem_filterMap.2 ⟨.tmp t, by simpa using hx, rfl⟩))
theorem wanted_same {o : Oper} {a b : Act} (hz : a.tmps.size = b.tmps.size) (h : ∀ t ∈ o.looksAt ops, a.tmps.getD t undef = b.tmps.getD t undef) : Region.wanted o (yielded ops a.tmps) = Region.wanted o (yielded ops b.tmps) := by
  unfold Region.wanted
  cases hg : o.guard with
  | none => rfl
  | some gw =>
    obtain ⟨g, want⟩ := gw
    have hy : yielded ops a.tmps g = yielded ops b.tmps g := by
      unfold yielded
      cases ht : (ops[g]?).bind (·.dst) with
      | none => rfl
      | some t =>
        have h1 := h t (by simp [Oper.looksAt, hg, ht])
        have h2 : a.tmps[t]? = b.tmps[t]? := by
          by_cases hl : t < a.tmps.size
          · have hl2 : t < b.tmps.size := by rw [← hz]; exact hl
            simp [hl, hl2] at h1 ⊢
            exact h1
          · have hl2 : ¬ t < b.tmps.size := by rw [← hz]; exact hl
            simp [hl, hl2]
        simp only [Option.bind_some, h2]
    simp only [hy]

/-- What stands between two operations. -/
structure GrInv (ops : Array Oper) (md : Region.Mode) (sp : List (Option (List (Nat × Tmp)))) (ps : List Post) (a0 : Act) (w0 : World) (listed : Array Bool) (a : Act) (w : World) : Prop where
  size : listed.size = ops.size
  closed : ∀ j oj, ops[j]? = some oj → listed.getD j false = true → ∀ e ∈ oj.after, Region.binds md e = true → listed.getD e.on false = true
  tail : ∀ t, ((sp[t]?).join).isSome = false → t < ops.size → listed.getD t true = false
  gr : Gr w0 w
  tmps : a.tmps.size = a0.tmps.size
  dfs : a.defers = a0.defers
  same : ∀ t, (∀ j, j < ops.size → ((sp[j]?).join).isSome = true → listed.getD j false = true → dstOf ops j ≠ some t) → a.tmps.getD t undef = a0.tmps.getD t undef
  post : ∀ j d, j < ops.size → ((sp[j]?).join).isSome = true → listed.getD j false = true → dstOf ops j = some d → postAt ps j (a.tmps.getD d undef) w

theorem mem_headIx {k n : Nat} : k ∈ headIx sp n ↔ k < n ∧ ((sp[k]?).join).isSome = true := by
  unfold headIx; rw [List.mem_filter, List.mem_range]
theorem mem_tailIx {k n : Nat} : k ∈ tailIx sp n ↔ k < n ∧ ((sp[k]?).join).isSome = false := by
  unfold tailIx; rw [List.mem_filter, List.mem_range]; simp

theorem under_listed {t : Nat} {listed : Array Bool} (hcl : ∀ j oj, ops[j]? = some oj → listed.getD j false = true → ∀ e ∈ oj.after, Region.binds md e = true → listed.getD e.on false = true)
    (ht : ∀ ot, ops[t]? = some ot → ∀ e ∈ ot.after, Region.binds md e = true → listed.getD e.on false = true) :
    ∀ (l S : List Nat), (∀ j ∈ S, j = t ∨ listed.getD j false = true) → underB md ops l S = true → ∀ i ∈ l, listed.getD i false = true
  | [], _, _, _, i, hi => by cases hi
  | k :: l, S, hS, hB, i, hi => by
    simp only [underB, Bool.and_eq_true] at hB
    have hk : listed.getD k false = true := by
      obtain ⟨j, hj, hw⟩ := List.any_eq_true.1 hB.1
      obtain ⟨oj, hoj, e, he, hb, hon⟩ := Region.waitsFor_spec hw
      rcases hS j hj with rfl | hl
      · rw [← hon]; exact ht oj hoj e he hb
      · rw [← hon]; exact hcl j oj hoj hl e he hb
    rcases List.mem_cons.1 hi with rfl | hi
    · exact hk
    · exact under_listed hcl ht l (k :: S) (fun j hj => by
        rcases List.mem_cons.1 hj with rfl | hj
        · exact .inr hk
        · exact hS j hj) hB.2 i hi

theorem wpAny_tail {Q : Exit → Act → World → Prop} : ∀ (tl : List Nat) (lo : List Oper) (listed : Array Bool) (a : Act) (w : World), tl.map (ops[·]?) = lo.map some →
    seqI md ops tl listed = true → wpList P ops Q lo a w → wpAny P md ops Q tl.length listed a w
  | [], [], _, _, _, _, hB, h => ⟨by simpa [seqI] using hB, h⟩
  | [], o :: lo, _, _, _, hm, _, _ => by simp at hm
  | k :: tl, [], _, _, _, hm, _, _ => by simp at hm
  | k :: tl, o :: lo, listed, a, w, hm, hB, h => by
    simp only [List.map_cons, List.cons.injEq] at hm
    simp only [seqI, Bool.and_eq_true, decide_eq_true_eq] at hB
    refine ⟨fun h1 => (by rw [hB.1] at h1; cases h1), fun i hi => ?_⟩
    rw [hB.1] at hi
    have hik : i = k := by simpa using hi
    subst hik
    have hw : wpOp P ops Q i (wpList P ops Q lo) a w := by unfold wpOp; simp only [hm.1]; exact h
    exact wpOp_mono (fun a' w' h' => wpAny_tail tl lo _ a' w' hm.2 hB.2 h') hw

theorem tailOps_eq : ∀ (l : List Oper) (s : List (Option (List (Nat × Tmp)))) (k : Nat), l.length = s.length → (∀ j, l[j]? = ops[k + j]?) →
    ((List.range' k l.length).filter fun i => ((s[i - k]?).join).isNone).map (ops[·]?) = (tailOps l s).map some
  | [], [], k, _, _ => by simp [tailOps]
  | o :: l, x :: s, k, hl, hg => by
    have ih := tailOps_eq l s (k + 1) (by simpa using hl) (fun j => by have := hg (j + 1); simpa [Nat.add_assoc, Nat.add_comm 1 j] using this)
    have h0 : ops[k]? = some o := by simpa using (hg 0).symm
    have hf : ((List.range' (k + 1) l.length).filter fun i => (((x :: s)[i - k]?).join).isNone) = (List.range' (k + 1) l.length).filter fun i => ((s[i - (k + 1)]?).join).isNone := by
      refine List.filter_congr fun i hi => ?_
      have hle : k + 1 ≤ i := by have := List.mem_range'.1 hi; omega
      have : i - k = (i - (k + 1)) + 1 := by omega
      rw [this, List.getElem?_cons_succ]
    cases x with
    | none =>
      simp only [List.length_cons, List.range'_succ, List.filter_cons, Nat.sub_self, List.getElem?_cons_zero, Option.join_some, Option.isNone_none, if_true, tailOps, List.map_cons, h0]
      rw [hf, ih]
    | some ds =>
      simp only [List.length_cons, List.range'_succ, List.filter_cons, Nat.sub_self, List.getElem?_cons_zero, Option.join_some, Option.isNone_some, Bool.false_eq_true, if_false, tailOps]
      rw [hf, ih]

theorem oblGo_at {a0 : Act} {w0 : World} : ∀ (l : List Oper) (s : List (Option (List (Nat × Tmp)))) (k : Nat), oblGo P ops ps a0 w0 l s k →
    ∀ j o ds, l[j]? = some o → (s[j]?).join = some ds → obl1 P ops ps a0 w0 ds o (postAt ps (k + j))
  | [], _, _, _, j, o, ds, h, _ => by simp at h
  | o :: l, [], _, _, j, _, ds, _, h => by simp at h
  | o :: l, none :: s, k, H, j, o', ds, h1, h2 => by
    cases j with
    | zero => simp at h2
    | succ j =>
      have := oblGo_at l s (k + 1) H j o' ds (by simpa using h1) (by simpa using h2)
      rwa [Nat.add_assoc, Nat.add_comm 1 j] at this
  | o :: l, some d :: s, k, H, j, o', ds, h1, h2 => by
    cases j with
    | zero =>
      simp at h1 h2
      subst h1; subst h2
      exact H.1
    | succ j =>
      have := oblGo_at l s (k + 1) H.2 j o' ds (by simpa using h1) (by simpa using h2)
      rwa [Nat.add_assoc, Nat.add_comm 1 j] at this

theorem mem_headDs : ∀ (l : List Oper) (s : List (Option (List (Nat × Tmp)))) (k : Nat) (jd : Nat × Tmp), jd ∈ headDs l s k ↔ ∃ j o, l[j]? = some o ∧ ((s[j]?).join).isSome = true ∧ o.dst = some jd.2 ∧ jd.1 = k + j
  | [], _, _, jd => by simp [headDs]
  | o :: l, [], _, jd => by simp [headDs]
  | o :: l, none :: s, k, jd => by
    simp only [headDs]
    rw [mem_headDs l s (k + 1) jd]
    constructor
    · rintro ⟨j, o', h1, h2, h3, h4⟩; exact ⟨j + 1, o', by simpa using h1, by simpa using h2, h3, by omega⟩
    · rintro ⟨j, o', h1, h2, h3, h4⟩
      cases j with
      | zero => simp at h2
      | succ j => exact ⟨j, o', by simpa using h1, by simpa using h2, h3, by omega⟩
  | o :: l, some ds :: s, k, jd => by
    simp only [headDs]
    cases hd : o.dst with
    | none =>
      simp only
      rw [mem_headDs l s (k + 1) jd]
      constructor
      · rintro ⟨j, o', h1, h2, h3, h4⟩; exact ⟨j + 1, o', by simpa using h1, by simpa using h2, h3, by omega⟩
      · rintro ⟨j, o', h1, h2, h3, h4⟩
        cases j with
        | zero => simp at h1; subst h1; rw [hd] at h3; cases h3
        | succ j => exact ⟨j, o', by simpa using h1, by simpa using h2, h3, by omega⟩
    | some d =>
      simp only [List.mem_cons]
      rw [mem_headDs l s (k + 1) jd]
      constructor
      · rintro (rfl | ⟨j, o', h1, h2, h3, h4⟩)
        · exact ⟨0, o, by simp, by simp, hd, by simp⟩
        · exact ⟨j + 1, o', by simpa using h1, by simpa using h2, h3, by omega⟩
      · rintro ⟨j, o', h1, h2, h3, h4⟩
        cases j with
        | zero =>
          simp at h1; subst h1
          rw [hd] at h3
          injection h3 with h3
          refine .inl ?_
          obtain ⟨j1, d1⟩ := jd
          simp at h4 h3
          rw [h4, h3]
        | succ j => exact .inr ⟨j, o', by simpa using h1, by simpa using h2, h3, by omega⟩

theorem act_ext {a b : Act} (hz : a.tmps.size = b.tmps.size) (hd : a.defers = b.defers) (h : ∀ t, a.tmps.getD t undef = b.tmps.getD t undef) : a = b := by
  obtain ⟨at_, ad⟩ := a
  obtain ⟨bt, bd⟩ := b
  simp only at hz hd h
  subst hd
  congr
  refine Array.ext hz fun i h1 h2 => ?_
  have := h i
  simpa [h1, h2] using this

theorem wpAny_grow {Q : Exit → Act → World → Prop} {l : List Oper} {a0 : Act} {w0 : World} {N : Nat} (hN : a0.tmps.size = N) (hl : l.toArray = ops) (hsp : l.length = sp.length)
    (hB : grB md ops sp N = true) (hst : ∀ j, Stab (postAt ps j)) (hob : oblGo P ops ps a0 w0 l sp 0)
    (hend : ∀ w', Gr w0 w' → withDeps ps w' (fun a => wpList P ops Q (tailOps l sp) a w') (headDs l sp 0) a0) :
    ∀ (m : Nat) (listed : Array Bool) (a : Act) (w : World), GrInv ops md sp ps a0 w0 listed a w →
      ((headIx sp ops.size).filter fun i => !listed.getD i true).length = m → wpAny P md ops Q (m + (tailIx sp ops.size).length) listed a w := by
  subst hl
  have hsize : l.toArray.size = l.length := by simp
  simp only [grB, Bool.and_eq_true] at hB
  obtain ⟨⟨⟨⟨hsel, hhd⟩, hch⟩, hun⟩, hsq⟩ := hB
  have hHB : ∀ k o ds, l[k]? = some o → (sp[k]?).join = some ds → headB md l.toArray sp N k = true := fun k o ds hk hs =>
    List.all_eq_true.1 hhd k (mem_headIx.2 ⟨by rw [hsize]; exact (List.getElem?_eq_some_iff.1 hk).1, by rw [hs]; rfl⟩)
  -- what the test of one operation says
  have hD : ∀ k o ds, l[k]? = some o → (sp[k]?).join = some ds →
      (∀ d, o.dst = some d → d < N) ∧ (∀ jd ∈ ds, Region.waitsFor md l.toArray k jd.1 = true ∧ dstOf l.toArray jd.1 = some jd.2 ∧ ((sp[jd.1]?).join).isSome = true) ∧
      (∀ t ∈ o.looksAt l.toArray, ∀ j, j < l.length → ((sp[j]?).join).isSome = true → dstOf l.toArray j = some t → (j, t) ∈ ds) ∧
      (∀ e ∈ o.after, Region.binds md e = true → e.on < k ∧ ((sp[e.on]?).join).isSome = true) ∧
      (∀ j, j < l.length → ((sp[j]?).join).isSome = true → j ≠ k → ∀ d, o.dst = some d → dstOf l.toArray j ≠ some d) := by
    intro k o ds hk hs
    have h := hHB k o ds hk hs
    have hk' : l.toArray[k]? = some o := by simpa using hk
    simp only [headB, hk', hs, Bool.and_eq_true] at h
    obtain ⟨⟨⟨⟨h1, h2⟩, h3⟩, h4⟩, h5⟩ := h
    refine ⟨fun d hd => ?_, fun jd hjd => ?_, fun t ht j hj hjs hjd => ?_, fun e he hb => ?_, fun j hj hjs hjk d hd => ?_⟩
    · rw [hd] at h1; simpa using h1
    · have := List.all_eq_true.1 h2 jd hjd
      simp only [Bool.and_eq_true, beq_iff_eq] at this
      exact ⟨this.1.1, this.1.2, this.2⟩
    · have := List.all_eq_true.1 (List.all_eq_true.1 h3 t ht) j (mem_headIx.2 ⟨by rw [hsize]; exact hj, hjs⟩)
      simp only [hjd, bne_self_eq_false, Bool.false_or] at this
      simpa using this
    · obtain ⟨i, hi, hie⟩ := Array.getElem_of_mem he
      have := Array.all_eq_true.1 h4 i hi
      rw [hie] at this
      simp only [hb, Bool.not_true, Bool.false_or, Bool.and_eq_true, decide_eq_true_eq] at this
      exact this
    · have := List.all_eq_true.1 h5 j (mem_headIx.2 ⟨by rw [hsize]; exact hj, hjs⟩)
      rw [hd] at this
      simp only [Bool.or_eq_true, beq_iff_eq, bne_iff_ne, ne_eq] at this
      exact this.resolve_left hjk
  have hselS := Region.noSelect_spec hsel
  intro m
  induction m with
  | zero =>
    intro listed a w inv hm
    have hall : ∀ i, i < l.length → ((sp[i]?).join).isSome = true → listed.getD i false = true := fun i hi hs => by
      have h0 := List.filter_eq_nil_iff.1 (List.eq_nil_of_length_eq_zero hm) i (mem_headIx.2 ⟨by rw [hsize]; exact hi, hs⟩)
      have hlt : i < listed.size := by rw [inv.size, hsize]; exact hi
      simp [hlt] at h0 ⊢
      exact h0
    rw [Nat.zero_add]
    have hmask : listed = (Array.range l.toArray.size).map fun k => ((sp[k]?).join).isSome := by
      refine Array.ext (by simp [inv.size]) fun i h1 h2 => ?_
      have hi : i < l.length := by rw [inv.size, hsize] at h1; exact h1
      cases hs : ((sp[i]?).join).isSome with
      | true =>
        have := hall i hi hs
        simp [h1] at this
        simp [hs, this]
      | false =>
        have := inv.tail i hs (by rw [hsize]; exact hi)
        simp [h1] at this
        simp [hs, this]
    have h1 := hend w inv.gr
    obtain ⟨a', hK, hz, hdf, ht⟩ := withDeps_at (headDs l sp 0) a0 a inv.tmps.symm (fun jd hjd => by
      obtain ⟨j, o, h1, h2, h3, h4⟩ := (mem_headDs l sp 0 jd).1 hjd
      have hj : j < l.length := (List.getElem?_eq_some_iff.1 h1).1
      rw [Nat.zero_add] at h4
      rw [h4]
      exact inv.post j jd.2 (by rw [hsize]; exact hj) h2 (hall j hj h2) (by simp [dstOf, h1, h3])) h1
    have : a' = a := act_ext hz (by rw [hdf, inv.dfs]) fun t => by
      rw [ht t]
      by_cases hm2 : t ∈ (headDs l sp 0).map (·.2)
      · rw [if_pos hm2]
      · rw [if_neg hm2]
        refine (inv.same t fun j hj hs _ hd => hm2 ?_).symm
        rw [hsize] at hj
        have hlj : l[j]? = some l[j] := List.getElem?_eq_getElem hj
        exact List.mem_map.2 ⟨(j, t), (mem_headDs l sp 0 (j, t)).2 ⟨j, l[j], hlj, hs, by simpa [dstOf, hlj] using hd, by simp⟩, rfl⟩
    subst this
    refine wpAny_tail (tailIx sp l.toArray.size) (tailOps l sp) listed a' w ?_ (by rw [hmask]; exact hsq) hK
    have := tailOps_eq (ops := l.toArray) l sp 0 hsp (fun j => by simp)
    rw [← this]
    simp [tailIx, List.range_eq_range']
  | succ m ih =>
    intro listed a w inv hm
    -- some operation of the head has not come up
    obtain ⟨i0, hi0⟩ : ∃ i, i ∈ (headIx sp l.toArray.size).filter fun i => !listed.getD i true := by
      cases hL : (headIx sp l.toArray.size).filter fun i => !listed.getD i true with
      | nil => rw [hL] at hm; cases hm
      | cons x xs => exact ⟨x, by simp⟩
    have hmem : ∀ i, i ∈ ((headIx sp l.toArray.size).filter fun i => !listed.getD i true) ↔ i < l.length ∧ ((sp[i]?).join).isSome = true ∧ listed.getD i true = false := fun i => by
      rw [List.mem_filter, mem_headIx, hsize]; simp [and_assoc]
    -- the first such one is ready
    have hready : Region.ready md l.toArray listed ≠ [] := by
      have hmin : ∀ d i, i ≤ d → i < l.length ∧ ((sp[i]?).join).isSome = true ∧ listed.getD i true = false → Region.ready md l.toArray listed ≠ [] := by
        intro d
        induction d with
        | zero =>
          intro i hid hi
          have hoi : l[i]? = some l[i] := List.getElem?_eq_getElem hi.1
          obtain ⟨ds, hds⟩ := Option.isSome_iff_exists.1 hi.2.1
          have hd := hD i l[i] ds hoi hds
          have : i ∈ Region.ready md l.toArray listed := mem_ready.2 ⟨hi.2.2, l[i], by simp, fun e he hb => by
            have := (hd.2.2.2.1 e he hb).1; omega⟩
          intro h; rw [h] at this; cases this
        | succ d ihd =>
          intro i hid hi
          have hoi : l[i]? = some l[i] := List.getElem?_eq_getElem hi.1
          obtain ⟨ds, hds⟩ := Option.isSome_iff_exists.1 hi.2.1
          have hd := hD i l[i] ds hoi hds
          by_cases hex : ∃ e ∈ (l[i]).after, Region.binds md e = true ∧ listed.getD e.on false = false
          · obtain ⟨e, he, hb, hun⟩ := hex
            have h4 := hd.2.2.2.1 e he hb
            have hlt : e.on < listed.size := by rw [inv.size, hsize]; have := hi.1; omega
            exact ihd e.on (by omega) ⟨by have := hi.1; omega, h4.2, getD_in hlt hun⟩
          · have : i ∈ Region.ready md l.toArray listed := mem_ready.2 ⟨hi.2.2, l[i], by simp, fun e he hb => by
              cases hc : listed.getD e.on false with
              | true => rfl
              | false => exact absurd ⟨e, he, hb, hc⟩ hex⟩
            intro h; rw [h] at this; cases this
      exact hmin i0 i0 (Nat.le_refl _) ((hmem i0).1 hi0)
    rw [show m + 1 + (tailIx sp l.toArray.size).length = (m + (tailIx sp l.toArray.size).length) + 1 by omega]
    refine ⟨fun h => absurd h hready, fun k hk => ?_⟩
    obtain ⟨hkun, ok, hok, hkall⟩ := mem_ready.1 hk
    have hokl : l[k]? = some ok := by simpa using hok
    have hkl : k < l.length := (List.getElem?_eq_some_iff.1 hokl).1
    -- it is one of the head
    have hkh : ((sp[k]?).join).isSome = true := by
      cases hc : ((sp[k]?).join).isSome with
      | true => rfl
      | false =>
        exfalso
        have hkt : k ∈ tailIx sp l.toArray.size := mem_tailIx.2 ⟨by rw [hsize]; exact hkl, hc⟩
        have tl_un : ∀ t ∈ tailIx sp l.toArray.size, listed.getD t true = false := fun t ht => by
          have := mem_tailIx.1 ht; exact inv.tail t this.2 this.1
        have hfirst : ∀ (T : List Nat), (∀ t ∈ T, listed.getD t true = false) → chainI md l.toArray T = true → k ∈ T → ∃ t T', T = t :: T' ∧ k = t := by
          intro T
          induction T with
          | nil => intro _ _ h; cases h
          | cons t T ihT =>
            intro hu hc hkT
            rcases List.mem_cons.1 hkT with rfl | hkT
            · exact ⟨k, T, rfl, rfl⟩
            · exfalso
              cases T with
              | nil => cases hkT
              | cons t2 T2 =>
                simp only [chainI, Bool.and_eq_true] at hc
                obtain ⟨t3, T3, he, hk3⟩ := ihT (fun t ht => hu t (by simp [ht])) hc.2 hkT
                injection he with he1 he2
                subst he1
                subst hk3
                obtain ⟨o', ho', e, he, hb, hon⟩ := Region.waitsFor_spec hc.1
                have : o' = ok := Option.some.inj (ho'.symm.trans hok)
                subst this
                have h2 := hkall e he hb
                rw [hon, getD_both (hu t (by simp))] at h2
                cases h2
        obtain ⟨t, T', hT, rfl⟩ := hfirst _ tl_un hch hkt
        rw [hT] at hun
        simp only at hun
        have hli := (hmem i0).1 hi0
        have := under_listed (md := md) (ops := l.toArray) (t := k) (listed := listed) inv.closed (fun ot hot e he hb => by
          have : ot = ok := Option.some.inj (hot.symm.trans hok)
          subst this
          exact hkall e he hb) _ [k] (fun j hj => .inl (by simpa using hj)) hun i0 (by
            rw [List.mem_reverse]; exact mem_headIx.2 ⟨by rw [hsize]; exact hli.1, hli.2.1⟩)
        rw [getD_both hli.2.2] at this
        cases this
    obtain ⟨ds, hds⟩ := Option.isSome_iff_exists.1 hkh
    obtain ⟨hd1, hd2, hd3, hd4, hd5⟩ := hD k ok ds hokl hds
    have hdl : ∀ jd ∈ ds, listed.getD jd.1 false = true := fun jd hjd => by
      obtain ⟨o', ho', e, he, hb, hon⟩ := Region.waitsFor_spec (hd2 jd hjd).1
      have : o' = ok := Option.some.inj (ho'.symm.trans hok)
      subst this
      rw [← hon]; exact hkall e he hb
    have hjl : ∀ jd ∈ ds, jd.1 < l.length := fun jd hjd => by
      have := hdl jd hjd
      rcases Nat.lt_or_ge jd.1 listed.size with h' | h'
      · rw [inv.size, hsize] at h'; exact h'
      · simp [Array.getElem?_eq_none h'] at this
    have hob1 := oblGo_at l sp 0 hob k ok ds hokl hds w inv.gr
    obtain ⟨a', hK, hz, hdf, ht⟩ := withDeps_at ds a0 a inv.tmps.symm (fun jd hjd => inv.post jd.1 jd.2 (by rw [hsize]; exact hjl jd hjd) (hd2 jd hjd).2.2 (hdl jd hjd) (hd2 jd hjd).2.1) hob1
    have hlook : ∀ t ∈ ok.looksAt l.toArray, a'.tmps.getD t undef = a.tmps.getD t undef := fun t htl => by
      rw [ht t]
      by_cases hm2 : t ∈ ds.map (·.2)
      · rw [if_pos hm2]
      · rw [if_neg hm2]
        refine (inv.same t fun j hj hs _ hd => hm2 ?_).symm
        rw [hsize] at hj
        exact List.mem_map.2 ⟨(j, t), hd3 t htl j hj hs hd, rfl⟩
    have hex := exec_same (ops := l.toArray) (o := ok) (fun cs b => hselS k ok cs b hok) hlook
    have hwa := wanted_same (ops := l.toArray) (o := ok) hz hlook
    -- behind it
    have hnext : ∀ v w', Gr w w' → postAt ps k v w' → wpAny P md l.toArray Q (m + (tailIx sp l.toArray.size).length) (listed.setIfInBounds k true) (a.put ok.dst v) w' := by
      intro v w' hg hp
      have hkin : k < listed.size := by rw [inv.size, hsize]; exact hkl
      have hset : ∀ j, (listed.setIfInBounds k true).getD j false = true → j = k ∨ listed.getD j false = true := fun j hj => by
        by_cases e : k = j
        · exact .inl e.symm
        · rw [getD_set_ne false e] at hj; exact .inr hj
      refine ih _ _ _ ⟨by simp [inv.size], fun j oj hj hlj e he hb => ?_, fun t ht1 ht2 => ?_, inv.gr.trans hg, by rw [put_size]; exact inv.tmps, by rw [put_dfs]; exact inv.dfs, fun t htn => ?_, fun j d hj hs hlj hd => ?_⟩ ?_
      · rcases hset j hlj with rfl | hlj
        · have : oj = ok := Option.some.inj (hj.symm.trans hok)
          subst this
          exact getD_set_true (hkall e he hb)
        · exact getD_set_true (inv.closed j oj hj hlj e he hb)
      · have htk : k ≠ t := fun e => by subst e; rw [hkh] at ht1; cases ht1
        rw [getD_set_ne true htk]; exact inv.tail t ht1 ht2
      · have h1 : a.tmps.getD t undef = a0.tmps.getD t undef := inv.same t fun j hj hs hlj => htn j hj hs (getD_set_true hlj)
        have h2 := htn k (by rw [hsize]; exact hkl) hkh (by simp [hkin])
        cases hdst : ok.dst with
        | none => exact h1
        | some d =>
          rw [put_getD, if_neg (by rintro ⟨e, _⟩; subst e; exact h2 (by simp [dstOf, hokl, hdst]))]
          exact h1
      · rw [hsize] at hj
        rcases Decidable.em (j = k) with rfl | hjk
        · have hdst : ok.dst = some d := by simpa [dstOf, hokl] using hd
          rw [hdst, put_getD, if_pos ⟨rfl, by rw [inv.tmps, hN]; exact hd1 d hdst⟩]
          exact hp
        · have hlj' : listed.getD j false = true := (hset j hlj).resolve_left hjk
          have h1 := hst j _ _ _ (inv.post j d (by rw [hsize]; exact hj) hs hlj' hd) hg
          cases hdst : ok.dst with
          | none => exact h1
          | some dk =>
            rw [put_getD, if_neg (by rintro ⟨e, _⟩; subst e; exact hd5 j hj hs hjk d hdst hd)]
            exact h1
      · -- one fewer
        have hkL : k ∈ (headIx sp l.toArray.size).filter fun i => !listed.getD i true := (hmem k).2 ⟨hkl, hkh, hkun⟩
        have hnd : ((headIx sp l.toArray.size).filter fun i => !listed.getD i true).Nodup := (List.nodup_range.filter _).filter _
        have he : ((headIx sp l.toArray.size).filter fun i => !(listed.setIfInBounds k true).getD i true) = ((headIx sp l.toArray.size).filter fun i => !listed.getD i true).filter fun i => i != k := by
          rw [List.filter_filter]
          refine List.filter_congr fun i hi => ?_
          by_cases e : k = i
          · subst e; simp [hkin]
          · rw [getD_set_ne true e]
            have : (i != k) = true := by simp; exact fun h => e h.symm
            rw [this, Bool.true_and]
        rw [he, ← List.Nodup.erase_eq_filter hnd, List.length_erase_of_mem hkL, hm]
        rfl
    unfold wpOp
    simp only [hok]
    have hKk : oblK P l.toArray ok a' w (postAt ps k) := by simpa using hK
    unfold oblK at hKk
    cases hg : ok.guard with
    | none =>
      rw [hg] at hKk
      rw [if_pos (by simp [Region.wanted, hg])]
      have : grAt P ok a w (postAt ps k) := by unfold grAt at *; rw [← hex]; exact hKk
      exact .inl (wp_of_grAt this hnext)
    | some g =>
      rw [hg] at hKk
      simp only [hwa] at hKk
      by_cases hw : Region.wanted ok (yielded l.toArray a.tmps) = true
      · rw [if_pos hw] at hKk ⊢
        have : grAt P ok a w (postAt ps k) := by unfold grAt at *; rw [← hex]; exact hKk
        exact .inl (wp_of_grAt this hnext)
      · rw [if_neg hw] at hKk ⊢
        exact hnext _ _ (Gr.refl _) hKk

/-- **A region that draws its order: one walk for every order.** sp: per operation: 'none': it stands behind; 'some ds': it may come up in whatever order, and looks at the values of the operations ds. ps: what each leaves. -/
theorem wp_region_grow {id : Nat} {Q : Exit → Act → World → Prop} {a0 : Act} {w0 : World} {l : List Oper} (sp : List (Option (List (Nat × Tmp)))) (ps : List Post) (N : Nat) (hm : P.follows .mixedOrders = true)
    (hN : a0.tmps.size = N) (hsp : l.length = sp.length) (hB : grB .any l.toArray sp N = true) (hst : ∀ p ∈ ps, Stab p) (hob : oblGo P l.toArray ps a0 w0 l sp 0)
    (hend : ∀ w', Gr w0 w' → withDeps ps w' (fun a => wpList P l.toArray Q (tailOps l sp) a w') (headDs l sp 0) a0) : (Code.region id l.toArray true).wp P Q a0 w0 := by
  refine wp_region_any hm ?_
  have hst' : ∀ j, Stab (postAt ps j) := fun j => by
    unfold postAt
    rw [List.getD_eq_getElem?_getD]
    cases h : ps[j]? with
    | none => exact fun _ _ _ _ _ => trivial
    | some p => exact hst p (List.mem_of_getElem? h)
  have H := wpAny_grow (Q := Q) (md := .any) hN rfl hsp hB hst' hob hend _ (Array.replicate l.toArray.size false) a0 { w0 with drawn := w0.drawn + 1 }
    ⟨by simp, fun j oj _ hl => (by rw [getD_replicate_false] at hl; cases hl), fun t _ ht => getD_in (by simpa using ht) (getD_replicate_false _ _), Gr.drew w0, rfl, rfl, fun _ _ => rfl, fun j d _ _ hl => (by rw [getD_replicate_false] at hl; cases hl)⟩ rfl
  have hlen : ((headIx sp l.toArray.size).filter fun i => !(Array.replicate l.toArray.size false).getD i true).length + (tailIx sp l.toArray.size).length = l.toArray.size := by
    have h1 : ((headIx sp l.toArray.size).filter fun i => !(Array.replicate l.toArray.size false).getD i true) = headIx sp l.toArray.size := by
      refine List.filter_eq_self.2 fun i hi => ?_
      have hi' := (mem_headIx.1 hi).1
      simp at hi' ⊢
      simp [hi']
    rw [h1]
    unfold headIx tailIx
    simp only [← Option.not_isSome]
    have := List.length_eq_countP_add_countP (fun k => ((sp[k]?).join).isSome) (l := List.range l.toArray.size)
    rw [List.countP_eq_length_filter, List.countP_eq_length_filter, List.length_range] at this
    have e : (List.filter (fun k => !((sp[k]?).join).isSome) (List.range l.toArray.size)) = List.filter (fun k => decide ¬((sp[k]?).join).isSome = true) (List.range l.toArray.size) := List.filter_congr fun k _ => by cases ((sp[k]?).join).isSome <;> rfl
    rw [e]
    exact this.symm
  rw [hlen] at H
  exact H
end
end Go.Proofs.Ytkjcedlgljeoiaa
