/- A region that draws its order, over parts of memory: each of the operations of the head turns a part of its own, in whatever order. -/
import Derived.Test.YtkjcedlgljeoiaaSa
namespace Go.Proofs.Ytkjcedlgljeoiaa
open Go.RowKit

/-- What an operation leaves: its value, and a part of memory. -/
abbrev SPost := Value → SA → Prop
def sUpon (P : Program) (R : Ctx) (L : List SA) (p : SPost) : Result Next → Prop
  | .ok (.value v) w' => ∃ A, p v A ∧ Sp R w' (A :: L)
  | .ok .skip w' => ∃ A, p undef A ∧ Sp R w' (A :: L)
  | .ok (.enter f args) w' => Calls P f args w' (fun e w'' => ∃ v A, e = .returned v ∧ p v A ∧ Sp R w'' (A :: L))
  | _ => False
def sAt (P : Program) (R : Ctx) (L : List SA) (o : Oper) (a : Act) (w : World) (p : SPost) : Prop := sUpon P R L p ((execOp a.eval o).run P w)
theorem wp_of_sAt {P : Program} {R : Ctx} {L : List SA} {o : Oper} {a : Act} {w : World} {p : SPost} {K : Act → World → Prop} {Q : Exit → Act → World → Prop} (h : sAt P R L o a w p)
    (hK : ∀ v A w', p v A → Sp R w' (A :: L) → K (a.put o.dst v) w') : o.wp P a w K Q := by
  unfold sAt at h
  unfold Oper.wp
  generalize (execOp a.eval o).run P w = r at *
  cases r with
  | ok n w' =>
    cases n <;> simp only [sUpon] at h <;> simp only [Oper.upon]
    case value u => obtain ⟨A, h1, h2⟩ := h; exact hK _ _ _ h1 h2
    case skip => obtain ⟨A, h1, h2⟩ := h; exact hK _ _ _ h1 h2
    case enter f args =>
      exact h.mono fun e w'' ⟨v, A, he, h1, h2⟩ => by subst he; exact hK _ _ _ h1 h2
  | halt x w' => simp only [sUpon] at h

def spAt (ps : List (SA × SPost)) (k : Nat) : SA × SPost := ps.getD k (SA.emp, fun _ A => A = SA.emp)
def depsS (ps : List (SA × SPost)) (L : List SA) (K : Act → Prop) : List (Nat × Tmp) → Act → Prop
  | [], a => K a
  | (j, d) :: js, a => ∀ v A, (spAt ps j).2 v A → A ∈ L → depsS ps L K js (a.put (some d) v)
theorem deps_nil {ps : List (SA × SPost)} {L : List SA} {K : Act → Prop} {a : Act} (h : K a) : depsS ps L K [] a := h
def oblS (P : Program) (R : Ctx) (L : List SA) (ops : Array Oper) (o : Oper) (a : Act) (w : World) (pre : SA) (p : SPost) : Prop :=
  match o.guard with
  | none => sAt P R L o a w p
  | some _ => if Region.wanted o (yielded ops a.tmps) then sAt P R L o a w p else p undef pre
theorem obl_of {P : Program} {R : Ctx} {L : List SA} {ops : Array Oper} {o : Oper} {a : Act} {w : World} {pre : SA} {p : SPost} (hg : o.guard = none) (h : sAt P R L o a w p) : oblS P R L ops o a w pre p := by
  unfold oblS; rw [hg]; exact h
theorem obl_yes {P : Program} {R : Ctx} {L : List SA} {ops : Array Oper} {o : Oper} {a : Act} {w : World} {pre : SA} {p : SPost} (hw : Region.wanted o (yielded ops a.tmps) = true) (h : sAt P R L o a w p) : oblS P R L ops o a w pre p := by
  unfold oblS
  split
  · exact h
  · rw [if_pos hw]; exact h
theorem obl_no {P : Program} {R : Ctx} {L : List SA} {ops : Array Oper} {o : Oper} {a : Act} {w : World} {pre : SA} {p : SPost} {g : Nat × Bool} (hg : o.guard = some g) (hw : Region.wanted o (yielded ops a.tmps) = false) (h : p undef pre) : oblS P R L ops o a w pre p := by
  unfold oblS
  rw [hg]
  simp only [hw]
  exact h
def obl1S (P : Program) (R : Ctx) (L0 : List SA) (ops : Array Oper) (ps : List (SA × SPost)) (a0 : Act) (ds : List (Nat × Tmp)) (o : Oper) (q : SA × SPost) : Prop :=
  ∀ w M, Sp R w (q.1 :: (M ++ L0)) → depsS ps (M ++ L0) (fun a => oblS P R (M ++ L0) ops o a w q.1 q.2) ds a0
/-- What is owed for each of the operations of the head. -/
def oblGoS (P : Program) (R : Ctx) (L0 : List SA) (ops : Array Oper) (ps : List (SA × SPost)) (a0 : Act) : List Oper → List (Option (List (Nat × Tmp))) → Nat → Prop
  | o :: l, some ds :: s, k => obl1S P R L0 ops ps a0 ds o (spAt ps k) ∧ oblGoS P R L0 ops ps a0 l s (k + 1)
  | _ :: l, none :: s, k => oblGoS P R L0 ops ps a0 l s (k + 1)
  | _, _, _ => True
/-- Behind the head. -/
def endS (ps : List (SA × SPost)) (K : Act → List SA → Prop) : List Oper → List (Option (List (Nat × Tmp))) → Nat → Act → List SA → Prop
  | o :: l, some _ :: s, k, a, acc => ∀ v A, (spAt ps k).2 v A → endS ps K l s (k + 1) (a.put o.dst v) (A :: acc)
  | _ :: l, none :: s, k, a, acc => endS ps K l s (k + 1) a acc
  | _, _, _, a, acc => K a acc
def preL (ps : List (SA × SPost)) : List Oper → List (Option (List (Nat × Tmp))) → Nat → List SA
  | _ :: l, some _ :: s, k => (spAt ps k).1 :: preL ps l s (k + 1)
  | _ :: l, none :: s, k => preL ps l s (k + 1)
  | _, _, _ => []

section
variable {P : Program} {ops : Array Oper} {md : Region.Mode} {sp : List (Option (List (Nat × Tmp)))} {ps : List (SA × SPost)} {R : Ctx} {L0 : List SA}
theorem depsS_at {L : List SA} {K : Act → Prop} : ∀ (ds : List (Nat × Tmp)) (a0 a : Act), a0.tmps.size = a.tmps.size →
    (∀ jd ∈ ds, ∃ A, (spAt ps jd.1).2 (a.tmps.getD jd.2 undef) A ∧ A ∈ L) → depsS ps L K ds a0 →
    ∃ a', K a' ∧ a'.tmps.size = a.tmps.size ∧ a'.defers = a0.defers ∧ ∀ t, a'.tmps.getD t undef = if t ∈ ds.map (·.2) then a.tmps.getD t undef else a0.tmps.getD t undef
  | [], a0, a, hs, _, h => ⟨a0, h, hs, rfl, fun t => by simp⟩
  | (j, d) :: js, a0, a, hs, hp, h => by
    obtain ⟨A, hA1, hA2⟩ := hp (j, d) (by simp)
    have h1 := h (a.tmps.getD d undef) A hA1 hA2
    obtain ⟨a', hK, h2, h3, h4⟩ := depsS_at js (a0.put (some d) (a.tmps.getD d undef)) a (by rw [put_size]; exact hs) (fun jd hjd => hp jd (by simp [hjd])) h1
    refine ⟨a', hK, h2, by rw [h3, put_dfs], fun t => ?_⟩
    rw [h4 t, put_getD]
    by_cases ht : t ∈ js.map (·.2)
    · rw [if_pos ht, if_pos (by simp only [List.map_cons, List.mem_cons]; exact .inr ht)]
    · rw [if_neg ht]
      by_cases hd : t = d
      · subst hd
        rw [if_pos (by simp : t ∈ ((j, t) :: js).map (·.2))]
        by_cases hl : t < a0.tmps.size
        · rw [if_pos ⟨rfl, hl⟩]
        · rw [if_neg (by simp [hl])]
          have : ¬ t < a.tmps.size := by omega
          simp [hl, this]
      · rw [if_neg (by simp [hd]), if_neg (by simp only [List.map_cons, List.mem_cons]; exact fun hh => hh.elim hd ht)]

/-- What stands between two operations. pool: the part of each operation of the head, as it is now. -/
structure SInv (ops : Array Oper) (md : Region.Mode) (sp : List (Option (List (Nat × Tmp)))) (ps : List (SA × SPost)) (R : Ctx) (L0 : List SA) (a0 : Act) (pool : Nat → SA) (listed : Array Bool) (a : Act) (w : World) : Prop where
  size : listed.size = ops.size
  closed : ∀ j oj, ops[j]? = some oj → listed.getD j false = true → ∀ e ∈ oj.after, Region.binds md e = true → listed.getD e.on false = true
  tail : ∀ t, ((sp[t]?).join).isSome = false → t < ops.size → listed.getD t true = false
  sep : Sp R w ((headIx sp ops.size).map pool ++ L0)
  tmps : a.tmps.size = a0.tmps.size
  dfs : a.defers = a0.defers
  same : ∀ t, (∀ j, j < ops.size → ((sp[j]?).join).isSome = true → listed.getD j false = true → dstOf ops j ≠ some t) → a.tmps.getD t undef = a0.tmps.getD t undef
  pre : ∀ j, j < ops.size → ((sp[j]?).join).isSome = true → listed.getD j false = false → pool j = (spAt ps j).1
  post : ∀ j, j < ops.size → ((sp[j]?).join).isSome = true → listed.getD j false = true → ∃ v, (spAt ps j).2 v (pool j) ∧ ∀ d, dstOf ops j = some d → a.tmps.getD d undef = v

theorem oblGoS_at {a0 : Act} : ∀ (l : List Oper) (s : List (Option (List (Nat × Tmp)))) (k : Nat), oblGoS P R L0 ops ps a0 l s k →
    ∀ j o ds, l[j]? = some o → (s[j]?).join = some ds → obl1S P R L0 ops ps a0 ds o (spAt ps (k + j))
  | [], _, _, _, j, o, ds, h, _ => by simp at h
  | o :: l, [], _, _, j, _, ds, _, h => by simp at h
  | o :: l, none :: s, k, H, j, o', ds, h1, h2 => by
    cases j with
    | zero => simp at h2
    | succ j =>
      have := oblGoS_at l s (k + 1) H j o' ds (by simpa using h1) (by simpa using h2)
      rwa [Nat.add_assoc, Nat.add_comm 1 j] at this
  | o :: l, some d :: s, k, H, j, o', ds, h1, h2 => by
    cases j with
    | zero =>
      simp at h1 h2
      subst h1; subst h2
      exact H.1
    | succ j =>
      have := oblGoS_at l s (k + 1) H.2 j o' ds (by simpa using h1) (by simpa using h2)
      rwa [Nat.add_assoc, Nat.add_comm 1 j] at this

open Classical in
/-- The end of the head, at the values that there are. -/
theorem endS_at {K : Act → List SA → Prop} {pool : Nat → SA} (a : Act) : ∀ (l : List Oper) (s : List (Option (List (Nat × Tmp)))) (k : Nat) (a0 : Act) (acc : List SA), a0.tmps.size = a.tmps.size →
    (∀ j, ((s[j]?).join).isSome = true → ∀ o, l[j]? = some o → ∃ v, (spAt ps (k + j)).2 v (pool (k + j)) ∧ ∀ d, o.dst = some d → a.tmps.getD d undef = v) → endS ps K l s k a0 acc →
    ∃ a' acc', K a' acc' ∧ acc'.Perm (((List.range' k l.length).filter fun i => ((s[i - k]?).join).isSome).map pool ++ acc) ∧ a'.tmps.size = a.tmps.size ∧ a'.defers = a0.defers ∧
      ∀ t, a'.tmps.getD t undef = if (∃ (j : Nat) (o : Oper), l[j]? = some o ∧ ((s[j]?).join).isSome = true ∧ o.dst = some t) then a.tmps.getD t undef else a0.tmps.getD t undef
  | [], s, k, a0, acc, hs, _, h => ⟨a0, acc, by cases s <;> exact h, by simp, hs, rfl, fun t => by simp⟩
  | o :: l, [], k, a0, acc, hs, _, h => ⟨a0, acc, h, by rw [List.filter_eq_nil_iff.2 (by simp)]; exact List.Perm.refl _, hs, rfl, fun t => by simp⟩
  | o :: l, none :: s, k, a0, acc, hs, hp, h => by
    obtain ⟨a', acc', h1, h2, h3, h4, h5⟩ := endS_at a l s (k + 1) a0 acc hs (fun j hj o' ho => by
      have := hp (j + 1) (by simpa using hj) o' (by simpa using ho)
      rwa [show k + (j + 1) = k + 1 + j by omega] at this) h
    refine ⟨a', acc', h1, ?_, h3, h4, fun t => ?_⟩
    · rw [List.length_cons, List.range'_succ, List.filter_cons]
      simp only [Nat.sub_self, List.getElem?_cons_zero, Option.join_some, Option.isSome_none, Bool.false_eq_true, if_false]
      have hf : ((List.range' (k + 1) l.length).filter fun i => (((none :: s)[i - k]?).join).isSome) = (List.range' (k + 1) l.length).filter fun i => ((s[i - (k + 1)]?).join).isSome := by
        refine List.filter_congr fun i hi => ?_
        have hle : k + 1 ≤ i := by have := List.mem_range'.1 hi; omega
        rw [show i - k = (i - (k + 1)) + 1 by omega, List.getElem?_cons_succ]
      rw [hf]; exact h2
    · rw [h5 t]
      congr 1
      refine propext ⟨fun ⟨j, o', e1, e2, e3⟩ => ⟨j + 1, o', by simpa using e1, by simpa using e2, e3⟩, fun ⟨j, o', e1, e2, e3⟩ => ?_⟩
      cases j with
      | zero => simp at e2
      | succ j => exact ⟨j, o', by simpa using e1, by simpa using e2, e3⟩
  | o :: l, some ds :: s, k, a0, acc, hs, hp, h => by
    obtain ⟨v, hv1, hv2⟩ := hp 0 (by simp) o (by simp)
    rw [Nat.add_zero] at hv1
    obtain ⟨a', acc', h1, h2, h3, h4, h5⟩ := endS_at a l s (k + 1) (a0.put o.dst v) (pool k :: acc) (by rw [put_size]; exact hs) (fun j hj o' ho => by
      have := hp (j + 1) (by simpa using hj) o' (by simpa using ho)
      rwa [show k + (j + 1) = k + 1 + j by omega] at this) (h v (pool k) hv1)
    refine ⟨a', acc', h1, ?_, h3, by rw [h4, put_dfs], fun t => ?_⟩
    · rw [List.length_cons, List.range'_succ, List.filter_cons]
      simp only [Nat.sub_self, List.getElem?_cons_zero, Option.join_some, Option.isSome_some, if_true, List.map_cons, List.cons_append]
      have hf : ((List.range' (k + 1) l.length).filter fun i => (((some ds :: s)[i - k]?).join).isSome) = (List.range' (k + 1) l.length).filter fun i => ((s[i - (k + 1)]?).join).isSome := by
        refine List.filter_congr fun i hi => ?_
        have hle : k + 1 ≤ i := by have := List.mem_range'.1 hi; omega
        rw [show i - k = (i - (k + 1)) + 1 by omega, List.getElem?_cons_succ]
      rw [hf]
      exact h2.trans List.perm_middle
    · rw [h5 t]
      by_cases h6 : ∃ (j : Nat) (o' : Oper), l[j]? = some o' ∧ ((s[j]?).join).isSome = true ∧ o'.dst = some t
      · rw [if_pos h6]
        obtain ⟨j, o', e1, e2, e3⟩ := h6
        rw [if_pos ⟨j + 1, o', by simpa using e1, by simpa using e2, e3⟩]
      · rw [if_neg h6]
        cases hd : o.dst with
        | none =>
          rw [if_neg]
          · rfl
          · rintro ⟨j, o', e1, e2, e3⟩
            cases j with
            | zero => simp at e1; subst e1; rw [hd] at e3; cases e3
            | succ j => exact h6 ⟨j, o', by simpa using e1, by simpa using e2, e3⟩
        | some d =>
          rw [put_getD]
          by_cases ht : t = d
          · subst ht
            have hex : ∃ (j : Nat) (o' : Oper), (o :: l)[j]? = some o' ∧ (((some ds :: s)[j]?).join).isSome = true ∧ o'.dst = some t := ⟨0, o, by simp, by simp, hd⟩
            rw [if_pos hex]
            by_cases hl : t < a0.tmps.size
            · rw [if_pos ⟨rfl, hl⟩, hv2 t hd]
            · have h7 : ¬ (t = t ∧ t < a0.tmps.size) := fun h => hl h.2
              rw [if_neg h7]
              have : ¬ t < a.tmps.size := by omega
              simp [hl, this]
          · rw [if_neg (by simp [ht]), if_neg]
            rintro ⟨j, o', e1, e2, e3⟩
            cases j with
            | zero => simp at e1; subst e1; rw [hd] at e3; injection e3 with e3; exact ht e3.symm
            | succ j => exact h6 ⟨j, o', by simpa using e1, by simpa using e2, e3⟩

theorem map_off {hs : List Nat} {f g : Nat → SA} {k : Nat} (hn : hs.Nodup) (hfg : ∀ j, j ≠ k → f j = g j) : (hs.erase k).map f = (hs.erase k).map g :=
  List.map_congr_left fun j hj => hfg j fun e => by subst e; exact absurd hj (List.Nodup.not_mem_erase hn)
theorem perm_at {hs : List Nat} {f : Nat → SA} {k : Nat} (hk : k ∈ hs) : (hs.map f ++ L0).Perm (f k :: ((hs.erase k).map f ++ L0)) :=
  (((List.perm_cons_erase hk).map f).append_right L0)
theorem preL_eq : ∀ (l : List Oper) (s : List (Option (List (Nat × Tmp)))) (k : Nat), l.length = s.length → preL ps l s k = ((List.range' k l.length).filter fun i => ((s[i - k]?).join).isSome).map fun j => (spAt ps j).1
  | [], [], k, _ => by simp [preL]
  | o :: l, x :: s, k, hl => by
    have ih := preL_eq l s (k + 1) (by simpa using hl)
    have hf : ((List.range' (k + 1) l.length).filter fun i => (((x :: s)[i - k]?).join).isSome) = (List.range' (k + 1) l.length).filter fun i => ((s[i - (k + 1)]?).join).isSome := by
      refine List.filter_congr fun i hi => ?_
      have hle : k + 1 ≤ i := by have := List.mem_range'.1 hi; omega
      rw [show i - k = (i - (k + 1)) + 1 by omega, List.getElem?_cons_succ]
    rw [List.length_cons, List.range'_succ, List.filter_cons, hf]
    cases x with
    | none => simp only [Nat.sub_self, List.getElem?_cons_zero, Option.join_some, Option.isSome_none, Bool.false_eq_true, if_false, preL]; exact ih
    | some ds => simp only [Nat.sub_self, List.getElem?_cons_zero, Option.join_some, Option.isSome_some, if_true, preL, List.map_cons]; rw [ih]

theorem wpAny_sep {Q : Exit → Act → World → Prop} {l : List Oper} {a0 : Act} {N : Nat} (hN : a0.tmps.size = N) (hl : l.toArray = ops) (hsp : l.length = sp.length)
    (hB : grB md ops sp N = true) (hob : oblGoS P R L0 ops ps a0 l sp 0)
    (hend : endS ps (fun a acc => ∀ w', Sp R w' (acc ++ L0) → wpList P ops Q (tailOps l sp) a w') l sp 0 a0 []) :
    ∀ (m : Nat) (pool : Nat → SA) (listed : Array Bool) (a : Act) (w : World), SInv ops md sp ps R L0 a0 pool listed a w →
      ((headIx sp ops.size).filter fun i => !listed.getD i true).length = m → wpAny P md ops Q (m + (tailIx sp ops.size).length) listed a w := by
  subst hl
  have hsize : l.toArray.size = l.length := by simp
  simp only [grB, Bool.and_eq_true] at hB
  obtain ⟨⟨⟨⟨hsel, hhd⟩, hch⟩, hun⟩, hsq⟩ := hB
  have hHB : ∀ k o ds, l[k]? = some o → (sp[k]?).join = some ds → headB md l.toArray sp N k = true := fun k o ds hk hs =>
    List.all_eq_true.1 hhd k (mem_headIx.2 ⟨by rw [hsize]; exact (List.getElem?_eq_some_iff.1 hk).1, by rw [hs]; rfl⟩)
  have hD : ∀ k o ds, l[k]? = some o → (sp[k]?).join = some ds →
      (∀ d, o.dst = some d → d < N) ∧ (∀ jd ∈ ds, Region.waitsFor md l.toArray k jd.1 = true ∧ dstOf l.toArray jd.1 = some jd.2 ∧ ((sp[jd.1]?).join).isSome = true) ∧
      (∀ t ∈ o.looksAt l.toArray, ∀ j, j < l.length → ((sp[j]?).join).isSome = true → dstOf l.toArray j = some t → (j, t) ∈ ds) ∧
      (∀ e ∈ o.after, Region.binds md e = true → e.on < k ∧ ((sp[e.on]?).join).isSome = true) ∧
      (∀ j, j < l.length → ((sp[j]?).join).isSome = true → j ≠ k → ∀ d, o.dst = some d → dstOf l.toArray j ≠ some d) := by
    intro k o ds hk hs
    have h := hHB k o ds hk hs
    have hk' : l.toArray[k]? = some o := by simpa using hk
    simp only [headB, hk', hs, Bool.and_eq_true] at h
    obtain ⟨⟨⟨⟨h1, h2⟩, h3⟩, h4⟩, h5⟩ := h
    refine ⟨fun d hd => ?_, fun jd hjd => ?_, fun t ht j hj hjs hjd => ?_, fun e he hb => ?_, fun j hj hjs hjk d hd => ?_⟩
    · rw [hd] at h1; simpa using h1
    · have := List.all_eq_true.1 h2 jd hjd
      simp only [Bool.and_eq_true, beq_iff_eq] at this
      exact ⟨this.1.1, this.1.2, this.2⟩
    · have := List.all_eq_true.1 (List.all_eq_true.1 h3 t ht) j (mem_headIx.2 ⟨by rw [hsize]; exact hj, hjs⟩)
      simp only [hjd, bne_self_eq_false, Bool.false_or] at this
      simpa using this
    · obtain ⟨i, hi, hie⟩ := Array.getElem_of_mem he
      have := Array.all_eq_true.1 h4 i hi
      rw [hie] at this
      simp only [hb, Bool.not_true, Bool.false_or, Bool.and_eq_true, decide_eq_true_eq] at this
      exact this
    · have := List.all_eq_true.1 h5 j (mem_headIx.2 ⟨by rw [hsize]; exact hj, hjs⟩)
      rw [hd] at this
      simp only [Bool.or_eq_true, beq_iff_eq, bne_iff_ne, ne_eq] at this
      exact this.resolve_left hjk
  have hselS := Region.noSelect_spec hsel
  have hnd0 : (headIx sp l.toArray.size).Nodup := List.nodup_range.filter _
  intro m
  induction m with
  | zero =>
    intro pool listed a w inv hm
    have hall : ∀ i, i < l.length → ((sp[i]?).join).isSome = true → listed.getD i false = true := fun i hi hs => by
      have h0 := List.filter_eq_nil_iff.1 (List.eq_nil_of_length_eq_zero hm) i (mem_headIx.2 ⟨by rw [hsize]; exact hi, hs⟩)
      have hlt : i < listed.size := by rw [inv.size, hsize]; exact hi
      simp [hlt] at h0 ⊢
      exact h0
    rw [Nat.zero_add]
    have hmask : listed = (Array.range l.toArray.size).map fun k => ((sp[k]?).join).isSome := by
      refine Array.ext (by simp [inv.size]) fun i h1 h2 => ?_
      have hi : i < l.length := by rw [inv.size, hsize] at h1; exact h1
      cases hs : ((sp[i]?).join).isSome with
      | true =>
        have := hall i hi hs
        simp [h1] at this
        simp [hs, this]
      | false =>
        have := inv.tail i hs (by rw [hsize]; exact hi)
        simp [h1] at this
        simp [hs, this]
    obtain ⟨a', acc', hK, hperm, hz, hdf, ht⟩ := endS_at (pool := pool) a l sp 0 a0 [] inv.tmps.symm (fun j hj o ho => by
      have hjl : j < l.length := (List.getElem?_eq_some_iff.1 ho).1
      obtain ⟨v, h1, h2⟩ := inv.post j (by rw [hsize]; exact hjl) hj (hall j hjl hj)
      rw [Nat.zero_add]
      exact ⟨v, h1, fun d hd => h2 d (by simp [dstOf, ho, hd])⟩) hend
    have : a' = a := act_ext hz (by rw [hdf, inv.dfs]) fun t => by
      rw [ht t]
      by_cases hm2 : ∃ (j : Nat) (o : Oper), l[j]? = some o ∧ ((sp[j]?).join).isSome = true ∧ o.dst = some t
      · rw [if_pos hm2]
      · rw [if_neg hm2]
        refine (inv.same t fun j hj hs _ hd => hm2 ?_).symm
        rw [hsize] at hj
        have hlj : l[j]? = some l[j] := List.getElem?_eq_getElem hj
        exact ⟨j, l[j], hlj, hs, by simpa [dstOf, hlj] using hd⟩
    subst this
    refine wpAny_tail (tailIx sp l.toArray.size) (tailOps l sp) listed a' w ?_ (by rw [hmask]; exact hsq) (hK w ?_)
    · have := tailOps_eq (ops := l.toArray) l sp 0 hsp (fun j => by simp)
      rw [← this]
      simp [tailIx, List.range_eq_range']
    · refine Sp.perm ((List.Perm.append_right L0 (hperm.trans ?_)).symm) inv.sep
      simp [headIx, List.range_eq_range']
  | succ m ih =>
    intro pool listed a w inv hm
    obtain ⟨i0, hi0⟩ : ∃ i, i ∈ (headIx sp l.toArray.size).filter fun i => !listed.getD i true := by
      cases hL : (headIx sp l.toArray.size).filter fun i => !listed.getD i true with
      | nil => rw [hL] at hm; cases hm
      | cons x xs => exact ⟨x, by simp⟩
    have hmem : ∀ i, i ∈ ((headIx sp l.toArray.size).filter fun i => !listed.getD i true) ↔ i < l.length ∧ ((sp[i]?).join).isSome = true ∧ listed.getD i true = false := fun i => by
      rw [List.mem_filter, mem_headIx, hsize]; simp [and_assoc]
    have hready : Region.ready md l.toArray listed ≠ [] := by
      have hmin : ∀ d i, i ≤ d → i < l.length ∧ ((sp[i]?).join).isSome = true ∧ listed.getD i true = false → Region.ready md l.toArray listed ≠ [] := by
        intro d
        induction d with
        | zero =>
          intro i hid hi
          have hoi : l[i]? = some l[i] := List.getElem?_eq_getElem hi.1
          obtain ⟨ds, hds⟩ := Option.isSome_iff_exists.1 hi.2.1
          have hd := hD i l[i] ds hoi hds
          have : i ∈ Region.ready md l.toArray listed := mem_ready.2 ⟨hi.2.2, l[i], by simp, fun e he hb => by
            have := (hd.2.2.2.1 e he hb).1; omega⟩
          intro h; rw [h] at this; cases this
        | succ d ihd =>
          intro i hid hi
          have hoi : l[i]? = some l[i] := List.getElem?_eq_getElem hi.1
          obtain ⟨ds, hds⟩ := Option.isSome_iff_exists.1 hi.2.1
          have hd := hD i l[i] ds hoi hds
          by_cases hex : ∃ e ∈ (l[i]).after, Region.binds md e = true ∧ listed.getD e.on false = false
          · obtain ⟨e, he, hb, hun⟩ := hex
            have h4 := hd.2.2.2.1 e he hb
            have hlt : e.on < listed.size := by rw [inv.size, hsize]; have := hi.1; omega
            exact ihd e.on (by omega) ⟨by have := hi.1; omega, h4.2, getD_in hlt hun⟩
          · have : i ∈ Region.ready md l.toArray listed := mem_ready.2 ⟨hi.2.2, l[i], by simp, fun e he hb => by
              cases hc : listed.getD e.on false with
              | true => rfl
              | false => exact absurd ⟨e, he, hb, hc⟩ hex⟩
            intro h; rw [h] at this; cases this
      exact hmin i0 i0 (Nat.le_refl _) ((hmem i0).1 hi0)
    rw [show m + 1 + (tailIx sp l.toArray.size).length = (m + (tailIx sp l.toArray.size).length) + 1 by omega]
    refine ⟨fun h => absurd h hready, fun k hk => ?_⟩
    obtain ⟨hkun, ok, hok, hkall⟩ := mem_ready.1 hk
    have hokl : l[k]? = some ok := by simpa using hok
    have hkl : k < l.length := (List.getElem?_eq_some_iff.1 hokl).1
    have hkh : ((sp[k]?).join).isSome = true := by
      cases hc : ((sp[k]?).join).isSome with
      | true => rfl
      | false =>
        exfalso
        have hkt : k ∈ tailIx sp l.toArray.size := mem_tailIx.2 ⟨by rw [hsize]; exact hkl, hc⟩
        have tl_un : ∀ t ∈ tailIx sp l.toArray.size, listed.getD t true = false := fun t ht => by
          have := mem_tailIx.1 ht; exact inv.tail t this.2 this.1
        have hfirst : ∀ (T : List Nat), (∀ t ∈ T, listed.getD t true = false) → chainI md l.toArray T = true → k ∈ T → ∃ t T', T = t :: T' ∧ k = t := by
          intro T
          induction T with
          | nil => intro _ _ h; cases h
          | cons t T ihT =>
            intro hu hc hkT
            rcases List.mem_cons.1 hkT with rfl | hkT
            · exact ⟨k, T, rfl, rfl⟩
            · exfalso
              cases T with
              | nil => cases hkT
              | cons t2 T2 =>
                simp only [chainI, Bool.and_eq_true] at hc
                obtain ⟨t3, T3, he, hk3⟩ := ihT (fun t ht => hu t (by simp [ht])) hc.2 hkT
                injection he with he1 he2
                subst he1
                subst hk3
                obtain ⟨o', ho', e, he, hb, hon⟩ := Region.waitsFor_spec hc.1
                have : o' = ok := Option.some.inj (ho'.symm.trans hok)
                subst this
                have h2 := hkall e he hb
                rw [hon, getD_both (hu t (by simp))] at h2
                cases h2
        obtain ⟨t, T', hT, rfl⟩ := hfirst _ tl_un hch hkt
        rw [hT] at hun
        simp only at hun
        have hli := (hmem i0).1 hi0
        have := under_listed (md := md) (ops := l.toArray) (t := k) (listed := listed) inv.closed (fun ot hot e he hb => by
          have : ot = ok := Option.some.inj (hot.symm.trans hok)
          subst this
          exact hkall e he hb) _ [k] (fun j hj => .inl (by simpa using hj)) hun i0 (by
            rw [List.mem_reverse]; exact mem_headIx.2 ⟨by rw [hsize]; exact hli.1, hli.2.1⟩)
        rw [getD_both hli.2.2] at this
        cases this
    obtain ⟨ds, hds⟩ := Option.isSome_iff_exists.1 hkh
    obtain ⟨hd1, hd2, hd3, hd4, hd5⟩ := hD k ok ds hokl hds
    have hdl : ∀ jd ∈ ds, listed.getD jd.1 false = true := fun jd hjd => by
      obtain ⟨o', ho', e, he, hb, hon⟩ := Region.waitsFor_spec (hd2 jd hjd).1
      have : o' = ok := Option.some.inj (ho'.symm.trans hok)
      subst this
      rw [← hon]; exact hkall e he hb
    have hjl : ∀ jd ∈ ds, jd.1 < l.length := fun jd hjd => by
      have := hdl jd hjd
      rcases Nat.lt_or_ge jd.1 listed.size with h' | h'
      · rw [inv.size, hsize] at h'; exact h'
      · simp [Array.getElem?_eq_none h'] at this
    have hkH : k ∈ headIx sp l.toArray.size := mem_headIx.2 ⟨by rw [hsize]; exact hkl, hkh⟩
    have hkin : k < listed.size := by rw [inv.size, hsize]; exact hkl
    have hkf : listed.getD k false = false := by simpa [hkin] using hkun
    have hjk : ∀ jd ∈ ds, jd.1 ≠ k := fun jd hjd e => by
      have := hdl jd hjd
      rw [e, hkf] at this
      cases this
    -- the part of k in front
    have hS := inv.sep.perm (perm_at (L0 := L0) (f := pool) hkH)
    rw [inv.pre k (by rw [hsize]; exact hkl) hkh hkf] at hS
    have hob1 := oblGoS_at l sp 0 hob k ok ds hokl hds w _ (by simpa using hS)
    obtain ⟨a', hK, hz, hdf, ht⟩ := depsS_at ds a0 a inv.tmps.symm (fun jd hjd => by
      obtain ⟨v, h1, h2⟩ := inv.post jd.1 (by rw [hsize]; exact hjl jd hjd) (hd2 jd hjd).2.2 (hdl jd hjd)
      rw [h2 jd.2 (hd2 jd hjd).2.1]
      exact ⟨_, h1, List.mem_append_left _ (List.mem_map.2 ⟨jd.1, (List.Nodup.mem_erase_iff hnd0).2 ⟨hjk jd hjd, mem_headIx.2 ⟨by rw [hsize]; exact hjl jd hjd, (hd2 jd hjd).2.2⟩⟩, rfl⟩)⟩) hob1
    have hlook : ∀ t ∈ ok.looksAt l.toArray, a'.tmps.getD t undef = a.tmps.getD t undef := fun t htl => by
      rw [ht t]
      by_cases hm2 : t ∈ ds.map (·.2)
      · rw [if_pos hm2]
      · rw [if_neg hm2]
        refine (inv.same t fun j hj hs _ hd => hm2 ?_).symm
        rw [hsize] at hj
        exact List.mem_map.2 ⟨(j, t), hd3 t htl j hj hs hd, rfl⟩
    have hex := exec_same (ops := l.toArray) (o := ok) (fun cs b => hselS k ok cs b hok) hlook
    have hwa := wanted_same (ops := l.toArray) (o := ok) hz hlook
    have hnext : ∀ v A w', (spAt ps k).2 v A → Sp R w' (A :: (((headIx sp l.toArray.size).erase k).map pool ++ L0)) → wpAny P md l.toArray Q (m + (tailIx sp l.toArray.size).length) (listed.setIfInBounds k true) (a.put ok.dst v) w' := by
      intro v A w' hp hS'
      have hset : ∀ j, (listed.setIfInBounds k true).getD j false = true → j = k ∨ listed.getD j false = true := fun j hj => by
        by_cases e : k = j
        · exact .inl e.symm
        · rw [getD_set_ne false e] at hj; exact .inr hj
      refine ih (fun j => if j = k then A else pool j) _ _ _ ⟨by simp [inv.size], fun j oj hj hlj e he hb => ?_, fun t ht1 ht2 => ?_, ?_, by rw [put_size]; exact inv.tmps, by rw [put_dfs]; exact inv.dfs, fun t htn => ?_, fun j hj hs hlj => ?_, fun j hj hs hlj => ?_⟩ ?_
      · rcases hset j hlj with rfl | hlj
        · have : oj = ok := Option.some.inj (hj.symm.trans hok)
          subst this
          exact getD_set_true (hkall e he hb)
        · exact getD_set_true (inv.closed j oj hj hlj e he hb)
      · have htk : k ≠ t := fun e => by subst e; rw [hkh] at ht1; cases ht1
        rw [getD_set_ne true htk]; exact inv.tail t ht1 ht2
      · refine Sp.perm (perm_at (L0 := L0) (f := fun j => if j = k then A else pool j) hkH).symm ?_
        rw [map_off hnd0 (f := fun j => if j = k then A else pool j) (g := pool) (fun j hj => if_neg hj), if_pos rfl]
        exact hS'
      · have h1 : a.tmps.getD t undef = a0.tmps.getD t undef := inv.same t fun j hj hs hlj => htn j hj hs (getD_set_true hlj)
        have h2 := htn k (by rw [hsize]; exact hkl) hkh (by simp [hkin])
        cases hdst : ok.dst with
        | none => exact h1
        | some d =>
          rw [put_getD, if_neg (by rintro ⟨e, _⟩; subst e; exact h2 (by simp [dstOf, hokl, hdst]))]
          exact h1
      · have hjk : j ≠ k := fun e => by subst e; simp [hkin] at hlj
        rw [if_neg hjk]
        exact inv.pre j hj hs (by rwa [getD_set_ne false (fun e => hjk e.symm)] at hlj)
      · rcases Decidable.em (j = k) with rfl | hjk
        · refine ⟨v, by rw [if_pos rfl]; exact hp, fun d hd => ?_⟩
          have hdst : ok.dst = some d := by simpa [dstOf, hokl] using hd
          rw [hdst, put_getD, if_pos ⟨rfl, by rw [inv.tmps, hN]; exact hd1 d hdst⟩]
        · have hlj' : listed.getD j false = true := (hset j hlj).resolve_left hjk
          obtain ⟨u, h1, h2⟩ := inv.post j hj hs hlj'
          refine ⟨u, by rw [if_neg hjk]; exact h1, fun d hd => ?_⟩
          cases hdst : ok.dst with
          | none => exact h2 d hd
          | some dk =>
            rw [put_getD, if_neg (by rintro ⟨e, _⟩; subst e; rw [hsize] at hj; exact hd5 j hj hs hjk d hdst hd)]
            exact h2 d hd
      · have hkL : k ∈ (headIx sp l.toArray.size).filter fun i => !listed.getD i true := (hmem k).2 ⟨hkl, hkh, hkun⟩
        have hnd : ((headIx sp l.toArray.size).filter fun i => !listed.getD i true).Nodup := hnd0.filter _
        have he : ((headIx sp l.toArray.size).filter fun i => !(listed.setIfInBounds k true).getD i true) = ((headIx sp l.toArray.size).filter fun i => !listed.getD i true).filter fun i => i != k := by
          rw [List.filter_filter]
          refine List.filter_congr fun i hi => ?_
          by_cases e : k = i
          · subst e; simp [hkin]
          · rw [getD_set_ne true e]
            have : (i != k) = true := by simp; exact fun h => e h.symm
            rw [this, Bool.true_and]
        rw [he, ← List.Nodup.erase_eq_filter hnd, List.length_erase_of_mem hkL, hm]
        rfl
    unfold wpOp
    simp only [hok]
    have hKk : oblS P R (((headIx sp l.toArray.size).erase k).map pool ++ L0) l.toArray ok a' w (spAt ps k).1 (spAt ps k).2 := by simpa using hK
    unfold oblS at hKk
    cases hg : ok.guard with
    | none =>
      rw [hg] at hKk
      rw [if_pos (by simp [Region.wanted, hg])]
      have : sAt P R (((headIx sp l.toArray.size).erase k).map pool ++ L0) ok a w (spAt ps k).2 := by unfold sAt at *; rw [← hex]; exact hKk
      exact .inl (wp_of_sAt this hnext)
    | some g =>
      rw [hg] at hKk
      simp only [hwa] at hKk
      by_cases hw : Region.wanted ok (yielded l.toArray a.tmps) = true
      · rw [if_pos hw] at hKk ⊢
        have : sAt P R (((headIx sp l.toArray.size).erase k).map pool ++ L0) ok a w (spAt ps k).2 := by unfold sAt at *; rw [← hex]; exact hKk
        exact .inl (wp_of_sAt this hnext)
      · rw [if_neg hw] at hKk ⊢
        exact hnext _ _ _ hKk hS

/-- **A region that draws its order, over parts.** -/
theorem wp_region_sep {id : Nat} {Q : Exit → Act → World → Prop} {a0 : Act} {w0 : World} {l : List Oper} (sp : List (Option (List (Nat × Tmp)))) (ps : List (SA × SPost)) (N : Nat) (hm : P.follows .mixedOrders = true)
    (hN : a0.tmps.size = N) (hsp : l.length = sp.length) (hB : grB .any l.toArray sp N = true) (hS : Sp R w0 (preL ps l sp 0 ++ L0)) (hob : oblGoS P R L0 l.toArray ps a0 l sp 0)
    (hend : endS ps (fun a acc => ∀ w', Sp R w' (acc ++ L0) → wpList P l.toArray Q (tailOps l sp) a w') l sp 0 a0 []) : (Code.region id l.toArray true).wp P Q a0 w0 := by
  refine wp_region_any hm ?_
  have H := wpAny_sep (Q := Q) (md := .any) hN rfl hsp hB hob hend _ (fun j => (spAt ps j).1) (Array.replicate l.toArray.size false) a0 { w0 with drawn := w0.drawn + 1 }
    ⟨by simp, fun j oj _ hl => (by rw [getD_replicate_false] at hl; cases hl), fun t _ ht => getD_in (by simpa using ht) (getD_replicate_false _ _), ?_, rfl, rfl, fun _ _ => rfl, fun _ _ _ _ => rfl, fun j _ _ hl => (by rw [getD_replicate_false] at hl; cases hl)⟩ rfl
  · have hlen : ((headIx sp l.toArray.size).filter fun i => !(Array.replicate l.toArray.size false).getD i true).length + (tailIx sp l.toArray.size).length = l.toArray.size := by
      have h1 : ((headIx sp l.toArray.size).filter fun i => !(Array.replicate l.toArray.size false).getD i true) = headIx sp l.toArray.size := by
        refine List.filter_eq_self.2 fun i hi => ?_
        have hi' := (mem_headIx.1 hi).1
        simp at hi' ⊢
        simp [hi']
      rw [h1]
      unfold headIx tailIx
      simp only [← Option.not_isSome]
      have := List.length_eq_countP_add_countP (fun k => ((sp[k]?).join).isSome) (l := List.range l.toArray.size)
      rw [List.countP_eq_length_filter, List.countP_eq_length_filter, List.length_range] at this
      have e : (List.filter (fun k => !((sp[k]?).join).isSome) (List.range l.toArray.size)) = List.filter (fun k => decide ¬((sp[k]?).join).isSome = true) (List.range l.toArray.size) := List.filter_congr fun k _ => by cases ((sp[k]?).join).isSome <;> rfl
      rw [e]
      exact this.symm
    rw [hlen] at H
    exact H
  · have e : (headIx sp l.toArray.size).map (fun j => (spAt ps j).1) = preL ps l sp 0 := by
      rw [preL_eq l sp 0 hsp]
      simp [headIx, List.range_eq_range']
    rw [e]
    exact hS.below (Gr.drew w0)
end
attribute [irreducible] sAt
end Go.Proofs.Ytkjcedlgljeoiaa
