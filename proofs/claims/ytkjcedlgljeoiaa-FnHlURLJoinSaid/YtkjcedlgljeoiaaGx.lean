/- A region that draws its order, once more: each operation may also write blocks of its own (W), which the others neither read nor write. -/
import Derived.Test.YtkjcedlgljeoiaaW2
namespace Go.Proofs.Ytkjcedlgljeoiaa
open Go.RowKit

/-- The blocks that some operations may write. -/
def US (W : Nat → Nat → Prop) (I : Nat → Prop) (k : Nat) : Prop := ∃ i, I i ∧ W i k
def xUpon (P : Program) (S : Nat → Prop) (w : World) (p : Post) : Result Next → Prop
  | .ok (.value v) w' => GrX S w w' ∧ p v w'
  | .ok .skip w' => GrX S w w' ∧ p undef w'
  | .ok (.enter f args) w' => GrX S w w' ∧ Calls P f args w' (fun e w'' => ∃ v, e = .returned v ∧ GrX S w w'' ∧ p v w'')
  | _ => False
def xAt (P : Program) (S : Nat → Prop) (o : Oper) (a : Act) (w : World) (p : Post) : Prop := xUpon P S w p ((execOp a.eval o).run P w)
attribute [go_sem] xAt xUpon GrX.refl
theorem wp_of_xAt {P : Program} {S : Nat → Prop} {o : Oper} {a : Act} {w : World} {p : Post} {K : Act → World → Prop} {Q : Exit → Act → World → Prop} (h : xAt P S o a w p) (hK : ∀ v w', GrX S w w' → p v w' → K (a.put o.dst v) w') : o.wp P a w K Q := by
  unfold xAt at h
  unfold Oper.wp
  generalize (execOp a.eval o).run P w = r at *
  cases r with
  | ok n w' =>
    cases n <;> simp only [xUpon] at h <;> simp only [Oper.upon]
    case value u => exact hK _ _ h.1 h.2
    case skip => exact hK _ _ h.1 h.2
    case enter f args =>
      exact h.2.mono fun e w'' ⟨v, he, h1, h2⟩ => by subst he; exact hK _ _ h1 h2
  | halt x w' => simp only [xUpon] at h
theorem x_of_gr {P : Program} {S : Nat → Prop} {o : Oper} {a : Act} {w : World} {p : Post} (h : grAt P o a w p) : xAt P S o a w p := by
  unfold grAt at h
  unfold xAt
  generalize (execOp a.eval o).run P w = r at *
  cases r with
  | ok n w' =>
    cases n <;> simp only [grUpon] at h <;> simp only [xUpon]
    case value u => exact ⟨.below h.1, h.2⟩
    case skip => exact ⟨.below h.1, h.2⟩
    case enter f args =>
      exact ⟨.below h.1, h.2.mono fun e w'' ⟨v, he, h1, h2⟩ => ⟨v, he, .below h1, h2⟩⟩
  | halt x w' => simp only [grUpon] at h

abbrev Val? (a : Act) (d : Option Tmp) : Value := match d with | some d => a.tmps.getD d undef | none => undef
def withDepsX (ps : List Post) (w : World) (K : Act → Prop) : List (Nat × Option Tmp) → Act → Prop
  | [], a => K a
  | (j, some d) :: js, a => ∀ v, postAt ps j v w → withDepsX ps w K js (a.put (some d) v)
  | (j, none) :: js, a => postAt ps j undef w → withDepsX ps w K js a
def oblX (P : Program) (S : Nat → Prop) (ops : Array Oper) (o : Oper) (a : Act) (w : World) (p : Post) : Prop :=
  match o.guard with
  | none => xAt P S o a w p
  | some _ => if Region.wanted o (yielded ops a.tmps) then xAt P S o a w p else p undef w
def obl1X (P : Program) (W : Nat → Nat → Prop) (ops : Array Oper) (ps : List Post) (a0 : Act) (w0 : World) (ds : List (Nat × Tmp)) (k : Nat) (o : Oper) (p : Post) : Prop :=
  ∀ w, GrX (US W (· ≠ k)) w0 w → withDeps ps w (fun a => oblX P (W k) ops o a w p) ds a0
def oblGoX (P : Program) (W : Nat → Nat → Prop) (ops : Array Oper) (ps : List Post) (a0 : Act) (w0 : World) : List Oper → List (Option (List (Nat × Tmp))) → Nat → Prop
  | o :: l, some ds :: s, k => obl1X P W ops ps a0 w0 ds k o (postAt ps k) ∧ oblGoX P W ops ps a0 w0 l s (k + 1)
  | _ :: l, none :: s, k => oblGoX P W ops ps a0 w0 l s (k + 1)
  | _, _, _ => True
def headDsX : List Oper → List (Option (List (Nat × Tmp))) → Nat → List (Nat × Option Tmp)
  | o :: l, some _ :: s, k => (k, o.dst) :: headDsX l s (k + 1)
  | _ :: l, none :: s, k => headDsX l s (k + 1)
  | _, _, _ => []
def StabX (S : Nat → Prop) (p : Post) : Prop := ∀ v w w', p v w → GrX S w w' → p v w'

section
variable {P : Program} {W : Nat → Nat → Prop} {ops : Array Oper} {md : Region.Mode} {sp : List (Option (List (Nat × Tmp)))} {ps : List Post}

theorem withDepsX_at {w : World} {K : Act → Prop} : ∀ (ds : List (Nat × Option Tmp)) (a0 a : Act), a0.tmps.size = a.tmps.size →
    (∀ jd ∈ ds, postAt ps jd.1 (Val? a jd.2) w) → withDepsX ps w K ds a0 →
    ∃ a', K a' ∧ a'.tmps.size = a.tmps.size ∧ a'.defers = a0.defers ∧ ∀ t, a'.tmps.getD t undef = if some t ∈ ds.map (·.2) then a.tmps.getD t undef else a0.tmps.getD t undef
  | [], a0, a, hs, _, h => ⟨a0, h, hs, rfl, fun t => by simp⟩
  | (j, none) :: js, a0, a, hs, hp, h => by
    obtain ⟨a', hK, h2, h3, h4⟩ := withDepsX_at js a0 a hs (fun jd hjd => hp jd (by simp [hjd])) (h (hp (j, none) (by simp)))
    refine ⟨a', hK, h2, h3, fun t => ?_⟩
    rw [h4 t]
    by_cases ht : some t ∈ js.map (·.2)
    · rw [if_pos ht, if_pos (by simp only [List.map_cons, List.mem_cons]; exact .inr ht)]
    · rw [if_neg ht, if_neg (by simp only [List.map_cons, List.mem_cons]; exact fun hh => hh.elim (fun e => by cases e) ht)]
  | (j, some d) :: js, a0, a, hs, hp, h => by
    have h1 := h (a.tmps.getD d undef) (hp (j, some d) (by simp))
    obtain ⟨a', hK, h2, h3, h4⟩ := withDepsX_at js (a0.put (some d) (a.tmps.getD d undef)) a (by rw [put_size]; exact hs) (fun jd hjd => hp jd (by simp [hjd])) h1
    refine ⟨a', hK, h2, by rw [h3, put_dfs], fun t => ?_⟩
    rw [h4 t, put_getD]
    by_cases ht : some t ∈ js.map (·.2)
    · rw [if_pos ht, if_pos (by simp only [List.map_cons, List.mem_cons]; exact .inr ht)]
    · rw [if_neg ht]
      by_cases hd : t = d
      · subst hd
        rw [if_pos (by simp : some t ∈ ((j, some t) :: js).map (·.2))]
        by_cases hl : t < a0.tmps.size
        · rw [if_pos ⟨rfl, hl⟩]
        · rw [if_neg (by simp [hl])]
          have : ¬ t < a.tmps.size := by omega
          simp [hl, this]
      · rw [if_neg (by simp [hd]), if_neg (by simp only [List.map_cons, List.mem_cons]; exact fun hh => hh.elim (fun e => hd (by injection e)) ht)]

/-- What stands between two operations. -/
structure GxInv (W : Nat → Nat → Prop) (ops : Array Oper) (md : Region.Mode) (sp : List (Option (List (Nat × Tmp)))) (ps : List Post) (a0 : Act) (w0 : World) (listed : Array Bool) (a : Act) (w : World) : Prop where
  size : listed.size = ops.size
  closed : ∀ j oj, ops[j]? = some oj → listed.getD j false = true → ∀ e ∈ oj.after, Region.binds md e = true → listed.getD e.on false = true
  tail : ∀ t, ((sp[t]?).join).isSome = false → t < ops.size → listed.getD t true = false
  gr : GrX (US W (fun i => listed.getD i false = true)) w0 w
  tmps : a.tmps.size = a0.tmps.size
  dfs : a.defers = a0.defers
  same : ∀ t, (∀ j, j < ops.size → ((sp[j]?).join).isSome = true → listed.getD j false = true → dstOf ops j ≠ some t) → a.tmps.getD t undef = a0.tmps.getD t undef
  post : ∀ j d, j < ops.size → ((sp[j]?).join).isSome = true → listed.getD j false = true → dstOf ops j = d → postAt ps j (Val? a d) w

theorem oblGoX_at {a0 : Act} {w0 : World} : ∀ (l : List Oper) (s : List (Option (List (Nat × Tmp)))) (k : Nat), oblGoX P W ops ps a0 w0 l s k →
    ∀ j o ds, l[j]? = some o → (s[j]?).join = some ds → obl1X P W ops ps a0 w0 ds (k + j) o (postAt ps (k + j))
  | [], _, _, _, j, o, ds, h, _ => by simp at h
  | o :: l, [], _, _, j, _, ds, _, h => by simp at h
  | o :: l, none :: s, k, H, j, o', ds, h1, h2 => by
    cases j with
    | zero => simp at h2
    | succ j =>
      have := oblGoX_at l s (k + 1) H j o' ds (by simpa using h1) (by simpa using h2)
      rwa [Nat.add_assoc, Nat.add_comm 1 j] at this
  | o :: l, some d :: s, k, H, j, o', ds, h1, h2 => by
    cases j with
    | zero =>
      simp at h1 h2
      subst h1; subst h2
      exact H.1
    | succ j =>
      have := oblGoX_at l s (k + 1) H.2 j o' ds (by simpa using h1) (by simpa using h2)
      rwa [Nat.add_assoc, Nat.add_comm 1 j] at this

theorem mem_headDsX : ∀ (l : List Oper) (s : List (Option (List (Nat × Tmp)))) (k : Nat) (jd : Nat × Option Tmp), jd ∈ headDsX l s k ↔ ∃ j o, l[j]? = some o ∧ ((s[j]?).join).isSome = true ∧ o.dst = jd.2 ∧ jd.1 = k + j
  | [], _, _, jd => by simp [headDsX]
  | o :: l, [], _, jd => by simp [headDsX]
  | o :: l, none :: s, k, jd => by
    simp only [headDsX]
    rw [mem_headDsX l s (k + 1) jd]
    constructor
    · rintro ⟨j, o', h1, h2, h3, h4⟩; exact ⟨j + 1, o', by simpa using h1, by simpa using h2, h3, by omega⟩
    · rintro ⟨j, o', h1, h2, h3, h4⟩
      cases j with
      | zero => simp at h2
      | succ j => exact ⟨j, o', by simpa using h1, by simpa using h2, h3, by omega⟩
  | o :: l, some ds :: s, k, jd => by
    simp only [headDsX, List.mem_cons]
    rw [mem_headDsX l s (k + 1) jd]
    constructor
    · rintro (rfl | ⟨j, o', h1, h2, h3, h4⟩)
      · exact ⟨0, o, by simp, by simp, rfl, by simp⟩
      · exact ⟨j + 1, o', by simpa using h1, by simpa using h2, h3, by omega⟩
    · rintro ⟨j, o', h1, h2, h3, h4⟩
      cases j with
      | zero =>
        simp at h1; subst h1
        refine .inl ?_
        obtain ⟨j1, d1⟩ := jd
        simp at h4 h3
        rw [h4, h3]
      | succ j => exact .inr ⟨j, o', by simpa using h1, by simpa using h2, h3, by omega⟩

theorem wpAny_growX {Q : Exit → Act → World → Prop} {l : List Oper} {a0 : Act} {w0 : World} {N : Nat} (hN : a0.tmps.size = N) (hl : l.toArray = ops) (hsp : l.length = sp.length)
    (hB : grB md ops sp N = true) (hst : ∀ j, j < l.length → ((sp[j]?).join).isSome = true → StabX (US W (· ≠ j)) (postAt ps j)) (hob : oblGoX P W ops ps a0 w0 l sp 0) (hdu : ∀ k o ds, l[k]? = some o → (sp[k]?).join = some ds → o.dst = none → ∀ v w, postAt ps k v w → postAt ps k undef w)
    (hend : ∀ w', GrX (US W (fun _ => True)) w0 w' → withDepsX ps w' (fun a => wpList P ops Q (tailOps l sp) a w') (headDsX l sp 0) a0) :
    ∀ (m : Nat) (listed : Array Bool) (a : Act) (w : World), GxInv W ops md sp ps a0 w0 listed a w →
      ((headIx sp ops.size).filter fun i => !listed.getD i true).length = m → wpAny P md ops Q (m + (tailIx sp ops.size).length) listed a w := by
  subst hl
  have hsize : l.toArray.size = l.length := by simp
  simp only [grB, Bool.and_eq_true] at hB
  obtain ⟨⟨⟨⟨hsel, hhd⟩, hch⟩, hun⟩, hsq⟩ := hB
  have hHB : ∀ k o ds, l[k]? = some o → (sp[k]?).join = some ds → headB md l.toArray sp N k = true := fun k o ds hk hs =>
    List.all_eq_true.1 hhd k (mem_headIx.2 ⟨by rw [hsize]; exact (List.getElem?_eq_some_iff.1 hk).1, by rw [hs]; rfl⟩)
  -- what the test of one operation says
  have hD : ∀ k o ds, l[k]? = some o → (sp[k]?).join = some ds →
      (∀ d, o.dst = some d → d < N) ∧ (∀ jd ∈ ds, Region.waitsFor md l.toArray k jd.1 = true ∧ dstOf l.toArray jd.1 = some jd.2 ∧ ((sp[jd.1]?).join).isSome = true) ∧
      (∀ t ∈ o.looksAt l.toArray, ∀ j, j < l.length → ((sp[j]?).join).isSome = true → dstOf l.toArray j = some t → (j, t) ∈ ds) ∧
      (∀ e ∈ o.after, Region.binds md e = true → e.on < k ∧ ((sp[e.on]?).join).isSome = true) ∧
      (∀ j, j < l.length → ((sp[j]?).join).isSome = true → j ≠ k → ∀ d, o.dst = some d → dstOf l.toArray j ≠ some d) := by
    intro k o ds hk hs
    have h := hHB k o ds hk hs
    have hk' : l.toArray[k]? = some o := by simpa using hk
    simp only [headB, hk', hs, Bool.and_eq_true] at h
    obtain ⟨⟨⟨⟨h1, h2⟩, h3⟩, h4⟩, h5⟩ := h
    refine ⟨fun d hd => ?_, fun jd hjd => ?_, fun t ht j hj hjs hjd => ?_, fun e he hb => ?_, fun j hj hjs hjk d hd => ?_⟩
    · rw [hd] at h1; simpa using h1
    · have := List.all_eq_true.1 h2 jd hjd
      simp only [Bool.and_eq_true, beq_iff_eq] at this
      exact ⟨this.1.1, this.1.2, this.2⟩
    · have := List.all_eq_true.1 (List.all_eq_true.1 h3 t ht) j (mem_headIx.2 ⟨by rw [hsize]; exact hj, hjs⟩)
      simp only [hjd, bne_self_eq_false, Bool.false_or] at this
      simpa using this
    · obtain ⟨i, hi, hie⟩ := Array.getElem_of_mem he
      have := Array.all_eq_true.1 h4 i hi
      rw [hie] at this
      simp only [hb, Bool.not_true, Bool.false_or, Bool.and_eq_true, decide_eq_true_eq] at this
      exact this
    · have := List.all_eq_true.1 h5 j (mem_headIx.2 ⟨by rw [hsize]; exact hj, hjs⟩)
      rw [hd] at this
      simp only [Bool.or_eq_true, beq_iff_eq, bne_iff_ne, ne_eq] at this
      exact this.resolve_left hjk
  have hselS := Region.noSelect_spec hsel
  intro m
  induction m with
  | zero =>
    intro listed a w inv hm
    have hall : ∀ i, i < l.length → ((sp[i]?).join).isSome = true → listed.getD i false = true := fun i hi hs => by
      have h0 := List.filter_eq_nil_iff.1 (List.eq_nil_of_length_eq_zero hm) i (mem_headIx.2 ⟨by rw [hsize]; exact hi, hs⟩)
      have hlt : i < listed.size := by rw [inv.size, hsize]; exact hi
      simp [hlt] at h0 ⊢
      exact h0
    rw [Nat.zero_add]
    have hmask : listed = (Array.range l.toArray.size).map fun k => ((sp[k]?).join).isSome := by
      refine Array.ext (by simp [inv.size]) fun i h1 h2 => ?_
      have hi : i < l.length := by rw [inv.size, hsize] at h1; exact h1
      cases hs : ((sp[i]?).join).isSome with
      | true =>
        have := hall i hi hs
        simp [h1] at this
        simp [hs, this]
      | false =>
        have := inv.tail i hs (by rw [hsize]; exact hi)
        simp [h1] at this
        simp [hs, this]
    have h1 := hend w (inv.gr.mono fun k ⟨i, _, hw⟩ => ⟨i, trivial, hw⟩)
    obtain ⟨a', hK, hz, hdf, ht⟩ := withDepsX_at (headDsX l sp 0) a0 a inv.tmps.symm (fun jd hjd => by
      obtain ⟨j, o, h1, h2, h3, h4⟩ := (mem_headDsX l sp 0 jd).1 hjd
      have hj : j < l.length := (List.getElem?_eq_some_iff.1 h1).1
      rw [Nat.zero_add] at h4
      rw [h4]
      exact inv.post j jd.2 (by rw [hsize]; exact hj) h2 (hall j hj h2) (by simp [dstOf, h1, h3])) h1
    have : a' = a := act_ext hz (by rw [hdf, inv.dfs]) fun t => by
      rw [ht t]
      by_cases hm2 : some t ∈ (headDsX l sp 0).map (·.2)
      · rw [if_pos hm2]
      · rw [if_neg hm2]
        refine (inv.same t fun j hj hs _ hd => hm2 ?_).symm
        rw [hsize] at hj
        have hlj : l[j]? = some l[j] := List.getElem?_eq_getElem hj
        exact List.mem_map.2 ⟨(j, some t), (mem_headDsX l sp 0 (j, some t)).2 ⟨j, l[j], hlj, hs, by simpa [dstOf, hlj] using hd, by simp⟩, rfl⟩
    subst this
    refine wpAny_tail (tailIx sp l.toArray.size) (tailOps l sp) listed a' w ?_ (by rw [hmask]; exact hsq) hK
    have := tailOps_eq (ops := l.toArray) l sp 0 hsp (fun j => by simp)
    rw [← this]
    simp [tailIx, List.range_eq_range']
  | succ m ih =>
    intro listed a w inv hm
    -- some operation of the head has not come up
    obtain ⟨i0, hi0⟩ : ∃ i, i ∈ (headIx sp l.toArray.size).filter fun i => !listed.getD i true := by
      cases hL : (headIx sp l.toArray.size).filter fun i => !listed.getD i true with
      | nil => rw [hL] at hm; cases hm
      | cons x xs => exact ⟨x, by simp⟩
    have hmem : ∀ i, i ∈ ((headIx sp l.toArray.size).filter fun i => !listed.getD i true) ↔ i < l.length ∧ ((sp[i]?).join).isSome = true ∧ listed.getD i true = false := fun i => by
      rw [List.mem_filter, mem_headIx, hsize]; simp [and_assoc]
    -- the first such one is ready
    have hready : Region.ready md l.toArray listed ≠ [] := by
      have hmin : ∀ d i, i ≤ d → i < l.length ∧ ((sp[i]?).join).isSome = true ∧ listed.getD i true = false → Region.ready md l.toArray listed ≠ [] := by
        intro d
        induction d with
        | zero =>
          intro i hid hi
          have hoi : l[i]? = some l[i] := List.getElem?_eq_getElem hi.1
          obtain ⟨ds, hds⟩ := Option.isSome_iff_exists.1 hi.2.1
          have hd := hD i l[i] ds hoi hds
          have : i ∈ Region.ready md l.toArray listed := mem_ready.2 ⟨hi.2.2, l[i], by simp, fun e he hb => by
            have := (hd.2.2.2.1 e he hb).1; omega⟩
          intro h; rw [h] at this; cases this
        | succ d ihd =>
          intro i hid hi
          have hoi : l[i]? = some l[i] := List.getElem?_eq_getElem hi.1
          obtain ⟨ds, hds⟩ := Option.isSome_iff_exists.1 hi.2.1
          have hd := hD i l[i] ds hoi hds
          by_cases hex : ∃ e ∈ (l[i]).after, Region.binds md e = true ∧ listed.getD e.on false = false
          · obtain ⟨e, he, hb, hun⟩ := hex
            have h4 := hd.2.2.2.1 e he hb
            have hlt : e.on < listed.size := by rw [inv.size, hsize]; have := hi.1; omega
            exact ihd e.on (by omega) ⟨by have := hi.1; omega, h4.2, getD_in hlt hun⟩
          · have : i ∈ Region.ready md l.toArray listed := mem_ready.2 ⟨hi.2.2, l[i], by simp, fun e he hb => by
              cases hc : listed.getD e.on false with
              | true => rfl
              | false => exact absurd ⟨e, he, hb, hc⟩ hex⟩
            intro h; rw [h] at this; cases this
      exact hmin i0 i0 (Nat.le_refl _) ((hmem i0).1 hi0)
    rw [show m + 1 + (tailIx sp l.toArray.size).length = (m + (tailIx sp l.toArray.size).length) + 1 by omega]
    refine ⟨fun h => absurd h hready, fun k hk => ?_⟩
    obtain ⟨hkun, ok, hok, hkall⟩ := mem_ready.1 hk
    have hokl : l[k]? = some ok := by simpa using hok
    have hkl : k < l.length := (List.getElem?_eq_some_iff.1 hokl).1
    -- it is one of the head
    have hkh : ((sp[k]?).join).isSome = true := by
      cases hc : ((sp[k]?).join).isSome with
      | true => rfl
      | false =>
        exfalso
        have hkt : k ∈ tailIx sp l.toArray.size := mem_tailIx.2 ⟨by rw [hsize]; exact hkl, hc⟩
        have tl_un : ∀ t ∈ tailIx sp l.toArray.size, listed.getD t true = false := fun t ht => by
          have := mem_tailIx.1 ht; exact inv.tail t this.2 this.1
        have hfirst : ∀ (T : List Nat), (∀ t ∈ T, listed.getD t true = false) → chainI md l.toArray T = true → k ∈ T → ∃ t T', T = t :: T' ∧ k = t := by
          intro T
          induction T with
          | nil => intro _ _ h; cases h
          | cons t T ihT =>
            intro hu hc hkT
            rcases List.mem_cons.1 hkT with rfl | hkT
            · exact ⟨k, T, rfl, rfl⟩
            · exfalso
              cases T with
              | nil => cases hkT
              | cons t2 T2 =>
                simp only [chainI, Bool.and_eq_true] at hc
                obtain ⟨t3, T3, he, hk3⟩ := ihT (fun t ht => hu t (by simp [ht])) hc.2 hkT
                injection he with he1 he2
                subst he1
                subst hk3
                obtain ⟨o', ho', e, he, hb, hon⟩ := Region.waitsFor_spec hc.1
                have : o' = ok := Option.some.inj (ho'.symm.trans hok)
                subst this
                have h2 := hkall e he hb
                rw [hon, getD_both (hu t (by simp))] at h2
                cases h2
        obtain ⟨t, T', hT, rfl⟩ := hfirst _ tl_un hch hkt
        rw [hT] at hun
        simp only at hun
        have hli := (hmem i0).1 hi0
        have := under_listed (md := md) (ops := l.toArray) (t := k) (listed := listed) inv.closed (fun ot hot e he hb => by
          have : ot = ok := Option.some.inj (hot.symm.trans hok)
          subst this
          exact hkall e he hb) _ [k] (fun j hj => .inl (by simpa using hj)) hun i0 (by
            rw [List.mem_reverse]; exact mem_headIx.2 ⟨by rw [hsize]; exact hli.1, hli.2.1⟩)
        rw [getD_both hli.2.2] at this
        cases this
    obtain ⟨ds, hds⟩ := Option.isSome_iff_exists.1 hkh
    obtain ⟨hd1, hd2, hd3, hd4, hd5⟩ := hD k ok ds hokl hds
    have hdl : ∀ jd ∈ ds, listed.getD jd.1 false = true := fun jd hjd => by
      obtain ⟨o', ho', e, he, hb, hon⟩ := Region.waitsFor_spec (hd2 jd hjd).1
      have : o' = ok := Option.some.inj (ho'.symm.trans hok)
      subst this
      rw [← hon]; exact hkall e he hb
    have hjl : ∀ jd ∈ ds, jd.1 < l.length := fun jd hjd => by
      have := hdl jd hjd
      rcases Nat.lt_or_ge jd.1 listed.size with h' | h'
      · rw [inv.size, hsize] at h'; exact h'
      · simp [Array.getElem?_eq_none h'] at this
    have hob1 := oblGoX_at l sp 0 hob k ok ds hokl hds w (inv.gr.mono fun b ⟨i, hi, hw⟩ => ⟨i, (fun e => absurd ((show i = k from by omega) ▸ hi : listed.getD k false = true) (by rw [getD_both hkun]; decide)), hw⟩)
    obtain ⟨a', hK, hz, hdf, ht⟩ := withDeps_at ds a0 a inv.tmps.symm (fun jd hjd => inv.post jd.1 (some jd.2) (by rw [hsize]; exact hjl jd hjd) (hd2 jd hjd).2.2 (hdl jd hjd) (hd2 jd hjd).2.1) hob1
    have hlook : ∀ t ∈ ok.looksAt l.toArray, a'.tmps.getD t undef = a.tmps.getD t undef := fun t htl => by
      rw [ht t]
      by_cases hm2 : t ∈ ds.map (·.2)
      · rw [if_pos hm2]
      · rw [if_neg hm2]
        refine (inv.same t fun j hj hs _ hd => hm2 ?_).symm
        rw [hsize] at hj
        exact List.mem_map.2 ⟨(j, t), hd3 t htl j hj hs hd, rfl⟩
    have hex := exec_same (ops := l.toArray) (o := ok) (fun cs b => hselS k ok cs b hok) hlook
    have hwa := wanted_same (ops := l.toArray) (o := ok) hz hlook
    -- behind it
    have hnext : ∀ v w', GrX (W k) w w' → postAt ps k (if ok.dst.isSome then v else undef) w' → wpAny P md l.toArray Q (m + (tailIx sp l.toArray.size).length) (listed.setIfInBounds k true) (a.put ok.dst v) w' := by
      intro v w' hg hp
      have hkin : k < listed.size := by rw [inv.size, hsize]; exact hkl
      have hset : ∀ j, (listed.setIfInBounds k true).getD j false = true → j = k ∨ listed.getD j false = true := fun j hj => by
        by_cases e : k = j
        · exact .inl e.symm
        · rw [getD_set_ne false e] at hj; exact .inr hj
      refine ih _ _ _ ⟨by simp [inv.size], fun j oj hj hlj e he hb => ?_, fun t ht1 ht2 => ?_, (inv.gr.mono (S2 := US W (fun i => (listed.setIfInBounds k true).getD i false = true)) fun b ⟨i, hi, hw⟩ => ⟨i, getD_set_true hi, hw⟩).trans (hg.mono fun b hw => ⟨k, by simp [hkin], hw⟩), by rw [put_size]; exact inv.tmps, by rw [put_dfs]; exact inv.dfs, fun t htn => ?_, fun j d hj hs hlj hd => ?_⟩ ?_
      · rcases hset j hlj with rfl | hlj
        · have : oj = ok := Option.some.inj (hj.symm.trans hok)
          subst this
          exact getD_set_true (hkall e he hb)
        · exact getD_set_true (inv.closed j oj hj hlj e he hb)
      · have htk : k ≠ t := fun e => by subst e; rw [hkh] at ht1; cases ht1
        rw [getD_set_ne true htk]; exact inv.tail t ht1 ht2
      · have h1 : a.tmps.getD t undef = a0.tmps.getD t undef := inv.same t fun j hj hs hlj => htn j hj hs (getD_set_true hlj)
        have h2 := htn k (by rw [hsize]; exact hkl) hkh (by simp [hkin])
        cases hdst : ok.dst with
        | none => exact h1
        | some d =>
          rw [put_getD, if_neg (by rintro ⟨e, _⟩; subst e; exact h2 (by simp [dstOf, hokl, hdst]))]
          exact h1
      · rw [hsize] at hj
        rcases Decidable.em (j = k) with rfl | hjk
        · have hdst : ok.dst = d := by simpa [dstOf, hokl] using hd
          subst hdst
          cases hdk : ok.dst with
          | none => rw [hdk] at hp; exact hp
          | some dk =>
            rw [hdk] at hp
            show postAt ps j ((a.put (some dk) v).tmps.getD dk undef) w'
            rw [put_getD, if_pos ⟨rfl, by rw [inv.tmps, hN]; exact hd1 dk hdk⟩]
            exact hp
        · have hlj' : listed.getD j false = true := (hset j hlj).resolve_left hjk
          have h1 := hst j hj hs _ _ _ (inv.post j d (by rw [hsize]; exact hj) hs hlj' hd) (hg.mono fun b hw => ⟨k, fun e => hjk e.symm, hw⟩)
          cases d with
          | none => exact h1
          | some dj =>
            cases hdst : ok.dst with
            | none => exact h1
            | some dk =>
              show postAt ps j ((a.put (some dk) v).tmps.getD dj undef) w'
              rw [put_getD, if_neg (by rintro ⟨e, _⟩; subst e; exact hd5 j hj hs hjk dj hdst hd)]
              exact h1
      · -- one fewer
        have hkL : k ∈ (headIx sp l.toArray.size).filter fun i => !listed.getD i true := (hmem k).2 ⟨hkl, hkh, hkun⟩
        have hnd : ((headIx sp l.toArray.size).filter fun i => !listed.getD i true).Nodup := (List.nodup_range.filter _).filter _
        have he : ((headIx sp l.toArray.size).filter fun i => !(listed.setIfInBounds k true).getD i true) = ((headIx sp l.toArray.size).filter fun i => !listed.getD i true).filter fun i => i != k := by
          rw [List.filter_filter]
          refine List.filter_congr fun i hi => ?_
          by_cases e : k = i
          · subst e; simp [hkin]
          · rw [getD_set_ne true e]
            have : (i != k) = true := by simp; exact fun h => e h.symm
            rw [this, Bool.true_and]
        rw [he, ← List.Nodup.erase_eq_filter hnd, List.length_erase_of_mem hkL, hm]
        rfl
    unfold wpOp
    simp only [hok]
    have hKk : oblX P (W k) l.toArray ok a' w (postAt ps k) := by simpa using hK
    have hnx : ∀ v w', GrX (W k) w w' → (postAt ps k v w' ∧ (ok.dst = none → postAt ps k undef w')) → wpAny P md l.toArray Q (m + (tailIx sp l.toArray.size).length) (listed.setIfInBounds k true) (a.put ok.dst v) w' := fun v w' h1 h2 => hnext v w' h1 (by
      cases hd : ok.dst with
      | none => exact h2.2 hd
      | some d => exact h2.1)
    have hund := hdu k ok ds hokl hds
    unfold oblX at hKk
    cases hg : ok.guard with
    | none =>
      rw [hg] at hKk
      rw [if_pos (by simp [Region.wanted, hg])]
      have : xAt P (W k) ok a w (postAt ps k) := by unfold xAt at *; rw [← hex]; exact hKk
      exact .inl (wp_of_xAt this fun v w' h1 h2 => hnx v w' h1 ⟨h2, fun h => hund h v w' h2⟩)
    | some g =>
      rw [hg] at hKk
      simp only [hwa] at hKk
      by_cases hw : Region.wanted ok (yielded l.toArray a.tmps) = true
      · rw [if_pos hw] at hKk ⊢
        have : xAt P (W k) ok a w (postAt ps k) := by unfold xAt at *; rw [← hex]; exact hKk
        exact .inl (wp_of_xAt this fun v w' h1 h2 => hnx v w' h1 ⟨h2, fun h => hund h v w' h2⟩)
      · rw [if_neg hw] at hKk ⊢
        exact hnx _ _ (GrX.refl _ _) ⟨hKk, fun _ => hKk⟩

def undB (l : List Oper) (ps : List Post) : Prop := ∀ k o, l[k]? = some o → o.dst = none → ∀ v w, postAt ps k v w → postAt ps k undef w
/-- **A region that draws its order; some operations write.** W i: the blocks that operation i may write. -/
theorem wp_region_growX {id : Nat} {Q : Exit → Act → World → Prop} {a0 : Act} {w0 : World} {l : List Oper} (W : Nat → Nat → Prop) (sp : List (Option (List (Nat × Tmp)))) (ps : List Post) (N : Nat) (hm : P.follows .mixedOrders = true)
    (hN : a0.tmps.size = N) (hsp : l.length = sp.length) (hB : grB .any l.toArray sp N = true) (hst : ∀ j, j < sp.length → StabX (US W (· ≠ j)) (postAt ps j)) (hdu : ∀ j, j < sp.length → ((l[j]?).bind (·.dst)).isNone = true → ∀ v w, postAt ps j v w → postAt ps j undef w) (hob : oblGoX P W l.toArray ps a0 w0 l sp 0)
    (hend : ∀ w', GrX (US W (fun _ => True)) w0 w' → withDepsX ps w' (fun a => wpList P l.toArray Q (tailOps l sp) a w') (headDsX l sp 0) a0) : (Code.region id l.toArray true).wp P Q a0 w0 := by
  refine wp_region_any hm ?_
  have H := wpAny_growX (Q := Q) (md := .any) hN rfl hsp hB (fun j hj _ => hst j (by rw [← hsp]; exact hj)) hob (fun k o ds hk _ hd => hdu k (by rw [← hsp]; exact (List.getElem?_eq_some_iff.1 hk).1) (by simp [hk, hd])) hend _ (Array.replicate l.toArray.size false) a0 { w0 with drawn := w0.drawn + 1 }
    ⟨by simp, fun j oj _ hl => (by rw [getD_replicate_false] at hl; cases hl), fun t _ ht => getD_in (by simpa using ht) (getD_replicate_false _ _), ⟨rfl, rfl, rfl, Nat.le_refl _, fun _ _ _ => rfl⟩, rfl, rfl, fun _ _ => rfl, fun j d _ _ hl => (by rw [getD_replicate_false] at hl; cases hl)⟩ rfl
  have hlen : ((headIx sp l.toArray.size).filter fun i => !(Array.replicate l.toArray.size false).getD i true).length + (tailIx sp l.toArray.size).length = l.toArray.size := by
    have h1 : ((headIx sp l.toArray.size).filter fun i => !(Array.replicate l.toArray.size false).getD i true) = headIx sp l.toArray.size := by
      refine List.filter_eq_self.2 fun i hi => ?_
      have hi' := (mem_headIx.1 hi).1
      simp at hi' ⊢
      simp [hi']
    rw [h1]
    unfold headIx tailIx
    simp only [← Option.not_isSome]
    have := List.length_eq_countP_add_countP (fun k => ((sp[k]?).join).isSome) (l := List.range l.toArray.size)
    rw [List.countP_eq_length_filter, List.countP_eq_length_filter, List.length_range] at this
    have e : (List.filter (fun k => !((sp[k]?).join).isSome) (List.range l.toArray.size)) = List.filter (fun k => decide ¬((sp[k]?).join).isSome = true) (List.range l.toArray.size) := List.filter_congr fun k _ => by cases ((sp[k]?).join).isSome <;> rfl
    rw [e]
    exact this.symm
  rw [hlen] at H
  exact H
end
section
variable {P : Program} {ops : Array Oper} {o : Oper} {a : Act} {w : World} {S : Nat → Prop} {p : Post}
theorem x_val {v : Value} {w1 : World} (hrun : (execOp a.eval o).run P w = .ok (.value v) w1) (hg : GrX S w w1) (hp : p v w1) : xAt P S o a w p := by
  unfold xAt
  rw [hrun]
  exact ⟨hg, hp⟩
theorem x_store (ty : TypeId) (x y : Operand) (ho : o.op = .store ty x y) (g : Nat) (old cells : Array Value) (hx : a.eval x = .pointer (some ⟨g, 0, none⟩)) (hy : a.eval y = .agg cells)
    (t : TypeId) (hb : Blk w g t old) (hi : (P.info? ty).map (·.size) = some cells.size) (hs : old.size = cells.size) (h1 : cells.toList.all (·.oneCell') = true) (hS : S g)
    (hp : ∀ w1, Blk w1 g t cells → w.grownBy w1 (some g) → p undef w1) : xAt P S o a w p := by
  have hw : w.grownBy (w.setRow g cells) (some g) := by
    refine ⟨rfl, rfl, rfl, by simp, fun k _ hk => ?_⟩
    simp only [World.setRow]
    rw [Array.getElem?_modify, if_neg (fun e => hk (by rw [e]))]
  have hb2 : Blk (w.setRow g cells) g t cells := by
    unfold Blk at hb ⊢
    simp [World.setRow, Array.getElem?_modify, hb]
  have hgx : GrX S w (w.setRow g cells) := (GrX.grown (S := fun k => k = g) hw rfl).mono fun k e => by subst e; exact hS
  unfold xAt execOp
  simp only [ho, hx, hy, Instr.storeAt, Instr.sureAddr, Sem.run_bind, Sem.run_pure, Result.andThen_ok, run_storeVar_row w g t ty old cells hb hi hs (by rw [← Array.all_toList]; exact h1)]
  exact ⟨hgx, hp _ hb2 hw⟩
/-- 'store' of one cell. -/
theorem x_store1 (ty : TypeId) (x y : Operand) (ho : o.op = .store ty x y) (g i : Nat) (old : Array Value) (hx : a.eval x = .pointer (some ⟨g, i, none⟩)) (u : Value) (hy : a.eval y = u)
    (t : TypeId) (hb : Blk w g t old) (hi : (P.info? ty).map (·.size) = some 1) (hs : i < old.size) (h1 : u.oneCell' = true) (hc : u.cells = #[u]) (hS : S g)
    (hp : ∀ w1 : World, Blk w1 g t (old.setIfInBounds i u) → w.grownBy w1 (some g) → p undef w1) : xAt P S o a w p := by
  have hw : w.grownBy (w.setCell ⟨g, i, none⟩ u) (some g) := ⟨rfl, rfl, rfl, by simp [World.setCell], fun k _ hne => Below.heap_setCell w ⟨g, i, none⟩ _ k (fun e => hne (by rw [e]))⟩
  have hcell : w.cell? ⟨g, i, none⟩ = some old[i] := by rw [hb.cell]; exact Array.getElem?_eq_getElem hs
  have := run_storeCells_cells (P := P) g i [u] 0 w (fun j hj => by
      obtain rfl : j = 0 := by simpa using hj
      simp [hcell]) (fun j hj => by
      obtain rfl : j = 0 := by simpa using hj
      exact hb.frozen i)
    (fun v hv => by rw [List.mem_singleton.1 hv]; exact h1)
  have hsv : (storeVar ty ⟨g, i, none⟩ u).run P w = .ok () (w.setCell ⟨g, i, none⟩ u) := by
    cases hq : P.info? ty with
    | none => simp [hq] at hi
    | some inf =>
      have hz : inf.size = 1 := by simpa [hq] using hi
      simp only [Nat.add_zero] at this
      simp [storeVar, sizeOf, typeInfo, hq, hc, hz, this]
      rfl
  have hgx : GrX S w (w.setCell ⟨g, i, none⟩ u) := (GrX.grown (S := fun k => k = g) hw rfl).mono fun k e => by subst e; exact hS
  unfold xAt execOp
  simp only [ho, hx, hy, Instr.storeAt, Instr.sureAddr, Sem.run_bind, Sem.run_pure, Result.andThen_ok, hsv]
  exact ⟨hgx, hp _ (hb.set_ i u) hw⟩
theorem stabx_eq {S : Nat → Prop} (u : Value) : StabX S fun v _ => v = u := fun _ _ _ h _ => h
theorem stabx_true {S : Nat → Prop} : StabX S fun _ _ => True := fun _ _ _ h _ => h
end
end Go.Proofs.Ytkjcedlgljeoiaa
