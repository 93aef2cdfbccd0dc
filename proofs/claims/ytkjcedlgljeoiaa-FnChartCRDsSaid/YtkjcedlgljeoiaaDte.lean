/- Texts Cd3, Cd4, Tr7, Cd5, Cd6, laid together. -/
import Derived.WalkKit
import Derived.WalkLawsBesides
import Derived.WalkSpells
import Derived.Lib.Hide
import Derived.Deep.RegionWith
import Derived.Deep.DeepCutAuto
import Derived.Deep.QuietTactic
import Derived.BigQuiet
import Derived.Laws.OwnMore
import Derived.Deep.LoopGhost
import Derived.KernelRfl
import Derived.Deep.WholeRow
import Derived.StillTail
import Derived.SliceStrings
import Derived.Deep.Slices
import Derived.Deep.Fields
import Derived.ChangeSame
import Derived.Deep.MidRow
import Derived.Maps.AppendAt
import Derived.Lib.AppendStr
import Derived.Lib.ConvBytes
import Derived.Laws.BytesArg
import Derived.Deep.RegionLaw
import Derived.OwnWalk
import Derived.Maps.OwnSet
import Derived.Maps.OwnOps
import Derived.ArgAppend
import Derived.Defers
import Derived.Recover
import Derived.Laws.Pointers
import Derived.Laws.StructEq
import Derived.IntWalk
import Derived.Test.YtkjcedlgljeoiaaProg
import Derived.BigRegion
import Derived.Deep.CutBlock
import Derived.Carry
import Derived.LoopN
import Derived.Test.YtkjcedlgljeoiaaDtd
/- Charts' files that define resources: CRDs, CRDObjects; spec.ChCRDs. -/
namespace Go.Proofs.Ytkjcedlgljeoiaa
open Go.RowKit Go.Lib
set_option linter.unusedVariables false
set_option linter.unusedSimpArgs false
theorem filt_take {α : Type} {p : α → Bool} {l : List α} {k : Nat} (h : k < l.length) : (l.take (k + 1)).filter p = (l.take k).filter p ++ cond (p l[k]) [l[k]] [] := by
  rw [List.take_succ_eq_append_getElem h, List.filter_append]
  cases hp : p l[k] <;> simp [hp]
abbrev ocr (x : Option Addr × ByteArray) : Bool := crdB x.2
def zfs (o : Ob) : List (Option Addr × ByteArray) := o.ps.zip o.fs
/-- The files of an object that define resources. -/
def obCrd : Nat → Ob → List (Option Addr × ByteArray)
  | 0 => fun o => (zfs o).filter ocr
  | m + 1 => fun o => (zfs o).filter ocr ++ o.kids.flatMap (obCrd m)
def crdC (x : Option Addr × ByteArray × ByteArray) : List Value := [.string x.2.1, .string x.2.2, .pointer x.1]
theorem crdC_len (x : Option Addr × ByteArray × ByteArray) : (crdC x).length = 3 := rfl
theorem crdC_one (x : Option Addr × ByteArray × ByteArray) : ∀ u ∈ crdC x, u.oneCell' = true := fun u hu => by
  simp only [crdC, List.mem_cons, List.not_mem_nil, or_false] at hu
  rcases hu with rfl | rfl | rfl <;> rfl
def told (p : ByteArray) (x : Option Addr × ByteArray) : Option Addr × ByteArray × ByteArray := (x.1, x.2, p ++ (⟨#[47]⟩ : ByteArray) ++ x.2)
def obObj : Nat → ByteArray → Ob → List (Option Addr × ByteArray × ByteArray)
  | 0 => fun p o => ((zfs o).filter ocr).map (told p)
  | m + 1 => fun p o => ((zfs o).filter ocr).map (told p) ++ o.kids.flatMap fun k => obObj m (p ++ (⟨#[47, 99, 104, 97, 114, 116, 115, 47]⟩ : ByteArray) ++ k.n) k
theorem zfs_len {o : Ob} (h : o.ps.length = o.fs.length) : (zfs o).length = o.fs.length := by unfold zfs; rw [List.length_zip, h, Nat.min_self]
theorem zfs_at {o : Ob} {k : Nat} (h : o.ps.length = o.fs.length) (h1 : k < o.fs.length) : (zfs o)[k]'(by rw [zfs_len h]; exact h1) = (o.ps[k], o.fs[k]) := by unfold zfs; rw [List.getElem_zip]
theorem zfs_snd {o : Ob} (h : o.ps.length = o.fs.length) : (zfs o).map Prod.snd = o.fs := by unfold zfs; exact List.map_snd_zip (by omega)
theorem filt_snd : ∀ l : List (Option Addr × ByteArray), (l.filter ocr).map Prod.snd = (l.map Prod.snd).filter crdB
  | [] => rfl
  | x :: l => by
    have ih := filt_snd l
    cases hc : crdB x.2 with
    | true => rw [List.filter_cons_of_pos (p := ocr) hc, List.map_cons, List.map_cons, List.filter_cons_of_pos (p := crdB) hc, ih]
    | false => rw [List.filter_cons_of_neg (by rw [show ocr x = crdB x.2 from rfl, hc]; simp), List.map_cons, List.filter_cons_of_neg (by rw [hc]; simp), ih]
/-- The rows of names and pointers go together. -/
def ObZ : Nat → Ob → Prop
  | 0 => fun _ => True
  | m + 1 => fun o => o.ps.length = o.fs.length ∧ ∀ k ∈ o.kids, ObZ m k
theorem obZ_of {w : World} : ∀ {m : Nat} {o : Ob}, ObAt w m o → ObZ m o
  | 0, _, _ => trivial
  | m + 1, _, h => ⟨h.2.1.2.1, fun k hk => obZ_of (h.2.2.2 k hk).2⟩
theorem flat_map_map {α β γ δ : Type} {f : α → List β} {g : β → γ} {h : α → δ} {k : δ → List γ} : ∀ (l : List α), (∀ x ∈ l, (f x).map g = k (h x)) → (l.flatMap f).map g = (l.map h).flatMap k
  | [], _ => rfl
  | x :: l, hx => by
    rw [List.flatMap_cons, List.map_append, List.map_cons, List.flatMap_cons, hx x (List.mem_cons_self ..), flat_map_map l fun y hy => hx y (List.mem_cons_of_mem _ hy)]
theorem obCrd_names : ∀ {m : Nat} {o : Ob}, ObOk m o → ObZ m o → (obCrd m o).map Prod.snd = crdN m (Ob.pl m o)
  | 0, _, h, _ => h.elim
  | m + 1, o, h, hz => by
    show ((zfs o).filter ocr ++ o.kids.flatMap (obCrd m)).map Prod.snd = o.fs.filter crdB ++ (o.kids.map (Ob.pl m)).flatMap (crdN m)
    rw [List.map_append, filt_snd, zfs_snd hz.1, flat_map_map o.kids fun k hk => obCrd_names (h.2.2.2.2 k hk) (hz.2 k hk)]
theorem obObj_paths : ∀ {m : Nat} {o : Ob} {p : ByteArray}, ObOk m o → ObZ m o → (obObj m p o).map (fun x => x.2.2) = crdP m p (Ob.pl m o)
  | 0, _, _, h, _ => h.elim
  | m + 1, o, p, h, hz => by
    show (((zfs o).filter ocr).map (told p) ++ o.kids.flatMap fun k => obObj m (p ++ (⟨#[47, 99, 104, 97, 114, 116, 115, 47]⟩ : ByteArray) ++ k.n) k).map (fun x => x.2.2) = (o.fs.filter crdB).map (fun f => p ++ (⟨#[47]⟩ : ByteArray) ++ f) ++ (o.kids.map (Ob.pl m)).flatMap fun d => crdP m (p ++ (⟨#[47, 99, 104, 97, 114, 116, 115, 47]⟩ : ByteArray) ++ d.n) d
    rw [List.map_append, List.map_map, flat_map_map (h := Ob.pl m) (k := fun d => crdP m (p ++ (⟨#[47, 99, 104, 97, 114, 116, 115, 47]⟩ : ByteArray) ++ d.n) d) o.kids fun k hk => by rw [Ob.pl_n]; exact obObj_paths (h.2.2.2.2 k hk) (hz.2 k hk)]
    congr 1
    have e : (fun x : Option Addr × ByteArray × ByteArray => x.2.2) ∘ told p = (fun f : ByteArray => p ++ (⟨#[47]⟩ : ByteArray) ++ f) ∘ Prod.snd := rfl
    rw [e, ← List.map_map, filt_snd, zfs_snd hz.1]
theorem crd_cell {w : World} : ∀ {m : Nat} {o : Ob}, ObOk m o → ObAt w m o → ∀ x ∈ obCrd m o, ∃ g, x.1 = some ⟨g, 0, none⟩ ∧ w.cell? ⟨g, 0, none⟩ = some (.string x.2)
  | 0, _, h, _, _, _ => h.elim
  | m + 1, o, h, ha, x, hx => by
    rcases List.mem_append.1 (show x ∈ (zfs o).filter ocr ++ o.kids.flatMap (obCrd m) from hx) with hx | hx
    · obtain ⟨i, hi, rfl⟩ := List.getElem_of_mem (List.mem_filter.1 hx).1
      have hi2 : i < o.fs.length := by rw [← zfs_len ha.2.1.2.1]; exact hi
      rw [zfs_at ha.2.1.2.1 hi2]
      exact ha.2.1.2.2 i hi2 (by rw [ha.2.1.2.1]; exact hi2)
    · obtain ⟨k, hk, hx⟩ := List.mem_flatMap.1 hx
      exact crd_cell (h.2.2.2.2 k hk) (ha.2.2.2 k hk).2 x hx
theorem crd_cnt : ∀ {m : Nat} {o : Ob}, ObOk m o → ObZ m o → (obCrd m o).length ≤ 5 * Pt.cnt m (Ob.pl m o)
  | 0, _, h, _ => h.elim
  | m + 1, o, h, hz => by
    show ((zfs o).filter ocr ++ o.kids.flatMap (obCrd m)).length ≤ 5 * (1 + ((o.kids.map (Ob.pl m)).map (Pt.cnt m)).sum)
    have h1 : ((zfs o).filter ocr).length ≤ 5 := Nat.le_trans (List.length_filter_le ..) (by rw [zfs_len hz.1]; exact h.2.1)
    have h2 : ∀ l : List Ob, (∀ k ∈ l, ObOk m k ∧ ObZ m k) → (l.flatMap (obCrd m)).length ≤ 5 * ((l.map (Ob.pl m)).map (Pt.cnt m)).sum := fun l => by
      induction l with
      | nil => exact fun _ => Nat.zero_le _
      | cons k l ih =>
        intro hl
        have ih := ih fun y hy => hl y (List.mem_cons_of_mem _ hy)
        have hk := crd_cnt (hl k (List.mem_cons_self ..)).1 (hl k (List.mem_cons_self ..)).2
        rw [List.flatMap_cons, List.length_append, List.map_cons, List.map_cons, List.sum_cons]; omega
    have h3 := h2 o.kids fun k hk => ⟨h.2.2.2.2 k hk, hz.2 k hk⟩
    rw [List.length_append]; omega
theorem take_flat_le {α β : Type} {f : α → List β} : ∀ (l : List α) (k : Nat), ((l.take k).flatMap f).length ≤ (l.flatMap f).length
  | [], k => by simp
  | x :: l, 0 => Nat.zero_le _
  | x :: l, k + 1 => by rw [List.take_succ_cons, List.flatMap_cons, List.flatMap_cons, List.length_append, List.length_append]; have := take_flat_le (f := f) l k; omega
abbrev CrdsC (m : Nat) : Prop := ∀ (o : Ob) (v6 : Value) (R : Ctx) (L : List SA) (w : World) (S : Sp R w (L)) (h0 : Rf R L fun w => Blk w (o.g) 245 #[.slice none 0 0, .pointer (some ⟨o.gm, 0, none⟩), .slice none 0 0, .map none, .slice none 0 0, .slice (o.fA) (o.ps.length) (o.fc), v6, .slice (o.dA) (o.kids.length) (o.dc)]) (h1 : Rf R L fun w => ObAt w (m) o) (ho : ObOk (m) o) (hz : Pt.cnt (m) (Ob.pl (m) o) ≤ 100), Calls Try.prog 99 #[.pointer (some ⟨o.g, 0, none⟩)] w fun e w' => ∃ A : Option Addr, ∃ c : Nat, ∃ qs : List (Option Addr), e = .returned (.slice A qs.length c) ∧ Sp R w' (SA.own (.slice A qs.length c) 169 1 qs.length (pps qs) :: L) ∧ (qs = (obCrd (m) o).map Prod.fst)
set_option maxRecDepth 100000 in
set_option maxHeartbeats 20000000 in
theorem crds_S (m : Nat) (o : Ob) (v6 : Value) (R : Ctx) (L : List SA) (w : World) (S : Sp R w (L)) (h0 : Rf R L fun w => Blk w (o.g) 245 #[.slice none 0 0, .pointer (some ⟨o.gm, 0, none⟩), .slice none 0 0, .map none, .slice none 0 0, .slice (o.fA) (o.ps.length) (o.fc), v6, .slice (o.dA) (o.kids.length) (o.dc)]) (h1 : Rf R L fun w => ObAt w (m + 1) o) (ih : CrdsC m) (ho : ObOk (m + 1) o) (hz : Pt.cnt (m + 1) (Ob.pl (m + 1) o) ≤ 100) :
    Calls Try.prog 99 #[.pointer (some ⟨o.g, 0, none⟩)] w fun e w' => ∃ A : Option Addr, ∃ c : Nat, ∃ qs : List (Option Addr), e = .returned (.slice A qs.length c) ∧ Sp R w' (SA.own (.slice A qs.length c) 169 1 qs.length (pps qs) :: L) ∧ (qs = (obCrd (m + 1) o).map Prod.fst) := by
  obtain ⟨ho1, ho2, ho3, ho4, ho5⟩ := ho
  have hZ0 := obZ_of (h1 _ S)
  have hZ := hZ0.1
  have hF : Rf R L fun w => Sl w o.fA (pps o.ps) := fun w S => (h1 w S).2.1.1
  have hK : Rf R L fun w => Sl w o.dA (pps (o.kids.map Ob.ptr)) := fun w S => (h1 w S).2.2.1
  have hpl : o.ps.length ≤ 5 := by omega
  have hzl := zfs_len hZ
  have hcz : 1 + ((o.kids.map (Ob.pl m)).map (Pt.cnt m)).sum ≤ 100 := hz
  have hzc := crd_cnt (m := m + 1) (o := o) ⟨ho1, ho2, ho3, ho4, ho5⟩ hZ0
  refine fw_enter (fn := Try.f99) rfl rfl 48 rfl (Nat.le_of_ble_eq_true rfl) ?_
  intro a0 F0
  refine wp_seq_k fun K1 hK1 => ?_
  refine wp_region_lit ?_
  refine op_q F0 (.slice none 0 0) ?_; intro a2 F2
  refine wpList_nil ?_
  refine hK1 _ _ ?_; clear hK1 K1
  refine wp_seq_k fun K3 hK3 => ?_
  refine wp_region_lit ?_
  refine op_sq F2 (s_news F2 169 #[] 0 (by kernel_rfl) (by kernel_rfl) (by kernel_rfl) S) ?_
  rintro _ _ w5 ⟨g3, rfl, rfl⟩ S5 a5 F5
  refine op_q F5 (.slice (some ⟨g3, 0, none⟩) 0 0) ?_; intro a6 F6
  refine wpList_nil ?_
  refine hK3 _ _ ?_; clear hK3 K3
  refine wp_seq_k fun K7 hK7 => ?_
  refine wp_seq_k fun K8 hK8 => ?_
  refine wp_region_lit ?_
  refine op_q F6 (.pointer (some ⟨o.g, 0, none⟩)) ?_; intro a9 F9
  refine op_q F9 (.pointer (some ⟨o.g, 0, none⟩)) ?_; intro a10 F10
  refine op_q F10 (.pointer (some ⟨o.g, 5, none⟩)) ?_; intro a11 F11
  refine op_rq (v := .slice (o.fA) (o.ps.length) (o.fc)) F11 (r_ld rfl (F11.e (.pointer (some ⟨o.g, 5, none⟩))) (v := .slice (o.fA) (o.ps.length) (o.fc)) ((h0 _ S5.drop).cell 5) Try.underlying167 rfl) ?_; intro a12 F12
  refine op_q F12 (.int .i64 (↑o.ps.length)) ?_; intro a13 F13
  refine op_q F13 (.int .i64 0) ?_; intro a14 F14
  refine wpList_nil ?_
  refine hK8 _ _ ?_; clear hK8 K8
  refine wp_block ?_
  have S15 : Sp R w5 (SA.own (.slice (some ⟨g3, 0, none⟩) 0 0) 169 1 0 (pps []) :: L) := Sp.ofblk (sz := 1) (m := 0) (l := pps []) S5 rfl (by omega) rfl
  refine fw_loop (fun m' a' w' => ∃ A : Option Addr, ∃ c : Nat, ∃ qs : List (Option Addr), ∃ k : Nat, o.ps.length - k = m' ∧ Fr 48 [] a' [(0, .pointer (some ⟨o.g, 0, none⟩)), (2, .slice none 0 0), (3, .slice A qs.length c), (12, .slice (o.fA) (o.ps.length) (o.fc)), (13, .int .i64 (↑o.ps.length)), (14, .int .i64 (↑k))] ∧ Sp R w' (SA.own (.slice A qs.length c) 169 1 qs.length (pps qs) :: L) ∧ (k ≤ o.ps.length) ∧ (qs = (((zfs o).take k).filter ocr).map Prod.fst)) _ ⟨(some ⟨g3, 0, none⟩), 0, [], 0, rfl, (F14.kk 0 (F14.kk 2 (F14.kk 3 (F14.kk 12 (F14.kk 13 (F14.kk 14 F14.nil)))))), S15, (by first | omega | (with_reducible assumption) | (simp; done)), rfl⟩ ?_
  rintro m16 a16 w16 ⟨A, c, qs, k, hm16, F16, S16, hk, hq⟩ K16 hK16
  by_cases hlt_k : k < o.ps.length
  · have hc_k : decide ((↑k : Int) < ↑o.ps.length) = true := by first | (simp; done) | (simp; omega)
    have hlt_k2 : k < o.fs.length := by omega
    have hlt_k3 : k < (zfs o).length := by omega
    have hzk := zfs_at hZ hlt_k2
    have hfk := ho3 _ (List.getElem_mem hlt_k2)
    have hfz := hfk.size
    have hfa := file_asc hfk
    obtain ⟨gk, hgk, _⟩ := (h1 _ S16.drop).2.1.2.2 k hlt_k2 hlt_k
    have hNk : Rf R L fun w => w.cell? ⟨gk, 0, none⟩ = some (.string o.fs[k]) := fun w S => by obtain ⟨g2, e2, hc2⟩ := (h1 w S).2.1.2.2 k hlt_k2 hlt_k; rw [hgk] at e2; injection e2 with e2; injection e2 with e2; subst e2; exact hc2
    have hqb : qs.length ≤ 1000 := by rw [hq, List.length_map]; have := List.length_filter_le ocr ((zfs o).take k); rw [List.length_take] at this; omega
    obtain ⟨ad17, hA17⟩ := (hF _ S16.drop).addr (by simp [pps]; omega)
    refine wp_seq_k fun K18 hK18 => ?_
    refine wp_region_lit ?_
    refine op_q F16 (.bool (decide ((↑k : Int) < ↑o.ps.length))) ?_; intro a19 F19
    have F20 := F19.sb 15 (by kernel_rfl) hc_k
    refine wpList_nil ?_
    refine hK18 _ _ ?_; clear hK18 K18
    refine wp_seq_k fun K21 hK21 => ?_
    refine wp_cond_true (F20.ev (by kernel_rfl)) ?_
    refine wp_skip ?_
    refine hK21 _ _ ?_; clear hK21 K21
    refine wp_seq_k fun K22 hK22 => ?_
    refine wp_block ?_
    refine wp_seq_k fun K23 hK23 => ?_
    refine wp_region_lit ?_
    refine op_rq (v := .pointer (some (ad17.add k))) F20 (r_ix rfl Try.underlying167 1 (by kernel_rfl) (F20.e (.slice (o.fA) (o.ps.length) (o.fc))) hA17 (F20.e (.int .i64 (↑k))) k (by first | rfl | omega | simp) (by first | omega | (simp; done) | (simp; omega)) (by simp only [Nat.mul_one])) ?_; intro a24 F24
    refine op_rq (v := .pointer (some ⟨gk, 0, none⟩)) F24 (r_ld rfl (F24.e (.pointer (some (ad17.add k)))) (v := .pointer (some ⟨gk, 0, none⟩)) ((hF _ S16.drop).elA hA17 (j := k) (by simp only [pps, List.getElem?_map, List.getElem?_eq_getElem hlt_k, hgk]; rfl)) Try.underlying169 rfl) ?_; intro a25 F25
    refine op_q F25 (.pointer (some ⟨gk, 0, none⟩)) ?_; intro a26 F26
    refine wpList_nil ?_
    refine hK23 _ _ ?_; clear hK23 K23
    refine wp_seq_k fun K27 hK27 => ?_
    refine wp_region_lit ?_
    refine op_q F26 (.pointer (some ⟨gk, 0, none⟩)) ?_; intro a28 F28
    refine op_q F28 (.pointer (some ⟨gk, 0, none⟩)) ?_; intro a29 F29
    refine op_q F29 (.pointer (some ⟨gk, 0, none⟩)) ?_; intro a30 F30
    refine op_rq (v := .string o.fs[k]) F30 (r_ld rfl (F30.e (.pointer (some ⟨gk, 0, none⟩))) (v := .string o.fs[k]) (hNk _ S16.drop) Try.underlying9 rfl) ?_; intro a31 F31
    refine op_cq F31 (f := 144) (args := #[.string o.fs[k], .string ⟨#[99, 114, 100, 115, 47]⟩]) (hasPrefix_any o.fs[k] ⟨#[99, 114, 100, 115, 47]⟩ _ _ _ S16 ) ?_
    rintro _ w32 ⟨rfl, S32⟩
    refine ⟨_, rfl, ?_⟩
    intro a33 F33
    refine op_q F33 (.bool (hasPreB o.fs[k] ⟨#[99, 114, 100, 115, 47]⟩)) ?_; intro a34 F34
    rcases btf (hasPreB o.fs[k] ⟨#[99, 114, 100, 115, 47]⟩) with hc35 | hc35
    · have F36 := F34.sb 22 (by kernel_rfl) hc35
      have F37 := F36.sb 23 (by kernel_rfl) hc35
      refine op_wq F37 ?_
      refine op_q F37 (.pointer (some ⟨gk, 0, none⟩)) ?_; intro a38 F38
      refine op_wq F38 ?_
      refine op_q F38 (.pointer (some ⟨gk, 0, none⟩)) ?_; intro a39 F39
      refine op_wq F39 ?_
      refine op_q F39 (.pointer (some ⟨gk, 0, none⟩)) ?_; intro a40 F40
      refine op_wq F40 ?_
      refine op_rq (v := .string o.fs[k]) F40 (r_ld rfl (F40.e (.pointer (some ⟨gk, 0, none⟩))) (v := .string o.fs[k]) (hNk _ S32.drop) Try.underlying9 rfl) ?_; intro a41 F41
      refine op_wq F41 ?_
      refine op_cq F41 (f := 165) (args := #[.string o.fs[k]]) (hasExt_sp o.fs[k] _ _ _ S32 (by omega) hfa) ?_
      rintro _ w42 ⟨rfl, S42⟩
      refine ⟨_, rfl, ?_⟩
      intro a43 F43
      refine op_q F43 (.bool (isYaml (extAt o.fs[k] o.fs[k].size))) ?_; intro a44 F44
      refine wpList_nil ?_
      refine hK27 _ _ ?_; clear hK27 K27
      rcases btf (isYaml (extAt o.fs[k] o.fs[k].size)) with hc45 | hc45
      · have F46 := F44.sb 28 (by kernel_rfl) hc45
        have F47 := F46.sb 29 (by kernel_rfl) hc45
        refine wp_cond_true (F47.ev (by kernel_rfl)) ?_
        refine wp_region_lit ?_
        refine op_q F47 (.slice A qs.length c) ?_; intro a48 F48
        refine op_q F48 (.pointer (some ⟨gk, 0, none⟩)) ?_; intro a49 F49
        refine op_sq F49 (s_news F49 169 #[.pointer (some ⟨gk, 0, none⟩)] 1 (by kernel_rfl) (by kernel_rfl) (by kernel_rfl) S42) ?_
        rintro _ _ w51 ⟨g49, rfl, rfl⟩ S51 a51 F51
        refine op_sq F51 (s_app rfl Try.underlying167 1 _ tin169 rfl rfl (F51.e (.slice A qs.length c)) S51.p1 ([Value.pointer (some ⟨gk, 0, none⟩)]) (F51.e (.slice (some ⟨g49, 0, none⟩) 1 1)) ((S51.bk 0 rfl).sl (by simp)) rfl (by simp [Value.oneCell']) (by omega) (by omega) (n' := (qs ++ [some (⟨gk, 0, none⟩ : Addr)]).length) (by first | (simp; done) | (simp; omega)) (cs' := pps (qs ++ [some (⟨gk, 0, none⟩ : Addr)])) (by simp [pps])) ?_
        rintro _ _ w53 ⟨A52, c52, rfl, rfl⟩ S53 a53 F53
        refine op_q F53 (.slice A52 ((qs ++ [some (⟨gk, 0, none⟩ : Addr)]).length) c52) ?_; intro a54 F54
        refine wpList_nil ?_
        refine hK22 _ _ ?_; clear hK22 K22
        refine wp_region_lit ?_
        refine op_rq (v := .int .i64 (↑(k + 1))) F54 (r_add (z := ↑(k + 1)) rfl (F54.e (.int .i64 (↑k))) (F54.e (.int .i64 1)) (wr64 (by omega) (by omega) (by omega))) ?_; intro a55 F55
        refine op_q F55 (.int .i64 (↑(k + 1))) ?_; intro a56 F56
        refine wpList_nil ?_
        exact hK16 _ _ _ (by first | omega | (simp; omega)) ⟨A52, c52, (qs ++ [some (⟨gk, 0, none⟩ : Addr)]), k + 1, rfl, (F56.kk 0 (F56.kk 2 (F56.kk 3 (F56.kk 12 (F56.kk 13 (F56.kk 14 F56.nil)))))), S53.p1.drop, (by first | omega | (with_reducible assumption) | (simp; done)), (by have hck : crdB o.fs[k] = true := (by unfold crdB; rw [hc35, hc45]; rfl); rw [filt_take hlt_k3, List.map_append, ← hq, hzk, show ocr (o.ps[k], o.fs[k]) = crdB o.fs[k] from rfl, hck]; rw [hgk]; rfl)⟩
      · have F57 := F44.sb 28 (by kernel_rfl) hc45
        have F58 := F57.sb 29 (by kernel_rfl) hc45
        refine wp_cond_false (F58.ev (by kernel_rfl)) ?_
        refine wp_skip ?_
        refine hK22 _ _ ?_; clear hK22 K22
        refine wp_region_lit ?_
        refine op_rq (v := .int .i64 (↑(k + 1))) F58 (r_add (z := ↑(k + 1)) rfl (F58.e (.int .i64 (↑k))) (F58.e (.int .i64 1)) (wr64 (by omega) (by omega) (by omega))) ?_; intro a59 F59
        refine op_q F59 (.int .i64 (↑(k + 1))) ?_; intro a60 F60
        refine wpList_nil ?_
        exact hK16 _ _ _ (by first | omega | (simp; omega)) ⟨A, c, qs, k + 1, rfl, (F60.kk 0 (F60.kk 2 (F60.kk 3 (F60.kk 12 (F60.kk 13 (F60.kk 14 F60.nil)))))), S42, (by first | omega | (with_reducible assumption) | (simp; done)), (by have hck : crdB o.fs[k] = false := (by unfold crdB; rw [hc35, hc45]; rfl); rw [filt_take hlt_k3, List.map_append, ← hq, hzk, show ocr (o.ps[k], o.fs[k]) = crdB o.fs[k] from rfl, hck]; exact (List.append_nil _).symm)⟩
    · have F61 := F34.sb 22 (by kernel_rfl) hc35
      have F62 := F61.sb 23 (by kernel_rfl) hc35
      refine op_kq F62 ?_; intro a63 F63
      refine op_kq F63 ?_; intro a64 F64
      refine op_kq F64 ?_; intro a65 F65
      refine op_kq F65 ?_; intro a66 F66
      refine op_kq F66 ?_; intro a67 F67
      refine op_q F67 (.bool false) ?_; intro a68 F68
      refine wpList_nil ?_
      refine hK27 _ _ ?_; clear hK27 K27
      refine wp_cond_false (F68.ev (by kernel_rfl)) ?_
      refine wp_skip ?_
      refine hK22 _ _ ?_; clear hK22 K22
      refine wp_region_lit ?_
      refine op_rq (v := .int .i64 (↑(k + 1))) F68 (r_add (z := ↑(k + 1)) rfl (F68.e (.int .i64 (↑k))) (F68.e (.int .i64 1)) (wr64 (by omega) (by omega) (by omega))) ?_; intro a69 F69
      refine op_q F69 (.int .i64 (↑(k + 1))) ?_; intro a70 F70
      refine wpList_nil ?_
      exact hK16 _ _ _ (by first | omega | (simp; omega)) ⟨A, c, qs, k + 1, rfl, (F70.kk 0 (F70.kk 2 (F70.kk 3 (F70.kk 12 (F70.kk 13 (F70.kk 14 F70.nil)))))), S32, (by first | omega | (with_reducible assumption) | (simp; done)), (by have hck : crdB o.fs[k] = false := (by unfold crdB; rw [hc35]; rfl); rw [filt_take hlt_k3, List.map_append, ← hq, hzk, show ocr (o.ps[k], o.fs[k]) = crdB o.fs[k] from rfl, hck]; exact (List.append_nil _).symm)⟩
  · have hc_k : decide ((↑k : Int) < ↑o.ps.length) = false := by first | (simp; done) | (simp; omega)
    obtain rfl : k = o.ps.length := by omega
    rw [show (zfs o).take o.ps.length = zfs o from by rw [hZ, ← hzl, List.take_length]] at hq
    refine wp_seq_k fun K71 hK71 => ?_
    refine wp_region_lit ?_
    refine op_q F16 (.bool (decide ((↑o.ps.length : Int) < ↑o.ps.length))) ?_; intro a72 F72
    have F73 := F72.sb 15 (by kernel_rfl) hc_k
    refine wpList_nil ?_
    refine hK71 _ _ ?_; clear hK71 K71
    refine wp_seq_k fun K74 hK74 => ?_
    refine wp_cond_false (F73.ev (by kernel_rfl)) ?_
    refine wp_exit ?_
    refine ex_then ?_; clear hK74 K74
    refine ex_then ?_
    refine ex_in ?_
    refine hK7 _ _ ?_; clear hK7 K7
    refine wp_seq_k fun K75 hK75 => ?_
    refine wp_seq_k fun K76 hK76 => ?_
    refine wp_region_lit ?_
    refine op_q F73 (.pointer (some ⟨o.g, 0, none⟩)) ?_; intro a77 F77
    refine op_cq F77 (f := 132) (args := #[.pointer (some ⟨o.g, 0, none⟩)]) (deps_sp o.g (.slice none 0 0) (.pointer (some ⟨o.gm, 0, none⟩)) (.slice none 0 0) (.map none) (.slice none 0 0) (.slice (o.fA) (o.ps.length) (o.fc)) v6 o.dA o.kids.length o.dc _ _ _ S16 (fun w S => h0 w S.drop)) ?_
    rintro _ w78 ⟨rfl, S78⟩
    refine ⟨_, rfl, ?_⟩
    intro a79 F79
    refine op_q F79 (.int .i64 (↑o.kids.length)) ?_; intro a80 F80
    refine op_q F80 (.int .i64 0) ?_; intro a81 F81
    refine wpList_nil ?_
    refine hK76 _ _ ?_; clear hK76 K76
    refine wp_block ?_
    refine fw_loop (fun m' a' w' => ∃ A1 : Option Addr, ∃ c1 : Nat, ∃ qs1 : List (Option Addr), ∃ j : Nat, o.kids.length - j = m' ∧ Fr 48 [] a' [(2, .slice none 0 0), (3, .slice A1 qs1.length c1), (36, .slice (o.dA) (o.kids.length) (o.dc)), (37, .int .i64 (↑o.kids.length)), (38, .int .i64 (↑j))] ∧ Sp R w' (SA.own (.slice A1 qs1.length c1) 169 1 qs1.length (pps qs1) :: L) ∧ (j ≤ o.kids.length) ∧ (qs1 = ((zfs o).filter ocr ++ (o.kids.take j).flatMap (obCrd m)).map Prod.fst)) _ ⟨A, c, qs, 0, rfl, (F81.kk 2 (F81.kk 3 (F81.kk 36 (F81.kk 37 (F81.kk 38 F81.nil))))), S78, (by first | omega | (with_reducible assumption) | (simp; done)), (by rw [hq]; simp)⟩ ?_
    rintro m82 a82 w82 ⟨A1, c1, qs1, j, hm82, F82, S82, hj, hq1⟩ K82 hK82
    by_cases hlt_j : j < o.kids.length
    · have hc_j : decide ((↑j : Int) < ↑o.kids.length) = true := by first | (simp; done) | (simp; omega)
      have hlt_j2 : j < o.kids.length := by omega
      obtain ⟨ad83, hA83⟩ := (hK _ S82.drop).addr (by simp [pps]; omega)
      have hlt_j2 : j < o.kids.length := by omega
      have hkk := ho5 _ (List.getElem_mem hlt_j2)
      have hBk : Rf R L fun w => Blk w o.kids[j].g 245 #[.slice none 0 0, .pointer (some ⟨o.kids[j].gm, 0, none⟩), .slice none 0 0, .map none, .slice none 0 0, .slice o.kids[j].fA o.kids[j].ps.length o.kids[j].fc, .pointer (some ⟨o.g, 0, none⟩), .slice o.kids[j].dA o.kids[j].kids.length o.kids[j].dc] := fun w S => ((h1 w S).2.2.2 _ (List.getElem_mem hlt_j2)).1
      have hOk : Rf R L fun w => ObAt w m o.kids[j] := fun w S => ((h1 w S).2.2.2 _ (List.getElem_mem hlt_j2)).2
      have hsk := sum_take (f := Pt.cnt m) (l := o.kids.map (Ob.pl m)) (k := j) (by rw [List.length_map]; omega)
      rw [List.getElem_map] at hsk
      have hsk3 := hsk.2
      have hkc := crd_cnt hkk (hZ0.2 _ (List.getElem_mem hlt_j2))
      have hqb : qs1.length ≤ 10000 := by rw [hq1, List.length_map]; have h4 := take_flat_le (f := obCrd m) o.kids j; rw [List.length_append]; have h5 : ((zfs o).filter ocr ++ o.kids.flatMap (obCrd m)).length ≤ 5 * (1 + ((o.kids.map (Ob.pl m)).map (Pt.cnt m)).sum) := hzc; rw [List.length_append] at h5; omega
      refine wp_seq_k fun K84 hK84 => ?_
      refine wp_region_lit ?_
      refine op_q F82 (.bool (decide ((↑j : Int) < ↑o.kids.length))) ?_; intro a85 F85
      have F86 := F85.sb 39 (by kernel_rfl) hc_j
      refine wpList_nil ?_
      refine hK84 _ _ ?_; clear hK84 K84
      refine wp_seq_k fun K87 hK87 => ?_
      refine wp_cond_true (F86.ev (by kernel_rfl)) ?_
      refine wp_skip ?_
      refine hK87 _ _ ?_; clear hK87 K87
      refine wp_seq_k fun K88 hK88 => ?_
      refine wp_block ?_
      refine wp_seq_k fun K89 hK89 => ?_
      refine wp_region_lit ?_
      refine op_rq (v := .pointer (some (ad83.add j))) F86 (r_ix rfl Try.underlying211 1 (by kernel_rfl) (F86.e (.slice (o.dA) (o.kids.length) (o.dc))) hA83 (F86.e (.int .i64 (↑j))) j (by first | rfl | omega | simp) (by first | omega | (simp; done) | (simp; omega)) (by simp only [Nat.mul_one])) ?_; intro a90 F90
      refine op_rq (v := .pointer (some ⟨o.kids[j].g, 0, none⟩)) F90 (r_ld rfl (F90.e (.pointer (some (ad83.add j)))) (v := .pointer (some ⟨o.kids[j].g, 0, none⟩)) ((hK _ S82.drop).elA hA83 (j := j) (by simp only [pps, List.getElem?_map, List.getElem?_eq_getElem hlt_j2]; rfl)) Try.underlying125 rfl) ?_; intro a91 F91
      refine op_q F91 (.pointer (some ⟨o.kids[j].g, 0, none⟩)) ?_; intro a92 F92
      refine wpList_nil ?_
      refine hK89 _ _ ?_; clear hK89 K89
      refine wp_region_lit ?_
      refine op_q F92 (.slice A1 qs1.length c1) ?_; intro a93 F93
      refine op_q F93 (.pointer (some ⟨o.kids[j].g, 0, none⟩)) ?_; intro a94 F94
      have hcl95 := ih o.kids[j] (.pointer (some ⟨o.g, 0, none⟩)) _ _ _ S82 (fun w S => hBk w S.drop) (fun w S => hOk w S.drop) hkk (by omega)
      refine op_cq F94 (f := 99) hcl95 ?_
      rintro _ w95 ⟨A95, c95, qs95, rfl, S95, hp0_95⟩
      refine ⟨_, rfl, ?_⟩
      intro a96 F96
      have hqb2 : qs95.length ≤ 1000 := by rw [hp0_95, List.length_map]; omega
      refine op_sq F96 (s_app rfl Try.underlying167 1 _ tin169 rfl rfl (F96.e (.slice A1 qs1.length c1)) S95.p1 (pps qs95) (F96.e (.slice A95 qs95.length c95)) (own_sl1 (S95.ow 0 rfl) (by first | omega | (simp; omega))) (by first | (simp [strs, ptrs, pps]; done) | (simp [strs, ptrs, pps]; omega)) (by intro u hu; obtain ⟨x, _, rfl⟩ := List.mem_map.1 hu; rfl) (by omega) (by omega) (n' := (qs1 ++ qs95).length) (by first | (simp; done) | (simp; omega)) (cs' := pps (qs1 ++ qs95)) (by simp [pps])) ?_
      rintro _ _ w98 ⟨A97, c97, rfl, rfl⟩ S98 a98 F98
      refine op_q F98 (.slice A97 ((qs1 ++ qs95).length) c97) ?_; intro a99 F99
      refine wpList_nil ?_
      refine hK88 _ _ ?_; clear hK88 K88
      refine wp_region_lit ?_
      refine op_rq (v := .int .i64 (↑(j + 1))) F99 (r_add (z := ↑(j + 1)) rfl (F99.e (.int .i64 (↑j))) (F99.e (.int .i64 1)) (wr64 (by omega) (by omega) (by omega))) ?_; intro a100 F100
      refine op_q F100 (.int .i64 (↑(j + 1))) ?_; intro a101 F101
      refine wpList_nil ?_
      exact hK82 _ _ _ (by first | omega | (simp; omega)) ⟨A97, c97, (qs1 ++ qs95), j + 1, rfl, (F101.kk 2 (F101.kk 3 (F101.kk 36 (F101.kk 37 (F101.kk 38 F101.nil))))), S98.p1.drop, (by first | omega | (with_reducible assumption) | (simp; done)), (by rw [flat_take hlt_j2, ← List.append_assoc, List.map_append, ← hq1, hp0_95])⟩
    · have hc_j : decide ((↑j : Int) < ↑o.kids.length) = false := by first | (simp; done) | (simp; omega)
      obtain rfl : j = o.kids.length := by omega
      rw [List.take_length] at hq1
      refine wp_seq_k fun K102 hK102 => ?_
      refine wp_region_lit ?_
      refine op_q F82 (.bool (decide ((↑o.kids.length : Int) < ↑o.kids.length))) ?_; intro a103 F103
      have F104 := F103.sb 39 (by kernel_rfl) hc_j
      refine wpList_nil ?_
      refine hK102 _ _ ?_; clear hK102 K102
      refine wp_seq_k fun K105 hK105 => ?_
      refine wp_cond_false (F104.ev (by kernel_rfl)) ?_
      refine wp_exit ?_
      refine ex_then ?_; clear hK105 K105
      refine ex_then ?_
      refine ex_in ?_
      refine hK75 _ _ ?_; clear hK75 K75
      refine wp_seq_k fun K106 hK106 => ?_
      refine wp_region_lit ?_
      refine op_q F104 (.slice A1 qs1.length c1) ?_; intro a107 F107
      refine op_q F107 (.slice A1 qs1.length c1) ?_; intro a108 F108
      refine wpList_nil ?_
      refine hK106 _ _ ?_; clear hK106 K106
      refine wp_ret ?_
      refine (F108.res1 rfl (v := .slice A1 qs1.length c1) (by kernel_rfl) ?_).1
      exact ⟨A1, c1, qs1, rfl, S82, hq1⟩
theorem crds_sp : ∀ m : Nat, CrdsC m
  | 0 => fun o v6 R L w S h0 h1 ho _ => ho.elim
  | m + 1 => fun o v6 R L w S h0 h1 ho hz => crds_S m o v6 R L w S h0 h1 (crds_sp m) ho hz
end Go.Proofs.Ytkjcedlgljeoiaa

/- CRDObjects; spec.ChCRDs. -/
namespace Go.Proofs.Ytkjcedlgljeoiaa
open Go.RowKit Go.Lib
set_option linter.unusedVariables false
set_option linter.unusedSimpArgs false
theorem joinPath_2 (A : Option Addr) (c : Nat) (xs : List ByteArray) (R : Ctx) (L : List SA) (w : World) (S : Sp R w L) (h0 : Rf R L fun w => Sl w A (strs xs)) (e : xs.length = 2) (hx : ∀ x ∈ xs, x.size ≤ 300) : Calls Try.prog 148 #[.slice A 2 c] w fun e w' => e = .returned (.string (joinP xs)) ∧ Sp R w' L := by
  have := joinPath_any A c xs R L w S h0 (by omega) hx
  rwa [e] at this
theorem obOk_w {m : Nat} {t : Ob} (h : ObOk m t) : WordOk t.n := by cases m with | zero => exact h.elim | succ m => exact h.1
theorem path_kid {p n : ByteArray} (hp : PathOk p) (hn : WordOk n) : PathOk (p ++ (⟨#[47, 99, 104, 97, 114, 116, 115, 47]⟩ : ByteArray) ++ n) := by
  have h := (hp.join (PathOk.seg (x := ⟨#[99, 104, 97, 114, 116, 115]⟩) ⟨by decide, by decide, by decide⟩)).join (PathOk.seg (seg_word hn))
  have e : p ++ (⟨#[47, 99, 104, 97, 114, 116, 115, 47]⟩ : ByteArray) ++ n = p ++ (⟨#[47]⟩ : ByteArray) ++ (⟨#[99, 104, 97, 114, 116, 115]⟩ : ByteArray) ++ (⟨#[47]⟩ : ByteArray) ++ n := by
    rw [show (⟨#[47, 99, 104, 97, 114, 116, 115, 47]⟩ : ByteArray) = (⟨#[47]⟩ : ByteArray) ++ (⟨#[99, 104, 97, 114, 116, 115]⟩ : ByteArray) ++ (⟨#[47]⟩ : ByteArray) from rfl]; simp only [ba_assoc]
  rw [e]; exact h
theorem obObj_len : ∀ (m : Nat) (p : ByteArray) (o : Ob), (obObj m p o).length = (obCrd m o).length
  | 0, p, o => List.length_map _
  | m + 1, p, o => by
    show (((zfs o).filter ocr).map (told p) ++ o.kids.flatMap fun k => obObj m (p ++ (⟨#[47, 99, 104, 97, 114, 116, 115, 47]⟩ : ByteArray) ++ k.n) k).length = ((zfs o).filter ocr ++ o.kids.flatMap (obCrd m)).length
    rw [List.length_append, List.length_append, List.length_map, List.length_flatMap, List.length_flatMap]
    have : (fun k => (obObj m (p ++ (⟨#[47, 99, 104, 97, 114, 116, 115, 47]⟩ : ByteArray) ++ k.n) k).length) = fun k => (obCrd m k).length := by funext k; exact obObj_len m _ k
    rw [this]
theorem objs_cnt {m : Nat} {o : Ob} {p : ByteArray} (h : ObOk m o) (hz : ObZ m o) : (obObj m p o).length ≤ 5 * Pt.cnt m (Ob.pl m o) := by rw [obObj_len]; exact crd_cnt h hz
theorem spN_cnt : ∀ {m : Nat} {t : Tr}, TrOk m t → (crdN m (Tr.pl m t)).length ≤ 5 * Tr.cnt m t
  | 0, _, h => h.elim
  | m + 1, t, h => by
    show (t.fs.filter crdB ++ (t.kids.map (Tr.pl m)).flatMap (crdN m)).length ≤ 5 * (1 + (t.kids.map (Tr.cnt m)).sum)
    have h1 : (t.fs.filter crdB).length ≤ 5 := Nat.le_trans (List.length_filter_le ..) h.2.1
    have h2 : ∀ l : List Tr, (∀ k ∈ l, TrOk m k) → ((l.map (Tr.pl m)).flatMap (crdN m)).length ≤ 5 * (l.map (Tr.cnt m)).sum := fun l => by
      induction l with
      | nil => exact fun _ => Nat.zero_le _
      | cons k l ih =>
        intro hl
        have ih := ih fun y hy => hl y (List.mem_cons_of_mem _ hy)
        have hk := spN_cnt (hl k (List.mem_cons_self ..))
        rw [List.map_cons, List.flatMap_cons, List.length_append, List.map_cons, List.sum_cons]; omega
    have h3 := h2 t.kids h.2.2.2.2
    rw [List.length_append]; omega
theorem crdP_len : ∀ (m : Nat) (t : Pt) (p : ByteArray), (crdP m p t).length = (crdN m t).length
  | 0, t, p => List.length_map _
  | m + 1, t, p => by
    show ((t.fs.filter crdB).map _ ++ t.kids.flatMap fun d : Pt => crdP m (p ++ (⟨#[47, 99, 104, 97, 114, 116, 115, 47]⟩ : ByteArray) ++ d.n) d).length = (t.fs.filter crdB ++ t.kids.flatMap (crdN m)).length
    rw [List.length_append, List.length_append, List.length_map, List.length_flatMap, List.length_flatMap]
    have : (fun d : Pt => (crdP m (p ++ (⟨#[47, 99, 104, 97, 114, 116, 115, 47]⟩ : ByteArray) ++ d.n) d).length) = fun d => (crdN m d).length := by funext d; exact crdP_len m d _
    rw [this]
theorem flatP_len {m : Nat} {p : ByteArray} (l : List Pt) : (l.flatMap fun d : Pt => crdP m (p ++ (⟨#[47, 99, 104, 97, 114, 116, 115, 47]⟩ : ByteArray) ++ d.n) d).length = (l.flatMap (crdN m)).length := by
  rw [List.length_flatMap, List.length_flatMap]
  have : (fun d : Pt => (crdP m (p ++ (⟨#[47, 99, 104, 97, 114, 116, 115, 47]⟩ : ByteArray) ++ d.n) d).length) = fun d => (crdN m d).length := by funext d; exact crdP_len m d _
  rw [this]
abbrev CrdoC (m : Nat) : Prop := ∀ (a : Ob) (l : List Ob) (R : Ctx) (L : List SA) (w : World) (S : Sp R w (L)) (h0 : Rf R L fun w => ChnAt w (a :: l)) (h1 : Rf R L fun w => ObAt w (m) a) (ho : ObOk (m) a) (hz : Pt.cnt (m) (Ob.pl (m) a) ≤ 100) (hs : ChOk (a :: l)) (hd : (a :: l).length + (m) ≤ 10) (hp : PathOk (pathOf (a :: l)).fFull), Calls Try.prog 100 #[.pointer (some ⟨a.g, 0, none⟩)] w fun e w' => ∃ A : Option Addr, ∃ c : Nat, ∃ n : Nat, e = .returned (.slice A n c) ∧ Sp R w' (SA.own (.slice A n c) 175 3 n (flatC crdC (obObj (m) (pathOf (a :: l)).fFull a)) :: L) ∧ (n = (obObj (m) (pathOf (a :: l)).fFull a).length)
abbrev SpcC (m : Nat) : Prop := ∀ (t : Tr) (p : ByteArray) (R : Ctx) (L : List SA) (w : World) (S : Sp R w (L)) (h0 : Rf R L fun w => TrAt w (m) t) (ht : TrOk (m) t) (hz : Tr.cnt (m) t ≤ 100) (hp : p.size + 20 * (m) ≤ 1000), Calls Try.prog 47 #[.agg #[.bool false, .string t.n, .string ⟨#[]⟩, .string ⟨#[]⟩, .string ⟨#[]⟩, .string ⟨#[]⟩, .string ⟨#[]⟩, .string ⟨#[]⟩, .string ⟨#[]⟩, .string ⟨#[]⟩, .string ⟨#[]⟩, .string ⟨#[]⟩, .slice none 0 0, .slice none 0 0, .slice none 0 0, .slice none 0 0, .slice (t.fA) (t.fs.length) (t.fc), .slice (t.dA) (t.kids.length) (t.dc)], .string p] w fun e w' => ∃ A : Option Addr, ∃ c : Nat, ∃ ns : List ByteArray, ∃ B : Option Addr, ∃ d : Nat, ∃ ps : List ByteArray, e = .returned (.tuple #[.slice A ns.length c, .slice B ps.length d]) ∧ Sp R w' (SA.own (.slice A ns.length c) 9 1 ns.length (strs ns) :: SA.own (.slice B ps.length d) 9 1 ps.length (strs ps) :: L) ∧ (ns = crdN (m) (Tr.pl (m) t)) ∧ (ps = crdP (m) p (Tr.pl (m) t))
set_option maxRecDepth 100000 in
set_option maxHeartbeats 20000000 in
theorem crdo_S (m : Nat) (a : Ob) (l : List Ob) (R : Ctx) (L : List SA) (w : World) (S : Sp R w (L)) (h0 : Rf R L fun w => ChnAt w (a :: l)) (h1 : Rf R L fun w => ObAt w (m + 1) a) (ih : CrdoC m) (ho : ObOk (m + 1) a) (hz : Pt.cnt (m + 1) (Ob.pl (m + 1) a) ≤ 100) (hs : ChOk (a :: l)) (hd : (a :: l).length + (m + 1) ≤ 10) (hp : PathOk (pathOf (a :: l)).fFull) :
    Calls Try.prog 100 #[.pointer (some ⟨a.g, 0, none⟩)] w fun e w' => ∃ A : Option Addr, ∃ c : Nat, ∃ n : Nat, e = .returned (.slice A n c) ∧ Sp R w' (SA.own (.slice A n c) 175 3 n (flatC crdC (obObj (m + 1) (pathOf (a :: l)).fFull a)) :: L) ∧ (n = (obObj (m + 1) (pathOf (a :: l)).fFull a).length) := by
  obtain ⟨ho1, ho2, ho3, ho4, ho5⟩ := ho
  have hZ0 := obZ_of (h1 _ S)
  have hZ := hZ0.1
  have hF : Rf R L fun w => Sl w a.fA (pps a.ps) := fun w S => (h1 w S).2.1.1
  have hK : Rf R L fun w => Sl w a.dA (pps (a.kids.map Ob.ptr)) := fun w S => (h1 w S).2.2.1
  have hB : Rf R L fun w => Blk w a.g 245 #[.slice none 0 0, .pointer (some ⟨a.gm, 0, none⟩), .slice none 0 0, .map none, .slice none 0 0, .slice a.fA a.ps.length a.fc, .pointer (parO l), .slice a.dA a.kids.length a.dc] := fun w S => (chn_top (h0 w S)).1
  have hpl : a.ps.length ≤ 5 := by omega
  have hzl := zfs_len hZ
  have hcz : 1 + ((a.kids.map (Ob.pl m)).map (Pt.cnt m)).sum ≤ 100 := hz
  have hfsz := (path_sz (a :: l) hs).2
  have hln := hs.1
  have hd2 := hd
  refine fw_enter (fn := Try.f100) rfl rfl 63 rfl (Nat.le_of_ble_eq_true rfl) ?_
  intro a0 F0
  refine wp_seq_k fun K1 hK1 => ?_
  refine wp_region_lit ?_
  refine op_q F0 (.slice none 0 0) ?_; intro a2 F2
  refine wpList_nil ?_
  refine hK1 _ _ ?_; clear hK1 K1
  refine wp_seq_k fun K3 hK3 => ?_
  refine wp_region_lit ?_
  refine op_sq F2 (s_news F2 175 #[] 0 (by kernel_rfl) (by kernel_rfl) (by kernel_rfl) S) ?_
  rintro _ _ w5 ⟨g3, rfl, rfl⟩ S5 a5 F5
  refine op_q F5 (.slice (some ⟨g3, 0, none⟩) 0 0) ?_; intro a6 F6
  refine wpList_nil ?_
  refine hK3 _ _ ?_; clear hK3 K3
  refine wp_seq_k fun K7 hK7 => ?_
  refine wp_seq_k fun K8 hK8 => ?_
  refine wp_region_lit ?_
  refine op_q F6 (.pointer (some ⟨a.g, 0, none⟩)) ?_; intro a9 F9
  refine op_q F9 (.pointer (some ⟨a.g, 0, none⟩)) ?_; intro a10 F10
  refine op_q F10 (.pointer (some ⟨a.g, 5, none⟩)) ?_; intro a11 F11
  refine op_rq (v := .slice a.fA a.ps.length a.fc) F11 (r_ld rfl (F11.e (.pointer (some ⟨a.g, 5, none⟩))) (v := .slice a.fA a.ps.length a.fc) ((hB _ S5.drop).cell 5) Try.underlying167 rfl) ?_; intro a12 F12
  refine op_q F12 (.int .i64 (↑a.ps.length)) ?_; intro a13 F13
  refine op_q F13 (.int .i64 0) ?_; intro a14 F14
  refine wpList_nil ?_
  refine hK8 _ _ ?_; clear hK8 K8
  refine wp_block ?_
  have S15 : Sp R w5 (SA.own (.slice (some ⟨g3, 0, none⟩) 0 0) 175 3 0 (flatC crdC []) :: L) := Sp.ofblk (sz := 3) (m := 0) (l := flatC crdC []) S5 rfl (by omega) rfl
  refine fw_loop (fun m' a' w' => ∃ A : Option Addr, ∃ c : Nat, ∃ n : Nat, ∃ es : List (Option Addr × ByteArray × ByteArray), ∃ k : Nat, a.ps.length - k = m' ∧ Fr 63 [] a' [(0, .pointer (some ⟨a.g, 0, none⟩)), (2, .slice none 0 0), (3, .slice A n c), (13, .slice a.fA a.ps.length a.fc), (14, .int .i64 (↑a.ps.length)), (15, .int .i64 (↑k))] ∧ Sp R w' (SA.own (.slice A n c) 175 3 n (flatC crdC es) :: L) ∧ (k ≤ a.ps.length) ∧ (es = (((zfs a).take k).filter ocr).map (told (pathOf (a :: l)).fFull)) ∧ (n = es.length)) _ ⟨(some ⟨g3, 0, none⟩), 0, 0, [], 0, rfl, (F14.kk 0 (F14.kk 2 (F14.kk 3 (F14.kk 13 (F14.kk 14 (F14.kk 15 F14.nil)))))), S15, (by first | omega | (with_reducible assumption) | (simp; done)), rfl, rfl⟩ ?_
  rintro m16 a16 w16 ⟨A, c, n, es, k, hm16, F16, S16, hk, hes, hnl⟩ K16 hK16
  by_cases hlt_k : k < a.ps.length
  · have hc_k : decide ((↑k : Int) < ↑a.ps.length) = true := by first | (simp; done) | (simp; omega)
    have hlt_k2 : k < a.fs.length := by omega
    have hlt_k3 : k < (zfs a).length := by omega
    have hzk := zfs_at hZ hlt_k2
    have hfk := ho3 _ (List.getElem_mem hlt_k2)
    have hfz := hfk.size
    have hfa := file_asc hfk
    obtain ⟨gk, hgk, _⟩ := (h1 _ S16.drop).2.1.2.2 k hlt_k2 hlt_k
    have hNk : Rf R L fun w => w.cell? ⟨gk, 0, none⟩ = some (.string a.fs[k]) := fun w S => by obtain ⟨g2, e2, hc2⟩ := (h1 w S).2.1.2.2 k hlt_k2 hlt_k; rw [hgk] at e2; injection e2 with e2; injection e2 with e2; subst e2; exact hc2
    have hx2 : ∀ x ∈ [(pathOf (a :: l)).fFull, a.fs[k]], x.size ≤ 300 := fun x hx => by simp only [List.mem_cons, List.not_mem_nil, or_false] at hx; simp only [List.length_cons] at *; rcases hx with rfl | rfl <;> omega
    have hesb : es.length ≤ 1000 := by rw [hes, List.length_map]; have := List.length_filter_le ocr ((zfs a).take k); rw [List.length_take] at this; omega
    obtain ⟨ad17, hA17⟩ := (hF _ S16.drop).addr (by simp [pps]; omega)
    refine wp_seq_k fun K18 hK18 => ?_
    refine wp_region_lit ?_
    refine op_q F16 (.bool (decide ((↑k : Int) < ↑a.ps.length))) ?_; intro a19 F19
    have F20 := F19.sb 16 (by kernel_rfl) hc_k
    refine wpList_nil ?_
    refine hK18 _ _ ?_; clear hK18 K18
    refine wp_seq_k fun K21 hK21 => ?_
    refine wp_cond_true (F20.ev (by kernel_rfl)) ?_
    refine wp_skip ?_
    refine hK21 _ _ ?_; clear hK21 K21
    refine wp_seq_k fun K22 hK22 => ?_
    refine wp_block ?_
    refine wp_seq_k fun K23 hK23 => ?_
    refine wp_region_lit ?_
    refine op_rq (v := .pointer (some (ad17.add k))) F20 (r_ix rfl Try.underlying167 1 (by kernel_rfl) (F20.e (.slice a.fA a.ps.length a.fc)) hA17 (F20.e (.int .i64 (↑k))) k (by first | rfl | omega | simp) (by first | omega | (simp; done) | (simp; omega)) (by simp only [Nat.mul_one])) ?_; intro a24 F24
    refine op_rq (v := .pointer (some ⟨gk, 0, none⟩)) F24 (r_ld rfl (F24.e (.pointer (some (ad17.add k)))) (v := .pointer (some ⟨gk, 0, none⟩)) ((hF _ S16.drop).elA hA17 (j := k) (by simp only [pps, List.getElem?_map, List.getElem?_eq_getElem hlt_k, hgk]; rfl)) Try.underlying169 rfl) ?_; intro a25 F25
    refine op_q F25 (.pointer (some ⟨gk, 0, none⟩)) ?_; intro a26 F26
    refine wpList_nil ?_
    refine hK23 _ _ ?_; clear hK23 K23
    refine wp_seq_k fun K27 hK27 => ?_
    refine wp_region_lit ?_
    refine op_q F26 (.pointer (some ⟨gk, 0, none⟩)) ?_; intro a28 F28
    refine op_q F28 (.pointer (some ⟨gk, 0, none⟩)) ?_; intro a29 F29
    refine op_q F29 (.pointer (some ⟨gk, 0, none⟩)) ?_; intro a30 F30
    refine op_rq (v := .string a.fs[k]) F30 (r_ld rfl (F30.e (.pointer (some ⟨gk, 0, none⟩))) (v := .string a.fs[k]) (hNk _ S16.drop) Try.underlying9 rfl) ?_; intro a31 F31
    refine op_cq F31 (f := 144) (args := #[.string a.fs[k], .string ⟨#[99, 114, 100, 115, 47]⟩]) (hasPrefix_any a.fs[k] ⟨#[99, 114, 100, 115, 47]⟩ _ _ _ S16 ) ?_
    rintro _ w32 ⟨rfl, S32⟩
    refine ⟨_, rfl, ?_⟩
    intro a33 F33
    refine op_q F33 (.bool (hasPreB a.fs[k] ⟨#[99, 114, 100, 115, 47]⟩)) ?_; intro a34 F34
    rcases btf (hasPreB a.fs[k] ⟨#[99, 114, 100, 115, 47]⟩) with hc35 | hc35
    · have F36 := F34.sb 23 (by kernel_rfl) hc35
      have F37 := F36.sb 24 (by kernel_rfl) hc35
      refine op_wq F37 ?_
      refine op_q F37 (.pointer (some ⟨gk, 0, none⟩)) ?_; intro a38 F38
      refine op_wq F38 ?_
      refine op_q F38 (.pointer (some ⟨gk, 0, none⟩)) ?_; intro a39 F39
      refine op_wq F39 ?_
      refine op_q F39 (.pointer (some ⟨gk, 0, none⟩)) ?_; intro a40 F40
      refine op_wq F40 ?_
      refine op_rq (v := .string a.fs[k]) F40 (r_ld rfl (F40.e (.pointer (some ⟨gk, 0, none⟩))) (v := .string a.fs[k]) (hNk _ S32.drop) Try.underlying9 rfl) ?_; intro a41 F41
      refine op_wq F41 ?_
      refine op_cq F41 (f := 165) (args := #[.string a.fs[k]]) (hasExt_sp a.fs[k] _ _ _ S32 (by omega) hfa) ?_
      rintro _ w42 ⟨rfl, S42⟩
      refine ⟨_, rfl, ?_⟩
      intro a43 F43
      refine op_q F43 (.bool (isYaml (extAt a.fs[k] a.fs[k].size))) ?_; intro a44 F44
      refine wpList_nil ?_
      refine hK27 _ _ ?_; clear hK27 K27
      rcases btf (isYaml (extAt a.fs[k] a.fs[k].size)) with hc45 | hc45
      · have F46 := F44.sb 29 (by kernel_rfl) hc45
        have F47 := F46.sb 30 (by kernel_rfl) hc45
        refine wp_cond_true (F47.ev (by kernel_rfl)) ?_
        refine wp_seq_k fun K48 hK48 => ?_
        refine wp_region_sepF (L0 := SA.own (.slice A n c) 175 3 n (flatC crdC es) :: L) [some [], some [(0, 31)], some [(1, 32)], some [(2, 33)], some [], some [(4, 35)], some [], some [(6, 37)], some [(7, 38)], some [(8, 39)], some [(5, 36), (9, 40)], some [(5, 36), (9, 40), (10, 41)], some [], some [(3, 34), (11, 42), (12, 43)], some [], none] [.v 31 (.pointer (some ⟨gk, 0, none⟩)), .v 32 (.pointer (some ⟨gk, 0, none⟩)), .v 33 (.pointer (some ⟨gk, 0, none⟩)), .v 34 (.string a.fs[k]), .v 35 (.pointer (some ⟨a.g, 0, none⟩)), .v 36 (.string ((pathOf (a :: l)).fFull)), .v 37 (.pointer (some ⟨gk, 0, none⟩)), .v 38 (.pointer (some ⟨gk, 0, none⟩)), .v 39 (.pointer (some ⟨gk, 0, none⟩)), .v 40 (.string a.fs[k]), .p 41 (SA.emp) (fun _ vv AA => ∃ g101 : Nat, vv = .slice (some ⟨g101, 0, none⟩) 2 2 ∧ AA = SA.blk g101 9 #[.string ((pathOf (a :: l)).fFull), .string a.fs[k]]), .v 42 (.string (joinP ([(pathOf (a :: l)).fFull, a.fs[k]]))), .v 43 (.pointer (some ⟨gk, 0, none⟩)), .v 44 (.agg #[.string a.fs[k], .string (joinP ([(pathOf (a :: l)).fFull, a.fs[k]])), .pointer (some ⟨gk, 0, none⟩)]), .p 6 (SA.emp) (fun _ vv AA => ∃ g112 : Nat, vv = .pointer (some ⟨g112, 0, none⟩) ∧ AA = SA.blk g112 175 #[.string ⟨#[]⟩, .string ⟨#[]⟩, .pointer none]), .n SA.emp (fun _ _ A => A = SA.emp)] [] F47 rfl (by kernel_rfl) S42.emp.emp ?_ ?_
        · refine ⟨?_, ?_, ?_, ?_, ?_, ?_, ?_, ?_, ?_, ?_, ?_, ?_, ?_, ?_, ?_, trivial⟩
          · intro w81 M81
            intro a81 F81 S81
            refine obl_of (by rfl) ?_
            exact s_p F81 (v := .pointer (some ⟨gk, 0, none⟩)) (by kernel_rfl) (by kernel_rfl) (by kernel_rfl) S81
          · intro w82 M82
            intro a82 F82 S82
            refine obl_of (by rfl) ?_
            exact s_p F82 (v := .pointer (some ⟨gk, 0, none⟩)) (by kernel_rfl) (by kernel_rfl) (by kernel_rfl) S82
          · intro w84 M84
            intro a84 F84 S84
            refine obl_of (by rfl) ?_
            exact s_p F84 (v := .pointer (some ⟨gk, 0, none⟩)) (by kernel_rfl) (by kernel_rfl) (by kernel_rfl) S84
          · intro w86 M86
            intro a86 F86 S86
            refine obl_of (by rfl) ?_
            exact s_r (v := .string a.fs[k]) (r_ld rfl (F86.e (.pointer (some ⟨gk, 0, none⟩))) (v := .string a.fs[k]) (hNk _ (Sp.dropM S86.drop).drop) Try.underlying9 rfl) S86
          · intro w88 M88
            intro a88 F88 S88
            refine obl_of (by rfl) ?_
            exact s_p F88 (v := .pointer (some ⟨a.g, 0, none⟩)) (by kernel_rfl) (by kernel_rfl) (by kernel_rfl) S88
          · intro w89 M89
            intro a89 F89 S89
            refine obl_of (by rfl) ?_
            refine s_c F89 (f := 129) (args := #[.pointer (some ⟨a.g, 0, none⟩)]) (by kernel_rfl) (by kernel_rfl) (by kernel_rfl) (cFull_gp a l _ _ _ S89.drop (fun w S => h0 w (Sp.dropM S).drop) hs) ?_
            rintro _ _ ⟨rfl, S91⟩
            exact ⟨_, _, rfl, ⟨rfl, rfl⟩, S91.emp⟩
          · intro w92 M92
            intro a92 F92 S92
            refine obl_of (by rfl) ?_
            exact s_p F92 (v := .pointer (some ⟨gk, 0, none⟩)) (by kernel_rfl) (by kernel_rfl) (by kernel_rfl) S92
          · intro w93 M93
            intro a93 F93 S93
            refine obl_of (by rfl) ?_
            exact s_p F93 (v := .pointer (some ⟨gk, 0, none⟩)) (by kernel_rfl) (by kernel_rfl) (by kernel_rfl) S93
          · intro w95 M95
            intro a95 F95 S95
            refine obl_of (by rfl) ?_
            exact s_p F95 (v := .pointer (some ⟨gk, 0, none⟩)) (by kernel_rfl) (by kernel_rfl) (by kernel_rfl) S95
          · intro w97 M97
            intro a97 F97 S97
            refine obl_of (by rfl) ?_
            exact s_r (v := .string a.fs[k]) (r_ld rfl (F97.e (.pointer (some ⟨gk, 0, none⟩))) (v := .string a.fs[k]) (hNk _ (Sp.dropM S97.drop).drop) Try.underlying9 rfl) S97
          · intro w99 M99
            intro a99 F99 S99
            refine obl_of (by rfl) ?_
            exact s_news F99 9 #[.string ((pathOf (a :: l)).fFull), .string a.fs[k]] 2 (by kernel_rfl) (by kernel_rfl) (by kernel_rfl) S99.drop
          · intro w102 M102
            rintro _ _ ⟨g101, rfl, rfl⟩ hA105
            intro a102 F102 S102
            refine obl_of (by rfl) ?_
            refine s_c F102 (f := 148) (args := #[.slice (some ⟨g101, 0, none⟩) 2 2]) (by kernel_rfl) (by kernel_rfl) (by kernel_rfl) (joinPath_2 (some ⟨g101, 0, none⟩) 2 ([(pathOf (a :: l)).fFull, a.fs[k]]) _ _ _ S102.drop (fun w S => (Sp.bkm S hA105).sl (by simp)) rfl hx2) ?_
            rintro _ _ ⟨rfl, S106⟩
            exact ⟨_, _, rfl, ⟨rfl, rfl⟩, S106.emp⟩
          · intro w107 M107
            intro a107 F107 S107
            refine obl_of (by rfl) ?_
            exact s_p F107 (v := .pointer (some ⟨gk, 0, none⟩)) (by kernel_rfl) (by kernel_rfl) (by kernel_rfl) S107
          · intro w108 M108
            intro a108 F108 S108
            refine obl_of (by rfl) ?_
            exact s_p F108 (v := .agg #[.string a.fs[k], .string (joinP ([(pathOf (a :: l)).fFull, a.fs[k]])), .pointer (some ⟨gk, 0, none⟩)]) (by kernel_rfl) (by kernel_rfl) (by kernel_rfl) S108
          · intro w112 M112
            intro a112 F112 S112
            refine obl_of (by rfl) ?_
            exact s_newp F112 175 #[.string ⟨#[]⟩, .string ⟨#[]⟩, .pointer none] (by kernel_rfl) (by kernel_rfl) (by kernel_rfl) S112.drop
        · rintro _ _ ⟨g101, rfl, rfl⟩
          rintro _ _ ⟨g112, rfl, rfl⟩
          intro a114 w113 F114 S113
          have S115 : Sp R w113 (SA.blk g112 175 #[.string ⟨#[]⟩, .string ⟨#[]⟩, .pointer none] :: SA.blk g101 9 #[.string ((pathOf (a :: l)).fFull), .string a.fs[k]] :: SA.own (.slice A n c) 175 3 n (flatC crdC es) :: L) := S113
          refine op_sq0 F114 (s_stb rfl (F114.e (.pointer (some ⟨g112, 0, none⟩))) (F114.e (.agg #[.string a.fs[k], .string (joinP ([(pathOf (a :: l)).fFull, a.fs[k]])), .pointer (some ⟨gk, 0, none⟩)])) S115 (by kernel_rfl) rfl (by kernel_rfl)) ?_
          rintro _ _ w116 rfl S116 F116
          refine wpList_nil ?_
          refine hK48 _ _ ?_; clear hK48 K48
          refine wp_region_lit ?_
          refine op_q F116 (.slice A n c) ?_; intro a117 F117
          refine op_rq (v := .agg #[.string a.fs[k], .string (joinP ([(pathOf (a :: l)).fFull, a.fs[k]])), .pointer (some ⟨gk, 0, none⟩)]) F117 (r_ldm rfl (F117.e (.pointer (some ⟨g112, 0, none⟩))) (S116.bk 0 rfl) 3 (by kernel_rfl) Try.underlying175 rfl (by kernel_rfl) (v := #[.string a.fs[k], .string (joinP ([(pathOf (a :: l)).fFull, a.fs[k]])), .pointer (some ⟨gk, 0, none⟩)]) (by kernel_rfl)) ?_; intro a118 F118
          refine op_sq F118 (s_news F118 175 #[.string a.fs[k], .string (joinP ([(pathOf (a :: l)).fFull, a.fs[k]])), .pointer (some ⟨gk, 0, none⟩)] 1 (by kernel_rfl) (by kernel_rfl) (by kernel_rfl) S116) ?_
          rintro _ _ w120 ⟨g118, rfl, rfl⟩ S120 a120 F120
          refine op_sq F120 (s_app rfl Try.underlying172 3 _ tin175 rfl rfl (F120.e (.slice A n c)) S120.p3 ([Value.string a.fs[k], .string (joinP ([(pathOf (a :: l)).fFull, a.fs[k]])), .pointer (some ⟨gk, 0, none⟩)]) (F120.e (.slice (some ⟨g118, 0, none⟩) 1 1)) ((S120.bk 0 rfl).sl (by simp)) rfl (by simp [Value.oneCell']) (by omega) (by omega) (n' := n + 1) (by omega) (cs' := flatC crdC (es ++ [told (pathOf (a :: l)).fFull (a.ps[k], a.fs[k])])) (by rw [joinP_ok hp (file_path hfk), flatC_snoc]; show _ = _ ++ crdC (a.ps[k], a.fs[k], _); rw [hgk]; rfl)) ?_
          rintro _ _ w122 ⟨A121, c121, rfl, rfl⟩ S122 a122 F122
          refine op_q F122 (.slice A121 (n + 1) c121) ?_; intro a123 F123
          refine wpList_nil ?_
          refine hK22 _ _ ?_; clear hK22 K22
          refine wp_region_lit ?_
          refine op_rq (v := .int .i64 (↑(k + 1))) F123 (r_add (z := ↑(k + 1)) rfl (F123.e (.int .i64 (↑k))) (F123.e (.int .i64 1)) (wr64 (by omega) (by omega) (by omega))) ?_; intro a124 F124
          refine op_q F124 (.int .i64 (↑(k + 1))) ?_; intro a125 F125
          refine wpList_nil ?_
          exact hK16 _ _ _ (by first | omega | (simp; omega)) ⟨A121, c121, n + 1, (es ++ [told (pathOf (a :: l)).fFull (a.ps[k], a.fs[k])]), k + 1, rfl, (F125.kk 0 (F125.kk 2 (F125.kk 3 (F125.kk 13 (F125.kk 14 (F125.kk 15 F125.nil)))))), S122.p1.drop.p1.drop.p1.drop, (by first | omega | (with_reducible assumption) | (simp; done)), (by have hck : crdB a.fs[k] = true := (by unfold crdB; rw [hc35, hc45]; rfl); rw [filt_take hlt_k3, List.map_append, ← hes, hzk, show ocr (a.ps[k], a.fs[k]) = crdB a.fs[k] from rfl, hck]; rfl), (by simp [hnl])⟩
      · have F126 := F44.sb 29 (by kernel_rfl) hc45
        have F127 := F126.sb 30 (by kernel_rfl) hc45
        refine wp_cond_false (F127.ev (by kernel_rfl)) ?_
        refine wp_skip ?_
        refine hK22 _ _ ?_; clear hK22 K22
        refine wp_region_lit ?_
        refine op_rq (v := .int .i64 (↑(k + 1))) F127 (r_add (z := ↑(k + 1)) rfl (F127.e (.int .i64 (↑k))) (F127.e (.int .i64 1)) (wr64 (by omega) (by omega) (by omega))) ?_; intro a128 F128
        refine op_q F128 (.int .i64 (↑(k + 1))) ?_; intro a129 F129
        refine wpList_nil ?_
        exact hK16 _ _ _ (by first | omega | (simp; omega)) ⟨A, c, n, es, k + 1, rfl, (F129.kk 0 (F129.kk 2 (F129.kk 3 (F129.kk 13 (F129.kk 14 (F129.kk 15 F129.nil)))))), S42, (by first | omega | (with_reducible assumption) | (simp; done)), (by have hck : crdB a.fs[k] = false := (by unfold crdB; rw [hc35, hc45]; rfl); rw [filt_take hlt_k3, List.map_append, ← hes, hzk, show ocr (a.ps[k], a.fs[k]) = crdB a.fs[k] from rfl, hck]; exact (List.append_nil _).symm), hnl⟩
    · have F130 := F34.sb 23 (by kernel_rfl) hc35
      have F131 := F130.sb 24 (by kernel_rfl) hc35
      refine op_kq F131 ?_; intro a132 F132
      refine op_kq F132 ?_; intro a133 F133
      refine op_kq F133 ?_; intro a134 F134
      refine op_kq F134 ?_; intro a135 F135
      refine op_kq F135 ?_; intro a136 F136
      refine op_q F136 (.bool false) ?_; intro a137 F137
      refine wpList_nil ?_
      refine hK27 _ _ ?_; clear hK27 K27
      refine wp_cond_false (F137.ev (by kernel_rfl)) ?_
      refine wp_skip ?_
      refine hK22 _ _ ?_; clear hK22 K22
      refine wp_region_lit ?_
      refine op_rq (v := .int .i64 (↑(k + 1))) F137 (r_add (z := ↑(k + 1)) rfl (F137.e (.int .i64 (↑k))) (F137.e (.int .i64 1)) (wr64 (by omega) (by omega) (by omega))) ?_; intro a138 F138
      refine op_q F138 (.int .i64 (↑(k + 1))) ?_; intro a139 F139
      refine wpList_nil ?_
      exact hK16 _ _ _ (by first | omega | (simp; omega)) ⟨A, c, n, es, k + 1, rfl, (F139.kk 0 (F139.kk 2 (F139.kk 3 (F139.kk 13 (F139.kk 14 (F139.kk 15 F139.nil)))))), S32, (by first | omega | (with_reducible assumption) | (simp; done)), (by have hck : crdB a.fs[k] = false := (by unfold crdB; rw [hc35]; rfl); rw [filt_take hlt_k3, List.map_append, ← hes, hzk, show ocr (a.ps[k], a.fs[k]) = crdB a.fs[k] from rfl, hck]; exact (List.append_nil _).symm), hnl⟩
  · have hc_k : decide ((↑k : Int) < ↑a.ps.length) = false := by first | (simp; done) | (simp; omega)
    obtain rfl : k = a.ps.length := by omega
    rw [show (zfs a).take a.ps.length = zfs a from by rw [hZ, ← hzl, List.take_length]] at hes
    refine wp_seq_k fun K140 hK140 => ?_
    refine wp_region_lit ?_
    refine op_q F16 (.bool (decide ((↑a.ps.length : Int) < ↑a.ps.length))) ?_; intro a141 F141
    have F142 := F141.sb 16 (by kernel_rfl) hc_k
    refine wpList_nil ?_
    refine hK140 _ _ ?_; clear hK140 K140
    refine wp_seq_k fun K143 hK143 => ?_
    refine wp_cond_false (F142.ev (by kernel_rfl)) ?_
    refine wp_exit ?_
    refine ex_then ?_; clear hK143 K143
    refine ex_then ?_
    refine ex_in ?_
    refine hK7 _ _ ?_; clear hK7 K7
    refine wp_seq_k fun K144 hK144 => ?_
    refine wp_seq_k fun K145 hK145 => ?_
    refine wp_region_lit ?_
    refine op_q F142 (.pointer (some ⟨a.g, 0, none⟩)) ?_; intro a146 F146
    refine op_cq F146 (f := 132) (args := #[.pointer (some ⟨a.g, 0, none⟩)]) (deps_sp a.g (.slice none 0 0) (.pointer (some ⟨a.gm, 0, none⟩)) (.slice none 0 0) (.map none) (.slice none 0 0) (.slice a.fA a.ps.length a.fc) (.pointer (parO l)) a.dA a.kids.length a.dc _ _ _ S16 (fun w S => hB w S.drop)) ?_
    rintro _ w147 ⟨rfl, S147⟩
    refine ⟨_, rfl, ?_⟩
    intro a148 F148
    refine op_q F148 (.int .i64 (↑a.kids.length)) ?_; intro a149 F149
    refine op_q F149 (.int .i64 0) ?_; intro a150 F150
    refine wpList_nil ?_
    refine hK145 _ _ ?_; clear hK145 K145
    refine wp_block ?_
    refine fw_loop (fun m' a' w' => ∃ A1 : Option Addr, ∃ c1 : Nat, ∃ n1 : Nat, ∃ es1 : List (Option Addr × ByteArray × ByteArray), ∃ j : Nat, a.kids.length - j = m' ∧ Fr 63 [] a' [(2, .slice none 0 0), (3, .slice A1 n1 c1), (51, .slice (a.dA) (a.kids.length) (a.dc)), (52, .int .i64 (↑a.kids.length)), (53, .int .i64 (↑j))] ∧ Sp R w' (SA.own (.slice A1 n1 c1) 175 3 n1 (flatC crdC es1) :: L) ∧ (j ≤ a.kids.length) ∧ (es1 = (((zfs a).filter ocr).map (told (pathOf (a :: l)).fFull) ++ (a.kids.take j).flatMap fun k => obObj m ((pathOf (a :: l)).fFull ++ (⟨#[47, 99, 104, 97, 114, 116, 115, 47]⟩ : ByteArray) ++ k.n) k)) ∧ (n1 = es1.length)) _ ⟨A, c, n, _, 0, rfl, (F150.kk 2 (F150.kk 3 (F150.kk 51 (F150.kk 52 (F150.kk 53 F150.nil))))), S147, (by first | omega | (with_reducible assumption) | (simp; done)), (by rw [hes]; simp), hnl⟩ ?_
    rintro m151 a151 w151 ⟨A1, c1, n1, es1, j, hm151, F151, S151, hj, hes1, hnl1⟩ K151 hK151
    by_cases hlt_j : j < a.kids.length
    · have hc_j : decide ((↑j : Int) < ↑a.kids.length) = true := by first | (simp; done) | (simp; omega)
      have hlt_j2 : j < a.kids.length := by omega
      obtain ⟨ad152, hA152⟩ := (hK _ S151.drop).addr (by simp [pps]; omega)
      have hlt_j2 : j < a.kids.length := by omega
      have hkk := ho5 _ (List.getElem_mem hlt_j2)
      have hkw : WordOk a.kids[j].n := obOk_w hkk
      have hCk : Rf R L fun w => ChnAt w (a.kids[j] :: a :: l) := fun w S => chn_kid ((h1 w S).2.2.2 _ (List.getElem_mem hlt_j2)).1 hkk ((h1 w S).2.2.2 _ (List.getElem_mem hlt_j2)).2 (h0 w S)
      have hOk : Rf R L fun w => ObAt w m a.kids[j] := fun w S => ((h1 w S).2.2.2 _ (List.getElem_mem hlt_j2)).2
      have hsk := sum_take (f := Pt.cnt m) (l := a.kids.map (Ob.pl m)) (k := j) (by rw [List.length_map]; omega)
      rw [List.getElem_map] at hsk
      have hsk3 := hsk.2
      have hkc := objs_cnt (p := (pathOf (a.kids[j] :: a :: l)).fFull) hkk (hZ0.2 _ (List.getElem_mem hlt_j2))
      have h4 := take_flat_le (f := fun k => obObj m ((pathOf (a :: l)).fFull ++ (⟨#[47, 99, 104, 97, 114, 116, 115, 47]⟩ : ByteArray) ++ k.n) k) a.kids j
      have h5 := objs_cnt (m := m + 1) (o := a) (p := (pathOf (a :: l)).fFull) ⟨ho1, ho2, ho3, ho4, ho5⟩ hZ0
      have h6 : (((zfs a).filter ocr).map (told (pathOf (a :: l)).fFull) ++ a.kids.flatMap fun k => obObj m ((pathOf (a :: l)).fFull ++ (⟨#[47, 99, 104, 97, 114, 116, 115, 47]⟩ : ByteArray) ++ k.n) k).length ≤ 5 * (1 + ((a.kids.map (Ob.pl m)).map (Pt.cnt m)).sum) := h5
      have hesb : es1.length ≤ 10000 := by rw [hes1, List.length_append]; rw [List.length_append] at h6; omega
      refine wp_seq_k fun K153 hK153 => ?_
      refine wp_region_lit ?_
      refine op_q F151 (.bool (decide ((↑j : Int) < ↑a.kids.length))) ?_; intro a154 F154
      have F155 := F154.sb 54 (by kernel_rfl) hc_j
      refine wpList_nil ?_
      refine hK153 _ _ ?_; clear hK153 K153
      refine wp_seq_k fun K156 hK156 => ?_
      refine wp_cond_true (F155.ev (by kernel_rfl)) ?_
      refine wp_skip ?_
      refine hK156 _ _ ?_; clear hK156 K156
      refine wp_seq_k fun K157 hK157 => ?_
      refine wp_block ?_
      refine wp_seq_k fun K158 hK158 => ?_
      refine wp_region_lit ?_
      refine op_rq (v := .pointer (some (ad152.add j))) F155 (r_ix rfl Try.underlying211 1 (by kernel_rfl) (F155.e (.slice (a.dA) (a.kids.length) (a.dc))) hA152 (F155.e (.int .i64 (↑j))) j (by first | rfl | omega | simp) (by first | omega | (simp; done) | (simp; omega)) (by simp only [Nat.mul_one])) ?_; intro a159 F159
      refine op_rq (v := .pointer (some ⟨a.kids[j].g, 0, none⟩)) F159 (r_ld rfl (F159.e (.pointer (some (ad152.add j)))) (v := .pointer (some ⟨a.kids[j].g, 0, none⟩)) ((hK _ S151.drop).elA hA152 (j := j) (by simp only [pps, List.getElem?_map, List.getElem?_eq_getElem hlt_j2]; rfl)) Try.underlying125 rfl) ?_; intro a160 F160
      refine op_q F160 (.pointer (some ⟨a.kids[j].g, 0, none⟩)) ?_; intro a161 F161
      refine wpList_nil ?_
      refine hK158 _ _ ?_; clear hK158 K158
      refine wp_region_lit ?_
      refine op_q F161 (.slice A1 n1 c1) ?_; intro a162 F162
      refine op_q F162 (.pointer (some ⟨a.kids[j].g, 0, none⟩)) ?_; intro a163 F163
      have hcl164 := ih a.kids[j] (a :: l) _ _ _ S151 (fun w S => hCk w S.drop) (fun w S => hOk w S.drop) hkk (by omega) ⟨by have := hd; simp only [List.length_cons] at *; omega, fun o h => (List.mem_cons.1 h).elim (fun e => by rw [e]; exact hkw.2.1) (hs.2 o)⟩ (by have := hd; simp only [List.length_cons] at *; omega) (path_kid hp hkw)
      refine op_cq F163 (f := 100) hcl164 ?_
      rintro _ w164 ⟨A164, c164, n164, rfl, S164, hp0_164⟩
      refine ⟨_, rfl, ?_⟩
      intro a165 F165
      have hcb2 : n164 ≤ 1000 := by rw [hp0_164]; omega
      refine op_sq F165 (s_app rfl Try.underlying172 3 _ tin175 rfl rfl (F165.e (.slice A1 n1 c1)) S164.p1 (flatC crdC (obObj (m) (pathOf (a.kids[j] :: (a :: l))).fFull a.kids[j])) (F165.e (.slice A164 n164 c164)) (own_slN (S164.ow 0 rfl) (by first | omega | (simp; omega))) (by rw [flatC_len crdC_len, ← hp0_164]) (flatC_one crdC_one) (by omega) (by omega) (n' := n1 + n164) (by omega) (cs' := flatC crdC (es1 ++ (obObj (m) (pathOf (a.kids[j] :: (a :: l))).fFull a.kids[j]))) (flatC_app _ _ _).symm) ?_
      rintro _ _ w167 ⟨A166, c166, rfl, rfl⟩ S167 a167 F167
      refine op_q F167 (.slice A166 (n1 + n164) c166) ?_; intro a168 F168
      refine wpList_nil ?_
      refine hK157 _ _ ?_; clear hK157 K157
      refine wp_region_lit ?_
      refine op_rq (v := .int .i64 (↑(j + 1))) F168 (r_add (z := ↑(j + 1)) rfl (F168.e (.int .i64 (↑j))) (F168.e (.int .i64 1)) (wr64 (by omega) (by omega) (by omega))) ?_; intro a169 F169
      refine op_q F169 (.int .i64 (↑(j + 1))) ?_; intro a170 F170
      refine wpList_nil ?_
      exact hK151 _ _ _ (by first | omega | (simp; omega)) ⟨A166, c166, n1 + n164, (es1 ++ (obObj (m) (pathOf (a.kids[j] :: (a :: l))).fFull a.kids[j])), j + 1, rfl, (F170.kk 2 (F170.kk 3 (F170.kk 51 (F170.kk 52 (F170.kk 53 F170.nil))))), S167.p1.drop, (by first | omega | (with_reducible assumption) | (simp; done)), (by rw [flat_take hlt_j2, ← List.append_assoc, ← hes1]; rfl), (by rw [List.length_append, ← hnl1, ← hp0_164])⟩
    · have hc_j : decide ((↑j : Int) < ↑a.kids.length) = false := by first | (simp; done) | (simp; omega)
      obtain rfl : j = a.kids.length := by omega
      rw [List.take_length] at hes1
      refine wp_seq_k fun K171 hK171 => ?_
      refine wp_region_lit ?_
      refine op_q F151 (.bool (decide ((↑a.kids.length : Int) < ↑a.kids.length))) ?_; intro a172 F172
      have F173 := F172.sb 54 (by kernel_rfl) hc_j
      refine wpList_nil ?_
      refine hK171 _ _ ?_; clear hK171 K171
      refine wp_seq_k fun K174 hK174 => ?_
      refine wp_cond_false (F173.ev (by kernel_rfl)) ?_
      refine wp_exit ?_
      refine ex_then ?_; clear hK174 K174
      refine ex_then ?_
      refine ex_in ?_
      refine hK144 _ _ ?_; clear hK144 K144
      refine wp_seq_k fun K175 hK175 => ?_
      refine wp_region_lit ?_
      refine op_q F173 (.slice A1 n1 c1) ?_; intro a176 F176
      refine op_q F176 (.slice A1 n1 c1) ?_; intro a177 F177
      refine wpList_nil ?_
      refine hK175 _ _ ?_; clear hK175 K175
      refine wp_ret ?_
      have S178 : Sp R w151 (SA.own (.slice A1 n1 c1) 175 3 n1 (flatC crdC (obObj (m + 1) (pathOf (a :: l)).fFull a)) :: L) := by rw [show obObj (m + 1) (pathOf (a :: l)).fFull a = es1 from hes1.symm]; exact S151
      refine (F177.res1 rfl (v := .slice A1 n1 c1) (by kernel_rfl) ?_).1
      exact ⟨A1, c1, n1, rfl, S178, (by rw [hnl1, hes1]; rfl)⟩
theorem crdo_sp : ∀ m : Nat, CrdoC m
  | 0 => fun a l R L w S h0 h1 ho _ _ _ _ => ho.elim
  | m + 1 => fun a l R L w S h0 h1 ho hz hs hd hp => crdo_S m a l R L w S h0 h1 (crdo_sp m) ho hz hs hd hp
set_option maxRecDepth 100000 in
set_option maxHeartbeats 20000000 in
theorem chCRDs_S (m : Nat) (t : Tr) (p : ByteArray) (R : Ctx) (L : List SA) (w : World) (S : Sp R w (L)) (h0 : Rf R L fun w => TrAt w (m + 1) t) (ih : SpcC m) (ht : TrOk (m + 1) t) (hz : Tr.cnt (m + 1) t ≤ 100) (hp : p.size + 20 * (m + 1) ≤ 1000) :
    Calls Try.prog 47 #[.agg #[.bool false, .string t.n, .string ⟨#[]⟩, .string ⟨#[]⟩, .string ⟨#[]⟩, .string ⟨#[]⟩, .string ⟨#[]⟩, .string ⟨#[]⟩, .string ⟨#[]⟩, .string ⟨#[]⟩, .string ⟨#[]⟩, .string ⟨#[]⟩, .slice none 0 0, .slice none 0 0, .slice none 0 0, .slice none 0 0, .slice (t.fA) (t.fs.length) (t.fc), .slice (t.dA) (t.kids.length) (t.dc)], .string p] w fun e w' => ∃ A : Option Addr, ∃ c : Nat, ∃ ns : List ByteArray, ∃ B : Option Addr, ∃ d : Nat, ∃ ps : List ByteArray, e = .returned (.tuple #[.slice A ns.length c, .slice B ps.length d]) ∧ Sp R w' (SA.own (.slice A ns.length c) 9 1 ns.length (strs ns) :: SA.own (.slice B ps.length d) 9 1 ps.length (strs ps) :: L) ∧ (ns = crdN (m + 1) (Tr.pl (m + 1) t)) ∧ (ps = crdP (m + 1) p (Tr.pl (m + 1) t)) := by
  obtain ⟨hto1, hto2, hto3, hto4, hto5⟩ := ht
  have hcn : 1 + (t.kids.map (Tr.cnt m)).sum ≤ 100 := hz
  have hF : Rf R L fun w => Rows w t.fA 2 (t.fs.map fileC) := fun w S => (h0 w S).1
  have hD : Rf R L fun w => Rows w t.dA 18 (t.kids.map Tr.cells) := fun w S => (h0 w S).2.1
  have hc5 := spN_cnt (m := m + 1) (t := t) ⟨hto1, hto2, hto3, hto4, hto5⟩
  refine fw_enter (fn := Try.f47) rfl rfl 63 rfl (Nat.le_of_ble_eq_true rfl) ?_
  intro a0 F0
  refine wp_seq_k fun K1 hK1 => ?_
  refine wp_region_lit ?_
  refine op_sq F0 (s_newp F0 30 #[.bool false, .string t.n, .string ⟨#[]⟩, .string ⟨#[]⟩, .string ⟨#[]⟩, .string ⟨#[]⟩, .string ⟨#[]⟩, .string ⟨#[]⟩, .string ⟨#[]⟩, .string ⟨#[]⟩, .string ⟨#[]⟩, .string ⟨#[]⟩, .slice none 0 0, .slice none 0 0, .slice none 0 0, .slice none 0 0, .slice (t.fA) (t.fs.length) (t.fc), .slice (t.dA) (t.kids.length) (t.dc)] (by kernel_rfl) (by kernel_rfl) (by kernel_rfl) S) ?_
  rintro _ _ w3 ⟨g1, rfl, rfl⟩ S3 a3 F3
  refine op_q F3 (.slice none 0 0) ?_; intro a4 F4
  refine op_q F4 (.slice none 0 0) ?_; intro a5 F5
  refine wpList_nil ?_
  refine hK1 _ _ ?_; clear hK1 K1
  refine wp_seq_k fun K6 hK6 => ?_
  refine wp_seq_k fun K7 hK7 => ?_
  refine wp_region_lit ?_
  refine op_q F5 (.pointer (some ⟨g1, 16, none⟩)) ?_; intro a8 F8
  refine op_rq (v := .slice (t.fA) (t.fs.length) (t.fc)) F8 (r_ld rfl (F8.e (.pointer (some ⟨g1, 16, none⟩))) (v := .slice (t.fA) (t.fs.length) (t.fc)) ((S3.bk 0 rfl).cell 16) Try.underlying27 rfl) ?_; intro a9 F9
  refine op_q F9 (.int .i64 (↑t.fs.length)) ?_; intro a10 F10
  refine op_q F10 (.int .i64 0) ?_; intro a11 F11
  refine wpList_nil ?_
  refine hK7 _ _ ?_; clear hK7 K7
  refine wp_block ?_
  have S12 : Sp R w3 (SA.own (.slice none 0 0) 9 1 (([] : List ByteArray).length) (strs []) :: SA.own (.slice none 0 0) 9 1 (([] : List ByteArray).length) (strs []) :: SA.blk g1 30 #[.bool false, .string t.n, .string ⟨#[]⟩, .string ⟨#[]⟩, .string ⟨#[]⟩, .string ⟨#[]⟩, .string ⟨#[]⟩, .string ⟨#[]⟩, .string ⟨#[]⟩, .string ⟨#[]⟩, .string ⟨#[]⟩, .string ⟨#[]⟩, .slice none 0 0, .slice none 0 0, .slice none 0 0, .slice none 0 0, .slice (t.fA) (t.fs.length) (t.fc), .slice (t.dA) (t.kids.length) (t.dc)] :: L) := Sp.nilown (e := 9) (sz := 1) (Sp.nilown (e := 9) (sz := 1) S3)
  refine fw_loop (fun m' a' w' => ∃ A : Option Addr, ∃ c : Nat, ∃ ns : List ByteArray, ∃ B : Option Addr, ∃ d : Nat, ∃ ps : List ByteArray, ∃ k : Nat, t.fs.length - k = m' ∧ Fr 63 [] a' [(1, .string p), (2, .pointer (some ⟨g1, 0, none⟩)), (4, .slice A ns.length c), (5, .slice B ps.length d), (13, .slice (t.fA) (t.fs.length) (t.fc)), (14, .int .i64 (↑t.fs.length)), (15, .int .i64 (↑k))] ∧ Sp R w' (SA.blk g1 30 #[.bool false, .string t.n, .string ⟨#[]⟩, .string ⟨#[]⟩, .string ⟨#[]⟩, .string ⟨#[]⟩, .string ⟨#[]⟩, .string ⟨#[]⟩, .string ⟨#[]⟩, .string ⟨#[]⟩, .string ⟨#[]⟩, .string ⟨#[]⟩, .slice none 0 0, .slice none 0 0, .slice none 0 0, .slice none 0 0, .slice (t.fA) (t.fs.length) (t.fc), .slice (t.dA) (t.kids.length) (t.dc)] :: SA.own (.slice A ns.length c) 9 1 ns.length (strs ns) :: SA.own (.slice B ps.length d) 9 1 ps.length (strs ps) :: L) ∧ (k ≤ t.fs.length) ∧ (ns = (t.fs.take k).filter crdB) ∧ (ps = ((t.fs.take k).filter crdB).map (fun f => p ++ (⟨#[47]⟩ : ByteArray) ++ f))) _ ⟨none, 0, [], none, 0, [], 0, rfl, (F11.kk 1 (F11.kk 2 (F11.kk 4 (F11.kk 5 (F11.kk 13 (F11.kk 14 (F11.kk 15 F11.nil))))))), S12.p1.p1.p2, (by first | omega | (with_reducible assumption) | (simp; done)), rfl, rfl⟩ ?_
  rintro m13 a13 w13 ⟨A, c, ns, B, d, ps, k, hm13, F13, S13, hk, hns, hps⟩ K13 hK13
  by_cases hlt_k : k < t.fs.length
  · have hc_k : decide ((↑k : Int) < ↑t.fs.length) = true := by first | (simp; done) | (simp; omega)
    obtain ⟨ad14, hA14⟩ := (hF _ S13.drop.drop.drop).addr (by simp; omega)
    have hlt_k2 : k < t.fs.length := by omega
    have hfk := hto3 _ (List.getElem_mem hlt_k2)
    have hfz := hfk.size
    have hfa := file_asc hfk
    have hnb : ns.length ≤ 100 := by rw [hns]; have := List.length_filter_le crdB (t.fs.take k); rw [List.length_take] at this; omega
    have hpb : ps.length ≤ 100 := by rw [hps, List.length_map]; have := List.length_filter_le crdB (t.fs.take k); rw [List.length_take] at this; omega
    have e47 : (⟨#[47]⟩ : ByteArray).size = 1 := rfl
    refine wp_seq_k fun K15 hK15 => ?_
    refine wp_region_lit ?_
    refine op_q F13 (.bool (decide ((↑k : Int) < ↑t.fs.length))) ?_; intro a16 F16
    have F17 := F16.sb 16 (by kernel_rfl) hc_k
    refine wpList_nil ?_
    refine hK15 _ _ ?_; clear hK15 K15
    refine wp_seq_k fun K18 hK18 => ?_
    refine wp_cond_true (F17.ev (by kernel_rfl)) ?_
    refine wp_skip ?_
    refine hK18 _ _ ?_; clear hK18 K18
    refine wp_seq_k fun K19 hK19 => ?_
    refine wp_block ?_
    refine wp_seq_k fun K20 hK20 => ?_
    refine wp_region_lit ?_
    refine op_rq (v := .pointer (some (ad14.add (k * 2)))) F17 (r_ix rfl Try.underlying27 2 (by kernel_rfl) (F17.e (.slice (t.fA) (t.fs.length) (t.fc))) hA14 (F17.e (.int .i64 (↑k))) k (by first | rfl | omega | simp) (by first | omega | (simp; done) | (simp; omega)) (rfl)) ?_; intro a21 F21
    refine op_rq (v := .agg #[.string t.fs[k], .string ⟨#[]⟩]) F21 (r_ldR rfl (F21.e (.pointer (some (ad14.add (k * 2))))) (cs := [.string t.fs[k], .string ⟨#[]⟩]) ((hF _ S13.drop.drop.drop).elA hA14 (j := k) (row := fileC t.fs[k]) (by rw [List.getElem?_map, List.getElem?_eq_getElem hlt_k]; rfl)) Try.underlying94 rfl (by kernel_rfl) (v := #[.string t.fs[k], .string ⟨#[]⟩]) (by kernel_rfl)) ?_; intro a22 F22
    refine op_sq F22 (s_newp F22 94 #[.string ⟨#[]⟩, .string ⟨#[]⟩] (by kernel_rfl) (by kernel_rfl) (by kernel_rfl) S13) ?_
    rintro _ _ w24 ⟨g22, rfl, rfl⟩ S24 a24 F24
    refine op_sq0 F24 (s_stb rfl (F24.e (.pointer (some ⟨g22, 0, none⟩))) (F24.e (.agg #[.string t.fs[k], .string ⟨#[]⟩])) S24 (by kernel_rfl) rfl (by kernel_rfl)) ?_
    rintro _ _ w25 rfl S25 F25
    refine wpList_nil ?_
    refine hK20 _ _ ?_; clear hK20 K20
    refine wp_seq_k fun K26 hK26 => ?_
    refine wp_region_lit ?_
    refine op_q F25 (.pointer (some ⟨g22, 0, none⟩)) ?_; intro a27 F27
    refine op_rq (v := .string t.fs[k]) F27 (r_ld rfl (F27.e (.pointer (some ⟨g22, 0, none⟩))) (v := .string t.fs[k]) ((S25.bk 0 rfl).cell 0) Try.underlying9 rfl) ?_; intro a28 F28
    refine op_cq F28 (f := 101) (args := #[.string t.fs[k]]) (chCRD_sp t.fs[k] _ _ _ S25 (by omega) hfa) ?_
    rintro _ w29 ⟨rfl, S29⟩
    refine ⟨_, rfl, ?_⟩
    intro a30 F30
    refine wpList_nil ?_
    refine hK26 _ _ ?_; clear hK26 K26
    rcases btf (crdB t.fs[k]) with hc31 | hc31
    · have F32 := F30.sb 21 (by kernel_rfl) hc31
      refine wp_cond_true (F32.ev (by kernel_rfl)) ?_
      refine wp_region_sepF (L0 := SA.blk g22 94 #[.string t.fs[k], .string ⟨#[]⟩] :: SA.blk g1 30 #[.bool false, .string t.n, .string ⟨#[]⟩, .string ⟨#[]⟩, .string ⟨#[]⟩, .string ⟨#[]⟩, .string ⟨#[]⟩, .string ⟨#[]⟩, .string ⟨#[]⟩, .string ⟨#[]⟩, .string ⟨#[]⟩, .string ⟨#[]⟩, .slice none 0 0, .slice none 0 0, .slice none 0 0, .slice none 0 0, .slice (t.fA) (t.fs.length) (t.fc), .slice (t.dA) (t.kids.length) (t.dc)] :: L) [some [], some [], some [(1, 23)], some [(2, 24)], some [(0, 22), (2, 24), (3, 25)], some [], some [], some [(6, 28)], some [], some [(8, 30)], some [(7, 29), (9, 31)], some [(10, 32)], some [(5, 27), (10, 32), (11, 33)], none, none] [.v 22 (.slice A ns.length c), .v 23 (.pointer (some ⟨g22, 0, none⟩)), .v 24 (.string t.fs[k]), .p 25 (SA.emp) (fun _ vv AA => ∃ g66 : Nat, vv = .slice (some ⟨g66, 0, none⟩) 1 1 ∧ AA = SA.blk g66 9 #[.string t.fs[k]]), .p 26 (SA.own (.slice A ns.length c) 9 1 ns.length (strs ns)) (fun _ vv AA => ∃ A71 : Option Addr, ∃ c71 : Nat, vv = .slice A71 ((ns ++ [t.fs[k]]).length) c71 ∧ AA = SA.own (.slice A71 ((ns ++ [t.fs[k]]).length) c71) 9 1 ((ns ++ [t.fs[k]]).length) (strs (ns ++ [t.fs[k]]))), .v 27 (.slice B ps.length d), .v 28 (.string p), .v 29 (.string (p ++ (⟨#[47]⟩ : ByteArray))), .v 30 (.pointer (some ⟨g22, 0, none⟩)), .v 31 (.string t.fs[k]), .v 32 (.string ((p ++ (⟨#[47]⟩ : ByteArray)) ++ t.fs[k])), .p 33 (SA.emp) (fun _ vv AA => ∃ g83 : Nat, vv = .slice (some ⟨g83, 0, none⟩) 1 1 ∧ AA = SA.blk g83 9 #[.string ((p ++ (⟨#[47]⟩ : ByteArray)) ++ t.fs[k])]), .p 34 (SA.own (.slice B ps.length d) 9 1 ps.length (strs ps)) (fun _ vv AA => ∃ A88 : Option Addr, ∃ c88 : Nat, vv = .slice A88 ((ps ++ [(p ++ (⟨#[47]⟩ : ByteArray)) ++ t.fs[k]]).length) c88 ∧ AA = SA.own (.slice A88 ((ps ++ [(p ++ (⟨#[47]⟩ : ByteArray)) ++ t.fs[k]]).length) c88) 9 1 ((ps ++ [(p ++ (⟨#[47]⟩ : ByteArray)) ++ t.fs[k]]).length) (strs (ps ++ [(p ++ (⟨#[47]⟩ : ByteArray)) ++ t.fs[k]]))), .n SA.emp (fun _ _ A => A = SA.emp), .n SA.emp (fun _ _ A => A = SA.emp)] [] F32 rfl (by kernel_rfl) ((((((S29.p3).p3).p1).emp).p2).emp) ?_ ?_
      · refine ⟨?_, ?_, ?_, ?_, ?_, ?_, ?_, ?_, ?_, ?_, ?_, ?_, ?_, trivial⟩
        · intro w61 M61
          intro a61 F61 S61
          refine obl_of (by rfl) ?_
          exact s_p F61 (v := .slice A ns.length c) (by kernel_rfl) (by kernel_rfl) (by kernel_rfl) S61
        · intro w62 M62
          intro a62 F62 S62
          refine obl_of (by rfl) ?_
          exact s_p F62 (v := .pointer (some ⟨g22, 0, none⟩)) (by kernel_rfl) (by kernel_rfl) (by kernel_rfl) S62
        · intro w63 M63
          intro a63 F63 S63
          refine obl_of (by rfl) ?_
          exact s_r (v := .string t.fs[k]) (r_ld rfl (F63.e (.pointer (some ⟨g22, 0, none⟩))) (v := .string t.fs[k]) (((Sp.dropM S63.drop).bk 0 rfl).cell 0) Try.underlying9 rfl) S63
        · intro w65 M65
          intro a65 F65 S65
          refine obl_of (by rfl) ?_
          exact s_news F65 9 #[.string t.fs[k]] 1 (by kernel_rfl) (by kernel_rfl) (by kernel_rfl) S65.drop
        · intro w67 M67
          rintro _ _ ⟨g66, rfl, rfl⟩ hA70
          intro a67 F67 S67
          refine obl_of (by rfl) ?_
          exact s_app rfl Try.underlying22 1 _ tin9 rfl rfl (F67.e (.slice A ns.length c)) S67 ([Value.string t.fs[k]]) (F67.e (.slice (some ⟨g66, 0, none⟩) 1 1)) ((Sp.bkm S67.drop hA70).sl (by simp)) rfl (by simp [Value.oneCell']) (by omega) (by omega) (n' := (ns ++ [t.fs[k]]).length) (by first | (simp; done) | (simp; omega)) (cs' := strs (ns ++ [t.fs[k]])) (by simp [strs])
        · intro w72 M72
          intro a72 F72 S72
          refine obl_of (by rfl) ?_
          exact s_p F72 (v := .slice B ps.length d) (by kernel_rfl) (by kernel_rfl) (by kernel_rfl) S72
        · intro w73 M73
          intro a73 F73 S73
          refine obl_of (by rfl) ?_
          exact s_p F73 (v := .string p) (by kernel_rfl) (by kernel_rfl) (by kernel_rfl) S73
        · intro w74 M74
          intro a74 F74 S74
          refine obl_of (by rfl) ?_
          exact s_r (v := .string (p ++ (⟨#[47]⟩ : ByteArray))) (r_sadd rfl (F74.e (.string p)) (F74.e (.string ⟨#[47]⟩)) (by show p.size + 1 ≤ 9223372036854775807; omega)) S74
        · intro w76 M76
          intro a76 F76 S76
          refine obl_of (by rfl) ?_
          exact s_p F76 (v := .pointer (some ⟨g22, 0, none⟩)) (by kernel_rfl) (by kernel_rfl) (by kernel_rfl) S76
        · intro w77 M77
          intro a77 F77 S77
          refine obl_of (by rfl) ?_
          exact s_r (v := .string t.fs[k]) (r_ld rfl (F77.e (.pointer (some ⟨g22, 0, none⟩))) (v := .string t.fs[k]) (((Sp.dropM S77.drop).bk 0 rfl).cell 0) Try.underlying9 rfl) S77
        · intro w79 M79
          intro a79 F79 S79
          refine obl_of (by rfl) ?_
          exact s_r (v := .string ((p ++ (⟨#[47]⟩ : ByteArray)) ++ t.fs[k])) (r_sadd rfl (F79.e (.string (p ++ (⟨#[47]⟩ : ByteArray)))) (F79.e (.string t.fs[k])) (by show (p ++ (⟨#[47]⟩ : ByteArray)).size + t.fs[k].size ≤ 9223372036854775807; (try simp only [ByteArray.size_append, e47]); omega)) S79
        · intro w82 M82
          intro a82 F82 S82
          refine obl_of (by rfl) ?_
          exact s_news F82 9 #[.string ((p ++ (⟨#[47]⟩ : ByteArray)) ++ t.fs[k])] 1 (by kernel_rfl) (by kernel_rfl) (by kernel_rfl) S82.drop
        · intro w84 M84
          rintro _ _ ⟨g83, rfl, rfl⟩ hA87
          intro a84 F84 S84
          refine obl_of (by rfl) ?_
          exact s_app rfl Try.underlying22 1 _ tin9 rfl rfl (F84.e (.slice B ps.length d)) S84 ([Value.string ((p ++ (⟨#[47]⟩ : ByteArray)) ++ t.fs[k])]) (F84.e (.slice (some ⟨g83, 0, none⟩) 1 1)) ((Sp.bkm S84.drop hA87).sl (by simp)) rfl (by simp [Value.oneCell']) (by omega) (by omega) (n' := (ps ++ [(p ++ (⟨#[47]⟩ : ByteArray)) ++ t.fs[k]]).length) (by first | (simp; done) | (simp; omega)) (cs' := strs (ps ++ [(p ++ (⟨#[47]⟩ : ByteArray)) ++ t.fs[k]])) (by simp [strs])
      · rintro _ _ ⟨g66, rfl, rfl⟩
        rintro _ _ ⟨A71, c71, rfl, rfl⟩
        rintro _ _ ⟨g83, rfl, rfl⟩
        rintro _ _ ⟨A88, c88, rfl, rfl⟩
        intro a90 w89 F90 S89
        have S91 : Sp R w89 (SA.own (.slice A88 ((ps ++ [(p ++ (⟨#[47]⟩ : ByteArray)) ++ t.fs[k]]).length) c88) 9 1 ((ps ++ [(p ++ (⟨#[47]⟩ : ByteArray)) ++ t.fs[k]]).length) (strs (ps ++ [(p ++ (⟨#[47]⟩ : ByteArray)) ++ t.fs[k]])) :: SA.blk g83 9 #[.string ((p ++ (⟨#[47]⟩ : ByteArray)) ++ t.fs[k])] :: SA.own (.slice A71 ((ns ++ [t.fs[k]]).length) c71) 9 1 ((ns ++ [t.fs[k]]).length) (strs (ns ++ [t.fs[k]])) :: SA.blk g66 9 #[.string t.fs[k]] :: SA.blk g22 94 #[.string t.fs[k], .string ⟨#[]⟩] :: SA.blk g1 30 #[.bool false, .string t.n, .string ⟨#[]⟩, .string ⟨#[]⟩, .string ⟨#[]⟩, .string ⟨#[]⟩, .string ⟨#[]⟩, .string ⟨#[]⟩, .string ⟨#[]⟩, .string ⟨#[]⟩, .string ⟨#[]⟩, .string ⟨#[]⟩, .slice none 0 0, .slice none 0 0, .slice none 0 0, .slice none 0 0, .slice (t.fA) (t.fs.length) (t.fc), .slice (t.dA) (t.kids.length) (t.dc)] :: L) := S89
        refine op_q F90 (.slice A71 ((ns ++ [t.fs[k]]).length) c71) ?_; intro a92 F92
        refine op_q F92 (.slice A88 ((ps ++ [(p ++ (⟨#[47]⟩ : ByteArray)) ++ t.fs[k]]).length) c88) ?_; intro a93 F93
        refine wpList_nil ?_
        refine hK19 _ _ ?_; clear hK19 K19
        refine wp_region_lit ?_
        refine op_rq (v := .int .i64 (↑(k + 1))) F93 (r_add (z := ↑(k + 1)) rfl (F93.e (.int .i64 (↑k))) (F93.e (.int .i64 1)) (wr64 (by omega) (by omega) (by omega))) ?_; intro a94 F94
        refine op_q F94 (.int .i64 (↑(k + 1))) ?_; intro a95 F95
        refine wpList_nil ?_
        exact hK13 _ _ _ (by first | omega | (simp; omega)) ⟨A71, c71, (ns ++ [t.fs[k]]), A88, c88, (ps ++ [(p ++ (⟨#[47]⟩ : ByteArray)) ++ t.fs[k]]), k + 1, rfl, (F95.kk 1 (F95.kk 2 (F95.kk 4 (F95.kk 5 (F95.kk 13 (F95.kk 14 (F95.kk 15 F95.nil))))))), S91.p1.drop.p2.drop.p2.drop.p1.p2, (by first | omega | (with_reducible assumption) | (simp; done)), (by rw [filt_take hlt_k2, ← hns, hc31]; rfl), (by rw [filt_take hlt_k2, List.map_append, ← hps, hc31]; rfl)⟩
    · have F96 := F30.sb 21 (by kernel_rfl) hc31
      refine wp_cond_false (F96.ev (by kernel_rfl)) ?_
      refine wp_skip ?_
      refine hK19 _ _ ?_; clear hK19 K19
      refine wp_region_lit ?_
      refine op_rq (v := .int .i64 (↑(k + 1))) F96 (r_add (z := ↑(k + 1)) rfl (F96.e (.int .i64 (↑k))) (F96.e (.int .i64 1)) (wr64 (by omega) (by omega) (by omega))) ?_; intro a97 F97
      refine op_q F97 (.int .i64 (↑(k + 1))) ?_; intro a98 F98
      refine wpList_nil ?_
      exact hK13 _ _ _ (by first | omega | (simp; omega)) ⟨A, c, ns, B, d, ps, k + 1, rfl, (F98.kk 1 (F98.kk 2 (F98.kk 4 (F98.kk 5 (F98.kk 13 (F98.kk 14 (F98.kk 15 F98.nil))))))), S29.drop.p2.p2.p2, (by first | omega | (with_reducible assumption) | (simp; done)), (by rw [filt_take hlt_k2, ← hns, hc31]; exact (List.append_nil _).symm), (by rw [filt_take hlt_k2, List.map_append, ← hps, hc31]; exact (List.append_nil _).symm)⟩
  · have hc_k : decide ((↑k : Int) < ↑t.fs.length) = false := by first | (simp; done) | (simp; omega)
    obtain rfl : k = t.fs.length := by omega
    rw [List.take_length] at hns hps
    refine wp_seq_k fun K99 hK99 => ?_
    refine wp_region_lit ?_
    refine op_q F13 (.bool (decide ((↑t.fs.length : Int) < ↑t.fs.length))) ?_; intro a100 F100
    have F101 := F100.sb 16 (by kernel_rfl) hc_k
    refine wpList_nil ?_
    refine hK99 _ _ ?_; clear hK99 K99
    refine wp_seq_k fun K102 hK102 => ?_
    refine wp_cond_false (F101.ev (by kernel_rfl)) ?_
    refine wp_exit ?_
    refine ex_then ?_; clear hK102 K102
    refine ex_then ?_
    refine ex_in ?_
    refine hK6 _ _ ?_; clear hK6 K6
    refine wp_seq_k fun K103 hK103 => ?_
    refine wp_seq_k fun K104 hK104 => ?_
    refine wp_region_lit ?_
    refine op_q F101 (.pointer (some ⟨g1, 17, none⟩)) ?_; intro a105 F105
    refine op_rq (v := .slice (t.dA) (t.kids.length) (t.dc)) F105 (r_ld rfl (F105.e (.pointer (some ⟨g1, 17, none⟩))) (v := .slice (t.dA) (t.kids.length) (t.dc)) ((S13.bk 0 rfl).cell 17) Try.underlying28 rfl) ?_; intro a106 F106
    refine op_q F106 (.int .i64 (↑t.kids.length)) ?_; intro a107 F107
    refine op_q F107 (.int .i64 0) ?_; intro a108 F108
    refine wpList_nil ?_
    refine hK104 _ _ ?_; clear hK104 K104
    refine wp_block ?_
    refine fw_loop (fun m' a' w' => ∃ A1 : Option Addr, ∃ c1 : Nat, ∃ ns1 : List ByteArray, ∃ B1 : Option Addr, ∃ d1 : Nat, ∃ ps1 : List ByteArray, ∃ j : Nat, t.kids.length - j = m' ∧ Fr 63 [] a' [(1, .string p), (4, .slice A1 ns1.length c1), (5, .slice B1 ps1.length d1), (37, .slice (t.dA) (t.kids.length) (t.dc)), (38, .int .i64 (↑t.kids.length)), (39, .int .i64 (↑j))] ∧ Sp R w' (SA.own (.slice A1 ns1.length c1) 9 1 ns1.length (strs ns1) :: SA.own (.slice B1 ps1.length d1) 9 1 ps1.length (strs ps1) :: L) ∧ (j ≤ t.kids.length) ∧ (ns1 = (t.fs.filter crdB ++ ((t.kids.map (Tr.pl m)).take j).flatMap (crdN m))) ∧ (ps1 = ((t.fs.filter crdB).map (fun f => p ++ (⟨#[47]⟩ : ByteArray) ++ f) ++ ((t.kids.map (Tr.pl m)).take j).flatMap fun d => crdP m (p ++ (⟨#[47, 99, 104, 97, 114, 116, 115, 47]⟩ : ByteArray) ++ d.n) d))) _ ⟨A, c, ns, B, d, ps, 0, rfl, (F108.kk 1 (F108.kk 4 (F108.kk 5 (F108.kk 37 (F108.kk 38 (F108.kk 39 F108.nil)))))), S13.drop.p1.p1, (by first | omega | (with_reducible assumption) | (simp; done)), (by rw [hns]; simp), (by rw [hps]; simp)⟩ ?_
    rintro m109 a109 w109 ⟨A1, c1, ns1, B1, d1, ps1, j, hm109, F109, S109, hj, hns1, hps1⟩ K109 hK109
    by_cases hlt_j : j < t.kids.length
    · have hc_j : decide ((↑j : Int) < ↑t.kids.length) = true := by first | (simp; done) | (simp; omega)
      have hlt_j2 : j < t.kids.length := by omega
      obtain ⟨ad110, hA110⟩ := (hD _ S109.drop.drop).addr (by simp; omega)
      have hlt_j2 : j < t.kids.length := by omega
      have hlt_j3 : j < (t.kids.map (Tr.pl m)).length := by rw [List.length_map]; omega
      have hkk := hto5 _ (List.getElem_mem hlt_j2)
      have hkn : t.kids[j].n.size ≤ 8 := trOk_n hkk
      have hKj : Rf R L fun w => TrAt w m t.kids[j] := fun w S => (h0 w S).2.2 _ (List.getElem_mem hlt_j2)
      have hsk := sum_take (f := Tr.cnt m) hlt_j2
      have hsk2 := hsk.2
      have e1 : (⟨#[47, 99, 104, 97, 114, 116, 115, 47]⟩ : ByteArray).size = 8 := rfl
      have hkc := spN_cnt hkk
      have hkd : ∀ q, (crdP m q (Tr.pl m t.kids[j])).length = (crdN m (Tr.pl m t.kids[j])).length := fun q => crdP_len m _ q
      have h4 := take_flat_le (f := crdN m) (t.kids.map (Tr.pl m)) j
      have h5 : (t.fs.filter crdB ++ (t.kids.map (Tr.pl m)).flatMap (crdN m)).length ≤ 5 * (1 + (t.kids.map (Tr.cnt m)).sum) := hc5
      rw [List.length_append] at h5
      have hnb : ns1.length ≤ 10000 := by rw [hns1, List.length_append]; omega
      have hpb : ps1.length ≤ 10000 := by rw [hps1, List.length_append, List.length_map, flatP_len]; omega
      refine wp_seq_k fun K111 hK111 => ?_
      refine wp_region_lit ?_
      refine op_q F109 (.bool (decide ((↑j : Int) < ↑t.kids.length))) ?_; intro a112 F112
      have F113 := F112.sb 40 (by kernel_rfl) hc_j
      refine wpList_nil ?_
      refine hK111 _ _ ?_; clear hK111 K111
      refine wp_seq_k fun K114 hK114 => ?_
      refine wp_cond_true (F113.ev (by kernel_rfl)) ?_
      refine wp_skip ?_
      refine hK114 _ _ ?_; clear hK114 K114
      refine wp_seq_k fun K115 hK115 => ?_
      refine wp_block ?_
      refine wp_seq_k fun K116 hK116 => ?_
      refine wp_region_lit ?_
      refine op_rq (v := .pointer (some (ad110.add (j * 18)))) F113 (r_ix rfl Try.underlying28 18 (by kernel_rfl) (F113.e (.slice (t.dA) (t.kids.length) (t.dc))) hA110 (F113.e (.int .i64 (↑j))) j (by first | rfl | omega | simp) (by first | omega | (simp; done) | (simp; omega)) (rfl)) ?_; intro a117 F117
      refine op_rq (v := .agg #[.bool false, .string t.kids[j].n, .string ⟨#[]⟩, .string ⟨#[]⟩, .string ⟨#[]⟩, .string ⟨#[]⟩, .string ⟨#[]⟩, .string ⟨#[]⟩, .string ⟨#[]⟩, .string ⟨#[]⟩, .string ⟨#[]⟩, .string ⟨#[]⟩, .slice none 0 0, .slice none 0 0, .slice none 0 0, .slice none 0 0, .slice t.kids[j].fA t.kids[j].fs.length t.kids[j].fc, .slice t.kids[j].dA t.kids[j].kids.length t.kids[j].dc]) F117 (r_ldR rfl (F117.e (.pointer (some (ad110.add (j * 18))))) (cs := [.bool false, .string t.kids[j].n, .string ⟨#[]⟩, .string ⟨#[]⟩, .string ⟨#[]⟩, .string ⟨#[]⟩, .string ⟨#[]⟩, .string ⟨#[]⟩, .string ⟨#[]⟩, .string ⟨#[]⟩, .string ⟨#[]⟩, .string ⟨#[]⟩, .slice none 0 0, .slice none 0 0, .slice none 0 0, .slice none 0 0, .slice t.kids[j].fA t.kids[j].fs.length t.kids[j].fc, .slice t.kids[j].dA t.kids[j].kids.length t.kids[j].dc]) ((hD _ S109.drop.drop).elA hA110 (j := j) (row := t.kids[j].cells) (by rw [List.getElem?_map, List.getElem?_eq_getElem hlt_j]; rfl)) Try.underlying30 rfl (by kernel_rfl) (v := #[.bool false, .string t.kids[j].n, .string ⟨#[]⟩, .string ⟨#[]⟩, .string ⟨#[]⟩, .string ⟨#[]⟩, .string ⟨#[]⟩, .string ⟨#[]⟩, .string ⟨#[]⟩, .string ⟨#[]⟩, .string ⟨#[]⟩, .string ⟨#[]⟩, .slice none 0 0, .slice none 0 0, .slice none 0 0, .slice none 0 0, .slice t.kids[j].fA t.kids[j].fs.length t.kids[j].fc, .slice t.kids[j].dA t.kids[j].kids.length t.kids[j].dc]) (by kernel_rfl)) ?_; intro a118 F118
      refine op_sq F118 (s_newp F118 30 #[.bool false, .string ⟨#[]⟩, .string ⟨#[]⟩, .string ⟨#[]⟩, .string ⟨#[]⟩, .string ⟨#[]⟩, .string ⟨#[]⟩, .string ⟨#[]⟩, .string ⟨#[]⟩, .string ⟨#[]⟩, .string ⟨#[]⟩, .string ⟨#[]⟩, .slice none 0 0, .slice none 0 0, .slice none 0 0, .slice none 0 0, .slice none 0 0, .slice none 0 0] (by kernel_rfl) (by kernel_rfl) (by kernel_rfl) S109) ?_
      rintro _ _ w120 ⟨g118, rfl, rfl⟩ S120 a120 F120
      refine op_sq0 F120 (s_stb rfl (F120.e (.pointer (some ⟨g118, 0, none⟩))) (F120.e (.agg #[.bool false, .string t.kids[j].n, .string ⟨#[]⟩, .string ⟨#[]⟩, .string ⟨#[]⟩, .string ⟨#[]⟩, .string ⟨#[]⟩, .string ⟨#[]⟩, .string ⟨#[]⟩, .string ⟨#[]⟩, .string ⟨#[]⟩, .string ⟨#[]⟩, .slice none 0 0, .slice none 0 0, .slice none 0 0, .slice none 0 0, .slice t.kids[j].fA t.kids[j].fs.length t.kids[j].fc, .slice t.kids[j].dA t.kids[j].kids.length t.kids[j].dc])) S120 (by kernel_rfl) rfl (by kernel_rfl)) ?_
      rintro _ _ w121 rfl S121 F121
      refine wpList_nil ?_
      refine hK116 _ _ ?_; clear hK116 K116
      refine wp_seq_k fun K122 hK122 => ?_
      refine wp_region_lit ?_
      refine op_rq (v := .agg #[.bool false, .string t.kids[j].n, .string ⟨#[]⟩, .string ⟨#[]⟩, .string ⟨#[]⟩, .string ⟨#[]⟩, .string ⟨#[]⟩, .string ⟨#[]⟩, .string ⟨#[]⟩, .string ⟨#[]⟩, .string ⟨#[]⟩, .string ⟨#[]⟩, .slice none 0 0, .slice none 0 0, .slice none 0 0, .slice none 0 0, .slice t.kids[j].fA t.kids[j].fs.length t.kids[j].fc, .slice t.kids[j].dA t.kids[j].kids.length t.kids[j].dc]) F121 (r_ldm rfl (F121.e (.pointer (some ⟨g118, 0, none⟩))) (S121.bk 0 rfl) 18 (by kernel_rfl) Try.underlying30 rfl (by kernel_rfl) (v := #[.bool false, .string t.kids[j].n, .string ⟨#[]⟩, .string ⟨#[]⟩, .string ⟨#[]⟩, .string ⟨#[]⟩, .string ⟨#[]⟩, .string ⟨#[]⟩, .string ⟨#[]⟩, .string ⟨#[]⟩, .string ⟨#[]⟩, .string ⟨#[]⟩, .slice none 0 0, .slice none 0 0, .slice none 0 0, .slice none 0 0, .slice t.kids[j].fA t.kids[j].fs.length t.kids[j].fc, .slice t.kids[j].dA t.kids[j].kids.length t.kids[j].dc]) (by kernel_rfl)) ?_; intro a123 F123
      refine op_q F123 (.string p) ?_; intro a124 F124
      refine op_rq (v := .string (p ++ (⟨#[47, 99, 104, 97, 114, 116, 115, 47]⟩ : ByteArray))) F124 (r_sadd rfl (F124.e (.string p)) (F124.e (.string ⟨#[47, 99, 104, 97, 114, 116, 115, 47]⟩)) (by show p.size + 8 ≤ 9223372036854775807; omega)) ?_; intro a125 F125
      refine op_q F125 (.pointer (some ⟨g118, 1, none⟩)) ?_; intro a126 F126
      refine op_q F126 (.pointer (some ⟨g118, 1, none⟩)) ?_; intro a127 F127
      refine op_rq (v := .string t.kids[j].n) F127 (r_ld rfl (F127.e (.pointer (some ⟨g118, 1, none⟩))) (v := .string t.kids[j].n) ((S121.bk 0 rfl).cell 1) Try.underlying9 rfl) ?_; intro a128 F128
      refine op_rq (v := .string ((p ++ (⟨#[47, 99, 104, 97, 114, 116, 115, 47]⟩ : ByteArray)) ++ t.kids[j].n)) F128 (r_sadd rfl (F128.e (.string (p ++ (⟨#[47, 99, 104, 97, 114, 116, 115, 47]⟩ : ByteArray)))) (F128.e (.string t.kids[j].n)) (by show (p ++ (⟨#[47, 99, 104, 97, 114, 116, 115, 47]⟩ : ByteArray)).size + t.kids[j].n.size ≤ 9223372036854775807; (try simp only [ByteArray.size_append, e1]); omega)) ?_; intro a129 F129
      have hcl130 := ih t.kids[j] ((p ++ (⟨#[47, 99, 104, 97, 114, 116, 115, 47]⟩ : ByteArray)) ++ t.kids[j].n) _ _ _ S121 (fun w S => hKj w S.drop.drop.drop) hkk (by omega) (by simp only [ByteArray.size_append, e1]; omega)
      refine op_cq F129 (f := 47) hcl130 ?_
      rintro _ w130 ⟨A130, c130, ns130, B130, d130, ps130, rfl, S130, hp0_130, hp1_130⟩
      refine ⟨_, rfl, ?_⟩
      intro a131 F131
      have hcb2 : ns130.length ≤ 1000 := by rw [hp0_130]; omega
      have hcb3 : ps130.length ≤ 1000 := by rw [hp1_130, hkd]; omega
      refine op_q F131 (.tuple #[.slice A130 ns130.length c130, .slice B130 ps130.length d130]) ?_; intro a132 F132
      refine op_q F132 (.slice A130 ns130.length c130) ?_; intro a133 F133
      refine op_q F133 (.slice B130 ps130.length d130) ?_; intro a134 F134
      refine op_q F134 (.slice A130 ns130.length c130) ?_; intro a135 F135
      refine op_q F135 (.slice B130 ps130.length d130) ?_; intro a136 F136
      refine wpList_nil ?_
      refine hK122 _ _ ?_; clear hK122 K122
      refine wp_region_lit ?_
      refine op_q F136 (.slice A1 ns1.length c1) ?_; intro a137 F137
      refine op_q F137 (.slice A130 ns130.length c130) ?_; intro a138 F138
      refine op_sq F138 (s_app rfl Try.underlying22 1 _ tin9 rfl rfl (F138.e (.slice A1 ns1.length c1)) S130.p3 (strs ns130) (F138.e (.slice A130 ns130.length c130)) (own_sl1 (S130.ow 0 rfl) (by first | omega | (simp; omega))) (by first | (simp [strs, ptrs, pps]; done) | (simp [strs, ptrs, pps]; omega)) (by intro u hu; obtain ⟨x, _, rfl⟩ := List.mem_map.1 hu; rfl) (by omega) (by omega) (n' := (ns1 ++ ns130).length) (by first | (simp; done) | (simp; omega)) (cs' := strs (ns1 ++ ns130)) (by simp [strs])) ?_
      rintro _ _ w140 ⟨A139, c139, rfl, rfl⟩ S140 a140 F140
      refine op_q F140 (.slice B1 ps1.length d1) ?_; intro a141 F141
      refine op_q F141 (.slice B130 ps130.length d130) ?_; intro a142 F142
      refine op_sq F142 (s_app rfl Try.underlying22 1 _ tin9 rfl rfl (F142.e (.slice B1 ps1.length d1)) S140.p4 (strs ps130) (F142.e (.slice B130 ps130.length d130)) (own_sl1 (S140.ow 2 rfl) (by first | omega | (simp; omega))) (by first | (simp [strs, ptrs, pps]; done) | (simp [strs, ptrs, pps]; omega)) (by intro u hu; obtain ⟨x, _, rfl⟩ := List.mem_map.1 hu; rfl) (by omega) (by omega) (n' := (ps1 ++ ps130).length) (by first | (simp; done) | (simp; omega)) (cs' := strs (ps1 ++ ps130)) (by simp [strs])) ?_
      rintro _ _ w144 ⟨A143, c143, rfl, rfl⟩ S144 a144 F144
      refine op_q F144 (.slice A139 ((ns1 ++ ns130).length) c139) ?_; intro a145 F145
      refine op_q F145 (.slice A143 ((ps1 ++ ps130).length) c143) ?_; intro a146 F146
      refine wpList_nil ?_
      refine hK115 _ _ ?_; clear hK115 K115
      refine wp_region_lit ?_
      refine op_rq (v := .int .i64 (↑(j + 1))) F146 (r_add (z := ↑(j + 1)) rfl (F146.e (.int .i64 (↑j))) (F146.e (.int .i64 1)) (wr64 (by omega) (by omega) (by omega))) ?_; intro a147 F147
      refine op_q F147 (.int .i64 (↑(j + 1))) ?_; intro a148 F148
      refine wpList_nil ?_
      exact hK109 _ _ _ (by first | omega | (simp; omega)) ⟨A139, c139, (ns1 ++ ns130), A143, c143, (ps1 ++ ps130), j + 1, rfl, (F148.kk 1 (F148.kk 4 (F148.kk 5 (F148.kk 37 (F148.kk 38 (F148.kk 39 F148.nil)))))), S144.p2.drop.p2.drop.p2.drop.p1, (by first | omega | (with_reducible assumption) | (simp; done)), (by rw [flat_take hlt_j3, ← List.append_assoc, ← hns1, List.getElem_map, ← hp0_130]), (by rw [flat_take hlt_j3, ← List.append_assoc, ← hps1, List.getElem_map, Tr.pl_n, ← hp1_130])⟩
    · have hc_j : decide ((↑j : Int) < ↑t.kids.length) = false := by first | (simp; done) | (simp; omega)
      obtain rfl : j = t.kids.length := by omega
      rw [show (t.kids.map (Tr.pl m)).take t.kids.length = t.kids.map (Tr.pl m) from by rw [show t.kids.length = (t.kids.map (Tr.pl m)).length from (List.length_map _).symm, List.take_length]] at hns1 hps1
      refine wp_seq_k fun K149 hK149 => ?_
      refine wp_region_lit ?_
      refine op_q F109 (.bool (decide ((↑t.kids.length : Int) < ↑t.kids.length))) ?_; intro a150 F150
      have F151 := F150.sb 40 (by kernel_rfl) hc_j
      refine wpList_nil ?_
      refine hK149 _ _ ?_; clear hK149 K149
      refine wp_seq_k fun K152 hK152 => ?_
      refine wp_cond_false (F151.ev (by kernel_rfl)) ?_
      refine wp_exit ?_
      refine ex_then ?_; clear hK152 K152
      refine ex_then ?_
      refine ex_in ?_
      refine hK103 _ _ ?_; clear hK103 K103
      refine wp_seq_k fun K153 hK153 => ?_
      refine wp_region_lit ?_
      refine op_q F151 (.slice A1 ns1.length c1) ?_; intro a154 F154
      refine op_q F154 (.slice B1 ps1.length d1) ?_; intro a155 F155
      refine op_q F155 (.slice A1 ns1.length c1) ?_; intro a156 F156
      refine op_q F156 (.slice B1 ps1.length d1) ?_; intro a157 F157
      refine wpList_nil ?_
      refine hK153 _ _ ?_; clear hK153 K153
      refine wp_ret ?_
      refine (F157.res2 rfl (v := .slice A1 ns1.length c1) (by kernel_rfl) (v2 := .slice B1 ps1.length d1) (by kernel_rfl) ?_).1
      exact ⟨A1, c1, ns1, B1, d1, ps1, rfl, S109.p1.p1, hns1, hps1⟩
theorem chCRDs_sp : ∀ m : Nat, SpcC m
  | 0 => fun t p R L w S h0 ht _ _ => ht.elim
  | m + 1 => fun t p R L w S h0 ht hz hp => chCRDs_S m t p R L w S h0 (chCRDs_sp m) ht hz hp
end Go.Proofs.Ytkjcedlgljeoiaa

/- impl.ChartPaths, spec.ChPaths; zzFits1; opened arguments. -/
namespace Go.Proofs.Ytkjcedlgljeoiaa
open Go.RowKit Go.Lib
set_option linter.unusedVariables false
set_option linter.unusedSimpArgs false
theorem root_at {R : Ctx} {w : World} {m : Nat} {o : Ob} {L : List SA} (h : ObOk (m + 1) o) (S : Sp R w (SA.root (m + 1) o :: L)) : ChnAt w [o] ∧ ObAt w (m + 1) o := by
  have S1 : Sp R w (SA.blk o.g 245 #[.slice none 0 0, .pointer (some ⟨o.gm, 0, none⟩), .slice none 0 0, .map none, .slice none 0 0, .slice o.fA o.ps.length o.fc, .pointer none, .slice o.dA o.kids.length o.dc] :: SA.ob (m + 1) o :: L) := Sp.star.1 S
  have h2 := Sp.obAt h S1.drop
  exact ⟨⟨S1.bk 0 rfl, h2.1⟩, h2⟩
theorem tr_flat {t : Tr} {n : ByteArray} {fA dA : Option Addr} {fl fc dl dc : Nat} (h : t.cells = [Value.bool false, .string n, .string ⟨#[]⟩, .string ⟨#[]⟩, .string ⟨#[]⟩, .string ⟨#[]⟩, .string ⟨#[]⟩, .string ⟨#[]⟩, .string ⟨#[]⟩, .string ⟨#[]⟩, .string ⟨#[]⟩, .string ⟨#[]⟩, .slice none 0 0, .slice none 0 0, .slice none 0 0, .slice none 0 0, .slice fA fl fc, .slice dA dl dc]) : n = t.n ∧ fA = t.fA ∧ fl = t.fs.length ∧ fc = t.fc ∧ dA = t.dA ∧ dl = t.kids.length ∧ dc = t.dc := by
  simp only [Tr.cells, List.cons.injEq, Value.string.injEq, Value.slice.injEq, and_true, true_and] at h
  obtain ⟨h1, ⟨h2, h3, h4⟩, h5, h6, h7⟩ := h
  exact ⟨h1.symm, h2.symm, h3.symm, h4.symm, h5.symm, h6.symm, h7.symm⟩
/-- The argument, opened. -/
abbrev Ty30 := Ti
def Ty30.ok (x : Ty30) (w : World) : Prop := TiAt w 7 x
theorem openTi {H : Type} {enc : TypeId × Value → H} {w : World} {base : Nat} {spare : Nat → Bool} {held : Bool} : ∀ (m : Nat) (cs : List Value), Rd enc Try.prog w base spare held 30 cs → ∃ x : Ti, cs = x.cells ∧ TiAt w m x := by
  intro m
  induction m with
  | zero =>
    intro cs h
    have hl := rd_len Try.underlying30 h
    rw [show Try.prog.cellsOf 30 = 18 from by kernel_rfl] at hl
    have r0 : Rd enc Try.prog w base spare held 4 ((cs.drop 0).take (Try.prog.cellsOf 4)) := rd_field Try.underlying30 h 0 _ rfl
    rw [show Try.prog.cellsOf 4 = 1 from by kernel_rfl] at r0
    have r1 : Rd enc Try.prog w base spare held 26 ((cs.drop 1).take (Try.prog.cellsOf 26)) := rd_field Try.underlying30 h 1 _ rfl
    rw [show Try.prog.cellsOf 26 = 15 from by kernel_rfl] at r1
    have r2 : Rd enc Try.prog w base spare held 27 ((cs.drop 16).take (Try.prog.cellsOf 27)) := rd_field Try.underlying30 h 2 _ rfl
    rw [show Try.prog.cellsOf 27 = 1 from by kernel_rfl] at r2
    have r3 : Rd enc Try.prog w base spare held 28 ((cs.drop 17).take (Try.prog.cellsOf 28)) := rd_field Try.underlying30 h 3 _ rfl
    rw [show Try.prog.cellsOf 28 = 1 from by kernel_rfl] at r3
    match cs, hl with
    | [c0, c1, c2, c3, c4, c5, c6, c7, c8, c9, c10, c11, c12, c13, c14, c15, c16, c17], _ =>
      obtain ⟨v0, e0⟩ := rd_bool Try.underlying4 r0
      obtain ⟨v1, e1, z1⟩ := openT26 _ r1
      obtain ⟨a2, k2, rows2, e2, z2, _, y2, x2⟩ := rd_slice Try.underlying27 r2
      obtain ⟨v2, rfl, u2⟩ := rows_map (f := Ty94.cells) (Q := fun x => x.ok w) (fun r hr => openT94 r (x2 r hr).2)
      rw [show Try.prog.cellsOf 94 = 2 from by kernel_rfl] at y2
      rw [List.length_map] at e2 z2
      obtain ⟨a3, k3, rows3, e3, z3, _, y3, x3⟩ := rd_slice Try.underlying28 r3
      refine ⟨.mk v0 v1 a2 k2 v2 a3 k3 (List.replicate rows3.length (.mk false v1 none 0 [] none 0 [])), ?_, trivial⟩
      show _ = [Value.bool v0] ++ v1.cells ++ [Value.slice a2 v2.length k2] ++ [Value.slice a3 (List.replicate rows3.length _).length k3]
      rw [List.length_replicate]
      simp only [List.drop, List.take] at e0 e1 e2 e3
      rw [← e0, ← e1, ← e2, ← e3]; rfl
  | succ m ih =>
    intro cs h
    have hl := rd_len Try.underlying30 h
    rw [show Try.prog.cellsOf 30 = 18 from by kernel_rfl] at hl
    have r0 : Rd enc Try.prog w base spare held 4 ((cs.drop 0).take (Try.prog.cellsOf 4)) := rd_field Try.underlying30 h 0 _ rfl
    rw [show Try.prog.cellsOf 4 = 1 from by kernel_rfl] at r0
    have r1 : Rd enc Try.prog w base spare held 26 ((cs.drop 1).take (Try.prog.cellsOf 26)) := rd_field Try.underlying30 h 1 _ rfl
    rw [show Try.prog.cellsOf 26 = 15 from by kernel_rfl] at r1
    have r2 : Rd enc Try.prog w base spare held 27 ((cs.drop 16).take (Try.prog.cellsOf 27)) := rd_field Try.underlying30 h 2 _ rfl
    rw [show Try.prog.cellsOf 27 = 1 from by kernel_rfl] at r2
    have r3 : Rd enc Try.prog w base spare held 28 ((cs.drop 17).take (Try.prog.cellsOf 28)) := rd_field Try.underlying30 h 3 _ rfl
    rw [show Try.prog.cellsOf 28 = 1 from by kernel_rfl] at r3
    match cs, hl with
    | [c0, c1, c2, c3, c4, c5, c6, c7, c8, c9, c10, c11, c12, c13, c14, c15, c16, c17], _ =>
      obtain ⟨v0, e0⟩ := rd_bool Try.underlying4 r0
      obtain ⟨v1, e1, z1⟩ := openT26 _ r1
      obtain ⟨a2, k2, rows2, e2, z2, _, y2, x2⟩ := rd_slice Try.underlying27 r2
      obtain ⟨v2, rfl, u2⟩ := rows_map (f := Ty94.cells) (Q := fun x => x.ok w) (fun r hr => openT94 r (x2 r hr).2)
      rw [show Try.prog.cellsOf 94 = 2 from by kernel_rfl] at y2
      rw [List.length_map] at e2 z2
      obtain ⟨a3, k3, rows3, e3, z3, _, y3, x3⟩ := rd_slice Try.underlying28 r3
      obtain ⟨v3, rfl, u3⟩ := rows_map (f := Ti.cells) (Q := fun x => TiAt w m x) (fun r hr => ih r (x3 r hr).2)
      rw [show Try.prog.cellsOf 30 = 18 from by kernel_rfl] at y3
      rw [List.length_map] at e3
      refine ⟨.mk v0 v1 a2 k2 v2 a3 k3 v3, ?_, z1, ⟨y2, u2⟩, y3, u3⟩
      show _ = [Value.bool v0] ++ v1.cells ++ [Value.slice a2 v2.length k2] ++ [Value.slice a3 v3.length k3]
      simp only [List.drop, List.take] at e0 e1 e2 e3
      rw [← e0, ← e1, ← e2, ← e3]; rfl
theorem openT30 {H : Type} {enc : TypeId × Value → H} {w : World} {base : Nat} {spare : Nat → Bool} {held : Bool} (cs : List Value) (h : Rd enc Try.prog w base spare held 30 cs) : ∃ x : Ty30, cs = x.cells ∧ x.ok w := openTi 7 cs h
theorem chart2_7 (t : Tr) (gl : Nat) (R : Ctx) (L : List SA) (w : World) (S : Sp R w (SA.blk (gl) 3 #[.int .i64 100] :: L)) (h0 : Rf R L fun w => TrAt w (7) t) (ht : TrOk 7 t) (hn : Tr.cnt 7 t ≤ 100) :
    Calls Try.prog 126 #[.agg #[.bool false, .string ((nmM t.n).fName), .string ((nmM t.n).fHome), .string ((nmM t.n).fVersion), .string ((nmM t.n).fDescription), .string ((nmM t.n).fIcon), .string ((nmM t.n).fAPIVersion), .string ((nmM t.n).fCondition), .string ((nmM t.n).fTags), .string ((nmM t.n).fAppVersion), .string ((nmM t.n).fKubeVersion), .string ((nmM t.n).fType), .slice ((nmM t.n).fSources_a) ((nmM t.n).fSources.length) ((nmM t.n).fSources_c), .slice ((nmM t.n).fKeywords_a) ((nmM t.n).fKeywords.length) ((nmM t.n).fKeywords_c), .slice ((nmM t.n).fMaintainers_a) ((nmM t.n).fMaintainers.length) ((nmM t.n).fMaintainers_c), .slice ((nmM t.n).fDependencies_a) ((nmM t.n).fDependencies.length) ((nmM t.n).fDependencies_c), .slice (t.fA) (t.fs.length) (t.fc), .slice (t.dA) (t.kids.length) (t.dc)], .int .i64 20, .pointer (some ⟨gl, 0, none⟩)] w fun e w' => ∃ o : Ob, e = .returned (.tuple #[.pointer (some ⟨o.g, 0, none⟩), .bool true]) ∧ Sp R w' (SA.root (7) o :: L) ∧ (ObOk (7) o) ∧ (Ob.pl (7) o = Tr.pl (7) t) := by
  refine (chart2_sp 7 t 20 gl 100 R L w S h0 ht ⟨by omega, by omega⟩ ⟨hn, by omega⟩).mono fun e w' ⟨o, he, hS, h1, h2⟩ => ⟨o, he, hS.drop, h1, h2⟩
theorem chTree_7 (x : Ti) (gl : Nat) (R : Ctx) (L : List SA) (w : World) (S : Sp R w (SA.blk (gl) 3 #[.int .i64 30] :: L)) (h0 : Rf R L fun w => TiAt w (7) x)  :
    Calls Try.prog 15 #[.agg #[.bool x.bare, .string x.m.fName, .string x.m.fHome, .string x.m.fVersion, .string x.m.fDescription, .string x.m.fIcon, .string x.m.fAPIVersion, .string x.m.fCondition, .string x.m.fTags, .string x.m.fAppVersion, .string x.m.fKubeVersion, .string x.m.fType, .slice (x.m.fSources_a) (x.m.fSources.length) (x.m.fSources_c), .slice (x.m.fKeywords_a) (x.m.fKeywords.length) (x.m.fKeywords_c), .slice (x.m.fMaintainers_a) (x.m.fMaintainers.length) (x.m.fMaintainers_c), .slice (x.m.fDependencies_a) (x.m.fDependencies.length) (x.m.fDependencies_c), .slice (x.fA) (x.fs.length) (x.fc), .slice (x.dA) (x.kids.length) (x.dc)], .int .i64 0, .pointer (some ⟨gl, 0, none⟩)] w fun e w' => ∃ nn : ByteArray, ∃ fA : Option Addr, ∃ fl : Nat, ∃ fc : Nat, ∃ dA : Option Addr, ∃ dl : Nat, ∃ dc : Nat, ∃ kz : Nat, ∃ nz : Nat, e = .returned (.agg #[.bool false, .string nn, .string ⟨#[]⟩, .string ⟨#[]⟩, .string ⟨#[]⟩, .string ⟨#[]⟩, .string ⟨#[]⟩, .string ⟨#[]⟩, .string ⟨#[]⟩, .string ⟨#[]⟩, .string ⟨#[]⟩, .string ⟨#[]⟩, .slice none 0 0, .slice none 0 0, .slice none 0 0, .slice none 0 0, .slice fA fl fc, .slice dA dl dc]) ∧ Sp R w' (SA.blk (gl) 3 #[.int .i64 (↑nz)] :: SA.tro (7) nn fA fl fc dA dl dc kz :: L) ∧ (kz + nz = 30) := chTree_sp 6 x gl 30 R L w S h0 (by omega) (by omega)
set_option maxRecDepth 100000 in
set_option maxHeartbeats 20000000 in
theorem zzFits1_ti (x : Ti) (R : Ctx) (L : List SA) (w : World) (S : Sp R w (L)) (h0 : Rf R L fun w => TiAt w (7) x)  :
    Calls Try.prog 14 #[.agg #[.bool x.bare, .string x.m.fName, .string x.m.fHome, .string x.m.fVersion, .string x.m.fDescription, .string x.m.fIcon, .string x.m.fAPIVersion, .string x.m.fCondition, .string x.m.fTags, .string x.m.fAppVersion, .string x.m.fKubeVersion, .string x.m.fType, .slice (x.m.fSources_a) (x.m.fSources.length) (x.m.fSources_c), .slice (x.m.fKeywords_a) (x.m.fKeywords.length) (x.m.fKeywords_c), .slice (x.m.fMaintainers_a) (x.m.fMaintainers.length) (x.m.fMaintainers_c), .slice (x.m.fDependencies_a) (x.m.fDependencies.length) (x.m.fDependencies_c), .slice (x.fA) (x.fs.length) (x.fc), .slice (x.dA) (x.kids.length) (x.dc)]] w fun e w' => ∃ b : Bool, e = .returned (.bool b) ∧ Sp R w' (L) := by
  have hM : Rf R L fun w => Ty26.ok x.m w := fun w S => (h0 w S).1
  have hF : Rf R L fun w => Rows w x.fA 2 (x.fs.map Ty94.cells) := fun w S => (h0 w S).2.1.1
  have hO : Rf R L fun w => Ty94.oks x.fs w := fun w S => (h0 w S).2.1.2
  refine fw_enter (fn := Try.f14) rfl rfl 15 rfl (Nat.le_of_ble_eq_true rfl) ?_
  intro a0 F0
  refine wp_seq_k fun K1 hK1 => ?_
  refine wp_region_lit ?_
  refine op_sq F0 (s_newp F0 30 #[.bool x.bare, .string x.m.fName, .string x.m.fHome, .string x.m.fVersion, .string x.m.fDescription, .string x.m.fIcon, .string x.m.fAPIVersion, .string x.m.fCondition, .string x.m.fTags, .string x.m.fAppVersion, .string x.m.fKubeVersion, .string x.m.fType, .slice (x.m.fSources_a) (x.m.fSources.length) (x.m.fSources_c), .slice (x.m.fKeywords_a) (x.m.fKeywords.length) (x.m.fKeywords_c), .slice (x.m.fMaintainers_a) (x.m.fMaintainers.length) (x.m.fMaintainers_c), .slice (x.m.fDependencies_a) (x.m.fDependencies.length) (x.m.fDependencies_c), .slice (x.fA) (x.fs.length) (x.fc), .slice (x.dA) (x.kids.length) (x.dc)] (by kernel_rfl) (by kernel_rfl) (by kernel_rfl) S) ?_
  rintro _ _ w3 ⟨g1, rfl, rfl⟩ S3 a3 F3
  refine op_q F3 (.bool false) ?_; intro a4 F4
  refine wpList_nil ?_
  refine hK1 _ _ ?_; clear hK1 K1
  refine wp_seq_k fun K5 hK5 => ?_
  refine wp_seq_k fun K6 hK6 => ?_
  refine wp_region_lit ?_
  refine op_q F4 (.pointer (some ⟨g1, 1, none⟩)) ?_; intro a7 F7
  refine op_rq (v := .agg #[.string x.m.fName, .string x.m.fHome, .string x.m.fVersion, .string x.m.fDescription, .string x.m.fIcon, .string x.m.fAPIVersion, .string x.m.fCondition, .string x.m.fTags, .string x.m.fAppVersion, .string x.m.fKubeVersion, .string x.m.fType, .slice (x.m.fSources_a) (x.m.fSources.length) (x.m.fSources_c), .slice (x.m.fKeywords_a) (x.m.fKeywords.length) (x.m.fKeywords_c), .slice (x.m.fMaintainers_a) (x.m.fMaintainers.length) (x.m.fMaintainers_c), .slice (x.m.fDependencies_a) (x.m.fDependencies.length) (x.m.fDependencies_c)]) F7 (r_ldm rfl (F7.e (.pointer (some ⟨g1, 1, none⟩))) (S3.bk 0 rfl) 15 (by kernel_rfl) Try.underlying26 rfl (by kernel_rfl) (v := #[.string x.m.fName, .string x.m.fHome, .string x.m.fVersion, .string x.m.fDescription, .string x.m.fIcon, .string x.m.fAPIVersion, .string x.m.fCondition, .string x.m.fTags, .string x.m.fAppVersion, .string x.m.fKubeVersion, .string x.m.fType, .slice (x.m.fSources_a) (x.m.fSources.length) (x.m.fSources_c), .slice (x.m.fKeywords_a) (x.m.fKeywords.length) (x.m.fKeywords_c), .slice (x.m.fMaintainers_a) (x.m.fMaintainers.length) (x.m.fMaintainers_c), .slice (x.m.fDependencies_a) (x.m.fDependencies.length) (x.m.fDependencies_c)]) (by kernel_rfl)) ?_; intro a8 F8
  refine op_cq F8 (f := 37) (args := #[.agg #[.string x.m.fName, .string x.m.fHome, .string x.m.fVersion, .string x.m.fDescription, .string x.m.fIcon, .string x.m.fAPIVersion, .string x.m.fCondition, .string x.m.fTags, .string x.m.fAppVersion, .string x.m.fKubeVersion, .string x.m.fType, .slice (x.m.fSources_a) (x.m.fSources.length) (x.m.fSources_c), .slice (x.m.fKeywords_a) (x.m.fKeywords.length) (x.m.fKeywords_c), .slice (x.m.fMaintainers_a) (x.m.fMaintainers.length) (x.m.fMaintainers_c), .slice (x.m.fDependencies_a) (x.m.fDependencies.length) (x.m.fDependencies_c)]]) (fits37_any x.m _ (hM _ S3.drop)) ?_
  rintro _ w9 ⟨rfl, hb_9⟩
  refine ⟨_, rfl, ?_⟩
  intro a10 F10
  have S9 := S3.below hb_9
  refine op_q F10 (.bool (!(fits37 x.m))) ?_; intro a11 F11
  refine wpList_nil ?_
  refine hK6 _ _ ?_; clear hK6 K6
  rcases btf (fits37 x.m) with hc12 | hc12
  · have F13 := F11.sb 5 (by kernel_rfl) hc12
    have F14 := F13.sb 6 (by kernel_rfl) (show (!(fits37 x.m)) = false by rw [hc12]; rfl)
    refine wp_cond_false (F14.ev (by kernel_rfl)) ?_
    refine wp_skip ?_
    refine hK5 _ _ ?_; clear hK5 K5
    refine wp_seq_k fun K15 hK15 => ?_
    refine wp_seq_k fun K16 hK16 => ?_
    refine wp_region_lit ?_
    refine op_q F14 (.pointer (some ⟨g1, 16, none⟩)) ?_; intro a17 F17
    refine op_rq (v := .slice (x.fA) (x.fs.length) (x.fc)) F17 (r_ld rfl (F17.e (.pointer (some ⟨g1, 16, none⟩))) (v := .slice (x.fA) (x.fs.length) (x.fc)) ((S9.bk 0 rfl).cell 16) Try.underlying27 rfl) ?_; intro a18 F18
    refine op_cq F18 (f := 63) (args := #[.slice (x.fA) (x.fs.length) (x.fc)]) (fits63_any x.fA x.fc x.fs _ (hF _ S9.drop) (hO _ S9.drop)) ?_
    rintro _ w19 ⟨rfl, hb_19⟩
    refine ⟨_, rfl, ?_⟩
    intro a20 F20
    have S19 := S9.below hb_19
    refine op_q F20 (.bool (!(fits63 x.fs))) ?_; intro a21 F21
    refine wpList_nil ?_
    refine hK16 _ _ ?_; clear hK16 K16
    rcases btf (fits63 x.fs) with hc22 | hc22
    · have F23 := F21.sb 9 (by kernel_rfl) hc22
      have F24 := F23.sb 10 (by kernel_rfl) (show (!(fits63 x.fs)) = false by rw [hc22]; rfl)
      refine wp_cond_false (F24.ev (by kernel_rfl)) ?_
      refine wp_skip ?_
      refine hK15 _ _ ?_; clear hK15 K15
      refine wp_seq_k fun K25 hK25 => ?_
      refine wp_seq_k fun K26 hK26 => ?_
      refine wp_region_lit ?_
      refine op_q F24 (.pointer (some ⟨g1, 17, none⟩)) ?_; intro a27 F27
      refine op_rq (v := .slice (x.dA) (x.kids.length) (x.dc)) F27 (r_ld rfl (F27.e (.pointer (some ⟨g1, 17, none⟩))) (v := .slice (x.dA) (x.kids.length) (x.dc)) ((S19.bk 0 rfl).cell 17) Try.underlying28 rfl) ?_; intro a28 F28
      refine op_q F28 (.int .i64 (↑x.kids.length)) ?_; intro a29 F29
      refine op_q F29 (.bool (decide ((2147483647 : Int) < ↑x.kids.length))) ?_; intro a30 F30
      refine wpList_nil ?_
      refine hK26 _ _ ?_; clear hK26 K26
      rcases btf (decide ((2147483647 : Int) < ↑x.kids.length)) with hc31 | hc31
      · have hc31p := of_decide_eq_true hc31
        have F32 := F30.sb 14 (by kernel_rfl) hc31
        refine wp_cond_true (F32.ev (by kernel_rfl)) ?_
        refine wp_seq_k fun K33 hK33 => ?_
        refine wp_region_lit ?_
        refine op_q F32 (.bool false) ?_; intro a34 F34
        refine wpList_nil ?_
        refine hK33 _ _ ?_; clear hK33 K33
        refine wp_ret ?_
        refine ret_then ?_
        refine (F34.res1 rfl (v := .bool false) (by kernel_rfl) ?_).1
        exact ⟨false, rfl, S19.drop⟩
      · have hc31p := of_decide_eq_false hc31
        have F35 := F30.sb 14 (by kernel_rfl) hc31
        refine wp_cond_false (F35.ev (by kernel_rfl)) ?_
        refine wp_skip ?_
        refine hK25 _ _ ?_; clear hK25 K25
        refine wp_seq_k fun K36 hK36 => ?_
        refine wp_region_lit ?_
        refine op_q F35 (.bool true) ?_; intro a37 F37
        refine wpList_nil ?_
        refine hK36 _ _ ?_; clear hK36 K36
        refine wp_ret ?_
        refine (F37.res1 rfl (v := .bool true) (by kernel_rfl) ?_).1
        exact ⟨true, rfl, S19.drop⟩
    · have F38 := F21.sb 9 (by kernel_rfl) hc22
      have F39 := F38.sb 10 (by kernel_rfl) (show (!(fits63 x.fs)) = true by rw [hc22]; rfl)
      refine wp_cond_true (F39.ev (by kernel_rfl)) ?_
      refine wp_seq_k fun K40 hK40 => ?_
      refine wp_region_lit ?_
      refine op_q F39 (.bool false) ?_; intro a41 F41
      refine wpList_nil ?_
      refine hK40 _ _ ?_; clear hK40 K40
      refine wp_ret ?_
      refine ret_then ?_
      refine (F41.res1 rfl (v := .bool false) (by kernel_rfl) ?_).1
      exact ⟨false, rfl, S19.drop⟩
  · have F42 := F11.sb 5 (by kernel_rfl) hc12
    have F43 := F42.sb 6 (by kernel_rfl) (show (!(fits37 x.m)) = true by rw [hc12]; rfl)
    refine wp_cond_true (F43.ev (by kernel_rfl)) ?_
    refine wp_seq_k fun K44 hK44 => ?_
    refine wp_region_lit ?_
    refine op_q F43 (.bool false) ?_; intro a45 F45
    refine wpList_nil ?_
    refine hK44 _ _ ?_; clear hK44 K44
    refine wp_ret ?_
    refine ret_then ?_
    refine (F45.res1 rfl (v := .bool false) (by kernel_rfl) ?_).1
    exact ⟨false, rfl, S9.drop⟩
set_option maxRecDepth 100000 in
set_option maxHeartbeats 20000000 in
theorem chartOf_tr (t : Tr) (R : Ctx) (L : List SA) (w : World) (S : Sp R w (L)) (h0 : Rf R L fun w => TrAt w (7) t) (ht : TrOk 7 t) (hn : Tr.cnt 7 t ≤ 100) :
    Calls Try.prog 65 #[.agg #[.bool false, .string ((nmM t.n).fName), .string ((nmM t.n).fHome), .string ((nmM t.n).fVersion), .string ((nmM t.n).fDescription), .string ((nmM t.n).fIcon), .string ((nmM t.n).fAPIVersion), .string ((nmM t.n).fCondition), .string ((nmM t.n).fTags), .string ((nmM t.n).fAppVersion), .string ((nmM t.n).fKubeVersion), .string ((nmM t.n).fType), .slice ((nmM t.n).fSources_a) ((nmM t.n).fSources.length) ((nmM t.n).fSources_c), .slice ((nmM t.n).fKeywords_a) ((nmM t.n).fKeywords.length) ((nmM t.n).fKeywords_c), .slice ((nmM t.n).fMaintainers_a) ((nmM t.n).fMaintainers.length) ((nmM t.n).fMaintainers_c), .slice ((nmM t.n).fDependencies_a) ((nmM t.n).fDependencies.length) ((nmM t.n).fDependencies_c), .slice (t.fA) (t.fs.length) (t.fc), .slice (t.dA) (t.kids.length) (t.dc)]] w fun e w' => ∃ o : Ob, e = .returned (.tuple #[.pointer (some ⟨o.g, 0, none⟩), .bool true]) ∧ Sp R w' (SA.root (7) o :: L) ∧ (ObOk (7) o) ∧ (Ob.pl (7) o = Tr.pl (7) t) := by
  refine fw_enter (fn := Try.f65) rfl rfl 9 rfl (Nat.le_of_ble_eq_true rfl) ?_
  intro a0 F0
  refine wp_seq_k fun K1 hK1 => ?_
  refine wp_region_lit ?_
  refine op_sq F0 (s_newp F0 30 #[.bool false, .string ((nmM t.n).fName), .string ((nmM t.n).fHome), .string ((nmM t.n).fVersion), .string ((nmM t.n).fDescription), .string ((nmM t.n).fIcon), .string ((nmM t.n).fAPIVersion), .string ((nmM t.n).fCondition), .string ((nmM t.n).fTags), .string ((nmM t.n).fAppVersion), .string ((nmM t.n).fKubeVersion), .string ((nmM t.n).fType), .slice ((nmM t.n).fSources_a) ((nmM t.n).fSources.length) ((nmM t.n).fSources_c), .slice ((nmM t.n).fKeywords_a) ((nmM t.n).fKeywords.length) ((nmM t.n).fKeywords_c), .slice ((nmM t.n).fMaintainers_a) ((nmM t.n).fMaintainers.length) ((nmM t.n).fMaintainers_c), .slice ((nmM t.n).fDependencies_a) ((nmM t.n).fDependencies.length) ((nmM t.n).fDependencies_c), .slice (t.fA) (t.fs.length) (t.fc), .slice (t.dA) (t.kids.length) (t.dc)] (by kernel_rfl) (by kernel_rfl) (by kernel_rfl) S) ?_
  rintro _ _ w3 ⟨g1, rfl, rfl⟩ S3 a3 F3
  refine op_q F3 (.pointer none) ?_; intro a4 F4
  refine op_q F4 (.bool false) ?_; intro a5 F5
  refine wpList_nil ?_
  refine hK1 _ _ ?_; clear hK1 K1
  refine wp_seq_k fun K6 hK6 => ?_
  refine wp_region_lit ?_
  refine op_sq F5 (s_newp F5 3 #[.int .i64 0] (by kernel_rfl) (by kernel_rfl) (by kernel_rfl) S3) ?_
  rintro _ _ w8 ⟨g6, rfl, rfl⟩ S8 a8 F8
  refine op_sq0 F8 (s_st rfl (F8.e (.pointer (some ⟨g6, 0, none⟩))) (F8.e (.int .i64 100)) S8 (by kernel_rfl) rfl rfl rfl (cs := #[.int .i64 100]) (by kernel_rfl)) ?_
  rintro _ _ w9 rfl S9 F9
  refine wpList_nil ?_
  refine hK6 _ _ ?_; clear hK6 K6
  refine wp_seq_k fun K10 hK10 => ?_
  refine wp_region_lit ?_
  refine op_rq (v := .agg #[.bool false, .string ((nmM t.n).fName), .string ((nmM t.n).fHome), .string ((nmM t.n).fVersion), .string ((nmM t.n).fDescription), .string ((nmM t.n).fIcon), .string ((nmM t.n).fAPIVersion), .string ((nmM t.n).fCondition), .string ((nmM t.n).fTags), .string ((nmM t.n).fAppVersion), .string ((nmM t.n).fKubeVersion), .string ((nmM t.n).fType), .slice ((nmM t.n).fSources_a) ((nmM t.n).fSources.length) ((nmM t.n).fSources_c), .slice ((nmM t.n).fKeywords_a) ((nmM t.n).fKeywords.length) ((nmM t.n).fKeywords_c), .slice ((nmM t.n).fMaintainers_a) ((nmM t.n).fMaintainers.length) ((nmM t.n).fMaintainers_c), .slice ((nmM t.n).fDependencies_a) ((nmM t.n).fDependencies.length) ((nmM t.n).fDependencies_c), .slice (t.fA) (t.fs.length) (t.fc), .slice (t.dA) (t.kids.length) (t.dc)]) F9 (r_ldm rfl (F9.e (.pointer (some ⟨g1, 0, none⟩))) (S9.bk 1 rfl) 18 (by kernel_rfl) Try.underlying30 rfl (by kernel_rfl) (v := #[.bool false, .string ((nmM t.n).fName), .string ((nmM t.n).fHome), .string ((nmM t.n).fVersion), .string ((nmM t.n).fDescription), .string ((nmM t.n).fIcon), .string ((nmM t.n).fAPIVersion), .string ((nmM t.n).fCondition), .string ((nmM t.n).fTags), .string ((nmM t.n).fAppVersion), .string ((nmM t.n).fKubeVersion), .string ((nmM t.n).fType), .slice ((nmM t.n).fSources_a) ((nmM t.n).fSources.length) ((nmM t.n).fSources_c), .slice ((nmM t.n).fKeywords_a) ((nmM t.n).fKeywords.length) ((nmM t.n).fKeywords_c), .slice ((nmM t.n).fMaintainers_a) ((nmM t.n).fMaintainers.length) ((nmM t.n).fMaintainers_c), .slice ((nmM t.n).fDependencies_a) ((nmM t.n).fDependencies.length) ((nmM t.n).fDependencies_c), .slice (t.fA) (t.fs.length) (t.fc), .slice (t.dA) (t.kids.length) (t.dc)]) (by kernel_rfl)) ?_; intro a11 F11
  refine op_cq F11 (f := 126) (args := #[.agg #[.bool false, .string ((nmM t.n).fName), .string ((nmM t.n).fHome), .string ((nmM t.n).fVersion), .string ((nmM t.n).fDescription), .string ((nmM t.n).fIcon), .string ((nmM t.n).fAPIVersion), .string ((nmM t.n).fCondition), .string ((nmM t.n).fTags), .string ((nmM t.n).fAppVersion), .string ((nmM t.n).fKubeVersion), .string ((nmM t.n).fType), .slice ((nmM t.n).fSources_a) ((nmM t.n).fSources.length) ((nmM t.n).fSources_c), .slice ((nmM t.n).fKeywords_a) ((nmM t.n).fKeywords.length) ((nmM t.n).fKeywords_c), .slice ((nmM t.n).fMaintainers_a) ((nmM t.n).fMaintainers.length) ((nmM t.n).fMaintainers_c), .slice ((nmM t.n).fDependencies_a) ((nmM t.n).fDependencies.length) ((nmM t.n).fDependencies_c), .slice (t.fA) (t.fs.length) (t.fc), .slice (t.dA) (t.kids.length) (t.dc)], .int .i64 20, .pointer (some ⟨g6, 0, none⟩)]) (chart2_7 t g6 _ _ _ S9 (fun w S => h0 w S.drop) (by first | omega | (simp; done) | (simp; omega)) (by first | omega | (simp; done) | (simp; omega))) ?_
  rintro _ w12 ⟨o12, rfl, S12, hp0_12, hp1_12⟩
  refine ⟨_, rfl, ?_⟩
  intro a13 F13
  refine op_q F13 (.pointer (some ⟨o12.g, 0, none⟩)) ?_; intro a14 F14
  refine op_q F14 (.bool true) ?_; intro a15 F15
  refine op_q F15 (.pointer (some ⟨o12.g, 0, none⟩)) ?_; intro a16 F16
  refine op_q F16 (.bool true) ?_; intro a17 F17
  refine wpList_nil ?_
  refine hK10 _ _ ?_; clear hK10 K10
  refine wp_ret ?_
  refine (F17.res2 rfl (v := .pointer (some ⟨o12.g, 0, none⟩)) (by kernel_rfl) (v2 := .bool true) (by kernel_rfl) ?_).1
  exact ⟨o12, rfl, S12.p1.drop, (by first | (with_reducible assumption) | omega), (by first | (with_reducible assumption) | omega)⟩
end Go.Proofs.Ytkjcedlgljeoiaa

/- impl.ChartCRDs; the walk of FnChartCRDs. -/
namespace Go.Proofs.Ytkjcedlgljeoiaa
open Go.RowKit Go.Lib
set_option linter.unusedVariables false
set_option linter.unusedSimpArgs false
theorem crd_nm {R : Ctx} {w : World} {m : Nat} {o : Ob} {L : List SA} (h : ObOk (m + 1) o) (S : Sp R w (SA.root (m + 1) o :: L)) {x : Option Addr × ByteArray} (hx : x ∈ obCrd (m + 1) o) {g : Nat} (hg : x.1 = some ⟨g, 0, none⟩) : w.cell? ⟨g, 0, none⟩ = some (.string x.2) := by
  obtain ⟨g2, e, hc⟩ := crd_cell h (root_at h S).2 x hx
  rw [hg] at e; injection e with e; injection e with e; subst e; exact hc
theorem crd_sz {w : World} : ∀ {m : Nat} {o : Ob}, ObOk m o → ObAt w m o → ∀ x ∈ obCrd m o, x.2.size ≤ 28
  | 0, _, h, _, _, _ => h.elim
  | m + 1, o, h, ha, x, hx => by
    rcases List.mem_append.1 (show x ∈ (zfs o).filter ocr ++ o.kids.flatMap (obCrd m) from hx) with hx | hx
    · have : x.2 ∈ o.fs := (List.of_mem_zip (List.mem_filter.1 hx).1).2
      exact (h.2.2.1 _ this).size
    · obtain ⟨k, hk, hx⟩ := List.mem_flatMap.1 hx
      exact crd_sz (h.2.2.2.2 k hk) (ha.2.2.2 k hk).2 x hx
theorem root_full {t : Tr} {o : Ob} (h : Ob.pl 7 o = Tr.pl 7 t) : (pathOf (o :: [])).fFull = t.n := by
  show o.n = t.n
  rw [← Ob.pl_n 7, h, Tr.pl_n]
theorem catch98 (x0 x1 x2 : Nat) (w : World) :
    CallsD Try.prog 98 #[.pointer (some ⟨x0, 0, none⟩), .pointer (some ⟨x1, 0, none⟩), .pointer (some ⟨x2, 0, none⟩)] .returning w fun e u' w' => e = .returned (.tuple #[]) ∧ u' = .returning ∧ w' = w := by
  refine callsD_of_wpS Try.func98 rfl fun c₀ cs hu => ?_
  apply wpS_seq
  apply wpS_region
  simp [wpOpsS, go_sem, recoverD, hu, Try.ntmps98, Exit.thenS]
  refine wpS_cond (t := false) (by simp [Act.eval, Array.replicate]) ?_
  simp only [Bool.false_eq_true, if_false]
  refine wpS_of_wp (wp_skip ?_)
  cases c₀
  simp_all [bodyPostS, results, Try.results98]
set_option maxRecDepth 100000 in
set_option maxHeartbeats 20000000 in
theorem chartCRDs_tr (t : Tr) (R : Ctx) (L : List SA) (w : World) (S : Sp R w (L)) (h0 : Rf R L fun w => TrAt w (7) t) (ht : TrOk 7 t) (hn : Tr.cnt 7 t ≤ 100) :
    Calls Try.prog 46 #[.agg #[.bool false, .string ((nmM t.n).fName), .string ((nmM t.n).fHome), .string ((nmM t.n).fVersion), .string ((nmM t.n).fDescription), .string ((nmM t.n).fIcon), .string ((nmM t.n).fAPIVersion), .string ((nmM t.n).fCondition), .string ((nmM t.n).fTags), .string ((nmM t.n).fAppVersion), .string ((nmM t.n).fKubeVersion), .string ((nmM t.n).fType), .slice ((nmM t.n).fSources_a) ((nmM t.n).fSources.length) ((nmM t.n).fSources_c), .slice ((nmM t.n).fKeywords_a) ((nmM t.n).fKeywords.length) ((nmM t.n).fKeywords_c), .slice ((nmM t.n).fMaintainers_a) ((nmM t.n).fMaintainers.length) ((nmM t.n).fMaintainers_c), .slice ((nmM t.n).fDependencies_a) ((nmM t.n).fDependencies.length) ((nmM t.n).fDependencies_c), .slice (t.fA) (t.fs.length) (t.fc), .slice (t.dA) (t.kids.length) (t.dc)]] w fun e w' => ∃ A : Option Addr, ∃ c : Nat, ∃ ns : List ByteArray, ∃ B : Option Addr, ∃ d : Nat, ∃ ps : List ByteArray, e = .returned (.tuple #[.slice A ns.length c, .slice B ps.length d, .int .i64 0]) ∧ Sp R w' (SA.own (.slice A ns.length c) 9 1 ns.length (strs ns) :: SA.own (.slice B ps.length d) 9 1 ps.length (strs ps) :: L) ∧ (ns = crdN 7 (Tr.pl 7 t)) ∧ (ps = crdP 7 t.n (Tr.pl 7 t)) := by
  refine fw_enterD (fn := Try.f46) rfl rfl 49 rfl (Nat.le_of_ble_eq_true rfl) ?_
  intro a0 F0
  refine wp_seq_k fun K1 hK1 => ?_
  refine wp_region_lit ?_
  refine op_sq F0 (s_newp F0 30 #[.bool false, .string ((nmM t.n).fName), .string ((nmM t.n).fHome), .string ((nmM t.n).fVersion), .string ((nmM t.n).fDescription), .string ((nmM t.n).fIcon), .string ((nmM t.n).fAPIVersion), .string ((nmM t.n).fCondition), .string ((nmM t.n).fTags), .string ((nmM t.n).fAppVersion), .string ((nmM t.n).fKubeVersion), .string ((nmM t.n).fType), .slice ((nmM t.n).fSources_a) ((nmM t.n).fSources.length) ((nmM t.n).fSources_c), .slice ((nmM t.n).fKeywords_a) ((nmM t.n).fKeywords.length) ((nmM t.n).fKeywords_c), .slice ((nmM t.n).fMaintainers_a) ((nmM t.n).fMaintainers.length) ((nmM t.n).fMaintainers_c), .slice ((nmM t.n).fDependencies_a) ((nmM t.n).fDependencies.length) ((nmM t.n).fDependencies_c), .slice (t.fA) (t.fs.length) (t.fc), .slice (t.dA) (t.kids.length) (t.dc)] (by kernel_rfl) (by kernel_rfl) (by kernel_rfl) S) ?_
  rintro _ _ w3 ⟨g1, rfl, rfl⟩ S3 a3 F3
  refine op_sq F3 (s_newp F3 22 #[.slice none 0 0] (by kernel_rfl) (by kernel_rfl) (by kernel_rfl) S3) ?_
  rintro _ _ w5 ⟨g3, rfl, rfl⟩ S5 a5 F5
  refine op_sq F5 (s_newp F5 22 #[.slice none 0 0] (by kernel_rfl) (by kernel_rfl) (by kernel_rfl) S5) ?_
  rintro _ _ w7 ⟨g5, rfl, rfl⟩ S7 a7 F7
  refine op_sq F7 (s_newp F7 3 #[.int .i64 0] (by kernel_rfl) (by kernel_rfl) (by kernel_rfl) S7) ?_
  rintro _ _ w9 ⟨g7, rfl, rfl⟩ S9 a9 F9
  refine wpList_nil ?_
  refine hK1 _ _ ?_; clear hK1 K1
  refine wp_seq_k fun K10 hK10 => ?_
  refine wp_region_lit ?_
  refine op_q F9 (.func (.func 98) #[] #[.pointer (some ⟨g3, 0, none⟩), .pointer (some ⟨g5, 0, none⟩), .pointer (some ⟨g7, 0, none⟩)]) ?_; intro a11 F11
  refine op_defer F11 ({ target := .fn (.func 98) #[.pointer (some ⟨g3, 0, none⟩), .pointer (some ⟨g5, 0, none⟩), .pointer (some ⟨g7, 0, none⟩)], args := #[] }) (by kernel_rfl) (by kernel_rfl) rfl rfl rfl ?_; intro a12 F12
  refine wpList_nil ?_
  refine hK10 _ _ ?_; clear hK10 K10
  refine wp_seq_k fun K13 hK13 => ?_
  refine wp_region_lit ?_
  refine op_rq (v := .agg #[.bool false, .string ((nmM t.n).fName), .string ((nmM t.n).fHome), .string ((nmM t.n).fVersion), .string ((nmM t.n).fDescription), .string ((nmM t.n).fIcon), .string ((nmM t.n).fAPIVersion), .string ((nmM t.n).fCondition), .string ((nmM t.n).fTags), .string ((nmM t.n).fAppVersion), .string ((nmM t.n).fKubeVersion), .string ((nmM t.n).fType), .slice ((nmM t.n).fSources_a) ((nmM t.n).fSources.length) ((nmM t.n).fSources_c), .slice ((nmM t.n).fKeywords_a) ((nmM t.n).fKeywords.length) ((nmM t.n).fKeywords_c), .slice ((nmM t.n).fMaintainers_a) ((nmM t.n).fMaintainers.length) ((nmM t.n).fMaintainers_c), .slice ((nmM t.n).fDependencies_a) ((nmM t.n).fDependencies.length) ((nmM t.n).fDependencies_c), .slice (t.fA) (t.fs.length) (t.fc), .slice (t.dA) (t.kids.length) (t.dc)]) F12 (r_ldm rfl (F12.e (.pointer (some ⟨g1, 0, none⟩))) (S9.bk 3 rfl) 18 (by kernel_rfl) Try.underlying30 rfl (by kernel_rfl) (v := #[.bool false, .string ((nmM t.n).fName), .string ((nmM t.n).fHome), .string ((nmM t.n).fVersion), .string ((nmM t.n).fDescription), .string ((nmM t.n).fIcon), .string ((nmM t.n).fAPIVersion), .string ((nmM t.n).fCondition), .string ((nmM t.n).fTags), .string ((nmM t.n).fAppVersion), .string ((nmM t.n).fKubeVersion), .string ((nmM t.n).fType), .slice ((nmM t.n).fSources_a) ((nmM t.n).fSources.length) ((nmM t.n).fSources_c), .slice ((nmM t.n).fKeywords_a) ((nmM t.n).fKeywords.length) ((nmM t.n).fKeywords_c), .slice ((nmM t.n).fMaintainers_a) ((nmM t.n).fMaintainers.length) ((nmM t.n).fMaintainers_c), .slice ((nmM t.n).fDependencies_a) ((nmM t.n).fDependencies.length) ((nmM t.n).fDependencies_c), .slice (t.fA) (t.fs.length) (t.fc), .slice (t.dA) (t.kids.length) (t.dc)]) (by kernel_rfl)) ?_; intro a14 F14
  refine op_cq F14 (f := 65) (args := #[.agg #[.bool false, .string ((nmM t.n).fName), .string ((nmM t.n).fHome), .string ((nmM t.n).fVersion), .string ((nmM t.n).fDescription), .string ((nmM t.n).fIcon), .string ((nmM t.n).fAPIVersion), .string ((nmM t.n).fCondition), .string ((nmM t.n).fTags), .string ((nmM t.n).fAppVersion), .string ((nmM t.n).fKubeVersion), .string ((nmM t.n).fType), .slice ((nmM t.n).fSources_a) ((nmM t.n).fSources.length) ((nmM t.n).fSources_c), .slice ((nmM t.n).fKeywords_a) ((nmM t.n).fKeywords.length) ((nmM t.n).fKeywords_c), .slice ((nmM t.n).fMaintainers_a) ((nmM t.n).fMaintainers.length) ((nmM t.n).fMaintainers_c), .slice ((nmM t.n).fDependencies_a) ((nmM t.n).fDependencies.length) ((nmM t.n).fDependencies_c), .slice (t.fA) (t.fs.length) (t.fc), .slice (t.dA) (t.kids.length) (t.dc)]]) (chartOf_tr t _ _ _ S9 (fun w S => h0 w S.drop.drop.drop.drop) (by first | omega | (simp; done) | (simp; omega)) (by first | omega | (simp; done) | (simp; omega))) ?_
  rintro _ w15 ⟨o15, rfl, S15, hp0_15, hp1_15⟩
  refine ⟨_, rfl, ?_⟩
  intro a16 F16
  refine op_q F16 (.tuple #[.pointer (some ⟨o15.g, 0, none⟩), .bool true]) ?_; intro a17 F17
  refine op_q F17 (.pointer (some ⟨o15.g, 0, none⟩)) ?_; intro a18 F18
  refine op_q F18 (.bool true) ?_; intro a19 F19
  refine op_q F19 (.pointer (some ⟨o15.g, 0, none⟩)) ?_; intro a20 F20
  refine op_q F20 (.bool true) ?_; intro a21 F21
  refine wpList_nil ?_
  refine hK13 _ _ ?_; clear hK13 K13
  refine wp_seq_k fun K22 hK22 => ?_
  refine wp_seq_k fun K23 hK23 => ?_
  refine wp_region_lit ?_
  refine op_q F21 (.bool true) ?_; intro a24 F24
  refine op_q F24 (.bool false) ?_; intro a25 F25
  refine wpList_nil ?_
  refine hK23 _ _ ?_; clear hK23 K23
  refine wp_cond_false (F25.ev (by kernel_rfl)) ?_
  refine wp_skip ?_
  refine hK22 _ _ ?_; clear hK22 K22
  refine wp_seq_k fun K26 hK26 => ?_
  refine wp_seq_k fun K27 hK27 => ?_
  have hoz := obZ_of (root_at hp0_15 (S15)).2
  have hon := obOk_n hp0_15
  have how := obOk_w hp0_15
  have hpc : Pt.cnt 7 (Ob.pl 7 o15) ≤ 100 := by rw [hp1_15, pl_cnt]; exact hn
  have hcc := crd_cnt hp0_15 hoz
  have hcj := objs_cnt (p := (pathOf (o15 :: [])).fFull) hp0_15 hoz
  refine wp_region_lit ?_
  refine op_q F25 (.pointer (some ⟨o15.g, 0, none⟩)) ?_; intro a28 F28
  have hcl29 := crds_sp 7 o15 (.pointer none) _ _ _ S15 (fun w S => (root_at hp0_15 (S)).1.1) (fun w S => (root_at hp0_15 (S)).2) hp0_15 hpc
  refine op_cq F28 (f := 99) hcl29 ?_
  rintro _ w29 ⟨A29, c29, qs29, rfl, S29, hp0_29⟩
  refine ⟨_, rfl, ?_⟩
  intro a30 F30
  skip
  refine op_q F30 (.int .i64 (↑qs29.length)) ?_; intro a31 F31
  refine op_q F31 (.int .i64 0) ?_; intro a32 F32
  refine wpList_nil ?_
  refine hK27 _ _ ?_; clear hK27 K27
  refine wp_block ?_
  have S33 : Sp R w29 (SA.own (.slice none 0 0) 9 1 (([] : List ByteArray).length) (strs []) :: SA.own (.slice A29 qs29.length c29) 169 1 qs29.length (pps qs29) :: SA.root (7) o15 :: SA.blk g7 3 #[.int .i64 0] :: SA.blk g5 22 #[.slice none 0 0] :: SA.blk g3 22 #[.slice none 0 0] :: SA.blk g1 30 #[.bool false, .string ((nmM t.n).fName), .string ((nmM t.n).fHome), .string ((nmM t.n).fVersion), .string ((nmM t.n).fDescription), .string ((nmM t.n).fIcon), .string ((nmM t.n).fAPIVersion), .string ((nmM t.n).fCondition), .string ((nmM t.n).fTags), .string ((nmM t.n).fAppVersion), .string ((nmM t.n).fKubeVersion), .string ((nmM t.n).fType), .slice ((nmM t.n).fSources_a) ((nmM t.n).fSources.length) ((nmM t.n).fSources_c), .slice ((nmM t.n).fKeywords_a) ((nmM t.n).fKeywords.length) ((nmM t.n).fKeywords_c), .slice ((nmM t.n).fMaintainers_a) ((nmM t.n).fMaintainers.length) ((nmM t.n).fMaintainers_c), .slice ((nmM t.n).fDependencies_a) ((nmM t.n).fDependencies.length) ((nmM t.n).fDependencies_c), .slice (t.fA) (t.fs.length) (t.fc), .slice (t.dA) (t.kids.length) (t.dc)] :: L) := Sp.nilown (e := 9) (sz := 1) S29
  refine fw_loop (fun m' a' w' => ∃ A1 : Option Addr, ∃ c1 : Nat, ∃ ns : List ByteArray, ∃ k : Nat, qs29.length - k = m' ∧ Fr 49 [{ target := .fn (.func 98) #[.pointer (some ⟨g3, 0, none⟩), .pointer (some ⟨g5, 0, none⟩), .pointer (some ⟨g7, 0, none⟩)], args := #[] }] a' [(2, .pointer (some ⟨g3, 0, none⟩)), (3, .pointer (some ⟨g5, 0, none⟩)), (4, .pointer (some ⟨g7, 0, none⟩)), (5, .pointer (some ⟨o15.g, 0, none⟩)), (20, .slice A29 qs29.length c29), (21, .int .i64 (↑qs29.length)), (22, .int .i64 (↑k))] ∧ Sp R w' (SA.blk g3 22 #[.slice A1 ns.length c1] :: SA.own (.slice A1 ns.length c1) 9 1 ns.length (strs ns) :: SA.own (.slice A29 qs29.length c29) 169 1 qs29.length (pps qs29) :: SA.root (7) o15 :: SA.blk g7 3 #[.int .i64 0] :: SA.blk g5 22 #[.slice none 0 0] :: SA.blk g1 30 #[.bool false, .string ((nmM t.n).fName), .string ((nmM t.n).fHome), .string ((nmM t.n).fVersion), .string ((nmM t.n).fDescription), .string ((nmM t.n).fIcon), .string ((nmM t.n).fAPIVersion), .string ((nmM t.n).fCondition), .string ((nmM t.n).fTags), .string ((nmM t.n).fAppVersion), .string ((nmM t.n).fKubeVersion), .string ((nmM t.n).fType), .slice ((nmM t.n).fSources_a) ((nmM t.n).fSources.length) ((nmM t.n).fSources_c), .slice ((nmM t.n).fKeywords_a) ((nmM t.n).fKeywords.length) ((nmM t.n).fKeywords_c), .slice ((nmM t.n).fMaintainers_a) ((nmM t.n).fMaintainers.length) ((nmM t.n).fMaintainers_c), .slice ((nmM t.n).fDependencies_a) ((nmM t.n).fDependencies.length) ((nmM t.n).fDependencies_c), .slice (t.fA) (t.fs.length) (t.fc), .slice (t.dA) (t.kids.length) (t.dc)] :: L) ∧ (k ≤ qs29.length) ∧ (ns = ((obCrd 7 o15).take k).map Prod.snd)) _ ⟨none, 0, [], 0, rfl, (F32.kk 2 (F32.kk 3 (F32.kk 4 (F32.kk 5 (F32.kk 20 (F32.kk 21 (F32.kk 22 F32.nil))))))), S33.p6.p5.p5.p5.p5.p5.p6, (by first | omega | (with_reducible assumption) | (simp; done)), rfl⟩ ?_
  rintro m34 a34 w34 ⟨A1, c1, ns, k, hm34, F34, S34, hk, hns⟩ K34 hK34
  by_cases hlt_k : k < qs29.length
  · have hc_k : decide ((↑k : Int) < ↑qs29.length) = true := by first | (simp; done) | (simp; omega)
    have hqsl : qs29.length ≤ 1000 := by rw [hp0_29, List.length_map]; omega
    have hlt_k3 : k < (obCrd 7 o15).length := by have := congrArg List.length hp0_29; rw [List.length_map] at this; omega
    have hmk := List.getElem_mem hlt_k3
    obtain ⟨gk, hgk, _⟩ := crd_cell hp0_15 (root_at hp0_15 (S34.p3)).2 _ hmk
    have hqk : qs29[k] = some ⟨gk, 0, none⟩ := by rw [← hgk]; simp only [hp0_29, List.getElem_map]
    have hnb : ns.length ≤ 1000 := by rw [hns, List.length_map, List.length_take]; omega
    have hnz := crd_sz hp0_15 (root_at hp0_15 (S34.p3)).2 _ hmk
    obtain ⟨ad35, hA35⟩ := (own_sl1 (S34.ow 2 rfl) (by first | omega | (simp; omega))).addr (by simp [pps]; omega)
    refine wp_seq_k fun K36 hK36 => ?_
    refine wp_region_lit ?_
    refine op_q F34 (.bool (decide ((↑k : Int) < ↑qs29.length))) ?_; intro a37 F37
    have F38 := F37.sb 23 (by kernel_rfl) hc_k
    refine wpList_nil ?_
    refine hK36 _ _ ?_; clear hK36 K36
    refine wp_seq_k fun K39 hK39 => ?_
    refine wp_cond_true (F38.ev (by kernel_rfl)) ?_
    refine wp_skip ?_
    refine hK39 _ _ ?_; clear hK39 K39
    refine wp_seq_k fun K40 hK40 => ?_
    refine wp_block ?_
    refine wp_seq_k fun K41 hK41 => ?_
    refine wp_region_lit ?_
    refine op_rq (v := .pointer (some (ad35.add k))) F38 (r_ix rfl Try.underlying167 1 (by kernel_rfl) (F38.e (.slice A29 qs29.length c29)) hA35 (F38.e (.int .i64 (↑k))) k (by first | rfl | omega | simp) (by first | omega | (simp; done) | (simp; omega)) (by simp only [Nat.mul_one])) ?_; intro a42 F42
    refine op_rq (v := .pointer (some ⟨gk, 0, none⟩)) F42 (r_ld rfl (F42.e (.pointer (some (ad35.add k)))) (v := .pointer (some ⟨gk, 0, none⟩)) ((own_sl1 (S34.ow 2 rfl) (by first | omega | (simp; omega))).elA hA35 (j := k) (by simp only [pps, List.getElem?_map, List.getElem?_eq_getElem hlt_k, hqk]; rfl)) Try.underlying169 rfl) ?_; intro a43 F43
    refine op_q F43 (.pointer (some ⟨gk, 0, none⟩)) ?_; intro a44 F44
    refine wpList_nil ?_
    refine hK41 _ _ ?_; clear hK41 K41
    refine wp_region_sepF (L0 := SA.blk g3 22 #[.slice A1 ns.length c1] :: SA.own (.slice A29 qs29.length c29) 169 1 qs29.length (pps qs29) :: SA.root (7) o15 :: SA.blk g7 3 #[.int .i64 0] :: SA.blk g5 22 #[.slice none 0 0] :: SA.blk g1 30 #[.bool false, .string ((nmM t.n).fName), .string ((nmM t.n).fHome), .string ((nmM t.n).fVersion), .string ((nmM t.n).fDescription), .string ((nmM t.n).fIcon), .string ((nmM t.n).fAPIVersion), .string ((nmM t.n).fCondition), .string ((nmM t.n).fTags), .string ((nmM t.n).fAppVersion), .string ((nmM t.n).fKubeVersion), .string ((nmM t.n).fType), .slice ((nmM t.n).fSources_a) ((nmM t.n).fSources.length) ((nmM t.n).fSources_c), .slice ((nmM t.n).fKeywords_a) ((nmM t.n).fKeywords.length) ((nmM t.n).fKeywords_c), .slice ((nmM t.n).fMaintainers_a) ((nmM t.n).fMaintainers.length) ((nmM t.n).fMaintainers_c), .slice ((nmM t.n).fDependencies_a) ((nmM t.n).fDependencies.length) ((nmM t.n).fDependencies_c), .slice (t.fA) (t.fs.length) (t.fc), .slice (t.dA) (t.kids.length) (t.dc)] :: L) [some [], some [], some [(1, 27)], some [(2, 28)], some [(3, 29)], some [(4, 30)], some [(0, 26), (4, 30), (5, 31)], none] [.v 26 (.slice A1 ns.length c1), .v 27 (.pointer (some ⟨gk, 0, none⟩)), .v 28 (.pointer (some ⟨gk, 0, none⟩)), .v 29 (.pointer (some ⟨gk, 0, none⟩)), .v 30 (.string ((obCrd 7 o15)[k].2)), .p 31 (SA.emp) (fun _ vv AA => ∃ g69 : Nat, vv = .slice (some ⟨g69, 0, none⟩) 1 1 ∧ AA = SA.blk g69 9 #[.string ((obCrd 7 o15)[k].2)]), .p 32 (SA.own (.slice A1 ns.length c1) 9 1 ns.length (strs ns)) (fun _ vv AA => ∃ A74 : Option Addr, ∃ c74 : Nat, vv = .slice A74 ((ns ++ [(obCrd 7 o15)[k].2]).length) c74 ∧ AA = SA.own (.slice A74 ((ns ++ [(obCrd 7 o15)[k].2]).length) c74) 9 1 ((ns ++ [(obCrd 7 o15)[k].2]).length) (strs (ns ++ [(obCrd 7 o15)[k].2]))), .n SA.emp (fun _ _ A => A = SA.emp)] [] F44 rfl (by kernel_rfl) S34.p1.emp ?_ ?_
    · refine ⟨?_, ?_, ?_, ?_, ?_, ?_, ?_, trivial⟩
      · intro w60 M60
        intro a60 F60 S60
        refine obl_of (by rfl) ?_
        exact s_r (v := .slice A1 ns.length c1) (r_ld rfl (F60.e (.pointer (some ⟨g3, 0, none⟩))) (v := .slice A1 ns.length c1) (((Sp.dropM S60.drop).bk 0 rfl).cell 0) Try.underlying22 rfl) S60
      · intro w61 M61
        intro a61 F61 S61
        refine obl_of (by rfl) ?_
        exact s_p F61 (v := .pointer (some ⟨gk, 0, none⟩)) (by kernel_rfl) (by kernel_rfl) (by kernel_rfl) S61
      · intro w62 M62
        intro a62 F62 S62
        refine obl_of (by rfl) ?_
        exact s_p F62 (v := .pointer (some ⟨gk, 0, none⟩)) (by kernel_rfl) (by kernel_rfl) (by kernel_rfl) S62
      · intro w64 M64
        intro a64 F64 S64
        refine obl_of (by rfl) ?_
        exact s_p F64 (v := .pointer (some ⟨gk, 0, none⟩)) (by kernel_rfl) (by kernel_rfl) (by kernel_rfl) S64
      · intro w66 M66
        intro a66 F66 S66
        refine obl_of (by rfl) ?_
        exact s_r (v := .string ((obCrd 7 o15)[k].2)) (r_ld rfl (F66.e (.pointer (some ⟨gk, 0, none⟩))) (v := .string ((obCrd 7 o15)[k].2)) (crd_nm hp0_15 ((Sp.dropM S66.drop).p2) hmk hgk) Try.underlying9 rfl) S66
      · intro w68 M68
        intro a68 F68 S68
        refine obl_of (by rfl) ?_
        exact s_news F68 9 #[.string ((obCrd 7 o15)[k].2)] 1 (by kernel_rfl) (by kernel_rfl) (by kernel_rfl) S68.drop
      · intro w70 M70
        rintro _ _ ⟨g69, rfl, rfl⟩ hA73
        intro a70 F70 S70
        refine obl_of (by rfl) ?_
        exact s_app rfl Try.underlying22 1 _ tin9 rfl rfl (F70.e (.slice A1 ns.length c1)) S70 ([Value.string ((obCrd 7 o15)[k].2)]) (F70.e (.slice (some ⟨g69, 0, none⟩) 1 1)) ((Sp.bkm S70.drop hA73).sl (by simp)) rfl (by simp [Value.oneCell']) (by omega) (by omega) (n' := (ns ++ [(obCrd 7 o15)[k].2]).length) (by first | (simp; done) | (simp; omega)) (cs' := strs (ns ++ [(obCrd 7 o15)[k].2])) (by simp [strs])
    · rintro _ _ ⟨g69, rfl, rfl⟩
      rintro _ _ ⟨A74, c74, rfl, rfl⟩
      intro a76 w75 F76 S75
      have S77 : Sp R w75 (SA.own (.slice A74 ((ns ++ [(obCrd 7 o15)[k].2]).length) c74) 9 1 ((ns ++ [(obCrd 7 o15)[k].2]).length) (strs (ns ++ [(obCrd 7 o15)[k].2])) :: SA.blk g69 9 #[.string ((obCrd 7 o15)[k].2)] :: SA.blk g3 22 #[.slice A1 ns.length c1] :: SA.own (.slice A29 qs29.length c29) 169 1 qs29.length (pps qs29) :: SA.root (7) o15 :: SA.blk g7 3 #[.int .i64 0] :: SA.blk g5 22 #[.slice none 0 0] :: SA.blk g1 30 #[.bool false, .string ((nmM t.n).fName), .string ((nmM t.n).fHome), .string ((nmM t.n).fVersion), .string ((nmM t.n).fDescription), .string ((nmM t.n).fIcon), .string ((nmM t.n).fAPIVersion), .string ((nmM t.n).fCondition), .string ((nmM t.n).fTags), .string ((nmM t.n).fAppVersion), .string ((nmM t.n).fKubeVersion), .string ((nmM t.n).fType), .slice ((nmM t.n).fSources_a) ((nmM t.n).fSources.length) ((nmM t.n).fSources_c), .slice ((nmM t.n).fKeywords_a) ((nmM t.n).fKeywords.length) ((nmM t.n).fKeywords_c), .slice ((nmM t.n).fMaintainers_a) ((nmM t.n).fMaintainers.length) ((nmM t.n).fMaintainers_c), .slice ((nmM t.n).fDependencies_a) ((nmM t.n).fDependencies.length) ((nmM t.n).fDependencies_c), .slice (t.fA) (t.fs.length) (t.fc), .slice (t.dA) (t.kids.length) (t.dc)] :: L) := S75
      refine op_sq0 F76 (s_st rfl (F76.e (.pointer (some ⟨g3, 0, none⟩))) (F76.e (.slice A74 ((ns ++ [(obCrd 7 o15)[k].2]).length) c74)) S77.p2 (by kernel_rfl) rfl rfl rfl (cs := #[.slice A74 ((ns ++ [(obCrd 7 o15)[k].2]).length) c74]) (by kernel_rfl)) ?_
      rintro _ _ w78 rfl S78 F78
      refine wpList_nil ?_
      refine hK40 _ _ ?_; clear hK40 K40
      refine wp_region_lit ?_
      refine op_rq (v := .int .i64 (↑(k + 1))) F78 (r_add (z := ↑(k + 1)) rfl (F78.e (.int .i64 (↑k))) (F78.e (.int .i64 1)) (wr64 (by omega) (by omega) (by omega))) ?_; intro a79 F79
      refine op_q F79 (.int .i64 (↑(k + 1))) ?_; intro a80 F80
      refine wpList_nil ?_
      exact hK34 _ _ _ (by first | omega | (simp; omega)) ⟨A74, c74, (ns ++ [(obCrd 7 o15)[k].2]), k + 1, rfl, (F80.kk 2 (F80.kk 3 (F80.kk 4 (F80.kk 5 (F80.kk 20 (F80.kk 21 (F80.kk 22 F80.nil))))))), S78.p2.drop.p6.p6.p6.p6.p6.p6.p6, (by first | omega | (with_reducible assumption) | (simp; done)), (by rw [List.take_succ_eq_append_getElem hlt_k3, List.map_append, ← hns]; rfl)⟩
  · have hc_k : decide ((↑k : Int) < ↑qs29.length) = false := by first | (simp; done) | (simp; omega)
    obtain rfl : k = qs29.length := by omega
    rw [show (obCrd 7 o15).take qs29.length = (obCrd 7 o15) from by rw [hp0_29, List.length_map, List.take_length]] at hns
    refine wp_seq_k fun K81 hK81 => ?_
    refine wp_region_lit ?_
    refine op_q F34 (.bool (decide ((↑qs29.length : Int) < ↑qs29.length))) ?_; intro a82 F82
    have F83 := F82.sb 23 (by kernel_rfl) hc_k
    refine wpList_nil ?_
    refine hK81 _ _ ?_; clear hK81 K81
    refine wp_seq_k fun K84 hK84 => ?_
    refine wp_cond_false (F83.ev (by kernel_rfl)) ?_
    refine wp_exit ?_
    refine ex_then ?_; clear hK84 K84
    refine ex_then ?_
    refine ex_in ?_
    refine hK26 _ _ ?_; clear hK26 K26
    refine wp_seq_k fun K85 hK85 => ?_
    refine wp_seq_k fun K86 hK86 => ?_
    refine wp_region_lit ?_
    refine op_q F83 (.pointer (some ⟨o15.g, 0, none⟩)) ?_; intro a87 F87
    have hcl88 := crdo_sp 7 o15 ([]) _ _ _ S34 (fun w S => (root_at hp0_15 (S.p3)).1) (fun w S => (root_at hp0_15 (S.p3)).2) hp0_15 hpc ⟨by show (1 : Nat) ≤ 20; omega, fun o h => by rw [List.mem_singleton.1 h]; exact hon⟩ (by show (1 : Nat) + 7 ≤ 10; omega) (PathOk.seg (seg_word how))
    refine op_cq F87 (f := 100) hcl88 ?_
    rintro _ w88 ⟨A88, c88, n88, rfl, S88, hp0_88⟩
    refine ⟨_, rfl, ?_⟩
    intro a89 F89
    refine op_q F89 (.int .i64 (↑n88)) ?_; intro a90 F90
    refine op_q F90 (.int .i64 0) ?_; intro a91 F91
    refine wpList_nil ?_
    refine hK86 _ _ ?_; clear hK86 K86
    refine wp_block ?_
    have S92 : Sp R w88 (SA.own (.slice none 0 0) 9 1 (([] : List ByteArray).length) (strs []) :: SA.own (.slice A88 n88 c88) 175 3 n88 (flatC crdC (obObj (7) (pathOf (o15 :: ([]))).fFull o15)) :: SA.blk g3 22 #[.slice A1 ns.length c1] :: SA.own (.slice A1 ns.length c1) 9 1 ns.length (strs ns) :: SA.own (.slice A29 qs29.length c29) 169 1 qs29.length (pps qs29) :: SA.root (7) o15 :: SA.blk g7 3 #[.int .i64 0] :: SA.blk g5 22 #[.slice none 0 0] :: SA.blk g1 30 #[.bool false, .string ((nmM t.n).fName), .string ((nmM t.n).fHome), .string ((nmM t.n).fVersion), .string ((nmM t.n).fDescription), .string ((nmM t.n).fIcon), .string ((nmM t.n).fAPIVersion), .string ((nmM t.n).fCondition), .string ((nmM t.n).fTags), .string ((nmM t.n).fAppVersion), .string ((nmM t.n).fKubeVersion), .string ((nmM t.n).fType), .slice ((nmM t.n).fSources_a) ((nmM t.n).fSources.length) ((nmM t.n).fSources_c), .slice ((nmM t.n).fKeywords_a) ((nmM t.n).fKeywords.length) ((nmM t.n).fKeywords_c), .slice ((nmM t.n).fMaintainers_a) ((nmM t.n).fMaintainers.length) ((nmM t.n).fMaintainers_c), .slice ((nmM t.n).fDependencies_a) ((nmM t.n).fDependencies.length) ((nmM t.n).fDependencies_c), .slice (t.fA) (t.fs.length) (t.fc), .slice (t.dA) (t.kids.length) (t.dc)] :: L) := Sp.nilown (e := 9) (sz := 1) S88
    refine fw_loop (fun m' a' w' => ∃ B1 : Option Addr, ∃ d1 : Nat, ∃ ps : List ByteArray, ∃ j : Nat, n88 - j = m' ∧ Fr 49 [{ target := .fn (.func 98) #[.pointer (some ⟨g3, 0, none⟩), .pointer (some ⟨g5, 0, none⟩), .pointer (some ⟨g7, 0, none⟩)], args := #[] }] a' [(2, .pointer (some ⟨g3, 0, none⟩)), (3, .pointer (some ⟨g5, 0, none⟩)), (4, .pointer (some ⟨g7, 0, none⟩)), (35, .slice A88 n88 c88), (36, .int .i64 (↑n88)), (37, .int .i64 (↑j))] ∧ Sp R w' (SA.blk g5 22 #[.slice B1 ps.length d1] :: SA.own (.slice B1 ps.length d1) 9 1 ps.length (strs ps) :: SA.own (.slice A88 n88 c88) 175 3 n88 (flatC crdC (obObj (7) (pathOf (o15 :: ([]))).fFull o15)) :: SA.blk g3 22 #[.slice A1 ns.length c1] :: SA.own (.slice A1 ns.length c1) 9 1 ns.length (strs ns) :: SA.own (.slice A29 qs29.length c29) 169 1 qs29.length (pps qs29) :: SA.root (7) o15 :: SA.blk g7 3 #[.int .i64 0] :: SA.blk g1 30 #[.bool false, .string ((nmM t.n).fName), .string ((nmM t.n).fHome), .string ((nmM t.n).fVersion), .string ((nmM t.n).fDescription), .string ((nmM t.n).fIcon), .string ((nmM t.n).fAPIVersion), .string ((nmM t.n).fCondition), .string ((nmM t.n).fTags), .string ((nmM t.n).fAppVersion), .string ((nmM t.n).fKubeVersion), .string ((nmM t.n).fType), .slice ((nmM t.n).fSources_a) ((nmM t.n).fSources.length) ((nmM t.n).fSources_c), .slice ((nmM t.n).fKeywords_a) ((nmM t.n).fKeywords.length) ((nmM t.n).fKeywords_c), .slice ((nmM t.n).fMaintainers_a) ((nmM t.n).fMaintainers.length) ((nmM t.n).fMaintainers_c), .slice ((nmM t.n).fDependencies_a) ((nmM t.n).fDependencies.length) ((nmM t.n).fDependencies_c), .slice (t.fA) (t.fs.length) (t.fc), .slice (t.dA) (t.kids.length) (t.dc)] :: L) ∧ (j ≤ n88) ∧ (ps = ((obObj 7 (pathOf (o15 :: [])).fFull o15).take j).map fun x => x.2.2)) _ ⟨none, 0, [], 0, rfl, (F91.kk 2 (F91.kk 3 (F91.kk 4 (F91.kk 35 (F91.kk 36 (F91.kk 37 F91.nil)))))), S92.p8.p7.p7.p7.p7.p7.p7.p7.p8, (by first | omega | (with_reducible assumption) | (simp; done)), rfl⟩ ?_
    rintro m93 a93 w93 ⟨B1, d1, ps, j, hm93, F93, S93, hj, hps⟩ K93 hK93
    by_cases hlt_j : j < n88
    · have hc_j : decide ((↑j : Int) < ↑n88) = true := by first | (simp; done) | (simp; omega)
      have hlt_j3 : j < (obObj 7 (pathOf (o15 :: [])).fFull o15).length := by omega
      have hpb : ps.length ≤ 1000 := by rw [hps, List.length_map, List.length_take]; omega
      obtain ⟨ad94, hA94⟩ := (own_rowsT1 (S93.ow 2 rfl) hp0_88.symm (by decide) crdC_len (by first | omega | (simp; omega))).addr (by simp; omega)
      refine wp_seq_k fun K95 hK95 => ?_
      refine wp_region_lit ?_
      refine op_q F93 (.bool (decide ((↑j : Int) < ↑n88))) ?_; intro a96 F96
      have F97 := F96.sb 38 (by kernel_rfl) hc_j
      refine wpList_nil ?_
      refine hK95 _ _ ?_; clear hK95 K95
      refine wp_seq_k fun K98 hK98 => ?_
      refine wp_cond_true (F97.ev (by kernel_rfl)) ?_
      refine wp_skip ?_
      refine hK98 _ _ ?_; clear hK98 K98
      refine wp_seq_k fun K99 hK99 => ?_
      refine wp_block ?_
      refine wp_seq_k fun K100 hK100 => ?_
      refine wp_region_lit ?_
      refine op_rq (v := .pointer (some (ad94.add (j * 3)))) F97 (r_ix rfl Try.underlying172 3 (by kernel_rfl) (F97.e (.slice A88 n88 c88)) hA94 (F97.e (.int .i64 (↑j))) j (by first | rfl | omega | simp) (by first | omega | (simp; done) | (simp; omega)) (rfl)) ?_; intro a101 F101
      refine op_rq (v := .agg #[.string ((obObj 7 (pathOf (o15 :: [])).fFull o15)[j].2.1), .string ((obObj 7 (pathOf (o15 :: [])).fFull o15)[j].2.2), .pointer ((obObj 7 (pathOf (o15 :: [])).fFull o15)[j].1)]) F101 (r_ldR rfl (F101.e (.pointer (some (ad94.add (j * 3))))) (cs := [.string ((obObj 7 (pathOf (o15 :: [])).fFull o15)[j].2.1), .string ((obObj 7 (pathOf (o15 :: [])).fFull o15)[j].2.2), .pointer ((obObj 7 (pathOf (o15 :: [])).fFull o15)[j].1)]) ((own_rowsT1 (S93.ow 2 rfl) hp0_88.symm (by decide) crdC_len (by first | omega | (simp; omega))).elA hA94 (j := j) (row := crdC (obObj 7 (pathOf (o15 :: [])).fFull o15)[j]) (by rw [List.getElem?_map, List.getElem?_eq_getElem hlt_j3]; rfl)) Try.underlying175 rfl (by kernel_rfl) (v := #[.string ((obObj 7 (pathOf (o15 :: [])).fFull o15)[j].2.1), .string ((obObj 7 (pathOf (o15 :: [])).fFull o15)[j].2.2), .pointer ((obObj 7 (pathOf (o15 :: [])).fFull o15)[j].1)]) (by kernel_rfl)) ?_; intro a102 F102
      refine op_sq F102 (s_newp F102 175 #[.string ⟨#[]⟩, .string ⟨#[]⟩, .pointer none] (by kernel_rfl) (by kernel_rfl) (by kernel_rfl) S93) ?_
      rintro _ _ w104 ⟨g102, rfl, rfl⟩ S104 a104 F104
      refine op_sq0 F104 (s_stb rfl (F104.e (.pointer (some ⟨g102, 0, none⟩))) (F104.e (.agg #[.string ((obObj 7 (pathOf (o15 :: [])).fFull o15)[j].2.1), .string ((obObj 7 (pathOf (o15 :: [])).fFull o15)[j].2.2), .pointer ((obObj 7 (pathOf (o15 :: [])).fFull o15)[j].1)])) S104 (by kernel_rfl) rfl (by kernel_rfl)) ?_
      rintro _ _ w105 rfl S105 F105
      refine wpList_nil ?_
      refine hK100 _ _ ?_; clear hK100 K100
      refine wp_region_lit ?_
      refine op_rq (v := .slice B1 ps.length d1) F105 (r_ld rfl (F105.e (.pointer (some ⟨g5, 0, none⟩))) (v := .slice B1 ps.length d1) ((S105.bk 1 rfl).cell 0) Try.underlying22 rfl) ?_; intro a106 F106
      refine op_q F106 (.pointer (some ⟨g102, 1, none⟩)) ?_; intro a107 F107
      refine op_rq (v := .string ((obObj 7 (pathOf (o15 :: [])).fFull o15)[j].2.2)) F107 (r_ld rfl (F107.e (.pointer (some ⟨g102, 1, none⟩))) (v := .string ((obObj 7 (pathOf (o15 :: [])).fFull o15)[j].2.2)) ((S105.bk 0 rfl).cell 1) Try.underlying9 rfl) ?_; intro a108 F108
      refine op_sq F108 (s_news F108 9 #[.string ((obObj 7 (pathOf (o15 :: [])).fFull o15)[j].2.2)] 1 (by kernel_rfl) (by kernel_rfl) (by kernel_rfl) S105) ?_
      rintro _ _ w110 ⟨g108, rfl, rfl⟩ S110 a110 F110
      refine op_sq F110 (s_app rfl Try.underlying22 1 _ tin9 rfl rfl (F110.e (.slice B1 ps.length d1)) S110.p3 ([Value.string ((obObj 7 (pathOf (o15 :: [])).fFull o15)[j].2.2)]) (F110.e (.slice (some ⟨g108, 0, none⟩) 1 1)) ((S110.bk 0 rfl).sl (by simp)) rfl (by simp [Value.oneCell']) (by omega) (by omega) (n' := (ps ++ [(obObj 7 (pathOf (o15 :: [])).fFull o15)[j].2.2]).length) (by first | (simp; done) | (simp; omega)) (cs' := strs (ps ++ [(obObj 7 (pathOf (o15 :: [])).fFull o15)[j].2.2])) (by simp [strs])) ?_
      rintro _ _ w112 ⟨A111, c111, rfl, rfl⟩ S112 a112 F112
      refine op_sq0 F112 (s_st rfl (F112.e (.pointer (some ⟨g5, 0, none⟩))) (F112.e (.slice A111 ((ps ++ [(obObj 7 (pathOf (o15 :: [])).fFull o15)[j].2.2]).length) c111)) S112.p3 (by kernel_rfl) rfl rfl rfl (cs := #[.slice A111 ((ps ++ [(obObj 7 (pathOf (o15 :: [])).fFull o15)[j].2.2]).length) c111]) (by kernel_rfl)) ?_
      rintro _ _ w113 rfl S113 F113
      refine wpList_nil ?_
      refine hK99 _ _ ?_; clear hK99 K99
      refine wp_region_lit ?_
      refine op_rq (v := .int .i64 (↑(j + 1))) F113 (r_add (z := ↑(j + 1)) rfl (F113.e (.int .i64 (↑j))) (F113.e (.int .i64 1)) (wr64 (by omega) (by omega) (by omega))) ?_; intro a114 F114
      refine op_q F114 (.int .i64 (↑(j + 1))) ?_; intro a115 F115
      refine wpList_nil ?_
      exact hK93 _ _ _ (by first | omega | (simp; omega)) ⟨A111, c111, (ps ++ [(obObj 7 (pathOf (o15 :: [])).fFull o15)[j].2.2]), j + 1, rfl, (F115.kk 2 (F115.kk 3 (F115.kk 4 (F115.kk 35 (F115.kk 36 (F115.kk 37 F115.nil)))))), S113.p2.drop.p2.drop.p8.p8.p8.p8.p8.p8.p8.p8.p8, (by first | omega | (with_reducible assumption) | (simp; done)), (by rw [List.take_succ_eq_append_getElem hlt_j3, List.map_append, ← hps]; rfl)⟩
    · have hc_j : decide ((↑j : Int) < ↑n88) = false := by first | (simp; done) | (simp; omega)
      have hjn : j = n88 := by omega
      subst hjn
      rw [show (obObj 7 (pathOf (o15 :: [])).fFull o15).take j = (obObj 7 (pathOf (o15 :: [])).fFull o15) from by rw [hp0_88, List.take_length]] at hps
      refine wp_seq_k fun K116 hK116 => ?_
      refine wp_region_lit ?_
      refine op_q F93 (.bool (decide ((↑j : Int) < ↑j))) ?_; intro a117 F117
      have F118 := F117.sb 38 (by kernel_rfl) hc_j
      refine wpList_nil ?_
      refine hK116 _ _ ?_; clear hK116 K116
      refine wp_seq_k fun K119 hK119 => ?_
      refine wp_cond_false (F118.ev (by kernel_rfl)) ?_
      refine wp_exit ?_
      refine ex_then ?_; clear hK119 K119
      refine ex_then ?_
      refine ex_in ?_
      refine hK85 _ _ ?_; clear hK85 K85
      refine wp_seq_k fun K120 hK120 => ?_
      refine wp_region_sepF (L0 := SA.blk g5 22 #[.slice B1 ps.length d1] :: SA.own (.slice B1 ps.length d1) 9 1 ps.length (strs ps) :: SA.own (.slice A88 j c88) 175 3 j (flatC crdC (obObj (7) (pathOf (o15 :: ([]))).fFull o15)) :: SA.blk g3 22 #[.slice A1 ns.length c1] :: SA.own (.slice A1 ns.length c1) 9 1 ns.length (strs ns) :: SA.own (.slice A29 qs29.length c29) 169 1 qs29.length (pps qs29) :: SA.root (7) o15 :: SA.blk g7 3 #[.int .i64 0] :: SA.blk g1 30 #[.bool false, .string ((nmM t.n).fName), .string ((nmM t.n).fHome), .string ((nmM t.n).fVersion), .string ((nmM t.n).fDescription), .string ((nmM t.n).fIcon), .string ((nmM t.n).fAPIVersion), .string ((nmM t.n).fCondition), .string ((nmM t.n).fTags), .string ((nmM t.n).fAppVersion), .string ((nmM t.n).fKubeVersion), .string ((nmM t.n).fType), .slice ((nmM t.n).fSources_a) ((nmM t.n).fSources.length) ((nmM t.n).fSources_c), .slice ((nmM t.n).fKeywords_a) ((nmM t.n).fKeywords.length) ((nmM t.n).fKeywords_c), .slice ((nmM t.n).fMaintainers_a) ((nmM t.n).fMaintainers.length) ((nmM t.n).fMaintainers_c), .slice ((nmM t.n).fDependencies_a) ((nmM t.n).fDependencies.length) ((nmM t.n).fDependencies_c), .slice (t.fA) (t.fs.length) (t.fc), .slice (t.dA) (t.kids.length) (t.dc)] :: L) [some [], some [], some [(0, 47)], some [(1, 48)], some []] [.v 47 (.slice A1 ns.length c1), .v 48 (.slice B1 ps.length d1), .n (SA.emp) (fun _ _ AA => AA = SA.emp), .n (SA.emp) (fun _ _ AA => AA = SA.emp), .n (SA.emp) (fun _ _ AA => AA = SA.emp)] [] F118 rfl (by kernel_rfl) S93.emp.emp.emp ?_ ?_
      · refine ⟨?_, ?_, ?_, ?_, ?_, trivial⟩
        · intro w128 M128
          intro a128 F128 S128
          refine obl_of (by rfl) ?_
          exact s_r (v := .slice A1 ns.length c1) (r_ld rfl (F128.e (.pointer (some ⟨g3, 0, none⟩))) (v := .slice A1 ns.length c1) (((Sp.dropM S128.drop).bk 3 rfl).cell 0) Try.underlying22 rfl) S128
        · intro w129 M129
          intro a129 F129 S129
          refine obl_of (by rfl) ?_
          exact s_r (v := .slice B1 ps.length d1) (r_ld rfl (F129.e (.pointer (some ⟨g5, 0, none⟩))) (v := .slice B1 ps.length d1) (((Sp.dropM S129.drop).bk 0 rfl).cell 0) Try.underlying22 rfl) S129
        · intro w130 M130
          intro a130 F130 S130
          refine obl_of (by rfl) ?_
          exact s_st_same rfl (F130.e (.pointer (some ⟨g3, 0, none⟩))) (F130.e (.slice A1 ns.length c1)) ((Sp.dropM S130.drop).bk 3 rfl) S130 (by kernel_rfl) rfl rfl rfl (by kernel_rfl)
        · intro w132 M132
          intro a132 F132 S132
          refine obl_of (by rfl) ?_
          exact s_st_same rfl (F132.e (.pointer (some ⟨g5, 0, none⟩))) (F132.e (.slice B1 ps.length d1)) ((Sp.dropM S132.drop).bk 0 rfl) S132 (by kernel_rfl) rfl rfl rfl (by kernel_rfl)
        · intro w134 M134
          intro a134 F134 S134
          refine obl_of (by rfl) ?_
          exact s_st_same rfl (F134.e (.pointer (some ⟨g7, 0, none⟩))) (F134.e (.int .i64 0)) ((Sp.dropM S134.drop).bk 7 rfl) S134 (by kernel_rfl) rfl rfl rfl (by kernel_rfl)
      · rintro _ _ rfl
        rintro _ _ rfl
        rintro _ _ rfl
        intro a136 w135 F136 S135
        have S137 : Sp R w135 (SA.blk g5 22 #[.slice B1 ps.length d1] :: SA.own (.slice B1 ps.length d1) 9 1 ps.length (strs ps) :: SA.own (.slice A88 j c88) 175 3 j (flatC crdC (obObj (7) (pathOf (o15 :: ([]))).fFull o15)) :: SA.blk g3 22 #[.slice A1 ns.length c1] :: SA.own (.slice A1 ns.length c1) 9 1 ns.length (strs ns) :: SA.own (.slice A29 qs29.length c29) 169 1 qs29.length (pps qs29) :: SA.root (7) o15 :: SA.blk g7 3 #[.int .i64 0] :: SA.blk g1 30 #[.bool false, .string ((nmM t.n).fName), .string ((nmM t.n).fHome), .string ((nmM t.n).fVersion), .string ((nmM t.n).fDescription), .string ((nmM t.n).fIcon), .string ((nmM t.n).fAPIVersion), .string ((nmM t.n).fCondition), .string ((nmM t.n).fTags), .string ((nmM t.n).fAppVersion), .string ((nmM t.n).fKubeVersion), .string ((nmM t.n).fType), .slice ((nmM t.n).fSources_a) ((nmM t.n).fSources.length) ((nmM t.n).fSources_c), .slice ((nmM t.n).fKeywords_a) ((nmM t.n).fKeywords.length) ((nmM t.n).fKeywords_c), .slice ((nmM t.n).fMaintainers_a) ((nmM t.n).fMaintainers.length) ((nmM t.n).fMaintainers_c), .slice ((nmM t.n).fDependencies_a) ((nmM t.n).fDependencies.length) ((nmM t.n).fDependencies_c), .slice (t.fA) (t.fs.length) (t.fc), .slice (t.dA) (t.kids.length) (t.dc)] :: L) := S135.drop.drop.drop
        refine wpList_nil ?_
        refine hK120 _ _ ?_; clear hK120 K120
        refine wp_ret ?_
        refine (F136.leaveD (f := 98) (args := #[.pointer (some ⟨g3, 0, none⟩), .pointer (some ⟨g5, 0, none⟩), .pointer (some ⟨g7, 0, none⟩)]) (by simp [go_sem]) (catch98 g3 g5 g7 _) (results3 Try.results46 (F136.rvc (p := ⟨g3, 0, none⟩) (by kernel_rfl) (load_one _ _ _ (.slice A1 ns.length c1) ((S137.bk 3 rfl).cell 0) _ Try.underlying22 rfl)) (F136.rvc (p := ⟨g5, 0, none⟩) (by kernel_rfl) (load_one _ _ _ (.slice B1 ps.length d1) ((S137.bk 0 rfl).cell 0) _ Try.underlying22 rfl)) (F136.rvc (p := ⟨g7, 0, none⟩) (by kernel_rfl) (load_one _ _ _ (.int .i64 0) ((S137.bk 7 rfl).cell 0) _ Try.underlying3 rfl))) ?_).1
        exact ⟨A1, c1, ns, B1, d1, ps, rfl, S137.drop.p1.drop.p1.drop.p2.drop.p2.drop.p2.drop.p2.drop.p1, (by rw [hns, obCrd_names hp0_15 hoz, hp1_15]), (by rw [hps, obObj_paths hp0_15 hoz, hp1_15, show (pathOf (o15 :: [])).fFull = t.n from root_full hp1_15])⟩
end Go.Proofs.Ytkjcedlgljeoiaa

/- The walk of FnChartCRDs. -/
namespace Go.Proofs.Ytkjcedlgljeoiaa
open Go.RowKit Go.Lib
set_option linter.unusedVariables false
set_option linter.unusedSimpArgs false
theorem chCRDs_7 (t : Tr) (R : Ctx) (L : List SA) (w : World) (S : Sp R w (L)) (h0 : Rf R L fun w => TrAt w (7) t) (ht : TrOk 7 t) (hn : Tr.cnt 7 t ≤ 100) :
    Calls Try.prog 47 #[.agg #[.bool false, .string ((nmM t.n).fName), .string ((nmM t.n).fHome), .string ((nmM t.n).fVersion), .string ((nmM t.n).fDescription), .string ((nmM t.n).fIcon), .string ((nmM t.n).fAPIVersion), .string ((nmM t.n).fCondition), .string ((nmM t.n).fTags), .string ((nmM t.n).fAppVersion), .string ((nmM t.n).fKubeVersion), .string ((nmM t.n).fType), .slice ((nmM t.n).fSources_a) ((nmM t.n).fSources.length) ((nmM t.n).fSources_c), .slice ((nmM t.n).fKeywords_a) ((nmM t.n).fKeywords.length) ((nmM t.n).fKeywords_c), .slice ((nmM t.n).fMaintainers_a) ((nmM t.n).fMaintainers.length) ((nmM t.n).fMaintainers_c), .slice ((nmM t.n).fDependencies_a) ((nmM t.n).fDependencies.length) ((nmM t.n).fDependencies_c), .slice (t.fA) (t.fs.length) (t.fc), .slice (t.dA) (t.kids.length) (t.dc)], .string ((nmM t.n).fName)] w fun e w' => ∃ A : Option Addr, ∃ c : Nat, ∃ ns : List ByteArray, ∃ B : Option Addr, ∃ d : Nat, ∃ ps : List ByteArray, e = .returned (.tuple #[.slice A ns.length c, .slice B ps.length d]) ∧ Sp R w' (SA.own (.slice A ns.length c) 9 1 ns.length (strs ns) :: SA.own (.slice B ps.length d) 9 1 ps.length (strs ps) :: L) ∧ (ns = crdN 7 (Tr.pl 7 t)) ∧ (ps = crdP 7 t.n (Tr.pl 7 t)) := by
  have h8 := trOk_n ht
  exact chCRDs_sp 7 t t.n R L w S h0 ht hn (by omega)
theorem a_word : WordOk ⟨#[97]⟩ := ⟨by decide, by decide, fun j h => by
  have hz : (⟨#[97]⟩ : ByteArray).size = 1 := rfl
  have : j = 0 := by omega
  subst this; show 97 ≤ (97 : UInt8).toNat ∧ (97 : UInt8).toNat ≤ 122; decide⟩
theorem b_word : WordOk ⟨#[98]⟩ := ⟨by decide, by decide, fun j h => by
  have hz : (⟨#[98]⟩ : ByteArray).size = 1 := rfl
  have : j = 0 := by omega
  subst this; show 97 ≤ (98 : UInt8).toNat ∧ (98 : UInt8).toNat ≤ 122; decide⟩
theorem fb_ok : FileOk ⟨#[99, 114, 100, 115, 47, 98, 46, 121, 97, 109, 108]⟩ := ⟨0, 0, ⟨#[98]⟩, by decide, by decide, b_word, by apply bl_inj; rw [bl_app, bl_app]; decide⟩
theorem fb_crd : crdB ⟨#[99, 114, 100, 115, 47, 98, 46, 121, 97, 109, 108]⟩ = true := by
  have h1 : decide (((⟨#[99, 114, 100, 115, 47, 98, 46, 121, 97, 109, 108]⟩ : ByteArray).size : Int) < 5) = false := rfl
  have h2 : (((⟨#[99, 114, 100, 115, 47, 98, 46, 121, 97, 109, 108]⟩ : ByteArray).extract 0 5).toList == (⟨#[99, 114, 100, 115, 47]⟩ : ByteArray).toList) = true := by rw [bl_toList, bl_toList, bl_ext]; decide
  have e : extAt ⟨#[99, 114, 100, 115, 47, 98, 46, 121, 97, 109, 108]⟩ (⟨#[99, 114, 100, 115, 47, 98, 46, 121, 97, 109, 108]⟩ : ByteArray).size = ⟨#[46, 121, 97, 109, 108]⟩ := by
    have e1 : extAt ⟨#[99, 114, 100, 115, 47, 98, 46, 121, 97, 109, 108]⟩ (⟨#[99, 114, 100, 115, 47, 98, 46, 121, 97, 109, 108]⟩ : ByteArray).size = (⟨#[99, 114, 100, 115, 47, 98, 46, 121, 97, 109, 108]⟩ : ByteArray).extract 6 11 := rfl
    rw [e1]; apply bl_inj; rw [bl_ext]; decide
  rw [crd_ok h1 h2, e]
  exact yam_1 (by rw [low_y0]; exact beq_self_eq_true _)
/-- The chart of the law's own. -/
def tOne (g : Nat) : Tr := .mk ⟨#[97]⟩ (some ⟨g, 0, none⟩) 1 [⟨#[99, 114, 100, 115, 47, 98, 46, 121, 97, 109, 108]⟩] none 0 []
theorem tOne_ok (g : Nat) : TrOk 7 (tOne g) := ⟨a_word, by show (1 : Nat) ≤ 5; omega, fun s hs => by rw [List.mem_singleton.1 hs]; exact fb_ok, by show (0 : Nat) ≤ 1000; omega, fun k hk => by cases hk⟩
theorem tOne_at {w : World} {g : Nat} (h : Blk w g 94 #[.string ⟨#[99, 114, 100, 115, 47, 98, 46, 121, 97, 109, 108]⟩, .string ⟨#[]⟩]) : TrAt w 7 (tOne g) :=
  ⟨(h.sl (by simp)).toRows (by decide) (fun row hr => by rw [List.mem_singleton.1 hr]; rfl) rfl, Rows.nil, fun k hk => by cases hk⟩
theorem chartCRDs_one (g : Nat) (R : Ctx) (L : List SA) (w : World) (S : Sp R w (L)) (h0 : Rf R L fun w => Blk w (g) 94 #[.string ⟨#[99, 114, 100, 115, 47, 98, 46, 121, 97, 109, 108]⟩, .string ⟨#[]⟩])  :
    Calls Try.prog 46 #[.agg #[.bool false, .string ⟨#[97]⟩, .string ⟨#[]⟩, .string ⟨#[]⟩, .string ⟨#[]⟩, .string ⟨#[]⟩, .string ⟨#[]⟩, .string ⟨#[]⟩, .string ⟨#[]⟩, .string ⟨#[]⟩, .string ⟨#[]⟩, .string ⟨#[]⟩, .slice none 0 0, .slice none 0 0, .slice none 0 0, .slice none 0 0, .slice (some ⟨g, 0, none⟩) 1 1, .slice none 0 0]] w fun e w' => ∃ A : Option Addr, ∃ c : Nat, ∃ B : Option Addr, ∃ n : Nat, ∃ d : Nat, e = .returned (.tuple #[.slice A 1 c, .slice B n d, .int .i64 0]) ∧ Sp R w' (L) := by
  refine (chartCRDs_tr (tOne g) R L w S (fun w S => tOne_at (h0 w S)) (tOne_ok g) (by show (1 + 0 : Nat) ≤ 100; omega)).mono fun e w' ⟨A, c, ns, B, d, ps, he, hS, h1, h2⟩ => ?_
  have e1 : ns.length = 1 := by
    rw [h1]
    show ([(⟨#[99, 114, 100, 115, 47, 98, 46, 121, 97, 109, 108]⟩ : ByteArray)].filter crdB ++ []).length = 1
    rw [List.filter_cons_of_pos fb_crd]; rfl
  rw [e1] at he
  exact ⟨A, c, B, ps.length, d, he, hS.drop.drop⟩
set_option maxRecDepth 100000 in
set_option maxHeartbeats 20000000 in
theorem chartCRDsLaw_sp (x : Ti) (R : Ctx) (L : List SA) (w : World) (S : Sp R w (L)) (h0 : Rf R L fun w => TiAt w (7) x)  :
    Calls Try.prog 10 #[.agg #[.bool x.bare, .string x.m.fName, .string x.m.fHome, .string x.m.fVersion, .string x.m.fDescription, .string x.m.fIcon, .string x.m.fAPIVersion, .string x.m.fCondition, .string x.m.fTags, .string x.m.fAppVersion, .string x.m.fKubeVersion, .string x.m.fType, .slice (x.m.fSources_a) (x.m.fSources.length) (x.m.fSources_c), .slice (x.m.fKeywords_a) (x.m.fKeywords.length) (x.m.fKeywords_c), .slice (x.m.fMaintainers_a) (x.m.fMaintainers.length) (x.m.fMaintainers_c), .slice (x.m.fDependencies_a) (x.m.fDependencies.length) (x.m.fDependencies_c), .slice (x.fA) (x.fs.length) (x.fc), .slice (x.dA) (x.kids.length) (x.dc)]] w fun e w' => e = .returned (.bool true) ∧ Sp R w' (L) := by
  refine fw_enter (fn := Try.f10) rfl rfl 86 rfl (Nat.le_of_ble_eq_true rfl) ?_
  intro a0 F0
  refine wp_seq_k fun K1 hK1 => ?_
  refine wp_region_lit ?_
  refine op_sq F0 (s_newp F0 30 #[.bool x.bare, .string x.m.fName, .string x.m.fHome, .string x.m.fVersion, .string x.m.fDescription, .string x.m.fIcon, .string x.m.fAPIVersion, .string x.m.fCondition, .string x.m.fTags, .string x.m.fAppVersion, .string x.m.fKubeVersion, .string x.m.fType, .slice (x.m.fSources_a) (x.m.fSources.length) (x.m.fSources_c), .slice (x.m.fKeywords_a) (x.m.fKeywords.length) (x.m.fKeywords_c), .slice (x.m.fMaintainers_a) (x.m.fMaintainers.length) (x.m.fMaintainers_c), .slice (x.m.fDependencies_a) (x.m.fDependencies.length) (x.m.fDependencies_c), .slice (x.fA) (x.fs.length) (x.fc), .slice (x.dA) (x.kids.length) (x.dc)] (by kernel_rfl) (by kernel_rfl) (by kernel_rfl) S) ?_
  rintro _ _ w3 ⟨g1, rfl, rfl⟩ S3 a3 F3
  refine op_q F3 (.bool false) ?_; intro a4 F4
  refine wpList_nil ?_
  refine hK1 _ _ ?_; clear hK1 K1
  refine wp_seq_k fun K5 hK5 => ?_
  refine wp_seq_k fun K6 hK6 => ?_
  refine wp_region_lit ?_
  refine op_rq (v := .agg #[.bool x.bare, .string x.m.fName, .string x.m.fHome, .string x.m.fVersion, .string x.m.fDescription, .string x.m.fIcon, .string x.m.fAPIVersion, .string x.m.fCondition, .string x.m.fTags, .string x.m.fAppVersion, .string x.m.fKubeVersion, .string x.m.fType, .slice (x.m.fSources_a) (x.m.fSources.length) (x.m.fSources_c), .slice (x.m.fKeywords_a) (x.m.fKeywords.length) (x.m.fKeywords_c), .slice (x.m.fMaintainers_a) (x.m.fMaintainers.length) (x.m.fMaintainers_c), .slice (x.m.fDependencies_a) (x.m.fDependencies.length) (x.m.fDependencies_c), .slice (x.fA) (x.fs.length) (x.fc), .slice (x.dA) (x.kids.length) (x.dc)]) F4 (r_ldm rfl (F4.e (.pointer (some ⟨g1, 0, none⟩))) (S3.bk 0 rfl) 18 (by kernel_rfl) Try.underlying30 rfl (by kernel_rfl) (v := #[.bool x.bare, .string x.m.fName, .string x.m.fHome, .string x.m.fVersion, .string x.m.fDescription, .string x.m.fIcon, .string x.m.fAPIVersion, .string x.m.fCondition, .string x.m.fTags, .string x.m.fAppVersion, .string x.m.fKubeVersion, .string x.m.fType, .slice (x.m.fSources_a) (x.m.fSources.length) (x.m.fSources_c), .slice (x.m.fKeywords_a) (x.m.fKeywords.length) (x.m.fKeywords_c), .slice (x.m.fMaintainers_a) (x.m.fMaintainers.length) (x.m.fMaintainers_c), .slice (x.m.fDependencies_a) (x.m.fDependencies.length) (x.m.fDependencies_c), .slice (x.fA) (x.fs.length) (x.fc), .slice (x.dA) (x.kids.length) (x.dc)]) (by kernel_rfl)) ?_; intro a7 F7
  refine op_cq F7 (f := 14) (args := #[.agg #[.bool x.bare, .string x.m.fName, .string x.m.fHome, .string x.m.fVersion, .string x.m.fDescription, .string x.m.fIcon, .string x.m.fAPIVersion, .string x.m.fCondition, .string x.m.fTags, .string x.m.fAppVersion, .string x.m.fKubeVersion, .string x.m.fType, .slice (x.m.fSources_a) (x.m.fSources.length) (x.m.fSources_c), .slice (x.m.fKeywords_a) (x.m.fKeywords.length) (x.m.fKeywords_c), .slice (x.m.fMaintainers_a) (x.m.fMaintainers.length) (x.m.fMaintainers_c), .slice (x.m.fDependencies_a) (x.m.fDependencies.length) (x.m.fDependencies_c), .slice (x.fA) (x.fs.length) (x.fc), .slice (x.dA) (x.kids.length) (x.dc)]]) (zzFits1_ti x _ _ _ S3 (fun w S => h0 w S.drop)) ?_
  rintro _ w8 ⟨b8, rfl, S8⟩
  refine ⟨_, rfl, ?_⟩
  intro a9 F9
  refine op_q F9 (.bool (!(b8))) ?_; intro a10 F10
  refine wpList_nil ?_
  refine hK6 _ _ ?_; clear hK6 K6
  rcases btf (b8) with hc11 | hc11
  · have F12 := F10.sb 15 (by kernel_rfl) hc11
    have F13 := F12.sb 16 (by kernel_rfl) (show (!(b8)) = false by rw [hc11]; rfl)
    refine wp_cond_false (F13.ev (by kernel_rfl)) ?_
    refine wp_skip ?_
    refine hK5 _ _ ?_; clear hK5 K5
    refine wp_seq_k fun K14 hK14 => ?_
    refine wp_region_lit ?_
    refine op_sq F13 (s_newp F13 3 #[.int .i64 0] (by kernel_rfl) (by kernel_rfl) (by kernel_rfl) S8) ?_
    rintro _ _ w16 ⟨g14, rfl, rfl⟩ S16 a16 F16
    refine op_sq0 F16 (s_st rfl (F16.e (.pointer (some ⟨g14, 0, none⟩))) (F16.e (.int .i64 30)) S16 (by kernel_rfl) rfl rfl rfl (cs := #[.int .i64 30]) (by kernel_rfl)) ?_
    rintro _ _ w17 rfl S17 F17
    refine wpList_nil ?_
    refine hK14 _ _ ?_; clear hK14 K14
    refine wp_seq_k fun K18 hK18 => ?_
    refine wp_region_lit ?_
    refine op_rq (v := .agg #[.bool x.bare, .string x.m.fName, .string x.m.fHome, .string x.m.fVersion, .string x.m.fDescription, .string x.m.fIcon, .string x.m.fAPIVersion, .string x.m.fCondition, .string x.m.fTags, .string x.m.fAppVersion, .string x.m.fKubeVersion, .string x.m.fType, .slice (x.m.fSources_a) (x.m.fSources.length) (x.m.fSources_c), .slice (x.m.fKeywords_a) (x.m.fKeywords.length) (x.m.fKeywords_c), .slice (x.m.fMaintainers_a) (x.m.fMaintainers.length) (x.m.fMaintainers_c), .slice (x.m.fDependencies_a) (x.m.fDependencies.length) (x.m.fDependencies_c), .slice (x.fA) (x.fs.length) (x.fc), .slice (x.dA) (x.kids.length) (x.dc)]) F17 (r_ldm rfl (F17.e (.pointer (some ⟨g1, 0, none⟩))) (S17.bk 1 rfl) 18 (by kernel_rfl) Try.underlying30 rfl (by kernel_rfl) (v := #[.bool x.bare, .string x.m.fName, .string x.m.fHome, .string x.m.fVersion, .string x.m.fDescription, .string x.m.fIcon, .string x.m.fAPIVersion, .string x.m.fCondition, .string x.m.fTags, .string x.m.fAppVersion, .string x.m.fKubeVersion, .string x.m.fType, .slice (x.m.fSources_a) (x.m.fSources.length) (x.m.fSources_c), .slice (x.m.fKeywords_a) (x.m.fKeywords.length) (x.m.fKeywords_c), .slice (x.m.fMaintainers_a) (x.m.fMaintainers.length) (x.m.fMaintainers_c), .slice (x.m.fDependencies_a) (x.m.fDependencies.length) (x.m.fDependencies_c), .slice (x.fA) (x.fs.length) (x.fc), .slice (x.dA) (x.kids.length) (x.dc)]) (by kernel_rfl)) ?_; intro a19 F19
    refine op_cq F19 (f := 15) (args := #[.agg #[.bool x.bare, .string x.m.fName, .string x.m.fHome, .string x.m.fVersion, .string x.m.fDescription, .string x.m.fIcon, .string x.m.fAPIVersion, .string x.m.fCondition, .string x.m.fTags, .string x.m.fAppVersion, .string x.m.fKubeVersion, .string x.m.fType, .slice (x.m.fSources_a) (x.m.fSources.length) (x.m.fSources_c), .slice (x.m.fKeywords_a) (x.m.fKeywords.length) (x.m.fKeywords_c), .slice (x.m.fMaintainers_a) (x.m.fMaintainers.length) (x.m.fMaintainers_c), .slice (x.m.fDependencies_a) (x.m.fDependencies.length) (x.m.fDependencies_c), .slice (x.fA) (x.fs.length) (x.fc), .slice (x.dA) (x.kids.length) (x.dc)], .int .i64 0, .pointer (some ⟨g14, 0, none⟩)]) (chTree_7 x g14 _ _ _ S17 (fun w S => h0 w S.drop)) ?_
    rintro _ w20 ⟨nn20, fA20, fl20, fc20, dA20, dl20, dc20, kz20, nz20, rfl, S20, hp0_20⟩
    refine ⟨_, rfl, ?_⟩
    intro a21 F21
    refine op_sq0 F21 (s_stb rfl (F21.e (.pointer (some ⟨g1, 0, none⟩))) (F21.e (.agg #[.bool false, .string nn20, .string ⟨#[]⟩, .string ⟨#[]⟩, .string ⟨#[]⟩, .string ⟨#[]⟩, .string ⟨#[]⟩, .string ⟨#[]⟩, .string ⟨#[]⟩, .string ⟨#[]⟩, .string ⟨#[]⟩, .string ⟨#[]⟩, .slice none 0 0, .slice none 0 0, .slice none 0 0, .slice none 0 0, .slice fA20 fl20 fc20, .slice dA20 dl20 dc20])) S20.p2 (by kernel_rfl) rfl (by kernel_rfl)) ?_
    rintro _ _ w22 rfl S22 F22
    refine wpList_nil ?_
    refine hK18 _ _ ?_; clear hK18 K18
    refine wp_seq_k fun K23 hK23 => ?_
    obtain ⟨t, htc, hto, htn, St20⟩ := Sp.tro_open S22.p2
    have S24 : Sp R w22 (SA.tr (7) t :: SA.blk g1 30 #[.bool false, .string nn20, .string ⟨#[]⟩, .string ⟨#[]⟩, .string ⟨#[]⟩, .string ⟨#[]⟩, .string ⟨#[]⟩, .string ⟨#[]⟩, .string ⟨#[]⟩, .string ⟨#[]⟩, .string ⟨#[]⟩, .string ⟨#[]⟩, .slice none 0 0, .slice none 0 0, .slice none 0 0, .slice none 0 0, .slice fA20 fl20 fc20, .slice dA20 dl20 dc20] :: SA.blk g14 3 #[.int .i64 (↑nz20)] :: L) := St20
    have hcn30 : Tr.cnt 7 t ≤ 100 := by omega
    obtain ⟨rfl, rfl, rfl, rfl, rfl, rfl, rfl⟩ := tr_flat htc
    have S25 : Sp R w22 (SA.blk g1 30 #[.bool false, .string ((nmM t.n).fName), .string ((nmM t.n).fHome), .string ((nmM t.n).fVersion), .string ((nmM t.n).fDescription), .string ((nmM t.n).fIcon), .string ((nmM t.n).fAPIVersion), .string ((nmM t.n).fCondition), .string ((nmM t.n).fTags), .string ((nmM t.n).fAppVersion), .string ((nmM t.n).fKubeVersion), .string ((nmM t.n).fType), .slice ((nmM t.n).fSources_a) ((nmM t.n).fSources.length) ((nmM t.n).fSources_c), .slice ((nmM t.n).fKeywords_a) ((nmM t.n).fKeywords.length) ((nmM t.n).fKeywords_c), .slice ((nmM t.n).fMaintainers_a) ((nmM t.n).fMaintainers.length) ((nmM t.n).fMaintainers_c), .slice ((nmM t.n).fDependencies_a) ((nmM t.n).fDependencies.length) ((nmM t.n).fDependencies_c), .slice t.fA t.fs.length t.fc, .slice t.dA t.kids.length t.dc] :: SA.tr (7) t :: SA.blk g14 3 #[.int .i64 (↑nz20)] :: L) := S24.p1
    refine wp_region_lit ?_
    refine op_rq (v := .agg #[.bool false, .string ((nmM t.n).fName), .string ((nmM t.n).fHome), .string ((nmM t.n).fVersion), .string ((nmM t.n).fDescription), .string ((nmM t.n).fIcon), .string ((nmM t.n).fAPIVersion), .string ((nmM t.n).fCondition), .string ((nmM t.n).fTags), .string ((nmM t.n).fAppVersion), .string ((nmM t.n).fKubeVersion), .string ((nmM t.n).fType), .slice ((nmM t.n).fSources_a) ((nmM t.n).fSources.length) ((nmM t.n).fSources_c), .slice ((nmM t.n).fKeywords_a) ((nmM t.n).fKeywords.length) ((nmM t.n).fKeywords_c), .slice ((nmM t.n).fMaintainers_a) ((nmM t.n).fMaintainers.length) ((nmM t.n).fMaintainers_c), .slice ((nmM t.n).fDependencies_a) ((nmM t.n).fDependencies.length) ((nmM t.n).fDependencies_c), .slice t.fA t.fs.length t.fc, .slice t.dA t.kids.length t.dc]) F22 (r_ldm rfl (F22.e (.pointer (some ⟨g1, 0, none⟩))) (S25.bk 0 rfl) 18 (by kernel_rfl) Try.underlying30 rfl (by kernel_rfl) (v := #[.bool false, .string ((nmM t.n).fName), .string ((nmM t.n).fHome), .string ((nmM t.n).fVersion), .string ((nmM t.n).fDescription), .string ((nmM t.n).fIcon), .string ((nmM t.n).fAPIVersion), .string ((nmM t.n).fCondition), .string ((nmM t.n).fTags), .string ((nmM t.n).fAppVersion), .string ((nmM t.n).fKubeVersion), .string ((nmM t.n).fType), .slice ((nmM t.n).fSources_a) ((nmM t.n).fSources.length) ((nmM t.n).fSources_c), .slice ((nmM t.n).fKeywords_a) ((nmM t.n).fKeywords.length) ((nmM t.n).fKeywords_c), .slice ((nmM t.n).fMaintainers_a) ((nmM t.n).fMaintainers.length) ((nmM t.n).fMaintainers_c), .slice ((nmM t.n).fDependencies_a) ((nmM t.n).fDependencies.length) ((nmM t.n).fDependencies_c), .slice t.fA t.fs.length t.fc, .slice t.dA t.kids.length t.dc]) (by kernel_rfl)) ?_; intro a26 F26
    refine op_cq F26 (f := 46) (args := #[.agg #[.bool false, .string ((nmM t.n).fName), .string ((nmM t.n).fHome), .string ((nmM t.n).fVersion), .string ((nmM t.n).fDescription), .string ((nmM t.n).fIcon), .string ((nmM t.n).fAPIVersion), .string ((nmM t.n).fCondition), .string ((nmM t.n).fTags), .string ((nmM t.n).fAppVersion), .string ((nmM t.n).fKubeVersion), .string ((nmM t.n).fType), .slice ((nmM t.n).fSources_a) ((nmM t.n).fSources.length) ((nmM t.n).fSources_c), .slice ((nmM t.n).fKeywords_a) ((nmM t.n).fKeywords.length) ((nmM t.n).fKeywords_c), .slice ((nmM t.n).fMaintainers_a) ((nmM t.n).fMaintainers.length) ((nmM t.n).fMaintainers_c), .slice ((nmM t.n).fDependencies_a) ((nmM t.n).fDependencies.length) ((nmM t.n).fDependencies_c), .slice t.fA t.fs.length t.fc, .slice t.dA t.kids.length t.dc]]) (chartCRDs_tr t _ _ _ S25 (fun w S => S.trAt 1 rfl hto) hto hcn30) ?_
    rintro _ w27 ⟨A27, c27, ns27, B27, d27, ps27, rfl, S27, hp0_27, hp1_27⟩
    refine ⟨_, rfl, ?_⟩
    intro a28 F28
    refine op_q F28 (.tuple #[.slice A27 ns27.length c27, .slice B27 ps27.length d27, .int .i64 0]) ?_; intro a29 F29
    refine op_q F29 (.slice A27 ns27.length c27) ?_; intro a30 F30
    refine op_q F30 (.slice B27 ps27.length d27) ?_; intro a31 F31
    refine op_q F31 (.int .i64 0) ?_; intro a32 F32
    refine op_q F32 (.slice A27 ns27.length c27) ?_; intro a33 F33
    refine op_q F33 (.slice B27 ps27.length d27) ?_; intro a34 F34
    refine op_q F34 (.int .i64 0) ?_; intro a35 F35
    refine wpList_nil ?_
    refine hK23 _ _ ?_; clear hK23 K23
    refine wp_seq_k fun K36 hK36 => ?_
    refine wp_region_lit ?_
    refine op_rq (v := .agg #[.bool false, .string ((nmM t.n).fName), .string ((nmM t.n).fHome), .string ((nmM t.n).fVersion), .string ((nmM t.n).fDescription), .string ((nmM t.n).fIcon), .string ((nmM t.n).fAPIVersion), .string ((nmM t.n).fCondition), .string ((nmM t.n).fTags), .string ((nmM t.n).fAppVersion), .string ((nmM t.n).fKubeVersion), .string ((nmM t.n).fType), .slice ((nmM t.n).fSources_a) ((nmM t.n).fSources.length) ((nmM t.n).fSources_c), .slice ((nmM t.n).fKeywords_a) ((nmM t.n).fKeywords.length) ((nmM t.n).fKeywords_c), .slice ((nmM t.n).fMaintainers_a) ((nmM t.n).fMaintainers.length) ((nmM t.n).fMaintainers_c), .slice ((nmM t.n).fDependencies_a) ((nmM t.n).fDependencies.length) ((nmM t.n).fDependencies_c), .slice t.fA t.fs.length t.fc, .slice t.dA t.kids.length t.dc]) F35 (r_ldm rfl (F35.e (.pointer (some ⟨g1, 0, none⟩))) (S27.bk 2 rfl) 18 (by kernel_rfl) Try.underlying30 rfl (by kernel_rfl) (v := #[.bool false, .string ((nmM t.n).fName), .string ((nmM t.n).fHome), .string ((nmM t.n).fVersion), .string ((nmM t.n).fDescription), .string ((nmM t.n).fIcon), .string ((nmM t.n).fAPIVersion), .string ((nmM t.n).fCondition), .string ((nmM t.n).fTags), .string ((nmM t.n).fAppVersion), .string ((nmM t.n).fKubeVersion), .string ((nmM t.n).fType), .slice ((nmM t.n).fSources_a) ((nmM t.n).fSources.length) ((nmM t.n).fSources_c), .slice ((nmM t.n).fKeywords_a) ((nmM t.n).fKeywords.length) ((nmM t.n).fKeywords_c), .slice ((nmM t.n).fMaintainers_a) ((nmM t.n).fMaintainers.length) ((nmM t.n).fMaintainers_c), .slice ((nmM t.n).fDependencies_a) ((nmM t.n).fDependencies.length) ((nmM t.n).fDependencies_c), .slice t.fA t.fs.length t.fc, .slice t.dA t.kids.length t.dc]) (by kernel_rfl)) ?_; intro a37 F37
    refine op_q F37 (.pointer (some ⟨g1, 1, none⟩)) ?_; intro a38 F38
    refine op_q F38 (.pointer (some ⟨g1, 1, none⟩)) ?_; intro a39 F39
    refine op_rq (v := .string ((nmM t.n).fName)) F39 (r_ld rfl (F39.e (.pointer (some ⟨g1, 1, none⟩))) (v := .string ((nmM t.n).fName)) ((S27.bk 2 rfl).cell 1) Try.underlying9 rfl) ?_; intro a40 F40
    refine op_cq F40 (f := 47) (args := #[.agg #[.bool false, .string ((nmM t.n).fName), .string ((nmM t.n).fHome), .string ((nmM t.n).fVersion), .string ((nmM t.n).fDescription), .string ((nmM t.n).fIcon), .string ((nmM t.n).fAPIVersion), .string ((nmM t.n).fCondition), .string ((nmM t.n).fTags), .string ((nmM t.n).fAppVersion), .string ((nmM t.n).fKubeVersion), .string ((nmM t.n).fType), .slice ((nmM t.n).fSources_a) ((nmM t.n).fSources.length) ((nmM t.n).fSources_c), .slice ((nmM t.n).fKeywords_a) ((nmM t.n).fKeywords.length) ((nmM t.n).fKeywords_c), .slice ((nmM t.n).fMaintainers_a) ((nmM t.n).fMaintainers.length) ((nmM t.n).fMaintainers_c), .slice ((nmM t.n).fDependencies_a) ((nmM t.n).fDependencies.length) ((nmM t.n).fDependencies_c), .slice t.fA t.fs.length t.fc, .slice t.dA t.kids.length t.dc], .string ((nmM t.n).fName)]) (chCRDs_7 t _ _ _ S27 (fun w S => S.trAt 3 rfl hto) hto hcn30) ?_
    rintro _ w41 ⟨A41, c41, ns41, B41, d41, ps41, rfl, S41, hp0_41, hp1_41⟩
    refine ⟨_, rfl, ?_⟩
    intro a42 F42
    refine op_q F42 (.tuple #[.slice A41 ns41.length c41, .slice B41 ps41.length d41]) ?_; intro a43 F43
    refine op_q F43 (.slice A41 ns41.length c41) ?_; intro a44 F44
    refine op_q F44 (.slice B41 ps41.length d41) ?_; intro a45 F45
    refine op_q F45 (.slice A41 ns41.length c41) ?_; intro a46 F46
    refine op_q F46 (.slice B41 ps41.length d41) ?_; intro a47 F47
    refine wpList_nil ?_
    refine hK36 _ _ ?_; clear hK36 K36
    refine wp_seq_k fun K48 hK48 => ?_
    refine wp_seq_k fun K49 hK49 => ?_
    obtain ⟨zs, hzs⟩ : ∃ zs, zs = crdN 7 (Tr.pl 7 t) := ⟨_, rfl⟩
    obtain ⟨ys, hys⟩ : ∃ ys, ys = crdP 7 t.n (Tr.pl 7 t) := ⟨_, rfl⟩
    have hzl : zs.length ≤ 1000 := by rw [hzs]; have := spN_cnt hto; omega
    have hyl : ys.length = zs.length := by rw [hys, hzs, crdP_len]
    rw [← hzs] at hp0_27
    rw [← hys] at hp1_27
    rw [hp0_27, hp1_27] at F47 S41
    rw [← hzs] at hp0_41
    rw [← hys] at hp1_41
    rw [hp0_41, hp1_41] at F47 S41
    refine wp_region_lit ?_
    refine op_q F47 (.int .i64 0) ?_; intro a50 F50
    refine op_q F50 (.bool false) ?_; intro a51 F51
    refine op_q F51 (.bool false) ?_; intro a52 F52
    refine op_wq F52 ?_
    refine op_q F52 (.slice A27 zs.length c27) ?_; intro a53 F53
    refine op_wq F53 ?_
    refine op_q F53 (.int .i64 (↑zs.length)) ?_; intro a54 F54
    refine op_wq F54 ?_
    refine op_q F54 (.slice A41 zs.length c41) ?_; intro a55 F55
    refine op_wq F55 ?_
    refine op_q F55 (.int .i64 (↑zs.length)) ?_; intro a56 F56
    refine op_wq F56 ?_
    refine op_q F56 (.bool (!((↑zs.length : Int) == ↑zs.length))) ?_; intro a57 F57
    refine op_q F57 (.bool (!((↑zs.length : Int) == ↑zs.length))) ?_; intro a58 F58
    refine op_q F58 (.bool (!((↑zs.length : Int) == ↑zs.length))) ?_; intro a59 F59
    have hc60 : ((↑zs.length : Int) == ↑zs.length) = true := (beq_self_eq_true _)
    have F61 := F59.sb 40 (by kernel_rfl) (show (!((↑zs.length : Int) == ↑zs.length)) = false by rw [hc60]; rfl)
    have F62 := F61.sb 41 (by kernel_rfl) (show (!((↑zs.length : Int) == ↑zs.length)) = false by rw [hc60]; rfl)
    have F63 := F62.sb 42 (by kernel_rfl) (show (!((↑zs.length : Int) == ↑zs.length)) = false by rw [hc60]; rfl)
    refine op_wq F63 ?_
    refine op_q F63 (.slice B27 ys.length d27) ?_; intro a64 F64
    refine op_wq F64 ?_
    refine op_q F64 (.int .i64 (↑ys.length)) ?_; intro a65 F65
    refine op_wq F65 ?_
    refine op_q F65 (.slice B41 ys.length d41) ?_; intro a66 F66
    refine op_wq F66 ?_
    refine op_q F66 (.int .i64 (↑ys.length)) ?_; intro a67 F67
    refine op_wq F67 ?_
    refine op_q F67 (.bool (!((↑ys.length : Int) == ↑ys.length))) ?_; intro a68 F68
    refine op_q F68 (.bool (!((↑ys.length : Int) == ↑ys.length))) ?_; intro a69 F69
    refine wpList_nil ?_
    refine hK49 _ _ ?_; clear hK49 K49
    have hc70 : ((↑ys.length : Int) == ↑ys.length) = true := (beq_self_eq_true _)
    have F71 := F69.sb 47 (by kernel_rfl) (show (!((↑ys.length : Int) == ↑ys.length)) = false by rw [hc70]; rfl)
    have F72 := F71.sb 48 (by kernel_rfl) (show (!((↑ys.length : Int) == ↑ys.length)) = false by rw [hc70]; rfl)
    refine wp_cond_false (F72.ev (by kernel_rfl)) ?_
    refine wp_skip ?_
    refine hK48 _ _ ?_; clear hK48 K48
    refine wp_seq_k fun K73 hK73 => ?_
    refine wp_seq_k fun K74 hK74 => ?_
    refine wp_region_lit ?_
    refine op_q F72 (.slice A27 zs.length c27) ?_; intro a75 F75
    refine op_q F75 (.int .i64 (↑zs.length)) ?_; intro a76 F76
    refine op_q F76 (.int .i64 0) ?_; intro a77 F77
    refine wpList_nil ?_
    refine hK74 _ _ ?_; clear hK74 K74
    refine wp_block ?_
    refine fw_loop (fun m' a' w' => ∃ k : Nat, zs.length - k = m' ∧ Fr 86 [] a' [(5, .slice B27 ys.length d27), (7, .slice A41 zs.length c41), (8, .slice B41 ys.length d41), (49, .slice A27 zs.length c27), (50, .int .i64 (↑zs.length)), (51, .int .i64 (↑k))] ∧ Sp R w' (SA.own (.slice A41 zs.length c41) 9 1 zs.length (strs zs) :: SA.own (.slice B41 ys.length d41) 9 1 ys.length (strs ys) :: SA.own (.slice A27 zs.length c27) 9 1 zs.length (strs zs) :: SA.own (.slice B27 ys.length d27) 9 1 ys.length (strs ys) :: L) ∧ (k ≤ zs.length)) _ ⟨0, rfl, (F77.kk 5 (F77.kk 7 (F77.kk 8 (F77.kk 49 (F77.kk 50 (F77.kk 51 F77.nil)))))), S41.p4.drop.p4.drop.p4.drop.p3.p3.p3.p3, (by first | omega | (with_reducible assumption) | (simp; done))⟩ ?_
    rintro m78 a78 w78 ⟨k, hm78, F78, S78, hk⟩ K78 hK78
    by_cases hlt_k : k < zs.length
    · have hc_k : decide ((↑k : Int) < ↑zs.length) = true := by first | (simp; done) | (simp; omega)
      have hlt_k2 : k < zs.length := by omega
      have hlt_k3 : k < ys.length := by omega
      obtain ⟨ad79, hA79⟩ := (own_sl1 (S78.ow 2 rfl) (by first | omega | (simp; omega))).addr (by simp [strs]; omega)
      obtain ⟨ad80, hA80⟩ := (own_sl1 (S78.ow 0 rfl) (by first | omega | (simp; omega))).addr (by simp [strs]; omega)
      obtain ⟨ad81, hA81⟩ := (own_sl1 (S78.ow 3 rfl) (by first | omega | (simp; omega))).addr (by simp [strs]; omega)
      obtain ⟨ad82, hA82⟩ := (own_sl1 (S78.ow 1 rfl) (by first | omega | (simp; omega))).addr (by simp [strs]; omega)
      refine wp_seq_k fun K83 hK83 => ?_
      refine wp_region_lit ?_
      refine op_q F78 (.bool (decide ((↑k : Int) < ↑zs.length))) ?_; intro a84 F84
      have F85 := F84.sb 52 (by kernel_rfl) hc_k
      refine wpList_nil ?_
      refine hK83 _ _ ?_; clear hK83 K83
      refine wp_seq_k fun K86 hK86 => ?_
      refine wp_cond_true (F85.ev (by kernel_rfl)) ?_
      refine wp_skip ?_
      refine hK86 _ _ ?_; clear hK86 K86
      refine wp_seq_k fun K87 hK87 => ?_
      refine wp_block ?_
      refine wp_seq_k fun K88 hK88 => ?_
      refine wp_region_lit ?_
      refine op_q F85 (.int .i64 (↑k)) ?_; intro a89 F89
      refine op_rq (v := .pointer (some (ad79.add k))) F89 (r_ix rfl Try.underlying22 1 (by kernel_rfl) (F89.e (.slice A27 zs.length c27)) hA79 (F89.e (.int .i64 (↑k))) k (by first | rfl | omega | simp) (by first | omega | (simp; done) | (simp; omega)) (by simp only [Nat.mul_one])) ?_; intro a90 F90
      refine op_rq (v := .string zs[k]) F90 (r_ld rfl (F90.e (.pointer (some (ad79.add k)))) (v := .string zs[k]) ((own_sl1 (S78.ow 2 rfl) (by first | omega | (simp; omega))).elA hA79 (j := k) (by simp only [strs, List.getElem?_map, List.getElem?_eq_getElem hlt_k2]; rfl)) Try.underlying9 rfl) ?_; intro a91 F91
      refine op_q F91 (.int .i64 (↑k)) ?_; intro a92 F92
      refine op_q F92 (.string zs[k]) ?_; intro a93 F93
      refine wpList_nil ?_
      refine hK88 _ _ ?_; clear hK88 K88
      refine wp_seq_k fun K94 hK94 => ?_
      refine wp_region_sepF (L0 := SA.own (.slice A41 zs.length c41) 9 1 zs.length (strs zs) :: SA.own (.slice B41 ys.length d41) 9 1 ys.length (strs ys) :: SA.own (.slice A27 zs.length c27) 9 1 zs.length (strs zs) :: SA.own (.slice B27 ys.length d27) 9 1 ys.length (strs ys) :: L) [some [], some [], some [], some [(1, 57), (2, 58)], some [(3, 59)], some [(0, 56), (4, 60)], some [(5, 61)], some [(6, 62)], some [(6, 62)], some [(6, 62), (7, 63), (8, 64)], some [(6, 62), (9, 65)], some [(6, 62)], some [(6, 62)], some [(6, 62), (11, 67), (12, 68)], some [(6, 62), (13, 69)], some [(6, 62), (10, 66), (14, 70)], some [(6, 62), (15, 71)]] [.v 56 (.string zs[k]), .v 57 (.slice A41 zs.length c41), .v 58 (.int .i64 (↑k)), .v 59 (.pointer (some (ad80.add k))), .v 60 (.string zs[k]), .v 61 (.bool false), .v 62 (.bool false), .v 63 (.slice B27 ys.length d27), .v 64 (.int .i64 (↑k)), .v 65 (.pointer (some (ad81.add k))), .v 66 (.string ys[k]), .v 67 (.slice B41 ys.length d41), .v 68 (.int .i64 (↑k)), .v 69 (.pointer (some (ad82.add k))), .v 70 (.string ys[k]), .v 71 (.bool false), .v 72 (.bool false)] [] F93 rfl (by kernel_rfl) S78 ?_ ?_
      · refine ⟨?_, ?_, ?_, ?_, ?_, ?_, ?_, ?_, ?_, ?_, ?_, ?_, ?_, ?_, ?_, ?_, ?_, trivial⟩
        · intro w139 M139
          intro a139 F139 S139
          refine obl_of (by rfl) ?_
          exact s_p F139 (v := .string zs[k]) (by kernel_rfl) (by kernel_rfl) (by kernel_rfl) S139
        · intro w140 M140
          intro a140 F140 S140
          refine obl_of (by rfl) ?_
          exact s_p F140 (v := .slice A41 zs.length c41) (by kernel_rfl) (by kernel_rfl) (by kernel_rfl) S140
        · intro w141 M141
          intro a141 F141 S141
          refine obl_of (by rfl) ?_
          exact s_p F141 (v := .int .i64 (↑k)) (by kernel_rfl) (by kernel_rfl) (by kernel_rfl) S141
        · intro w142 M142
          intro a142 F142 S142
          refine obl_of (by rfl) ?_
          exact s_r (v := .pointer (some (ad80.add k))) (r_ix rfl Try.underlying22 1 (by kernel_rfl) (F142.e (.slice A41 zs.length c41)) hA80 (F142.e (.int .i64 (↑k))) k (by first | rfl | omega | simp) (by first | omega | (simp; done) | (simp; omega)) (by simp only [Nat.mul_one])) S142
        · intro w145 M145
          intro a145 F145 S145
          refine obl_of (by rfl) ?_
          exact s_r (v := .string zs[k]) (r_ld rfl (F145.e (.pointer (some (ad80.add k)))) (v := .string zs[k]) ((own_sl1 ((Sp.dropM S145.drop).ow 0 rfl) (by first | omega | (simp; omega))).elA hA80 (j := k) (by simp only [strs, List.getElem?_map, List.getElem?_eq_getElem hlt_k2]; rfl)) Try.underlying9 rfl) S145
        · intro w147 M147
          intro a147 F147 S147
          refine obl_of (by rfl) ?_
          have hs150 : (zs[k].toList == zs[k].toList) = true := beq_self_eq_true _
          exact s_pb F147 (b := !(zs[k].toList == zs[k].toList)) (show (!(zs[k].toList == zs[k].toList)) = false by rw [hs150]; rfl) (by kernel_rfl) (by kernel_rfl) (by kernel_rfl) S147
        · intro w151 M151
          intro a151 F151 S151
          refine obl_of (by rfl) ?_
          exact s_p F151 (v := .bool false) (by kernel_rfl) (by kernel_rfl) (by kernel_rfl) S151
        · intro w153 M153
          intro a153 F153 S153
          refine obl_yes (F153.wanted (q := true) (by kernel_rfl) (by intro t ht; injection ht with ht; subst ht; exact nble rfl)) ?_
          exact s_p F153 (v := .slice B27 ys.length d27) (by kernel_rfl) (by kernel_rfl) (by kernel_rfl) S153
        · intro w155 M155
          intro a155 F155 S155
          refine obl_yes (F155.wanted (q := true) (by kernel_rfl) (by intro t ht; injection ht with ht; subst ht; exact nble rfl)) ?_
          exact s_p F155 (v := .int .i64 (↑k)) (by kernel_rfl) (by kernel_rfl) (by kernel_rfl) S155
        · intro w157 M157
          intro a157 F157 S157
          refine obl_yes (F157.wanted (q := true) (by kernel_rfl) (by intro t ht; injection ht with ht; subst ht; exact nble rfl)) ?_
          exact s_r (v := .pointer (some (ad81.add k))) (r_ix rfl Try.underlying22 1 (by kernel_rfl) (F157.e (.slice B27 ys.length d27)) hA81 (F157.e (.int .i64 (↑k))) k (by first | rfl | omega | simp) (by first | omega | (simp; done) | (simp; omega)) (by simp only [Nat.mul_one])) S157
        · intro w161 M161
          intro a161 F161 S161
          refine obl_yes (F161.wanted (q := true) (by kernel_rfl) (by intro t ht; injection ht with ht; subst ht; exact nble rfl)) ?_
          exact s_r (v := .string ys[k]) (r_ld rfl (F161.e (.pointer (some (ad81.add k)))) (v := .string ys[k]) ((own_sl1 ((Sp.dropM S161.drop).ow 3 rfl) (by first | omega | (simp; omega))).elA hA81 (j := k) (by simp only [strs, List.getElem?_map, List.getElem?_eq_getElem hlt_k3]; rfl)) Try.underlying9 rfl) S161
        · intro w164 M164
          intro a164 F164 S164
          refine obl_yes (F164.wanted (q := true) (by kernel_rfl) (by intro t ht; injection ht with ht; subst ht; exact nble rfl)) ?_
          exact s_p F164 (v := .slice B41 ys.length d41) (by kernel_rfl) (by kernel_rfl) (by kernel_rfl) S164
        · intro w166 M166
          intro a166 F166 S166
          refine obl_yes (F166.wanted (q := true) (by kernel_rfl) (by intro t ht; injection ht with ht; subst ht; exact nble rfl)) ?_
          exact s_p F166 (v := .int .i64 (↑k)) (by kernel_rfl) (by kernel_rfl) (by kernel_rfl) S166
        · intro w168 M168
          intro a168 F168 S168
          refine obl_yes (F168.wanted (q := true) (by kernel_rfl) (by intro t ht; injection ht with ht; subst ht; exact nble rfl)) ?_
          exact s_r (v := .pointer (some (ad82.add k))) (r_ix rfl Try.underlying22 1 (by kernel_rfl) (F168.e (.slice B41 ys.length d41)) hA82 (F168.e (.int .i64 (↑k))) k (by first | rfl | omega | simp) (by first | omega | (simp; done) | (simp; omega)) (by simp only [Nat.mul_one])) S168
        · intro w172 M172
          intro a172 F172 S172
          refine obl_yes (F172.wanted (q := true) (by kernel_rfl) (by intro t ht; injection ht with ht; subst ht; exact nble rfl)) ?_
          exact s_r (v := .string ys[k]) (r_ld rfl (F172.e (.pointer (some (ad82.add k)))) (v := .string ys[k]) ((own_sl1 ((Sp.dropM S172.drop).ow 1 rfl) (by first | omega | (simp; omega))).elA hA82 (j := k) (by simp only [strs, List.getElem?_map, List.getElem?_eq_getElem hlt_k3]; rfl)) Try.underlying9 rfl) S172
        · intro w175 M175
          intro a175 F175 S175
          refine obl_yes (F175.wanted (q := true) (by kernel_rfl) (by intro t ht; injection ht with ht; subst ht; exact nble rfl)) ?_
          have hs179 : (ys[k].toList == ys[k].toList) = true := beq_self_eq_true _
          exact s_pb F175 (b := !(ys[k].toList == ys[k].toList)) (show (!(ys[k].toList == ys[k].toList)) = false by rw [hs179]; rfl) (by kernel_rfl) (by kernel_rfl) (by kernel_rfl) S175
        · intro w180 M180
          intro a180 F180 S180
          refine obl_of (by rfl) ?_
          exact s_p F180 (v := .bool false) (by kernel_rfl) (by kernel_rfl) (by kernel_rfl) S180
      · intro a184 w183 F184 S183
        have S185 : Sp R w183 (SA.own (.slice A41 zs.length c41) 9 1 zs.length (strs zs) :: SA.own (.slice B41 ys.length d41) 9 1 ys.length (strs ys) :: SA.own (.slice A27 zs.length c27) 9 1 zs.length (strs zs) :: SA.own (.slice B27 ys.length d27) 9 1 ys.length (strs ys) :: L) := S183
        refine wpList_nil ?_
        refine hK94 _ _ ?_; clear hK94 K94
        refine wp_cond_false (F184.ev (by kernel_rfl)) ?_
        refine wp_skip ?_
        refine hK87 _ _ ?_; clear hK87 K87
        refine wp_region_lit ?_
        refine op_rq (v := .int .i64 (↑(k + 1))) F184 (r_add (z := ↑(k + 1)) rfl (F184.e (.int .i64 (↑k))) (F184.e (.int .i64 1)) (wr64 (by omega) (by omega) (by omega))) ?_; intro a186 F186
        refine op_q F186 (.int .i64 (↑(k + 1))) ?_; intro a187 F187
        refine wpList_nil ?_
        exact hK78 _ _ _ (by first | omega | (simp; omega)) ⟨k + 1, rfl, (F187.kk 5 (F187.kk 7 (F187.kk 8 (F187.kk 49 (F187.kk 50 (F187.kk 51 F187.nil)))))), S185.p3.p3.p3.p3, (by first | omega | (with_reducible assumption) | (simp; done))⟩
    · have hc_k : decide ((↑k : Int) < ↑zs.length) = false := by first | (simp; done) | (simp; omega)
      obtain rfl : k = zs.length := by omega
      refine wp_seq_k fun K188 hK188 => ?_
      refine wp_region_lit ?_
      refine op_q F78 (.bool (decide ((↑zs.length : Int) < ↑zs.length))) ?_; intro a189 F189
      have F190 := F189.sb 52 (by kernel_rfl) hc_k
      refine wpList_nil ?_
      refine hK188 _ _ ?_; clear hK188 K188
      refine wp_seq_k fun K191 hK191 => ?_
      refine wp_cond_false (F190.ev (by kernel_rfl)) ?_
      refine wp_exit ?_
      refine ex_then ?_; clear hK191 K191
      refine ex_then ?_
      refine ex_in ?_
      refine hK73 _ _ ?_; clear hK73 K73
      refine wp_seq_k fun K192 hK192 => ?_
      refine wp_region_lit ?_
      refine op_q F190 (.agg #[.string ⟨#[97]⟩, .string ⟨#[]⟩, .string ⟨#[]⟩, .string ⟨#[]⟩, .string ⟨#[]⟩, .string ⟨#[]⟩, .string ⟨#[]⟩, .string ⟨#[]⟩, .string ⟨#[]⟩, .string ⟨#[]⟩, .string ⟨#[]⟩, .slice none 0 0, .slice none 0 0, .slice none 0 0, .slice none 0 0]) ?_; intro a193 F193
      refine op_q F193 (.agg #[.string ⟨#[99, 114, 100, 115, 47, 98, 46, 121, 97, 109, 108]⟩, .string ⟨#[]⟩]) ?_; intro a194 F194
      refine op_sq F194 (s_news F194 94 #[.string ⟨#[99, 114, 100, 115, 47, 98, 46, 121, 97, 109, 108]⟩, .string ⟨#[]⟩] 1 (by kernel_rfl) (by kernel_rfl) (by kernel_rfl) S78) ?_
      rintro _ _ w196 ⟨g194, rfl, rfl⟩ S196 a196 F196
      refine op_q F196 (.agg #[.bool false, .string ⟨#[97]⟩, .string ⟨#[]⟩, .string ⟨#[]⟩, .string ⟨#[]⟩, .string ⟨#[]⟩, .string ⟨#[]⟩, .string ⟨#[]⟩, .string ⟨#[]⟩, .string ⟨#[]⟩, .string ⟨#[]⟩, .string ⟨#[]⟩, .slice none 0 0, .slice none 0 0, .slice none 0 0, .slice none 0 0, .slice (some ⟨g194, 0, none⟩) 1 1, .slice none 0 0]) ?_; intro a197 F197
      refine op_cq F197 (f := 46) (args := #[.agg #[.bool false, .string ⟨#[97]⟩, .string ⟨#[]⟩, .string ⟨#[]⟩, .string ⟨#[]⟩, .string ⟨#[]⟩, .string ⟨#[]⟩, .string ⟨#[]⟩, .string ⟨#[]⟩, .string ⟨#[]⟩, .string ⟨#[]⟩, .string ⟨#[]⟩, .slice none 0 0, .slice none 0 0, .slice none 0 0, .slice none 0 0, .slice (some ⟨g194, 0, none⟩) 1 1, .slice none 0 0]]) (chartCRDs_one g194 _ _ _ S196 (fun w S => S.bk 0 rfl)) ?_
      rintro _ w198 ⟨A198, c198, B198, n198, d198, rfl, S198⟩
      refine ⟨_, rfl, ?_⟩
      intro a199 F199
      refine op_q F199 (.tuple #[.slice A198 1 c198, .slice B198 n198 d198, .int .i64 0]) ?_; intro a200 F200
      refine op_q F200 (.slice A198 1 c198) ?_; intro a201 F201
      refine op_q F201 (.slice B198 n198 d198) ?_; intro a202 F202
      refine op_q F202 (.int .i64 0) ?_; intro a203 F203
      refine op_q F203 (.slice A198 1 c198) ?_; intro a204 F204
      refine op_q F204 (.slice B198 n198 d198) ?_; intro a205 F205
      refine op_q F205 (.int .i64 0) ?_; intro a206 F206
      refine wpList_nil ?_
      refine hK192 _ _ ?_; clear hK192 K192
      refine wp_seq_k fun K207 hK207 => ?_
      refine wp_region_lit ?_
      refine op_q F206 (.slice A198 1 c198) ?_; intro a208 F208
      refine op_q F208 (.int .i64 1) ?_; intro a209 F209
      refine op_q F209 (.bool true) ?_; intro a210 F210
      refine op_q F210 (.bool true) ?_; intro a211 F211
      refine wpList_nil ?_
      refine hK207 _ _ ?_; clear hK207 K207
      refine wp_ret ?_
      refine (F211.res1 rfl (v := .bool true) (by kernel_rfl) ?_).1
      exact ⟨rfl, S198.drop.drop.drop.drop.drop⟩
  · have F212 := F10.sb 15 (by kernel_rfl) hc11
    have F213 := F212.sb 16 (by kernel_rfl) (show (!(b8)) = true by rw [hc11]; rfl)
    refine wp_cond_true (F213.ev (by kernel_rfl)) ?_
    refine wp_seq_k fun K214 hK214 => ?_
    refine wp_region_lit ?_
    refine op_q F213 (.bool true) ?_; intro a215 F215
    refine wpList_nil ?_
    refine hK214 _ _ ?_; clear hK214 K214
    refine wp_ret ?_
    refine ret_then ?_
    refine (F215.res1 rfl (v := .bool true) (by kernel_rfl) ?_).1
    exact ⟨rfl, S8.drop⟩
theorem fnChartCRDs_walk (x : Ty30) (w : World) (u0 : x.ok w) : Calls Try.prog 10 #[.agg x.cells.toArray] w fun e w' => e = .returned (.bool true) ∧ Below w.heap.size w w' := by
  exact (chartCRDsLaw_sp x _ [] w (Sp.start w) (Rf.of fun _ hb => TiAt.below hb u0)).mono fun _ _ ⟨he, hS⟩ => ⟨he, Sp.below_of hS⟩
end Go.Proofs.Ytkjcedlgljeoiaa

