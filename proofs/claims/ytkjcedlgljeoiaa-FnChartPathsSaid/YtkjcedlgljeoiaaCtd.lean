/- Texts Tr5, Tr6, Tr7, Tr8, laid together. -/
import Derived.WalkKit
import Derived.WalkLawsBesides
import Derived.WalkSpells
import Derived.Lib.Hide
import Derived.Deep.RegionWith
import Derived.Deep.DeepCutAuto
import Derived.Deep.QuietTactic
import Derived.BigQuiet
import Derived.Laws.OwnMore
import Derived.Deep.LoopGhost
import Derived.KernelRfl
import Derived.Deep.WholeRow
import Derived.StillTail
import Derived.SliceStrings
import Derived.Deep.Slices
import Derived.Deep.Fields
import Derived.ChangeSame
import Derived.Deep.MidRow
import Derived.Maps.AppendAt
import Derived.Lib.AppendStr
import Derived.Lib.ConvBytes
import Derived.Laws.BytesArg
import Derived.Deep.RegionLaw
import Derived.OwnWalk
import Derived.Maps.OwnSet
import Derived.Maps.OwnOps
import Derived.ArgAppend
import Derived.Defers
import Derived.Recover
import Derived.Laws.Pointers
import Derived.Laws.StructEq
import Derived.IntWalk
import Derived.Test.YtkjcedlgljeoiaaProg
import Derived.BigRegion
import Derived.Deep.CutBlock
import Derived.Carry
import Derived.LoopN
import Derived.Test.YtkjcedlgljeoiaaCtc
/- Where charts stand: Name, IsRoot, Root, ChartPath, ChartFullPath; impl.pathsOf, impl.ChartPaths. -/
namespace Go.Proofs.Ytkjcedlgljeoiaa
open Go.RowKit Go.Lib
set_option linter.unusedVariables false
set_option linter.unusedSimpArgs false
def mkP (n p f : ByteArray) (b : Bool) (r : ByteArray) : Ty39 := { fName := n, fPath := p, fFull := f, fIsRoot := b, fRoot := r }
def childP (p : Ty39) (n : ByteArray) : Ty39 := mkP n (p.fPath ++ (⟨#[46]⟩ : ByteArray) ++ n) (p.fFull ++ (⟨#[47, 99, 104, 97, 114, 116, 115, 47]⟩ : ByteArray) ++ n) false p.fRoot
def rootP (n : ByteArray) : Ty39 := mkP n n n true n
def Pt.n : Pt → ByteArray | mk n _ _ => n
def Pt.fs : Pt → List ByteArray | mk _ l _ => l
def Pt.kids : Pt → List Pt | mk _ _ l => l
/-- Where the charts of a tree stand. -/
def specP : Nat → Ty39 → Pt → List Ty39
  | 0 => fun p _ => [p]
  | m + 1 => fun p t => p :: t.kids.flatMap fun d => specP m (childP p d.n) d
def Pt.cnt : Nat → Pt → Nat
  | 0 => fun _ => 1
  | m + 1 => fun t => 1 + (t.kids.map (Pt.cnt m)).sum
theorem specP_len : ∀ (m : Nat) (p : Ty39) (t : Pt), (specP m p t).length = Pt.cnt m t
  | 0, _, _ => rfl
  | m + 1, p, t => by
    show (p :: t.kids.flatMap fun d => specP m (childP p d.n) d).length = 1 + _
    rw [List.length_cons, List.length_flatMap]
    have : (fun d : Pt => (specP m (childP p d.n) d).length) = Pt.cnt m := by funext d; exact specP_len m _ d
    rw [this]; omega
theorem Ob.pl_n (m : Nat) (o : Ob) : (Ob.pl m o).n = o.n := by cases m <;> rfl
theorem Tr.pl_n (m : Nat) (t : Tr) : (Tr.pl m t).n = t.n := by cases m <;> rfl
theorem pl_cnt : ∀ (m : Nat) (t : Tr), Pt.cnt m (Tr.pl m t) = Tr.cnt m t
  | 0, _ => rfl
  | m + 1, t => by
    show 1 + ((t.kids.map (Tr.pl m)).map (Pt.cnt m)).sum = 1 + (t.kids.map (Tr.cnt m)).sum
    rw [List.map_map]
    have : Pt.cnt m ∘ Tr.pl m = Tr.cnt m := by funext d; exact pl_cnt m d
    rw [this]
/-- A chart and those above it. -/
def ChnAt (w : World) : List Ob → Prop
  | [] => False
  | [a] => Blk w a.g 245 #[.slice none 0 0, .pointer (some ⟨a.gm, 0, none⟩), .slice none 0 0, .map none, .slice none 0 0, .slice a.fA a.ps.length a.fc, .pointer none, .slice a.dA a.kids.length a.dc] ∧ w.cell? ⟨a.gm, 0, none⟩ = some (.string a.n)
  | a :: b :: l => Blk w a.g 245 #[.slice none 0 0, .pointer (some ⟨a.gm, 0, none⟩), .slice none 0 0, .map none, .slice none 0 0, .slice a.fA a.ps.length a.fc, .pointer (some ⟨b.g, 0, none⟩), .slice a.dA a.kids.length a.dc] ∧ w.cell? ⟨a.gm, 0, none⟩ = some (.string a.n) ∧ ChnAt w (b :: l)
def pathOf : List Ob → Ty39
  | [] => rootP ⟨#[]⟩
  | [a] => rootP a.n
  | a :: b :: l => childP (pathOf (b :: l)) a.n
def lastO : Ob → List Ob → Ob
  | a, [] => a
  | _, b :: l => lastO b l
def ChOk (l : List Ob) : Prop := l.length ≤ 20 ∧ ∀ o ∈ l, o.n.size ≤ 8
theorem ChOk.tail {a : Ob} {l : List Ob} (h : ChOk (a :: l)) : ChOk l := ⟨by have := h.1; simp at this; omega, fun o ho => h.2 o (List.mem_cons_of_mem _ ho)⟩
theorem path_sz : ∀ (l : List Ob), ChOk l → (pathOf l).fPath.size ≤ 9 * l.length + 8 ∧ (pathOf l).fFull.size ≤ 16 * l.length + 8
  | [], _ => ⟨by decide, by decide⟩
  | [a], h => by have := h.2 a (List.mem_cons_self ..); exact ⟨by show a.n.size ≤ _; omega, by show a.n.size ≤ _; omega⟩
  | a :: b :: l, h => by
    have h1 := h.2 a (List.mem_cons_self ..)
    obtain ⟨h2, h3⟩ := path_sz (b :: l) h.tail
    have e0 : (⟨#[46]⟩ : ByteArray).size = 1 := rfl
    have e1 : (⟨#[47, 99, 104, 97, 114, 116, 115, 47]⟩ : ByteArray).size = 8 := rfl
    constructor
    · show ((pathOf (b :: l)).fPath ++ (⟨#[46]⟩ : ByteArray) ++ a.n).size ≤ _
      rw [ByteArray.size_append, ByteArray.size_append, e0]; simp only [List.length_cons] at *; omega
    · show ((pathOf (b :: l)).fFull ++ (⟨#[47, 99, 104, 97, 114, 116, 115, 47]⟩ : ByteArray) ++ a.n).size ≤ _
      rw [ByteArray.size_append, ByteArray.size_append, e1]; simp only [List.length_cons] at *; omega
theorem chn_last {w : World} : ∀ (l : List Ob) (a : Ob), ChnAt w (a :: l) → Blk w (lastO a l).g 245 #[.slice none 0 0, .pointer (some ⟨(lastO a l).gm, 0, none⟩), .slice none 0 0, .map none, .slice none 0 0, .slice ((lastO a l).fA) ((lastO a l).ps.length) ((lastO a l).fc), .pointer none, .slice ((lastO a l).dA) ((lastO a l).kids.length) ((lastO a l).dc)] ∧ w.cell? ⟨(lastO a l).gm, 0, none⟩ = some (.string (lastO a l).n)
  | [], _, h => h
  | b :: l, _, h => chn_last l b h.2.2
theorem path_root : ∀ (l : List Ob) (a : Ob), (pathOf (a :: l)).fRoot = (lastO a l).n
  | [], _ => rfl
  | b :: l, a => path_root l b
/-- The parent's address. -/
def parO : List Ob → Option Addr
  | [] => none
  | b :: _ => some ⟨b.g, 0, none⟩
theorem chn_top {w : World} {a : Ob} {l : List Ob} (h : ChnAt w (a :: l)) : Blk w a.g 245 #[.slice none 0 0, .pointer (some ⟨a.gm, 0, none⟩), .slice none 0 0, .map none, .slice none 0 0, .slice a.fA a.ps.length a.fc, .pointer (parO l), .slice a.dA a.kids.length a.dc] ∧ w.cell? ⟨a.gm, 0, none⟩ = some (.string a.n) := by
  cases l with
  | nil => exact h
  | cons b l => exact ⟨h.1, h.2.1⟩
set_option maxRecDepth 100000 in
set_option maxHeartbeats 20000000 in
theorem isRoot_n (g : Nat) (v0 : Value) (v1 : Value) (v2 : Value) (v3 : Value) (v4 : Value) (v5 : Value) (v7 : Value) (R : Ctx) (L : List SA) (w : World) (S : Sp R w (L)) (h0 : Rf R L fun w => Blk w (g) 245 #[v0, v1, v2, v3, v4, v5, .pointer none, v7])  :
    Calls Try.prog 130 #[.pointer (some ⟨g, 0, none⟩)] w fun e w' => e = .returned (.bool true) ∧ Sp R w' (L) := by
  refine fw_enter (fn := Try.f130) rfl rfl 8 rfl (Nat.le_of_ble_eq_true rfl) ?_
  intro a0 F0
  refine wp_seq_k fun K1 hK1 => ?_
  refine wp_region_lit ?_
  refine op_q F0 (.bool false) ?_; intro a2 F2
  refine wpList_nil ?_
  refine hK1 _ _ ?_; clear hK1 K1
  refine wp_seq_k fun K3 hK3 => ?_
  refine wp_region_lit ?_
  refine op_q F2 (.pointer (some ⟨g, 0, none⟩)) ?_; intro a4 F4
  refine op_q F4 (.pointer (some ⟨g, 0, none⟩)) ?_; intro a5 F5
  refine op_q F5 (.pointer (some ⟨g, 6, none⟩)) ?_; intro a6 F6
  refine op_rq (v := .pointer none) F6 (r_ld rfl (F6.e (.pointer (some ⟨g, 6, none⟩))) (v := .pointer none) ((h0 _ S).cell 6) Try.underlying125 rfl) ?_; intro a7 F7
  refine op_q F7 (.bool true) ?_; intro a8 F8
  refine op_q F8 (.bool true) ?_; intro a9 F9
  refine wpList_nil ?_
  refine hK3 _ _ ?_; clear hK3 K3
  refine wp_ret ?_
  refine (F9.res1 rfl (v := .bool true) (by kernel_rfl) ?_).1
  exact ⟨rfl, S⟩
set_option maxRecDepth 100000 in
set_option maxHeartbeats 20000000 in
theorem isRoot_s (g : Nat) (gp : Nat) (v0 : Value) (v1 : Value) (v2 : Value) (v3 : Value) (v4 : Value) (v5 : Value) (v7 : Value) (R : Ctx) (L : List SA) (w : World) (S : Sp R w (L)) (h0 : Rf R L fun w => Blk w (g) 245 #[v0, v1, v2, v3, v4, v5, .pointer (some ⟨gp, 0, none⟩), v7])  :
    Calls Try.prog 130 #[.pointer (some ⟨g, 0, none⟩)] w fun e w' => e = .returned (.bool false) ∧ Sp R w' (L) := by
  refine fw_enter (fn := Try.f130) rfl rfl 8 rfl (Nat.le_of_ble_eq_true rfl) ?_
  intro a0 F0
  refine wp_seq_k fun K1 hK1 => ?_
  refine wp_region_lit ?_
  refine op_q F0 (.bool false) ?_; intro a2 F2
  refine wpList_nil ?_
  refine hK1 _ _ ?_; clear hK1 K1
  refine wp_seq_k fun K3 hK3 => ?_
  refine wp_region_lit ?_
  refine op_q F2 (.pointer (some ⟨g, 0, none⟩)) ?_; intro a4 F4
  refine op_q F4 (.pointer (some ⟨g, 0, none⟩)) ?_; intro a5 F5
  refine op_q F5 (.pointer (some ⟨g, 6, none⟩)) ?_; intro a6 F6
  refine op_rq (v := .pointer (some ⟨gp, 0, none⟩)) F6 (r_ld rfl (F6.e (.pointer (some ⟨g, 6, none⟩))) (v := .pointer (some ⟨gp, 0, none⟩)) ((h0 _ S).cell 6) Try.underlying125 rfl) ?_; intro a7 F7
  refine op_q F7 (.bool false) ?_; intro a8 F8
  refine op_q F8 (.bool false) ?_; intro a9 F9
  refine wpList_nil ?_
  refine hK3 _ _ ?_; clear hK3 K3
  refine wp_ret ?_
  refine (F9.res1 rfl (v := .bool false) (by kernel_rfl) ?_).1
  exact ⟨rfl, S⟩
set_option maxRecDepth 100000 in
set_option maxHeartbeats 20000000 in
theorem parent_s (g : Nat) (gp : Nat) (v0 : Value) (v1 : Value) (v2 : Value) (v3 : Value) (v4 : Value) (v5 : Value) (v7 : Value) (R : Ctx) (L : List SA) (w : World) (S : Sp R w (L)) (h0 : Rf R L fun w => Blk w (g) 245 #[v0, v1, v2, v3, v4, v5, .pointer (some ⟨gp, 0, none⟩), v7])  :
    Calls Try.prog 186 #[.pointer (some ⟨g, 0, none⟩)] w fun e w' => e = .returned (.pointer (some ⟨gp, 0, none⟩)) ∧ Sp R w' (L) := by
  refine fw_enter (fn := Try.f186) rfl rfl 7 rfl (Nat.le_of_ble_eq_true rfl) ?_
  intro a0 F0
  refine wp_seq_k fun K1 hK1 => ?_
  refine wp_region_lit ?_
  refine op_q F0 (.pointer none) ?_; intro a2 F2
  refine wpList_nil ?_
  refine hK1 _ _ ?_; clear hK1 K1
  refine wp_seq_k fun K3 hK3 => ?_
  refine wp_region_lit ?_
  refine op_q F2 (.pointer (some ⟨g, 0, none⟩)) ?_; intro a4 F4
  refine op_q F4 (.pointer (some ⟨g, 0, none⟩)) ?_; intro a5 F5
  refine op_q F5 (.pointer (some ⟨g, 6, none⟩)) ?_; intro a6 F6
  refine op_rq (v := .pointer (some ⟨gp, 0, none⟩)) F6 (r_ld rfl (F6.e (.pointer (some ⟨g, 6, none⟩))) (v := .pointer (some ⟨gp, 0, none⟩)) ((h0 _ S).cell 6) Try.underlying125 rfl) ?_; intro a7 F7
  refine op_q F7 (.pointer (some ⟨gp, 0, none⟩)) ?_; intro a8 F8
  refine wpList_nil ?_
  refine hK3 _ _ ?_; clear hK3 K3
  refine wp_ret ?_
  refine (F8.res1 rfl (v := .pointer (some ⟨gp, 0, none⟩)) (by kernel_rfl) ?_).1
  exact ⟨rfl, S⟩
set_option maxRecDepth 100000 in
set_option maxHeartbeats 20000000 in
theorem name_sp (g : Nat) (gm : Nat) (n : ByteArray) (v0 : Value) (v2 : Value) (v3 : Value) (v4 : Value) (v5 : Value) (v6 : Value) (v7 : Value) (R : Ctx) (L : List SA) (w : World) (S : Sp R w (L)) (h0 : Rf R L fun w => Blk w (g) 245 #[v0, .pointer (some ⟨gm, 0, none⟩), v2, v3, v4, v5, v6, v7]) (h1 : Rf R L fun w => (w).cell? ⟨gm, 0, none⟩ = some (.string n))  :
    Calls Try.prog 127 #[.pointer (some ⟨g, 0, none⟩)] w fun e w' => e = .returned (.string n) ∧ Sp R w' (L) := by
  refine fw_enter (fn := Try.f127) rfl rfl 15 rfl (Nat.le_of_ble_eq_true rfl) ?_
  intro a0 F0
  refine wp_seq_k fun K1 hK1 => ?_
  refine wp_region_lit ?_
  refine op_q F0 (.string ⟨#[]⟩) ?_; intro a2 F2
  refine wpList_nil ?_
  refine hK1 _ _ ?_; clear hK1 K1
  refine wp_seq_k fun K3 hK3 => ?_
  refine wp_seq_k fun K4 hK4 => ?_
  refine wp_region_lit ?_
  refine op_q F2 (.pointer (some ⟨g, 0, none⟩)) ?_; intro a5 F5
  refine op_q F5 (.pointer (some ⟨g, 0, none⟩)) ?_; intro a6 F6
  refine op_q F6 (.pointer (some ⟨g, 1, none⟩)) ?_; intro a7 F7
  refine op_rq (v := .pointer (some ⟨gm, 0, none⟩)) F7 (r_ld rfl (F7.e (.pointer (some ⟨g, 1, none⟩))) (v := .pointer (some ⟨gm, 0, none⟩)) ((h0 _ S).cell 1) Try.underlying163 rfl) ?_; intro a8 F8
  refine op_q F8 (.bool false) ?_; intro a9 F9
  refine wpList_nil ?_
  refine hK4 _ _ ?_; clear hK4 K4
  refine wp_cond_false (F9.ev (by kernel_rfl)) ?_
  refine wp_skip ?_
  refine hK3 _ _ ?_; clear hK3 K3
  refine wp_seq_k fun K10 hK10 => ?_
  refine wp_region_lit ?_
  refine op_q F9 (.pointer (some ⟨g, 0, none⟩)) ?_; intro a11 F11
  refine op_q F11 (.pointer (some ⟨g, 0, none⟩)) ?_; intro a12 F12
  refine op_q F12 (.pointer (some ⟨g, 1, none⟩)) ?_; intro a13 F13
  refine op_rq (v := .pointer (some ⟨gm, 0, none⟩)) F13 (r_ld rfl (F13.e (.pointer (some ⟨g, 1, none⟩))) (v := .pointer (some ⟨gm, 0, none⟩)) ((h0 _ S).cell 1) Try.underlying163 rfl) ?_; intro a14 F14
  refine op_q F14 (.pointer (some ⟨gm, 0, none⟩)) ?_; intro a15 F15
  refine op_q F15 (.pointer (some ⟨gm, 0, none⟩)) ?_; intro a16 F16
  refine op_rq (v := .string n) F16 (r_ld rfl (F16.e (.pointer (some ⟨gm, 0, none⟩))) (v := .string n) (h1 _ S) Try.underlying9 rfl) ?_; intro a17 F17
  refine op_q F17 (.string n) ?_; intro a18 F18
  refine wpList_nil ?_
  refine hK10 _ _ ?_; clear hK10 K10
  refine wp_ret ?_
  refine (F18.res1 rfl (v := .string n) (by kernel_rfl) ?_).1
  exact ⟨rfl, S⟩
abbrev cPathC (a : Ob) (l : List Ob) : Prop := ∀ (R : Ctx) (L : List SA) (w : World) (S : Sp R w (L)) (h0 : Rf R L fun w => ChnAt w (a :: l)) (hs : ChOk (a :: l)), Calls Try.prog 128 #[.pointer (some ⟨a.g, 0, none⟩)] w fun e w' => e = .returned (.string ((pathOf (a :: l)).fPath)) ∧ Sp R w' (L)
set_option maxRecDepth 100000 in
set_option maxHeartbeats 20000000 in
theorem cPath_1 (a : Ob) (R : Ctx) (L : List SA) (w : World) (S : Sp R w (L)) (h0 : Rf R L fun w => ChnAt w ([a])) (hs : ChOk ([a])) :
    Calls Try.prog 128 #[.pointer (some ⟨a.g, 0, none⟩)] w fun e w' => e = .returned (.string ((pathOf ([a])).fPath)) ∧ Sp R w' (L) := by
  have hB : Rf R L fun w => Blk w a.g 245 #[.slice none 0 0, .pointer (some ⟨a.gm, 0, none⟩), .slice none 0 0, .map none, .slice none 0 0, .slice a.fA a.ps.length a.fc, .pointer none, .slice a.dA a.kids.length a.dc] := fun w S => (h0 w S).1
  have hN : Rf R L fun w => w.cell? ⟨a.gm, 0, none⟩ = some (.string a.n) := fun w S => (h0 w S).2
  have hs0 := hs.2 a (List.mem_cons_self ..)
  refine fw_enter (fn := Try.f128) rfl rfl 15 rfl (Nat.le_of_ble_eq_true rfl) ?_
  intro a0 F0
  refine wp_seq_k fun K1 hK1 => ?_
  refine wp_region_lit ?_
  refine op_q F0 (.string ⟨#[]⟩) ?_; intro a2 F2
  refine wpList_nil ?_
  refine hK1 _ _ ?_; clear hK1 K1
  refine wp_seq_k fun K3 hK3 => ?_
  refine wp_seq_k fun K4 hK4 => ?_
  refine wp_region_lit ?_
  refine op_q F2 (.pointer (some ⟨a.g, 0, none⟩)) ?_; intro a5 F5
  refine op_cq F5 (f := 130) (args := #[.pointer (some ⟨a.g, 0, none⟩)]) (isRoot_n a.g (.slice none 0 0) (.pointer (some ⟨a.gm, 0, none⟩)) (.slice none 0 0) (.map none) (.slice none 0 0) (.slice a.fA a.ps.length a.fc) (.slice a.dA a.kids.length a.dc) _ _ _ S hB) ?_
  rintro _ w6 ⟨rfl, S6⟩
  refine ⟨_, rfl, ?_⟩
  intro a7 F7
  refine op_q F7 (.bool false) ?_; intro a8 F8
  refine wpList_nil ?_
  refine hK4 _ _ ?_; clear hK4 K4
  refine wp_cond_false (F8.ev (by kernel_rfl)) ?_
  refine wp_skip ?_
  refine hK3 _ _ ?_; clear hK3 K3
  refine wp_seq_k fun K9 hK9 => ?_
  refine wp_region_lit ?_
  refine op_q F8 (.pointer (some ⟨a.g, 0, none⟩)) ?_; intro a10 F10
  refine op_cq F10 (f := 127) (args := #[.pointer (some ⟨a.g, 0, none⟩)]) (name_sp a.g a.gm a.n (.slice none 0 0) (.slice none 0 0) (.map none) (.slice none 0 0) (.slice a.fA a.ps.length a.fc) (.pointer none) (.slice a.dA a.kids.length a.dc) _ _ _ S6 hB hN) ?_
  rintro _ w11 ⟨rfl, S11⟩
  refine ⟨_, rfl, ?_⟩
  intro a12 F12
  refine op_q F12 (.string a.n) ?_; intro a13 F13
  refine wpList_nil ?_
  refine hK9 _ _ ?_; clear hK9 K9
  refine wp_ret ?_
  refine (F13.res1 rfl (v := .string a.n) (by kernel_rfl) ?_).1
  exact ⟨rfl, S11⟩
set_option maxRecDepth 100000 in
set_option maxHeartbeats 20000000 in
theorem cPath_S (a : Ob) (b : Ob) (l : List Ob) (R : Ctx) (L : List SA) (w : World) (S : Sp R w (L)) (h0 : Rf R L fun w => ChnAt w (a :: b :: l)) (ih : cPathC b l) (hs : ChOk (a :: b :: l)) :
    Calls Try.prog 128 #[.pointer (some ⟨a.g, 0, none⟩)] w fun e w' => e = .returned (.string ((pathOf (a :: b :: l)).fPath)) ∧ Sp R w' (L) := by
  have hB : Rf R L fun w => Blk w a.g 245 #[.slice none 0 0, .pointer (some ⟨a.gm, 0, none⟩), .slice none 0 0, .map none, .slice none 0 0, .slice a.fA a.ps.length a.fc, .pointer (some ⟨b.g, 0, none⟩), .slice a.dA a.kids.length a.dc] := fun w S => (h0 w S).1
  have hN : Rf R L fun w => w.cell? ⟨a.gm, 0, none⟩ = some (.string a.n) := fun w S => (h0 w S).2.1
  have hI : Rf R L fun w => ChnAt w (b :: l) := fun w S => (h0 w S).2.2
  have hs0 := hs.2 a (List.mem_cons_self ..)
  have hsz := path_sz (b :: l) hs.tail
  have hln := hs.tail.1
  refine fw_enter (fn := Try.f128) rfl rfl 15 rfl (Nat.le_of_ble_eq_true rfl) ?_
  intro a0 F0
  refine wp_seq_k fun K1 hK1 => ?_
  refine wp_region_lit ?_
  refine op_q F0 (.string ⟨#[]⟩) ?_; intro a2 F2
  refine wpList_nil ?_
  refine hK1 _ _ ?_; clear hK1 K1
  refine wp_seq_k fun K3 hK3 => ?_
  refine wp_seq_k fun K4 hK4 => ?_
  refine wp_region_lit ?_
  refine op_q F2 (.pointer (some ⟨a.g, 0, none⟩)) ?_; intro a5 F5
  refine op_cq F5 (f := 130) (args := #[.pointer (some ⟨a.g, 0, none⟩)]) (isRoot_s a.g b.g (.slice none 0 0) (.pointer (some ⟨a.gm, 0, none⟩)) (.slice none 0 0) (.map none) (.slice none 0 0) (.slice a.fA a.ps.length a.fc) (.slice a.dA a.kids.length a.dc) _ _ _ S hB) ?_
  rintro _ w6 ⟨rfl, S6⟩
  refine ⟨_, rfl, ?_⟩
  intro a7 F7
  refine op_q F7 (.bool true) ?_; intro a8 F8
  refine wpList_nil ?_
  refine hK4 _ _ ?_; clear hK4 K4
  refine wp_cond_true (F8.ev (by kernel_rfl)) ?_
  refine wp_seq_k fun K9 hK9 => ?_
  refine wp_region_lit ?_
  refine op_q F8 (.pointer (some ⟨a.g, 0, none⟩)) ?_; intro a10 F10
  refine op_cq F10 (f := 186) (args := #[.pointer (some ⟨a.g, 0, none⟩)]) (parent_s a.g b.g (.slice none 0 0) (.pointer (some ⟨a.gm, 0, none⟩)) (.slice none 0 0) (.map none) (.slice none 0 0) (.slice a.fA a.ps.length a.fc) (.slice a.dA a.kids.length a.dc) _ _ _ S6 hB) ?_
  rintro _ w11 ⟨rfl, S11⟩
  refine ⟨_, rfl, ?_⟩
  intro a12 F12
  refine op_cq F12 (f := 128) (args := #[.pointer (some ⟨b.g, 0, none⟩)]) (ih  _ _ _ S11 hI hs.tail) ?_
  rintro _ w13 ⟨rfl, S13⟩
  refine ⟨_, rfl, ?_⟩
  intro a14 F14
  refine op_rq (v := .string (((pathOf (b :: l)).fPath) ++ (⟨#[46]⟩ : ByteArray))) F14 (r_sadd rfl (F14.e (.string ((pathOf (b :: l)).fPath))) (F14.e (.string ⟨#[46]⟩)) (by show ((pathOf (b :: l)).fPath).size + 1 ≤ 9223372036854775807; have e0 : (⟨#[46]⟩ : ByteArray).size = 1 := rfl; have e1 : (⟨#[47, 99, 104, 97, 114, 116, 115, 47]⟩ : ByteArray).size = 8 := rfl; (try simp only [ByteArray.size_append, e0, e1]); omega)) ?_; intro a15 F15
  refine op_q F15 (.pointer (some ⟨a.g, 0, none⟩)) ?_; intro a16 F16
  refine op_cq F16 (f := 127) (args := #[.pointer (some ⟨a.g, 0, none⟩)]) (name_sp a.g a.gm a.n (.slice none 0 0) (.slice none 0 0) (.map none) (.slice none 0 0) (.slice a.fA a.ps.length a.fc) (.pointer (some ⟨b.g, 0, none⟩)) (.slice a.dA a.kids.length a.dc) _ _ _ S13 hB hN) ?_
  rintro _ w17 ⟨rfl, S17⟩
  refine ⟨_, rfl, ?_⟩
  intro a18 F18
  refine op_rq (v := .string ((((pathOf (b :: l)).fPath) ++ (⟨#[46]⟩ : ByteArray)) ++ a.n)) F18 (r_sadd rfl (F18.e (.string (((pathOf (b :: l)).fPath) ++ (⟨#[46]⟩ : ByteArray)))) (F18.e (.string a.n)) (by show (((pathOf (b :: l)).fPath) ++ (⟨#[46]⟩ : ByteArray)).size + a.n.size ≤ 9223372036854775807; have e0 : (⟨#[46]⟩ : ByteArray).size = 1 := rfl; have e1 : (⟨#[47, 99, 104, 97, 114, 116, 115, 47]⟩ : ByteArray).size = 8 := rfl; (try simp only [ByteArray.size_append, e0, e1]); omega)) ?_; intro a19 F19
  refine op_q F19 (.string ((((pathOf (b :: l)).fPath) ++ (⟨#[46]⟩ : ByteArray)) ++ a.n)) ?_; intro a20 F20
  refine wpList_nil ?_
  refine hK9 _ _ ?_; clear hK9 K9
  refine wp_ret ?_
  refine ret_then ?_
  refine (F20.res1 rfl (v := .string ((((pathOf (b :: l)).fPath) ++ (⟨#[46]⟩ : ByteArray)) ++ a.n)) (by kernel_rfl) ?_).1
  exact ⟨rfl, S17⟩
theorem cPath_sp : ∀ (l : List Ob) (a : Ob), cPathC a l
  | [], a => fun R L w S h0 hs => cPath_1 a R L w S h0 hs
  | b :: l, a => fun R L w S h0 hs => cPath_S a b l R L w S h0 (cPath_sp l b) hs
theorem cPath_gp (a : Ob) (l : List Ob) : cPathC a l := cPath_sp l a
abbrev cFullC (a : Ob) (l : List Ob) : Prop := ∀ (R : Ctx) (L : List SA) (w : World) (S : Sp R w (L)) (h0 : Rf R L fun w => ChnAt w (a :: l)) (hs : ChOk (a :: l)), Calls Try.prog 129 #[.pointer (some ⟨a.g, 0, none⟩)] w fun e w' => e = .returned (.string ((pathOf (a :: l)).fFull)) ∧ Sp R w' (L)
set_option maxRecDepth 100000 in
set_option maxHeartbeats 20000000 in
theorem cFull_1 (a : Ob) (R : Ctx) (L : List SA) (w : World) (S : Sp R w (L)) (h0 : Rf R L fun w => ChnAt w ([a])) (hs : ChOk ([a])) :
    Calls Try.prog 129 #[.pointer (some ⟨a.g, 0, none⟩)] w fun e w' => e = .returned (.string ((pathOf ([a])).fFull)) ∧ Sp R w' (L) := by
  have hB : Rf R L fun w => Blk w a.g 245 #[.slice none 0 0, .pointer (some ⟨a.gm, 0, none⟩), .slice none 0 0, .map none, .slice none 0 0, .slice a.fA a.ps.length a.fc, .pointer none, .slice a.dA a.kids.length a.dc] := fun w S => (h0 w S).1
  have hN : Rf R L fun w => w.cell? ⟨a.gm, 0, none⟩ = some (.string a.n) := fun w S => (h0 w S).2
  have hs0 := hs.2 a (List.mem_cons_self ..)
  refine fw_enter (fn := Try.f129) rfl rfl 15 rfl (Nat.le_of_ble_eq_true rfl) ?_
  intro a0 F0
  refine wp_seq_k fun K1 hK1 => ?_
  refine wp_region_lit ?_
  refine op_q F0 (.string ⟨#[]⟩) ?_; intro a2 F2
  refine wpList_nil ?_
  refine hK1 _ _ ?_; clear hK1 K1
  refine wp_seq_k fun K3 hK3 => ?_
  refine wp_seq_k fun K4 hK4 => ?_
  refine wp_region_lit ?_
  refine op_q F2 (.pointer (some ⟨a.g, 0, none⟩)) ?_; intro a5 F5
  refine op_cq F5 (f := 130) (args := #[.pointer (some ⟨a.g, 0, none⟩)]) (isRoot_n a.g (.slice none 0 0) (.pointer (some ⟨a.gm, 0, none⟩)) (.slice none 0 0) (.map none) (.slice none 0 0) (.slice a.fA a.ps.length a.fc) (.slice a.dA a.kids.length a.dc) _ _ _ S hB) ?_
  rintro _ w6 ⟨rfl, S6⟩
  refine ⟨_, rfl, ?_⟩
  intro a7 F7
  refine op_q F7 (.bool false) ?_; intro a8 F8
  refine wpList_nil ?_
  refine hK4 _ _ ?_; clear hK4 K4
  refine wp_cond_false (F8.ev (by kernel_rfl)) ?_
  refine wp_skip ?_
  refine hK3 _ _ ?_; clear hK3 K3
  refine wp_seq_k fun K9 hK9 => ?_
  refine wp_region_lit ?_
  refine op_q F8 (.pointer (some ⟨a.g, 0, none⟩)) ?_; intro a10 F10
  refine op_cq F10 (f := 127) (args := #[.pointer (some ⟨a.g, 0, none⟩)]) (name_sp a.g a.gm a.n (.slice none 0 0) (.slice none 0 0) (.map none) (.slice none 0 0) (.slice a.fA a.ps.length a.fc) (.pointer none) (.slice a.dA a.kids.length a.dc) _ _ _ S6 hB hN) ?_
  rintro _ w11 ⟨rfl, S11⟩
  refine ⟨_, rfl, ?_⟩
  intro a12 F12
  refine op_q F12 (.string a.n) ?_; intro a13 F13
  refine wpList_nil ?_
  refine hK9 _ _ ?_; clear hK9 K9
  refine wp_ret ?_
  refine (F13.res1 rfl (v := .string a.n) (by kernel_rfl) ?_).1
  exact ⟨rfl, S11⟩
set_option maxRecDepth 100000 in
set_option maxHeartbeats 20000000 in
theorem cFull_S (a : Ob) (b : Ob) (l : List Ob) (R : Ctx) (L : List SA) (w : World) (S : Sp R w (L)) (h0 : Rf R L fun w => ChnAt w (a :: b :: l)) (ih : cFullC b l) (hs : ChOk (a :: b :: l)) :
    Calls Try.prog 129 #[.pointer (some ⟨a.g, 0, none⟩)] w fun e w' => e = .returned (.string ((pathOf (a :: b :: l)).fFull)) ∧ Sp R w' (L) := by
  have hB : Rf R L fun w => Blk w a.g 245 #[.slice none 0 0, .pointer (some ⟨a.gm, 0, none⟩), .slice none 0 0, .map none, .slice none 0 0, .slice a.fA a.ps.length a.fc, .pointer (some ⟨b.g, 0, none⟩), .slice a.dA a.kids.length a.dc] := fun w S => (h0 w S).1
  have hN : Rf R L fun w => w.cell? ⟨a.gm, 0, none⟩ = some (.string a.n) := fun w S => (h0 w S).2.1
  have hI : Rf R L fun w => ChnAt w (b :: l) := fun w S => (h0 w S).2.2
  have hs0 := hs.2 a (List.mem_cons_self ..)
  have hsz := path_sz (b :: l) hs.tail
  have hln := hs.tail.1
  refine fw_enter (fn := Try.f129) rfl rfl 15 rfl (Nat.le_of_ble_eq_true rfl) ?_
  intro a0 F0
  refine wp_seq_k fun K1 hK1 => ?_
  refine wp_region_lit ?_
  refine op_q F0 (.string ⟨#[]⟩) ?_; intro a2 F2
  refine wpList_nil ?_
  refine hK1 _ _ ?_; clear hK1 K1
  refine wp_seq_k fun K3 hK3 => ?_
  refine wp_seq_k fun K4 hK4 => ?_
  refine wp_region_lit ?_
  refine op_q F2 (.pointer (some ⟨a.g, 0, none⟩)) ?_; intro a5 F5
  refine op_cq F5 (f := 130) (args := #[.pointer (some ⟨a.g, 0, none⟩)]) (isRoot_s a.g b.g (.slice none 0 0) (.pointer (some ⟨a.gm, 0, none⟩)) (.slice none 0 0) (.map none) (.slice none 0 0) (.slice a.fA a.ps.length a.fc) (.slice a.dA a.kids.length a.dc) _ _ _ S hB) ?_
  rintro _ w6 ⟨rfl, S6⟩
  refine ⟨_, rfl, ?_⟩
  intro a7 F7
  refine op_q F7 (.bool true) ?_; intro a8 F8
  refine wpList_nil ?_
  refine hK4 _ _ ?_; clear hK4 K4
  refine wp_cond_true (F8.ev (by kernel_rfl)) ?_
  refine wp_seq_k fun K9 hK9 => ?_
  refine wp_region_lit ?_
  refine op_q F8 (.pointer (some ⟨a.g, 0, none⟩)) ?_; intro a10 F10
  refine op_cq F10 (f := 186) (args := #[.pointer (some ⟨a.g, 0, none⟩)]) (parent_s a.g b.g (.slice none 0 0) (.pointer (some ⟨a.gm, 0, none⟩)) (.slice none 0 0) (.map none) (.slice none 0 0) (.slice a.fA a.ps.length a.fc) (.slice a.dA a.kids.length a.dc) _ _ _ S6 hB) ?_
  rintro _ w11 ⟨rfl, S11⟩
  refine ⟨_, rfl, ?_⟩
  intro a12 F12
  refine op_cq F12 (f := 129) (args := #[.pointer (some ⟨b.g, 0, none⟩)]) (ih  _ _ _ S11 hI hs.tail) ?_
  rintro _ w13 ⟨rfl, S13⟩
  refine ⟨_, rfl, ?_⟩
  intro a14 F14
  refine op_rq (v := .string (((pathOf (b :: l)).fFull) ++ (⟨#[47, 99, 104, 97, 114, 116, 115, 47]⟩ : ByteArray))) F14 (r_sadd rfl (F14.e (.string ((pathOf (b :: l)).fFull))) (F14.e (.string ⟨#[47, 99, 104, 97, 114, 116, 115, 47]⟩)) (by show ((pathOf (b :: l)).fFull).size + 8 ≤ 9223372036854775807; have e0 : (⟨#[46]⟩ : ByteArray).size = 1 := rfl; have e1 : (⟨#[47, 99, 104, 97, 114, 116, 115, 47]⟩ : ByteArray).size = 8 := rfl; (try simp only [ByteArray.size_append, e0, e1]); omega)) ?_; intro a15 F15
  refine op_q F15 (.pointer (some ⟨a.g, 0, none⟩)) ?_; intro a16 F16
  refine op_cq F16 (f := 127) (args := #[.pointer (some ⟨a.g, 0, none⟩)]) (name_sp a.g a.gm a.n (.slice none 0 0) (.slice none 0 0) (.map none) (.slice none 0 0) (.slice a.fA a.ps.length a.fc) (.pointer (some ⟨b.g, 0, none⟩)) (.slice a.dA a.kids.length a.dc) _ _ _ S13 hB hN) ?_
  rintro _ w17 ⟨rfl, S17⟩
  refine ⟨_, rfl, ?_⟩
  intro a18 F18
  refine op_rq (v := .string ((((pathOf (b :: l)).fFull) ++ (⟨#[47, 99, 104, 97, 114, 116, 115, 47]⟩ : ByteArray)) ++ a.n)) F18 (r_sadd rfl (F18.e (.string (((pathOf (b :: l)).fFull) ++ (⟨#[47, 99, 104, 97, 114, 116, 115, 47]⟩ : ByteArray)))) (F18.e (.string a.n)) (by show (((pathOf (b :: l)).fFull) ++ (⟨#[47, 99, 104, 97, 114, 116, 115, 47]⟩ : ByteArray)).size + a.n.size ≤ 9223372036854775807; have e0 : (⟨#[46]⟩ : ByteArray).size = 1 := rfl; have e1 : (⟨#[47, 99, 104, 97, 114, 116, 115, 47]⟩ : ByteArray).size = 8 := rfl; (try simp only [ByteArray.size_append, e0, e1]); omega)) ?_; intro a19 F19
  refine op_q F19 (.string ((((pathOf (b :: l)).fFull) ++ (⟨#[47, 99, 104, 97, 114, 116, 115, 47]⟩ : ByteArray)) ++ a.n)) ?_; intro a20 F20
  refine wpList_nil ?_
  refine hK9 _ _ ?_; clear hK9 K9
  refine wp_ret ?_
  refine ret_then ?_
  refine (F20.res1 rfl (v := .string ((((pathOf (b :: l)).fFull) ++ (⟨#[47, 99, 104, 97, 114, 116, 115, 47]⟩ : ByteArray)) ++ a.n)) (by kernel_rfl) ?_).1
  exact ⟨rfl, S17⟩
theorem cFull_sp : ∀ (l : List Ob) (a : Ob), cFullC a l
  | [], a => fun R L w S h0 hs => cFull_1 a R L w S h0 hs
  | b :: l, a => fun R L w S h0 hs => cFull_S a b l R L w S h0 (cFull_sp l b) hs
theorem cFull_gp (a : Ob) (l : List Ob) : cFullC a l := cFull_sp l a
abbrev cRootC (a : Ob) (l : List Ob) : Prop := ∀ (R : Ctx) (L : List SA) (w : World) (S : Sp R w (L)) (h0 : Rf R L fun w => ChnAt w (a :: l)) (hs : ChOk (a :: l)), Calls Try.prog 131 #[.pointer (some ⟨a.g, 0, none⟩)] w fun e w' => e = .returned (.pointer (some ⟨(lastO a l).g, 0, none⟩)) ∧ Sp R w' (L)
set_option maxRecDepth 100000 in
set_option maxHeartbeats 20000000 in
theorem cRoot_1 (a : Ob) (R : Ctx) (L : List SA) (w : World) (S : Sp R w (L)) (h0 : Rf R L fun w => ChnAt w ([a])) (hs : ChOk ([a])) :
    Calls Try.prog 131 #[.pointer (some ⟨a.g, 0, none⟩)] w fun e w' => e = .returned (.pointer (some ⟨(lastO a []).g, 0, none⟩)) ∧ Sp R w' (L) := by
  have hB : Rf R L fun w => Blk w a.g 245 #[.slice none 0 0, .pointer (some ⟨a.gm, 0, none⟩), .slice none 0 0, .map none, .slice none 0 0, .slice a.fA a.ps.length a.fc, .pointer none, .slice a.dA a.kids.length a.dc] := fun w S => (h0 w S).1
  have hN : Rf R L fun w => w.cell? ⟨a.gm, 0, none⟩ = some (.string a.n) := fun w S => (h0 w S).2
  have hs0 := hs.2 a (List.mem_cons_self ..)
  refine fw_enter (fn := Try.f131) rfl rfl 9 rfl (Nat.le_of_ble_eq_true rfl) ?_
  intro a0 F0
  refine wp_seq_k fun K1 hK1 => ?_
  refine wp_region_lit ?_
  refine op_q F0 (.pointer none) ?_; intro a2 F2
  refine wpList_nil ?_
  refine hK1 _ _ ?_; clear hK1 K1
  refine wp_seq_k fun K3 hK3 => ?_
  refine wp_seq_k fun K4 hK4 => ?_
  refine wp_region_lit ?_
  refine op_q F2 (.pointer (some ⟨a.g, 0, none⟩)) ?_; intro a5 F5
  refine op_cq F5 (f := 130) (args := #[.pointer (some ⟨a.g, 0, none⟩)]) (isRoot_n a.g (.slice none 0 0) (.pointer (some ⟨a.gm, 0, none⟩)) (.slice none 0 0) (.map none) (.slice none 0 0) (.slice a.fA a.ps.length a.fc) (.slice a.dA a.kids.length a.dc) _ _ _ S hB) ?_
  rintro _ w6 ⟨rfl, S6⟩
  refine ⟨_, rfl, ?_⟩
  intro a7 F7
  refine wpList_nil ?_
  refine hK4 _ _ ?_; clear hK4 K4
  refine wp_cond_true (F7.ev (by kernel_rfl)) ?_
  refine wp_seq_k fun K8 hK8 => ?_
  refine wp_region_lit ?_
  refine op_q F7 (.pointer (some ⟨a.g, 0, none⟩)) ?_; intro a9 F9
  refine op_q F9 (.pointer (some ⟨a.g, 0, none⟩)) ?_; intro a10 F10
  refine wpList_nil ?_
  refine hK8 _ _ ?_; clear hK8 K8
  refine wp_ret ?_
  refine ret_then ?_
  refine (F10.res1 rfl (v := .pointer (some ⟨a.g, 0, none⟩)) (by kernel_rfl) ?_).1
  exact ⟨rfl, S6⟩
set_option maxRecDepth 100000 in
set_option maxHeartbeats 20000000 in
theorem cRoot_S (a : Ob) (b : Ob) (l : List Ob) (R : Ctx) (L : List SA) (w : World) (S : Sp R w (L)) (h0 : Rf R L fun w => ChnAt w (a :: b :: l)) (ih : cRootC b l) (hs : ChOk (a :: b :: l)) :
    Calls Try.prog 131 #[.pointer (some ⟨a.g, 0, none⟩)] w fun e w' => e = .returned (.pointer (some ⟨(lastO a (b :: l)).g, 0, none⟩)) ∧ Sp R w' (L) := by
  have hB : Rf R L fun w => Blk w a.g 245 #[.slice none 0 0, .pointer (some ⟨a.gm, 0, none⟩), .slice none 0 0, .map none, .slice none 0 0, .slice a.fA a.ps.length a.fc, .pointer (some ⟨b.g, 0, none⟩), .slice a.dA a.kids.length a.dc] := fun w S => (h0 w S).1
  have hN : Rf R L fun w => w.cell? ⟨a.gm, 0, none⟩ = some (.string a.n) := fun w S => (h0 w S).2.1
  have hI : Rf R L fun w => ChnAt w (b :: l) := fun w S => (h0 w S).2.2
  have hs0 := hs.2 a (List.mem_cons_self ..)
  have hsz := path_sz (b :: l) hs.tail
  have hln := hs.tail.1
  refine fw_enter (fn := Try.f131) rfl rfl 9 rfl (Nat.le_of_ble_eq_true rfl) ?_
  intro a0 F0
  refine wp_seq_k fun K1 hK1 => ?_
  refine wp_region_lit ?_
  refine op_q F0 (.pointer none) ?_; intro a2 F2
  refine wpList_nil ?_
  refine hK1 _ _ ?_; clear hK1 K1
  refine wp_seq_k fun K3 hK3 => ?_
  refine wp_seq_k fun K4 hK4 => ?_
  refine wp_region_lit ?_
  refine op_q F2 (.pointer (some ⟨a.g, 0, none⟩)) ?_; intro a5 F5
  refine op_cq F5 (f := 130) (args := #[.pointer (some ⟨a.g, 0, none⟩)]) (isRoot_s a.g b.g (.slice none 0 0) (.pointer (some ⟨a.gm, 0, none⟩)) (.slice none 0 0) (.map none) (.slice none 0 0) (.slice a.fA a.ps.length a.fc) (.slice a.dA a.kids.length a.dc) _ _ _ S hB) ?_
  rintro _ w6 ⟨rfl, S6⟩
  refine ⟨_, rfl, ?_⟩
  intro a7 F7
  refine wpList_nil ?_
  refine hK4 _ _ ?_; clear hK4 K4
  refine wp_cond_false (F7.ev (by kernel_rfl)) ?_
  refine wp_skip ?_
  refine hK3 _ _ ?_; clear hK3 K3
  refine wp_seq_k fun K8 hK8 => ?_
  refine wp_region_lit ?_
  refine op_q F7 (.pointer (some ⟨a.g, 0, none⟩)) ?_; intro a9 F9
  refine op_cq F9 (f := 186) (args := #[.pointer (some ⟨a.g, 0, none⟩)]) (parent_s a.g b.g (.slice none 0 0) (.pointer (some ⟨a.gm, 0, none⟩)) (.slice none 0 0) (.map none) (.slice none 0 0) (.slice a.fA a.ps.length a.fc) (.slice a.dA a.kids.length a.dc) _ _ _ S6 hB) ?_
  rintro _ w10 ⟨rfl, S10⟩
  refine ⟨_, rfl, ?_⟩
  intro a11 F11
  refine op_cq F11 (f := 131) (args := #[.pointer (some ⟨b.g, 0, none⟩)]) (ih  _ _ _ S10 hI hs.tail) ?_
  rintro _ w12 ⟨rfl, S12⟩
  refine ⟨_, rfl, ?_⟩
  intro a13 F13
  refine op_q F13 (.pointer (some ⟨(lastO b l).g, 0, none⟩)) ?_; intro a14 F14
  refine wpList_nil ?_
  refine hK8 _ _ ?_; clear hK8 K8
  refine wp_ret ?_
  refine (F14.res1 rfl (v := .pointer (some ⟨(lastO b l).g, 0, none⟩)) (by kernel_rfl) ?_).1
  exact ⟨rfl, S12⟩
theorem cRoot_sp : ∀ (l : List Ob) (a : Ob), cRootC a l
  | [], a => fun R L w S h0 hs => cRoot_1 a R L w S h0 hs
  | b :: l, a => fun R L w S h0 hs => cRoot_S a b l R L w S h0 (cRoot_sp l b) hs
theorem cRoot_gp (a : Ob) (l : List Ob) : cRootC a l := cRoot_sp l a
end Go.Proofs.Ytkjcedlgljeoiaa

/- impl.pathsOf, impl.ChartPaths, spec.ChPaths. -/
namespace Go.Proofs.Ytkjcedlgljeoiaa
open Go.RowKit Go.Lib
set_option linter.unusedVariables false
set_option linter.unusedSimpArgs false
/-- What can be read of an object, its top block aside. -/
def ObAt (w : World) : Nat → Ob → Prop
  | 0 => fun _ => True
  | m + 1 => fun o => w.cell? ⟨o.gm, 0, none⟩ = some (.string o.n) ∧ (Sl w o.fA (pps o.ps) ∧ o.ps.length = o.fs.length ∧ ∀ i, ∀ h : i < o.fs.length, ∀ h2 : i < o.ps.length, ∃ g, o.ps[i] = some ⟨g, 0, none⟩ ∧ w.cell? ⟨g, 0, none⟩ = some (.string o.fs[i])) ∧ Sl w o.dA (pps (o.kids.map Ob.ptr)) ∧ ∀ k ∈ o.kids, Blk w k.g 245 #[.slice none 0 0, .pointer (some ⟨k.gm, 0, none⟩), .slice none 0 0, .map none, .slice none 0 0, .slice k.fA k.ps.length k.fc, .pointer (some ⟨o.g, 0, none⟩), .slice k.dA k.kids.length k.dc] ∧ ObAt w m k
theorem Sp.pick {α : Type} {R : Ctx} {w : World} {f : α → SA} : ∀ {xs : List α} {L : List SA}, Sp R w (SA.stars (xs.map f) :: L) → ∀ x ∈ xs, ∃ L', Sp R w (f x :: L')
  | [], _, _, _, hx => by cases hx
  | y :: xs, L, S, x, hx => by
    have S2 : Sp R w (f y :: SA.stars (xs.map f) :: L) := Sp.star.1 S
    rcases List.mem_cons.1 hx with rfl | hx
    · exact ⟨_, S2⟩
    · exact Sp.pick S2.drop x hx
theorem Sp.obAt {R : Ctx} {w : World} : ∀ {m : Nat} {o : Ob} {L : List SA}, ObOk m o → Sp R w (SA.ob m o :: L) → ObAt w m o
  | 0, _, _, h, _ => h.elim
  | m + 1, o, L, h, S => by
    have S1 : Sp R w ([SA.met o.gm (nmM o.n), SA.own (.slice o.fA o.ps.length o.fc) 169 1 o.ps.length (pps o.ps), SA.zips SA.fo o.ps o.fs, SA.own (.slice o.dA o.kids.length o.dc) 125 1 o.kids.length (pps (o.kids.map Ob.ptr)), SA.stars (o.kids.map fun k => SA.star (SA.top (some ⟨o.g, 0, none⟩) k) (SA.ob m k))] ++ L) := Sp.stars.1 S
    have hz := Sp.zlen S1.p2
    refine ⟨?_, ⟨own_sl1 (S1.ow 1 rfl) (by have := h.2.1; omega), hz, fun i hi hp => ?_⟩, own_sl1 (S1.ow 3 rfl) (by have := h.2.2.2.1; omega), fun k hk => ?_⟩
    · obtain ⟨A1, c1, A2, c2, A3, c3, qs, A4, c4, us, S2⟩ := Sp.met_open S1
      exact (S2.bk 0 rfl).cell 0
    · obtain ⟨_, S2⟩ := Sp.zat hi S1.p2
      obtain ⟨g, S2⟩ := Sp.ex.1 S2
      obtain ⟨gd, S2⟩ := Sp.ex.1 S2
      obtain ⟨c, S2⟩ := Sp.ex.1 S2
      obtain ⟨e, S2⟩ := Sp.pure.1 (Sp.star.1 S2)
      exact ⟨g, e, (S2.bk 0 rfl).cell 0⟩
    · obtain ⟨L', S2⟩ := Sp.pick S1.p4 k hk
      have S3 : Sp R w (SA.blk k.g 245 #[.slice none 0 0, .pointer (some ⟨k.gm, 0, none⟩), .slice none 0 0, .map none, .slice none 0 0, .slice k.fA k.ps.length k.fc, .pointer (some ⟨o.g, 0, none⟩), .slice k.dA k.kids.length k.dc] :: SA.ob m k :: L') := Sp.star.1 S2
      exact ⟨S3.bk 0 rfl, Sp.obAt (h.2.2.2.2 k hk) S3.drop⟩
theorem flat_take {α β : Type} {f : α → List β} {l : List α} {k : Nat} (h : k < l.length) : (l.take (k + 1)).flatMap f = (l.take k).flatMap f ++ f l[k] := by rw [List.take_succ_eq_append_getElem h, List.flatMap_append]; simp
/-- The parts that stand for the charts below one. -/
def kidsP (m : Nat) (p : Ty39) (l : List Pt) : List Ty39 := l.flatMap fun d => specP m (childP p d.n) d
theorem kidsP_take {m : Nat} {p : Ty39} {l : List Pt} {k : Nat} (h : k < l.length) : kidsP m p (l.take (k + 1)) = kidsP m p (l.take k) ++ specP m (childP p l[k].n) l[k] := flat_take h
theorem kidsP_len (m : Nat) (p : Ty39) (l : List Pt) : (kidsP m p l).length = (l.map (Pt.cnt m)).sum := by
  unfold kidsP; rw [List.length_flatMap]
  have : (fun d : Pt => (specP m (childP p d.n) d).length) = Pt.cnt m := by funext d; exact specP_len m _ d
  rw [this]
theorem pathOf_cells (p : Ty39) : p.cells = [Value.string p.fName, .string p.fPath, .string p.fFull, .bool p.fIsRoot, .string p.fRoot] := rfl
theorem pathOf_n : ∀ (l : List Ob) (a : Ob), (pathOf (a :: l)).fName = a.n
  | [], _ => rfl
  | _ :: _, _ => rfl
theorem trOk_n {m : Nat} {t : Tr} (h : TrOk m t) : t.n.size ≤ 8 := by cases m with | zero => exact h.elim | succ m => exact h.1.2.1
theorem obOk_n {m : Nat} {t : Ob} (h : ObOk m t) : t.n.size ≤ 8 := by cases m with | zero => exact h.elim | succ m => exact h.1.2.1
theorem isRoot_o (a : Ob) (l : List Ob) (R : Ctx) (L : List SA) (w : World) (S : Sp R w L) (h0 : Rf R L fun w => ChnAt w (a :: l)) : Calls Try.prog 130 #[.pointer (some ⟨a.g, 0, none⟩)] w fun e w' => e = .returned (.bool (pathOf (a :: l)).fIsRoot) ∧ Sp R w' L := by
  cases l with
  | nil => exact isRoot_n a.g _ _ _ _ _ _ _ R L w S (fun w S => (h0 w S).1)
  | cons b l => exact isRoot_s a.g b.g _ _ _ _ _ _ _ R L w S (fun w S => (h0 w S).1)
theorem chn_kid {w : World} {m : Nat} {a k : Ob} {l : List Ob} (hB : Blk w k.g 245 #[.slice none 0 0, .pointer (some ⟨k.gm, 0, none⟩), .slice none 0 0, .map none, .slice none 0 0, .slice k.fA k.ps.length k.fc, .pointer (some ⟨a.g, 0, none⟩), .slice k.dA k.kids.length k.dc]) (hk : ObOk m k) (ho : ObAt w m k) (h : ChnAt w (a :: l)) : ChnAt w (k :: a :: l) := by
  cases m with
  | zero => exact hk.elim
  | succ m => exact ⟨hB, ho.1, h⟩
abbrev PathsC (m : Nat) : Prop := ∀ (a : Ob) (l : List Ob) (A : Option Addr) (n : Nat) (c : Nat) (ls : List Ty39) (R : Ctx) (L : List SA) (w : World) (S : Sp R w (SA.own (.slice A n c) 39 5 (n) (flatC Ty39.cells ls) :: L)) (h0 : Rf R L fun w => ChnAt w (a :: l)) (h1 : Rf R L fun w => ObAt w (m) a) (ho : ObOk (m) a) (hs : ChOk (a :: l)) (hd : (a :: l).length + (m) ≤ 20) (hnl : n = ls.length) (hz : ls.length + Pt.cnt (m) (Ob.pl (m) a) ≤ 100000), Calls Try.prog 66 #[.pointer (some ⟨a.g, 0, none⟩), .slice (A) (n) (c)] w fun e w' => ∃ A2 : Option Addr, ∃ n2 : Nat, ∃ c2 : Nat, e = .returned (.slice A2 n2 c2) ∧ Sp R w' (SA.own (.slice A2 n2 c2) 39 5 n2 (flatC Ty39.cells (ls ++ specP (m) (pathOf (a :: l)) (Ob.pl (m) a))) :: L) ∧ (n2 = (ls ++ specP (m) (pathOf (a :: l)) (Ob.pl (m) a)).length)
abbrev SpecC (m : Nat) : Prop := ∀ (t : Tr) (pn : ByteArray) (pp : ByteArray) (pf : ByteArray) (pb : Bool) (pr : ByteArray) (R : Ctx) (L : List SA) (w : World) (S : Sp R w (L)) (h0 : Rf R L fun w => TrAt w (m) t) (ht : TrOk (m) t) (hz : Tr.cnt (m) t ≤ 1000) (hp : pp.size + 20 * (m) ≤ 1000 ∧ pf.size + 20 * (m) ≤ 1000), Calls Try.prog 67 #[.agg #[.bool false, .string t.n, .string ⟨#[]⟩, .string ⟨#[]⟩, .string ⟨#[]⟩, .string ⟨#[]⟩, .string ⟨#[]⟩, .string ⟨#[]⟩, .string ⟨#[]⟩, .string ⟨#[]⟩, .string ⟨#[]⟩, .string ⟨#[]⟩, .slice none 0 0, .slice none 0 0, .slice none 0 0, .slice none 0 0, .slice (t.fA) (t.fs.length) (t.fc), .slice (t.dA) (t.kids.length) (t.dc)], .agg #[.string pn, .string pp, .string pf, .bool pb, .string pr]] w fun e w' => ∃ A : Option Addr, ∃ n : Nat, ∃ c : Nat, e = .returned (.slice A n c) ∧ Sp R w' (SA.own (.slice A n c) 39 5 n (flatC Ty39.cells (specP (m) (mkP pn pp pf pb pr) (Tr.pl (m) t))) :: L) ∧ (n = (specP (m) (mkP pn pp pf pb pr) (Tr.pl (m) t)).length)
set_option maxRecDepth 100000 in
set_option maxHeartbeats 20000000 in
theorem pathsOf_S (m : Nat) (a : Ob) (l : List Ob) (A : Option Addr) (n : Nat) (c : Nat) (ls : List Ty39) (R : Ctx) (L : List SA) (w : World) (S : Sp R w (SA.own (.slice A n c) 39 5 (n) (flatC Ty39.cells ls) :: L)) (h0 : Rf R L fun w => ChnAt w (a :: l)) (h1 : Rf R L fun w => ObAt w (m + 1) a) (ih : PathsC m) (ho : ObOk (m + 1) a) (hs : ChOk (a :: l)) (hd : (a :: l).length + (m + 1) ≤ 20) (hnl : n = ls.length) (hz : ls.length + Pt.cnt (m + 1) (Ob.pl (m + 1) a) ≤ 100000) :
    Calls Try.prog 66 #[.pointer (some ⟨a.g, 0, none⟩), .slice (A) (n) (c)] w fun e w' => ∃ A2 : Option Addr, ∃ n2 : Nat, ∃ c2 : Nat, e = .returned (.slice A2 n2 c2) ∧ Sp R w' (SA.own (.slice A2 n2 c2) 39 5 n2 (flatC Ty39.cells (ls ++ specP (m + 1) (pathOf (a :: l)) (Ob.pl (m + 1) a))) :: L) ∧ (n2 = (ls ++ specP (m + 1) (pathOf (a :: l)) (Ob.pl (m + 1) a)).length) := by
  have hlo_0 : n ≤ 9223372036854775807 := own_max1 (S.ow 0 rfl)
  obtain ⟨ho1, ho2, ho3, ho4, ho5⟩ := ho
  have hB : Rf R L fun w => Blk w a.g 245 #[.slice none 0 0, .pointer (some ⟨a.gm, 0, none⟩), .slice none 0 0, .map none, .slice none 0 0, .slice a.fA a.ps.length a.fc, .pointer (parO l), .slice a.dA a.kids.length a.dc] := fun w S => (chn_top (h0 w S)).1
  have hN : Rf R L fun w => w.cell? ⟨a.gm, 0, none⟩ = some (.string a.n) := fun w S => (chn_top (h0 w S)).2
  have hBL : Rf R L fun w => Blk w (lastO a l).g 245 #[.slice none 0 0, .pointer (some ⟨(lastO a l).gm, 0, none⟩), .slice none 0 0, .map none, .slice none 0 0, .slice ((lastO a l).fA) ((lastO a l).ps.length) ((lastO a l).fc), .pointer none, .slice ((lastO a l).dA) ((lastO a l).kids.length) ((lastO a l).dc)] := fun w S => (chn_last l a (h0 w S)).1
  have hNL : Rf R L fun w => w.cell? ⟨(lastO a l).gm, 0, none⟩ = some (.string (lastO a l).n) := fun w S => (chn_last l a (h0 w S)).2
  have hK : Rf R L fun w => Sl w a.dA (pps (a.kids.map Ob.ptr)) := fun w S => (h1 w S).2.2.1
  have hcz : ls.length + (1 + ((a.kids.map (Ob.pl m)).map (Pt.cnt m)).sum) ≤ 100000 := hz
  have hkm : (a.kids.map (Ob.pl m)).length = a.kids.length := List.length_map _
  refine fw_enter (fn := Try.f66) rfl rfl 34 rfl (Nat.le_of_ble_eq_true rfl) ?_
  intro a0 F0
  refine wp_seq_k fun K1 hK1 => ?_
  refine wp_region_lit ?_
  refine op_q F0 (.slice none 0 0) ?_; intro a2 F2
  refine wpList_nil ?_
  refine hK1 _ _ ?_; clear hK1 K1
  refine wp_seq_k fun K3 hK3 => ?_
  refine wp_region_lit ?_
  refine op_q F2 (.slice (A) (n) (c)) ?_; intro a4 F4
  refine op_q F4 (.pointer (some ⟨a.g, 0, none⟩)) ?_; intro a5 F5
  refine op_cq F5 (f := 127) (args := #[.pointer (some ⟨a.g, 0, none⟩)]) (name_sp a.g a.gm a.n (.slice none 0 0) (.slice none 0 0) (.map none) (.slice none 0 0) (.slice a.fA a.ps.length a.fc) (.pointer (parO l)) (.slice a.dA a.kids.length a.dc) _ _ _ S (fun w S => hB w S.drop) (fun w S => hN w S.drop)) ?_
  rintro _ w6 ⟨rfl, S6⟩
  refine ⟨_, rfl, ?_⟩
  intro a7 F7
  refine op_q F7 (.pointer (some ⟨a.g, 0, none⟩)) ?_; intro a8 F8
  refine op_cq F8 (f := 128) (args := #[.pointer (some ⟨a.g, 0, none⟩)]) (cPath_gp a l _ _ _ S6 (fun w S => h0 w S.drop) hs) ?_
  rintro _ w9 ⟨rfl, S9⟩
  refine ⟨_, rfl, ?_⟩
  intro a10 F10
  refine op_q F10 (.pointer (some ⟨a.g, 0, none⟩)) ?_; intro a11 F11
  refine op_cq F11 (f := 129) (args := #[.pointer (some ⟨a.g, 0, none⟩)]) (cFull_gp a l _ _ _ S9 (fun w S => h0 w S.drop) hs) ?_
  rintro _ w12 ⟨rfl, S12⟩
  refine ⟨_, rfl, ?_⟩
  intro a13 F13
  refine op_q F13 (.pointer (some ⟨a.g, 0, none⟩)) ?_; intro a14 F14
  refine op_cq F14 (f := 130) (args := #[.pointer (some ⟨a.g, 0, none⟩)]) (isRoot_o a l _ _ _ S12 (fun w S => h0 w S.drop)) ?_
  rintro _ w15 ⟨rfl, S15⟩
  refine ⟨_, rfl, ?_⟩
  intro a16 F16
  refine op_q F16 (.pointer (some ⟨a.g, 0, none⟩)) ?_; intro a17 F17
  refine op_cq F17 (f := 131) (args := #[.pointer (some ⟨a.g, 0, none⟩)]) (cRoot_gp a l _ _ _ S15 (fun w S => h0 w S.drop) hs) ?_
  rintro _ w18 ⟨rfl, S18⟩
  refine ⟨_, rfl, ?_⟩
  intro a19 F19
  refine op_cq F19 (f := 127) (args := #[.pointer (some ⟨(lastO a l).g, 0, none⟩)]) (name_sp ((lastO a l).g) ((lastO a l).gm) ((lastO a l).n) (.slice none 0 0) (.slice none 0 0) (.map none) (.slice none 0 0) (.slice ((lastO a l).fA) ((lastO a l).ps.length) ((lastO a l).fc)) (.pointer none) (.slice ((lastO a l).dA) ((lastO a l).kids.length) ((lastO a l).dc)) _ _ _ S18 (fun w S => hBL w S.drop) (fun w S => hNL w S.drop)) ?_
  rintro _ w20 ⟨rfl, S20⟩
  refine ⟨_, rfl, ?_⟩
  intro a21 F21
  refine op_q F21 (.agg #[.string a.n, .string ((pathOf (a :: l)).fPath), .string ((pathOf (a :: l)).fFull), .bool ((pathOf (a :: l)).fIsRoot), .string ((lastO a l).n)]) ?_; intro a22 F22
  refine op_sq F22 (s_news F22 39 #[.string a.n, .string ((pathOf (a :: l)).fPath), .string ((pathOf (a :: l)).fFull), .bool ((pathOf (a :: l)).fIsRoot), .string ((lastO a l).n)] 1 (by kernel_rfl) (by kernel_rfl) (by kernel_rfl) S20) ?_
  rintro _ _ w24 ⟨g22, rfl, rfl⟩ S24 a24 F24
  refine op_sq F24 (s_app rfl Try.underlying34 5 _ tin39 rfl rfl (F24.e (.slice (A) (n) (c))) S24.p1 ([Value.string a.n, .string ((pathOf (a :: l)).fPath), .string ((pathOf (a :: l)).fFull), .bool ((pathOf (a :: l)).fIsRoot), .string ((lastO a l).n)]) (F24.e (.slice (some ⟨g22, 0, none⟩) 1 1)) ((S24.bk 0 rfl).sl (by simp)) rfl (by simp [Value.oneCell']) (by omega) (by omega) (n' := n + 1) (by omega) (cs' := flatC Ty39.cells (ls ++ [pathOf (a :: l)])) (by rw [flatC_snoc, pathOf_cells, path_root, pathOf_n])) ?_
  rintro _ _ w26 ⟨A25, c25, rfl, rfl⟩ S26 a26 F26
  refine op_q F26 (.slice A25 (n + 1) c25) ?_; intro a27 F27
  refine wpList_nil ?_
  refine hK3 _ _ ?_; clear hK3 K3
  refine wp_seq_k fun K28 hK28 => ?_
  refine wp_seq_k fun K29 hK29 => ?_
  refine wp_region_lit ?_
  refine op_q F27 (.pointer (some ⟨a.g, 0, none⟩)) ?_; intro a30 F30
  refine op_cq F30 (f := 132) (args := #[.pointer (some ⟨a.g, 0, none⟩)]) (deps_sp a.g (.slice none 0 0) (.pointer (some ⟨a.gm, 0, none⟩)) (.slice none 0 0) (.map none) (.slice none 0 0) (.slice a.fA a.ps.length a.fc) (.pointer (parO l)) a.dA a.kids.length a.dc _ _ _ S26 (fun w S => hB w S.drop.drop)) ?_
  rintro _ w31 ⟨rfl, S31⟩
  refine ⟨_, rfl, ?_⟩
  intro a32 F32
  refine op_q F32 (.int .i64 (↑a.kids.length)) ?_; intro a33 F33
  refine op_q F33 (.int .i64 0) ?_; intro a34 F34
  refine wpList_nil ?_
  refine hK29 _ _ ?_; clear hK29 K29
  refine wp_block ?_
  have S35 : Sp R w31 (SA.own (.slice A25 (n + 1) c25) 39 5 (n + 1) (flatC Ty39.cells ((ls ++ [pathOf (a :: l)]) ++ kidsP m (pathOf (a :: l)) ((a.kids.map (Ob.pl m)).take 0))) :: SA.blk g22 39 #[.string a.n, .string ((pathOf (a :: l)).fPath), .string ((pathOf (a :: l)).fFull), .bool ((pathOf (a :: l)).fIsRoot), .string ((lastO a l).n)] :: L) := by show Sp _ _ (SA.own _ _ _ _ (flatC Ty39.cells ((ls ++ [pathOf (a :: l)]) ++ [])) :: _); rw [List.append_nil]; exact S31
  refine fw_loop (fun m' a' w' => ∃ A1 : Option Addr, ∃ n1 : Nat, ∃ c1 : Nat, ∃ k : Nat, a.kids.length - k = m' ∧ Fr 34 [] a' [(1, .slice A1 n1 c1), (4, .slice none 0 0), (23, .slice (a.dA) (a.kids.length) (a.dc)), (24, .int .i64 (↑a.kids.length)), (25, .int .i64 (↑k))] ∧ Sp R w' (SA.own (.slice A1 n1 c1) 39 5 n1 (flatC Ty39.cells ((ls ++ [pathOf (a :: l)]) ++ kidsP m (pathOf (a :: l)) ((a.kids.map (Ob.pl m)).take k))) :: L) ∧ (k ≤ a.kids.length) ∧ (n1 = ((ls ++ [pathOf (a :: l)]) ++ kidsP m (pathOf (a :: l)) ((a.kids.map (Ob.pl m)).take k)).length)) _ ⟨A25, n + 1, c25, 0, rfl, (F34.kk 1 (F34.kk 4 (F34.kk 23 (F34.kk 24 (F34.kk 25 F34.nil))))), S35.p1.drop, (by first | omega | (with_reducible assumption) | (simp; done)), (by show _ = ((ls ++ [pathOf (a :: l)]) ++ []).length; simp [hnl])⟩ ?_
  rintro m36 a36 w36 ⟨A1, n1, c1, k, hm36, F36, S36, hk, hn1⟩ K36 hK36
  by_cases hlt_k : k < a.kids.length
  · have hc_k : decide ((↑k : Int) < ↑a.kids.length) = true := by first | (simp; done) | (simp; omega)
    have hlt_k2 : k < a.kids.length := by omega
    obtain ⟨ad37, hA37⟩ := (hK _ S36.drop).addr (by simp [pps]; omega)
    have hlt_k2 : k < a.kids.length := by omega
    have hkk := ho5 _ (List.getElem_mem hlt_k2)
    have hCk : Rf R L fun w => ChnAt w (a.kids[k] :: a :: l) := fun w S => chn_kid ((h1 w S).2.2.2 _ (List.getElem_mem hlt_k2)).1 hkk ((h1 w S).2.2.2 _ (List.getElem_mem hlt_k2)).2 (h0 w S)
    have hOk : Rf R L fun w => ObAt w m a.kids[k] := fun w S => ((h1 w S).2.2.2 _ (List.getElem_mem hlt_k2)).2
    have hsk := sum_take (f := Pt.cnt m) (l := a.kids.map (Ob.pl m)) (k := k) (by omega)
    rw [List.getElem_map] at hsk
    have hlk : ((ls ++ [pathOf (a :: l)]) ++ kidsP m (pathOf (a :: l)) ((a.kids.map (Ob.pl m)).take k)).length = ls.length + 1 + (((a.kids.map (Ob.pl m)).take k).map (Pt.cnt m)).sum := by rw [List.length_append, kidsP_len, List.length_append]; rfl
    have hsk3 := hsk.2
    refine wp_seq_k fun K38 hK38 => ?_
    refine wp_region_lit ?_
    refine op_q F36 (.bool (decide ((↑k : Int) < ↑a.kids.length))) ?_; intro a39 F39
    have F40 := F39.sb 26 (by kernel_rfl) hc_k
    refine wpList_nil ?_
    refine hK38 _ _ ?_; clear hK38 K38
    refine wp_seq_k fun K41 hK41 => ?_
    refine wp_cond_true (F40.ev (by kernel_rfl)) ?_
    refine wp_skip ?_
    refine hK41 _ _ ?_; clear hK41 K41
    refine wp_seq_k fun K42 hK42 => ?_
    refine wp_block ?_
    refine wp_seq_k fun K43 hK43 => ?_
    refine wp_region_lit ?_
    refine op_rq (v := .pointer (some (ad37.add k))) F40 (r_ix rfl Try.underlying211 1 (by kernel_rfl) (F40.e (.slice (a.dA) (a.kids.length) (a.dc))) hA37 (F40.e (.int .i64 (↑k))) k (by first | rfl | omega | simp) (by first | omega | (simp; done) | (simp; omega)) (by simp only [Nat.mul_one])) ?_; intro a44 F44
    refine op_rq (v := .pointer (some ⟨a.kids[k].g, 0, none⟩)) F44 (r_ld rfl (F44.e (.pointer (some (ad37.add k)))) (v := .pointer (some ⟨a.kids[k].g, 0, none⟩)) ((hK _ S36.drop).elA hA37 (j := k) (by simp only [pps, List.getElem?_map, List.getElem?_eq_getElem hlt_k2]; rfl)) Try.underlying125 rfl) ?_; intro a45 F45
    refine op_q F45 (.pointer (some ⟨a.kids[k].g, 0, none⟩)) ?_; intro a46 F46
    refine wpList_nil ?_
    refine hK43 _ _ ?_; clear hK43 K43
    refine wp_region_lit ?_
    refine op_q F46 (.pointer (some ⟨a.kids[k].g, 0, none⟩)) ?_; intro a47 F47
    refine op_q F47 (.slice A1 n1 c1) ?_; intro a48 F48
    have hcl49 := ih a.kids[k] (a :: l) A1 n1 c1 ((ls ++ [pathOf (a :: l)]) ++ kidsP m (pathOf (a :: l)) ((a.kids.map (Ob.pl m)).take k)) _ _ _ S36 hCk hOk hkk ⟨by have := hd; simp only [List.length_cons] at *; omega, fun o h => (List.mem_cons.1 h).elim (fun e => by rw [e]; exact obOk_n hkk) (hs.2 o)⟩ (by have := hd; simp only [List.length_cons] at *; omega) hn1 (by rw [hlk]; omega)
    refine op_cq F48 (f := 66) hcl49 ?_
    rintro _ w49 ⟨A249, n249, c249, rfl, S49, hp0_49⟩
    refine ⟨_, rfl, ?_⟩
    intro a50 F50
    refine op_q F50 (.slice A249 n249 c249) ?_; intro a51 F51
    refine wpList_nil ?_
    refine hK42 _ _ ?_; clear hK42 K42
    refine wp_region_lit ?_
    refine op_rq (v := .int .i64 (↑(k + 1))) F51 (r_add (z := ↑(k + 1)) rfl (F51.e (.int .i64 (↑k))) (F51.e (.int .i64 1)) (wr64 (by omega) (by omega) (by omega))) ?_; intro a52 F52
    refine op_q F52 (.int .i64 (↑(k + 1))) ?_; intro a53 F53
    refine wpList_nil ?_
    have S54 : Sp R w49 (SA.own (.slice A249 n249 c249) 39 5 n249 (flatC Ty39.cells ((ls ++ [pathOf (a :: l)]) ++ kidsP m (pathOf (a :: l)) ((a.kids.map (Ob.pl m)).take (k + 1)))) :: L) := by rw [kidsP_take (by omega), ← List.append_assoc, List.getElem_map, Ob.pl_n]; exact S49
    exact hK36 _ _ _ (by first | omega | (simp; omega)) ⟨A249, n249, c249, k + 1, rfl, (F53.kk 1 (F53.kk 4 (F53.kk 23 (F53.kk 24 (F53.kk 25 F53.nil))))), S54, (by first | omega | (with_reducible assumption) | (simp; done)), (by rw [hp0_49, kidsP_take (by omega), ← List.append_assoc, List.getElem_map, Ob.pl_n]; rfl)⟩
  · have hc_k : decide ((↑k : Int) < ↑a.kids.length) = false := by first | (simp; done) | (simp; omega)
    obtain rfl : k = a.kids.length := by omega
    rw [show (a.kids.map (Ob.pl m)).take a.kids.length = a.kids.map (Ob.pl m) from by rw [← hkm, List.take_length]] at hn1 S36
    refine wp_seq_k fun K55 hK55 => ?_
    refine wp_region_lit ?_
    refine op_q F36 (.bool (decide ((↑a.kids.length : Int) < ↑a.kids.length))) ?_; intro a56 F56
    have F57 := F56.sb 26 (by kernel_rfl) hc_k
    refine wpList_nil ?_
    refine hK55 _ _ ?_; clear hK55 K55
    refine wp_seq_k fun K58 hK58 => ?_
    refine wp_cond_false (F57.ev (by kernel_rfl)) ?_
    refine wp_exit ?_
    refine ex_then ?_; clear hK58 K58
    refine ex_then ?_
    refine ex_in ?_
    refine hK28 _ _ ?_; clear hK28 K28
    refine wp_seq_k fun K59 hK59 => ?_
    refine wp_region_lit ?_
    refine op_q F57 (.slice A1 n1 c1) ?_; intro a60 F60
    refine op_q F60 (.slice A1 n1 c1) ?_; intro a61 F61
    refine wpList_nil ?_
    refine hK59 _ _ ?_; clear hK59 K59
    refine wp_ret ?_
    have hfin : (ls ++ specP (m + 1) (pathOf (a :: l)) (Ob.pl (m + 1) a)) = (ls ++ [pathOf (a :: l)]) ++ kidsP m (pathOf (a :: l)) (a.kids.map (Ob.pl m)) := by rw [List.append_assoc]; rfl
    have S62 : Sp R w36 (SA.own (.slice A1 n1 c1) 39 5 n1 (flatC Ty39.cells (ls ++ specP (m + 1) (pathOf (a :: l)) (Ob.pl (m + 1) a))) :: L) := by rw [hfin]; exact S36
    refine (F61.res1 rfl (v := .slice A1 n1 c1) (by kernel_rfl) ?_).1
    exact ⟨A1, n1, c1, rfl, S62, (by rw [hfin]; exact hn1)⟩
theorem pathsOf_sp : ∀ m : Nat, PathsC m
  | 0 => fun a l A n c ls R L w S h0 h1 ho _ _ _ _ => ho.elim
  | m + 1 => fun a l A n c ls R L w S h0 h1 ho hs hd hnl hz => pathsOf_S m a l A n c ls R L w S h0 h1 (pathsOf_sp m) ho hs hd hnl hz
set_option maxRecDepth 100000 in
set_option maxHeartbeats 20000000 in
theorem chPaths_S (m : Nat) (t : Tr) (pn : ByteArray) (pp : ByteArray) (pf : ByteArray) (pb : Bool) (pr : ByteArray) (R : Ctx) (L : List SA) (w : World) (S : Sp R w (L)) (h0 : Rf R L fun w => TrAt w (m + 1) t) (ih : SpecC m) (ht : TrOk (m + 1) t) (hz : Tr.cnt (m + 1) t ≤ 1000) (hp : pp.size + 20 * (m + 1) ≤ 1000 ∧ pf.size + 20 * (m + 1) ≤ 1000) :
    Calls Try.prog 67 #[.agg #[.bool false, .string t.n, .string ⟨#[]⟩, .string ⟨#[]⟩, .string ⟨#[]⟩, .string ⟨#[]⟩, .string ⟨#[]⟩, .string ⟨#[]⟩, .string ⟨#[]⟩, .string ⟨#[]⟩, .string ⟨#[]⟩, .string ⟨#[]⟩, .slice none 0 0, .slice none 0 0, .slice none 0 0, .slice none 0 0, .slice (t.fA) (t.fs.length) (t.fc), .slice (t.dA) (t.kids.length) (t.dc)], .agg #[.string pn, .string pp, .string pf, .bool pb, .string pr]] w fun e w' => ∃ A : Option Addr, ∃ n : Nat, ∃ c : Nat, e = .returned (.slice A n c) ∧ Sp R w' (SA.own (.slice A n c) 39 5 n (flatC Ty39.cells (specP (m + 1) (mkP pn pp pf pb pr) (Tr.pl (m + 1) t))) :: L) ∧ (n = (specP (m + 1) (mkP pn pp pf pb pr) (Tr.pl (m + 1) t)).length) := by
  obtain ⟨hto1, hto2, hto3, hto4, hto5⟩ := ht
  have hcn : 1 + (t.kids.map (Tr.cnt m)).sum ≤ 1000 := hz
  have hD : Rf R L fun w => Rows w t.dA 18 (t.kids.map Tr.cells) := fun w S => (h0 w S).2.1
  have hkm : (t.kids.map (Tr.pl m)).length = t.kids.length := List.length_map _
  obtain ⟨hp1, hp2⟩ := hp
  refine fw_enter (fn := Try.f67) rfl rfl 43 rfl (Nat.le_of_ble_eq_true rfl) ?_
  intro a0 F0
  refine wp_seq_k fun K1 hK1 => ?_
  refine wp_region_lit ?_
  refine op_sq F0 (s_newp F0 30 #[.bool false, .string t.n, .string ⟨#[]⟩, .string ⟨#[]⟩, .string ⟨#[]⟩, .string ⟨#[]⟩, .string ⟨#[]⟩, .string ⟨#[]⟩, .string ⟨#[]⟩, .string ⟨#[]⟩, .string ⟨#[]⟩, .string ⟨#[]⟩, .slice none 0 0, .slice none 0 0, .slice none 0 0, .slice none 0 0, .slice (t.fA) (t.fs.length) (t.fc), .slice (t.dA) (t.kids.length) (t.dc)] (by kernel_rfl) (by kernel_rfl) (by kernel_rfl) S) ?_
  rintro _ _ w3 ⟨g1, rfl, rfl⟩ S3 a3 F3
  refine op_sq F3 (s_newp F3 39 #[.string pn, .string pp, .string pf, .bool pb, .string pr] (by kernel_rfl) (by kernel_rfl) (by kernel_rfl) S3) ?_
  rintro _ _ w5 ⟨g3, rfl, rfl⟩ S5 a5 F5
  refine op_q F5 (.slice none 0 0) ?_; intro a6 F6
  refine wpList_nil ?_
  refine hK1 _ _ ?_; clear hK1 K1
  refine wp_seq_k fun K7 hK7 => ?_
  refine wp_region_lit ?_
  refine op_rq (v := .agg #[.string pn, .string pp, .string pf, .bool pb, .string pr]) F6 (r_ldm rfl (F6.e (.pointer (some ⟨g3, 0, none⟩))) (S5.bk 0 rfl) 5 (by kernel_rfl) Try.underlying39 rfl (by kernel_rfl) (v := #[.string pn, .string pp, .string pf, .bool pb, .string pr]) (by kernel_rfl)) ?_; intro a8 F8
  refine op_sq F8 (s_news F8 39 #[.string pn, .string pp, .string pf, .bool pb, .string pr] 1 (by kernel_rfl) (by kernel_rfl) (by kernel_rfl) S5) ?_
  rintro _ _ w10 ⟨g8, rfl, rfl⟩ S10 a10 F10
  refine op_q F10 (.slice (some ⟨g8, 0, none⟩) 1 1) ?_; intro a11 F11
  refine wpList_nil ?_
  refine hK7 _ _ ?_; clear hK7 K7
  refine wp_seq_k fun K12 hK12 => ?_
  refine wp_seq_k fun K13 hK13 => ?_
  refine wp_region_lit ?_
  refine op_q F11 (.pointer (some ⟨g1, 17, none⟩)) ?_; intro a14 F14
  refine op_rq (v := .slice (t.dA) (t.kids.length) (t.dc)) F14 (r_ld rfl (F14.e (.pointer (some ⟨g1, 17, none⟩))) (v := .slice (t.dA) (t.kids.length) (t.dc)) ((S10.bk 2 rfl).cell 17) Try.underlying28 rfl) ?_; intro a15 F15
  refine op_q F15 (.int .i64 (↑t.kids.length)) ?_; intro a16 F16
  refine op_q F16 (.int .i64 0) ?_; intro a17 F17
  refine wpList_nil ?_
  refine hK13 _ _ ?_; clear hK13 K13
  refine wp_block ?_
  have S18 : Sp R w10 (SA.own (.slice (some ⟨g8, 0, none⟩) 1 1) 39 5 1 (flatC Ty39.cells ([mkP pn pp pf pb pr] ++ kidsP m (mkP pn pp pf pb pr) ((t.kids.map (Tr.pl m)).take 0))) :: SA.blk g3 39 #[.string pn, .string pp, .string pf, .bool pb, .string pr] :: SA.blk g1 30 #[.bool false, .string t.n, .string ⟨#[]⟩, .string ⟨#[]⟩, .string ⟨#[]⟩, .string ⟨#[]⟩, .string ⟨#[]⟩, .string ⟨#[]⟩, .string ⟨#[]⟩, .string ⟨#[]⟩, .string ⟨#[]⟩, .string ⟨#[]⟩, .slice none 0 0, .slice none 0 0, .slice none 0 0, .slice none 0 0, .slice (t.fA) (t.fs.length) (t.fc), .slice (t.dA) (t.kids.length) (t.dc)] :: L) := Sp.ofblk (sz := 5) (m := 1) (l := flatC Ty39.cells ([mkP pn pp pf pb pr] ++ kidsP m (mkP pn pp pf pb pr) ((t.kids.map (Tr.pl m)).take 0))) S10 rfl (by omega) rfl
  refine fw_loop (fun m' a' w' => ∃ A1 : Option Addr, ∃ n1 : Nat, ∃ c1 : Nat, ∃ k : Nat, t.kids.length - k = m' ∧ Fr 43 [] a' [(3, .pointer (some ⟨g3, 0, none⟩)), (4, .slice none 0 0), (5, .slice A1 n1 c1), (11, .slice (t.dA) (t.kids.length) (t.dc)), (12, .int .i64 (↑t.kids.length)), (13, .int .i64 (↑k))] ∧ Sp R w' (SA.own (.slice A1 n1 c1) 39 5 n1 (flatC Ty39.cells ([mkP pn pp pf pb pr] ++ kidsP m (mkP pn pp pf pb pr) ((t.kids.map (Tr.pl m)).take k))) :: SA.blk g3 39 #[.string pn, .string pp, .string pf, .bool pb, .string pr] :: L) ∧ (k ≤ t.kids.length) ∧ (n1 = ([mkP pn pp pf pb pr] ++ kidsP m (mkP pn pp pf pb pr) ((t.kids.map (Tr.pl m)).take k)).length)) _ ⟨some ⟨g8, 0, none⟩, 1, 1, 0, rfl, (F17.kk 3 (F17.kk 4 (F17.kk 5 (F17.kk 11 (F17.kk 12 (F17.kk 13 F17.nil)))))), S18.p2.drop.p1.p1, (by first | omega | (with_reducible assumption) | (simp; done)), rfl⟩ ?_
  rintro m19 a19 w19 ⟨A1, n1, c1, k, hm19, F19, S19, hk, hn1⟩ K19 hK19
  by_cases hlt_k : k < t.kids.length
  · have hc_k : decide ((↑k : Int) < ↑t.kids.length) = true := by first | (simp; done) | (simp; omega)
    have hlt_k2 : k < t.kids.length := by omega
    obtain ⟨ad20, hA20⟩ := (hD _ S19.drop.drop).addr (by simp; omega)
    have hkk := hto5 _ (List.getElem_mem hlt_k2)
    have hkn : t.kids[k].n.size ≤ 8 := trOk_n hkk
    have hKj : Rf R L fun w => TrAt w m t.kids[k] := fun w S => (h0 w S).2.2 _ (List.getElem_mem hlt_k2)
    have hsk := sum_take (f := Tr.cnt m) hlt_k2
    have hsk2 := hsk.2
    have e0 : (⟨#[46]⟩ : ByteArray).size = 1 := rfl
    have e1 : (⟨#[47, 99, 104, 97, 114, 116, 115, 47]⟩ : ByteArray).size = 8 := rfl
    have hlk : ([mkP pn pp pf pb pr] ++ kidsP m (mkP pn pp pf pb pr) ((t.kids.map (Tr.pl m)).take k)).length = 1 + ((t.kids.take k).map (Tr.cnt m)).sum := by rw [List.length_append, kidsP_len, ← List.map_take, List.map_map, show Pt.cnt m ∘ Tr.pl m = Tr.cnt m from by funext d; exact pl_cnt m d]; rfl
    refine wp_seq_k fun K21 hK21 => ?_
    refine wp_region_lit ?_
    refine op_q F19 (.bool (decide ((↑k : Int) < ↑t.kids.length))) ?_; intro a22 F22
    have F23 := F22.sb 14 (by kernel_rfl) hc_k
    refine wpList_nil ?_
    refine hK21 _ _ ?_; clear hK21 K21
    refine wp_seq_k fun K24 hK24 => ?_
    refine wp_cond_true (F23.ev (by kernel_rfl)) ?_
    refine wp_skip ?_
    refine hK24 _ _ ?_; clear hK24 K24
    refine wp_seq_k fun K25 hK25 => ?_
    refine wp_block ?_
    refine wp_seq_k fun K26 hK26 => ?_
    refine wp_region_lit ?_
    refine op_rq (v := .pointer (some (ad20.add (k * 18)))) F23 (r_ix rfl Try.underlying28 18 (by kernel_rfl) (F23.e (.slice (t.dA) (t.kids.length) (t.dc))) hA20 (F23.e (.int .i64 (↑k))) k (by first | rfl | omega | simp) (by first | omega | (simp; done) | (simp; omega)) (rfl)) ?_; intro a27 F27
    refine op_rq (v := .agg #[.bool false, .string t.kids[k].n, .string ⟨#[]⟩, .string ⟨#[]⟩, .string ⟨#[]⟩, .string ⟨#[]⟩, .string ⟨#[]⟩, .string ⟨#[]⟩, .string ⟨#[]⟩, .string ⟨#[]⟩, .string ⟨#[]⟩, .string ⟨#[]⟩, .slice none 0 0, .slice none 0 0, .slice none 0 0, .slice none 0 0, .slice t.kids[k].fA t.kids[k].fs.length t.kids[k].fc, .slice t.kids[k].dA t.kids[k].kids.length t.kids[k].dc]) F27 (r_ldR rfl (F27.e (.pointer (some (ad20.add (k * 18))))) (cs := [.bool false, .string t.kids[k].n, .string ⟨#[]⟩, .string ⟨#[]⟩, .string ⟨#[]⟩, .string ⟨#[]⟩, .string ⟨#[]⟩, .string ⟨#[]⟩, .string ⟨#[]⟩, .string ⟨#[]⟩, .string ⟨#[]⟩, .string ⟨#[]⟩, .slice none 0 0, .slice none 0 0, .slice none 0 0, .slice none 0 0, .slice t.kids[k].fA t.kids[k].fs.length t.kids[k].fc, .slice t.kids[k].dA t.kids[k].kids.length t.kids[k].dc]) ((hD _ S19.drop.drop).elA hA20 (j := k) (row := t.kids[k].cells) (by rw [List.getElem?_map, List.getElem?_eq_getElem hlt_k]; rfl)) Try.underlying30 rfl (by kernel_rfl) (v := #[.bool false, .string t.kids[k].n, .string ⟨#[]⟩, .string ⟨#[]⟩, .string ⟨#[]⟩, .string ⟨#[]⟩, .string ⟨#[]⟩, .string ⟨#[]⟩, .string ⟨#[]⟩, .string ⟨#[]⟩, .string ⟨#[]⟩, .string ⟨#[]⟩, .slice none 0 0, .slice none 0 0, .slice none 0 0, .slice none 0 0, .slice t.kids[k].fA t.kids[k].fs.length t.kids[k].fc, .slice t.kids[k].dA t.kids[k].kids.length t.kids[k].dc]) (by kernel_rfl)) ?_; intro a28 F28
    refine op_sq F28 (s_newp F28 30 #[.bool false, .string ⟨#[]⟩, .string ⟨#[]⟩, .string ⟨#[]⟩, .string ⟨#[]⟩, .string ⟨#[]⟩, .string ⟨#[]⟩, .string ⟨#[]⟩, .string ⟨#[]⟩, .string ⟨#[]⟩, .string ⟨#[]⟩, .string ⟨#[]⟩, .slice none 0 0, .slice none 0 0, .slice none 0 0, .slice none 0 0, .slice none 0 0, .slice none 0 0] (by kernel_rfl) (by kernel_rfl) (by kernel_rfl) S19) ?_
    rintro _ _ w30 ⟨g28, rfl, rfl⟩ S30 a30 F30
    refine op_sq0 F30 (s_stb rfl (F30.e (.pointer (some ⟨g28, 0, none⟩))) (F30.e (.agg #[.bool false, .string t.kids[k].n, .string ⟨#[]⟩, .string ⟨#[]⟩, .string ⟨#[]⟩, .string ⟨#[]⟩, .string ⟨#[]⟩, .string ⟨#[]⟩, .string ⟨#[]⟩, .string ⟨#[]⟩, .string ⟨#[]⟩, .string ⟨#[]⟩, .slice none 0 0, .slice none 0 0, .slice none 0 0, .slice none 0 0, .slice t.kids[k].fA t.kids[k].fs.length t.kids[k].fc, .slice t.kids[k].dA t.kids[k].kids.length t.kids[k].dc])) S30 (by kernel_rfl) rfl (by kernel_rfl)) ?_
    rintro _ _ w31 rfl S31 F31
    refine wpList_nil ?_
    refine hK26 _ _ ?_; clear hK26 K26
    refine wp_region_lit ?_
    refine op_q F31 (.slice A1 n1 c1) ?_; intro a32 F32
    refine op_rq (v := .agg #[.bool false, .string t.kids[k].n, .string ⟨#[]⟩, .string ⟨#[]⟩, .string ⟨#[]⟩, .string ⟨#[]⟩, .string ⟨#[]⟩, .string ⟨#[]⟩, .string ⟨#[]⟩, .string ⟨#[]⟩, .string ⟨#[]⟩, .string ⟨#[]⟩, .slice none 0 0, .slice none 0 0, .slice none 0 0, .slice none 0 0, .slice t.kids[k].fA t.kids[k].fs.length t.kids[k].fc, .slice t.kids[k].dA t.kids[k].kids.length t.kids[k].dc]) F32 (r_ldm rfl (F32.e (.pointer (some ⟨g28, 0, none⟩))) (S31.bk 0 rfl) 18 (by kernel_rfl) Try.underlying30 rfl (by kernel_rfl) (v := #[.bool false, .string t.kids[k].n, .string ⟨#[]⟩, .string ⟨#[]⟩, .string ⟨#[]⟩, .string ⟨#[]⟩, .string ⟨#[]⟩, .string ⟨#[]⟩, .string ⟨#[]⟩, .string ⟨#[]⟩, .string ⟨#[]⟩, .string ⟨#[]⟩, .slice none 0 0, .slice none 0 0, .slice none 0 0, .slice none 0 0, .slice t.kids[k].fA t.kids[k].fs.length t.kids[k].fc, .slice t.kids[k].dA t.kids[k].kids.length t.kids[k].dc]) (by kernel_rfl)) ?_; intro a33 F33
    refine op_q F33 (.pointer (some ⟨g3, 4, none⟩)) ?_; intro a34 F34
    refine op_rq (v := .string pr) F34 (r_ld rfl (F34.e (.pointer (some ⟨g3, 4, none⟩))) (v := .string pr) ((S31.bk 2 rfl).cell 4) Try.underlying9 rfl) ?_; intro a35 F35
    refine op_q F35 (.pointer (some ⟨g28, 1, none⟩)) ?_; intro a36 F36
    refine op_q F36 (.pointer (some ⟨g28, 1, none⟩)) ?_; intro a37 F37
    refine op_rq (v := .string t.kids[k].n) F37 (r_ld rfl (F37.e (.pointer (some ⟨g28, 1, none⟩))) (v := .string t.kids[k].n) ((S31.bk 0 rfl).cell 1) Try.underlying9 rfl) ?_; intro a38 F38
    refine op_q F38 (.pointer (some ⟨g3, 1, none⟩)) ?_; intro a39 F39
    refine op_rq (v := .string pp) F39 (r_ld rfl (F39.e (.pointer (some ⟨g3, 1, none⟩))) (v := .string pp) ((S31.bk 2 rfl).cell 1) Try.underlying9 rfl) ?_; intro a40 F40
    refine op_rq (v := .string (pp ++ (⟨#[46]⟩ : ByteArray))) F40 (r_sadd rfl (F40.e (.string pp)) (F40.e (.string ⟨#[46]⟩)) (by show pp.size + 1 ≤ 9223372036854775807; omega)) ?_; intro a41 F41
    refine op_q F41 (.pointer (some ⟨g28, 1, none⟩)) ?_; intro a42 F42
    refine op_q F42 (.pointer (some ⟨g28, 1, none⟩)) ?_; intro a43 F43
    refine op_rq (v := .string t.kids[k].n) F43 (r_ld rfl (F43.e (.pointer (some ⟨g28, 1, none⟩))) (v := .string t.kids[k].n) ((S31.bk 0 rfl).cell 1) Try.underlying9 rfl) ?_; intro a44 F44
    refine op_rq (v := .string ((pp ++ (⟨#[46]⟩ : ByteArray)) ++ t.kids[k].n)) F44 (r_sadd rfl (F44.e (.string (pp ++ (⟨#[46]⟩ : ByteArray)))) (F44.e (.string t.kids[k].n)) (by show (pp ++ (⟨#[46]⟩ : ByteArray)).size + t.kids[k].n.size ≤ 9223372036854775807; simp only [ByteArray.size_append, e0, e1]; omega)) ?_; intro a45 F45
    refine op_q F45 (.pointer (some ⟨g3, 2, none⟩)) ?_; intro a46 F46
    refine op_rq (v := .string pf) F46 (r_ld rfl (F46.e (.pointer (some ⟨g3, 2, none⟩))) (v := .string pf) ((S31.bk 2 rfl).cell 2) Try.underlying9 rfl) ?_; intro a47 F47
    refine op_rq (v := .string (pf ++ (⟨#[47, 99, 104, 97, 114, 116, 115, 47]⟩ : ByteArray))) F47 (r_sadd rfl (F47.e (.string pf)) (F47.e (.string ⟨#[47, 99, 104, 97, 114, 116, 115, 47]⟩)) (by show pf.size + 8 ≤ 9223372036854775807; omega)) ?_; intro a48 F48
    refine op_q F48 (.pointer (some ⟨g28, 1, none⟩)) ?_; intro a49 F49
    refine op_q F49 (.pointer (some ⟨g28, 1, none⟩)) ?_; intro a50 F50
    refine op_rq (v := .string t.kids[k].n) F50 (r_ld rfl (F50.e (.pointer (some ⟨g28, 1, none⟩))) (v := .string t.kids[k].n) ((S31.bk 0 rfl).cell 1) Try.underlying9 rfl) ?_; intro a51 F51
    refine op_rq (v := .string ((pf ++ (⟨#[47, 99, 104, 97, 114, 116, 115, 47]⟩ : ByteArray)) ++ t.kids[k].n)) F51 (r_sadd rfl (F51.e (.string (pf ++ (⟨#[47, 99, 104, 97, 114, 116, 115, 47]⟩ : ByteArray)))) (F51.e (.string t.kids[k].n)) (by show (pf ++ (⟨#[47, 99, 104, 97, 114, 116, 115, 47]⟩ : ByteArray)).size + t.kids[k].n.size ≤ 9223372036854775807; simp only [ByteArray.size_append, e0, e1]; omega)) ?_; intro a52 F52
    refine op_q F52 (.agg #[.string t.kids[k].n, .string ((pp ++ (⟨#[46]⟩ : ByteArray)) ++ t.kids[k].n), .string ((pf ++ (⟨#[47, 99, 104, 97, 114, 116, 115, 47]⟩ : ByteArray)) ++ t.kids[k].n), .bool false, .string pr]) ?_; intro a53 F53
    have hcl54 := ih t.kids[k] t.kids[k].n ((pp ++ (⟨#[46]⟩ : ByteArray)) ++ t.kids[k].n) ((pf ++ (⟨#[47, 99, 104, 97, 114, 116, 115, 47]⟩ : ByteArray)) ++ t.kids[k].n) false pr _ _ _ S31 (fun w S => hKj w S.drop.drop.drop) hkk (by omega) (by simp only [ByteArray.size_append, e0, e1]; omega)
    refine op_cq F53 (f := 67) hcl54 ?_
    rintro _ w54 ⟨A54, n54, c54, rfl, S54, hp0_54⟩
    refine ⟨_, rfl, ?_⟩
    intro a55 F55
    have hcb := hp0_54
    rw [specP_len, pl_cnt] at hcb
    have hn1b : n1 ≤ 1000 := by rw [hn1, hlk]; omega
    have hcb2 : n54 ≤ 1000 := by omega
    refine op_sq F55 (s_app rfl Try.underlying34 5 _ tin39 rfl rfl (F55.e (.slice A1 n1 c1)) S54.p2 (flatC Ty39.cells (specP (m) (mkP t.kids[k].n ((pp ++ (⟨#[46]⟩ : ByteArray)) ++ t.kids[k].n) ((pf ++ (⟨#[47, 99, 104, 97, 114, 116, 115, 47]⟩ : ByteArray)) ++ t.kids[k].n) false pr) (Tr.pl (m) t.kids[k]))) (F55.e (.slice A54 n54 c54)) (own_slN (S54.ow 0 rfl) (by first | omega | (simp; omega))) (by rw [flatC_len Ty39.len, ← hp0_54]) (flatC_one Ty39.one) (by omega) (by omega) (n' := n1 + n54) (by omega) (cs' := flatC Ty39.cells (([mkP pn pp pf pb pr] ++ kidsP m (mkP pn pp pf pb pr) ((t.kids.map (Tr.pl m)).take k)) ++ (specP (m) (mkP t.kids[k].n ((pp ++ (⟨#[46]⟩ : ByteArray)) ++ t.kids[k].n) ((pf ++ (⟨#[47, 99, 104, 97, 114, 116, 115, 47]⟩ : ByteArray)) ++ t.kids[k].n) false pr) (Tr.pl (m) t.kids[k])))) (flatC_app _ _ _).symm) ?_
    rintro _ _ w57 ⟨A56, c56, rfl, rfl⟩ S57 a57 F57
    refine op_q F57 (.slice A56 (n1 + n54) c56) ?_; intro a58 F58
    refine wpList_nil ?_
    refine hK25 _ _ ?_; clear hK25 K25
    refine wp_region_lit ?_
    refine op_rq (v := .int .i64 (↑(k + 1))) F58 (r_add (z := ↑(k + 1)) rfl (F58.e (.int .i64 (↑k))) (F58.e (.int .i64 1)) (wr64 (by omega) (by omega) (by omega))) ?_; intro a59 F59
    refine op_q F59 (.int .i64 (↑(k + 1))) ?_; intro a60 F60
    refine wpList_nil ?_
    have S61 : Sp R w57 (SA.own (.slice A56 (n1 + n54) c56) 39 5 (n1 + n54) (flatC Ty39.cells ([mkP pn pp pf pb pr] ++ kidsP m (mkP pn pp pf pb pr) ((t.kids.map (Tr.pl m)).take (k + 1)))) :: SA.own (.slice A54 n54 c54) 39 5 n54 (flatC Ty39.cells (specP (m) (mkP t.kids[k].n ((pp ++ (⟨#[46]⟩ : ByteArray)) ++ t.kids[k].n) ((pf ++ (⟨#[47, 99, 104, 97, 114, 116, 115, 47]⟩ : ByteArray)) ++ t.kids[k].n) false pr) (Tr.pl (m) t.kids[k]))) :: SA.blk g28 30 #[.bool false, .string t.kids[k].n, .string ⟨#[]⟩, .string ⟨#[]⟩, .string ⟨#[]⟩, .string ⟨#[]⟩, .string ⟨#[]⟩, .string ⟨#[]⟩, .string ⟨#[]⟩, .string ⟨#[]⟩, .string ⟨#[]⟩, .string ⟨#[]⟩, .slice none 0 0, .slice none 0 0, .slice none 0 0, .slice none 0 0, .slice t.kids[k].fA t.kids[k].fs.length t.kids[k].fc, .slice t.kids[k].dA t.kids[k].kids.length t.kids[k].dc] :: SA.blk g3 39 #[.string pn, .string pp, .string pf, .bool pb, .string pr] :: L) := by rw [kidsP_take (by omega), ← List.append_assoc, List.getElem_map, Tr.pl_n]; exact S57
    exact hK19 _ _ _ (by first | omega | (simp; omega)) ⟨A56, n1 + n54, c56, k + 1, rfl, (F60.kk 3 (F60.kk 4 (F60.kk 5 (F60.kk 11 (F60.kk 12 (F60.kk 13 F60.nil)))))), S61.p1.drop.p1.drop.p1.p1, (by first | omega | (with_reducible assumption) | (simp; done)), (by rw [hp0_54, hn1, ← List.length_append, kidsP_take (by omega), ← List.append_assoc, List.getElem_map, Tr.pl_n]; rfl)⟩
  · have hc_k : decide ((↑k : Int) < ↑t.kids.length) = false := by first | (simp; done) | (simp; omega)
    obtain rfl : k = t.kids.length := by omega
    rw [show (t.kids.map (Tr.pl m)).take t.kids.length = t.kids.map (Tr.pl m) from by rw [← hkm, List.take_length]] at hn1 S19
    refine wp_seq_k fun K62 hK62 => ?_
    refine wp_region_lit ?_
    refine op_q F19 (.bool (decide ((↑t.kids.length : Int) < ↑t.kids.length))) ?_; intro a63 F63
    have F64 := F63.sb 14 (by kernel_rfl) hc_k
    refine wpList_nil ?_
    refine hK62 _ _ ?_; clear hK62 K62
    refine wp_seq_k fun K65 hK65 => ?_
    refine wp_cond_false (F64.ev (by kernel_rfl)) ?_
    refine wp_exit ?_
    refine ex_then ?_; clear hK65 K65
    refine ex_then ?_
    refine ex_in ?_
    refine hK12 _ _ ?_; clear hK12 K12
    refine wp_seq_k fun K66 hK66 => ?_
    refine wp_region_lit ?_
    refine op_q F64 (.slice A1 n1 c1) ?_; intro a67 F67
    refine op_q F67 (.slice A1 n1 c1) ?_; intro a68 F68
    refine wpList_nil ?_
    refine hK66 _ _ ?_; clear hK66 K66
    refine wp_ret ?_
    have S69 : Sp R w19 (SA.own (.slice A1 n1 c1) 39 5 n1 (flatC Ty39.cells (specP (m + 1) (mkP pn pp pf pb pr) (Tr.pl (m + 1) t))) :: SA.blk g3 39 #[.string pn, .string pp, .string pf, .bool pb, .string pr] :: L) := S19
    refine (F68.res1 rfl (v := .slice A1 n1 c1) (by kernel_rfl) ?_).1
    exact ⟨A1, n1, c1, rfl, S69.p1.drop, hn1⟩
theorem chPaths_sp : ∀ m : Nat, SpecC m
  | 0 => fun t pn pp pf pb pr R L w S h0 ht _ _ => ht.elim
  | m + 1 => fun t pn pp pf pb pr R L w S h0 ht hz hp => chPaths_S m t pn pp pf pb pr R L w S h0 (chPaths_sp m) ht hz hp
end Go.Proofs.Ytkjcedlgljeoiaa

/- impl.ChartPaths, spec.ChPaths; zzFits1; opened arguments. -/
namespace Go.Proofs.Ytkjcedlgljeoiaa
open Go.RowKit Go.Lib
set_option linter.unusedVariables false
set_option linter.unusedSimpArgs false
theorem root_at {R : Ctx} {w : World} {m : Nat} {o : Ob} {L : List SA} (h : ObOk (m + 1) o) (S : Sp R w (SA.root (m + 1) o :: L)) : ChnAt w [o] ∧ ObAt w (m + 1) o := by
  have S1 : Sp R w (SA.blk o.g 245 #[.slice none 0 0, .pointer (some ⟨o.gm, 0, none⟩), .slice none 0 0, .map none, .slice none 0 0, .slice o.fA o.ps.length o.fc, .pointer none, .slice o.dA o.kids.length o.dc] :: SA.ob (m + 1) o :: L) := Sp.star.1 S
  have h2 := Sp.obAt h S1.drop
  exact ⟨⟨S1.bk 0 rfl, h2.1⟩, h2⟩
theorem root_paths {t : Tr} {o : Ob} (h : Ob.pl 7 o = Tr.pl 7 t) : [] ++ specP 7 (pathOf (o :: [])) (Ob.pl 7 o) = specP 7 (rootP t.n) (Tr.pl 7 t) := by
  have e : o.n = t.n := by rw [← Ob.pl_n 7, h, Tr.pl_n]
  rw [h, ← e]; rfl
theorem tr_flat {t : Tr} {n : ByteArray} {fA dA : Option Addr} {fl fc dl dc : Nat} (h : t.cells = [Value.bool false, .string n, .string ⟨#[]⟩, .string ⟨#[]⟩, .string ⟨#[]⟩, .string ⟨#[]⟩, .string ⟨#[]⟩, .string ⟨#[]⟩, .string ⟨#[]⟩, .string ⟨#[]⟩, .string ⟨#[]⟩, .string ⟨#[]⟩, .slice none 0 0, .slice none 0 0, .slice none 0 0, .slice none 0 0, .slice fA fl fc, .slice dA dl dc]) : n = t.n ∧ fA = t.fA ∧ fl = t.fs.length ∧ fc = t.fc ∧ dA = t.dA ∧ dl = t.kids.length ∧ dc = t.dc := by
  simp only [Tr.cells, List.cons.injEq, Value.string.injEq, Value.slice.injEq, and_true, true_and] at h
  obtain ⟨h1, ⟨h2, h3, h4⟩, h5, h6, h7⟩ := h
  exact ⟨h1.symm, h2.symm, h3.symm, h4.symm, h5.symm, h6.symm, h7.symm⟩
/-- The argument, opened. -/
abbrev Ty30 := Ti
def Ty30.ok (x : Ty30) (w : World) : Prop := TiAt w 7 x
theorem openTi {H : Type} {enc : TypeId × Value → H} {w : World} {base : Nat} {spare : Nat → Bool} {held : Bool} : ∀ (m : Nat) (cs : List Value), Rd enc Try.prog w base spare held 30 cs → ∃ x : Ti, cs = x.cells ∧ TiAt w m x := by
  intro m
  induction m with
  | zero =>
    intro cs h
    have hl := rd_len Try.underlying30 h
    rw [show Try.prog.cellsOf 30 = 18 from by kernel_rfl] at hl
    have r0 : Rd enc Try.prog w base spare held 4 ((cs.drop 0).take (Try.prog.cellsOf 4)) := rd_field Try.underlying30 h 0 _ rfl
    rw [show Try.prog.cellsOf 4 = 1 from by kernel_rfl] at r0
    have r1 : Rd enc Try.prog w base spare held 26 ((cs.drop 1).take (Try.prog.cellsOf 26)) := rd_field Try.underlying30 h 1 _ rfl
    rw [show Try.prog.cellsOf 26 = 15 from by kernel_rfl] at r1
    have r2 : Rd enc Try.prog w base spare held 27 ((cs.drop 16).take (Try.prog.cellsOf 27)) := rd_field Try.underlying30 h 2 _ rfl
    rw [show Try.prog.cellsOf 27 = 1 from by kernel_rfl] at r2
    have r3 : Rd enc Try.prog w base spare held 28 ((cs.drop 17).take (Try.prog.cellsOf 28)) := rd_field Try.underlying30 h 3 _ rfl
    rw [show Try.prog.cellsOf 28 = 1 from by kernel_rfl] at r3
    match cs, hl with
    | [c0, c1, c2, c3, c4, c5, c6, c7, c8, c9, c10, c11, c12, c13, c14, c15, c16, c17], _ =>
      obtain ⟨v0, e0⟩ := rd_bool Try.underlying4 r0
      obtain ⟨v1, e1, z1⟩ := openT26 _ r1
      obtain ⟨a2, k2, rows2, e2, z2, _, y2, x2⟩ := rd_slice Try.underlying27 r2
      obtain ⟨v2, rfl, u2⟩ := rows_map (f := Ty94.cells) (Q := fun x => x.ok w) (fun r hr => openT94 r (x2 r hr).2)
      rw [show Try.prog.cellsOf 94 = 2 from by kernel_rfl] at y2
      rw [List.length_map] at e2 z2
      obtain ⟨a3, k3, rows3, e3, z3, _, y3, x3⟩ := rd_slice Try.underlying28 r3
      refine ⟨.mk v0 v1 a2 k2 v2 a3 k3 (List.replicate rows3.length (.mk false v1 none 0 [] none 0 [])), ?_, trivial⟩
      show _ = [Value.bool v0] ++ v1.cells ++ [Value.slice a2 v2.length k2] ++ [Value.slice a3 (List.replicate rows3.length _).length k3]
      rw [List.length_replicate]
      simp only [List.drop, List.take] at e0 e1 e2 e3
      rw [← e0, ← e1, ← e2, ← e3]; rfl
  | succ m ih =>
    intro cs h
    have hl := rd_len Try.underlying30 h
    rw [show Try.prog.cellsOf 30 = 18 from by kernel_rfl] at hl
    have r0 : Rd enc Try.prog w base spare held 4 ((cs.drop 0).take (Try.prog.cellsOf 4)) := rd_field Try.underlying30 h 0 _ rfl
    rw [show Try.prog.cellsOf 4 = 1 from by kernel_rfl] at r0
    have r1 : Rd enc Try.prog w base spare held 26 ((cs.drop 1).take (Try.prog.cellsOf 26)) := rd_field Try.underlying30 h 1 _ rfl
    rw [show Try.prog.cellsOf 26 = 15 from by kernel_rfl] at r1
    have r2 : Rd enc Try.prog w base spare held 27 ((cs.drop 16).take (Try.prog.cellsOf 27)) := rd_field Try.underlying30 h 2 _ rfl
    rw [show Try.prog.cellsOf 27 = 1 from by kernel_rfl] at r2
    have r3 : Rd enc Try.prog w base spare held 28 ((cs.drop 17).take (Try.prog.cellsOf 28)) := rd_field Try.underlying30 h 3 _ rfl
    rw [show Try.prog.cellsOf 28 = 1 from by kernel_rfl] at r3
    match cs, hl with
    | [c0, c1, c2, c3, c4, c5, c6, c7, c8, c9, c10, c11, c12, c13, c14, c15, c16, c17], _ =>
      obtain ⟨v0, e0⟩ := rd_bool Try.underlying4 r0
      obtain ⟨v1, e1, z1⟩ := openT26 _ r1
      obtain ⟨a2, k2, rows2, e2, z2, _, y2, x2⟩ := rd_slice Try.underlying27 r2
      obtain ⟨v2, rfl, u2⟩ := rows_map (f := Ty94.cells) (Q := fun x => x.ok w) (fun r hr => openT94 r (x2 r hr).2)
      rw [show Try.prog.cellsOf 94 = 2 from by kernel_rfl] at y2
      rw [List.length_map] at e2 z2
      obtain ⟨a3, k3, rows3, e3, z3, _, y3, x3⟩ := rd_slice Try.underlying28 r3
      obtain ⟨v3, rfl, u3⟩ := rows_map (f := Ti.cells) (Q := fun x => TiAt w m x) (fun r hr => ih r (x3 r hr).2)
      rw [show Try.prog.cellsOf 30 = 18 from by kernel_rfl] at y3
      rw [List.length_map] at e3
      refine ⟨.mk v0 v1 a2 k2 v2 a3 k3 v3, ?_, z1, ⟨y2, u2⟩, y3, u3⟩
      show _ = [Value.bool v0] ++ v1.cells ++ [Value.slice a2 v2.length k2] ++ [Value.slice a3 v3.length k3]
      simp only [List.drop, List.take] at e0 e1 e2 e3
      rw [← e0, ← e1, ← e2, ← e3]; rfl
theorem openT30 {H : Type} {enc : TypeId × Value → H} {w : World} {base : Nat} {spare : Nat → Bool} {held : Bool} (cs : List Value) (h : Rd enc Try.prog w base spare held 30 cs) : ∃ x : Ty30, cs = x.cells ∧ x.ok w := openTi 7 cs h
theorem chart2_7 (t : Tr) (gl : Nat) (R : Ctx) (L : List SA) (w : World) (S : Sp R w (SA.blk (gl) 3 #[.int .i64 100] :: L)) (h0 : Rf R L fun w => TrAt w (7) t) (ht : TrOk 7 t) (hn : Tr.cnt 7 t ≤ 100) :
    Calls Try.prog 126 #[.agg #[.bool false, .string ((nmM t.n).fName), .string ((nmM t.n).fHome), .string ((nmM t.n).fVersion), .string ((nmM t.n).fDescription), .string ((nmM t.n).fIcon), .string ((nmM t.n).fAPIVersion), .string ((nmM t.n).fCondition), .string ((nmM t.n).fTags), .string ((nmM t.n).fAppVersion), .string ((nmM t.n).fKubeVersion), .string ((nmM t.n).fType), .slice ((nmM t.n).fSources_a) ((nmM t.n).fSources.length) ((nmM t.n).fSources_c), .slice ((nmM t.n).fKeywords_a) ((nmM t.n).fKeywords.length) ((nmM t.n).fKeywords_c), .slice ((nmM t.n).fMaintainers_a) ((nmM t.n).fMaintainers.length) ((nmM t.n).fMaintainers_c), .slice ((nmM t.n).fDependencies_a) ((nmM t.n).fDependencies.length) ((nmM t.n).fDependencies_c), .slice (t.fA) (t.fs.length) (t.fc), .slice (t.dA) (t.kids.length) (t.dc)], .int .i64 20, .pointer (some ⟨gl, 0, none⟩)] w fun e w' => ∃ o : Ob, e = .returned (.tuple #[.pointer (some ⟨o.g, 0, none⟩), .bool true]) ∧ Sp R w' (SA.root (7) o :: L) ∧ (ObOk (7) o) ∧ (Ob.pl (7) o = Tr.pl (7) t) := by
  refine (chart2_sp 7 t 20 gl 100 R L w S h0 ht ⟨by omega, by omega⟩ ⟨hn, by omega⟩).mono fun e w' ⟨o, he, hS, h1, h2⟩ => ⟨o, he, hS.drop, h1, h2⟩
theorem chPaths_7 (t : Tr) (R : Ctx) (L : List SA) (w : World) (S : Sp R w (L)) (h0 : Rf R L fun w => TrAt w (7) t) (ht : TrOk 7 t) (hn : Tr.cnt 7 t ≤ 100) :
    Calls Try.prog 67 #[.agg #[.bool false, .string ((nmM t.n).fName), .string ((nmM t.n).fHome), .string ((nmM t.n).fVersion), .string ((nmM t.n).fDescription), .string ((nmM t.n).fIcon), .string ((nmM t.n).fAPIVersion), .string ((nmM t.n).fCondition), .string ((nmM t.n).fTags), .string ((nmM t.n).fAppVersion), .string ((nmM t.n).fKubeVersion), .string ((nmM t.n).fType), .slice ((nmM t.n).fSources_a) ((nmM t.n).fSources.length) ((nmM t.n).fSources_c), .slice ((nmM t.n).fKeywords_a) ((nmM t.n).fKeywords.length) ((nmM t.n).fKeywords_c), .slice ((nmM t.n).fMaintainers_a) ((nmM t.n).fMaintainers.length) ((nmM t.n).fMaintainers_c), .slice ((nmM t.n).fDependencies_a) ((nmM t.n).fDependencies.length) ((nmM t.n).fDependencies_c), .slice (t.fA) (t.fs.length) (t.fc), .slice (t.dA) (t.kids.length) (t.dc)], .agg #[.string ((nmM t.n).fName), .string ((nmM t.n).fName), .string ((nmM t.n).fName), .bool true, .string ((nmM t.n).fName)]] w fun e w' => ∃ A : Option Addr, ∃ c : Nat, e = .returned (.slice A ((specP 7 (rootP t.n) (Tr.pl 7 t)).length) c) ∧ Sp R w' (SA.own (.slice A (specP 7 (rootP t.n) (Tr.pl 7 t)).length c) 39 5 ((specP 7 (rootP t.n) (Tr.pl 7 t)).length) (flatC Ty39.cells (specP 7 (rootP t.n) (Tr.pl 7 t))) :: L) := by
  have h8 := trOk_n ht
  refine (chPaths_sp 7 t t.n t.n t.n true t.n R L w S h0 ht (by omega) ⟨by omega, by omega⟩).mono fun e w' ⟨A, n, c, he, hS, h1⟩ => ?_
  subst h1
  exact ⟨A, c, he, hS⟩
theorem chTree_7 (x : Ti) (gl : Nat) (R : Ctx) (L : List SA) (w : World) (S : Sp R w (SA.blk (gl) 3 #[.int .i64 30] :: L)) (h0 : Rf R L fun w => TiAt w (7) x)  :
    Calls Try.prog 15 #[.agg #[.bool x.bare, .string x.m.fName, .string x.m.fHome, .string x.m.fVersion, .string x.m.fDescription, .string x.m.fIcon, .string x.m.fAPIVersion, .string x.m.fCondition, .string x.m.fTags, .string x.m.fAppVersion, .string x.m.fKubeVersion, .string x.m.fType, .slice (x.m.fSources_a) (x.m.fSources.length) (x.m.fSources_c), .slice (x.m.fKeywords_a) (x.m.fKeywords.length) (x.m.fKeywords_c), .slice (x.m.fMaintainers_a) (x.m.fMaintainers.length) (x.m.fMaintainers_c), .slice (x.m.fDependencies_a) (x.m.fDependencies.length) (x.m.fDependencies_c), .slice (x.fA) (x.fs.length) (x.fc), .slice (x.dA) (x.kids.length) (x.dc)], .int .i64 0, .pointer (some ⟨gl, 0, none⟩)] w fun e w' => ∃ nn : ByteArray, ∃ fA : Option Addr, ∃ fl : Nat, ∃ fc : Nat, ∃ dA : Option Addr, ∃ dl : Nat, ∃ dc : Nat, ∃ kz : Nat, ∃ nz : Nat, e = .returned (.agg #[.bool false, .string nn, .string ⟨#[]⟩, .string ⟨#[]⟩, .string ⟨#[]⟩, .string ⟨#[]⟩, .string ⟨#[]⟩, .string ⟨#[]⟩, .string ⟨#[]⟩, .string ⟨#[]⟩, .string ⟨#[]⟩, .string ⟨#[]⟩, .slice none 0 0, .slice none 0 0, .slice none 0 0, .slice none 0 0, .slice fA fl fc, .slice dA dl dc]) ∧ Sp R w' (SA.blk (gl) 3 #[.int .i64 (↑nz)] :: SA.tro (7) nn fA fl fc dA dl dc kz :: L) ∧ (kz + nz = 30) := chTree_sp 6 x gl 30 R L w S h0 (by omega) (by omega)
set_option maxRecDepth 100000 in
set_option maxHeartbeats 20000000 in
theorem zzFits1_ti (x : Ti) (R : Ctx) (L : List SA) (w : World) (S : Sp R w (L)) (h0 : Rf R L fun w => TiAt w (7) x)  :
    Calls Try.prog 14 #[.agg #[.bool x.bare, .string x.m.fName, .string x.m.fHome, .string x.m.fVersion, .string x.m.fDescription, .string x.m.fIcon, .string x.m.fAPIVersion, .string x.m.fCondition, .string x.m.fTags, .string x.m.fAppVersion, .string x.m.fKubeVersion, .string x.m.fType, .slice (x.m.fSources_a) (x.m.fSources.length) (x.m.fSources_c), .slice (x.m.fKeywords_a) (x.m.fKeywords.length) (x.m.fKeywords_c), .slice (x.m.fMaintainers_a) (x.m.fMaintainers.length) (x.m.fMaintainers_c), .slice (x.m.fDependencies_a) (x.m.fDependencies.length) (x.m.fDependencies_c), .slice (x.fA) (x.fs.length) (x.fc), .slice (x.dA) (x.kids.length) (x.dc)]] w fun e w' => ∃ b : Bool, e = .returned (.bool b) ∧ Sp R w' (L) := by
  have hM : Rf R L fun w => Ty26.ok x.m w := fun w S => (h0 w S).1
  have hF : Rf R L fun w => Rows w x.fA 2 (x.fs.map Ty94.cells) := fun w S => (h0 w S).2.1.1
  have hO : Rf R L fun w => Ty94.oks x.fs w := fun w S => (h0 w S).2.1.2
  refine fw_enter (fn := Try.f14) rfl rfl 15 rfl (Nat.le_of_ble_eq_true rfl) ?_
  intro a0 F0
  refine wp_seq_k fun K1 hK1 => ?_
  refine wp_region_lit ?_
  refine op_sq F0 (s_newp F0 30 #[.bool x.bare, .string x.m.fName, .string x.m.fHome, .string x.m.fVersion, .string x.m.fDescription, .string x.m.fIcon, .string x.m.fAPIVersion, .string x.m.fCondition, .string x.m.fTags, .string x.m.fAppVersion, .string x.m.fKubeVersion, .string x.m.fType, .slice (x.m.fSources_a) (x.m.fSources.length) (x.m.fSources_c), .slice (x.m.fKeywords_a) (x.m.fKeywords.length) (x.m.fKeywords_c), .slice (x.m.fMaintainers_a) (x.m.fMaintainers.length) (x.m.fMaintainers_c), .slice (x.m.fDependencies_a) (x.m.fDependencies.length) (x.m.fDependencies_c), .slice (x.fA) (x.fs.length) (x.fc), .slice (x.dA) (x.kids.length) (x.dc)] (by kernel_rfl) (by kernel_rfl) (by kernel_rfl) S) ?_
  rintro _ _ w3 ⟨g1, rfl, rfl⟩ S3 a3 F3
  refine op_q F3 (.bool false) ?_; intro a4 F4
  refine wpList_nil ?_
  refine hK1 _ _ ?_; clear hK1 K1
  refine wp_seq_k fun K5 hK5 => ?_
  refine wp_seq_k fun K6 hK6 => ?_
  refine wp_region_lit ?_
  refine op_q F4 (.pointer (some ⟨g1, 1, none⟩)) ?_; intro a7 F7
  refine op_rq (v := .agg #[.string x.m.fName, .string x.m.fHome, .string x.m.fVersion, .string x.m.fDescription, .string x.m.fIcon, .string x.m.fAPIVersion, .string x.m.fCondition, .string x.m.fTags, .string x.m.fAppVersion, .string x.m.fKubeVersion, .string x.m.fType, .slice (x.m.fSources_a) (x.m.fSources.length) (x.m.fSources_c), .slice (x.m.fKeywords_a) (x.m.fKeywords.length) (x.m.fKeywords_c), .slice (x.m.fMaintainers_a) (x.m.fMaintainers.length) (x.m.fMaintainers_c), .slice (x.m.fDependencies_a) (x.m.fDependencies.length) (x.m.fDependencies_c)]) F7 (r_ldm rfl (F7.e (.pointer (some ⟨g1, 1, none⟩))) (S3.bk 0 rfl) 15 (by kernel_rfl) Try.underlying26 rfl (by kernel_rfl) (v := #[.string x.m.fName, .string x.m.fHome, .string x.m.fVersion, .string x.m.fDescription, .string x.m.fIcon, .string x.m.fAPIVersion, .string x.m.fCondition, .string x.m.fTags, .string x.m.fAppVersion, .string x.m.fKubeVersion, .string x.m.fType, .slice (x.m.fSources_a) (x.m.fSources.length) (x.m.fSources_c), .slice (x.m.fKeywords_a) (x.m.fKeywords.length) (x.m.fKeywords_c), .slice (x.m.fMaintainers_a) (x.m.fMaintainers.length) (x.m.fMaintainers_c), .slice (x.m.fDependencies_a) (x.m.fDependencies.length) (x.m.fDependencies_c)]) (by kernel_rfl)) ?_; intro a8 F8
  refine op_cq F8 (f := 37) (args := #[.agg #[.string x.m.fName, .string x.m.fHome, .string x.m.fVersion, .string x.m.fDescription, .string x.m.fIcon, .string x.m.fAPIVersion, .string x.m.fCondition, .string x.m.fTags, .string x.m.fAppVersion, .string x.m.fKubeVersion, .string x.m.fType, .slice (x.m.fSources_a) (x.m.fSources.length) (x.m.fSources_c), .slice (x.m.fKeywords_a) (x.m.fKeywords.length) (x.m.fKeywords_c), .slice (x.m.fMaintainers_a) (x.m.fMaintainers.length) (x.m.fMaintainers_c), .slice (x.m.fDependencies_a) (x.m.fDependencies.length) (x.m.fDependencies_c)]]) (fits37_any x.m _ (hM _ S3.drop)) ?_
  rintro _ w9 ⟨rfl, hb_9⟩
  refine ⟨_, rfl, ?_⟩
  intro a10 F10
  have S9 := S3.below hb_9
  refine op_q F10 (.bool (!(fits37 x.m))) ?_; intro a11 F11
  refine wpList_nil ?_
  refine hK6 _ _ ?_; clear hK6 K6
  rcases btf (fits37 x.m) with hc12 | hc12
  · have F13 := F11.sb 5 (by kernel_rfl) hc12
    have F14 := F13.sb 6 (by kernel_rfl) (show (!(fits37 x.m)) = false by rw [hc12]; rfl)
    refine wp_cond_false (F14.ev (by kernel_rfl)) ?_
    refine wp_skip ?_
    refine hK5 _ _ ?_; clear hK5 K5
    refine wp_seq_k fun K15 hK15 => ?_
    refine wp_seq_k fun K16 hK16 => ?_
    refine wp_region_lit ?_
    refine op_q F14 (.pointer (some ⟨g1, 16, none⟩)) ?_; intro a17 F17
    refine op_rq (v := .slice (x.fA) (x.fs.length) (x.fc)) F17 (r_ld rfl (F17.e (.pointer (some ⟨g1, 16, none⟩))) (v := .slice (x.fA) (x.fs.length) (x.fc)) ((S9.bk 0 rfl).cell 16) Try.underlying27 rfl) ?_; intro a18 F18
    refine op_cq F18 (f := 63) (args := #[.slice (x.fA) (x.fs.length) (x.fc)]) (fits63_any x.fA x.fc x.fs _ (hF _ S9.drop) (hO _ S9.drop)) ?_
    rintro _ w19 ⟨rfl, hb_19⟩
    refine ⟨_, rfl, ?_⟩
    intro a20 F20
    have S19 := S9.below hb_19
    refine op_q F20 (.bool (!(fits63 x.fs))) ?_; intro a21 F21
    refine wpList_nil ?_
    refine hK16 _ _ ?_; clear hK16 K16
    rcases btf (fits63 x.fs) with hc22 | hc22
    · have F23 := F21.sb 9 (by kernel_rfl) hc22
      have F24 := F23.sb 10 (by kernel_rfl) (show (!(fits63 x.fs)) = false by rw [hc22]; rfl)
      refine wp_cond_false (F24.ev (by kernel_rfl)) ?_
      refine wp_skip ?_
      refine hK15 _ _ ?_; clear hK15 K15
      refine wp_seq_k fun K25 hK25 => ?_
      refine wp_seq_k fun K26 hK26 => ?_
      refine wp_region_lit ?_
      refine op_q F24 (.pointer (some ⟨g1, 17, none⟩)) ?_; intro a27 F27
      refine op_rq (v := .slice (x.dA) (x.kids.length) (x.dc)) F27 (r_ld rfl (F27.e (.pointer (some ⟨g1, 17, none⟩))) (v := .slice (x.dA) (x.kids.length) (x.dc)) ((S19.bk 0 rfl).cell 17) Try.underlying28 rfl) ?_; intro a28 F28
      refine op_q F28 (.int .i64 (↑x.kids.length)) ?_; intro a29 F29
      refine op_q F29 (.bool (decide ((2147483647 : Int) < ↑x.kids.length))) ?_; intro a30 F30
      refine wpList_nil ?_
      refine hK26 _ _ ?_; clear hK26 K26
      rcases btf (decide ((2147483647 : Int) < ↑x.kids.length)) with hc31 | hc31
      · have hc31p := of_decide_eq_true hc31
        have F32 := F30.sb 14 (by kernel_rfl) hc31
        refine wp_cond_true (F32.ev (by kernel_rfl)) ?_
        refine wp_seq_k fun K33 hK33 => ?_
        refine wp_region_lit ?_
        refine op_q F32 (.bool false) ?_; intro a34 F34
        refine wpList_nil ?_
        refine hK33 _ _ ?_; clear hK33 K33
        refine wp_ret ?_
        refine ret_then ?_
        refine (F34.res1 rfl (v := .bool false) (by kernel_rfl) ?_).1
        exact ⟨false, rfl, S19.drop⟩
      · have hc31p := of_decide_eq_false hc31
        have F35 := F30.sb 14 (by kernel_rfl) hc31
        refine wp_cond_false (F35.ev (by kernel_rfl)) ?_
        refine wp_skip ?_
        refine hK25 _ _ ?_; clear hK25 K25
        refine wp_seq_k fun K36 hK36 => ?_
        refine wp_region_lit ?_
        refine op_q F35 (.bool true) ?_; intro a37 F37
        refine wpList_nil ?_
        refine hK36 _ _ ?_; clear hK36 K36
        refine wp_ret ?_
        refine (F37.res1 rfl (v := .bool true) (by kernel_rfl) ?_).1
        exact ⟨true, rfl, S19.drop⟩
    · have F38 := F21.sb 9 (by kernel_rfl) hc22
      have F39 := F38.sb 10 (by kernel_rfl) (show (!(fits63 x.fs)) = true by rw [hc22]; rfl)
      refine wp_cond_true (F39.ev (by kernel_rfl)) ?_
      refine wp_seq_k fun K40 hK40 => ?_
      refine wp_region_lit ?_
      refine op_q F39 (.bool false) ?_; intro a41 F41
      refine wpList_nil ?_
      refine hK40 _ _ ?_; clear hK40 K40
      refine wp_ret ?_
      refine ret_then ?_
      refine (F41.res1 rfl (v := .bool false) (by kernel_rfl) ?_).1
      exact ⟨false, rfl, S19.drop⟩
  · have F42 := F11.sb 5 (by kernel_rfl) hc12
    have F43 := F42.sb 6 (by kernel_rfl) (show (!(fits37 x.m)) = true by rw [hc12]; rfl)
    refine wp_cond_true (F43.ev (by kernel_rfl)) ?_
    refine wp_seq_k fun K44 hK44 => ?_
    refine wp_region_lit ?_
    refine op_q F43 (.bool false) ?_; intro a45 F45
    refine wpList_nil ?_
    refine hK44 _ _ ?_; clear hK44 K44
    refine wp_ret ?_
    refine ret_then ?_
    refine (F45.res1 rfl (v := .bool false) (by kernel_rfl) ?_).1
    exact ⟨false, rfl, S9.drop⟩
set_option maxRecDepth 100000 in
set_option maxHeartbeats 20000000 in
theorem chartOf_tr (t : Tr) (R : Ctx) (L : List SA) (w : World) (S : Sp R w (L)) (h0 : Rf R L fun w => TrAt w (7) t) (ht : TrOk 7 t) (hn : Tr.cnt 7 t ≤ 100) :
    Calls Try.prog 65 #[.agg #[.bool false, .string ((nmM t.n).fName), .string ((nmM t.n).fHome), .string ((nmM t.n).fVersion), .string ((nmM t.n).fDescription), .string ((nmM t.n).fIcon), .string ((nmM t.n).fAPIVersion), .string ((nmM t.n).fCondition), .string ((nmM t.n).fTags), .string ((nmM t.n).fAppVersion), .string ((nmM t.n).fKubeVersion), .string ((nmM t.n).fType), .slice ((nmM t.n).fSources_a) ((nmM t.n).fSources.length) ((nmM t.n).fSources_c), .slice ((nmM t.n).fKeywords_a) ((nmM t.n).fKeywords.length) ((nmM t.n).fKeywords_c), .slice ((nmM t.n).fMaintainers_a) ((nmM t.n).fMaintainers.length) ((nmM t.n).fMaintainers_c), .slice ((nmM t.n).fDependencies_a) ((nmM t.n).fDependencies.length) ((nmM t.n).fDependencies_c), .slice (t.fA) (t.fs.length) (t.fc), .slice (t.dA) (t.kids.length) (t.dc)]] w fun e w' => ∃ o : Ob, e = .returned (.tuple #[.pointer (some ⟨o.g, 0, none⟩), .bool true]) ∧ Sp R w' (SA.root (7) o :: L) ∧ (ObOk (7) o) ∧ (Ob.pl (7) o = Tr.pl (7) t) := by
  refine fw_enter (fn := Try.f65) rfl rfl 9 rfl (Nat.le_of_ble_eq_true rfl) ?_
  intro a0 F0
  refine wp_seq_k fun K1 hK1 => ?_
  refine wp_region_lit ?_
  refine op_sq F0 (s_newp F0 30 #[.bool false, .string ((nmM t.n).fName), .string ((nmM t.n).fHome), .string ((nmM t.n).fVersion), .string ((nmM t.n).fDescription), .string ((nmM t.n).fIcon), .string ((nmM t.n).fAPIVersion), .string ((nmM t.n).fCondition), .string ((nmM t.n).fTags), .string ((nmM t.n).fAppVersion), .string ((nmM t.n).fKubeVersion), .string ((nmM t.n).fType), .slice ((nmM t.n).fSources_a) ((nmM t.n).fSources.length) ((nmM t.n).fSources_c), .slice ((nmM t.n).fKeywords_a) ((nmM t.n).fKeywords.length) ((nmM t.n).fKeywords_c), .slice ((nmM t.n).fMaintainers_a) ((nmM t.n).fMaintainers.length) ((nmM t.n).fMaintainers_c), .slice ((nmM t.n).fDependencies_a) ((nmM t.n).fDependencies.length) ((nmM t.n).fDependencies_c), .slice (t.fA) (t.fs.length) (t.fc), .slice (t.dA) (t.kids.length) (t.dc)] (by kernel_rfl) (by kernel_rfl) (by kernel_rfl) S) ?_
  rintro _ _ w3 ⟨g1, rfl, rfl⟩ S3 a3 F3
  refine op_q F3 (.pointer none) ?_; intro a4 F4
  refine op_q F4 (.bool false) ?_; intro a5 F5
  refine wpList_nil ?_
  refine hK1 _ _ ?_; clear hK1 K1
  refine wp_seq_k fun K6 hK6 => ?_
  refine wp_region_lit ?_
  refine op_sq F5 (s_newp F5 3 #[.int .i64 0] (by kernel_rfl) (by kernel_rfl) (by kernel_rfl) S3) ?_
  rintro _ _ w8 ⟨g6, rfl, rfl⟩ S8 a8 F8
  refine op_sq0 F8 (s_st rfl (F8.e (.pointer (some ⟨g6, 0, none⟩))) (F8.e (.int .i64 100)) S8 (by kernel_rfl) rfl rfl rfl (cs := #[.int .i64 100]) (by kernel_rfl)) ?_
  rintro _ _ w9 rfl S9 F9
  refine wpList_nil ?_
  refine hK6 _ _ ?_; clear hK6 K6
  refine wp_seq_k fun K10 hK10 => ?_
  refine wp_region_lit ?_
  refine op_rq (v := .agg #[.bool false, .string ((nmM t.n).fName), .string ((nmM t.n).fHome), .string ((nmM t.n).fVersion), .string ((nmM t.n).fDescription), .string ((nmM t.n).fIcon), .string ((nmM t.n).fAPIVersion), .string ((nmM t.n).fCondition), .string ((nmM t.n).fTags), .string ((nmM t.n).fAppVersion), .string ((nmM t.n).fKubeVersion), .string ((nmM t.n).fType), .slice ((nmM t.n).fSources_a) ((nmM t.n).fSources.length) ((nmM t.n).fSources_c), .slice ((nmM t.n).fKeywords_a) ((nmM t.n).fKeywords.length) ((nmM t.n).fKeywords_c), .slice ((nmM t.n).fMaintainers_a) ((nmM t.n).fMaintainers.length) ((nmM t.n).fMaintainers_c), .slice ((nmM t.n).fDependencies_a) ((nmM t.n).fDependencies.length) ((nmM t.n).fDependencies_c), .slice (t.fA) (t.fs.length) (t.fc), .slice (t.dA) (t.kids.length) (t.dc)]) F9 (r_ldm rfl (F9.e (.pointer (some ⟨g1, 0, none⟩))) (S9.bk 1 rfl) 18 (by kernel_rfl) Try.underlying30 rfl (by kernel_rfl) (v := #[.bool false, .string ((nmM t.n).fName), .string ((nmM t.n).fHome), .string ((nmM t.n).fVersion), .string ((nmM t.n).fDescription), .string ((nmM t.n).fIcon), .string ((nmM t.n).fAPIVersion), .string ((nmM t.n).fCondition), .string ((nmM t.n).fTags), .string ((nmM t.n).fAppVersion), .string ((nmM t.n).fKubeVersion), .string ((nmM t.n).fType), .slice ((nmM t.n).fSources_a) ((nmM t.n).fSources.length) ((nmM t.n).fSources_c), .slice ((nmM t.n).fKeywords_a) ((nmM t.n).fKeywords.length) ((nmM t.n).fKeywords_c), .slice ((nmM t.n).fMaintainers_a) ((nmM t.n).fMaintainers.length) ((nmM t.n).fMaintainers_c), .slice ((nmM t.n).fDependencies_a) ((nmM t.n).fDependencies.length) ((nmM t.n).fDependencies_c), .slice (t.fA) (t.fs.length) (t.fc), .slice (t.dA) (t.kids.length) (t.dc)]) (by kernel_rfl)) ?_; intro a11 F11
  refine op_cq F11 (f := 126) (args := #[.agg #[.bool false, .string ((nmM t.n).fName), .string ((nmM t.n).fHome), .string ((nmM t.n).fVersion), .string ((nmM t.n).fDescription), .string ((nmM t.n).fIcon), .string ((nmM t.n).fAPIVersion), .string ((nmM t.n).fCondition), .string ((nmM t.n).fTags), .string ((nmM t.n).fAppVersion), .string ((nmM t.n).fKubeVersion), .string ((nmM t.n).fType), .slice ((nmM t.n).fSources_a) ((nmM t.n).fSources.length) ((nmM t.n).fSources_c), .slice ((nmM t.n).fKeywords_a) ((nmM t.n).fKeywords.length) ((nmM t.n).fKeywords_c), .slice ((nmM t.n).fMaintainers_a) ((nmM t.n).fMaintainers.length) ((nmM t.n).fMaintainers_c), .slice ((nmM t.n).fDependencies_a) ((nmM t.n).fDependencies.length) ((nmM t.n).fDependencies_c), .slice (t.fA) (t.fs.length) (t.fc), .slice (t.dA) (t.kids.length) (t.dc)], .int .i64 20, .pointer (some ⟨g6, 0, none⟩)]) (chart2_7 t g6 _ _ _ S9 (fun w S => h0 w S.drop) (by first | omega | (simp; done) | (simp; omega)) (by first | omega | (simp; done) | (simp; omega))) ?_
  rintro _ w12 ⟨o12, rfl, S12, hp0_12, hp1_12⟩
  refine ⟨_, rfl, ?_⟩
  intro a13 F13
  refine op_q F13 (.pointer (some ⟨o12.g, 0, none⟩)) ?_; intro a14 F14
  refine op_q F14 (.bool true) ?_; intro a15 F15
  refine op_q F15 (.pointer (some ⟨o12.g, 0, none⟩)) ?_; intro a16 F16
  refine op_q F16 (.bool true) ?_; intro a17 F17
  refine wpList_nil ?_
  refine hK10 _ _ ?_; clear hK10 K10
  refine wp_ret ?_
  refine (F17.res2 rfl (v := .pointer (some ⟨o12.g, 0, none⟩)) (by kernel_rfl) (v2 := .bool true) (by kernel_rfl) ?_).1
  exact ⟨o12, rfl, S12.p1.drop, (by first | (with_reducible assumption) | omega), (by first | (with_reducible assumption) | omega)⟩
set_option maxRecDepth 100000 in
set_option maxHeartbeats 20000000 in
theorem chartPaths_tr (t : Tr) (R : Ctx) (L : List SA) (w : World) (S : Sp R w (L)) (h0 : Rf R L fun w => TrAt w (7) t) (ht : TrOk 7 t) (hn : Tr.cnt 7 t ≤ 100) :
    Calls Try.prog 16 #[.agg #[.bool false, .string ((nmM t.n).fName), .string ((nmM t.n).fHome), .string ((nmM t.n).fVersion), .string ((nmM t.n).fDescription), .string ((nmM t.n).fIcon), .string ((nmM t.n).fAPIVersion), .string ((nmM t.n).fCondition), .string ((nmM t.n).fTags), .string ((nmM t.n).fAppVersion), .string ((nmM t.n).fKubeVersion), .string ((nmM t.n).fType), .slice ((nmM t.n).fSources_a) ((nmM t.n).fSources.length) ((nmM t.n).fSources_c), .slice ((nmM t.n).fKeywords_a) ((nmM t.n).fKeywords.length) ((nmM t.n).fKeywords_c), .slice ((nmM t.n).fMaintainers_a) ((nmM t.n).fMaintainers.length) ((nmM t.n).fMaintainers_c), .slice ((nmM t.n).fDependencies_a) ((nmM t.n).fDependencies.length) ((nmM t.n).fDependencies_c), .slice (t.fA) (t.fs.length) (t.fc), .slice (t.dA) (t.kids.length) (t.dc)]] w fun e w' => ∃ A : Option Addr, ∃ c : Nat, e = .returned (.tuple #[.slice A ((specP 7 (rootP t.n) (Tr.pl 7 t)).length) c, .int .i64 0]) ∧ Sp R w' (SA.own (.slice A (specP 7 (rootP t.n) (Tr.pl 7 t)).length c) 39 5 ((specP 7 (rootP t.n) (Tr.pl 7 t)).length) (flatC Ty39.cells (specP 7 (rootP t.n) (Tr.pl 7 t))) :: L) := by
  refine fw_enter (fn := Try.f16) rfl rfl 15 rfl (Nat.le_of_ble_eq_true rfl) ?_
  intro a0 F0
  refine wp_seq_k fun K1 hK1 => ?_
  refine wp_region_lit ?_
  refine op_sq F0 (s_newp F0 30 #[.bool false, .string ((nmM t.n).fName), .string ((nmM t.n).fHome), .string ((nmM t.n).fVersion), .string ((nmM t.n).fDescription), .string ((nmM t.n).fIcon), .string ((nmM t.n).fAPIVersion), .string ((nmM t.n).fCondition), .string ((nmM t.n).fTags), .string ((nmM t.n).fAppVersion), .string ((nmM t.n).fKubeVersion), .string ((nmM t.n).fType), .slice ((nmM t.n).fSources_a) ((nmM t.n).fSources.length) ((nmM t.n).fSources_c), .slice ((nmM t.n).fKeywords_a) ((nmM t.n).fKeywords.length) ((nmM t.n).fKeywords_c), .slice ((nmM t.n).fMaintainers_a) ((nmM t.n).fMaintainers.length) ((nmM t.n).fMaintainers_c), .slice ((nmM t.n).fDependencies_a) ((nmM t.n).fDependencies.length) ((nmM t.n).fDependencies_c), .slice (t.fA) (t.fs.length) (t.fc), .slice (t.dA) (t.kids.length) (t.dc)] (by kernel_rfl) (by kernel_rfl) (by kernel_rfl) S) ?_
  rintro _ _ w3 ⟨g1, rfl, rfl⟩ S3 a3 F3
  refine op_q F3 (.slice none 0 0) ?_; intro a4 F4
  refine op_q F4 (.int .i64 0) ?_; intro a5 F5
  refine wpList_nil ?_
  refine hK1 _ _ ?_; clear hK1 K1
  refine wp_seq_k fun K6 hK6 => ?_
  refine wp_region_lit ?_
  refine op_rq (v := .agg #[.bool false, .string ((nmM t.n).fName), .string ((nmM t.n).fHome), .string ((nmM t.n).fVersion), .string ((nmM t.n).fDescription), .string ((nmM t.n).fIcon), .string ((nmM t.n).fAPIVersion), .string ((nmM t.n).fCondition), .string ((nmM t.n).fTags), .string ((nmM t.n).fAppVersion), .string ((nmM t.n).fKubeVersion), .string ((nmM t.n).fType), .slice ((nmM t.n).fSources_a) ((nmM t.n).fSources.length) ((nmM t.n).fSources_c), .slice ((nmM t.n).fKeywords_a) ((nmM t.n).fKeywords.length) ((nmM t.n).fKeywords_c), .slice ((nmM t.n).fMaintainers_a) ((nmM t.n).fMaintainers.length) ((nmM t.n).fMaintainers_c), .slice ((nmM t.n).fDependencies_a) ((nmM t.n).fDependencies.length) ((nmM t.n).fDependencies_c), .slice (t.fA) (t.fs.length) (t.fc), .slice (t.dA) (t.kids.length) (t.dc)]) F5 (r_ldm rfl (F5.e (.pointer (some ⟨g1, 0, none⟩))) (S3.bk 0 rfl) 18 (by kernel_rfl) Try.underlying30 rfl (by kernel_rfl) (v := #[.bool false, .string ((nmM t.n).fName), .string ((nmM t.n).fHome), .string ((nmM t.n).fVersion), .string ((nmM t.n).fDescription), .string ((nmM t.n).fIcon), .string ((nmM t.n).fAPIVersion), .string ((nmM t.n).fCondition), .string ((nmM t.n).fTags), .string ((nmM t.n).fAppVersion), .string ((nmM t.n).fKubeVersion), .string ((nmM t.n).fType), .slice ((nmM t.n).fSources_a) ((nmM t.n).fSources.length) ((nmM t.n).fSources_c), .slice ((nmM t.n).fKeywords_a) ((nmM t.n).fKeywords.length) ((nmM t.n).fKeywords_c), .slice ((nmM t.n).fMaintainers_a) ((nmM t.n).fMaintainers.length) ((nmM t.n).fMaintainers_c), .slice ((nmM t.n).fDependencies_a) ((nmM t.n).fDependencies.length) ((nmM t.n).fDependencies_c), .slice (t.fA) (t.fs.length) (t.fc), .slice (t.dA) (t.kids.length) (t.dc)]) (by kernel_rfl)) ?_; intro a7 F7
  refine op_cq F7 (f := 65) (args := #[.agg #[.bool false, .string ((nmM t.n).fName), .string ((nmM t.n).fHome), .string ((nmM t.n).fVersion), .string ((nmM t.n).fDescription), .string ((nmM t.n).fIcon), .string ((nmM t.n).fAPIVersion), .string ((nmM t.n).fCondition), .string ((nmM t.n).fTags), .string ((nmM t.n).fAppVersion), .string ((nmM t.n).fKubeVersion), .string ((nmM t.n).fType), .slice ((nmM t.n).fSources_a) ((nmM t.n).fSources.length) ((nmM t.n).fSources_c), .slice ((nmM t.n).fKeywords_a) ((nmM t.n).fKeywords.length) ((nmM t.n).fKeywords_c), .slice ((nmM t.n).fMaintainers_a) ((nmM t.n).fMaintainers.length) ((nmM t.n).fMaintainers_c), .slice ((nmM t.n).fDependencies_a) ((nmM t.n).fDependencies.length) ((nmM t.n).fDependencies_c), .slice (t.fA) (t.fs.length) (t.fc), .slice (t.dA) (t.kids.length) (t.dc)]]) (chartOf_tr t _ _ _ S3 (fun w S => h0 w S.drop) (by first | omega | (simp; done) | (simp; omega)) (by first | omega | (simp; done) | (simp; omega))) ?_
  rintro _ w8 ⟨o8, rfl, S8, hp0_8, hp1_8⟩
  refine ⟨_, rfl, ?_⟩
  intro a9 F9
  refine op_q F9 (.tuple #[.pointer (some ⟨o8.g, 0, none⟩), .bool true]) ?_; intro a10 F10
  refine op_q F10 (.pointer (some ⟨o8.g, 0, none⟩)) ?_; intro a11 F11
  refine op_q F11 (.bool true) ?_; intro a12 F12
  refine op_q F12 (.pointer (some ⟨o8.g, 0, none⟩)) ?_; intro a13 F13
  refine op_q F13 (.bool true) ?_; intro a14 F14
  refine wpList_nil ?_
  refine hK6 _ _ ?_; clear hK6 K6
  refine wp_seq_k fun K15 hK15 => ?_
  refine wp_seq_k fun K16 hK16 => ?_
  refine wp_region_lit ?_
  refine op_q F14 (.bool true) ?_; intro a17 F17
  refine op_q F17 (.bool false) ?_; intro a18 F18
  refine wpList_nil ?_
  refine hK16 _ _ ?_; clear hK16 K16
  refine wp_cond_false (F18.ev (by kernel_rfl)) ?_
  refine wp_skip ?_
  refine hK15 _ _ ?_; clear hK15 K15
  refine wp_seq_k fun K19 hK19 => ?_
  refine wp_region_lit ?_
  refine op_q F18 (.pointer (some ⟨o8.g, 0, none⟩)) ?_; intro a20 F20
  have S21 : Sp R w8 (SA.own (.slice none 0 0) 39 5 0 (flatC Ty39.cells []) :: SA.root (7) o8 :: SA.blk g1 30 #[.bool false, .string ((nmM t.n).fName), .string ((nmM t.n).fHome), .string ((nmM t.n).fVersion), .string ((nmM t.n).fDescription), .string ((nmM t.n).fIcon), .string ((nmM t.n).fAPIVersion), .string ((nmM t.n).fCondition), .string ((nmM t.n).fTags), .string ((nmM t.n).fAppVersion), .string ((nmM t.n).fKubeVersion), .string ((nmM t.n).fType), .slice ((nmM t.n).fSources_a) ((nmM t.n).fSources.length) ((nmM t.n).fSources_c), .slice ((nmM t.n).fKeywords_a) ((nmM t.n).fKeywords.length) ((nmM t.n).fKeywords_c), .slice ((nmM t.n).fMaintainers_a) ((nmM t.n).fMaintainers.length) ((nmM t.n).fMaintainers_c), .slice ((nmM t.n).fDependencies_a) ((nmM t.n).fDependencies.length) ((nmM t.n).fDependencies_c), .slice (t.fA) (t.fs.length) (t.fc), .slice (t.dA) (t.kids.length) (t.dc)] :: L) := Sp.nilown (e := 39) (sz := 5) S8
  have hcl22 := pathsOf_sp 7 o8 ([]) none 0 0 ([]) _ _ _ S21 (fun w S => (root_at hp0_8 (S)).1) (fun w S => (root_at hp0_8 (S)).2) hp0_8 ⟨by show (1 : Nat) ≤ 20; omega, fun o h => by rw [List.mem_singleton.1 h]; exact obOk_n hp0_8⟩ (by show (1 : Nat) + 7 ≤ 20; omega) rfl (by rw [hp1_8, pl_cnt]; show 0 + _ ≤ _; omega)
  refine op_cq F20 (f := 66) hcl22 ?_
  rintro _ w22 ⟨A222, n222, c222, rfl, S22, hp0_22⟩
  refine ⟨_, rfl, ?_⟩
  intro a23 F23
  have hpe22 : [] ++ specP (7) (pathOf (o8 :: [])) (Ob.pl (7) o8) = (specP 7 (rootP t.n) (Tr.pl 7 t)) := root_paths hp1_8
  rw [hpe22] at hp0_22 S22
  subst hp0_22
  refine op_q F23 (.slice A222 (specP 7 (rootP t.n) (Tr.pl 7 t)).length c222) ?_; intro a24 F24
  refine op_q F24 (.int .i64 0) ?_; intro a25 F25
  refine wpList_nil ?_
  refine hK19 _ _ ?_; clear hK19 K19
  refine wp_ret ?_
  refine (F25.res2 rfl (v := .slice A222 (specP 7 (rootP t.n) (Tr.pl 7 t)).length c222) (by kernel_rfl) (v2 := .int .i64 0) (by kernel_rfl) ?_).1
  exact ⟨A222, c222, rfl, S22.p1.drop.p1.drop⟩
set_option maxRecDepth 100000 in
set_option maxHeartbeats 20000000 in
theorem chPathsS_tr (t : Tr) (R : Ctx) (L : List SA) (w : World) (S : Sp R w (L)) (h0 : Rf R L fun w => TrAt w (7) t) (ht : TrOk 7 t) (hn : Tr.cnt 7 t ≤ 100) :
    Calls Try.prog 17 #[.agg #[.bool false, .string ((nmM t.n).fName), .string ((nmM t.n).fHome), .string ((nmM t.n).fVersion), .string ((nmM t.n).fDescription), .string ((nmM t.n).fIcon), .string ((nmM t.n).fAPIVersion), .string ((nmM t.n).fCondition), .string ((nmM t.n).fTags), .string ((nmM t.n).fAppVersion), .string ((nmM t.n).fKubeVersion), .string ((nmM t.n).fType), .slice ((nmM t.n).fSources_a) ((nmM t.n).fSources.length) ((nmM t.n).fSources_c), .slice ((nmM t.n).fKeywords_a) ((nmM t.n).fKeywords.length) ((nmM t.n).fKeywords_c), .slice ((nmM t.n).fMaintainers_a) ((nmM t.n).fMaintainers.length) ((nmM t.n).fMaintainers_c), .slice ((nmM t.n).fDependencies_a) ((nmM t.n).fDependencies.length) ((nmM t.n).fDependencies_c), .slice (t.fA) (t.fs.length) (t.fc), .slice (t.dA) (t.kids.length) (t.dc)]] w fun e w' => ∃ A : Option Addr, ∃ c : Nat, e = .returned (.slice A ((specP 7 (rootP t.n) (Tr.pl 7 t)).length) c) ∧ Sp R w' (SA.own (.slice A (specP 7 (rootP t.n) (Tr.pl 7 t)).length c) 39 5 ((specP 7 (rootP t.n) (Tr.pl 7 t)).length) (flatC Ty39.cells (specP 7 (rootP t.n) (Tr.pl 7 t))) :: L) := by
  refine fw_enter (fn := Try.f17) rfl rfl 18 rfl (Nat.le_of_ble_eq_true rfl) ?_
  intro a0 F0
  refine wp_seq_k fun K1 hK1 => ?_
  refine wp_region_lit ?_
  refine op_sq F0 (s_newp F0 30 #[.bool false, .string ((nmM t.n).fName), .string ((nmM t.n).fHome), .string ((nmM t.n).fVersion), .string ((nmM t.n).fDescription), .string ((nmM t.n).fIcon), .string ((nmM t.n).fAPIVersion), .string ((nmM t.n).fCondition), .string ((nmM t.n).fTags), .string ((nmM t.n).fAppVersion), .string ((nmM t.n).fKubeVersion), .string ((nmM t.n).fType), .slice ((nmM t.n).fSources_a) ((nmM t.n).fSources.length) ((nmM t.n).fSources_c), .slice ((nmM t.n).fKeywords_a) ((nmM t.n).fKeywords.length) ((nmM t.n).fKeywords_c), .slice ((nmM t.n).fMaintainers_a) ((nmM t.n).fMaintainers.length) ((nmM t.n).fMaintainers_c), .slice ((nmM t.n).fDependencies_a) ((nmM t.n).fDependencies.length) ((nmM t.n).fDependencies_c), .slice (t.fA) (t.fs.length) (t.fc), .slice (t.dA) (t.kids.length) (t.dc)] (by kernel_rfl) (by kernel_rfl) (by kernel_rfl) S) ?_
  rintro _ _ w3 ⟨g1, rfl, rfl⟩ S3 a3 F3
  refine op_q F3 (.slice none 0 0) ?_; intro a4 F4
  refine wpList_nil ?_
  refine hK1 _ _ ?_; clear hK1 K1
  refine wp_seq_k fun K5 hK5 => ?_
  refine wp_region_lit ?_
  refine op_rq (v := .agg #[.bool false, .string ((nmM t.n).fName), .string ((nmM t.n).fHome), .string ((nmM t.n).fVersion), .string ((nmM t.n).fDescription), .string ((nmM t.n).fIcon), .string ((nmM t.n).fAPIVersion), .string ((nmM t.n).fCondition), .string ((nmM t.n).fTags), .string ((nmM t.n).fAppVersion), .string ((nmM t.n).fKubeVersion), .string ((nmM t.n).fType), .slice ((nmM t.n).fSources_a) ((nmM t.n).fSources.length) ((nmM t.n).fSources_c), .slice ((nmM t.n).fKeywords_a) ((nmM t.n).fKeywords.length) ((nmM t.n).fKeywords_c), .slice ((nmM t.n).fMaintainers_a) ((nmM t.n).fMaintainers.length) ((nmM t.n).fMaintainers_c), .slice ((nmM t.n).fDependencies_a) ((nmM t.n).fDependencies.length) ((nmM t.n).fDependencies_c), .slice (t.fA) (t.fs.length) (t.fc), .slice (t.dA) (t.kids.length) (t.dc)]) F4 (r_ldm rfl (F4.e (.pointer (some ⟨g1, 0, none⟩))) (S3.bk 0 rfl) 18 (by kernel_rfl) Try.underlying30 rfl (by kernel_rfl) (v := #[.bool false, .string ((nmM t.n).fName), .string ((nmM t.n).fHome), .string ((nmM t.n).fVersion), .string ((nmM t.n).fDescription), .string ((nmM t.n).fIcon), .string ((nmM t.n).fAPIVersion), .string ((nmM t.n).fCondition), .string ((nmM t.n).fTags), .string ((nmM t.n).fAppVersion), .string ((nmM t.n).fKubeVersion), .string ((nmM t.n).fType), .slice ((nmM t.n).fSources_a) ((nmM t.n).fSources.length) ((nmM t.n).fSources_c), .slice ((nmM t.n).fKeywords_a) ((nmM t.n).fKeywords.length) ((nmM t.n).fKeywords_c), .slice ((nmM t.n).fMaintainers_a) ((nmM t.n).fMaintainers.length) ((nmM t.n).fMaintainers_c), .slice ((nmM t.n).fDependencies_a) ((nmM t.n).fDependencies.length) ((nmM t.n).fDependencies_c), .slice (t.fA) (t.fs.length) (t.fc), .slice (t.dA) (t.kids.length) (t.dc)]) (by kernel_rfl)) ?_; intro a6 F6
  refine op_q F6 (.pointer (some ⟨g1, 1, none⟩)) ?_; intro a7 F7
  refine op_q F7 (.pointer (some ⟨g1, 1, none⟩)) ?_; intro a8 F8
  refine op_rq (v := .string ((nmM t.n).fName)) F8 (r_ld rfl (F8.e (.pointer (some ⟨g1, 1, none⟩))) (v := .string ((nmM t.n).fName)) ((S3.bk 0 rfl).cell 1) Try.underlying9 rfl) ?_; intro a9 F9
  refine op_q F9 (.pointer (some ⟨g1, 1, none⟩)) ?_; intro a10 F10
  refine op_q F10 (.pointer (some ⟨g1, 1, none⟩)) ?_; intro a11 F11
  refine op_rq (v := .string ((nmM t.n).fName)) F11 (r_ld rfl (F11.e (.pointer (some ⟨g1, 1, none⟩))) (v := .string ((nmM t.n).fName)) ((S3.bk 0 rfl).cell 1) Try.underlying9 rfl) ?_; intro a12 F12
  refine op_q F12 (.pointer (some ⟨g1, 1, none⟩)) ?_; intro a13 F13
  refine op_q F13 (.pointer (some ⟨g1, 1, none⟩)) ?_; intro a14 F14
  refine op_rq (v := .string ((nmM t.n).fName)) F14 (r_ld rfl (F14.e (.pointer (some ⟨g1, 1, none⟩))) (v := .string ((nmM t.n).fName)) ((S3.bk 0 rfl).cell 1) Try.underlying9 rfl) ?_; intro a15 F15
  refine op_q F15 (.pointer (some ⟨g1, 1, none⟩)) ?_; intro a16 F16
  refine op_q F16 (.pointer (some ⟨g1, 1, none⟩)) ?_; intro a17 F17
  refine op_rq (v := .string ((nmM t.n).fName)) F17 (r_ld rfl (F17.e (.pointer (some ⟨g1, 1, none⟩))) (v := .string ((nmM t.n).fName)) ((S3.bk 0 rfl).cell 1) Try.underlying9 rfl) ?_; intro a18 F18
  refine op_q F18 (.agg #[.string ((nmM t.n).fName), .string ((nmM t.n).fName), .string ((nmM t.n).fName), .bool true, .string ((nmM t.n).fName)]) ?_; intro a19 F19
  refine op_cq F19 (f := 67) (args := #[.agg #[.bool false, .string ((nmM t.n).fName), .string ((nmM t.n).fHome), .string ((nmM t.n).fVersion), .string ((nmM t.n).fDescription), .string ((nmM t.n).fIcon), .string ((nmM t.n).fAPIVersion), .string ((nmM t.n).fCondition), .string ((nmM t.n).fTags), .string ((nmM t.n).fAppVersion), .string ((nmM t.n).fKubeVersion), .string ((nmM t.n).fType), .slice ((nmM t.n).fSources_a) ((nmM t.n).fSources.length) ((nmM t.n).fSources_c), .slice ((nmM t.n).fKeywords_a) ((nmM t.n).fKeywords.length) ((nmM t.n).fKeywords_c), .slice ((nmM t.n).fMaintainers_a) ((nmM t.n).fMaintainers.length) ((nmM t.n).fMaintainers_c), .slice ((nmM t.n).fDependencies_a) ((nmM t.n).fDependencies.length) ((nmM t.n).fDependencies_c), .slice (t.fA) (t.fs.length) (t.fc), .slice (t.dA) (t.kids.length) (t.dc)], .agg #[.string ((nmM t.n).fName), .string ((nmM t.n).fName), .string ((nmM t.n).fName), .bool true, .string ((nmM t.n).fName)]]) (chPaths_7 t _ _ _ S3 (fun w S => h0 w S.drop) (by first | omega | (simp; done) | (simp; omega)) (by first | omega | (simp; done) | (simp; omega))) ?_
  rintro _ w20 ⟨A20, c20, rfl, S20⟩
  refine ⟨_, rfl, ?_⟩
  intro a21 F21
  refine op_q F21 (.slice A20 ((specP 7 (rootP t.n) (Tr.pl 7 t)).length) c20) ?_; intro a22 F22
  refine wpList_nil ?_
  refine hK5 _ _ ?_; clear hK5 K5
  refine wp_ret ?_
  refine (F22.res1 rfl (v := .slice A20 ((specP 7 (rootP t.n) (Tr.pl 7 t)).length) c20) (by kernel_rfl) ?_).1
  exact ⟨A20, c20, rfl, S20.p1.drop⟩
end Go.Proofs.Ytkjcedlgljeoiaa

/- The walk of FnChartPaths. -/
namespace Go.Proofs.Ytkjcedlgljeoiaa
open Go.RowKit Go.Lib
set_option linter.unusedVariables false
set_option linter.unusedSimpArgs false
theorem neqT39 (x0 y0 : ByteArray) (x1 y1 : ByteArray) (x2 y2 : ByteArray) (x3 y3 : Bool) (x4 y4 : ByteArray) (w : World) : (binOp .neq 39 (.agg #[.string x0, .string x1, .string x2, .bool x3, .string x4]) (.agg #[.string y0, .string y1, .string y2, .bool y3, .string y4])).run Try.prog w = .ok (.bool (!((x0.toList == y0.toList) && (x1.toList == y1.toList) && (x2.toList == y2.toList) && (x3 == y3) && (x4.toList == y4.toList)))) w := by
  have u4 := Try.underlying4
  have u9 := Try.underlying9
  have a4 : (isAgg 4).run Try.prog w = .ok false w := by unfold isAgg; rw [Sem.run_bind, run_underlying u4 w]; rfl
  have z4 : (sizeOf 4).run Try.prog w = .ok 1 w := by kernel_rfl
  have a9 : (isAgg 9).run Try.prog w = .ok false w := by unfold isAgg; rw [Sem.run_bind, run_underlying u9 w]; rfl
  have z9 : (sizeOf 9).run Try.prog w = .ok 1 w := by kernel_rfl
  have hS : Try.prog.underlying 39 = some (.struct (Try.prog.fieldsOf 39)) := by kernel_rfl
  have hp : Try.prog.stoodInHeld 39 = false := by kernel_rfl
  rw [run_neq_struct, show (10000 : Nat) = 9999 + 1 from rfl, run_equalIn_agg w 9999 39 _ _ hS hp]
  simp only [Program.fieldsOf, Try.underlying39]
  go_simp
  cases h0 : (x0.toList == y0.toList) <;> cases h1 : (x1.toList == y1.toList) <;> cases h2 : (x2.toList == y2.toList) <;> cases h3 : (x3 == y3) <;> cases h4 : (x4.toList == y4.toList) <;> simp_all
set_option maxRecDepth 100000 in
set_option maxHeartbeats 20000000 in
theorem chartPathsLaw_sp (x : Ti) (R : Ctx) (L : List SA) (w : World) (S : Sp R w (L)) (h0 : Rf R L fun w => TiAt w (7) x)  :
    Calls Try.prog 3 #[.agg #[.bool x.bare, .string x.m.fName, .string x.m.fHome, .string x.m.fVersion, .string x.m.fDescription, .string x.m.fIcon, .string x.m.fAPIVersion, .string x.m.fCondition, .string x.m.fTags, .string x.m.fAppVersion, .string x.m.fKubeVersion, .string x.m.fType, .slice (x.m.fSources_a) (x.m.fSources.length) (x.m.fSources_c), .slice (x.m.fKeywords_a) (x.m.fKeywords.length) (x.m.fKeywords_c), .slice (x.m.fMaintainers_a) (x.m.fMaintainers.length) (x.m.fMaintainers_c), .slice (x.m.fDependencies_a) (x.m.fDependencies.length) (x.m.fDependencies_c), .slice (x.fA) (x.fs.length) (x.fc), .slice (x.dA) (x.kids.length) (x.dc)]] w fun e w' => e = .returned (.bool true) ∧ Sp R w' (L) := by
  refine fw_enter (fn := Try.f3) rfl rfl 44 rfl (Nat.le_of_ble_eq_true rfl) ?_
  intro a0 F0
  refine wp_seq_k fun K1 hK1 => ?_
  refine wp_region_lit ?_
  refine op_sq F0 (s_newp F0 30 #[.bool x.bare, .string x.m.fName, .string x.m.fHome, .string x.m.fVersion, .string x.m.fDescription, .string x.m.fIcon, .string x.m.fAPIVersion, .string x.m.fCondition, .string x.m.fTags, .string x.m.fAppVersion, .string x.m.fKubeVersion, .string x.m.fType, .slice (x.m.fSources_a) (x.m.fSources.length) (x.m.fSources_c), .slice (x.m.fKeywords_a) (x.m.fKeywords.length) (x.m.fKeywords_c), .slice (x.m.fMaintainers_a) (x.m.fMaintainers.length) (x.m.fMaintainers_c), .slice (x.m.fDependencies_a) (x.m.fDependencies.length) (x.m.fDependencies_c), .slice (x.fA) (x.fs.length) (x.fc), .slice (x.dA) (x.kids.length) (x.dc)] (by kernel_rfl) (by kernel_rfl) (by kernel_rfl) S) ?_
  rintro _ _ w3 ⟨g1, rfl, rfl⟩ S3 a3 F3
  refine op_q F3 (.bool false) ?_; intro a4 F4
  refine wpList_nil ?_
  refine hK1 _ _ ?_; clear hK1 K1
  refine wp_seq_k fun K5 hK5 => ?_
  refine wp_seq_k fun K6 hK6 => ?_
  refine wp_region_lit ?_
  refine op_rq (v := .agg #[.bool x.bare, .string x.m.fName, .string x.m.fHome, .string x.m.fVersion, .string x.m.fDescription, .string x.m.fIcon, .string x.m.fAPIVersion, .string x.m.fCondition, .string x.m.fTags, .string x.m.fAppVersion, .string x.m.fKubeVersion, .string x.m.fType, .slice (x.m.fSources_a) (x.m.fSources.length) (x.m.fSources_c), .slice (x.m.fKeywords_a) (x.m.fKeywords.length) (x.m.fKeywords_c), .slice (x.m.fMaintainers_a) (x.m.fMaintainers.length) (x.m.fMaintainers_c), .slice (x.m.fDependencies_a) (x.m.fDependencies.length) (x.m.fDependencies_c), .slice (x.fA) (x.fs.length) (x.fc), .slice (x.dA) (x.kids.length) (x.dc)]) F4 (r_ldm rfl (F4.e (.pointer (some ⟨g1, 0, none⟩))) (S3.bk 0 rfl) 18 (by kernel_rfl) Try.underlying30 rfl (by kernel_rfl) (v := #[.bool x.bare, .string x.m.fName, .string x.m.fHome, .string x.m.fVersion, .string x.m.fDescription, .string x.m.fIcon, .string x.m.fAPIVersion, .string x.m.fCondition, .string x.m.fTags, .string x.m.fAppVersion, .string x.m.fKubeVersion, .string x.m.fType, .slice (x.m.fSources_a) (x.m.fSources.length) (x.m.fSources_c), .slice (x.m.fKeywords_a) (x.m.fKeywords.length) (x.m.fKeywords_c), .slice (x.m.fMaintainers_a) (x.m.fMaintainers.length) (x.m.fMaintainers_c), .slice (x.m.fDependencies_a) (x.m.fDependencies.length) (x.m.fDependencies_c), .slice (x.fA) (x.fs.length) (x.fc), .slice (x.dA) (x.kids.length) (x.dc)]) (by kernel_rfl)) ?_; intro a7 F7
  refine op_cq F7 (f := 14) (args := #[.agg #[.bool x.bare, .string x.m.fName, .string x.m.fHome, .string x.m.fVersion, .string x.m.fDescription, .string x.m.fIcon, .string x.m.fAPIVersion, .string x.m.fCondition, .string x.m.fTags, .string x.m.fAppVersion, .string x.m.fKubeVersion, .string x.m.fType, .slice (x.m.fSources_a) (x.m.fSources.length) (x.m.fSources_c), .slice (x.m.fKeywords_a) (x.m.fKeywords.length) (x.m.fKeywords_c), .slice (x.m.fMaintainers_a) (x.m.fMaintainers.length) (x.m.fMaintainers_c), .slice (x.m.fDependencies_a) (x.m.fDependencies.length) (x.m.fDependencies_c), .slice (x.fA) (x.fs.length) (x.fc), .slice (x.dA) (x.kids.length) (x.dc)]]) (zzFits1_ti x _ _ _ S3 (fun w S => h0 w S.drop)) ?_
  rintro _ w8 ⟨b8, rfl, S8⟩
  refine ⟨_, rfl, ?_⟩
  intro a9 F9
  refine op_q F9 (.bool (!(b8))) ?_; intro a10 F10
  refine wpList_nil ?_
  refine hK6 _ _ ?_; clear hK6 K6
  rcases btf (b8) with hc11 | hc11
  · have F12 := F10.sb 10 (by kernel_rfl) hc11
    have F13 := F12.sb 11 (by kernel_rfl) (show (!(b8)) = false by rw [hc11]; rfl)
    refine wp_cond_false (F13.ev (by kernel_rfl)) ?_
    refine wp_skip ?_
    refine hK5 _ _ ?_; clear hK5 K5
    refine wp_seq_k fun K14 hK14 => ?_
    refine wp_region_lit ?_
    refine op_sq F13 (s_newp F13 3 #[.int .i64 0] (by kernel_rfl) (by kernel_rfl) (by kernel_rfl) S8) ?_
    rintro _ _ w16 ⟨g14, rfl, rfl⟩ S16 a16 F16
    refine op_sq0 F16 (s_st rfl (F16.e (.pointer (some ⟨g14, 0, none⟩))) (F16.e (.int .i64 30)) S16 (by kernel_rfl) rfl rfl rfl (cs := #[.int .i64 30]) (by kernel_rfl)) ?_
    rintro _ _ w17 rfl S17 F17
    refine wpList_nil ?_
    refine hK14 _ _ ?_; clear hK14 K14
    refine wp_seq_k fun K18 hK18 => ?_
    refine wp_region_lit ?_
    refine op_rq (v := .agg #[.bool x.bare, .string x.m.fName, .string x.m.fHome, .string x.m.fVersion, .string x.m.fDescription, .string x.m.fIcon, .string x.m.fAPIVersion, .string x.m.fCondition, .string x.m.fTags, .string x.m.fAppVersion, .string x.m.fKubeVersion, .string x.m.fType, .slice (x.m.fSources_a) (x.m.fSources.length) (x.m.fSources_c), .slice (x.m.fKeywords_a) (x.m.fKeywords.length) (x.m.fKeywords_c), .slice (x.m.fMaintainers_a) (x.m.fMaintainers.length) (x.m.fMaintainers_c), .slice (x.m.fDependencies_a) (x.m.fDependencies.length) (x.m.fDependencies_c), .slice (x.fA) (x.fs.length) (x.fc), .slice (x.dA) (x.kids.length) (x.dc)]) F17 (r_ldm rfl (F17.e (.pointer (some ⟨g1, 0, none⟩))) (S17.bk 1 rfl) 18 (by kernel_rfl) Try.underlying30 rfl (by kernel_rfl) (v := #[.bool x.bare, .string x.m.fName, .string x.m.fHome, .string x.m.fVersion, .string x.m.fDescription, .string x.m.fIcon, .string x.m.fAPIVersion, .string x.m.fCondition, .string x.m.fTags, .string x.m.fAppVersion, .string x.m.fKubeVersion, .string x.m.fType, .slice (x.m.fSources_a) (x.m.fSources.length) (x.m.fSources_c), .slice (x.m.fKeywords_a) (x.m.fKeywords.length) (x.m.fKeywords_c), .slice (x.m.fMaintainers_a) (x.m.fMaintainers.length) (x.m.fMaintainers_c), .slice (x.m.fDependencies_a) (x.m.fDependencies.length) (x.m.fDependencies_c), .slice (x.fA) (x.fs.length) (x.fc), .slice (x.dA) (x.kids.length) (x.dc)]) (by kernel_rfl)) ?_; intro a19 F19
    refine op_cq F19 (f := 15) (args := #[.agg #[.bool x.bare, .string x.m.fName, .string x.m.fHome, .string x.m.fVersion, .string x.m.fDescription, .string x.m.fIcon, .string x.m.fAPIVersion, .string x.m.fCondition, .string x.m.fTags, .string x.m.fAppVersion, .string x.m.fKubeVersion, .string x.m.fType, .slice (x.m.fSources_a) (x.m.fSources.length) (x.m.fSources_c), .slice (x.m.fKeywords_a) (x.m.fKeywords.length) (x.m.fKeywords_c), .slice (x.m.fMaintainers_a) (x.m.fMaintainers.length) (x.m.fMaintainers_c), .slice (x.m.fDependencies_a) (x.m.fDependencies.length) (x.m.fDependencies_c), .slice (x.fA) (x.fs.length) (x.fc), .slice (x.dA) (x.kids.length) (x.dc)], .int .i64 0, .pointer (some ⟨g14, 0, none⟩)]) (chTree_7 x g14 _ _ _ S17 (fun w S => h0 w S.drop)) ?_
    rintro _ w20 ⟨nn20, fA20, fl20, fc20, dA20, dl20, dc20, kz20, nz20, rfl, S20, hp0_20⟩
    refine ⟨_, rfl, ?_⟩
    intro a21 F21
    refine op_sq0 F21 (s_stb rfl (F21.e (.pointer (some ⟨g1, 0, none⟩))) (F21.e (.agg #[.bool false, .string nn20, .string ⟨#[]⟩, .string ⟨#[]⟩, .string ⟨#[]⟩, .string ⟨#[]⟩, .string ⟨#[]⟩, .string ⟨#[]⟩, .string ⟨#[]⟩, .string ⟨#[]⟩, .string ⟨#[]⟩, .string ⟨#[]⟩, .slice none 0 0, .slice none 0 0, .slice none 0 0, .slice none 0 0, .slice fA20 fl20 fc20, .slice dA20 dl20 dc20])) S20.p2 (by kernel_rfl) rfl (by kernel_rfl)) ?_
    rintro _ _ w22 rfl S22 F22
    refine wpList_nil ?_
    refine hK18 _ _ ?_; clear hK18 K18
    refine wp_seq_k fun K23 hK23 => ?_
    obtain ⟨t, htc, hto, htn, St20⟩ := Sp.tro_open S22.p2
    have S24 : Sp R w22 (SA.tr (7) t :: SA.blk g1 30 #[.bool false, .string nn20, .string ⟨#[]⟩, .string ⟨#[]⟩, .string ⟨#[]⟩, .string ⟨#[]⟩, .string ⟨#[]⟩, .string ⟨#[]⟩, .string ⟨#[]⟩, .string ⟨#[]⟩, .string ⟨#[]⟩, .string ⟨#[]⟩, .slice none 0 0, .slice none 0 0, .slice none 0 0, .slice none 0 0, .slice fA20 fl20 fc20, .slice dA20 dl20 dc20] :: SA.blk g14 3 #[.int .i64 (↑nz20)] :: L) := St20
    have hcn30 : Tr.cnt 7 t ≤ 100 := by omega
    obtain ⟨rfl, rfl, rfl, rfl, rfl, rfl, rfl⟩ := tr_flat htc
    have S25 : Sp R w22 (SA.blk g1 30 #[.bool false, .string ((nmM t.n).fName), .string ((nmM t.n).fHome), .string ((nmM t.n).fVersion), .string ((nmM t.n).fDescription), .string ((nmM t.n).fIcon), .string ((nmM t.n).fAPIVersion), .string ((nmM t.n).fCondition), .string ((nmM t.n).fTags), .string ((nmM t.n).fAppVersion), .string ((nmM t.n).fKubeVersion), .string ((nmM t.n).fType), .slice ((nmM t.n).fSources_a) ((nmM t.n).fSources.length) ((nmM t.n).fSources_c), .slice ((nmM t.n).fKeywords_a) ((nmM t.n).fKeywords.length) ((nmM t.n).fKeywords_c), .slice ((nmM t.n).fMaintainers_a) ((nmM t.n).fMaintainers.length) ((nmM t.n).fMaintainers_c), .slice ((nmM t.n).fDependencies_a) ((nmM t.n).fDependencies.length) ((nmM t.n).fDependencies_c), .slice t.fA t.fs.length t.fc, .slice t.dA t.kids.length t.dc] :: SA.tr (7) t :: SA.blk g14 3 #[.int .i64 (↑nz20)] :: L) := S24.p1
    refine wp_region_lit ?_
    refine op_rq (v := .agg #[.bool false, .string ((nmM t.n).fName), .string ((nmM t.n).fHome), .string ((nmM t.n).fVersion), .string ((nmM t.n).fDescription), .string ((nmM t.n).fIcon), .string ((nmM t.n).fAPIVersion), .string ((nmM t.n).fCondition), .string ((nmM t.n).fTags), .string ((nmM t.n).fAppVersion), .string ((nmM t.n).fKubeVersion), .string ((nmM t.n).fType), .slice ((nmM t.n).fSources_a) ((nmM t.n).fSources.length) ((nmM t.n).fSources_c), .slice ((nmM t.n).fKeywords_a) ((nmM t.n).fKeywords.length) ((nmM t.n).fKeywords_c), .slice ((nmM t.n).fMaintainers_a) ((nmM t.n).fMaintainers.length) ((nmM t.n).fMaintainers_c), .slice ((nmM t.n).fDependencies_a) ((nmM t.n).fDependencies.length) ((nmM t.n).fDependencies_c), .slice t.fA t.fs.length t.fc, .slice t.dA t.kids.length t.dc]) F22 (r_ldm rfl (F22.e (.pointer (some ⟨g1, 0, none⟩))) (S25.bk 0 rfl) 18 (by kernel_rfl) Try.underlying30 rfl (by kernel_rfl) (v := #[.bool false, .string ((nmM t.n).fName), .string ((nmM t.n).fHome), .string ((nmM t.n).fVersion), .string ((nmM t.n).fDescription), .string ((nmM t.n).fIcon), .string ((nmM t.n).fAPIVersion), .string ((nmM t.n).fCondition), .string ((nmM t.n).fTags), .string ((nmM t.n).fAppVersion), .string ((nmM t.n).fKubeVersion), .string ((nmM t.n).fType), .slice ((nmM t.n).fSources_a) ((nmM t.n).fSources.length) ((nmM t.n).fSources_c), .slice ((nmM t.n).fKeywords_a) ((nmM t.n).fKeywords.length) ((nmM t.n).fKeywords_c), .slice ((nmM t.n).fMaintainers_a) ((nmM t.n).fMaintainers.length) ((nmM t.n).fMaintainers_c), .slice ((nmM t.n).fDependencies_a) ((nmM t.n).fDependencies.length) ((nmM t.n).fDependencies_c), .slice t.fA t.fs.length t.fc, .slice t.dA t.kids.length t.dc]) (by kernel_rfl)) ?_; intro a26 F26
    refine op_cq F26 (f := 16) (args := #[.agg #[.bool false, .string ((nmM t.n).fName), .string ((nmM t.n).fHome), .string ((nmM t.n).fVersion), .string ((nmM t.n).fDescription), .string ((nmM t.n).fIcon), .string ((nmM t.n).fAPIVersion), .string ((nmM t.n).fCondition), .string ((nmM t.n).fTags), .string ((nmM t.n).fAppVersion), .string ((nmM t.n).fKubeVersion), .string ((nmM t.n).fType), .slice ((nmM t.n).fSources_a) ((nmM t.n).fSources.length) ((nmM t.n).fSources_c), .slice ((nmM t.n).fKeywords_a) ((nmM t.n).fKeywords.length) ((nmM t.n).fKeywords_c), .slice ((nmM t.n).fMaintainers_a) ((nmM t.n).fMaintainers.length) ((nmM t.n).fMaintainers_c), .slice ((nmM t.n).fDependencies_a) ((nmM t.n).fDependencies.length) ((nmM t.n).fDependencies_c), .slice t.fA t.fs.length t.fc, .slice t.dA t.kids.length t.dc]]) (chartPaths_tr t _ _ _ S25 (fun w S => S.trAt 1 rfl hto) hto hcn30) ?_
    rintro _ w27 ⟨A27, c27, rfl, S27⟩
    refine ⟨_, rfl, ?_⟩
    intro a28 F28
    refine op_q F28 (.tuple #[.slice A27 ((specP 7 (rootP t.n) (Tr.pl 7 t)).length) c27, .int .i64 0]) ?_; intro a29 F29
    refine op_q F29 (.slice A27 ((specP 7 (rootP t.n) (Tr.pl 7 t)).length) c27) ?_; intro a30 F30
    refine op_q F30 (.int .i64 0) ?_; intro a31 F31
    refine op_q F31 (.slice A27 ((specP 7 (rootP t.n) (Tr.pl 7 t)).length) c27) ?_; intro a32 F32
    refine op_q F32 (.int .i64 0) ?_; intro a33 F33
    refine wpList_nil ?_
    refine hK23 _ _ ?_; clear hK23 K23
    refine wp_seq_k fun K34 hK34 => ?_
    refine wp_region_lit ?_
    refine op_rq (v := .agg #[.bool false, .string ((nmM t.n).fName), .string ((nmM t.n).fHome), .string ((nmM t.n).fVersion), .string ((nmM t.n).fDescription), .string ((nmM t.n).fIcon), .string ((nmM t.n).fAPIVersion), .string ((nmM t.n).fCondition), .string ((nmM t.n).fTags), .string ((nmM t.n).fAppVersion), .string ((nmM t.n).fKubeVersion), .string ((nmM t.n).fType), .slice ((nmM t.n).fSources_a) ((nmM t.n).fSources.length) ((nmM t.n).fSources_c), .slice ((nmM t.n).fKeywords_a) ((nmM t.n).fKeywords.length) ((nmM t.n).fKeywords_c), .slice ((nmM t.n).fMaintainers_a) ((nmM t.n).fMaintainers.length) ((nmM t.n).fMaintainers_c), .slice ((nmM t.n).fDependencies_a) ((nmM t.n).fDependencies.length) ((nmM t.n).fDependencies_c), .slice t.fA t.fs.length t.fc, .slice t.dA t.kids.length t.dc]) F33 (r_ldm rfl (F33.e (.pointer (some ⟨g1, 0, none⟩))) (S27.bk 1 rfl) 18 (by kernel_rfl) Try.underlying30 rfl (by kernel_rfl) (v := #[.bool false, .string ((nmM t.n).fName), .string ((nmM t.n).fHome), .string ((nmM t.n).fVersion), .string ((nmM t.n).fDescription), .string ((nmM t.n).fIcon), .string ((nmM t.n).fAPIVersion), .string ((nmM t.n).fCondition), .string ((nmM t.n).fTags), .string ((nmM t.n).fAppVersion), .string ((nmM t.n).fKubeVersion), .string ((nmM t.n).fType), .slice ((nmM t.n).fSources_a) ((nmM t.n).fSources.length) ((nmM t.n).fSources_c), .slice ((nmM t.n).fKeywords_a) ((nmM t.n).fKeywords.length) ((nmM t.n).fKeywords_c), .slice ((nmM t.n).fMaintainers_a) ((nmM t.n).fMaintainers.length) ((nmM t.n).fMaintainers_c), .slice ((nmM t.n).fDependencies_a) ((nmM t.n).fDependencies.length) ((nmM t.n).fDependencies_c), .slice t.fA t.fs.length t.fc, .slice t.dA t.kids.length t.dc]) (by kernel_rfl)) ?_; intro a35 F35
    refine op_cq F35 (f := 17) (args := #[.agg #[.bool false, .string ((nmM t.n).fName), .string ((nmM t.n).fHome), .string ((nmM t.n).fVersion), .string ((nmM t.n).fDescription), .string ((nmM t.n).fIcon), .string ((nmM t.n).fAPIVersion), .string ((nmM t.n).fCondition), .string ((nmM t.n).fTags), .string ((nmM t.n).fAppVersion), .string ((nmM t.n).fKubeVersion), .string ((nmM t.n).fType), .slice ((nmM t.n).fSources_a) ((nmM t.n).fSources.length) ((nmM t.n).fSources_c), .slice ((nmM t.n).fKeywords_a) ((nmM t.n).fKeywords.length) ((nmM t.n).fKeywords_c), .slice ((nmM t.n).fMaintainers_a) ((nmM t.n).fMaintainers.length) ((nmM t.n).fMaintainers_c), .slice ((nmM t.n).fDependencies_a) ((nmM t.n).fDependencies.length) ((nmM t.n).fDependencies_c), .slice t.fA t.fs.length t.fc, .slice t.dA t.kids.length t.dc]]) (chPathsS_tr t _ _ _ S27 (fun w S => S.trAt 2 rfl hto) hto hcn30) ?_
    rintro _ w36 ⟨A36, c36, rfl, S36⟩
    refine ⟨_, rfl, ?_⟩
    intro a37 F37
    refine op_q F37 (.slice A36 ((specP 7 (rootP t.n) (Tr.pl 7 t)).length) c36) ?_; intro a38 F38
    refine wpList_nil ?_
    refine hK34 _ _ ?_; clear hK34 K34
    refine wp_seq_k fun K39 hK39 => ?_
    refine wp_seq_k fun K40 hK40 => ?_
    obtain ⟨zs, hzs⟩ : ∃ zs, zs = (specP 7 (rootP t.n) (Tr.pl 7 t)) := ⟨_, rfl⟩
    have hzl : zs.length ≤ 100 := by rw [hzs, specP_len, pl_cnt]; exact hcn30
    rw [← hzs] at F38 S36
    refine wp_region_lit ?_
    refine op_q F38 (.int .i64 0) ?_; intro a41 F41
    refine op_q F41 (.bool false) ?_; intro a42 F42
    refine op_q F42 (.bool false) ?_; intro a43 F43
    refine op_wq F43 ?_
    refine op_q F43 (.slice A27 (zs.length) c27) ?_; intro a44 F44
    refine op_wq F44 ?_
    refine op_q F44 (.int .i64 (↑zs.length)) ?_; intro a45 F45
    refine op_wq F45 ?_
    refine op_q F45 (.slice A36 (zs.length) c36) ?_; intro a46 F46
    refine op_wq F46 ?_
    refine op_q F46 (.int .i64 (↑zs.length)) ?_; intro a47 F47
    refine op_wq F47 ?_
    refine op_q F47 (.bool (!((↑zs.length : Int) == ↑zs.length))) ?_; intro a48 F48
    refine op_q F48 (.bool (!((↑zs.length : Int) == ↑zs.length))) ?_; intro a49 F49
    refine wpList_nil ?_
    refine hK40 _ _ ?_; clear hK40 K40
    have hc50 : ((↑zs.length : Int) == ↑zs.length) = true := (beq_self_eq_true _)
    have F51 := F49.sb 28 (by kernel_rfl) (show (!((↑zs.length : Int) == ↑zs.length)) = false by rw [hc50]; rfl)
    have F52 := F51.sb 29 (by kernel_rfl) (show (!((↑zs.length : Int) == ↑zs.length)) = false by rw [hc50]; rfl)
    refine wp_cond_false (F52.ev (by kernel_rfl)) ?_
    refine wp_skip ?_
    refine hK39 _ _ ?_; clear hK39 K39
    refine wp_seq_k fun K53 hK53 => ?_
    refine wp_seq_k fun K54 hK54 => ?_
    refine wp_region_lit ?_
    refine op_q F52 (.slice A27 (zs.length) c27) ?_; intro a55 F55
    refine op_q F55 (.int .i64 (↑zs.length)) ?_; intro a56 F56
    refine op_q F56 (.int .i64 0) ?_; intro a57 F57
    refine wpList_nil ?_
    refine hK54 _ _ ?_; clear hK54 K54
    refine wp_block ?_
    refine fw_loop (fun m' a' w' => ∃ k : Nat, zs.length - k = m' ∧ Fr 44 [] a' [(6, .slice A36 (zs.length) c36), (30, .slice A27 (zs.length) c27), (31, .int .i64 (↑zs.length)), (32, .int .i64 (↑k))] ∧ Sp R w' (SA.own (.slice A36 zs.length c36) 39 5 zs.length (flatC Ty39.cells zs) :: SA.own (.slice A27 zs.length c27) 39 5 zs.length (flatC Ty39.cells zs) :: L) ∧ (k ≤ zs.length)) _ ⟨0, rfl, (F57.kk 6 (F57.kk 30 (F57.kk 31 (F57.kk 32 F57.nil)))), S36.p2.drop.p2.drop.p2.drop.p1.p1, (by first | omega | (with_reducible assumption) | (simp; done))⟩ ?_
    rintro m58 a58 w58 ⟨k, hm58, F58, S58, hk⟩ K58 hK58
    by_cases hlt_k : k < zs.length
    · have hc_k : decide ((↑k : Int) < ↑zs.length) = true := by first | (simp; done) | (simp; omega)
      have hlt_k2 : k < zs.length := by omega
      obtain ⟨ad59, hA59⟩ := (own_rowsT1 (S58.ow 1 rfl) (by first | rfl | (simp; done) | omega) (by decide) (fun x => x.len) (by first | omega | (simp; omega))).addr (by simp; omega)
      obtain ⟨ad60, hA60⟩ := (own_rowsT1 (S58.ow 0 rfl) (by first | rfl | (simp; done) | omega) (by decide) (fun x => x.len) (by first | omega | (simp; omega))).addr (by simp; omega)
      refine wp_seq_k fun K61 hK61 => ?_
      refine wp_region_lit ?_
      refine op_q F58 (.bool (decide ((↑k : Int) < ↑zs.length))) ?_; intro a62 F62
      have F63 := F62.sb 33 (by kernel_rfl) hc_k
      refine wpList_nil ?_
      refine hK61 _ _ ?_; clear hK61 K61
      refine wp_seq_k fun K64 hK64 => ?_
      refine wp_cond_true (F63.ev (by kernel_rfl)) ?_
      refine wp_skip ?_
      refine hK64 _ _ ?_; clear hK64 K64
      refine wp_seq_k fun K65 hK65 => ?_
      refine wp_block ?_
      refine wp_seq_k fun K66 hK66 => ?_
      refine wp_region_lit ?_
      refine op_q F63 (.int .i64 (↑k)) ?_; intro a67 F67
      refine op_rq (v := .pointer (some (ad59.add (k * 5)))) F67 (r_ix rfl Try.underlying34 5 (by kernel_rfl) (F67.e (.slice A27 (zs.length) c27)) hA59 (F67.e (.int .i64 (↑k))) k (by first | rfl | omega | simp) (by first | omega | (simp; done) | (simp; omega)) (rfl)) ?_; intro a68 F68
      refine op_rq (v := .agg #[.string zs[k].fName, .string zs[k].fPath, .string zs[k].fFull, .bool zs[k].fIsRoot, .string zs[k].fRoot]) F68 (r_ldR rfl (F68.e (.pointer (some (ad59.add (k * 5))))) (cs := [.string zs[k].fName, .string zs[k].fPath, .string zs[k].fFull, .bool zs[k].fIsRoot, .string zs[k].fRoot]) ((own_rowsT1 (S58.ow 1 rfl) (by first | rfl | (simp; done) | omega) (by decide) (fun x => x.len) (by first | omega | (simp; omega))).elA hA59 (j := k) (row := zs[k].cells) (by rw [List.getElem?_map, List.getElem?_eq_getElem hlt_k2]; rfl)) Try.underlying39 rfl (by kernel_rfl) (v := #[.string zs[k].fName, .string zs[k].fPath, .string zs[k].fFull, .bool zs[k].fIsRoot, .string zs[k].fRoot]) (by kernel_rfl)) ?_; intro a69 F69
      refine op_sq F69 (s_newp F69 39 #[.string ⟨#[]⟩, .string ⟨#[]⟩, .string ⟨#[]⟩, .bool false, .string ⟨#[]⟩] (by kernel_rfl) (by kernel_rfl) (by kernel_rfl) S58) ?_
      rintro _ _ w71 ⟨g69, rfl, rfl⟩ S71 a71 F71
      refine op_q F71 (.int .i64 (↑k)) ?_; intro a72 F72
      refine op_sq0 F72 (s_stb rfl (F72.e (.pointer (some ⟨g69, 0, none⟩))) (F72.e (.agg #[.string zs[k].fName, .string zs[k].fPath, .string zs[k].fFull, .bool zs[k].fIsRoot, .string zs[k].fRoot])) S71 (by kernel_rfl) rfl (by kernel_rfl)) ?_
      rintro _ _ w73 rfl S73 F73
      refine wpList_nil ?_
      refine hK66 _ _ ?_; clear hK66 K66
      refine wp_seq_k fun K74 hK74 => ?_
      refine wp_region_sepF (L0 := SA.blk g69 39 #[.string zs[k].fName, .string zs[k].fPath, .string zs[k].fFull, .bool zs[k].fIsRoot, .string zs[k].fRoot] :: SA.own (.slice A36 zs.length c36) 39 5 zs.length (flatC Ty39.cells zs) :: SA.own (.slice A27 zs.length c27) 39 5 zs.length (flatC Ty39.cells zs) :: L) [some [], some [], some [], some [(1, 38), (2, 39)], some [(3, 40)], some [(0, 37), (4, 41)]] [.v 37 (.agg #[.string zs[k].fName, .string zs[k].fPath, .string zs[k].fFull, .bool zs[k].fIsRoot, .string zs[k].fRoot]), .v 38 (.slice A36 (zs.length) c36), .v 39 (.int .i64 (↑k)), .v 40 (.pointer (some (ad60.add (k * 5)))), .v 41 (.agg #[.string zs[k].fName, .string zs[k].fPath, .string zs[k].fFull, .bool zs[k].fIsRoot, .string zs[k].fRoot]), .v 42 (.bool (!((zs[k].fName.toList == zs[k].fName.toList) && (zs[k].fPath.toList == zs[k].fPath.toList) && (zs[k].fFull.toList == zs[k].fFull.toList) && (zs[k].fIsRoot == zs[k].fIsRoot) && (zs[k].fRoot.toList == zs[k].fRoot.toList))))] [] F73 rfl (by kernel_rfl) S73 ?_ ?_
      · refine ⟨?_, ?_, ?_, ?_, ?_, ?_, trivial⟩
        · intro w87 M87
          intro a87 F87 S87
          refine obl_of (by rfl) ?_
          exact s_r (v := .agg #[.string zs[k].fName, .string zs[k].fPath, .string zs[k].fFull, .bool zs[k].fIsRoot, .string zs[k].fRoot]) (r_ldm rfl (F87.e (.pointer (some ⟨g69, 0, none⟩))) ((Sp.dropM S87.drop).bk 0 rfl) 5 (by kernel_rfl) Try.underlying39 rfl (by kernel_rfl) (v := #[.string zs[k].fName, .string zs[k].fPath, .string zs[k].fFull, .bool zs[k].fIsRoot, .string zs[k].fRoot]) (by kernel_rfl)) S87
        · intro w88 M88
          intro a88 F88 S88
          refine obl_of (by rfl) ?_
          exact s_p F88 (v := .slice A36 (zs.length) c36) (by kernel_rfl) (by kernel_rfl) (by kernel_rfl) S88
        · intro w89 M89
          intro a89 F89 S89
          refine obl_of (by rfl) ?_
          exact s_p F89 (v := .int .i64 (↑k)) (by kernel_rfl) (by kernel_rfl) (by kernel_rfl) S89
        · intro w90 M90
          intro a90 F90 S90
          refine obl_of (by rfl) ?_
          exact s_r (v := .pointer (some (ad60.add (k * 5)))) (r_ix rfl Try.underlying34 5 (by kernel_rfl) (F90.e (.slice A36 (zs.length) c36)) hA60 (F90.e (.int .i64 (↑k))) k (by first | rfl | omega | simp) (by first | omega | (simp; done) | (simp; omega)) (rfl)) S90
        · intro w93 M93
          intro a93 F93 S93
          refine obl_of (by rfl) ?_
          exact s_r (v := .agg #[.string zs[k].fName, .string zs[k].fPath, .string zs[k].fFull, .bool zs[k].fIsRoot, .string zs[k].fRoot]) (r_ldR rfl (F93.e (.pointer (some (ad60.add (k * 5))))) (cs := [.string zs[k].fName, .string zs[k].fPath, .string zs[k].fFull, .bool zs[k].fIsRoot, .string zs[k].fRoot]) ((own_rowsT1 ((Sp.dropM S93.drop).ow 1 rfl) (by first | rfl | (simp; done) | omega) (by decide) (fun x => x.len) (by first | omega | (simp; omega))).elA hA60 (j := k) (row := zs[k].cells) (by rw [List.getElem?_map, List.getElem?_eq_getElem hlt_k2]; rfl)) Try.underlying39 rfl (by kernel_rfl) (v := #[.string zs[k].fName, .string zs[k].fPath, .string zs[k].fFull, .bool zs[k].fIsRoot, .string zs[k].fRoot]) (by kernel_rfl)) S93
        · intro w95 M95
          intro a95 F95 S95
          refine obl_of (by rfl) ?_
          exact s_r (v := .bool (!((zs[k].fName.toList == zs[k].fName.toList) && (zs[k].fPath.toList == zs[k].fPath.toList) && (zs[k].fFull.toList == zs[k].fFull.toList) && (zs[k].fIsRoot == zs[k].fIsRoot) && (zs[k].fRoot.toList == zs[k].fRoot.toList)))) (r_eq (neqT39 zs[k].fName zs[k].fName zs[k].fPath zs[k].fPath zs[k].fFull zs[k].fFull zs[k].fIsRoot zs[k].fIsRoot zs[k].fRoot zs[k].fRoot _) rfl (F95.e (.agg #[.string zs[k].fName, .string zs[k].fPath, .string zs[k].fFull, .bool zs[k].fIsRoot, .string zs[k].fRoot])) (F95.e (.agg #[.string zs[k].fName, .string zs[k].fPath, .string zs[k].fFull, .bool zs[k].fIsRoot, .string zs[k].fRoot])) (by kernel_rfl)) S95
      · intro a100 w99 F100 S99
        have S101 : Sp R w99 (SA.blk g69 39 #[.string zs[k].fName, .string zs[k].fPath, .string zs[k].fFull, .bool zs[k].fIsRoot, .string zs[k].fRoot] :: SA.own (.slice A36 zs.length c36) 39 5 zs.length (flatC Ty39.cells zs) :: SA.own (.slice A27 zs.length c27) 39 5 zs.length (flatC Ty39.cells zs) :: L) := S99
        refine wpList_nil ?_
        refine hK74 _ _ ?_; clear hK74 K74
        have hc102 : ((zs[k].fName.toList == zs[k].fName.toList) && (zs[k].fPath.toList == zs[k].fPath.toList) && (zs[k].fFull.toList == zs[k].fFull.toList) && (zs[k].fIsRoot == zs[k].fIsRoot) && (zs[k].fRoot.toList == zs[k].fRoot.toList)) = true := (by simp)
        have F103 := F100.sb 42 (by kernel_rfl) (show (!((zs[k].fName.toList == zs[k].fName.toList) && (zs[k].fPath.toList == zs[k].fPath.toList) && (zs[k].fFull.toList == zs[k].fFull.toList) && (zs[k].fIsRoot == zs[k].fIsRoot) && (zs[k].fRoot.toList == zs[k].fRoot.toList))) = false by rw [hc102]; rfl)
        refine wp_cond_false (F103.ev (by kernel_rfl)) ?_
        refine wp_skip ?_
        refine hK65 _ _ ?_; clear hK65 K65
        refine wp_region_lit ?_
        refine op_rq (v := .int .i64 (↑(k + 1))) F103 (r_add (z := ↑(k + 1)) rfl (F103.e (.int .i64 (↑k))) (F103.e (.int .i64 1)) (wr64 (by omega) (by omega) (by omega))) ?_; intro a104 F104
        refine op_q F104 (.int .i64 (↑(k + 1))) ?_; intro a105 F105
        refine wpList_nil ?_
        exact hK58 _ _ _ (by first | omega | (simp; omega)) ⟨k + 1, rfl, (F105.kk 6 (F105.kk 30 (F105.kk 31 (F105.kk 32 F105.nil)))), S101.drop.p1.p1, (by first | omega | (with_reducible assumption) | (simp; done))⟩
    · have hc_k : decide ((↑k : Int) < ↑zs.length) = false := by first | (simp; done) | (simp; omega)
      obtain rfl : k = zs.length := by omega
      refine wp_seq_k fun K106 hK106 => ?_
      refine wp_region_lit ?_
      refine op_q F58 (.bool (decide ((↑zs.length : Int) < ↑zs.length))) ?_; intro a107 F107
      have F108 := F107.sb 33 (by kernel_rfl) hc_k
      refine wpList_nil ?_
      refine hK106 _ _ ?_; clear hK106 K106
      refine wp_seq_k fun K109 hK109 => ?_
      refine wp_cond_false (F108.ev (by kernel_rfl)) ?_
      refine wp_exit ?_
      refine ex_then ?_; clear hK109 K109
      refine ex_then ?_
      refine ex_in ?_
      refine hK53 _ _ ?_; clear hK53 K53
      refine wp_seq_k fun K110 hK110 => ?_
      refine wp_region_lit ?_
      refine op_q F108 (.bool true) ?_; intro a111 F111
      refine wpList_nil ?_
      refine hK110 _ _ ?_; clear hK110 K110
      refine wp_ret ?_
      refine (F111.res1 rfl (v := .bool true) (by kernel_rfl) ?_).1
      exact ⟨rfl, S58.drop.drop⟩
  · have F112 := F10.sb 10 (by kernel_rfl) hc11
    have F113 := F112.sb 11 (by kernel_rfl) (show (!(b8)) = true by rw [hc11]; rfl)
    refine wp_cond_true (F113.ev (by kernel_rfl)) ?_
    refine wp_seq_k fun K114 hK114 => ?_
    refine wp_region_lit ?_
    refine op_q F113 (.bool true) ?_; intro a115 F115
    refine wpList_nil ?_
    refine hK114 _ _ ?_; clear hK114 K114
    refine wp_ret ?_
    refine ret_then ?_
    refine (F115.res1 rfl (v := .bool true) (by kernel_rfl) ?_).1
    exact ⟨rfl, S8.drop⟩
theorem fnChartPaths_walk (x : Ty30) (w : World) (u0 : x.ok w) : Calls Try.prog 3 #[.agg x.cells.toArray] w fun e w' => e = .returned (.bool true) ∧ Below w.heap.size w w' := by
  exact (chartPathsLaw_sp x _ [] w (Sp.start w) (Rf.of fun _ hb => TiAt.below hb u0)).mono fun _ _ ⟨he, hS⟩ => ⟨he, Sp.below_of hS⟩
end Go.Proofs.Ytkjcedlgljeoiaa

