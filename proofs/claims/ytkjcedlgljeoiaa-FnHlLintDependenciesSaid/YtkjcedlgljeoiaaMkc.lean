/- Texts Ld3, Zn, Ld4, laid together. -/
import Derived.WalkKit
import Derived.WalkLawsBesides
import Derived.WalkSpells
import Derived.Lib.Hide
import Derived.Deep.RegionWith
import Derived.Deep.DeepCutAuto
import Derived.Deep.QuietTactic
import Derived.BigQuiet
import Derived.Laws.OwnMore
import Derived.Deep.LoopGhost
import Derived.KernelRfl
import Derived.Deep.WholeRow
import Derived.StillTail
import Derived.SliceStrings
import Derived.Deep.Slices
import Derived.Deep.Fields
import Derived.ChangeSame
import Derived.Deep.MidRow
import Derived.Maps.AppendAt
import Derived.Lib.AppendStr
import Derived.Lib.ConvBytes
import Derived.Laws.BytesArg
import Derived.Deep.RegionLaw
import Derived.OwnWalk
import Derived.Maps.OwnSet
import Derived.Maps.OwnOps
import Derived.ArgAppend
import Derived.Defers
import Derived.Recover
import Derived.Laws.Pointers
import Derived.Laws.StructEq
import Derived.IntWalk
import Derived.Test.YtkjcedlgljeoiaaProg
import Derived.BigRegion
import Derived.Deep.CutBlock
import Derived.Carry
import Derived.LoopN
import Derived.Test.YtkjcedlgljeoiaaMkb
/- rules.ZzDependencies: the three rules of dependencies. -/
namespace Go.Proofs.Ytkjcedlgljeoiaa
open Go.RowKit Go.Lib
set_option linter.unusedVariables false
set_option linter.unusedSimpArgs false
/-- A chart in memory with small ones in it. -/
def SA.rt (gc : Nat) (xs ys : List ByteArray) : SA := SA.ex fun gm : Nat => SA.ex fun D : Option Addr => SA.ex fun dc : Nat => SA.ex fun qs : List (Option Addr) => SA.ex fun A : Option Addr => SA.ex fun c : Nat => SA.stars [SA.blk gc 245 #[.slice none 0 0, .pointer (some ⟨gm, 0, none⟩), .slice none 0 0, .map none, .slice none 0 0, .slice none 0 0, .pointer none, .slice D qs.length dc], SA.own (.slice D qs.length dc) 125 1 qs.length (pps qs), SA.zips SA.lf qs ys, SA.met gm (rtM xs A c)]
/-- A dependency of a name, behind a pointer. -/
def SA.dq (q : Option Addr) (s : ByteArray) : SA := SA.dep q (dpd s)
/-- An error's text. -/
def SA.er (b : Bool) (g : Nat) (t : ByteArray) : SA := cond b (SA.blk g 281 #[.string t]) SA.emp
theorem zips_map {α β γ : Type} {f : α → β → SA} {h : γ → β} : ∀ (us : List α) (xs : List γ), SA.zips f us (xs.map h) = SA.zips (fun q s => f q (h s)) us xs
  | [], [] => rfl
  | [], _ :: _ => rfl
  | _ :: _, [] => rfl
  | u :: us, x :: xs => by
    show SA.star _ (SA.zips f us (xs.map h)) = SA.star _ (SA.zips (fun q s => f q (h s)) us xs)
    rw [zips_map us xs]
section
variable {R : Ctx} {w : World} {L : List SA}
theorem Sp.rt_mk {gc gm : Nat} {D : Option Addr} {dc : Nat} {qs : List (Option Addr)} {A : Option Addr} {c : Nat} {xs ys : List ByteArray} (S : Sp R w (SA.blk gc 245 #[.slice none 0 0, .pointer (some ⟨gm, 0, none⟩), .slice none 0 0, .map none, .slice none 0 0, .slice none 0 0, .pointer none, .slice D qs.length dc] :: SA.own (.slice D qs.length dc) 125 1 qs.length (pps qs) :: SA.zips SA.lf qs ys :: SA.met gm (rtM xs A c) :: L)) : Sp R w (SA.rt gc xs ys :: L) := Sp.ex.2 ⟨gm, Sp.ex.2 ⟨D, Sp.ex.2 ⟨dc, Sp.ex.2 ⟨qs, Sp.ex.2 ⟨A, Sp.ex.2 ⟨c, (Sp.stars (l := [SA.blk gc 245 #[.slice none 0 0, .pointer (some ⟨gm, 0, none⟩), .slice none 0 0, .map none, .slice none 0 0, .slice none 0 0, .pointer none, .slice D qs.length dc], SA.own (.slice D qs.length dc) 125 1 qs.length (pps qs), SA.zips SA.lf qs ys, SA.met gm (rtM xs A c)])).2 S⟩⟩⟩⟩⟩⟩
theorem Sp.rt_open {gc : Nat} {xs ys : List ByteArray} (S : Sp R w (SA.rt gc xs ys :: L)) : ∃ (gm : Nat) (D : Option Addr) (dc : Nat) (qs : List (Option Addr)) (A : Option Addr) (c : Nat), Sp R w (SA.blk gc 245 #[.slice none 0 0, .pointer (some ⟨gm, 0, none⟩), .slice none 0 0, .map none, .slice none 0 0, .slice none 0 0, .pointer none, .slice D qs.length dc] :: SA.own (.slice D qs.length dc) 125 1 qs.length (pps qs) :: SA.zips SA.lf qs ys :: SA.met gm (rtM xs A c) :: L) := by
  obtain ⟨gm, S⟩ := Sp.ex.1 S; obtain ⟨D, S⟩ := Sp.ex.1 S; obtain ⟨dc, S⟩ := Sp.ex.1 S; obtain ⟨qs, S⟩ := Sp.ex.1 S; obtain ⟨A, S⟩ := Sp.ex.1 S; obtain ⟨c, S⟩ := Sp.ex.1 S
  exact ⟨gm, D, dc, qs, A, c, Sp.stars.1 S⟩
theorem Sp.dq_z {us : List (Option Addr)} {xs : List ByteArray} (S : Sp R w (SA.zips SA.dep us (xs.map dpd) :: L)) : Sp R w (SA.zips SA.dq us xs :: L) := by rw [zips_map] at S; exact S
theorem Sp.dq_zb {us : List (Option Addr)} {xs : List ByteArray} (S : Sp R w (SA.zips SA.dq us xs :: L)) : Sp R w (SA.zips SA.dep us (xs.map dpd) :: L) := by rw [zips_map]; exact S
theorem Sp.dq_open {q : Option Addr} {s : ByteArray} (S : Sp R w (SA.dq q s :: L)) : ∃ (g : Nat) (A : Option Addr) (c : Nat), q = some ⟨g, 0, none⟩ ∧ Sp R w (SA.blk g 262 #[.string s, .string ⟨#[49, 46, 48, 46, 48]⟩, .string ⟨#[]⟩, .string ⟨#[]⟩, .slice A 0 c, .bool false, .slice none 0 0, .string ⟨#[]⟩] :: SA.own0 (.slice A 0 c) 9 1 0 ([]) :: L) := by
  rcases Sp.dep_open S with ⟨h, _⟩ | ⟨_, h⟩
  · cases h
  · exact h
theorem Sp.dq_mk {g : Nat} {A : Option Addr} {c : Nat} {s : ByteArray} (S : Sp R w (SA.blk g 262 #[.string s, .string ⟨#[49, 46, 48, 46, 48]⟩, .string ⟨#[]⟩, .string ⟨#[]⟩, .slice A 0 c, .bool false, .slice none 0 0, .string ⟨#[]⟩] :: SA.own0 (.slice A 0 c) 9 1 0 ([]) :: L)) : Sp R w (SA.dq (some ⟨g, 0, none⟩) s :: L) := Sp.dep_some (d := dpd s) rfl S
theorem Sp.er_t {g : Nat} {t : ByteArray} (S : Sp R w (SA.blk g 281 #[.string t] :: L)) : Sp R w (SA.er true g t :: L) := S
theorem Sp.er_f {g : Nat} {t : ByteArray} (S : Sp R w L) : Sp R w (SA.er false g t :: L) := S.emp
end
/-- The texts that are not in a list. -/
def onlyF (ys xs : List ByteArray) : List ByteArray := ys.filter fun s => !oneOf s xs
/-- The texts that stand there once more. -/
def dupF : List ByteArray → List ByteArray → List ByteArray
  | _, [] => []
  | seen, x :: xs => cond (oneOf x seen) (x :: dupF (seen ++ [x]) xs) (dupF (seen ++ [x]) xs)
theorem oneOf_snoc {s x : ByteArray} {xs : List ByteArray} : oneOf s (xs ++ [x]) = (oneOf s xs || x.toList == s.toList) := by simp [oneOf]
theorem only_snoc {ys xs : List ByteArray} {y : ByteArray} : onlyF (ys ++ [y]) xs = onlyF ys xs ++ cond (oneOf y xs) [] [y] := by
  unfold onlyF
  rw [List.filter_append]
  cases h : oneOf y xs <;> simp [h]
theorem only_take {ys xs : List ByteArray} {k : Nat} (h : k < ys.length) : onlyF (ys.take (k + 1)) xs = onlyF (ys.take k) xs ++ cond (oneOf ys[k] xs) [] [ys[k]] := by rw [List.take_succ_eq_append_getElem h, only_snoc]
theorem dup_snoc {x : ByteArray} : ∀ (l seen : List ByteArray), dupF seen (l ++ [x]) = dupF seen l ++ cond (oneOf x (seen ++ l)) [x] []
  | [], seen => by
    show cond (oneOf x seen) [x] [] = [] ++ cond (oneOf x (seen ++ [])) [x] []
    rw [List.append_nil, List.nil_append]
  | y :: l, seen => by
    have ih := dup_snoc (x := x) l (seen ++ [y])
    rw [List.append_assoc] at ih
    show cond (oneOf y seen) (y :: dupF (seen ++ [y]) (l ++ [x])) (dupF (seen ++ [y]) (l ++ [x])) = cond (oneOf y seen) (y :: dupF (seen ++ [y]) l) (dupF (seen ++ [y]) l) ++ _
    rw [ih]
    cases oneOf y seen <;> rfl
theorem dup_take {xs : List ByteArray} {k : Nat} (h : k < xs.length) : dupF [] (xs.take (k + 1)) = dupF [] (xs.take k) ++ cond (oneOf xs[k] (xs.take k)) [xs[k]] [] := by rw [List.take_succ_eq_append_getElem h, dup_snoc]; rfl
theorem only_len {ys xs : List ByteArray} : (onlyF ys xs).length ≤ ys.length := List.length_filter_le ..
theorem dup_len : ∀ (l seen : List ByteArray), (dupF seen l).length ≤ l.length
  | [], _ => Nat.le_refl _
  | x :: l, seen => by
    have := dup_len l (seen ++ [x])
    show (cond (oneOf x seen) (x :: dupF (seen ++ [x]) l) (dupF (seen ++ [x]) l)).length ≤ l.length + 1
    cases oneOf x seen
    · show (dupF (seen ++ [x]) l).length ≤ l.length + 1; omega
    · show (dupF (seen ++ [x]) l).length + 1 ≤ l.length + 1; omega
theorem only_mem {ys xs : List ByteArray} {n : Nat} (h : ∀ x ∈ ys, x.size ≤ n) : ∀ x ∈ onlyF ys xs, x.size ≤ n := fun x hx => h x (List.mem_filter.1 hx).1
theorem dup_mem {n : Nat} : ∀ (l seen : List ByteArray), (∀ x ∈ l, x.size ≤ n) → ∀ x ∈ dupF seen l, x.size ≤ n
  | [], _, _ => fun x hx => by cases hx
  | y :: l, seen, h => fun x hx => by
    have ih := dup_mem l (seen ++ [y]) fun z hz => h z (List.mem_cons_of_mem _ hz)
    have hx : x ∈ cond (oneOf y seen) (y :: dupF (seen ++ [y]) l) (dupF (seen ++ [y]) l) := hx
    cases hb : oneOf y seen with
    | false => rw [hb] at hx; exact ih x hx
    | true =>
      rw [hb] at hx
      rcases List.mem_cons.1 hx with rfl | hx
      · exact h _ (List.mem_cons_self ..)
      · exact ih x hx
def SetOf (f : ByteArray → Option Value) (xs : List ByteArray) : Prop := ∀ s, f s = cond (oneOf s xs) (some (.agg #[])) none
theorem setOf_0 : SetOf (fun _ => none) [] := fun s => rfl
theorem setOf_put {f : ByteArray → Option Value} {xs : List ByteArray} {k : Nat} (h : SetOf f (xs.take k)) (hk : k < xs.length) : SetOf (fput f xs[k] (.agg #[])) (xs.take (k + 1)) := fun s => by
  rw [List.take_succ_eq_append_getElem hk, oneOf_snoc]
  unfold fput
  by_cases e : s = xs[k]
  · rw [if_pos e, e, beq_self_eq_true, Bool.or_true]; rfl
  · rw [if_neg e, h s]
    have : (xs[k].toList == s.toList) = false := by
      cases hb : xs[k].toList == s.toList with
      | false => rfl
      | true => exact absurd (bytes_eqL hb).symm e
    rw [this, Bool.or_false]
theorem setOf_at {f : ByteArray → Option Value} {xs : List ByteArray} (h : SetOf f xs) (s : ByteArray) : f s = if oneOf s xs then some (.agg #[]) else none := by rw [h s]; cases oneOf s xs <;> rfl
def MapP (f : ByteArray → Option Value) (xs : List ByteArray) : Prop := ∀ s, (oneOf s xs = false → f s = none) ∧ (oneOf s xs = true → ∃ p : Addr, f s = some (.pointer (some p)))
theorem mapP_0 : MapP (fun _ => none) [] := fun s => ⟨fun _ => rfl, fun h => by cases h⟩
theorem mapP_put {f : ByteArray → Option Value} {xs : List ByteArray} {k : Nat} {p : Addr} (h : MapP f (xs.take k)) (hk : k < xs.length) : MapP (fput f xs[k] (.pointer (some p))) (xs.take (k + 1)) := fun s => by
  rw [List.take_succ_eq_append_getElem hk, oneOf_snoc]
  unfold fput
  by_cases e : s = xs[k]
  · rw [if_pos e, e, beq_self_eq_true, Bool.or_true]; exact ⟨fun h => (by cases h), fun _ => ⟨p, rfl⟩⟩
  · rw [if_neg e]
    have : (xs[k].toList == s.toList) = false := by
      cases hb : xs[k].toList == s.toList with
      | false => rfl
      | true => exact absurd (bytes_eqL hb).symm e
    rw [this, Bool.or_false]; exact h s
set_option maxRecDepth 100000 in
set_option maxHeartbeats 20000000 in
theorem inMeta_sp (gc : Nat) (xs : List ByteArray) (ys : List ByteArray) (R : Ctx) (L : List SA) (w : World) (S : Sp R w (SA.rt gc xs ys :: L))  (hx : xs.length ≤ 8) (hy : ys.length ≤ 8) (hxz : ∀ x ∈ xs, x.size ≤ 10) (hyz : ∀ x ∈ ys, x.size ≤ 10) :
    Calls Try.prog 162 #[.pointer (some ⟨gc, 0, none⟩)] w fun e w' => ∃ b : Bool, ∃ g : Nat, e = .returned (errV b g) ∧ Sp R w' (SA.er b g (toldF ⟨#[99, 104, 97, 114, 116, 32, 109, 101, 116, 97, 100, 97, 116, 97, 32, 105, 115, 32, 109, 105, 115, 115, 105, 110, 103, 32, 116, 104, 101, 115, 101, 32, 100, 101, 112, 101, 110, 100, 101, 110, 99, 105, 101, 115, 58, 32]⟩ (onlyF ys xs)) :: SA.rt gc xs ys :: L) ∧ (b = !(onlyF ys xs).isEmpty) := by
  obtain ⟨gm, D, dc, qs, A, c, Sr1⟩ := Sp.rt_open S
  have S2 : Sp R w (SA.blk gc 245 #[.slice none 0 0, .pointer (some ⟨gm, 0, none⟩), .slice none 0 0, .map none, .slice none 0 0, .slice none 0 0, .pointer none, .slice D qs.length dc] :: SA.own (.slice D qs.length dc) 125 1 qs.length (pps qs) :: SA.zips SA.lf qs ys :: SA.met gm (rtM xs A c) :: L) := Sr1
  obtain ⟨M1, m1, M2, m2, M3, m3, mq, M4, m4, mu, Sm3⟩ := Sp.met_open S2.p3
  have S4 : Sp R w (SA.blk gm 237 #[.string ((rtM xs A c).fName), .string ((rtM xs A c).fHome), .slice M1 ((rtM xs A c).fSources.length) m1, .string ((rtM xs A c).fVersion), .string ((rtM xs A c).fDescription), .slice M2 ((rtM xs A c).fKeywords.length) m2, .slice M3 mq.length m3, .string ((rtM xs A c).fIcon), .string ((rtM xs A c).fAPIVersion), .string ((rtM xs A c).fCondition), .string ((rtM xs A c).fTags), .string ((rtM xs A c).fAppVersion), .bool false, .map none, .string ((rtM xs A c).fKubeVersion), .slice M4 mu.length m4, .string ((rtM xs A c).fType)] :: SA.own0 (.slice M1 (rtM xs A c).fSources.length m1) 9 1 ((rtM xs A c).fSources.length) (strs (rtM xs A c).fSources) :: SA.own0 (.slice M2 (rtM xs A c).fKeywords.length m2) 9 1 ((rtM xs A c).fKeywords.length) (strs (rtM xs A c).fKeywords) :: SA.own (.slice M3 mq.length m3) 238 1 mq.length (pps mq) :: SA.zips SA.per mq (rtM xs A c).fMaintainers :: SA.own (.slice M4 mu.length m4) 240 1 mu.length (pps mu) :: SA.zips SA.dep mu (rtM xs A c).fDependencies :: SA.blk gc 245 #[.slice none 0 0, .pointer (some ⟨gm, 0, none⟩), .slice none 0 0, .map none, .slice none 0 0, .slice none 0 0, .pointer none, .slice D qs.length dc] :: SA.own (.slice D qs.length dc) 125 1 qs.length (pps qs) :: SA.zips SA.lf qs ys :: L) := Sm3
  have S5 : Sp R w (SA.zips SA.dq mu xs :: SA.blk gm 237 #[.string ((rtM xs A c).fName), .string ((rtM xs A c).fHome), .slice M1 ((rtM xs A c).fSources.length) m1, .string ((rtM xs A c).fVersion), .string ((rtM xs A c).fDescription), .slice M2 ((rtM xs A c).fKeywords.length) m2, .slice M3 mq.length m3, .string ((rtM xs A c).fIcon), .string ((rtM xs A c).fAPIVersion), .string ((rtM xs A c).fCondition), .string ((rtM xs A c).fTags), .string ((rtM xs A c).fAppVersion), .bool false, .map none, .string ((rtM xs A c).fKubeVersion), .slice M4 mu.length m4, .string ((rtM xs A c).fType)] :: SA.own0 (.slice M1 (rtM xs A c).fSources.length m1) 9 1 ((rtM xs A c).fSources.length) (strs (rtM xs A c).fSources) :: SA.own0 (.slice M2 (rtM xs A c).fKeywords.length m2) 9 1 ((rtM xs A c).fKeywords.length) (strs (rtM xs A c).fKeywords) :: SA.own (.slice M3 mq.length m3) 238 1 mq.length (pps mq) :: SA.zips SA.per mq (rtM xs A c).fMaintainers :: SA.own (.slice M4 mu.length m4) 240 1 mu.length (pps mu) :: SA.blk gc 245 #[.slice none 0 0, .pointer (some ⟨gm, 0, none⟩), .slice none 0 0, .map none, .slice none 0 0, .slice none 0 0, .pointer none, .slice D qs.length dc] :: SA.own (.slice D qs.length dc) 125 1 qs.length (pps qs) :: SA.zips SA.lf qs ys :: L) := Sp.dq_z S4.p6
  have hul := Sp.zlen S5
  have hql := Sp.zlen S5.p9
  refine fw_enter (fn := Try.f162) rfl rfl 72 rfl (Nat.le_of_ble_eq_true rfl) ?_
  intro a0 F0
  refine wp_seq_k fun K7 hK7 => ?_
  refine wp_region_lit ?_
  refine op_q F0 (.nilIface) ?_; intro a8 F8
  refine wpList_nil ?_
  refine hK7 _ _ ?_; clear hK7 K7
  refine wp_seq_k fun K9 hK9 => ?_
  refine wp_region_lit ?_
  refine op_sq F8 (s_mkmap rfl 9 S5) ?_
  rintro _ _ w11 ⟨g9, rfl, rfl⟩ S11 a11 F11
  refine op_q F11 (.map (some g9)) ?_; intro a12 F12
  refine wpList_nil ?_
  refine hK9 _ _ ?_; clear hK9 K9
  refine wp_seq_k fun K13 hK13 => ?_
  refine wp_region_lit ?_
  refine op_sq F12 (s_news F12 9 #[] 0 (by kernel_rfl) (by kernel_rfl) (by kernel_rfl) S11) ?_
  rintro _ _ w15 ⟨g13, rfl, rfl⟩ S15 a15 F15
  refine op_q F15 (.slice (some ⟨g13, 0, none⟩) 0 0) ?_; intro a16 F16
  refine wpList_nil ?_
  refine hK13 _ _ ?_; clear hK13 K13
  refine wp_seq_k fun K17 hK17 => ?_
  refine wp_seq_k fun K18 hK18 => ?_
  refine wp_region_lit ?_
  refine op_q F16 (.pointer (some ⟨gc, 0, none⟩)) ?_; intro a19 F19
  refine op_q F19 (.pointer (some ⟨gc, 0, none⟩)) ?_; intro a20 F20
  refine op_q F20 (.pointer (some ⟨gc, 1, none⟩)) ?_; intro a21 F21
  refine op_rq (v := .pointer (some ⟨gm, 0, none⟩)) F21 (r_ld rfl (F21.e (.pointer (some ⟨gc, 1, none⟩))) (v := .pointer (some ⟨gm, 0, none⟩)) ((S15.bk 9 rfl).cell 1) Try.underlying163 rfl) ?_; intro a22 F22
  refine op_q F22 (.pointer (some ⟨gm, 0, none⟩)) ?_; intro a23 F23
  refine op_q F23 (.pointer (some ⟨gm, 15, none⟩)) ?_; intro a24 F24
  refine op_rq (v := .slice M4 mu.length m4) F24 (r_ld rfl (F24.e (.pointer (some ⟨gm, 15, none⟩))) (v := .slice M4 mu.length m4) ((S15.bk 3 rfl).cell 15) Try.underlying235 rfl) ?_; intro a25 F25
  refine op_q F25 (.int .i64 (↑mu.length)) ?_; intro a26 F26
  refine op_q F26 (.int .i64 0) ?_; intro a27 F27
  refine wpList_nil ?_
  refine hK18 _ _ ?_; clear hK18 K18
  refine wp_block ?_
  have S28 : Sp R w15 (SA.own (.slice (some ⟨g13, 0, none⟩) 0 0) 9 1 0 (strs []) :: SA.mpo Try.prog 9 g9 0 (fun _ => none) :: SA.zips SA.dq mu xs :: SA.blk gm 237 #[.string ((rtM xs A c).fName), .string ((rtM xs A c).fHome), .slice M1 ((rtM xs A c).fSources.length) m1, .string ((rtM xs A c).fVersion), .string ((rtM xs A c).fDescription), .slice M2 ((rtM xs A c).fKeywords.length) m2, .slice M3 mq.length m3, .string ((rtM xs A c).fIcon), .string ((rtM xs A c).fAPIVersion), .string ((rtM xs A c).fCondition), .string ((rtM xs A c).fTags), .string ((rtM xs A c).fAppVersion), .bool false, .map none, .string ((rtM xs A c).fKubeVersion), .slice M4 mu.length m4, .string ((rtM xs A c).fType)] :: SA.own0 (.slice M1 (rtM xs A c).fSources.length m1) 9 1 ((rtM xs A c).fSources.length) (strs (rtM xs A c).fSources) :: SA.own0 (.slice M2 (rtM xs A c).fKeywords.length m2) 9 1 ((rtM xs A c).fKeywords.length) (strs (rtM xs A c).fKeywords) :: SA.own (.slice M3 mq.length m3) 238 1 mq.length (pps mq) :: SA.zips SA.per mq (rtM xs A c).fMaintainers :: SA.own (.slice M4 mu.length m4) 240 1 mu.length (pps mu) :: SA.blk gc 245 #[.slice none 0 0, .pointer (some ⟨gm, 0, none⟩), .slice none 0 0, .map none, .slice none 0 0, .slice none 0 0, .pointer none, .slice D qs.length dc] :: SA.own (.slice D qs.length dc) 125 1 qs.length (pps qs) :: SA.zips SA.lf qs ys :: L) := Sp.ofblk (sz := 1) (m := 0) (l := []) S15 rfl (by omega) rfl
  refine fw_loop (fun m' a' w' => ∃ f : ByteArray → Option Value, ∃ n : Nat, ∃ k : Nat, xs.length - k = m' ∧ Fr 72 [] a' [(0, .pointer (some ⟨gc, 0, none⟩)), (2, .nilIface), (3, .map (some g9)), (4, .slice (some ⟨g13, 0, none⟩) 0 0), (19, .slice M4 mu.length m4), (20, .int .i64 (↑mu.length)), (21, .int .i64 (↑k))] ∧ Sp R w' (SA.own (.slice (some ⟨g13, 0, none⟩) 0 0) 9 1 0 (strs []) :: SA.zips SA.dq mu xs :: SA.blk gm 237 #[.string ((rtM xs A c).fName), .string ((rtM xs A c).fHome), .slice M1 ((rtM xs A c).fSources.length) m1, .string ((rtM xs A c).fVersion), .string ((rtM xs A c).fDescription), .slice M2 ((rtM xs A c).fKeywords.length) m2, .slice M3 mq.length m3, .string ((rtM xs A c).fIcon), .string ((rtM xs A c).fAPIVersion), .string ((rtM xs A c).fCondition), .string ((rtM xs A c).fTags), .string ((rtM xs A c).fAppVersion), .bool false, .map none, .string ((rtM xs A c).fKubeVersion), .slice M4 mu.length m4, .string ((rtM xs A c).fType)] :: SA.own0 (.slice M1 (rtM xs A c).fSources.length m1) 9 1 ((rtM xs A c).fSources.length) (strs (rtM xs A c).fSources) :: SA.own0 (.slice M2 (rtM xs A c).fKeywords.length m2) 9 1 ((rtM xs A c).fKeywords.length) (strs (rtM xs A c).fKeywords) :: SA.own (.slice M3 mq.length m3) 238 1 mq.length (pps mq) :: SA.zips SA.per mq (rtM xs A c).fMaintainers :: SA.own (.slice M4 mu.length m4) 240 1 mu.length (pps mu) :: SA.blk gc 245 #[.slice none 0 0, .pointer (some ⟨gm, 0, none⟩), .slice none 0 0, .map none, .slice none 0 0, .slice none 0 0, .pointer none, .slice D qs.length dc] :: SA.own (.slice D qs.length dc) 125 1 qs.length (pps qs) :: SA.zips SA.lf qs ys :: SA.mpo Try.prog 9 g9 n f :: L) ∧ (k ≤ xs.length) ∧ (n ≤ k) ∧ (SetOf f (xs.take k))) _ ⟨(fun _ => none), 0, 0, rfl, (F27.kk 0 (F27.kk 2 (F27.kk 3 (F27.kk 4 (F27.kk 19 (F27.kk 20 (F27.kk 21 F27.nil))))))), S28.p1.p11.p11.p11.p11.p11.p11.p11.p11.p11.p11.p11, (by first | omega | (with_reducible assumption) | (simp; done)), (by first | omega | (with_reducible assumption) | (simp; done)), setOf_0⟩ ?_
  rintro m29 a29 w29 ⟨f, n, k, hm29, F29, S29, hk, hnn, hf⟩ K29 hK29
  by_cases hlt_k : k < mu.length
  · have hc_k : decide ((↑k : Int) < ↑mu.length) = true := by first | (simp; done) | (simp; omega)
    have hlt_k2 : k < xs.length := by omega
    obtain ⟨hv_k, Sz30⟩ := Sp.zat (k := k) hlt_k2 S29.p1
    obtain ⟨qk, hqk⟩ : ∃ q, q = mu[k] := ⟨_, rfl⟩
    have S31 : Sp R w29 (SA.dq qk xs[k] :: SA.zips SA.dq (mu.take k) (xs.take k) :: SA.zips SA.dq (mu.drop (k + 1)) (xs.drop (k + 1)) :: SA.own (.slice (some ⟨g13, 0, none⟩) 0 0) 9 1 0 (strs []) :: SA.blk gm 237 #[.string ((rtM xs A c).fName), .string ((rtM xs A c).fHome), .slice M1 ((rtM xs A c).fSources.length) m1, .string ((rtM xs A c).fVersion), .string ((rtM xs A c).fDescription), .slice M2 ((rtM xs A c).fKeywords.length) m2, .slice M3 mq.length m3, .string ((rtM xs A c).fIcon), .string ((rtM xs A c).fAPIVersion), .string ((rtM xs A c).fCondition), .string ((rtM xs A c).fTags), .string ((rtM xs A c).fAppVersion), .bool false, .map none, .string ((rtM xs A c).fKubeVersion), .slice M4 mu.length m4, .string ((rtM xs A c).fType)] :: SA.own0 (.slice M1 (rtM xs A c).fSources.length m1) 9 1 ((rtM xs A c).fSources.length) (strs (rtM xs A c).fSources) :: SA.own0 (.slice M2 (rtM xs A c).fKeywords.length m2) 9 1 ((rtM xs A c).fKeywords.length) (strs (rtM xs A c).fKeywords) :: SA.own (.slice M3 mq.length m3) 238 1 mq.length (pps mq) :: SA.zips SA.per mq (rtM xs A c).fMaintainers :: SA.own (.slice M4 mu.length m4) 240 1 mu.length (pps mu) :: SA.blk gc 245 #[.slice none 0 0, .pointer (some ⟨gm, 0, none⟩), .slice none 0 0, .map none, .slice none 0 0, .slice none 0 0, .pointer none, .slice D qs.length dc] :: SA.own (.slice D qs.length dc) 125 1 qs.length (pps qs) :: SA.zips SA.lf qs ys :: SA.mpo Try.prog 9 g9 n f :: L) := by rw [hqk]; exact Sz30
    obtain ⟨gd, Ad, cd, hqk2, Sd32⟩ := Sp.dq_open S31
    subst hqk2
    have hkz := hxz _ (List.getElem_mem hlt_k2)
    have S33 : Sp R w29 (SA.blk gd 262 #[.string xs[k], .string ⟨#[49, 46, 48, 46, 48]⟩, .string ⟨#[]⟩, .string ⟨#[]⟩, .slice Ad 0 cd, .bool false, .slice none 0 0, .string ⟨#[]⟩] :: SA.own0 (.slice Ad 0 cd) 9 1 0 ([]) :: SA.zips SA.dq (mu.take k) (xs.take k) :: SA.zips SA.dq (mu.drop (k + 1)) (xs.drop (k + 1)) :: SA.own (.slice (some ⟨g13, 0, none⟩) 0 0) 9 1 0 (strs []) :: SA.blk gm 237 #[.string ((rtM xs A c).fName), .string ((rtM xs A c).fHome), .slice M1 ((rtM xs A c).fSources.length) m1, .string ((rtM xs A c).fVersion), .string ((rtM xs A c).fDescription), .slice M2 ((rtM xs A c).fKeywords.length) m2, .slice M3 mq.length m3, .string ((rtM xs A c).fIcon), .string ((rtM xs A c).fAPIVersion), .string ((rtM xs A c).fCondition), .string ((rtM xs A c).fTags), .string ((rtM xs A c).fAppVersion), .bool false, .map none, .string ((rtM xs A c).fKubeVersion), .slice M4 mu.length m4, .string ((rtM xs A c).fType)] :: SA.own0 (.slice M1 (rtM xs A c).fSources.length m1) 9 1 ((rtM xs A c).fSources.length) (strs (rtM xs A c).fSources) :: SA.own0 (.slice M2 (rtM xs A c).fKeywords.length m2) 9 1 ((rtM xs A c).fKeywords.length) (strs (rtM xs A c).fKeywords) :: SA.own (.slice M3 mq.length m3) 238 1 mq.length (pps mq) :: SA.zips SA.per mq (rtM xs A c).fMaintainers :: SA.own (.slice M4 mu.length m4) 240 1 mu.length (pps mu) :: SA.blk gc 245 #[.slice none 0 0, .pointer (some ⟨gm, 0, none⟩), .slice none 0 0, .map none, .slice none 0 0, .slice none 0 0, .pointer none, .slice D qs.length dc] :: SA.own (.slice D qs.length dc) 125 1 qs.length (pps qs) :: SA.zips SA.lf qs ys :: SA.mpo Try.prog 9 g9 n f :: L) := Sd32
    obtain ⟨ad34, hA34⟩ := (own_sl1 (S33.ow 10 rfl) (by first | omega | (simp; omega))).addr (by simp [pps]; omega)
    refine wp_seq_k fun K35 hK35 => ?_
    refine wp_region_lit ?_
    refine op_q F29 (.bool (decide ((↑k : Int) < ↑mu.length))) ?_; intro a36 F36
    have F37 := F36.sb 22 (by kernel_rfl) hc_k
    refine wpList_nil ?_
    refine hK35 _ _ ?_; clear hK35 K35
    refine wp_seq_k fun K38 hK38 => ?_
    refine wp_cond_true (F37.ev (by kernel_rfl)) ?_
    refine wp_skip ?_
    refine hK38 _ _ ?_; clear hK38 K38
    refine wp_seq_k fun K39 hK39 => ?_
    refine wp_block ?_
    refine wp_seq_k fun K40 hK40 => ?_
    refine wp_region_lit ?_
    refine op_rq (v := .pointer (some (ad34.add k))) F37 (r_ix rfl Try.underlying235 1 (by kernel_rfl) (F37.e (.slice M4 mu.length m4)) hA34 (F37.e (.int .i64 (↑k))) k (by first | rfl | omega | simp) (by first | omega | (simp; done) | (simp; omega)) (by simp only [Nat.mul_one])) ?_; intro a41 F41
    refine op_rq (v := .pointer (some ⟨gd, 0, none⟩)) F41 (r_ld rfl (F41.e (.pointer (some (ad34.add k)))) (v := .pointer (some ⟨gd, 0, none⟩)) ((own_sl1 (S33.ow 10 rfl) (by first | omega | (simp; omega))).elA hA34 (j := k) (by simp only [pps, List.getElem?_map, List.getElem?_eq_getElem hlt_k]; rw [← hqk]; rfl)) Try.underlying240 rfl) ?_; intro a42 F42
    refine op_q F42 (.pointer (some ⟨gd, 0, none⟩)) ?_; intro a43 F43
    refine wpList_nil ?_
    refine hK40 _ _ ?_; clear hK40 K40
    refine wp_region_lit ?_
    refine op_q F43 (.map (some g9)) ?_; intro a44 F44
    refine op_q F44 (.pointer (some ⟨gd, 0, none⟩)) ?_; intro a45 F45
    refine op_q F45 (.pointer (some ⟨gd, 0, none⟩)) ?_; intro a46 F46
    refine op_q F46 (.pointer (some ⟨gd, 0, none⟩)) ?_; intro a47 F47
    refine op_rq (v := .string xs[k]) F47 (r_ld rfl (F47.e (.pointer (some ⟨gd, 0, none⟩))) (v := .string xs[k]) ((S33.bk 0 rfl).cell 0) Try.underlying9 rfl) ?_; intro a48 F48
    refine op_q F48 (.agg #[]) ?_; intro a49 F49
    refine op_sq0 F49 (s_mput rfl Try.underlying9 Try.underlying271 (F49.e (.map (some g9))) (F49.e (.string xs[k])) (F49.e (.agg #[])) S33.p14 (by simp only [maxLen]; omega) (by simp only [maxLen]; omega)) ?_
    rintro _ _ w50 rfl S50 F50
    refine wpList_nil ?_
    refine hK39 _ _ ?_; clear hK39 K39
    refine wp_region_lit ?_
    refine op_rq (v := .int .i64 (↑(k + 1))) F50 (r_add (z := ↑(k + 1)) rfl (F50.e (.int .i64 (↑k))) (F50.e (.int .i64 1)) (wr64 (by omega) (by omega) (by omega))) ?_; intro a51 F51
    refine op_q F51 (.int .i64 (↑(k + 1))) ?_; intro a52 F52
    refine wpList_nil ?_
    have S53 : Sp R w50 (SA.dq (some ⟨gd, 0, none⟩) xs[k] :: SA.mpo Try.prog 9 g9 (n + 1) (fput f xs[k] (Value.agg #[])) :: SA.zips SA.dq (mu.take k) (xs.take k) :: SA.zips SA.dq (mu.drop (k + 1)) (xs.drop (k + 1)) :: SA.own (.slice (some ⟨g13, 0, none⟩) 0 0) 9 1 0 (strs []) :: SA.blk gm 237 #[.string ((rtM xs A c).fName), .string ((rtM xs A c).fHome), .slice M1 ((rtM xs A c).fSources.length) m1, .string ((rtM xs A c).fVersion), .string ((rtM xs A c).fDescription), .slice M2 ((rtM xs A c).fKeywords.length) m2, .slice M3 mq.length m3, .string ((rtM xs A c).fIcon), .string ((rtM xs A c).fAPIVersion), .string ((rtM xs A c).fCondition), .string ((rtM xs A c).fTags), .string ((rtM xs A c).fAppVersion), .bool false, .map none, .string ((rtM xs A c).fKubeVersion), .slice M4 mu.length m4, .string ((rtM xs A c).fType)] :: SA.own0 (.slice M1 (rtM xs A c).fSources.length m1) 9 1 ((rtM xs A c).fSources.length) (strs (rtM xs A c).fSources) :: SA.own0 (.slice M2 (rtM xs A c).fKeywords.length m2) 9 1 ((rtM xs A c).fKeywords.length) (strs (rtM xs A c).fKeywords) :: SA.own (.slice M3 mq.length m3) 238 1 mq.length (pps mq) :: SA.zips SA.per mq (rtM xs A c).fMaintainers :: SA.own (.slice M4 mu.length m4) 240 1 mu.length (pps mu) :: SA.blk gc 245 #[.slice none 0 0, .pointer (some ⟨gm, 0, none⟩), .slice none 0 0, .map none, .slice none 0 0, .slice none 0 0, .pointer none, .slice D qs.length dc] :: SA.own (.slice D qs.length dc) 125 1 qs.length (pps qs) :: SA.zips SA.lf qs ys :: L) := Sp.dq_mk S50.p2.p2
    have S54 : Sp R w50 (SA.zips SA.dq mu xs :: SA.mpo Try.prog 9 g9 (n + 1) (fput f xs[k] (Value.agg #[])) :: SA.own (.slice (some ⟨g13, 0, none⟩) 0 0) 9 1 0 (strs []) :: SA.blk gm 237 #[.string ((rtM xs A c).fName), .string ((rtM xs A c).fHome), .slice M1 ((rtM xs A c).fSources.length) m1, .string ((rtM xs A c).fVersion), .string ((rtM xs A c).fDescription), .slice M2 ((rtM xs A c).fKeywords.length) m2, .slice M3 mq.length m3, .string ((rtM xs A c).fIcon), .string ((rtM xs A c).fAPIVersion), .string ((rtM xs A c).fCondition), .string ((rtM xs A c).fTags), .string ((rtM xs A c).fAppVersion), .bool false, .map none, .string ((rtM xs A c).fKubeVersion), .slice M4 mu.length m4, .string ((rtM xs A c).fType)] :: SA.own0 (.slice M1 (rtM xs A c).fSources.length m1) 9 1 ((rtM xs A c).fSources.length) (strs (rtM xs A c).fSources) :: SA.own0 (.slice M2 (rtM xs A c).fKeywords.length m2) 9 1 ((rtM xs A c).fKeywords.length) (strs (rtM xs A c).fKeywords) :: SA.own (.slice M3 mq.length m3) 238 1 mq.length (pps mq) :: SA.zips SA.per mq (rtM xs A c).fMaintainers :: SA.own (.slice M4 mu.length m4) 240 1 mu.length (pps mu) :: SA.blk gc 245 #[.slice none 0 0, .pointer (some ⟨gm, 0, none⟩), .slice none 0 0, .map none, .slice none 0 0, .slice none 0 0, .pointer none, .slice D qs.length dc] :: SA.own (.slice D qs.length dc) 125 1 qs.length (pps qs) :: SA.zips SA.lf qs ys :: L) := Sp.zclose (k := k) hlt_k2 hv_k (by rw [← hqk]; exact S53.p3.p3.p2)
    exact hK29 _ _ _ (by first | omega | (simp; omega)) ⟨(fput f xs[k] (Value.agg #[])), n + 1, k + 1, rfl, (F52.kk 0 (F52.kk 2 (F52.kk 3 (F52.kk 4 (F52.kk 19 (F52.kk 20 (F52.kk 21 F52.nil))))))), S54.p1.p11.p11.p11.p11.p11.p11.p11.p11.p11.p10.p11, (by first | omega | (with_reducible assumption) | (simp; done)), (by first | omega | (with_reducible assumption) | (simp; done)), (setOf_put hf hlt_k2)⟩
  · have hc_k : decide ((↑k : Int) < ↑mu.length) = false := by first | (simp; done) | (simp; omega)
    obtain rfl : k = mu.length := by omega
    rw [hul, List.take_length] at hf
    refine wp_seq_k fun K55 hK55 => ?_
    refine wp_region_lit ?_
    refine op_q F29 (.bool (decide ((↑mu.length : Int) < ↑mu.length))) ?_; intro a56 F56
    have F57 := F56.sb 22 (by kernel_rfl) hc_k
    refine wpList_nil ?_
    refine hK55 _ _ ?_; clear hK55 K55
    refine wp_seq_k fun K58 hK58 => ?_
    refine wp_cond_false (F57.ev (by kernel_rfl)) ?_
    refine wp_exit ?_
    refine ex_then ?_; clear hK58 K58
    refine ex_then ?_
    refine ex_in ?_
    refine hK17 _ _ ?_; clear hK17 K17
    refine wp_seq_k fun K59 hK59 => ?_
    refine wp_seq_k fun K60 hK60 => ?_
    refine wp_region_lit ?_
    refine op_q F57 (.pointer (some ⟨gc, 0, none⟩)) ?_; intro a61 F61
    refine op_cq F61 (f := 132) (args := #[.pointer (some ⟨gc, 0, none⟩)]) (deps_sp gc (.slice none 0 0) (.pointer (some ⟨gm, 0, none⟩)) (.slice none 0 0) (.map none) (.slice none 0 0) (.slice none 0 0) (.pointer none) D qs.length dc _ _ _ S29 (fun w S => S.bk 8 rfl)) ?_
    rintro _ w62 ⟨rfl, S62⟩
    refine ⟨_, rfl, ?_⟩
    intro a63 F63
    refine op_q F63 (.int .i64 (↑qs.length)) ?_; intro a64 F64
    refine op_q F64 (.int .i64 0) ?_; intro a65 F65
    refine wpList_nil ?_
    refine hK60 _ _ ?_; clear hK60 K60
    refine wp_block ?_
    refine fw_loop (fun m' a' w' => ∃ B : Option Addr, ∃ b : Nat, ∃ ms : List ByteArray, ∃ j : Nat, ys.length - j = m' ∧ Fr 72 [] a' [(2, .nilIface), (3, .map (some g9)), (4, .slice B ms.length b), (33, .slice (D) (qs.length) (dc)), (34, .int .i64 (↑qs.length)), (35, .int .i64 (↑j))] ∧ Sp R w' (SA.zips SA.dq mu xs :: SA.blk gm 237 #[.string ((rtM xs A c).fName), .string ((rtM xs A c).fHome), .slice M1 ((rtM xs A c).fSources.length) m1, .string ((rtM xs A c).fVersion), .string ((rtM xs A c).fDescription), .slice M2 ((rtM xs A c).fKeywords.length) m2, .slice M3 mq.length m3, .string ((rtM xs A c).fIcon), .string ((rtM xs A c).fAPIVersion), .string ((rtM xs A c).fCondition), .string ((rtM xs A c).fTags), .string ((rtM xs A c).fAppVersion), .bool false, .map none, .string ((rtM xs A c).fKubeVersion), .slice M4 mu.length m4, .string ((rtM xs A c).fType)] :: SA.own0 (.slice M1 (rtM xs A c).fSources.length m1) 9 1 ((rtM xs A c).fSources.length) (strs (rtM xs A c).fSources) :: SA.own0 (.slice M2 (rtM xs A c).fKeywords.length m2) 9 1 ((rtM xs A c).fKeywords.length) (strs (rtM xs A c).fKeywords) :: SA.own (.slice M3 mq.length m3) 238 1 mq.length (pps mq) :: SA.zips SA.per mq (rtM xs A c).fMaintainers :: SA.own (.slice M4 mu.length m4) 240 1 mu.length (pps mu) :: SA.blk gc 245 #[.slice none 0 0, .pointer (some ⟨gm, 0, none⟩), .slice none 0 0, .map none, .slice none 0 0, .slice none 0 0, .pointer none, .slice D qs.length dc] :: SA.own (.slice D qs.length dc) 125 1 qs.length (pps qs) :: SA.zips SA.lf qs ys :: SA.mpo Try.prog 9 g9 n f :: SA.own (.slice B ms.length b) 9 1 ms.length (strs ms) :: L) ∧ (j ≤ ys.length) ∧ (ms = onlyF (ys.take j) xs)) _ ⟨(some ⟨g13, 0, none⟩), 0, [], 0, rfl, (F65.kk 2 (F65.kk 3 (F65.kk 4 (F65.kk 33 (F65.kk 34 (F65.kk 35 F65.nil)))))), S62.p11.p11.p11.p11.p11.p11.p11.p11.p11.p11.p11, (by first | omega | (with_reducible assumption) | (simp; done)), rfl⟩ ?_
    rintro m66 a66 w66 ⟨B, b, ms, j, hm66, F66, S66, hj, hms⟩ K66 hK66
    by_cases hlt_j : j < qs.length
    · have hc_j : decide ((↑j : Int) < ↑qs.length) = true := by first | (simp; done) | (simp; omega)
      have hlt_j2 : j < ys.length := by omega
      obtain ⟨hv_j, Sz67⟩ := Sp.zat (k := j) hlt_j2 S66.p9
      obtain ⟨qj, hqj⟩ : ∃ q, q = qs[j] := ⟨_, rfl⟩
      have S68 : Sp R w66 (SA.lf qj ys[j] :: SA.zips SA.lf (qs.take j) (ys.take j) :: SA.zips SA.lf (qs.drop (j + 1)) (ys.drop (j + 1)) :: SA.zips SA.dq mu xs :: SA.blk gm 237 #[.string ((rtM xs A c).fName), .string ((rtM xs A c).fHome), .slice M1 ((rtM xs A c).fSources.length) m1, .string ((rtM xs A c).fVersion), .string ((rtM xs A c).fDescription), .slice M2 ((rtM xs A c).fKeywords.length) m2, .slice M3 mq.length m3, .string ((rtM xs A c).fIcon), .string ((rtM xs A c).fAPIVersion), .string ((rtM xs A c).fCondition), .string ((rtM xs A c).fTags), .string ((rtM xs A c).fAppVersion), .bool false, .map none, .string ((rtM xs A c).fKubeVersion), .slice M4 mu.length m4, .string ((rtM xs A c).fType)] :: SA.own0 (.slice M1 (rtM xs A c).fSources.length m1) 9 1 ((rtM xs A c).fSources.length) (strs (rtM xs A c).fSources) :: SA.own0 (.slice M2 (rtM xs A c).fKeywords.length m2) 9 1 ((rtM xs A c).fKeywords.length) (strs (rtM xs A c).fKeywords) :: SA.own (.slice M3 mq.length m3) 238 1 mq.length (pps mq) :: SA.zips SA.per mq (rtM xs A c).fMaintainers :: SA.own (.slice M4 mu.length m4) 240 1 mu.length (pps mu) :: SA.blk gc 245 #[.slice none 0 0, .pointer (some ⟨gm, 0, none⟩), .slice none 0 0, .map none, .slice none 0 0, .slice none 0 0, .pointer none, .slice D qs.length dc] :: SA.own (.slice D qs.length dc) 125 1 qs.length (pps qs) :: SA.mpo Try.prog 9 g9 n f :: SA.own (.slice B ms.length b) 9 1 ms.length (strs ms) :: L) := by rw [hqj]; exact Sz67
      obtain ⟨lg, lgm, lpar, L1, l1, L2, l2, L3, ln3, l3, L4, ln4, l4, hqj2, Sl69⟩ := Sp.lf_open S68
      subst hqj2
      have hjz := hyz _ (List.getElem_mem hlt_j2)
      have S70 : Sp R w66 (SA.blk lg 245 #[.slice none 0 0, .pointer (some ⟨lgm, 0, none⟩), .slice none 0 0, .map none, .slice none 0 0, .slice none 0 0, .pointer lpar, .slice none 0 0] :: SA.blk lgm 237 #[.string ys[j], .string ⟨#[]⟩, .slice L1 0 l1, .string ⟨#[49, 46, 48, 46, 48]⟩, .string ⟨#[]⟩, .slice L2 0 l2, .slice L3 ln3 l3, .string ⟨#[]⟩, .string ⟨#[]⟩, .string ⟨#[]⟩, .string ⟨#[]⟩, .string ⟨#[]⟩, .bool false, .map none, .string ⟨#[]⟩, .slice L4 ln4 l4, .string ⟨#[]⟩] :: SA.zips SA.lf (qs.take j) (ys.take j) :: SA.zips SA.lf (qs.drop (j + 1)) (ys.drop (j + 1)) :: SA.zips SA.dq mu xs :: SA.blk gm 237 #[.string ((rtM xs A c).fName), .string ((rtM xs A c).fHome), .slice M1 ((rtM xs A c).fSources.length) m1, .string ((rtM xs A c).fVersion), .string ((rtM xs A c).fDescription), .slice M2 ((rtM xs A c).fKeywords.length) m2, .slice M3 mq.length m3, .string ((rtM xs A c).fIcon), .string ((rtM xs A c).fAPIVersion), .string ((rtM xs A c).fCondition), .string ((rtM xs A c).fTags), .string ((rtM xs A c).fAppVersion), .bool false, .map none, .string ((rtM xs A c).fKubeVersion), .slice M4 mu.length m4, .string ((rtM xs A c).fType)] :: SA.own0 (.slice M1 (rtM xs A c).fSources.length m1) 9 1 ((rtM xs A c).fSources.length) (strs (rtM xs A c).fSources) :: SA.own0 (.slice M2 (rtM xs A c).fKeywords.length m2) 9 1 ((rtM xs A c).fKeywords.length) (strs (rtM xs A c).fKeywords) :: SA.own (.slice M3 mq.length m3) 238 1 mq.length (pps mq) :: SA.zips SA.per mq (rtM xs A c).fMaintainers :: SA.own (.slice M4 mu.length m4) 240 1 mu.length (pps mu) :: SA.blk gc 245 #[.slice none 0 0, .pointer (some ⟨gm, 0, none⟩), .slice none 0 0, .map none, .slice none 0 0, .slice none 0 0, .pointer none, .slice D qs.length dc] :: SA.own (.slice D qs.length dc) 125 1 qs.length (pps qs) :: SA.mpo Try.prog 9 g9 n f :: SA.own (.slice B ms.length b) 9 1 ms.length (strs ms) :: L) := Sl69
      obtain ⟨ad71, hA71⟩ := (own_sl1 (S70.ow 12 rfl) (by first | omega | (simp; omega))).addr (by simp [pps]; omega)
      have hml : ms.length ≤ 8 := by have := only_len (ys := ys.take j) (xs := xs); rw [← hms, List.length_take] at this; omega
      refine wp_seq_k fun K72 hK72 => ?_
      refine wp_region_lit ?_
      refine op_q F66 (.bool (decide ((↑j : Int) < ↑qs.length))) ?_; intro a73 F73
      have F74 := F73.sb 36 (by kernel_rfl) hc_j
      refine wpList_nil ?_
      refine hK72 _ _ ?_; clear hK72 K72
      refine wp_seq_k fun K75 hK75 => ?_
      refine wp_cond_true (F74.ev (by kernel_rfl)) ?_
      refine wp_skip ?_
      refine hK75 _ _ ?_; clear hK75 K75
      refine wp_seq_k fun K76 hK76 => ?_
      refine wp_block ?_
      refine wp_seq_k fun K77 hK77 => ?_
      refine wp_region_lit ?_
      refine op_rq (v := .pointer (some (ad71.add j))) F74 (r_ix rfl Try.underlying211 1 (by kernel_rfl) (F74.e (.slice (D) (qs.length) (dc))) hA71 (F74.e (.int .i64 (↑j))) j (by first | rfl | omega | simp) (by first | omega | (simp; done) | (simp; omega)) (by simp only [Nat.mul_one])) ?_; intro a78 F78
      refine op_rq (v := .pointer (some ⟨lg, 0, none⟩)) F78 (r_ld rfl (F78.e (.pointer (some (ad71.add j)))) (v := .pointer (some ⟨lg, 0, none⟩)) ((own_sl1 (S70.ow 12 rfl) (by first | omega | (simp; omega))).elA hA71 (j := j) (by simp only [pps, List.getElem?_map, List.getElem?_eq_getElem hlt_j]; rw [← hqj]; rfl)) Try.underlying125 rfl) ?_; intro a79 F79
      refine op_q F79 (.pointer (some ⟨lg, 0, none⟩)) ?_; intro a80 F80
      refine wpList_nil ?_
      refine hK77 _ _ ?_; clear hK77 K77
      refine wp_seq_k fun K81 hK81 => ?_
      refine wp_region_lit ?_
      refine op_q F80 (.map (some g9)) ?_; intro a82 F82
      refine op_q F82 (.pointer (some ⟨lg, 0, none⟩)) ?_; intro a83 F83
      refine op_q F83 (.pointer (some ⟨lg, 0, none⟩)) ?_; intro a84 F84
      refine op_q F84 (.pointer (some ⟨lg, 1, none⟩)) ?_; intro a85 F85
      refine op_rq (v := .pointer (some ⟨lgm, 0, none⟩)) F85 (r_ld rfl (F85.e (.pointer (some ⟨lg, 1, none⟩))) (v := .pointer (some ⟨lgm, 0, none⟩)) ((S70.bk 0 rfl).cell 1) Try.underlying163 rfl) ?_; intro a86 F86
      refine op_q F86 (.pointer (some ⟨lgm, 0, none⟩)) ?_; intro a87 F87
      refine op_q F87 (.pointer (some ⟨lgm, 0, none⟩)) ?_; intro a88 F88
      refine op_rq (v := .string ys[j]) F88 (r_ld rfl (F88.e (.pointer (some ⟨lgm, 0, none⟩))) (v := .string ys[j]) ((S70.bk 1 rfl).cell 0) Try.underlying9 rfl) ?_; intro a89 F89
      refine op_rq (v := .tuple #[.agg #[], .bool (oneOf ys[j] xs)]) F89 (r_mlookok (z := (.agg #[])) rfl Try.underlying9 Try.underlying271 (by kernel_rfl) (F89.e (.map (some g9))) (F89.e (.string ys[j])) (S70.mpa 13 rfl) (by simp only [maxLen]; omega) (u := (.agg #[])) (b := oneOf ys[j] xs) (setOf_at hf _) (fun _ => rfl)) ?_; intro a90 F90
      refine op_q F90 (.tuple #[.agg #[], .bool (oneOf ys[j] xs)]) ?_; intro a91 F91
      refine op_q F91 (.agg #[]) ?_; intro a92 F92
      refine op_q F92 (.bool (oneOf ys[j] xs)) ?_; intro a93 F93
      refine op_sq F93 (s_newp F93 272 #[] (by kernel_rfl) (by kernel_rfl) (by kernel_rfl) S70) ?_
      rintro _ _ w95 ⟨g93, rfl, rfl⟩ S95 a95 F95
      refine op_sq0 F95 (s_stb rfl (F95.e (.pointer (some ⟨g93, 0, none⟩))) (F95.e (.agg #[])) S95 (by kernel_rfl) rfl (by kernel_rfl)) ?_
      rintro _ _ w96 rfl S96 F96
      refine op_q F96 (.bool (oneOf ys[j] xs)) ?_; intro a97 F97
      refine wpList_nil ?_
      refine hK81 _ _ ?_; clear hK81 K81
      refine wp_seq_k fun K98 hK98 => ?_
      refine wp_region_lit ?_
      refine op_q F97 (.bool (oneOf ys[j] xs)) ?_; intro a99 F99
      refine op_q F99 (.bool (!(oneOf ys[j] xs))) ?_; intro a100 F100
      refine wpList_nil ?_
      refine hK98 _ _ ?_; clear hK98 K98
      rcases btf (oneOf ys[j] xs) with hc101 | hc101
      · have F102 := F100.sb 50 (by kernel_rfl) hc101
        have F103 := F102.sb 10 (by kernel_rfl) hc101
        have F104 := F103.sb 51 (by kernel_rfl) hc101
        have F105 := F104.sb 52 (by kernel_rfl) (show (!(oneOf ys[j] xs)) = false by rw [hc101]; rfl)
        refine wp_cond_false (F105.ev (by kernel_rfl)) ?_
        refine wp_skip ?_
        refine hK76 _ _ ?_; clear hK76 K76
        refine wp_region_lit ?_
        refine op_rq (v := .int .i64 (↑(j + 1))) F105 (r_add (z := ↑(j + 1)) rfl (F105.e (.int .i64 (↑j))) (F105.e (.int .i64 1)) (wr64 (by omega) (by omega) (by omega))) ?_; intro a106 F106
        refine op_q F106 (.int .i64 (↑(j + 1))) ?_; intro a107 F107
        refine wpList_nil ?_
        have S108 : Sp R w96 (SA.lf (some ⟨lg, 0, none⟩) ys[j] :: SA.blk g93 272 #[] :: SA.zips SA.lf (qs.take j) (ys.take j) :: SA.zips SA.lf (qs.drop (j + 1)) (ys.drop (j + 1)) :: SA.zips SA.dq mu xs :: SA.blk gm 237 #[.string ((rtM xs A c).fName), .string ((rtM xs A c).fHome), .slice M1 ((rtM xs A c).fSources.length) m1, .string ((rtM xs A c).fVersion), .string ((rtM xs A c).fDescription), .slice M2 ((rtM xs A c).fKeywords.length) m2, .slice M3 mq.length m3, .string ((rtM xs A c).fIcon), .string ((rtM xs A c).fAPIVersion), .string ((rtM xs A c).fCondition), .string ((rtM xs A c).fTags), .string ((rtM xs A c).fAppVersion), .bool false, .map none, .string ((rtM xs A c).fKubeVersion), .slice M4 mu.length m4, .string ((rtM xs A c).fType)] :: SA.own0 (.slice M1 (rtM xs A c).fSources.length m1) 9 1 ((rtM xs A c).fSources.length) (strs (rtM xs A c).fSources) :: SA.own0 (.slice M2 (rtM xs A c).fKeywords.length m2) 9 1 ((rtM xs A c).fKeywords.length) (strs (rtM xs A c).fKeywords) :: SA.own (.slice M3 mq.length m3) 238 1 mq.length (pps mq) :: SA.zips SA.per mq (rtM xs A c).fMaintainers :: SA.own (.slice M4 mu.length m4) 240 1 mu.length (pps mu) :: SA.blk gc 245 #[.slice none 0 0, .pointer (some ⟨gm, 0, none⟩), .slice none 0 0, .map none, .slice none 0 0, .slice none 0 0, .pointer none, .slice D qs.length dc] :: SA.own (.slice D qs.length dc) 125 1 qs.length (pps qs) :: SA.mpo Try.prog 9 g9 n f :: SA.own (.slice B ms.length b) 9 1 ms.length (strs ms) :: L) := Sp.lf_mk S96.p2.p2
        have S109 : Sp R w96 (SA.zips SA.lf qs ys :: SA.blk g93 272 #[] :: SA.zips SA.dq mu xs :: SA.blk gm 237 #[.string ((rtM xs A c).fName), .string ((rtM xs A c).fHome), .slice M1 ((rtM xs A c).fSources.length) m1, .string ((rtM xs A c).fVersion), .string ((rtM xs A c).fDescription), .slice M2 ((rtM xs A c).fKeywords.length) m2, .slice M3 mq.length m3, .string ((rtM xs A c).fIcon), .string ((rtM xs A c).fAPIVersion), .string ((rtM xs A c).fCondition), .string ((rtM xs A c).fTags), .string ((rtM xs A c).fAppVersion), .bool false, .map none, .string ((rtM xs A c).fKubeVersion), .slice M4 mu.length m4, .string ((rtM xs A c).fType)] :: SA.own0 (.slice M1 (rtM xs A c).fSources.length m1) 9 1 ((rtM xs A c).fSources.length) (strs (rtM xs A c).fSources) :: SA.own0 (.slice M2 (rtM xs A c).fKeywords.length m2) 9 1 ((rtM xs A c).fKeywords.length) (strs (rtM xs A c).fKeywords) :: SA.own (.slice M3 mq.length m3) 238 1 mq.length (pps mq) :: SA.zips SA.per mq (rtM xs A c).fMaintainers :: SA.own (.slice M4 mu.length m4) 240 1 mu.length (pps mu) :: SA.blk gc 245 #[.slice none 0 0, .pointer (some ⟨gm, 0, none⟩), .slice none 0 0, .map none, .slice none 0 0, .slice none 0 0, .pointer none, .slice D qs.length dc] :: SA.own (.slice D qs.length dc) 125 1 qs.length (pps qs) :: SA.mpo Try.prog 9 g9 n f :: SA.own (.slice B ms.length b) 9 1 ms.length (strs ms) :: L) := Sp.zclose (k := j) hlt_j2 hv_j (by rw [← hqj]; exact S108.p3.p3.p2)
        exact hK66 _ _ _ (by first | omega | (simp; omega)) ⟨B, b, ms, j + 1, rfl, (F107.kk 2 (F107.kk 3 (F107.kk 4 (F107.kk 33 (F107.kk 34 (F107.kk 35 F107.nil)))))), S109.p1.drop.p11.p11.p2.p11.p11.p11.p11.p11.p11.p11.p11.p11, (by first | omega | (with_reducible assumption) | (simp; done)), (by rw [only_take hlt_j2, ← hms, hc101]; exact List.append_nil _ |>.symm)⟩
      · have F110 := F100.sb 50 (by kernel_rfl) hc101
        have F111 := F110.sb 10 (by kernel_rfl) hc101
        have F112 := F111.sb 51 (by kernel_rfl) hc101
        have F113 := F112.sb 52 (by kernel_rfl) (show (!(oneOf ys[j] xs)) = true by rw [hc101]; rfl)
        refine wp_cond_true (F113.ev (by kernel_rfl)) ?_
        refine wp_region_lit ?_
        refine op_q F113 (.slice B ms.length b) ?_; intro a114 F114
        refine op_q F114 (.pointer (some ⟨lg, 0, none⟩)) ?_; intro a115 F115
        refine op_q F115 (.pointer (some ⟨lg, 0, none⟩)) ?_; intro a116 F116
        refine op_q F116 (.pointer (some ⟨lg, 1, none⟩)) ?_; intro a117 F117
        refine op_rq (v := .pointer (some ⟨lgm, 0, none⟩)) F117 (r_ld rfl (F117.e (.pointer (some ⟨lg, 1, none⟩))) (v := .pointer (some ⟨lgm, 0, none⟩)) ((S96.bk 1 rfl).cell 1) Try.underlying163 rfl) ?_; intro a118 F118
        refine op_q F118 (.pointer (some ⟨lgm, 0, none⟩)) ?_; intro a119 F119
        refine op_q F119 (.pointer (some ⟨lgm, 0, none⟩)) ?_; intro a120 F120
        refine op_rq (v := .string ys[j]) F120 (r_ld rfl (F120.e (.pointer (some ⟨lgm, 0, none⟩))) (v := .string ys[j]) ((S96.bk 2 rfl).cell 0) Try.underlying9 rfl) ?_; intro a121 F121
        refine op_sq F121 (s_news F121 9 #[.string ys[j]] 1 (by kernel_rfl) (by kernel_rfl) (by kernel_rfl) S96) ?_
        rintro _ _ w123 ⟨g121, rfl, rfl⟩ S123 a123 F123
        refine op_sq F123 (s_app rfl Try.underlying22 1 _ tin9 rfl rfl (F123.e (.slice B ms.length b)) S123.p16 ([Value.string ys[j]]) (F123.e (.slice (some ⟨g121, 0, none⟩) 1 1)) ((S123.bk 0 rfl).sl (by simp)) rfl (by simp [Value.oneCell']) (by omega) (by omega) (n' := (ms ++ [ys[j]]).length) (by first | (simp; done) | (simp; omega)) (cs' := strs (ms ++ [ys[j]])) (by simp [strs])) ?_
        rintro _ _ w125 ⟨A124, c124, rfl, rfl⟩ S125 a125 F125
        refine op_q F125 (.slice A124 ((ms ++ [ys[j]]).length) c124) ?_; intro a126 F126
        refine wpList_nil ?_
        refine hK76 _ _ ?_; clear hK76 K76
        refine wp_region_lit ?_
        refine op_rq (v := .int .i64 (↑(j + 1))) F126 (r_add (z := ↑(j + 1)) rfl (F126.e (.int .i64 (↑j))) (F126.e (.int .i64 1)) (wr64 (by omega) (by omega) (by omega))) ?_; intro a127 F127
        refine op_q F127 (.int .i64 (↑(j + 1))) ?_; intro a128 F128
        refine wpList_nil ?_
        have S129 : Sp R w125 (SA.lf (some ⟨lg, 0, none⟩) ys[j] :: SA.own (.slice A124 ((ms ++ [ys[j]]).length) c124) 9 1 ((ms ++ [ys[j]]).length) (strs (ms ++ [ys[j]])) :: SA.blk g121 9 #[.string ys[j]] :: SA.blk g93 272 #[] :: SA.zips SA.lf (qs.take j) (ys.take j) :: SA.zips SA.lf (qs.drop (j + 1)) (ys.drop (j + 1)) :: SA.zips SA.dq mu xs :: SA.blk gm 237 #[.string ((rtM xs A c).fName), .string ((rtM xs A c).fHome), .slice M1 ((rtM xs A c).fSources.length) m1, .string ((rtM xs A c).fVersion), .string ((rtM xs A c).fDescription), .slice M2 ((rtM xs A c).fKeywords.length) m2, .slice M3 mq.length m3, .string ((rtM xs A c).fIcon), .string ((rtM xs A c).fAPIVersion), .string ((rtM xs A c).fCondition), .string ((rtM xs A c).fTags), .string ((rtM xs A c).fAppVersion), .bool false, .map none, .string ((rtM xs A c).fKubeVersion), .slice M4 mu.length m4, .string ((rtM xs A c).fType)] :: SA.own0 (.slice M1 (rtM xs A c).fSources.length m1) 9 1 ((rtM xs A c).fSources.length) (strs (rtM xs A c).fSources) :: SA.own0 (.slice M2 (rtM xs A c).fKeywords.length m2) 9 1 ((rtM xs A c).fKeywords.length) (strs (rtM xs A c).fKeywords) :: SA.own (.slice M3 mq.length m3) 238 1 mq.length (pps mq) :: SA.zips SA.per mq (rtM xs A c).fMaintainers :: SA.own (.slice M4 mu.length m4) 240 1 mu.length (pps mu) :: SA.blk gc 245 #[.slice none 0 0, .pointer (some ⟨gm, 0, none⟩), .slice none 0 0, .map none, .slice none 0 0, .slice none 0 0, .pointer none, .slice D qs.length dc] :: SA.own (.slice D qs.length dc) 125 1 qs.length (pps qs) :: SA.mpo Try.prog 9 g9 n f :: L) := Sp.lf_mk S125.p4.p4
        have S130 : Sp R w125 (SA.zips SA.lf qs ys :: SA.own (.slice A124 ((ms ++ [ys[j]]).length) c124) 9 1 ((ms ++ [ys[j]]).length) (strs (ms ++ [ys[j]])) :: SA.blk g121 9 #[.string ys[j]] :: SA.blk g93 272 #[] :: SA.zips SA.dq mu xs :: SA.blk gm 237 #[.string ((rtM xs A c).fName), .string ((rtM xs A c).fHome), .slice M1 ((rtM xs A c).fSources.length) m1, .string ((rtM xs A c).fVersion), .string ((rtM xs A c).fDescription), .slice M2 ((rtM xs A c).fKeywords.length) m2, .slice M3 mq.length m3, .string ((rtM xs A c).fIcon), .string ((rtM xs A c).fAPIVersion), .string ((rtM xs A c).fCondition), .string ((rtM xs A c).fTags), .string ((rtM xs A c).fAppVersion), .bool false, .map none, .string ((rtM xs A c).fKubeVersion), .slice M4 mu.length m4, .string ((rtM xs A c).fType)] :: SA.own0 (.slice M1 (rtM xs A c).fSources.length m1) 9 1 ((rtM xs A c).fSources.length) (strs (rtM xs A c).fSources) :: SA.own0 (.slice M2 (rtM xs A c).fKeywords.length m2) 9 1 ((rtM xs A c).fKeywords.length) (strs (rtM xs A c).fKeywords) :: SA.own (.slice M3 mq.length m3) 238 1 mq.length (pps mq) :: SA.zips SA.per mq (rtM xs A c).fMaintainers :: SA.own (.slice M4 mu.length m4) 240 1 mu.length (pps mu) :: SA.blk gc 245 #[.slice none 0 0, .pointer (some ⟨gm, 0, none⟩), .slice none 0 0, .map none, .slice none 0 0, .slice none 0 0, .pointer none, .slice D qs.length dc] :: SA.own (.slice D qs.length dc) 125 1 qs.length (pps qs) :: SA.mpo Try.prog 9 g9 n f :: L) := Sp.zclose (k := j) hlt_j2 hv_j (by rw [← hqj]; exact S129.p5.p5.p2)
        exact hK66 _ _ _ (by first | omega | (simp; omega)) ⟨A124, c124, (ms ++ [ys[j]]), j + 1, rfl, (F128.kk 2 (F128.kk 3 (F128.kk 4 (F128.kk 33 (F128.kk 34 (F128.kk 35 F128.nil)))))), S130.p2.drop.p2.drop.p1.p11.p2.p11.p11.p11.p11.p11.p11.p11.p11.p11, (by first | omega | (with_reducible assumption) | (simp; done)), (by rw [only_take hlt_j2, ← hms, hc101]; rfl)⟩
    · have hc_j : decide ((↑j : Int) < ↑qs.length) = false := by first | (simp; done) | (simp; omega)
      obtain rfl : j = qs.length := by omega
      rw [hql, List.take_length] at hms
      have hmy : ms.length ≤ ys.length := by rw [hms]; exact only_len
      have hmz : ∀ x ∈ ms, x.size ≤ 10 := by rw [hms]; exact only_mem hyz
      have hjs : szSum ms + ms.length * (⟨#[44]⟩ : ByteArray).size ≤ 70368744177664 := by have := szSum_le10 hmz; have e : (⟨#[44]⟩ : ByteArray).size = 1 := rfl; rw [e]; omega
      have hjz2 := joinF_size ⟨#[44]⟩ ms
      refine wp_seq_k fun K131 hK131 => ?_
      refine wp_region_lit ?_
      refine op_q F66 (.bool (decide ((↑qs.length : Int) < ↑qs.length))) ?_; intro a132 F132
      have F133 := F132.sb 36 (by kernel_rfl) hc_j
      refine wpList_nil ?_
      refine hK131 _ _ ?_; clear hK131 K131
      refine wp_seq_k fun K134 hK134 => ?_
      refine wp_cond_false (F133.ev (by kernel_rfl)) ?_
      refine wp_exit ?_
      refine ex_then ?_; clear hK134 K134
      refine ex_then ?_
      refine ex_in ?_
      refine hK59 _ _ ?_; clear hK59 K59
      refine wp_seq_k fun K135 hK135 => ?_
      refine wp_seq_k fun K136 hK136 => ?_
      refine wp_region_lit ?_
      refine op_q F133 (.slice B ms.length b) ?_; intro a137 F137
      refine op_q F137 (.int .i64 (↑ms.length)) ?_; intro a138 F138
      refine op_q F138 (.bool (decide ((0 : Int) < ↑ms.length))) ?_; intro a139 F139
      refine wpList_nil ?_
      refine hK136 _ _ ?_; clear hK136 K136
      rcases btf (decide ((0 : Int) < ↑ms.length)) with hc140 | hc140
      · have hc140p := of_decide_eq_true hc140
        have F141 := F139.sb 66 (by kernel_rfl) hc140
        refine wp_cond_true (F141.ev (by kernel_rfl)) ?_
        refine wp_region_lit ?_
        refine op_q F141 (.slice B ms.length b) ?_; intro a142 F142
        refine op_cq F142 (f := 195) (args := #[.slice B ms.length b, .string ⟨#[44]⟩]) (join_any B b ms ⟨#[44]⟩ _ (own_sl1 (S66.ow 11 rfl) (by first | omega | (simp; omega))) hjs) ?_
        rintro _ w143 ⟨rfl, hb_143⟩
        refine ⟨_, rfl, ?_⟩
        intro a144 F144
        have S143 := S66.below hb_143
        refine op_rq (v := .string ((⟨#[99, 104, 97, 114, 116, 32, 109, 101, 116, 97, 100, 97, 116, 97, 32, 105, 115, 32, 109, 105, 115, 115, 105, 110, 103, 32, 116, 104, 101, 115, 101, 32, 100, 101, 112, 101, 110, 100, 101, 110, 99, 105, 101, 115, 58, 32]⟩ : ByteArray) ++ (joinF ⟨#[44]⟩ ms))) F144 (r_sadd rfl (F144.e (.string ⟨#[99, 104, 97, 114, 116, 32, 109, 101, 116, 97, 100, 97, 116, 97, 32, 105, 115, 32, 109, 105, 115, 115, 105, 110, 103, 32, 116, 104, 101, 115, 101, 32, 100, 101, 112, 101, 110, 100, 101, 110, 99, 105, 101, 115, 58, 32]⟩)) (F144.e (.string (joinF ⟨#[44]⟩ ms))) (by show 46 + (joinF ⟨#[44]⟩ ms).size ≤ 9223372036854775807; have := szSum_le10 hmz; have e : (⟨#[44]⟩ : ByteArray).size = 1 := rfl; rw [e] at hjz2; omega)) ?_; intro a145 F145
        refine op_cq F145 (f := 173) (args := #[.string ((⟨#[99, 104, 97, 114, 116, 32, 109, 101, 116, 97, 100, 97, 116, 97, 32, 105, 115, 32, 109, 105, 115, 115, 105, 110, 103, 32, 116, 104, 101, 115, 101, 32, 100, 101, 112, 101, 110, 100, 101, 110, 99, 105, 101, 115, 58, 32]⟩ : ByteArray) ++ (joinF ⟨#[44]⟩ ms))]) (errNew_sp2 ((⟨#[99, 104, 97, 114, 116, 32, 109, 101, 116, 97, 100, 97, 116, 97, 32, 105, 115, 32, 109, 105, 115, 115, 105, 110, 103, 32, 116, 104, 101, 115, 101, 32, 100, 101, 112, 101, 110, 100, 101, 110, 99, 105, 101, 115, 58, 32]⟩ : ByteArray) ++ (joinF ⟨#[44]⟩ ms)) _ _ _ S143 ) ?_
        rintro _ w146 ⟨ge146, rfl, S146⟩
        refine ⟨_, rfl, ?_⟩
        intro a147 F147
        refine op_q F147 (.iface 279 (.pointer (some ⟨ge146, 0, none⟩))) ?_; intro a148 F148
        refine wpList_nil ?_
        refine hK135 _ _ ?_; clear hK135 K135
        refine wp_seq_k fun K149 hK149 => ?_
        refine wp_region_lit ?_
        refine op_q F148 (.iface 279 (.pointer (some ⟨ge146, 0, none⟩))) ?_; intro a150 F150
        refine op_q F150 (.iface 279 (.pointer (some ⟨ge146, 0, none⟩))) ?_; intro a151 F151
        refine wpList_nil ?_
        refine hK149 _ _ ?_; clear hK149 K149
        refine wp_ret ?_
        have htl : toldF ⟨#[99, 104, 97, 114, 116, 32, 109, 101, 116, 97, 100, 97, 116, 97, 32, 105, 115, 32, 109, 105, 115, 115, 105, 110, 103, 32, 116, 104, 101, 115, 101, 32, 100, 101, 112, 101, 110, 100, 101, 110, 99, 105, 101, 115, 58, 32]⟩ (onlyF ys xs) = ((⟨#[99, 104, 97, 114, 116, 32, 109, 101, 116, 97, 100, 97, 116, 97, 32, 105, 115, 32, 109, 105, 115, 115, 105, 110, 103, 32, 116, 104, 101, 115, 101, 32, 100, 101, 112, 101, 110, 100, 101, 110, 99, 105, 101, 115, 58, 32]⟩ : ByteArray) ++ (joinF ⟨#[44]⟩ ms)) := by rw [← hms]; exact told_pos (by have := of_decide_eq_true hc140; omega)
        have S152 : Sp R w146 (SA.er true ge146 (toldF ⟨#[99, 104, 97, 114, 116, 32, 109, 101, 116, 97, 100, 97, 116, 97, 32, 105, 115, 32, 109, 105, 115, 115, 105, 110, 103, 32, 116, 104, 101, 115, 101, 32, 100, 101, 112, 101, 110, 100, 101, 110, 99, 105, 101, 115, 58, 32]⟩ (onlyF ys xs)) :: SA.zips SA.dq mu xs :: SA.blk gm 237 #[.string ((rtM xs A c).fName), .string ((rtM xs A c).fHome), .slice M1 ((rtM xs A c).fSources.length) m1, .string ((rtM xs A c).fVersion), .string ((rtM xs A c).fDescription), .slice M2 ((rtM xs A c).fKeywords.length) m2, .slice M3 mq.length m3, .string ((rtM xs A c).fIcon), .string ((rtM xs A c).fAPIVersion), .string ((rtM xs A c).fCondition), .string ((rtM xs A c).fTags), .string ((rtM xs A c).fAppVersion), .bool false, .map none, .string ((rtM xs A c).fKubeVersion), .slice M4 mu.length m4, .string ((rtM xs A c).fType)] :: SA.own0 (.slice M1 (rtM xs A c).fSources.length m1) 9 1 ((rtM xs A c).fSources.length) (strs (rtM xs A c).fSources) :: SA.own0 (.slice M2 (rtM xs A c).fKeywords.length m2) 9 1 ((rtM xs A c).fKeywords.length) (strs (rtM xs A c).fKeywords) :: SA.own (.slice M3 mq.length m3) 238 1 mq.length (pps mq) :: SA.zips SA.per mq (rtM xs A c).fMaintainers :: SA.own (.slice M4 mu.length m4) 240 1 mu.length (pps mu) :: SA.blk gc 245 #[.slice none 0 0, .pointer (some ⟨gm, 0, none⟩), .slice none 0 0, .map none, .slice none 0 0, .slice none 0 0, .pointer none, .slice D qs.length dc] :: SA.own (.slice D qs.length dc) 125 1 qs.length (pps qs) :: SA.zips SA.lf qs ys :: SA.mpo Try.prog 9 g9 n f :: SA.own (.slice B ms.length b) 9 1 ms.length (strs ms) :: L) := by rw [htl]; exact Sp.er_t S146
        have S153 : Sp R w146 (SA.zips SA.dep mu (rtM xs A c).fDependencies :: SA.er true ge146 (toldF ⟨#[99, 104, 97, 114, 116, 32, 109, 101, 116, 97, 100, 97, 116, 97, 32, 105, 115, 32, 109, 105, 115, 115, 105, 110, 103, 32, 116, 104, 101, 115, 101, 32, 100, 101, 112, 101, 110, 100, 101, 110, 99, 105, 101, 115, 58, 32]⟩ (onlyF ys xs)) :: SA.blk gm 237 #[.string ((rtM xs A c).fName), .string ((rtM xs A c).fHome), .slice M1 ((rtM xs A c).fSources.length) m1, .string ((rtM xs A c).fVersion), .string ((rtM xs A c).fDescription), .slice M2 ((rtM xs A c).fKeywords.length) m2, .slice M3 mq.length m3, .string ((rtM xs A c).fIcon), .string ((rtM xs A c).fAPIVersion), .string ((rtM xs A c).fCondition), .string ((rtM xs A c).fTags), .string ((rtM xs A c).fAppVersion), .bool false, .map none, .string ((rtM xs A c).fKubeVersion), .slice M4 mu.length m4, .string ((rtM xs A c).fType)] :: SA.own0 (.slice M1 (rtM xs A c).fSources.length m1) 9 1 ((rtM xs A c).fSources.length) (strs (rtM xs A c).fSources) :: SA.own0 (.slice M2 (rtM xs A c).fKeywords.length m2) 9 1 ((rtM xs A c).fKeywords.length) (strs (rtM xs A c).fKeywords) :: SA.own (.slice M3 mq.length m3) 238 1 mq.length (pps mq) :: SA.zips SA.per mq (rtM xs A c).fMaintainers :: SA.own (.slice M4 mu.length m4) 240 1 mu.length (pps mu) :: SA.blk gc 245 #[.slice none 0 0, .pointer (some ⟨gm, 0, none⟩), .slice none 0 0, .map none, .slice none 0 0, .slice none 0 0, .pointer none, .slice D qs.length dc] :: SA.own (.slice D qs.length dc) 125 1 qs.length (pps qs) :: SA.zips SA.lf qs ys :: SA.mpo Try.prog 9 g9 n f :: SA.own (.slice B ms.length b) 9 1 ms.length (strs ms) :: L) := Sp.dq_zb S152.p1
        have S154 : Sp R w146 (SA.met gm (rtM xs A c) :: SA.er true ge146 (toldF ⟨#[99, 104, 97, 114, 116, 32, 109, 101, 116, 97, 100, 97, 116, 97, 32, 105, 115, 32, 109, 105, 115, 115, 105, 110, 103, 32, 116, 104, 101, 115, 101, 32, 100, 101, 112, 101, 110, 100, 101, 110, 99, 105, 101, 115, 58, 32]⟩ (onlyF ys xs)) :: SA.blk gc 245 #[.slice none 0 0, .pointer (some ⟨gm, 0, none⟩), .slice none 0 0, .map none, .slice none 0 0, .slice none 0 0, .pointer none, .slice D qs.length dc] :: SA.own (.slice D qs.length dc) 125 1 qs.length (pps qs) :: SA.zips SA.lf qs ys :: SA.mpo Try.prog 9 g9 n f :: SA.own (.slice B ms.length b) 9 1 ms.length (strs ms) :: L) := Sp.met_mk S153.p7.p7.p7.p7.p7.p7
        have S155 : Sp R w146 (SA.rt gc xs ys :: SA.er true ge146 (toldF ⟨#[99, 104, 97, 114, 116, 32, 109, 101, 116, 97, 100, 97, 116, 97, 32, 105, 115, 32, 109, 105, 115, 115, 105, 110, 103, 32, 116, 104, 101, 115, 101, 32, 100, 101, 112, 101, 110, 100, 101, 110, 99, 105, 101, 115, 58, 32]⟩ (onlyF ys xs)) :: SA.mpo Try.prog 9 g9 n f :: SA.own (.slice B ms.length b) 9 1 ms.length (strs ms) :: L) := Sp.rt_mk S154.p4.p4.p4
        refine (F151.res1 rfl (v := .iface 279 (.pointer (some ⟨ge146, 0, none⟩))) (by kernel_rfl) ?_).1
        exact ⟨true, ge146, rfl, S155.p2.drop.p2.drop.p1, (by rw [← hms]; cases hm : ms with | nil => rw [hm] at hc140; cases hc140 | cons x l => rfl)⟩
      · have hc140p := of_decide_eq_false hc140
        have F156 := F139.sb 66 (by kernel_rfl) hc140
        refine wp_cond_false (F156.ev (by kernel_rfl)) ?_
        refine wp_skip ?_
        refine hK135 _ _ ?_; clear hK135 K135
        refine wp_seq_k fun K157 hK157 => ?_
        refine wp_region_lit ?_
        refine op_q F156 (.nilIface) ?_; intro a158 F158
        refine op_q F158 (.nilIface) ?_; intro a159 F159
        refine wpList_nil ?_
        refine hK157 _ _ ?_; clear hK157 K157
        refine wp_ret ?_
        have S160 : Sp R w66 (SA.er false 0 (toldF ⟨#[99, 104, 97, 114, 116, 32, 109, 101, 116, 97, 100, 97, 116, 97, 32, 105, 115, 32, 109, 105, 115, 115, 105, 110, 103, 32, 116, 104, 101, 115, 101, 32, 100, 101, 112, 101, 110, 100, 101, 110, 99, 105, 101, 115, 58, 32]⟩ (onlyF ys xs)) :: SA.zips SA.dq mu xs :: SA.blk gm 237 #[.string ((rtM xs A c).fName), .string ((rtM xs A c).fHome), .slice M1 ((rtM xs A c).fSources.length) m1, .string ((rtM xs A c).fVersion), .string ((rtM xs A c).fDescription), .slice M2 ((rtM xs A c).fKeywords.length) m2, .slice M3 mq.length m3, .string ((rtM xs A c).fIcon), .string ((rtM xs A c).fAPIVersion), .string ((rtM xs A c).fCondition), .string ((rtM xs A c).fTags), .string ((rtM xs A c).fAppVersion), .bool false, .map none, .string ((rtM xs A c).fKubeVersion), .slice M4 mu.length m4, .string ((rtM xs A c).fType)] :: SA.own0 (.slice M1 (rtM xs A c).fSources.length m1) 9 1 ((rtM xs A c).fSources.length) (strs (rtM xs A c).fSources) :: SA.own0 (.slice M2 (rtM xs A c).fKeywords.length m2) 9 1 ((rtM xs A c).fKeywords.length) (strs (rtM xs A c).fKeywords) :: SA.own (.slice M3 mq.length m3) 238 1 mq.length (pps mq) :: SA.zips SA.per mq (rtM xs A c).fMaintainers :: SA.own (.slice M4 mu.length m4) 240 1 mu.length (pps mu) :: SA.blk gc 245 #[.slice none 0 0, .pointer (some ⟨gm, 0, none⟩), .slice none 0 0, .map none, .slice none 0 0, .slice none 0 0, .pointer none, .slice D qs.length dc] :: SA.own (.slice D qs.length dc) 125 1 qs.length (pps qs) :: SA.zips SA.lf qs ys :: SA.mpo Try.prog 9 g9 n f :: SA.own (.slice B ms.length b) 9 1 ms.length (strs ms) :: L) := Sp.er_f S66
        have S161 : Sp R w66 (SA.zips SA.dep mu (rtM xs A c).fDependencies :: SA.er false 0 (toldF ⟨#[99, 104, 97, 114, 116, 32, 109, 101, 116, 97, 100, 97, 116, 97, 32, 105, 115, 32, 109, 105, 115, 115, 105, 110, 103, 32, 116, 104, 101, 115, 101, 32, 100, 101, 112, 101, 110, 100, 101, 110, 99, 105, 101, 115, 58, 32]⟩ (onlyF ys xs)) :: SA.blk gm 237 #[.string ((rtM xs A c).fName), .string ((rtM xs A c).fHome), .slice M1 ((rtM xs A c).fSources.length) m1, .string ((rtM xs A c).fVersion), .string ((rtM xs A c).fDescription), .slice M2 ((rtM xs A c).fKeywords.length) m2, .slice M3 mq.length m3, .string ((rtM xs A c).fIcon), .string ((rtM xs A c).fAPIVersion), .string ((rtM xs A c).fCondition), .string ((rtM xs A c).fTags), .string ((rtM xs A c).fAppVersion), .bool false, .map none, .string ((rtM xs A c).fKubeVersion), .slice M4 mu.length m4, .string ((rtM xs A c).fType)] :: SA.own0 (.slice M1 (rtM xs A c).fSources.length m1) 9 1 ((rtM xs A c).fSources.length) (strs (rtM xs A c).fSources) :: SA.own0 (.slice M2 (rtM xs A c).fKeywords.length m2) 9 1 ((rtM xs A c).fKeywords.length) (strs (rtM xs A c).fKeywords) :: SA.own (.slice M3 mq.length m3) 238 1 mq.length (pps mq) :: SA.zips SA.per mq (rtM xs A c).fMaintainers :: SA.own (.slice M4 mu.length m4) 240 1 mu.length (pps mu) :: SA.blk gc 245 #[.slice none 0 0, .pointer (some ⟨gm, 0, none⟩), .slice none 0 0, .map none, .slice none 0 0, .slice none 0 0, .pointer none, .slice D qs.length dc] :: SA.own (.slice D qs.length dc) 125 1 qs.length (pps qs) :: SA.zips SA.lf qs ys :: SA.mpo Try.prog 9 g9 n f :: SA.own (.slice B ms.length b) 9 1 ms.length (strs ms) :: L) := Sp.dq_zb S160.p1
        have S162 : Sp R w66 (SA.met gm (rtM xs A c) :: SA.er false 0 (toldF ⟨#[99, 104, 97, 114, 116, 32, 109, 101, 116, 97, 100, 97, 116, 97, 32, 105, 115, 32, 109, 105, 115, 115, 105, 110, 103, 32, 116, 104, 101, 115, 101, 32, 100, 101, 112, 101, 110, 100, 101, 110, 99, 105, 101, 115, 58, 32]⟩ (onlyF ys xs)) :: SA.blk gc 245 #[.slice none 0 0, .pointer (some ⟨gm, 0, none⟩), .slice none 0 0, .map none, .slice none 0 0, .slice none 0 0, .pointer none, .slice D qs.length dc] :: SA.own (.slice D qs.length dc) 125 1 qs.length (pps qs) :: SA.zips SA.lf qs ys :: SA.mpo Try.prog 9 g9 n f :: SA.own (.slice B ms.length b) 9 1 ms.length (strs ms) :: L) := Sp.met_mk S161.p7.p7.p7.p7.p7.p7
        have S163 : Sp R w66 (SA.rt gc xs ys :: SA.er false 0 (toldF ⟨#[99, 104, 97, 114, 116, 32, 109, 101, 116, 97, 100, 97, 116, 97, 32, 105, 115, 32, 109, 105, 115, 115, 105, 110, 103, 32, 116, 104, 101, 115, 101, 32, 100, 101, 112, 101, 110, 100, 101, 110, 99, 105, 101, 115, 58, 32]⟩ (onlyF ys xs)) :: SA.mpo Try.prog 9 g9 n f :: SA.own (.slice B ms.length b) 9 1 ms.length (strs ms) :: L) := Sp.rt_mk S162.p4.p4.p4
        refine (F159.res1 rfl (v := .nilIface) (by kernel_rfl) ?_).1
        exact ⟨false, 0, rfl, S163.p2.drop.p2.drop.p1, (by rw [← hms]; cases hm : ms with | nil => rw [hm] at hc140; rfl | cons x l => rw [hm] at hc140; have := of_decide_eq_false hc140; first | (simp at this; done) | (simp at this; omega))⟩
set_option maxRecDepth 100000 in
set_option maxHeartbeats 20000000 in
theorem unique_sp (gc : Nat) (xs : List ByteArray) (ys : List ByteArray) (R : Ctx) (L : List SA) (w : World) (S : Sp R w (SA.rt gc xs ys :: L))  (hx : xs.length ≤ 8) (hy : ys.length ≤ 8) (hxz : ∀ x ∈ xs, x.size ≤ 10) (hyz : ∀ x ∈ ys, x.size ≤ 10) :
    Calls Try.prog 163 #[.pointer (some ⟨gc, 0, none⟩)] w fun e w' => ∃ b : Bool, ∃ g : Nat, e = .returned (errV b g) ∧ Sp R w' (SA.er b g (toldF ⟨#[109, 117, 108, 116, 105, 112, 108, 101, 32, 100, 101, 112, 101, 110, 100, 101, 110, 99, 105, 101, 115, 32, 119, 105, 116, 104, 32, 110, 97, 109, 101, 32, 111, 114, 32, 97, 108, 105, 97, 115, 58, 32]⟩ (dupF [] xs)) :: SA.rt gc xs ys :: L) ∧ (b = !(dupF [] xs).isEmpty) := by
  obtain ⟨gm, D, dc, qs, A, c, Sr1⟩ := Sp.rt_open S
  have S2 : Sp R w (SA.blk gc 245 #[.slice none 0 0, .pointer (some ⟨gm, 0, none⟩), .slice none 0 0, .map none, .slice none 0 0, .slice none 0 0, .pointer none, .slice D qs.length dc] :: SA.own (.slice D qs.length dc) 125 1 qs.length (pps qs) :: SA.zips SA.lf qs ys :: SA.met gm (rtM xs A c) :: L) := Sr1
  obtain ⟨M1, m1, M2, m2, M3, m3, mq, M4, m4, mu, Sm3⟩ := Sp.met_open S2.p3
  have S4 : Sp R w (SA.blk gm 237 #[.string ((rtM xs A c).fName), .string ((rtM xs A c).fHome), .slice M1 ((rtM xs A c).fSources.length) m1, .string ((rtM xs A c).fVersion), .string ((rtM xs A c).fDescription), .slice M2 ((rtM xs A c).fKeywords.length) m2, .slice M3 mq.length m3, .string ((rtM xs A c).fIcon), .string ((rtM xs A c).fAPIVersion), .string ((rtM xs A c).fCondition), .string ((rtM xs A c).fTags), .string ((rtM xs A c).fAppVersion), .bool false, .map none, .string ((rtM xs A c).fKubeVersion), .slice M4 mu.length m4, .string ((rtM xs A c).fType)] :: SA.own0 (.slice M1 (rtM xs A c).fSources.length m1) 9 1 ((rtM xs A c).fSources.length) (strs (rtM xs A c).fSources) :: SA.own0 (.slice M2 (rtM xs A c).fKeywords.length m2) 9 1 ((rtM xs A c).fKeywords.length) (strs (rtM xs A c).fKeywords) :: SA.own (.slice M3 mq.length m3) 238 1 mq.length (pps mq) :: SA.zips SA.per mq (rtM xs A c).fMaintainers :: SA.own (.slice M4 mu.length m4) 240 1 mu.length (pps mu) :: SA.zips SA.dep mu (rtM xs A c).fDependencies :: SA.blk gc 245 #[.slice none 0 0, .pointer (some ⟨gm, 0, none⟩), .slice none 0 0, .map none, .slice none 0 0, .slice none 0 0, .pointer none, .slice D qs.length dc] :: SA.own (.slice D qs.length dc) 125 1 qs.length (pps qs) :: SA.zips SA.lf qs ys :: L) := Sm3
  have S5 : Sp R w (SA.zips SA.dq mu xs :: SA.blk gm 237 #[.string ((rtM xs A c).fName), .string ((rtM xs A c).fHome), .slice M1 ((rtM xs A c).fSources.length) m1, .string ((rtM xs A c).fVersion), .string ((rtM xs A c).fDescription), .slice M2 ((rtM xs A c).fKeywords.length) m2, .slice M3 mq.length m3, .string ((rtM xs A c).fIcon), .string ((rtM xs A c).fAPIVersion), .string ((rtM xs A c).fCondition), .string ((rtM xs A c).fTags), .string ((rtM xs A c).fAppVersion), .bool false, .map none, .string ((rtM xs A c).fKubeVersion), .slice M4 mu.length m4, .string ((rtM xs A c).fType)] :: SA.own0 (.slice M1 (rtM xs A c).fSources.length m1) 9 1 ((rtM xs A c).fSources.length) (strs (rtM xs A c).fSources) :: SA.own0 (.slice M2 (rtM xs A c).fKeywords.length m2) 9 1 ((rtM xs A c).fKeywords.length) (strs (rtM xs A c).fKeywords) :: SA.own (.slice M3 mq.length m3) 238 1 mq.length (pps mq) :: SA.zips SA.per mq (rtM xs A c).fMaintainers :: SA.own (.slice M4 mu.length m4) 240 1 mu.length (pps mu) :: SA.blk gc 245 #[.slice none 0 0, .pointer (some ⟨gm, 0, none⟩), .slice none 0 0, .map none, .slice none 0 0, .slice none 0 0, .pointer none, .slice D qs.length dc] :: SA.own (.slice D qs.length dc) 125 1 qs.length (pps qs) :: SA.zips SA.lf qs ys :: L) := Sp.dq_z S4.p6
  have hul := Sp.zlen S5
  have hql := Sp.zlen S5.p9
  refine fw_enter (fn := Try.f163) rfl rfl 55 rfl (Nat.le_of_ble_eq_true rfl) ?_
  intro a0 F0
  refine wp_seq_k fun K7 hK7 => ?_
  refine wp_region_lit ?_
  refine op_q F0 (.nilIface) ?_; intro a8 F8
  refine wpList_nil ?_
  refine hK7 _ _ ?_; clear hK7 K7
  refine wp_seq_k fun K9 hK9 => ?_
  refine wp_region_lit ?_
  refine op_sq F8 (s_mkmap rfl 9 S5) ?_
  rintro _ _ w11 ⟨g9, rfl, rfl⟩ S11 a11 F11
  refine op_q F11 (.map (some g9)) ?_; intro a12 F12
  refine wpList_nil ?_
  refine hK9 _ _ ?_; clear hK9 K9
  refine wp_seq_k fun K13 hK13 => ?_
  refine wp_region_lit ?_
  refine op_sq F12 (s_news F12 9 #[] 0 (by kernel_rfl) (by kernel_rfl) (by kernel_rfl) S11) ?_
  rintro _ _ w15 ⟨g13, rfl, rfl⟩ S15 a15 F15
  refine op_q F15 (.slice (some ⟨g13, 0, none⟩) 0 0) ?_; intro a16 F16
  refine wpList_nil ?_
  refine hK13 _ _ ?_; clear hK13 K13
  refine wp_seq_k fun K17 hK17 => ?_
  refine wp_seq_k fun K18 hK18 => ?_
  refine wp_region_lit ?_
  refine op_q F16 (.pointer (some ⟨gc, 0, none⟩)) ?_; intro a19 F19
  refine op_q F19 (.pointer (some ⟨gc, 0, none⟩)) ?_; intro a20 F20
  refine op_q F20 (.pointer (some ⟨gc, 1, none⟩)) ?_; intro a21 F21
  refine op_rq (v := .pointer (some ⟨gm, 0, none⟩)) F21 (r_ld rfl (F21.e (.pointer (some ⟨gc, 1, none⟩))) (v := .pointer (some ⟨gm, 0, none⟩)) ((S15.bk 9 rfl).cell 1) Try.underlying163 rfl) ?_; intro a22 F22
  refine op_q F22 (.pointer (some ⟨gm, 0, none⟩)) ?_; intro a23 F23
  refine op_q F23 (.pointer (some ⟨gm, 15, none⟩)) ?_; intro a24 F24
  refine op_rq (v := .slice M4 mu.length m4) F24 (r_ld rfl (F24.e (.pointer (some ⟨gm, 15, none⟩))) (v := .slice M4 mu.length m4) ((S15.bk 3 rfl).cell 15) Try.underlying235 rfl) ?_; intro a25 F25
  refine op_q F25 (.int .i64 (↑mu.length)) ?_; intro a26 F26
  refine op_q F26 (.int .i64 0) ?_; intro a27 F27
  refine wpList_nil ?_
  refine hK18 _ _ ?_; clear hK18 K18
  refine wp_block ?_
  have S28 : Sp R w15 (SA.own (.slice (some ⟨g13, 0, none⟩) 0 0) 9 1 0 (strs []) :: SA.mpo Try.prog 9 g9 0 (fun _ => none) :: SA.zips SA.dq mu xs :: SA.blk gm 237 #[.string ((rtM xs A c).fName), .string ((rtM xs A c).fHome), .slice M1 ((rtM xs A c).fSources.length) m1, .string ((rtM xs A c).fVersion), .string ((rtM xs A c).fDescription), .slice M2 ((rtM xs A c).fKeywords.length) m2, .slice M3 mq.length m3, .string ((rtM xs A c).fIcon), .string ((rtM xs A c).fAPIVersion), .string ((rtM xs A c).fCondition), .string ((rtM xs A c).fTags), .string ((rtM xs A c).fAppVersion), .bool false, .map none, .string ((rtM xs A c).fKubeVersion), .slice M4 mu.length m4, .string ((rtM xs A c).fType)] :: SA.own0 (.slice M1 (rtM xs A c).fSources.length m1) 9 1 ((rtM xs A c).fSources.length) (strs (rtM xs A c).fSources) :: SA.own0 (.slice M2 (rtM xs A c).fKeywords.length m2) 9 1 ((rtM xs A c).fKeywords.length) (strs (rtM xs A c).fKeywords) :: SA.own (.slice M3 mq.length m3) 238 1 mq.length (pps mq) :: SA.zips SA.per mq (rtM xs A c).fMaintainers :: SA.own (.slice M4 mu.length m4) 240 1 mu.length (pps mu) :: SA.blk gc 245 #[.slice none 0 0, .pointer (some ⟨gm, 0, none⟩), .slice none 0 0, .map none, .slice none 0 0, .slice none 0 0, .pointer none, .slice D qs.length dc] :: SA.own (.slice D qs.length dc) 125 1 qs.length (pps qs) :: SA.zips SA.lf qs ys :: L) := Sp.ofblk (sz := 1) (m := 0) (l := []) S15 rfl (by omega) rfl
  refine fw_loop (fun m' a' w' => ∃ f : ByteArray → Option Value, ∃ n : Nat, ∃ B : Option Addr, ∃ b : Nat, ∃ ms : List ByteArray, ∃ k : Nat, xs.length - k = m' ∧ Fr 55 [] a' [(2, .nilIface), (3, .map (some g9)), (4, .slice B ms.length b), (16, .slice M4 mu.length m4), (17, .int .i64 (↑mu.length)), (18, .int .i64 (↑k))] ∧ Sp R w' (SA.zips SA.dq mu xs :: SA.blk gm 237 #[.string ((rtM xs A c).fName), .string ((rtM xs A c).fHome), .slice M1 ((rtM xs A c).fSources.length) m1, .string ((rtM xs A c).fVersion), .string ((rtM xs A c).fDescription), .slice M2 ((rtM xs A c).fKeywords.length) m2, .slice M3 mq.length m3, .string ((rtM xs A c).fIcon), .string ((rtM xs A c).fAPIVersion), .string ((rtM xs A c).fCondition), .string ((rtM xs A c).fTags), .string ((rtM xs A c).fAppVersion), .bool false, .map none, .string ((rtM xs A c).fKubeVersion), .slice M4 mu.length m4, .string ((rtM xs A c).fType)] :: SA.own0 (.slice M1 (rtM xs A c).fSources.length m1) 9 1 ((rtM xs A c).fSources.length) (strs (rtM xs A c).fSources) :: SA.own0 (.slice M2 (rtM xs A c).fKeywords.length m2) 9 1 ((rtM xs A c).fKeywords.length) (strs (rtM xs A c).fKeywords) :: SA.own (.slice M3 mq.length m3) 238 1 mq.length (pps mq) :: SA.zips SA.per mq (rtM xs A c).fMaintainers :: SA.own (.slice M4 mu.length m4) 240 1 mu.length (pps mu) :: SA.blk gc 245 #[.slice none 0 0, .pointer (some ⟨gm, 0, none⟩), .slice none 0 0, .map none, .slice none 0 0, .slice none 0 0, .pointer none, .slice D qs.length dc] :: SA.own (.slice D qs.length dc) 125 1 qs.length (pps qs) :: SA.zips SA.lf qs ys :: SA.mpo Try.prog 9 g9 n f :: SA.own (.slice B ms.length b) 9 1 ms.length (strs ms) :: L) ∧ (k ≤ xs.length) ∧ (n ≤ k) ∧ (MapP f (xs.take k)) ∧ (ms = dupF [] (xs.take k))) _ ⟨(fun _ => none), 0, (some ⟨g13, 0, none⟩), 0, [], 0, rfl, (F27.kk 2 (F27.kk 3 (F27.kk 4 (F27.kk 16 (F27.kk 17 (F27.kk 18 F27.nil)))))), S28.p1.p11.p11.p11.p11.p11.p11.p11.p11.p11.p11, (by first | omega | (with_reducible assumption) | (simp; done)), (by first | omega | (with_reducible assumption) | (simp; done)), mapP_0, rfl⟩ ?_
  rintro m29 a29 w29 ⟨f, n, B, b, ms, k, hm29, F29, S29, hk, hnn, hf, hms⟩ K29 hK29
  by_cases hlt_k : k < mu.length
  · have hc_k : decide ((↑k : Int) < ↑mu.length) = true := by first | (simp; done) | (simp; omega)
    have hlt_k2 : k < xs.length := by omega
    obtain ⟨hv_k, Sz30⟩ := Sp.zat (k := k) hlt_k2 S29
    obtain ⟨qk, hqk⟩ : ∃ q, q = mu[k] := ⟨_, rfl⟩
    have S31 : Sp R w29 (SA.dq qk xs[k] :: SA.zips SA.dq (mu.take k) (xs.take k) :: SA.zips SA.dq (mu.drop (k + 1)) (xs.drop (k + 1)) :: SA.blk gm 237 #[.string ((rtM xs A c).fName), .string ((rtM xs A c).fHome), .slice M1 ((rtM xs A c).fSources.length) m1, .string ((rtM xs A c).fVersion), .string ((rtM xs A c).fDescription), .slice M2 ((rtM xs A c).fKeywords.length) m2, .slice M3 mq.length m3, .string ((rtM xs A c).fIcon), .string ((rtM xs A c).fAPIVersion), .string ((rtM xs A c).fCondition), .string ((rtM xs A c).fTags), .string ((rtM xs A c).fAppVersion), .bool false, .map none, .string ((rtM xs A c).fKubeVersion), .slice M4 mu.length m4, .string ((rtM xs A c).fType)] :: SA.own0 (.slice M1 (rtM xs A c).fSources.length m1) 9 1 ((rtM xs A c).fSources.length) (strs (rtM xs A c).fSources) :: SA.own0 (.slice M2 (rtM xs A c).fKeywords.length m2) 9 1 ((rtM xs A c).fKeywords.length) (strs (rtM xs A c).fKeywords) :: SA.own (.slice M3 mq.length m3) 238 1 mq.length (pps mq) :: SA.zips SA.per mq (rtM xs A c).fMaintainers :: SA.own (.slice M4 mu.length m4) 240 1 mu.length (pps mu) :: SA.blk gc 245 #[.slice none 0 0, .pointer (some ⟨gm, 0, none⟩), .slice none 0 0, .map none, .slice none 0 0, .slice none 0 0, .pointer none, .slice D qs.length dc] :: SA.own (.slice D qs.length dc) 125 1 qs.length (pps qs) :: SA.zips SA.lf qs ys :: SA.mpo Try.prog 9 g9 n f :: SA.own (.slice B ms.length b) 9 1 ms.length (strs ms) :: L) := by rw [hqk]; exact Sz30
    obtain ⟨gd, Ad, cd, hqk2, Sd32⟩ := Sp.dq_open S31
    subst hqk2
    have hkz := hxz _ (List.getElem_mem hlt_k2)
    have S33 : Sp R w29 (SA.blk gd 262 #[.string xs[k], .string ⟨#[49, 46, 48, 46, 48]⟩, .string ⟨#[]⟩, .string ⟨#[]⟩, .slice Ad 0 cd, .bool false, .slice none 0 0, .string ⟨#[]⟩] :: SA.own0 (.slice Ad 0 cd) 9 1 0 ([]) :: SA.zips SA.dq (mu.take k) (xs.take k) :: SA.zips SA.dq (mu.drop (k + 1)) (xs.drop (k + 1)) :: SA.blk gm 237 #[.string ((rtM xs A c).fName), .string ((rtM xs A c).fHome), .slice M1 ((rtM xs A c).fSources.length) m1, .string ((rtM xs A c).fVersion), .string ((rtM xs A c).fDescription), .slice M2 ((rtM xs A c).fKeywords.length) m2, .slice M3 mq.length m3, .string ((rtM xs A c).fIcon), .string ((rtM xs A c).fAPIVersion), .string ((rtM xs A c).fCondition), .string ((rtM xs A c).fTags), .string ((rtM xs A c).fAppVersion), .bool false, .map none, .string ((rtM xs A c).fKubeVersion), .slice M4 mu.length m4, .string ((rtM xs A c).fType)] :: SA.own0 (.slice M1 (rtM xs A c).fSources.length m1) 9 1 ((rtM xs A c).fSources.length) (strs (rtM xs A c).fSources) :: SA.own0 (.slice M2 (rtM xs A c).fKeywords.length m2) 9 1 ((rtM xs A c).fKeywords.length) (strs (rtM xs A c).fKeywords) :: SA.own (.slice M3 mq.length m3) 238 1 mq.length (pps mq) :: SA.zips SA.per mq (rtM xs A c).fMaintainers :: SA.own (.slice M4 mu.length m4) 240 1 mu.length (pps mu) :: SA.blk gc 245 #[.slice none 0 0, .pointer (some ⟨gm, 0, none⟩), .slice none 0 0, .map none, .slice none 0 0, .slice none 0 0, .pointer none, .slice D qs.length dc] :: SA.own (.slice D qs.length dc) 125 1 qs.length (pps qs) :: SA.zips SA.lf qs ys :: SA.mpo Try.prog 9 g9 n f :: SA.own (.slice B ms.length b) 9 1 ms.length (strs ms) :: L) := Sd32
    obtain ⟨ad34, hA34⟩ := (own_sl1 (S33.ow 9 rfl) (by first | omega | (simp; omega))).addr (by simp [pps]; omega)
    have hml : ms.length ≤ 8 := by have := dup_len (xs.take k) []; rw [← hms, List.length_take] at this; omega
    refine wp_seq_k fun K35 hK35 => ?_
    refine wp_region_lit ?_
    refine op_q F29 (.bool (decide ((↑k : Int) < ↑mu.length))) ?_; intro a36 F36
    have F37 := F36.sb 19 (by kernel_rfl) hc_k
    refine wpList_nil ?_
    refine hK35 _ _ ?_; clear hK35 K35
    refine wp_seq_k fun K38 hK38 => ?_
    refine wp_cond_true (F37.ev (by kernel_rfl)) ?_
    refine wp_skip ?_
    refine hK38 _ _ ?_; clear hK38 K38
    refine wp_seq_k fun K39 hK39 => ?_
    refine wp_block ?_
    refine wp_seq_k fun K40 hK40 => ?_
    refine wp_region_lit ?_
    refine op_rq (v := .pointer (some (ad34.add k))) F37 (r_ix rfl Try.underlying235 1 (by kernel_rfl) (F37.e (.slice M4 mu.length m4)) hA34 (F37.e (.int .i64 (↑k))) k (by first | rfl | omega | simp) (by first | omega | (simp; done) | (simp; omega)) (by simp only [Nat.mul_one])) ?_; intro a41 F41
    refine op_rq (v := .pointer (some ⟨gd, 0, none⟩)) F41 (r_ld rfl (F41.e (.pointer (some (ad34.add k)))) (v := .pointer (some ⟨gd, 0, none⟩)) ((own_sl1 (S33.ow 9 rfl) (by first | omega | (simp; omega))).elA hA34 (j := k) (by simp only [pps, List.getElem?_map, List.getElem?_eq_getElem hlt_k]; rw [← hqk]; rfl)) Try.underlying240 rfl) ?_; intro a42 F42
    refine op_q F42 (.pointer (some ⟨gd, 0, none⟩)) ?_; intro a43 F43
    refine wpList_nil ?_
    refine hK40 _ _ ?_; clear hK40 K40
    refine wp_seq_k fun K44 hK44 => ?_
    refine wp_region_lit ?_
    refine op_q F43 (.pointer (some ⟨gd, 0, none⟩)) ?_; intro a45 F45
    refine op_q F45 (.pointer (some ⟨gd, 0, none⟩)) ?_; intro a46 F46
    refine op_q F46 (.pointer (some ⟨gd, 0, none⟩)) ?_; intro a47 F47
    refine op_rq (v := .string xs[k]) F47 (r_ld rfl (F47.e (.pointer (some ⟨gd, 0, none⟩))) (v := .string xs[k]) ((S33.bk 0 rfl).cell 0) Try.underlying9 rfl) ?_; intro a48 F48
    refine op_q F48 (.string xs[k]) ?_; intro a49 F49
    refine wpList_nil ?_
    refine hK44 _ _ ?_; clear hK44 K44
    refine wp_seq_k fun K50 hK50 => ?_
    refine wp_seq_k fun K51 hK51 => ?_
    refine wp_region_lit ?_
    refine op_q F49 (.pointer (some ⟨gd, 0, none⟩)) ?_; intro a52 F52
    refine op_q F52 (.pointer (some ⟨gd, 0, none⟩)) ?_; intro a53 F53
    refine op_q F53 (.pointer (some ⟨gd, 7, none⟩)) ?_; intro a54 F54
    refine op_rq (v := .string ⟨#[]⟩) F54 (r_ld rfl (F54.e (.pointer (some ⟨gd, 7, none⟩))) (v := .string ⟨#[]⟩) ((S33.bk 0 rfl).cell 7) Try.underlying9 rfl) ?_; intro a55 F55
    refine op_q F55 (.bool false) ?_; intro a56 F56
    refine wpList_nil ?_
    refine hK51 _ _ ?_; clear hK51 K51
    refine wp_cond_false (F56.ev (by kernel_rfl)) ?_
    refine wp_skip ?_
    refine hK50 _ _ ?_; clear hK50 K50
    refine wp_seq_k fun K57 hK57 => ?_
    refine wp_seq_k fun K58 hK58 => ?_
    rcases btf (oneOf xs[k] (xs.take k)) with hd59 | hd59
    · obtain ⟨pq, hpq⟩ := (hf xs[k]).2 hd59
      refine wp_region_lit ?_
      refine op_q F56 (.map (some g9)) ?_; intro a60 F60
      refine op_q F60 (.string xs[k]) ?_; intro a61 F61
      refine op_rq (v := .pointer (some pq)) F61 (r_mlook (z := (.pointer none)) rfl Try.underlying9 Try.underlying259 (by kernel_rfl) (F61.e (.map (some g9))) (F61.e (.string xs[k])) (S33.mpa 13 rfl) (by simp only [maxLen]; omega) (by rw [hpq]; rfl)) ?_; intro a62 F62
      refine op_q F62 (.bool true) ?_; intro a63 F63
      refine wpList_nil ?_
      refine hK58 _ _ ?_; clear hK58 K58
      refine wp_cond_true (F63.ev (by kernel_rfl)) ?_
      refine wp_region_lit ?_
      refine op_q F63 (.slice B ms.length b) ?_; intro a64 F64
      refine op_q F64 (.string xs[k]) ?_; intro a65 F65
      refine op_sq F65 (s_news F65 9 #[.string xs[k]] 1 (by kernel_rfl) (by kernel_rfl) (by kernel_rfl) S33) ?_
      rintro _ _ w67 ⟨g65, rfl, rfl⟩ S67 a67 F67
      refine op_sq F67 (s_app rfl Try.underlying22 1 _ tin9 rfl rfl (F67.e (.slice B ms.length b)) S67.p15 ([Value.string xs[k]]) (F67.e (.slice (some ⟨g65, 0, none⟩) 1 1)) ((S67.bk 0 rfl).sl (by simp)) rfl (by simp [Value.oneCell']) (by omega) (by omega) (n' := (ms ++ [xs[k]]).length) (by first | (simp; done) | (simp; omega)) (cs' := strs (ms ++ [xs[k]])) (by simp [strs])) ?_
      rintro _ _ w69 ⟨A68, c68, rfl, rfl⟩ S69 a69 F69
      refine op_q F69 (.slice A68 ((ms ++ [xs[k]]).length) c68) ?_; intro a70 F70
      refine wpList_nil ?_
      refine hK57 _ _ ?_; clear hK57 K57
      refine wp_region_lit ?_
      refine op_q F70 (.map (some g9)) ?_; intro a71 F71
      refine op_q F71 (.string xs[k]) ?_; intro a72 F72
      refine op_q F72 (.pointer (some ⟨gd, 0, none⟩)) ?_; intro a73 F73
      refine op_sq0 F73 (s_mput rfl Try.underlying9 Try.underlying259 (F73.e (.map (some g9))) (F73.e (.string xs[k])) (F73.e (.pointer (some ⟨gd, 0, none⟩))) S69.p15 (by simp only [maxLen]; omega) (by simp only [maxLen]; omega)) ?_
      rintro _ _ w74 rfl S74 F74
      refine wpList_nil ?_
      refine hK39 _ _ ?_; clear hK39 K39
      refine wp_region_lit ?_
      refine op_rq (v := .int .i64 (↑(k + 1))) F74 (r_add (z := ↑(k + 1)) rfl (F74.e (.int .i64 (↑k))) (F74.e (.int .i64 1)) (wr64 (by omega) (by omega) (by omega))) ?_; intro a75 F75
      refine op_q F75 (.int .i64 (↑(k + 1))) ?_; intro a76 F76
      refine wpList_nil ?_
      have S77 : Sp R w74 (SA.dq (some ⟨gd, 0, none⟩) xs[k] :: SA.mpo Try.prog 9 g9 (n + 1) (fput f xs[k] (Value.pointer (some ⟨gd, 0, none⟩))) :: SA.own (.slice A68 ((ms ++ [xs[k]]).length) c68) 9 1 ((ms ++ [xs[k]]).length) (strs (ms ++ [xs[k]])) :: SA.blk g65 9 #[.string xs[k]] :: SA.zips SA.dq (mu.take k) (xs.take k) :: SA.zips SA.dq (mu.drop (k + 1)) (xs.drop (k + 1)) :: SA.blk gm 237 #[.string ((rtM xs A c).fName), .string ((rtM xs A c).fHome), .slice M1 ((rtM xs A c).fSources.length) m1, .string ((rtM xs A c).fVersion), .string ((rtM xs A c).fDescription), .slice M2 ((rtM xs A c).fKeywords.length) m2, .slice M3 mq.length m3, .string ((rtM xs A c).fIcon), .string ((rtM xs A c).fAPIVersion), .string ((rtM xs A c).fCondition), .string ((rtM xs A c).fTags), .string ((rtM xs A c).fAppVersion), .bool false, .map none, .string ((rtM xs A c).fKubeVersion), .slice M4 mu.length m4, .string ((rtM xs A c).fType)] :: SA.own0 (.slice M1 (rtM xs A c).fSources.length m1) 9 1 ((rtM xs A c).fSources.length) (strs (rtM xs A c).fSources) :: SA.own0 (.slice M2 (rtM xs A c).fKeywords.length m2) 9 1 ((rtM xs A c).fKeywords.length) (strs (rtM xs A c).fKeywords) :: SA.own (.slice M3 mq.length m3) 238 1 mq.length (pps mq) :: SA.zips SA.per mq (rtM xs A c).fMaintainers :: SA.own (.slice M4 mu.length m4) 240 1 mu.length (pps mu) :: SA.blk gc 245 #[.slice none 0 0, .pointer (some ⟨gm, 0, none⟩), .slice none 0 0, .map none, .slice none 0 0, .slice none 0 0, .pointer none, .slice D qs.length dc] :: SA.own (.slice D qs.length dc) 125 1 qs.length (pps qs) :: SA.zips SA.lf qs ys :: L) := Sp.dq_mk S74.p4.p4
      have S78 : Sp R w74 (SA.zips SA.dq mu xs :: SA.mpo Try.prog 9 g9 (n + 1) (fput f xs[k] (Value.pointer (some ⟨gd, 0, none⟩))) :: SA.own (.slice A68 ((ms ++ [xs[k]]).length) c68) 9 1 ((ms ++ [xs[k]]).length) (strs (ms ++ [xs[k]])) :: SA.blk g65 9 #[.string xs[k]] :: SA.blk gm 237 #[.string ((rtM xs A c).fName), .string ((rtM xs A c).fHome), .slice M1 ((rtM xs A c).fSources.length) m1, .string ((rtM xs A c).fVersion), .string ((rtM xs A c).fDescription), .slice M2 ((rtM xs A c).fKeywords.length) m2, .slice M3 mq.length m3, .string ((rtM xs A c).fIcon), .string ((rtM xs A c).fAPIVersion), .string ((rtM xs A c).fCondition), .string ((rtM xs A c).fTags), .string ((rtM xs A c).fAppVersion), .bool false, .map none, .string ((rtM xs A c).fKubeVersion), .slice M4 mu.length m4, .string ((rtM xs A c).fType)] :: SA.own0 (.slice M1 (rtM xs A c).fSources.length m1) 9 1 ((rtM xs A c).fSources.length) (strs (rtM xs A c).fSources) :: SA.own0 (.slice M2 (rtM xs A c).fKeywords.length m2) 9 1 ((rtM xs A c).fKeywords.length) (strs (rtM xs A c).fKeywords) :: SA.own (.slice M3 mq.length m3) 238 1 mq.length (pps mq) :: SA.zips SA.per mq (rtM xs A c).fMaintainers :: SA.own (.slice M4 mu.length m4) 240 1 mu.length (pps mu) :: SA.blk gc 245 #[.slice none 0 0, .pointer (some ⟨gm, 0, none⟩), .slice none 0 0, .map none, .slice none 0 0, .slice none 0 0, .pointer none, .slice D qs.length dc] :: SA.own (.slice D qs.length dc) 125 1 qs.length (pps qs) :: SA.zips SA.lf qs ys :: L) := Sp.zclose (k := k) hlt_k2 hv_k (by rw [← hqk]; exact S77.p5.p5.p2)
      exact hK29 _ _ _ (by first | omega | (simp; omega)) ⟨(fput f xs[k] (Value.pointer (some ⟨gd, 0, none⟩))), n + 1, A68, c68, (ms ++ [xs[k]]), k + 1, rfl, (F76.kk 2 (F76.kk 3 (F76.kk 4 (F76.kk 16 (F76.kk 17 (F76.kk 18 F76.nil)))))), S78.p3.drop.p2.p2.p11.p11.p11.p11.p11.p11.p11.p11.p11.p11, (by first | omega | (with_reducible assumption) | (simp; done)), (by first | omega | (with_reducible assumption) | (simp; done)), (mapP_put hf hlt_k2), (by rw [dup_take hlt_k2, ← hms, hd59]; rfl)⟩
    · have hpq := (hf xs[k]).1 hd59
      refine wp_region_lit ?_
      refine op_q F56 (.map (some g9)) ?_; intro a79 F79
      refine op_q F79 (.string xs[k]) ?_; intro a80 F80
      refine op_rq (v := .pointer none) F80 (r_mlook (z := (.pointer none)) rfl Try.underlying9 Try.underlying259 (by kernel_rfl) (F80.e (.map (some g9))) (F80.e (.string xs[k])) (S33.mpa 13 rfl) (by simp only [maxLen]; omega) (by rw [hpq]; rfl)) ?_; intro a81 F81
      refine op_q F81 (.bool false) ?_; intro a82 F82
      refine wpList_nil ?_
      refine hK58 _ _ ?_; clear hK58 K58
      refine wp_cond_false (F82.ev (by kernel_rfl)) ?_
      refine wp_skip ?_
      refine hK57 _ _ ?_; clear hK57 K57
      refine wp_region_lit ?_
      refine op_q F82 (.map (some g9)) ?_; intro a83 F83
      refine op_q F83 (.string xs[k]) ?_; intro a84 F84
      refine op_q F84 (.pointer (some ⟨gd, 0, none⟩)) ?_; intro a85 F85
      refine op_sq0 F85 (s_mput rfl Try.underlying9 Try.underlying259 (F85.e (.map (some g9))) (F85.e (.string xs[k])) (F85.e (.pointer (some ⟨gd, 0, none⟩))) S33.p13 (by simp only [maxLen]; omega) (by simp only [maxLen]; omega)) ?_
      rintro _ _ w86 rfl S86 F86
      refine wpList_nil ?_
      refine hK39 _ _ ?_; clear hK39 K39
      refine wp_region_lit ?_
      refine op_rq (v := .int .i64 (↑(k + 1))) F86 (r_add (z := ↑(k + 1)) rfl (F86.e (.int .i64 (↑k))) (F86.e (.int .i64 1)) (wr64 (by omega) (by omega) (by omega))) ?_; intro a87 F87
      refine op_q F87 (.int .i64 (↑(k + 1))) ?_; intro a88 F88
      refine wpList_nil ?_
      have S89 : Sp R w86 (SA.dq (some ⟨gd, 0, none⟩) xs[k] :: SA.mpo Try.prog 9 g9 (n + 1) (fput f xs[k] (Value.pointer (some ⟨gd, 0, none⟩))) :: SA.zips SA.dq (mu.take k) (xs.take k) :: SA.zips SA.dq (mu.drop (k + 1)) (xs.drop (k + 1)) :: SA.blk gm 237 #[.string ((rtM xs A c).fName), .string ((rtM xs A c).fHome), .slice M1 ((rtM xs A c).fSources.length) m1, .string ((rtM xs A c).fVersion), .string ((rtM xs A c).fDescription), .slice M2 ((rtM xs A c).fKeywords.length) m2, .slice M3 mq.length m3, .string ((rtM xs A c).fIcon), .string ((rtM xs A c).fAPIVersion), .string ((rtM xs A c).fCondition), .string ((rtM xs A c).fTags), .string ((rtM xs A c).fAppVersion), .bool false, .map none, .string ((rtM xs A c).fKubeVersion), .slice M4 mu.length m4, .string ((rtM xs A c).fType)] :: SA.own0 (.slice M1 (rtM xs A c).fSources.length m1) 9 1 ((rtM xs A c).fSources.length) (strs (rtM xs A c).fSources) :: SA.own0 (.slice M2 (rtM xs A c).fKeywords.length m2) 9 1 ((rtM xs A c).fKeywords.length) (strs (rtM xs A c).fKeywords) :: SA.own (.slice M3 mq.length m3) 238 1 mq.length (pps mq) :: SA.zips SA.per mq (rtM xs A c).fMaintainers :: SA.own (.slice M4 mu.length m4) 240 1 mu.length (pps mu) :: SA.blk gc 245 #[.slice none 0 0, .pointer (some ⟨gm, 0, none⟩), .slice none 0 0, .map none, .slice none 0 0, .slice none 0 0, .pointer none, .slice D qs.length dc] :: SA.own (.slice D qs.length dc) 125 1 qs.length (pps qs) :: SA.zips SA.lf qs ys :: SA.own (.slice B ms.length b) 9 1 ms.length (strs ms) :: L) := Sp.dq_mk S86.p2.p2
      have S90 : Sp R w86 (SA.zips SA.dq mu xs :: SA.mpo Try.prog 9 g9 (n + 1) (fput f xs[k] (Value.pointer (some ⟨gd, 0, none⟩))) :: SA.blk gm 237 #[.string ((rtM xs A c).fName), .string ((rtM xs A c).fHome), .slice M1 ((rtM xs A c).fSources.length) m1, .string ((rtM xs A c).fVersion), .string ((rtM xs A c).fDescription), .slice M2 ((rtM xs A c).fKeywords.length) m2, .slice M3 mq.length m3, .string ((rtM xs A c).fIcon), .string ((rtM xs A c).fAPIVersion), .string ((rtM xs A c).fCondition), .string ((rtM xs A c).fTags), .string ((rtM xs A c).fAppVersion), .bool false, .map none, .string ((rtM xs A c).fKubeVersion), .slice M4 mu.length m4, .string ((rtM xs A c).fType)] :: SA.own0 (.slice M1 (rtM xs A c).fSources.length m1) 9 1 ((rtM xs A c).fSources.length) (strs (rtM xs A c).fSources) :: SA.own0 (.slice M2 (rtM xs A c).fKeywords.length m2) 9 1 ((rtM xs A c).fKeywords.length) (strs (rtM xs A c).fKeywords) :: SA.own (.slice M3 mq.length m3) 238 1 mq.length (pps mq) :: SA.zips SA.per mq (rtM xs A c).fMaintainers :: SA.own (.slice M4 mu.length m4) 240 1 mu.length (pps mu) :: SA.blk gc 245 #[.slice none 0 0, .pointer (some ⟨gm, 0, none⟩), .slice none 0 0, .map none, .slice none 0 0, .slice none 0 0, .pointer none, .slice D qs.length dc] :: SA.own (.slice D qs.length dc) 125 1 qs.length (pps qs) :: SA.zips SA.lf qs ys :: SA.own (.slice B ms.length b) 9 1 ms.length (strs ms) :: L) := Sp.zclose (k := k) hlt_k2 hv_k (by rw [← hqk]; exact S89.p3.p3.p2)
      exact hK29 _ _ _ (by first | omega | (simp; omega)) ⟨(fput f xs[k] (Value.pointer (some ⟨gd, 0, none⟩))), n + 1, B, b, ms, k + 1, rfl, (F88.kk 2 (F88.kk 3 (F88.kk 4 (F88.kk 16 (F88.kk 17 (F88.kk 18 F88.nil)))))), S90.p11.p2.p11.p11.p11.p11.p11.p11.p11.p11.p11.p11, (by first | omega | (with_reducible assumption) | (simp; done)), (by first | omega | (with_reducible assumption) | (simp; done)), (mapP_put hf hlt_k2), (by rw [dup_take hlt_k2, ← hms, hd59]; exact (List.append_nil _).symm)⟩
  · have hc_k : decide ((↑k : Int) < ↑mu.length) = false := by first | (simp; done) | (simp; omega)
    obtain rfl : k = mu.length := by omega
    rw [hul, List.take_length] at hms
    have hmy : ms.length ≤ xs.length := by rw [hms]; exact dup_len _ _
    have hmz : ∀ x ∈ ms, x.size ≤ 10 := by rw [hms]; exact dup_mem _ _ hxz
    have hjs : szSum ms + ms.length * (⟨#[44]⟩ : ByteArray).size ≤ 70368744177664 := by have := szSum_le10 hmz; have e : (⟨#[44]⟩ : ByteArray).size = 1 := rfl; rw [e]; omega
    have hjz2 := joinF_size ⟨#[44]⟩ ms
    refine wp_seq_k fun K91 hK91 => ?_
    refine wp_region_lit ?_
    refine op_q F29 (.bool (decide ((↑mu.length : Int) < ↑mu.length))) ?_; intro a92 F92
    have F93 := F92.sb 19 (by kernel_rfl) hc_k
    refine wpList_nil ?_
    refine hK91 _ _ ?_; clear hK91 K91
    refine wp_seq_k fun K94 hK94 => ?_
    refine wp_cond_false (F93.ev (by kernel_rfl)) ?_
    refine wp_exit ?_
    refine ex_then ?_; clear hK94 K94
    refine ex_then ?_
    refine ex_in ?_
    refine hK17 _ _ ?_; clear hK17 K17
    refine wp_seq_k fun K95 hK95 => ?_
    refine wp_seq_k fun K96 hK96 => ?_
    refine wp_region_lit ?_
    refine op_q F93 (.slice B ms.length b) ?_; intro a97 F97
    refine op_q F97 (.int .i64 (↑ms.length)) ?_; intro a98 F98
    refine op_q F98 (.bool (decide ((0 : Int) < ↑ms.length))) ?_; intro a99 F99
    refine wpList_nil ?_
    refine hK96 _ _ ?_; clear hK96 K96
    rcases btf (decide ((0 : Int) < ↑ms.length)) with hc100 | hc100
    · have hc100p := of_decide_eq_true hc100
      have F101 := F99.sb 49 (by kernel_rfl) hc100
      refine wp_cond_true (F101.ev (by kernel_rfl)) ?_
      refine wp_region_lit ?_
      refine op_q F101 (.slice B ms.length b) ?_; intro a102 F102
      refine op_cq F102 (f := 195) (args := #[.slice B ms.length b, .string ⟨#[44]⟩]) (join_any B b ms ⟨#[44]⟩ _ (own_sl1 (S29.ow 11 rfl) (by first | omega | (simp; omega))) hjs) ?_
      rintro _ w103 ⟨rfl, hb_103⟩
      refine ⟨_, rfl, ?_⟩
      intro a104 F104
      have S103 := S29.below hb_103
      refine op_rq (v := .string ((⟨#[109, 117, 108, 116, 105, 112, 108, 101, 32, 100, 101, 112, 101, 110, 100, 101, 110, 99, 105, 101, 115, 32, 119, 105, 116, 104, 32, 110, 97, 109, 101, 32, 111, 114, 32, 97, 108, 105, 97, 115, 58, 32]⟩ : ByteArray) ++ (joinF ⟨#[44]⟩ ms))) F104 (r_sadd rfl (F104.e (.string ⟨#[109, 117, 108, 116, 105, 112, 108, 101, 32, 100, 101, 112, 101, 110, 100, 101, 110, 99, 105, 101, 115, 32, 119, 105, 116, 104, 32, 110, 97, 109, 101, 32, 111, 114, 32, 97, 108, 105, 97, 115, 58, 32]⟩)) (F104.e (.string (joinF ⟨#[44]⟩ ms))) (by show 42 + (joinF ⟨#[44]⟩ ms).size ≤ 9223372036854775807; have := szSum_le10 hmz; have e : (⟨#[44]⟩ : ByteArray).size = 1 := rfl; rw [e] at hjz2; omega)) ?_; intro a105 F105
      refine op_cq F105 (f := 173) (args := #[.string ((⟨#[109, 117, 108, 116, 105, 112, 108, 101, 32, 100, 101, 112, 101, 110, 100, 101, 110, 99, 105, 101, 115, 32, 119, 105, 116, 104, 32, 110, 97, 109, 101, 32, 111, 114, 32, 97, 108, 105, 97, 115, 58, 32]⟩ : ByteArray) ++ (joinF ⟨#[44]⟩ ms))]) (errNew_sp2 ((⟨#[109, 117, 108, 116, 105, 112, 108, 101, 32, 100, 101, 112, 101, 110, 100, 101, 110, 99, 105, 101, 115, 32, 119, 105, 116, 104, 32, 110, 97, 109, 101, 32, 111, 114, 32, 97, 108, 105, 97, 115, 58, 32]⟩ : ByteArray) ++ (joinF ⟨#[44]⟩ ms)) _ _ _ S103 ) ?_
      rintro _ w106 ⟨ge106, rfl, S106⟩
      refine ⟨_, rfl, ?_⟩
      intro a107 F107
      refine op_q F107 (.iface 279 (.pointer (some ⟨ge106, 0, none⟩))) ?_; intro a108 F108
      refine wpList_nil ?_
      refine hK95 _ _ ?_; clear hK95 K95
      refine wp_seq_k fun K109 hK109 => ?_
      refine wp_region_lit ?_
      refine op_q F108 (.iface 279 (.pointer (some ⟨ge106, 0, none⟩))) ?_; intro a110 F110
      refine op_q F110 (.iface 279 (.pointer (some ⟨ge106, 0, none⟩))) ?_; intro a111 F111
      refine wpList_nil ?_
      refine hK109 _ _ ?_; clear hK109 K109
      refine wp_ret ?_
      have htl : toldF ⟨#[109, 117, 108, 116, 105, 112, 108, 101, 32, 100, 101, 112, 101, 110, 100, 101, 110, 99, 105, 101, 115, 32, 119, 105, 116, 104, 32, 110, 97, 109, 101, 32, 111, 114, 32, 97, 108, 105, 97, 115, 58, 32]⟩ (dupF [] xs) = ((⟨#[109, 117, 108, 116, 105, 112, 108, 101, 32, 100, 101, 112, 101, 110, 100, 101, 110, 99, 105, 101, 115, 32, 119, 105, 116, 104, 32, 110, 97, 109, 101, 32, 111, 114, 32, 97, 108, 105, 97, 115, 58, 32]⟩ : ByteArray) ++ (joinF ⟨#[44]⟩ ms)) := by rw [← hms]; exact told_pos (by have := of_decide_eq_true hc100; omega)
      have S112 : Sp R w106 (SA.er true ge106 (toldF ⟨#[109, 117, 108, 116, 105, 112, 108, 101, 32, 100, 101, 112, 101, 110, 100, 101, 110, 99, 105, 101, 115, 32, 119, 105, 116, 104, 32, 110, 97, 109, 101, 32, 111, 114, 32, 97, 108, 105, 97, 115, 58, 32]⟩ (dupF [] xs)) :: SA.zips SA.dq mu xs :: SA.blk gm 237 #[.string ((rtM xs A c).fName), .string ((rtM xs A c).fHome), .slice M1 ((rtM xs A c).fSources.length) m1, .string ((rtM xs A c).fVersion), .string ((rtM xs A c).fDescription), .slice M2 ((rtM xs A c).fKeywords.length) m2, .slice M3 mq.length m3, .string ((rtM xs A c).fIcon), .string ((rtM xs A c).fAPIVersion), .string ((rtM xs A c).fCondition), .string ((rtM xs A c).fTags), .string ((rtM xs A c).fAppVersion), .bool false, .map none, .string ((rtM xs A c).fKubeVersion), .slice M4 mu.length m4, .string ((rtM xs A c).fType)] :: SA.own0 (.slice M1 (rtM xs A c).fSources.length m1) 9 1 ((rtM xs A c).fSources.length) (strs (rtM xs A c).fSources) :: SA.own0 (.slice M2 (rtM xs A c).fKeywords.length m2) 9 1 ((rtM xs A c).fKeywords.length) (strs (rtM xs A c).fKeywords) :: SA.own (.slice M3 mq.length m3) 238 1 mq.length (pps mq) :: SA.zips SA.per mq (rtM xs A c).fMaintainers :: SA.own (.slice M4 mu.length m4) 240 1 mu.length (pps mu) :: SA.blk gc 245 #[.slice none 0 0, .pointer (some ⟨gm, 0, none⟩), .slice none 0 0, .map none, .slice none 0 0, .slice none 0 0, .pointer none, .slice D qs.length dc] :: SA.own (.slice D qs.length dc) 125 1 qs.length (pps qs) :: SA.zips SA.lf qs ys :: SA.mpo Try.prog 9 g9 n f :: SA.own (.slice B ms.length b) 9 1 ms.length (strs ms) :: L) := by rw [htl]; exact Sp.er_t S106
      have S113 : Sp R w106 (SA.zips SA.dep mu (rtM xs A c).fDependencies :: SA.er true ge106 (toldF ⟨#[109, 117, 108, 116, 105, 112, 108, 101, 32, 100, 101, 112, 101, 110, 100, 101, 110, 99, 105, 101, 115, 32, 119, 105, 116, 104, 32, 110, 97, 109, 101, 32, 111, 114, 32, 97, 108, 105, 97, 115, 58, 32]⟩ (dupF [] xs)) :: SA.blk gm 237 #[.string ((rtM xs A c).fName), .string ((rtM xs A c).fHome), .slice M1 ((rtM xs A c).fSources.length) m1, .string ((rtM xs A c).fVersion), .string ((rtM xs A c).fDescription), .slice M2 ((rtM xs A c).fKeywords.length) m2, .slice M3 mq.length m3, .string ((rtM xs A c).fIcon), .string ((rtM xs A c).fAPIVersion), .string ((rtM xs A c).fCondition), .string ((rtM xs A c).fTags), .string ((rtM xs A c).fAppVersion), .bool false, .map none, .string ((rtM xs A c).fKubeVersion), .slice M4 mu.length m4, .string ((rtM xs A c).fType)] :: SA.own0 (.slice M1 (rtM xs A c).fSources.length m1) 9 1 ((rtM xs A c).fSources.length) (strs (rtM xs A c).fSources) :: SA.own0 (.slice M2 (rtM xs A c).fKeywords.length m2) 9 1 ((rtM xs A c).fKeywords.length) (strs (rtM xs A c).fKeywords) :: SA.own (.slice M3 mq.length m3) 238 1 mq.length (pps mq) :: SA.zips SA.per mq (rtM xs A c).fMaintainers :: SA.own (.slice M4 mu.length m4) 240 1 mu.length (pps mu) :: SA.blk gc 245 #[.slice none 0 0, .pointer (some ⟨gm, 0, none⟩), .slice none 0 0, .map none, .slice none 0 0, .slice none 0 0, .pointer none, .slice D qs.length dc] :: SA.own (.slice D qs.length dc) 125 1 qs.length (pps qs) :: SA.zips SA.lf qs ys :: SA.mpo Try.prog 9 g9 n f :: SA.own (.slice B ms.length b) 9 1 ms.length (strs ms) :: L) := Sp.dq_zb S112.p1
      have S114 : Sp R w106 (SA.met gm (rtM xs A c) :: SA.er true ge106 (toldF ⟨#[109, 117, 108, 116, 105, 112, 108, 101, 32, 100, 101, 112, 101, 110, 100, 101, 110, 99, 105, 101, 115, 32, 119, 105, 116, 104, 32, 110, 97, 109, 101, 32, 111, 114, 32, 97, 108, 105, 97, 115, 58, 32]⟩ (dupF [] xs)) :: SA.blk gc 245 #[.slice none 0 0, .pointer (some ⟨gm, 0, none⟩), .slice none 0 0, .map none, .slice none 0 0, .slice none 0 0, .pointer none, .slice D qs.length dc] :: SA.own (.slice D qs.length dc) 125 1 qs.length (pps qs) :: SA.zips SA.lf qs ys :: SA.mpo Try.prog 9 g9 n f :: SA.own (.slice B ms.length b) 9 1 ms.length (strs ms) :: L) := Sp.met_mk S113.p7.p7.p7.p7.p7.p7
      have S115 : Sp R w106 (SA.rt gc xs ys :: SA.er true ge106 (toldF ⟨#[109, 117, 108, 116, 105, 112, 108, 101, 32, 100, 101, 112, 101, 110, 100, 101, 110, 99, 105, 101, 115, 32, 119, 105, 116, 104, 32, 110, 97, 109, 101, 32, 111, 114, 32, 97, 108, 105, 97, 115, 58, 32]⟩ (dupF [] xs)) :: SA.mpo Try.prog 9 g9 n f :: SA.own (.slice B ms.length b) 9 1 ms.length (strs ms) :: L) := Sp.rt_mk S114.p4.p4.p4
      refine (F111.res1 rfl (v := .iface 279 (.pointer (some ⟨ge106, 0, none⟩))) (by kernel_rfl) ?_).1
      exact ⟨true, ge106, rfl, S115.p2.drop.p2.drop.p1, (by rw [← hms]; cases hm : ms with | nil => rw [hm] at hc100; cases hc100 | cons x l => rfl)⟩
    · have hc100p := of_decide_eq_false hc100
      have F116 := F99.sb 49 (by kernel_rfl) hc100
      refine wp_cond_false (F116.ev (by kernel_rfl)) ?_
      refine wp_skip ?_
      refine hK95 _ _ ?_; clear hK95 K95
      refine wp_seq_k fun K117 hK117 => ?_
      refine wp_region_lit ?_
      refine op_q F116 (.nilIface) ?_; intro a118 F118
      refine op_q F118 (.nilIface) ?_; intro a119 F119
      refine wpList_nil ?_
      refine hK117 _ _ ?_; clear hK117 K117
      refine wp_ret ?_
      have S120 : Sp R w29 (SA.er false 0 (toldF ⟨#[109, 117, 108, 116, 105, 112, 108, 101, 32, 100, 101, 112, 101, 110, 100, 101, 110, 99, 105, 101, 115, 32, 119, 105, 116, 104, 32, 110, 97, 109, 101, 32, 111, 114, 32, 97, 108, 105, 97, 115, 58, 32]⟩ (dupF [] xs)) :: SA.zips SA.dq mu xs :: SA.blk gm 237 #[.string ((rtM xs A c).fName), .string ((rtM xs A c).fHome), .slice M1 ((rtM xs A c).fSources.length) m1, .string ((rtM xs A c).fVersion), .string ((rtM xs A c).fDescription), .slice M2 ((rtM xs A c).fKeywords.length) m2, .slice M3 mq.length m3, .string ((rtM xs A c).fIcon), .string ((rtM xs A c).fAPIVersion), .string ((rtM xs A c).fCondition), .string ((rtM xs A c).fTags), .string ((rtM xs A c).fAppVersion), .bool false, .map none, .string ((rtM xs A c).fKubeVersion), .slice M4 mu.length m4, .string ((rtM xs A c).fType)] :: SA.own0 (.slice M1 (rtM xs A c).fSources.length m1) 9 1 ((rtM xs A c).fSources.length) (strs (rtM xs A c).fSources) :: SA.own0 (.slice M2 (rtM xs A c).fKeywords.length m2) 9 1 ((rtM xs A c).fKeywords.length) (strs (rtM xs A c).fKeywords) :: SA.own (.slice M3 mq.length m3) 238 1 mq.length (pps mq) :: SA.zips SA.per mq (rtM xs A c).fMaintainers :: SA.own (.slice M4 mu.length m4) 240 1 mu.length (pps mu) :: SA.blk gc 245 #[.slice none 0 0, .pointer (some ⟨gm, 0, none⟩), .slice none 0 0, .map none, .slice none 0 0, .slice none 0 0, .pointer none, .slice D qs.length dc] :: SA.own (.slice D qs.length dc) 125 1 qs.length (pps qs) :: SA.zips SA.lf qs ys :: SA.mpo Try.prog 9 g9 n f :: SA.own (.slice B ms.length b) 9 1 ms.length (strs ms) :: L) := Sp.er_f S29
      have S121 : Sp R w29 (SA.zips SA.dep mu (rtM xs A c).fDependencies :: SA.er false 0 (toldF ⟨#[109, 117, 108, 116, 105, 112, 108, 101, 32, 100, 101, 112, 101, 110, 100, 101, 110, 99, 105, 101, 115, 32, 119, 105, 116, 104, 32, 110, 97, 109, 101, 32, 111, 114, 32, 97, 108, 105, 97, 115, 58, 32]⟩ (dupF [] xs)) :: SA.blk gm 237 #[.string ((rtM xs A c).fName), .string ((rtM xs A c).fHome), .slice M1 ((rtM xs A c).fSources.length) m1, .string ((rtM xs A c).fVersion), .string ((rtM xs A c).fDescription), .slice M2 ((rtM xs A c).fKeywords.length) m2, .slice M3 mq.length m3, .string ((rtM xs A c).fIcon), .string ((rtM xs A c).fAPIVersion), .string ((rtM xs A c).fCondition), .string ((rtM xs A c).fTags), .string ((rtM xs A c).fAppVersion), .bool false, .map none, .string ((rtM xs A c).fKubeVersion), .slice M4 mu.length m4, .string ((rtM xs A c).fType)] :: SA.own0 (.slice M1 (rtM xs A c).fSources.length m1) 9 1 ((rtM xs A c).fSources.length) (strs (rtM xs A c).fSources) :: SA.own0 (.slice M2 (rtM xs A c).fKeywords.length m2) 9 1 ((rtM xs A c).fKeywords.length) (strs (rtM xs A c).fKeywords) :: SA.own (.slice M3 mq.length m3) 238 1 mq.length (pps mq) :: SA.zips SA.per mq (rtM xs A c).fMaintainers :: SA.own (.slice M4 mu.length m4) 240 1 mu.length (pps mu) :: SA.blk gc 245 #[.slice none 0 0, .pointer (some ⟨gm, 0, none⟩), .slice none 0 0, .map none, .slice none 0 0, .slice none 0 0, .pointer none, .slice D qs.length dc] :: SA.own (.slice D qs.length dc) 125 1 qs.length (pps qs) :: SA.zips SA.lf qs ys :: SA.mpo Try.prog 9 g9 n f :: SA.own (.slice B ms.length b) 9 1 ms.length (strs ms) :: L) := Sp.dq_zb S120.p1
      have S122 : Sp R w29 (SA.met gm (rtM xs A c) :: SA.er false 0 (toldF ⟨#[109, 117, 108, 116, 105, 112, 108, 101, 32, 100, 101, 112, 101, 110, 100, 101, 110, 99, 105, 101, 115, 32, 119, 105, 116, 104, 32, 110, 97, 109, 101, 32, 111, 114, 32, 97, 108, 105, 97, 115, 58, 32]⟩ (dupF [] xs)) :: SA.blk gc 245 #[.slice none 0 0, .pointer (some ⟨gm, 0, none⟩), .slice none 0 0, .map none, .slice none 0 0, .slice none 0 0, .pointer none, .slice D qs.length dc] :: SA.own (.slice D qs.length dc) 125 1 qs.length (pps qs) :: SA.zips SA.lf qs ys :: SA.mpo Try.prog 9 g9 n f :: SA.own (.slice B ms.length b) 9 1 ms.length (strs ms) :: L) := Sp.met_mk S121.p7.p7.p7.p7.p7.p7
      have S123 : Sp R w29 (SA.rt gc xs ys :: SA.er false 0 (toldF ⟨#[109, 117, 108, 116, 105, 112, 108, 101, 32, 100, 101, 112, 101, 110, 100, 101, 110, 99, 105, 101, 115, 32, 119, 105, 116, 104, 32, 110, 97, 109, 101, 32, 111, 114, 32, 97, 108, 105, 97, 115, 58, 32]⟩ (dupF [] xs)) :: SA.mpo Try.prog 9 g9 n f :: SA.own (.slice B ms.length b) 9 1 ms.length (strs ms) :: L) := Sp.rt_mk S122.p4.p4.p4
      refine (F119.res1 rfl (v := .nilIface) (by kernel_rfl) ?_).1
      exact ⟨false, 0, rfl, S123.p2.drop.p2.drop.p1, (by rw [← hms]; cases hm : ms with | nil => rw [hm] at hc100; rfl | cons x l => rw [hm] at hc100; have := of_decide_eq_false hc100; first | (simp at this; done) | (simp at this; omega))⟩
set_option maxRecDepth 100000 in
set_option maxHeartbeats 20000000 in
theorem inDir_sp (gc : Nat) (xs : List ByteArray) (ys : List ByteArray) (R : Ctx) (L : List SA) (w : World) (S : Sp R w (SA.rt gc xs ys :: L))  (hx : xs.length ≤ 8) (hy : ys.length ≤ 8) (hxz : ∀ x ∈ xs, x.size ≤ 10) (hyz : ∀ x ∈ ys, x.size ≤ 10) :
    Calls Try.prog 164 #[.pointer (some ⟨gc, 0, none⟩)] w fun e w' => ∃ b : Bool, ∃ g : Nat, e = .returned (errV b g) ∧ Sp R w' (SA.er b g (toldF ⟨#[99, 104, 97, 114, 116, 32, 100, 105, 114, 101, 99, 116, 111, 114, 121, 32, 105, 115, 32, 109, 105, 115, 115, 105, 110, 103, 32, 116, 104, 101, 115, 101, 32, 100, 101, 112, 101, 110, 100, 101, 110, 99, 105, 101, 115, 58, 32]⟩ (onlyF xs ys)) :: SA.rt gc xs ys :: L) ∧ (b = !(onlyF xs ys).isEmpty) := by
  obtain ⟨gm, D, dc, qs, A, c, Sr1⟩ := Sp.rt_open S
  have S2 : Sp R w (SA.blk gc 245 #[.slice none 0 0, .pointer (some ⟨gm, 0, none⟩), .slice none 0 0, .map none, .slice none 0 0, .slice none 0 0, .pointer none, .slice D qs.length dc] :: SA.own (.slice D qs.length dc) 125 1 qs.length (pps qs) :: SA.zips SA.lf qs ys :: SA.met gm (rtM xs A c) :: L) := Sr1
  obtain ⟨M1, m1, M2, m2, M3, m3, mq, M4, m4, mu, Sm3⟩ := Sp.met_open S2.p3
  have S4 : Sp R w (SA.blk gm 237 #[.string ((rtM xs A c).fName), .string ((rtM xs A c).fHome), .slice M1 ((rtM xs A c).fSources.length) m1, .string ((rtM xs A c).fVersion), .string ((rtM xs A c).fDescription), .slice M2 ((rtM xs A c).fKeywords.length) m2, .slice M3 mq.length m3, .string ((rtM xs A c).fIcon), .string ((rtM xs A c).fAPIVersion), .string ((rtM xs A c).fCondition), .string ((rtM xs A c).fTags), .string ((rtM xs A c).fAppVersion), .bool false, .map none, .string ((rtM xs A c).fKubeVersion), .slice M4 mu.length m4, .string ((rtM xs A c).fType)] :: SA.own0 (.slice M1 (rtM xs A c).fSources.length m1) 9 1 ((rtM xs A c).fSources.length) (strs (rtM xs A c).fSources) :: SA.own0 (.slice M2 (rtM xs A c).fKeywords.length m2) 9 1 ((rtM xs A c).fKeywords.length) (strs (rtM xs A c).fKeywords) :: SA.own (.slice M3 mq.length m3) 238 1 mq.length (pps mq) :: SA.zips SA.per mq (rtM xs A c).fMaintainers :: SA.own (.slice M4 mu.length m4) 240 1 mu.length (pps mu) :: SA.zips SA.dep mu (rtM xs A c).fDependencies :: SA.blk gc 245 #[.slice none 0 0, .pointer (some ⟨gm, 0, none⟩), .slice none 0 0, .map none, .slice none 0 0, .slice none 0 0, .pointer none, .slice D qs.length dc] :: SA.own (.slice D qs.length dc) 125 1 qs.length (pps qs) :: SA.zips SA.lf qs ys :: L) := Sm3
  have S5 : Sp R w (SA.zips SA.dq mu xs :: SA.blk gm 237 #[.string ((rtM xs A c).fName), .string ((rtM xs A c).fHome), .slice M1 ((rtM xs A c).fSources.length) m1, .string ((rtM xs A c).fVersion), .string ((rtM xs A c).fDescription), .slice M2 ((rtM xs A c).fKeywords.length) m2, .slice M3 mq.length m3, .string ((rtM xs A c).fIcon), .string ((rtM xs A c).fAPIVersion), .string ((rtM xs A c).fCondition), .string ((rtM xs A c).fTags), .string ((rtM xs A c).fAppVersion), .bool false, .map none, .string ((rtM xs A c).fKubeVersion), .slice M4 mu.length m4, .string ((rtM xs A c).fType)] :: SA.own0 (.slice M1 (rtM xs A c).fSources.length m1) 9 1 ((rtM xs A c).fSources.length) (strs (rtM xs A c).fSources) :: SA.own0 (.slice M2 (rtM xs A c).fKeywords.length m2) 9 1 ((rtM xs A c).fKeywords.length) (strs (rtM xs A c).fKeywords) :: SA.own (.slice M3 mq.length m3) 238 1 mq.length (pps mq) :: SA.zips SA.per mq (rtM xs A c).fMaintainers :: SA.own (.slice M4 mu.length m4) 240 1 mu.length (pps mu) :: SA.blk gc 245 #[.slice none 0 0, .pointer (some ⟨gm, 0, none⟩), .slice none 0 0, .map none, .slice none 0 0, .slice none 0 0, .pointer none, .slice D qs.length dc] :: SA.own (.slice D qs.length dc) 125 1 qs.length (pps qs) :: SA.zips SA.lf qs ys :: L) := Sp.dq_z S4.p6
  have hul := Sp.zlen S5
  have hql := Sp.zlen S5.p9
  refine fw_enter (fn := Try.f164) rfl rfl 69 rfl (Nat.le_of_ble_eq_true rfl) ?_
  intro a0 F0
  refine wp_seq_k fun K7 hK7 => ?_
  refine wp_region_lit ?_
  refine op_q F0 (.nilIface) ?_; intro a8 F8
  refine wpList_nil ?_
  refine hK7 _ _ ?_; clear hK7 K7
  refine wp_seq_k fun K9 hK9 => ?_
  refine wp_region_lit ?_
  refine op_sq F8 (s_mkmap rfl 9 S5) ?_
  rintro _ _ w11 ⟨g9, rfl, rfl⟩ S11 a11 F11
  refine op_q F11 (.map (some g9)) ?_; intro a12 F12
  refine wpList_nil ?_
  refine hK9 _ _ ?_; clear hK9 K9
  refine wp_seq_k fun K13 hK13 => ?_
  refine wp_region_lit ?_
  refine op_sq F12 (s_news F12 9 #[] 0 (by kernel_rfl) (by kernel_rfl) (by kernel_rfl) S11) ?_
  rintro _ _ w15 ⟨g13, rfl, rfl⟩ S15 a15 F15
  refine op_q F15 (.slice (some ⟨g13, 0, none⟩) 0 0) ?_; intro a16 F16
  refine wpList_nil ?_
  refine hK13 _ _ ?_; clear hK13 K13
  refine wp_seq_k fun K17 hK17 => ?_
  refine wp_seq_k fun K18 hK18 => ?_
  refine wp_region_lit ?_
  refine op_q F16 (.pointer (some ⟨gc, 0, none⟩)) ?_; intro a19 F19
  refine op_cq F19 (f := 132) (args := #[.pointer (some ⟨gc, 0, none⟩)]) (deps_sp gc (.slice none 0 0) (.pointer (some ⟨gm, 0, none⟩)) (.slice none 0 0) (.map none) (.slice none 0 0) (.slice none 0 0) (.pointer none) D qs.length dc _ _ _ S15 (fun w S => S.bk 9 rfl)) ?_
  rintro _ w20 ⟨rfl, S20⟩
  refine ⟨_, rfl, ?_⟩
  intro a21 F21
  refine op_q F21 (.int .i64 (↑qs.length)) ?_; intro a22 F22
  refine op_q F22 (.int .i64 0) ?_; intro a23 F23
  refine wpList_nil ?_
  refine hK18 _ _ ?_; clear hK18 K18
  refine wp_block ?_
  have S24 : Sp R w20 (SA.own (.slice (some ⟨g13, 0, none⟩) 0 0) 9 1 0 (strs []) :: SA.mpo Try.prog 9 g9 0 (fun _ => none) :: SA.zips SA.dq mu xs :: SA.blk gm 237 #[.string ((rtM xs A c).fName), .string ((rtM xs A c).fHome), .slice M1 ((rtM xs A c).fSources.length) m1, .string ((rtM xs A c).fVersion), .string ((rtM xs A c).fDescription), .slice M2 ((rtM xs A c).fKeywords.length) m2, .slice M3 mq.length m3, .string ((rtM xs A c).fIcon), .string ((rtM xs A c).fAPIVersion), .string ((rtM xs A c).fCondition), .string ((rtM xs A c).fTags), .string ((rtM xs A c).fAppVersion), .bool false, .map none, .string ((rtM xs A c).fKubeVersion), .slice M4 mu.length m4, .string ((rtM xs A c).fType)] :: SA.own0 (.slice M1 (rtM xs A c).fSources.length m1) 9 1 ((rtM xs A c).fSources.length) (strs (rtM xs A c).fSources) :: SA.own0 (.slice M2 (rtM xs A c).fKeywords.length m2) 9 1 ((rtM xs A c).fKeywords.length) (strs (rtM xs A c).fKeywords) :: SA.own (.slice M3 mq.length m3) 238 1 mq.length (pps mq) :: SA.zips SA.per mq (rtM xs A c).fMaintainers :: SA.own (.slice M4 mu.length m4) 240 1 mu.length (pps mu) :: SA.blk gc 245 #[.slice none 0 0, .pointer (some ⟨gm, 0, none⟩), .slice none 0 0, .map none, .slice none 0 0, .slice none 0 0, .pointer none, .slice D qs.length dc] :: SA.own (.slice D qs.length dc) 125 1 qs.length (pps qs) :: SA.zips SA.lf qs ys :: L) := Sp.ofblk (sz := 1) (m := 0) (l := []) S20 rfl (by omega) rfl
  refine fw_loop (fun m' a' w' => ∃ f : ByteArray → Option Value, ∃ n : Nat, ∃ j : Nat, ys.length - j = m' ∧ Fr 69 [] a' [(0, .pointer (some ⟨gc, 0, none⟩)), (2, .nilIface), (3, .map (some g9)), (4, .slice (some ⟨g13, 0, none⟩) 0 0), (14, .slice (D) (qs.length) (dc)), (15, .int .i64 (↑qs.length)), (16, .int .i64 (↑j))] ∧ Sp R w' (SA.own (.slice (some ⟨g13, 0, none⟩) 0 0) 9 1 0 (strs []) :: SA.zips SA.dq mu xs :: SA.blk gm 237 #[.string ((rtM xs A c).fName), .string ((rtM xs A c).fHome), .slice M1 ((rtM xs A c).fSources.length) m1, .string ((rtM xs A c).fVersion), .string ((rtM xs A c).fDescription), .slice M2 ((rtM xs A c).fKeywords.length) m2, .slice M3 mq.length m3, .string ((rtM xs A c).fIcon), .string ((rtM xs A c).fAPIVersion), .string ((rtM xs A c).fCondition), .string ((rtM xs A c).fTags), .string ((rtM xs A c).fAppVersion), .bool false, .map none, .string ((rtM xs A c).fKubeVersion), .slice M4 mu.length m4, .string ((rtM xs A c).fType)] :: SA.own0 (.slice M1 (rtM xs A c).fSources.length m1) 9 1 ((rtM xs A c).fSources.length) (strs (rtM xs A c).fSources) :: SA.own0 (.slice M2 (rtM xs A c).fKeywords.length m2) 9 1 ((rtM xs A c).fKeywords.length) (strs (rtM xs A c).fKeywords) :: SA.own (.slice M3 mq.length m3) 238 1 mq.length (pps mq) :: SA.zips SA.per mq (rtM xs A c).fMaintainers :: SA.own (.slice M4 mu.length m4) 240 1 mu.length (pps mu) :: SA.blk gc 245 #[.slice none 0 0, .pointer (some ⟨gm, 0, none⟩), .slice none 0 0, .map none, .slice none 0 0, .slice none 0 0, .pointer none, .slice D qs.length dc] :: SA.own (.slice D qs.length dc) 125 1 qs.length (pps qs) :: SA.zips SA.lf qs ys :: SA.mpo Try.prog 9 g9 n f :: L) ∧ (j ≤ ys.length) ∧ (n ≤ j) ∧ (SetOf f (ys.take j))) _ ⟨(fun _ => none), 0, 0, rfl, (F23.kk 0 (F23.kk 2 (F23.kk 3 (F23.kk 4 (F23.kk 14 (F23.kk 15 (F23.kk 16 F23.nil))))))), S24.p1.p11.p11.p11.p11.p11.p11.p11.p11.p11.p11.p11, (by first | omega | (with_reducible assumption) | (simp; done)), (by first | omega | (with_reducible assumption) | (simp; done)), setOf_0⟩ ?_
  rintro m25 a25 w25 ⟨f, n, j, hm25, F25, S25, hj, hnn, hf⟩ K25 hK25
  by_cases hlt_j : j < qs.length
  · have hc_j : decide ((↑j : Int) < ↑qs.length) = true := by first | (simp; done) | (simp; omega)
    have hlt_j2 : j < ys.length := by omega
    obtain ⟨hv_j, Sz26⟩ := Sp.zat (k := j) hlt_j2 S25.p10
    obtain ⟨qj, hqj⟩ : ∃ q, q = qs[j] := ⟨_, rfl⟩
    have S27 : Sp R w25 (SA.lf qj ys[j] :: SA.zips SA.lf (qs.take j) (ys.take j) :: SA.zips SA.lf (qs.drop (j + 1)) (ys.drop (j + 1)) :: SA.own (.slice (some ⟨g13, 0, none⟩) 0 0) 9 1 0 (strs []) :: SA.zips SA.dq mu xs :: SA.blk gm 237 #[.string ((rtM xs A c).fName), .string ((rtM xs A c).fHome), .slice M1 ((rtM xs A c).fSources.length) m1, .string ((rtM xs A c).fVersion), .string ((rtM xs A c).fDescription), .slice M2 ((rtM xs A c).fKeywords.length) m2, .slice M3 mq.length m3, .string ((rtM xs A c).fIcon), .string ((rtM xs A c).fAPIVersion), .string ((rtM xs A c).fCondition), .string ((rtM xs A c).fTags), .string ((rtM xs A c).fAppVersion), .bool false, .map none, .string ((rtM xs A c).fKubeVersion), .slice M4 mu.length m4, .string ((rtM xs A c).fType)] :: SA.own0 (.slice M1 (rtM xs A c).fSources.length m1) 9 1 ((rtM xs A c).fSources.length) (strs (rtM xs A c).fSources) :: SA.own0 (.slice M2 (rtM xs A c).fKeywords.length m2) 9 1 ((rtM xs A c).fKeywords.length) (strs (rtM xs A c).fKeywords) :: SA.own (.slice M3 mq.length m3) 238 1 mq.length (pps mq) :: SA.zips SA.per mq (rtM xs A c).fMaintainers :: SA.own (.slice M4 mu.length m4) 240 1 mu.length (pps mu) :: SA.blk gc 245 #[.slice none 0 0, .pointer (some ⟨gm, 0, none⟩), .slice none 0 0, .map none, .slice none 0 0, .slice none 0 0, .pointer none, .slice D qs.length dc] :: SA.own (.slice D qs.length dc) 125 1 qs.length (pps qs) :: SA.mpo Try.prog 9 g9 n f :: L) := by rw [hqj]; exact Sz26
    obtain ⟨lg, lgm, lpar, L1, l1, L2, l2, L3, ln3, l3, L4, ln4, l4, hqj2, Sl28⟩ := Sp.lf_open S27
    subst hqj2
    have hjz := hyz _ (List.getElem_mem hlt_j2)
    have S29 : Sp R w25 (SA.blk lg 245 #[.slice none 0 0, .pointer (some ⟨lgm, 0, none⟩), .slice none 0 0, .map none, .slice none 0 0, .slice none 0 0, .pointer lpar, .slice none 0 0] :: SA.blk lgm 237 #[.string ys[j], .string ⟨#[]⟩, .slice L1 0 l1, .string ⟨#[49, 46, 48, 46, 48]⟩, .string ⟨#[]⟩, .slice L2 0 l2, .slice L3 ln3 l3, .string ⟨#[]⟩, .string ⟨#[]⟩, .string ⟨#[]⟩, .string ⟨#[]⟩, .string ⟨#[]⟩, .bool false, .map none, .string ⟨#[]⟩, .slice L4 ln4 l4, .string ⟨#[]⟩] :: SA.zips SA.lf (qs.take j) (ys.take j) :: SA.zips SA.lf (qs.drop (j + 1)) (ys.drop (j + 1)) :: SA.own (.slice (some ⟨g13, 0, none⟩) 0 0) 9 1 0 (strs []) :: SA.zips SA.dq mu xs :: SA.blk gm 237 #[.string ((rtM xs A c).fName), .string ((rtM xs A c).fHome), .slice M1 ((rtM xs A c).fSources.length) m1, .string ((rtM xs A c).fVersion), .string ((rtM xs A c).fDescription), .slice M2 ((rtM xs A c).fKeywords.length) m2, .slice M3 mq.length m3, .string ((rtM xs A c).fIcon), .string ((rtM xs A c).fAPIVersion), .string ((rtM xs A c).fCondition), .string ((rtM xs A c).fTags), .string ((rtM xs A c).fAppVersion), .bool false, .map none, .string ((rtM xs A c).fKubeVersion), .slice M4 mu.length m4, .string ((rtM xs A c).fType)] :: SA.own0 (.slice M1 (rtM xs A c).fSources.length m1) 9 1 ((rtM xs A c).fSources.length) (strs (rtM xs A c).fSources) :: SA.own0 (.slice M2 (rtM xs A c).fKeywords.length m2) 9 1 ((rtM xs A c).fKeywords.length) (strs (rtM xs A c).fKeywords) :: SA.own (.slice M3 mq.length m3) 238 1 mq.length (pps mq) :: SA.zips SA.per mq (rtM xs A c).fMaintainers :: SA.own (.slice M4 mu.length m4) 240 1 mu.length (pps mu) :: SA.blk gc 245 #[.slice none 0 0, .pointer (some ⟨gm, 0, none⟩), .slice none 0 0, .map none, .slice none 0 0, .slice none 0 0, .pointer none, .slice D qs.length dc] :: SA.own (.slice D qs.length dc) 125 1 qs.length (pps qs) :: SA.mpo Try.prog 9 g9 n f :: L) := Sl28
    obtain ⟨ad30, hA30⟩ := (own_sl1 (S29.ow 13 rfl) (by first | omega | (simp; omega))).addr (by simp [pps]; omega)
    refine wp_seq_k fun K31 hK31 => ?_
    refine wp_region_lit ?_
    refine op_q F25 (.bool (decide ((↑j : Int) < ↑qs.length))) ?_; intro a32 F32
    have F33 := F32.sb 17 (by kernel_rfl) hc_j
    refine wpList_nil ?_
    refine hK31 _ _ ?_; clear hK31 K31
    refine wp_seq_k fun K34 hK34 => ?_
    refine wp_cond_true (F33.ev (by kernel_rfl)) ?_
    refine wp_skip ?_
    refine hK34 _ _ ?_; clear hK34 K34
    refine wp_seq_k fun K35 hK35 => ?_
    refine wp_block ?_
    refine wp_seq_k fun K36 hK36 => ?_
    refine wp_region_lit ?_
    refine op_rq (v := .pointer (some (ad30.add j))) F33 (r_ix rfl Try.underlying211 1 (by kernel_rfl) (F33.e (.slice (D) (qs.length) (dc))) hA30 (F33.e (.int .i64 (↑j))) j (by first | rfl | omega | simp) (by first | omega | (simp; done) | (simp; omega)) (by simp only [Nat.mul_one])) ?_; intro a37 F37
    refine op_rq (v := .pointer (some ⟨lg, 0, none⟩)) F37 (r_ld rfl (F37.e (.pointer (some (ad30.add j)))) (v := .pointer (some ⟨lg, 0, none⟩)) ((own_sl1 (S29.ow 13 rfl) (by first | omega | (simp; omega))).elA hA30 (j := j) (by simp only [pps, List.getElem?_map, List.getElem?_eq_getElem hlt_j]; rw [← hqj]; rfl)) Try.underlying125 rfl) ?_; intro a38 F38
    refine op_q F38 (.pointer (some ⟨lg, 0, none⟩)) ?_; intro a39 F39
    refine wpList_nil ?_
    refine hK36 _ _ ?_; clear hK36 K36
    refine wp_region_lit ?_
    refine op_q F39 (.map (some g9)) ?_; intro a40 F40
    refine op_q F40 (.pointer (some ⟨lg, 0, none⟩)) ?_; intro a41 F41
    refine op_q F41 (.pointer (some ⟨lg, 0, none⟩)) ?_; intro a42 F42
    refine op_q F42 (.pointer (some ⟨lg, 1, none⟩)) ?_; intro a43 F43
    refine op_rq (v := .pointer (some ⟨lgm, 0, none⟩)) F43 (r_ld rfl (F43.e (.pointer (some ⟨lg, 1, none⟩))) (v := .pointer (some ⟨lgm, 0, none⟩)) ((S29.bk 0 rfl).cell 1) Try.underlying163 rfl) ?_; intro a44 F44
    refine op_q F44 (.pointer (some ⟨lgm, 0, none⟩)) ?_; intro a45 F45
    refine op_q F45 (.pointer (some ⟨lgm, 0, none⟩)) ?_; intro a46 F46
    refine op_rq (v := .string ys[j]) F46 (r_ld rfl (F46.e (.pointer (some ⟨lgm, 0, none⟩))) (v := .string ys[j]) ((S29.bk 1 rfl).cell 0) Try.underlying9 rfl) ?_; intro a47 F47
    refine op_q F47 (.agg #[]) ?_; intro a48 F48
    refine op_sq0 F48 (s_mput rfl Try.underlying9 Try.underlying271 (F48.e (.map (some g9))) (F48.e (.string ys[j])) (F48.e (.agg #[])) S29.p14 (by simp only [maxLen]; omega) (by simp only [maxLen]; omega)) ?_
    rintro _ _ w49 rfl S49 F49
    refine wpList_nil ?_
    refine hK35 _ _ ?_; clear hK35 K35
    refine wp_region_lit ?_
    refine op_rq (v := .int .i64 (↑(j + 1))) F49 (r_add (z := ↑(j + 1)) rfl (F49.e (.int .i64 (↑j))) (F49.e (.int .i64 1)) (wr64 (by omega) (by omega) (by omega))) ?_; intro a50 F50
    refine op_q F50 (.int .i64 (↑(j + 1))) ?_; intro a51 F51
    refine wpList_nil ?_
    have S52 : Sp R w49 (SA.lf (some ⟨lg, 0, none⟩) ys[j] :: SA.mpo Try.prog 9 g9 (n + 1) (fput f ys[j] (Value.agg #[])) :: SA.zips SA.lf (qs.take j) (ys.take j) :: SA.zips SA.lf (qs.drop (j + 1)) (ys.drop (j + 1)) :: SA.own (.slice (some ⟨g13, 0, none⟩) 0 0) 9 1 0 (strs []) :: SA.zips SA.dq mu xs :: SA.blk gm 237 #[.string ((rtM xs A c).fName), .string ((rtM xs A c).fHome), .slice M1 ((rtM xs A c).fSources.length) m1, .string ((rtM xs A c).fVersion), .string ((rtM xs A c).fDescription), .slice M2 ((rtM xs A c).fKeywords.length) m2, .slice M3 mq.length m3, .string ((rtM xs A c).fIcon), .string ((rtM xs A c).fAPIVersion), .string ((rtM xs A c).fCondition), .string ((rtM xs A c).fTags), .string ((rtM xs A c).fAppVersion), .bool false, .map none, .string ((rtM xs A c).fKubeVersion), .slice M4 mu.length m4, .string ((rtM xs A c).fType)] :: SA.own0 (.slice M1 (rtM xs A c).fSources.length m1) 9 1 ((rtM xs A c).fSources.length) (strs (rtM xs A c).fSources) :: SA.own0 (.slice M2 (rtM xs A c).fKeywords.length m2) 9 1 ((rtM xs A c).fKeywords.length) (strs (rtM xs A c).fKeywords) :: SA.own (.slice M3 mq.length m3) 238 1 mq.length (pps mq) :: SA.zips SA.per mq (rtM xs A c).fMaintainers :: SA.own (.slice M4 mu.length m4) 240 1 mu.length (pps mu) :: SA.blk gc 245 #[.slice none 0 0, .pointer (some ⟨gm, 0, none⟩), .slice none 0 0, .map none, .slice none 0 0, .slice none 0 0, .pointer none, .slice D qs.length dc] :: SA.own (.slice D qs.length dc) 125 1 qs.length (pps qs) :: L) := Sp.lf_mk S49.p2.p2
    have S53 : Sp R w49 (SA.zips SA.lf qs ys :: SA.mpo Try.prog 9 g9 (n + 1) (fput f ys[j] (Value.agg #[])) :: SA.own (.slice (some ⟨g13, 0, none⟩) 0 0) 9 1 0 (strs []) :: SA.zips SA.dq mu xs :: SA.blk gm 237 #[.string ((rtM xs A c).fName), .string ((rtM xs A c).fHome), .slice M1 ((rtM xs A c).fSources.length) m1, .string ((rtM xs A c).fVersion), .string ((rtM xs A c).fDescription), .slice M2 ((rtM xs A c).fKeywords.length) m2, .slice M3 mq.length m3, .string ((rtM xs A c).fIcon), .string ((rtM xs A c).fAPIVersion), .string ((rtM xs A c).fCondition), .string ((rtM xs A c).fTags), .string ((rtM xs A c).fAppVersion), .bool false, .map none, .string ((rtM xs A c).fKubeVersion), .slice M4 mu.length m4, .string ((rtM xs A c).fType)] :: SA.own0 (.slice M1 (rtM xs A c).fSources.length m1) 9 1 ((rtM xs A c).fSources.length) (strs (rtM xs A c).fSources) :: SA.own0 (.slice M2 (rtM xs A c).fKeywords.length m2) 9 1 ((rtM xs A c).fKeywords.length) (strs (rtM xs A c).fKeywords) :: SA.own (.slice M3 mq.length m3) 238 1 mq.length (pps mq) :: SA.zips SA.per mq (rtM xs A c).fMaintainers :: SA.own (.slice M4 mu.length m4) 240 1 mu.length (pps mu) :: SA.blk gc 245 #[.slice none 0 0, .pointer (some ⟨gm, 0, none⟩), .slice none 0 0, .map none, .slice none 0 0, .slice none 0 0, .pointer none, .slice D qs.length dc] :: SA.own (.slice D qs.length dc) 125 1 qs.length (pps qs) :: L) := Sp.zclose (k := j) hlt_j2 hv_j (by rw [← hqj]; exact S52.p3.p3.p2)
    exact hK25 _ _ _ (by first | omega | (simp; omega)) ⟨(fput f ys[j] (Value.agg #[])), n + 1, j + 1, rfl, (F51.kk 0 (F51.kk 2 (F51.kk 3 (F51.kk 4 (F51.kk 14 (F51.kk 15 (F51.kk 16 F51.nil))))))), S53.p1.p1.p11.p11.p11.p11.p11.p11.p11.p11.p11.p11, (by first | omega | (with_reducible assumption) | (simp; done)), (by first | omega | (with_reducible assumption) | (simp; done)), (setOf_put hf hlt_j2)⟩
  · have hc_j : decide ((↑j : Int) < ↑qs.length) = false := by first | (simp; done) | (simp; omega)
    obtain rfl : j = qs.length := by omega
    rw [hql, List.take_length] at hf
    refine wp_seq_k fun K54 hK54 => ?_
    refine wp_region_lit ?_
    refine op_q F25 (.bool (decide ((↑qs.length : Int) < ↑qs.length))) ?_; intro a55 F55
    have F56 := F55.sb 17 (by kernel_rfl) hc_j
    refine wpList_nil ?_
    refine hK54 _ _ ?_; clear hK54 K54
    refine wp_seq_k fun K57 hK57 => ?_
    refine wp_cond_false (F56.ev (by kernel_rfl)) ?_
    refine wp_exit ?_
    refine ex_then ?_; clear hK57 K57
    refine ex_then ?_
    refine ex_in ?_
    refine hK17 _ _ ?_; clear hK17 K17
    refine wp_seq_k fun K58 hK58 => ?_
    refine wp_seq_k fun K59 hK59 => ?_
    refine wp_region_lit ?_
    refine op_q F56 (.pointer (some ⟨gc, 0, none⟩)) ?_; intro a60 F60
    refine op_q F60 (.pointer (some ⟨gc, 0, none⟩)) ?_; intro a61 F61
    refine op_q F61 (.pointer (some ⟨gc, 1, none⟩)) ?_; intro a62 F62
    refine op_rq (v := .pointer (some ⟨gm, 0, none⟩)) F62 (r_ld rfl (F62.e (.pointer (some ⟨gc, 1, none⟩))) (v := .pointer (some ⟨gm, 0, none⟩)) ((S25.bk 8 rfl).cell 1) Try.underlying163 rfl) ?_; intro a63 F63
    refine op_q F63 (.pointer (some ⟨gm, 0, none⟩)) ?_; intro a64 F64
    refine op_q F64 (.pointer (some ⟨gm, 15, none⟩)) ?_; intro a65 F65
    refine op_rq (v := .slice M4 mu.length m4) F65 (r_ld rfl (F65.e (.pointer (some ⟨gm, 15, none⟩))) (v := .slice M4 mu.length m4) ((S25.bk 2 rfl).cell 15) Try.underlying235 rfl) ?_; intro a66 F66
    refine op_q F66 (.int .i64 (↑mu.length)) ?_; intro a67 F67
    refine op_q F67 (.int .i64 0) ?_; intro a68 F68
    refine wpList_nil ?_
    refine hK59 _ _ ?_; clear hK59 K59
    refine wp_block ?_
    refine fw_loop (fun m' a' w' => ∃ B : Option Addr, ∃ b : Nat, ∃ ms : List ByteArray, ∃ k : Nat, xs.length - k = m' ∧ Fr 69 [] a' [(2, .nilIface), (3, .map (some g9)), (4, .slice B ms.length b), (36, .slice M4 mu.length m4), (37, .int .i64 (↑mu.length)), (38, .int .i64 (↑k))] ∧ Sp R w' (SA.zips SA.dq mu xs :: SA.blk gm 237 #[.string ((rtM xs A c).fName), .string ((rtM xs A c).fHome), .slice M1 ((rtM xs A c).fSources.length) m1, .string ((rtM xs A c).fVersion), .string ((rtM xs A c).fDescription), .slice M2 ((rtM xs A c).fKeywords.length) m2, .slice M3 mq.length m3, .string ((rtM xs A c).fIcon), .string ((rtM xs A c).fAPIVersion), .string ((rtM xs A c).fCondition), .string ((rtM xs A c).fTags), .string ((rtM xs A c).fAppVersion), .bool false, .map none, .string ((rtM xs A c).fKubeVersion), .slice M4 mu.length m4, .string ((rtM xs A c).fType)] :: SA.own0 (.slice M1 (rtM xs A c).fSources.length m1) 9 1 ((rtM xs A c).fSources.length) (strs (rtM xs A c).fSources) :: SA.own0 (.slice M2 (rtM xs A c).fKeywords.length m2) 9 1 ((rtM xs A c).fKeywords.length) (strs (rtM xs A c).fKeywords) :: SA.own (.slice M3 mq.length m3) 238 1 mq.length (pps mq) :: SA.zips SA.per mq (rtM xs A c).fMaintainers :: SA.own (.slice M4 mu.length m4) 240 1 mu.length (pps mu) :: SA.blk gc 245 #[.slice none 0 0, .pointer (some ⟨gm, 0, none⟩), .slice none 0 0, .map none, .slice none 0 0, .slice none 0 0, .pointer none, .slice D qs.length dc] :: SA.own (.slice D qs.length dc) 125 1 qs.length (pps qs) :: SA.zips SA.lf qs ys :: SA.mpo Try.prog 9 g9 n f :: SA.own (.slice B ms.length b) 9 1 ms.length (strs ms) :: L) ∧ (k ≤ xs.length) ∧ (ms = onlyF (xs.take k) ys)) _ ⟨(some ⟨g13, 0, none⟩), 0, [], 0, rfl, (F68.kk 2 (F68.kk 3 (F68.kk 4 (F68.kk 36 (F68.kk 37 (F68.kk 38 F68.nil)))))), S25.p11.p11.p11.p11.p11.p11.p11.p11.p11.p11.p11, (by first | omega | (with_reducible assumption) | (simp; done)), rfl⟩ ?_
    rintro m69 a69 w69 ⟨B, b, ms, k, hm69, F69, S69, hk, hms⟩ K69 hK69
    by_cases hlt_k : k < mu.length
    · have hc_k : decide ((↑k : Int) < ↑mu.length) = true := by first | (simp; done) | (simp; omega)
      have hlt_k2 : k < xs.length := by omega
      obtain ⟨hv_k, Sz70⟩ := Sp.zat (k := k) hlt_k2 S69
      obtain ⟨qk, hqk⟩ : ∃ q, q = mu[k] := ⟨_, rfl⟩
      have S71 : Sp R w69 (SA.dq qk xs[k] :: SA.zips SA.dq (mu.take k) (xs.take k) :: SA.zips SA.dq (mu.drop (k + 1)) (xs.drop (k + 1)) :: SA.blk gm 237 #[.string ((rtM xs A c).fName), .string ((rtM xs A c).fHome), .slice M1 ((rtM xs A c).fSources.length) m1, .string ((rtM xs A c).fVersion), .string ((rtM xs A c).fDescription), .slice M2 ((rtM xs A c).fKeywords.length) m2, .slice M3 mq.length m3, .string ((rtM xs A c).fIcon), .string ((rtM xs A c).fAPIVersion), .string ((rtM xs A c).fCondition), .string ((rtM xs A c).fTags), .string ((rtM xs A c).fAppVersion), .bool false, .map none, .string ((rtM xs A c).fKubeVersion), .slice M4 mu.length m4, .string ((rtM xs A c).fType)] :: SA.own0 (.slice M1 (rtM xs A c).fSources.length m1) 9 1 ((rtM xs A c).fSources.length) (strs (rtM xs A c).fSources) :: SA.own0 (.slice M2 (rtM xs A c).fKeywords.length m2) 9 1 ((rtM xs A c).fKeywords.length) (strs (rtM xs A c).fKeywords) :: SA.own (.slice M3 mq.length m3) 238 1 mq.length (pps mq) :: SA.zips SA.per mq (rtM xs A c).fMaintainers :: SA.own (.slice M4 mu.length m4) 240 1 mu.length (pps mu) :: SA.blk gc 245 #[.slice none 0 0, .pointer (some ⟨gm, 0, none⟩), .slice none 0 0, .map none, .slice none 0 0, .slice none 0 0, .pointer none, .slice D qs.length dc] :: SA.own (.slice D qs.length dc) 125 1 qs.length (pps qs) :: SA.zips SA.lf qs ys :: SA.mpo Try.prog 9 g9 n f :: SA.own (.slice B ms.length b) 9 1 ms.length (strs ms) :: L) := by rw [hqk]; exact Sz70
      obtain ⟨gd, Ad, cd, hqk2, Sd72⟩ := Sp.dq_open S71
      subst hqk2
      have hkz := hxz _ (List.getElem_mem hlt_k2)
      have S73 : Sp R w69 (SA.blk gd 262 #[.string xs[k], .string ⟨#[49, 46, 48, 46, 48]⟩, .string ⟨#[]⟩, .string ⟨#[]⟩, .slice Ad 0 cd, .bool false, .slice none 0 0, .string ⟨#[]⟩] :: SA.own0 (.slice Ad 0 cd) 9 1 0 ([]) :: SA.zips SA.dq (mu.take k) (xs.take k) :: SA.zips SA.dq (mu.drop (k + 1)) (xs.drop (k + 1)) :: SA.blk gm 237 #[.string ((rtM xs A c).fName), .string ((rtM xs A c).fHome), .slice M1 ((rtM xs A c).fSources.length) m1, .string ((rtM xs A c).fVersion), .string ((rtM xs A c).fDescription), .slice M2 ((rtM xs A c).fKeywords.length) m2, .slice M3 mq.length m3, .string ((rtM xs A c).fIcon), .string ((rtM xs A c).fAPIVersion), .string ((rtM xs A c).fCondition), .string ((rtM xs A c).fTags), .string ((rtM xs A c).fAppVersion), .bool false, .map none, .string ((rtM xs A c).fKubeVersion), .slice M4 mu.length m4, .string ((rtM xs A c).fType)] :: SA.own0 (.slice M1 (rtM xs A c).fSources.length m1) 9 1 ((rtM xs A c).fSources.length) (strs (rtM xs A c).fSources) :: SA.own0 (.slice M2 (rtM xs A c).fKeywords.length m2) 9 1 ((rtM xs A c).fKeywords.length) (strs (rtM xs A c).fKeywords) :: SA.own (.slice M3 mq.length m3) 238 1 mq.length (pps mq) :: SA.zips SA.per mq (rtM xs A c).fMaintainers :: SA.own (.slice M4 mu.length m4) 240 1 mu.length (pps mu) :: SA.blk gc 245 #[.slice none 0 0, .pointer (some ⟨gm, 0, none⟩), .slice none 0 0, .map none, .slice none 0 0, .slice none 0 0, .pointer none, .slice D qs.length dc] :: SA.own (.slice D qs.length dc) 125 1 qs.length (pps qs) :: SA.zips SA.lf qs ys :: SA.mpo Try.prog 9 g9 n f :: SA.own (.slice B ms.length b) 9 1 ms.length (strs ms) :: L) := Sd72
      obtain ⟨ad74, hA74⟩ := (own_sl1 (S73.ow 9 rfl) (by first | omega | (simp; omega))).addr (by simp [pps]; omega)
      have hml : ms.length ≤ 8 := by have := only_len (ys := xs.take k) (xs := ys); rw [← hms, List.length_take] at this; omega
      refine wp_seq_k fun K75 hK75 => ?_
      refine wp_region_lit ?_
      refine op_q F69 (.bool (decide ((↑k : Int) < ↑mu.length))) ?_; intro a76 F76
      have F77 := F76.sb 39 (by kernel_rfl) hc_k
      refine wpList_nil ?_
      refine hK75 _ _ ?_; clear hK75 K75
      refine wp_seq_k fun K78 hK78 => ?_
      refine wp_cond_true (F77.ev (by kernel_rfl)) ?_
      refine wp_skip ?_
      refine hK78 _ _ ?_; clear hK78 K78
      refine wp_seq_k fun K79 hK79 => ?_
      refine wp_block ?_
      refine wp_seq_k fun K80 hK80 => ?_
      refine wp_region_lit ?_
      refine op_rq (v := .pointer (some (ad74.add k))) F77 (r_ix rfl Try.underlying235 1 (by kernel_rfl) (F77.e (.slice M4 mu.length m4)) hA74 (F77.e (.int .i64 (↑k))) k (by first | rfl | omega | simp) (by first | omega | (simp; done) | (simp; omega)) (by simp only [Nat.mul_one])) ?_; intro a81 F81
      refine op_rq (v := .pointer (some ⟨gd, 0, none⟩)) F81 (r_ld rfl (F81.e (.pointer (some (ad74.add k)))) (v := .pointer (some ⟨gd, 0, none⟩)) ((own_sl1 (S73.ow 9 rfl) (by first | omega | (simp; omega))).elA hA74 (j := k) (by simp only [pps, List.getElem?_map, List.getElem?_eq_getElem hlt_k]; rw [← hqk]; rfl)) Try.underlying240 rfl) ?_; intro a82 F82
      refine op_q F82 (.pointer (some ⟨gd, 0, none⟩)) ?_; intro a83 F83
      refine wpList_nil ?_
      refine hK80 _ _ ?_; clear hK80 K80
      refine wp_seq_k fun K84 hK84 => ?_
      refine wp_region_lit ?_
      refine op_q F83 (.map (some g9)) ?_; intro a85 F85
      refine op_q F85 (.pointer (some ⟨gd, 0, none⟩)) ?_; intro a86 F86
      refine op_q F86 (.pointer (some ⟨gd, 0, none⟩)) ?_; intro a87 F87
      refine op_q F87 (.pointer (some ⟨gd, 0, none⟩)) ?_; intro a88 F88
      refine op_rq (v := .string xs[k]) F88 (r_ld rfl (F88.e (.pointer (some ⟨gd, 0, none⟩))) (v := .string xs[k]) ((S73.bk 0 rfl).cell 0) Try.underlying9 rfl) ?_; intro a89 F89
      refine op_rq (v := .tuple #[.agg #[], .bool (oneOf xs[k] ys)]) F89 (r_mlookok (z := (.agg #[])) rfl Try.underlying9 Try.underlying271 (by kernel_rfl) (F89.e (.map (some g9))) (F89.e (.string xs[k])) (S73.mpa 13 rfl) (by simp only [maxLen]; omega) (u := (.agg #[])) (b := oneOf xs[k] ys) (setOf_at hf _) (fun _ => rfl)) ?_; intro a90 F90
      refine op_q F90 (.tuple #[.agg #[], .bool (oneOf xs[k] ys)]) ?_; intro a91 F91
      refine op_q F91 (.agg #[]) ?_; intro a92 F92
      refine op_q F92 (.bool (oneOf xs[k] ys)) ?_; intro a93 F93
      refine op_sq F93 (s_newp F93 272 #[] (by kernel_rfl) (by kernel_rfl) (by kernel_rfl) S73) ?_
      rintro _ _ w95 ⟨g93, rfl, rfl⟩ S95 a95 F95
      refine op_sq0 F95 (s_stb rfl (F95.e (.pointer (some ⟨g93, 0, none⟩))) (F95.e (.agg #[])) S95 (by kernel_rfl) rfl (by kernel_rfl)) ?_
      rintro _ _ w96 rfl S96 F96
      refine op_q F96 (.bool (oneOf xs[k] ys)) ?_; intro a97 F97
      refine wpList_nil ?_
      refine hK84 _ _ ?_; clear hK84 K84
      refine wp_seq_k fun K98 hK98 => ?_
      refine wp_region_lit ?_
      refine op_q F97 (.bool (oneOf xs[k] ys)) ?_; intro a99 F99
      refine op_q F99 (.bool (!(oneOf xs[k] ys))) ?_; intro a100 F100
      refine wpList_nil ?_
      refine hK98 _ _ ?_; clear hK98 K98
      rcases btf (oneOf xs[k] ys) with hc101 | hc101
      · have F102 := F100.sb 50 (by kernel_rfl) hc101
        have F103 := F102.sb 10 (by kernel_rfl) hc101
        have F104 := F103.sb 51 (by kernel_rfl) hc101
        have F105 := F104.sb 52 (by kernel_rfl) (show (!(oneOf xs[k] ys)) = false by rw [hc101]; rfl)
        refine wp_cond_false (F105.ev (by kernel_rfl)) ?_
        refine wp_skip ?_
        refine hK79 _ _ ?_; clear hK79 K79
        refine wp_region_lit ?_
        refine op_rq (v := .int .i64 (↑(k + 1))) F105 (r_add (z := ↑(k + 1)) rfl (F105.e (.int .i64 (↑k))) (F105.e (.int .i64 1)) (wr64 (by omega) (by omega) (by omega))) ?_; intro a106 F106
        refine op_q F106 (.int .i64 (↑(k + 1))) ?_; intro a107 F107
        refine wpList_nil ?_
        have S108 : Sp R w96 (SA.dq (some ⟨gd, 0, none⟩) xs[k] :: SA.blk g93 272 #[] :: SA.zips SA.dq (mu.take k) (xs.take k) :: SA.zips SA.dq (mu.drop (k + 1)) (xs.drop (k + 1)) :: SA.blk gm 237 #[.string ((rtM xs A c).fName), .string ((rtM xs A c).fHome), .slice M1 ((rtM xs A c).fSources.length) m1, .string ((rtM xs A c).fVersion), .string ((rtM xs A c).fDescription), .slice M2 ((rtM xs A c).fKeywords.length) m2, .slice M3 mq.length m3, .string ((rtM xs A c).fIcon), .string ((rtM xs A c).fAPIVersion), .string ((rtM xs A c).fCondition), .string ((rtM xs A c).fTags), .string ((rtM xs A c).fAppVersion), .bool false, .map none, .string ((rtM xs A c).fKubeVersion), .slice M4 mu.length m4, .string ((rtM xs A c).fType)] :: SA.own0 (.slice M1 (rtM xs A c).fSources.length m1) 9 1 ((rtM xs A c).fSources.length) (strs (rtM xs A c).fSources) :: SA.own0 (.slice M2 (rtM xs A c).fKeywords.length m2) 9 1 ((rtM xs A c).fKeywords.length) (strs (rtM xs A c).fKeywords) :: SA.own (.slice M3 mq.length m3) 238 1 mq.length (pps mq) :: SA.zips SA.per mq (rtM xs A c).fMaintainers :: SA.own (.slice M4 mu.length m4) 240 1 mu.length (pps mu) :: SA.blk gc 245 #[.slice none 0 0, .pointer (some ⟨gm, 0, none⟩), .slice none 0 0, .map none, .slice none 0 0, .slice none 0 0, .pointer none, .slice D qs.length dc] :: SA.own (.slice D qs.length dc) 125 1 qs.length (pps qs) :: SA.zips SA.lf qs ys :: SA.mpo Try.prog 9 g9 n f :: SA.own (.slice B ms.length b) 9 1 ms.length (strs ms) :: L) := Sp.dq_mk S96.p2.p2
        have S109 : Sp R w96 (SA.zips SA.dq mu xs :: SA.blk g93 272 #[] :: SA.blk gm 237 #[.string ((rtM xs A c).fName), .string ((rtM xs A c).fHome), .slice M1 ((rtM xs A c).fSources.length) m1, .string ((rtM xs A c).fVersion), .string ((rtM xs A c).fDescription), .slice M2 ((rtM xs A c).fKeywords.length) m2, .slice M3 mq.length m3, .string ((rtM xs A c).fIcon), .string ((rtM xs A c).fAPIVersion), .string ((rtM xs A c).fCondition), .string ((rtM xs A c).fTags), .string ((rtM xs A c).fAppVersion), .bool false, .map none, .string ((rtM xs A c).fKubeVersion), .slice M4 mu.length m4, .string ((rtM xs A c).fType)] :: SA.own0 (.slice M1 (rtM xs A c).fSources.length m1) 9 1 ((rtM xs A c).fSources.length) (strs (rtM xs A c).fSources) :: SA.own0 (.slice M2 (rtM xs A c).fKeywords.length m2) 9 1 ((rtM xs A c).fKeywords.length) (strs (rtM xs A c).fKeywords) :: SA.own (.slice M3 mq.length m3) 238 1 mq.length (pps mq) :: SA.zips SA.per mq (rtM xs A c).fMaintainers :: SA.own (.slice M4 mu.length m4) 240 1 mu.length (pps mu) :: SA.blk gc 245 #[.slice none 0 0, .pointer (some ⟨gm, 0, none⟩), .slice none 0 0, .map none, .slice none 0 0, .slice none 0 0, .pointer none, .slice D qs.length dc] :: SA.own (.slice D qs.length dc) 125 1 qs.length (pps qs) :: SA.zips SA.lf qs ys :: SA.mpo Try.prog 9 g9 n f :: SA.own (.slice B ms.length b) 9 1 ms.length (strs ms) :: L) := Sp.zclose (k := k) hlt_k2 hv_k (by rw [← hqk]; exact S108.p3.p3.p2)
        exact hK69 _ _ _ (by first | omega | (simp; omega)) ⟨B, b, ms, k + 1, rfl, (F107.kk 2 (F107.kk 3 (F107.kk 4 (F107.kk 36 (F107.kk 37 (F107.kk 38 F107.nil)))))), S109.p1.drop.p11.p11.p11.p11.p11.p11.p11.p11.p11.p11.p11.p11, (by first | omega | (with_reducible assumption) | (simp; done)), (by rw [only_take hlt_k2, ← hms, hc101]; exact List.append_nil _ |>.symm)⟩
      · have F110 := F100.sb 50 (by kernel_rfl) hc101
        have F111 := F110.sb 10 (by kernel_rfl) hc101
        have F112 := F111.sb 51 (by kernel_rfl) hc101
        have F113 := F112.sb 52 (by kernel_rfl) (show (!(oneOf xs[k] ys)) = true by rw [hc101]; rfl)
        refine wp_cond_true (F113.ev (by kernel_rfl)) ?_
        refine wp_region_lit ?_
        refine op_q F113 (.slice B ms.length b) ?_; intro a114 F114
        refine op_q F114 (.pointer (some ⟨gd, 0, none⟩)) ?_; intro a115 F115
        refine op_q F115 (.pointer (some ⟨gd, 0, none⟩)) ?_; intro a116 F116
        refine op_q F116 (.pointer (some ⟨gd, 0, none⟩)) ?_; intro a117 F117
        refine op_rq (v := .string xs[k]) F117 (r_ld rfl (F117.e (.pointer (some ⟨gd, 0, none⟩))) (v := .string xs[k]) ((S96.bk 1 rfl).cell 0) Try.underlying9 rfl) ?_; intro a118 F118
        refine op_sq F118 (s_news F118 9 #[.string xs[k]] 1 (by kernel_rfl) (by kernel_rfl) (by kernel_rfl) S96) ?_
        rintro _ _ w120 ⟨g118, rfl, rfl⟩ S120 a120 F120
        refine op_sq F120 (s_app rfl Try.underlying22 1 _ tin9 rfl rfl (F120.e (.slice B ms.length b)) S120.p16 ([Value.string xs[k]]) (F120.e (.slice (some ⟨g118, 0, none⟩) 1 1)) ((S120.bk 0 rfl).sl (by simp)) rfl (by simp [Value.oneCell']) (by omega) (by omega) (n' := (ms ++ [xs[k]]).length) (by first | (simp; done) | (simp; omega)) (cs' := strs (ms ++ [xs[k]])) (by simp [strs])) ?_
        rintro _ _ w122 ⟨A121, c121, rfl, rfl⟩ S122 a122 F122
        refine op_q F122 (.slice A121 ((ms ++ [xs[k]]).length) c121) ?_; intro a123 F123
        refine wpList_nil ?_
        refine hK79 _ _ ?_; clear hK79 K79
        refine wp_region_lit ?_
        refine op_rq (v := .int .i64 (↑(k + 1))) F123 (r_add (z := ↑(k + 1)) rfl (F123.e (.int .i64 (↑k))) (F123.e (.int .i64 1)) (wr64 (by omega) (by omega) (by omega))) ?_; intro a124 F124
        refine op_q F124 (.int .i64 (↑(k + 1))) ?_; intro a125 F125
        refine wpList_nil ?_
        have S126 : Sp R w122 (SA.dq (some ⟨gd, 0, none⟩) xs[k] :: SA.own (.slice A121 ((ms ++ [xs[k]]).length) c121) 9 1 ((ms ++ [xs[k]]).length) (strs (ms ++ [xs[k]])) :: SA.blk g118 9 #[.string xs[k]] :: SA.blk g93 272 #[] :: SA.zips SA.dq (mu.take k) (xs.take k) :: SA.zips SA.dq (mu.drop (k + 1)) (xs.drop (k + 1)) :: SA.blk gm 237 #[.string ((rtM xs A c).fName), .string ((rtM xs A c).fHome), .slice M1 ((rtM xs A c).fSources.length) m1, .string ((rtM xs A c).fVersion), .string ((rtM xs A c).fDescription), .slice M2 ((rtM xs A c).fKeywords.length) m2, .slice M3 mq.length m3, .string ((rtM xs A c).fIcon), .string ((rtM xs A c).fAPIVersion), .string ((rtM xs A c).fCondition), .string ((rtM xs A c).fTags), .string ((rtM xs A c).fAppVersion), .bool false, .map none, .string ((rtM xs A c).fKubeVersion), .slice M4 mu.length m4, .string ((rtM xs A c).fType)] :: SA.own0 (.slice M1 (rtM xs A c).fSources.length m1) 9 1 ((rtM xs A c).fSources.length) (strs (rtM xs A c).fSources) :: SA.own0 (.slice M2 (rtM xs A c).fKeywords.length m2) 9 1 ((rtM xs A c).fKeywords.length) (strs (rtM xs A c).fKeywords) :: SA.own (.slice M3 mq.length m3) 238 1 mq.length (pps mq) :: SA.zips SA.per mq (rtM xs A c).fMaintainers :: SA.own (.slice M4 mu.length m4) 240 1 mu.length (pps mu) :: SA.blk gc 245 #[.slice none 0 0, .pointer (some ⟨gm, 0, none⟩), .slice none 0 0, .map none, .slice none 0 0, .slice none 0 0, .pointer none, .slice D qs.length dc] :: SA.own (.slice D qs.length dc) 125 1 qs.length (pps qs) :: SA.zips SA.lf qs ys :: SA.mpo Try.prog 9 g9 n f :: L) := Sp.dq_mk S122.p4.p4
        have S127 : Sp R w122 (SA.zips SA.dq mu xs :: SA.own (.slice A121 ((ms ++ [xs[k]]).length) c121) 9 1 ((ms ++ [xs[k]]).length) (strs (ms ++ [xs[k]])) :: SA.blk g118 9 #[.string xs[k]] :: SA.blk g93 272 #[] :: SA.blk gm 237 #[.string ((rtM xs A c).fName), .string ((rtM xs A c).fHome), .slice M1 ((rtM xs A c).fSources.length) m1, .string ((rtM xs A c).fVersion), .string ((rtM xs A c).fDescription), .slice M2 ((rtM xs A c).fKeywords.length) m2, .slice M3 mq.length m3, .string ((rtM xs A c).fIcon), .string ((rtM xs A c).fAPIVersion), .string ((rtM xs A c).fCondition), .string ((rtM xs A c).fTags), .string ((rtM xs A c).fAppVersion), .bool false, .map none, .string ((rtM xs A c).fKubeVersion), .slice M4 mu.length m4, .string ((rtM xs A c).fType)] :: SA.own0 (.slice M1 (rtM xs A c).fSources.length m1) 9 1 ((rtM xs A c).fSources.length) (strs (rtM xs A c).fSources) :: SA.own0 (.slice M2 (rtM xs A c).fKeywords.length m2) 9 1 ((rtM xs A c).fKeywords.length) (strs (rtM xs A c).fKeywords) :: SA.own (.slice M3 mq.length m3) 238 1 mq.length (pps mq) :: SA.zips SA.per mq (rtM xs A c).fMaintainers :: SA.own (.slice M4 mu.length m4) 240 1 mu.length (pps mu) :: SA.blk gc 245 #[.slice none 0 0, .pointer (some ⟨gm, 0, none⟩), .slice none 0 0, .map none, .slice none 0 0, .slice none 0 0, .pointer none, .slice D qs.length dc] :: SA.own (.slice D qs.length dc) 125 1 qs.length (pps qs) :: SA.zips SA.lf qs ys :: SA.mpo Try.prog 9 g9 n f :: L) := Sp.zclose (k := k) hlt_k2 hv_k (by rw [← hqk]; exact S126.p5.p5.p2)
        exact hK69 _ _ _ (by first | omega | (simp; omega)) ⟨A121, c121, (ms ++ [xs[k]]), k + 1, rfl, (F125.kk 2 (F125.kk 3 (F125.kk 4 (F125.kk 36 (F125.kk 37 (F125.kk 38 F125.nil)))))), S127.p2.drop.p2.drop.p1.p11.p11.p11.p11.p11.p11.p11.p11.p11.p11.p11, (by first | omega | (with_reducible assumption) | (simp; done)), (by rw [only_take hlt_k2, ← hms, hc101]; rfl)⟩
    · have hc_k : decide ((↑k : Int) < ↑mu.length) = false := by first | (simp; done) | (simp; omega)
      obtain rfl : k = mu.length := by omega
      rw [hul, List.take_length] at hms
      have hmy : ms.length ≤ xs.length := by rw [hms]; exact only_len
      have hmz : ∀ x ∈ ms, x.size ≤ 10 := by rw [hms]; exact only_mem hxz
      have hjs : szSum ms + ms.length * (⟨#[44]⟩ : ByteArray).size ≤ 70368744177664 := by have := szSum_le10 hmz; have e : (⟨#[44]⟩ : ByteArray).size = 1 := rfl; rw [e]; omega
      have hjz2 := joinF_size ⟨#[44]⟩ ms
      refine wp_seq_k fun K128 hK128 => ?_
      refine wp_region_lit ?_
      refine op_q F69 (.bool (decide ((↑mu.length : Int) < ↑mu.length))) ?_; intro a129 F129
      have F130 := F129.sb 39 (by kernel_rfl) hc_k
      refine wpList_nil ?_
      refine hK128 _ _ ?_; clear hK128 K128
      refine wp_seq_k fun K131 hK131 => ?_
      refine wp_cond_false (F130.ev (by kernel_rfl)) ?_
      refine wp_exit ?_
      refine ex_then ?_; clear hK131 K131
      refine ex_then ?_
      refine ex_in ?_
      refine hK58 _ _ ?_; clear hK58 K58
      refine wp_seq_k fun K132 hK132 => ?_
      refine wp_seq_k fun K133 hK133 => ?_
      refine wp_region_lit ?_
      refine op_q F130 (.slice B ms.length b) ?_; intro a134 F134
      refine op_q F134 (.int .i64 (↑ms.length)) ?_; intro a135 F135
      refine op_q F135 (.bool (decide ((0 : Int) < ↑ms.length))) ?_; intro a136 F136
      refine wpList_nil ?_
      refine hK133 _ _ ?_; clear hK133 K133
      rcases btf (decide ((0 : Int) < ↑ms.length)) with hc137 | hc137
      · have hc137p := of_decide_eq_true hc137
        have F138 := F136.sb 63 (by kernel_rfl) hc137
        refine wp_cond_true (F138.ev (by kernel_rfl)) ?_
        refine wp_region_lit ?_
        refine op_q F138 (.slice B ms.length b) ?_; intro a139 F139
        refine op_cq F139 (f := 195) (args := #[.slice B ms.length b, .string ⟨#[44]⟩]) (join_any B b ms ⟨#[44]⟩ _ (own_sl1 (S69.ow 11 rfl) (by first | omega | (simp; omega))) hjs) ?_
        rintro _ w140 ⟨rfl, hb_140⟩
        refine ⟨_, rfl, ?_⟩
        intro a141 F141
        have S140 := S69.below hb_140
        refine op_rq (v := .string ((⟨#[99, 104, 97, 114, 116, 32, 100, 105, 114, 101, 99, 116, 111, 114, 121, 32, 105, 115, 32, 109, 105, 115, 115, 105, 110, 103, 32, 116, 104, 101, 115, 101, 32, 100, 101, 112, 101, 110, 100, 101, 110, 99, 105, 101, 115, 58, 32]⟩ : ByteArray) ++ (joinF ⟨#[44]⟩ ms))) F141 (r_sadd rfl (F141.e (.string ⟨#[99, 104, 97, 114, 116, 32, 100, 105, 114, 101, 99, 116, 111, 114, 121, 32, 105, 115, 32, 109, 105, 115, 115, 105, 110, 103, 32, 116, 104, 101, 115, 101, 32, 100, 101, 112, 101, 110, 100, 101, 110, 99, 105, 101, 115, 58, 32]⟩)) (F141.e (.string (joinF ⟨#[44]⟩ ms))) (by show 47 + (joinF ⟨#[44]⟩ ms).size ≤ 9223372036854775807; have := szSum_le10 hmz; have e : (⟨#[44]⟩ : ByteArray).size = 1 := rfl; rw [e] at hjz2; omega)) ?_; intro a142 F142
        refine op_cq F142 (f := 173) (args := #[.string ((⟨#[99, 104, 97, 114, 116, 32, 100, 105, 114, 101, 99, 116, 111, 114, 121, 32, 105, 115, 32, 109, 105, 115, 115, 105, 110, 103, 32, 116, 104, 101, 115, 101, 32, 100, 101, 112, 101, 110, 100, 101, 110, 99, 105, 101, 115, 58, 32]⟩ : ByteArray) ++ (joinF ⟨#[44]⟩ ms))]) (errNew_sp2 ((⟨#[99, 104, 97, 114, 116, 32, 100, 105, 114, 101, 99, 116, 111, 114, 121, 32, 105, 115, 32, 109, 105, 115, 115, 105, 110, 103, 32, 116, 104, 101, 115, 101, 32, 100, 101, 112, 101, 110, 100, 101, 110, 99, 105, 101, 115, 58, 32]⟩ : ByteArray) ++ (joinF ⟨#[44]⟩ ms)) _ _ _ S140 ) ?_
        rintro _ w143 ⟨ge143, rfl, S143⟩
        refine ⟨_, rfl, ?_⟩
        intro a144 F144
        refine op_q F144 (.iface 279 (.pointer (some ⟨ge143, 0, none⟩))) ?_; intro a145 F145
        refine wpList_nil ?_
        refine hK132 _ _ ?_; clear hK132 K132
        refine wp_seq_k fun K146 hK146 => ?_
        refine wp_region_lit ?_
        refine op_q F145 (.iface 279 (.pointer (some ⟨ge143, 0, none⟩))) ?_; intro a147 F147
        refine op_q F147 (.iface 279 (.pointer (some ⟨ge143, 0, none⟩))) ?_; intro a148 F148
        refine wpList_nil ?_
        refine hK146 _ _ ?_; clear hK146 K146
        refine wp_ret ?_
        have htl : toldF ⟨#[99, 104, 97, 114, 116, 32, 100, 105, 114, 101, 99, 116, 111, 114, 121, 32, 105, 115, 32, 109, 105, 115, 115, 105, 110, 103, 32, 116, 104, 101, 115, 101, 32, 100, 101, 112, 101, 110, 100, 101, 110, 99, 105, 101, 115, 58, 32]⟩ (onlyF xs ys) = ((⟨#[99, 104, 97, 114, 116, 32, 100, 105, 114, 101, 99, 116, 111, 114, 121, 32, 105, 115, 32, 109, 105, 115, 115, 105, 110, 103, 32, 116, 104, 101, 115, 101, 32, 100, 101, 112, 101, 110, 100, 101, 110, 99, 105, 101, 115, 58, 32]⟩ : ByteArray) ++ (joinF ⟨#[44]⟩ ms)) := by rw [← hms]; exact told_pos (by have := of_decide_eq_true hc137; omega)
        have S149 : Sp R w143 (SA.er true ge143 (toldF ⟨#[99, 104, 97, 114, 116, 32, 100, 105, 114, 101, 99, 116, 111, 114, 121, 32, 105, 115, 32, 109, 105, 115, 115, 105, 110, 103, 32, 116, 104, 101, 115, 101, 32, 100, 101, 112, 101, 110, 100, 101, 110, 99, 105, 101, 115, 58, 32]⟩ (onlyF xs ys)) :: SA.zips SA.dq mu xs :: SA.blk gm 237 #[.string ((rtM xs A c).fName), .string ((rtM xs A c).fHome), .slice M1 ((rtM xs A c).fSources.length) m1, .string ((rtM xs A c).fVersion), .string ((rtM xs A c).fDescription), .slice M2 ((rtM xs A c).fKeywords.length) m2, .slice M3 mq.length m3, .string ((rtM xs A c).fIcon), .string ((rtM xs A c).fAPIVersion), .string ((rtM xs A c).fCondition), .string ((rtM xs A c).fTags), .string ((rtM xs A c).fAppVersion), .bool false, .map none, .string ((rtM xs A c).fKubeVersion), .slice M4 mu.length m4, .string ((rtM xs A c).fType)] :: SA.own0 (.slice M1 (rtM xs A c).fSources.length m1) 9 1 ((rtM xs A c).fSources.length) (strs (rtM xs A c).fSources) :: SA.own0 (.slice M2 (rtM xs A c).fKeywords.length m2) 9 1 ((rtM xs A c).fKeywords.length) (strs (rtM xs A c).fKeywords) :: SA.own (.slice M3 mq.length m3) 238 1 mq.length (pps mq) :: SA.zips SA.per mq (rtM xs A c).fMaintainers :: SA.own (.slice M4 mu.length m4) 240 1 mu.length (pps mu) :: SA.blk gc 245 #[.slice none 0 0, .pointer (some ⟨gm, 0, none⟩), .slice none 0 0, .map none, .slice none 0 0, .slice none 0 0, .pointer none, .slice D qs.length dc] :: SA.own (.slice D qs.length dc) 125 1 qs.length (pps qs) :: SA.zips SA.lf qs ys :: SA.mpo Try.prog 9 g9 n f :: SA.own (.slice B ms.length b) 9 1 ms.length (strs ms) :: L) := by rw [htl]; exact Sp.er_t S143
        have S150 : Sp R w143 (SA.zips SA.dep mu (rtM xs A c).fDependencies :: SA.er true ge143 (toldF ⟨#[99, 104, 97, 114, 116, 32, 100, 105, 114, 101, 99, 116, 111, 114, 121, 32, 105, 115, 32, 109, 105, 115, 115, 105, 110, 103, 32, 116, 104, 101, 115, 101, 32, 100, 101, 112, 101, 110, 100, 101, 110, 99, 105, 101, 115, 58, 32]⟩ (onlyF xs ys)) :: SA.blk gm 237 #[.string ((rtM xs A c).fName), .string ((rtM xs A c).fHome), .slice M1 ((rtM xs A c).fSources.length) m1, .string ((rtM xs A c).fVersion), .string ((rtM xs A c).fDescription), .slice M2 ((rtM xs A c).fKeywords.length) m2, .slice M3 mq.length m3, .string ((rtM xs A c).fIcon), .string ((rtM xs A c).fAPIVersion), .string ((rtM xs A c).fCondition), .string ((rtM xs A c).fTags), .string ((rtM xs A c).fAppVersion), .bool false, .map none, .string ((rtM xs A c).fKubeVersion), .slice M4 mu.length m4, .string ((rtM xs A c).fType)] :: SA.own0 (.slice M1 (rtM xs A c).fSources.length m1) 9 1 ((rtM xs A c).fSources.length) (strs (rtM xs A c).fSources) :: SA.own0 (.slice M2 (rtM xs A c).fKeywords.length m2) 9 1 ((rtM xs A c).fKeywords.length) (strs (rtM xs A c).fKeywords) :: SA.own (.slice M3 mq.length m3) 238 1 mq.length (pps mq) :: SA.zips SA.per mq (rtM xs A c).fMaintainers :: SA.own (.slice M4 mu.length m4) 240 1 mu.length (pps mu) :: SA.blk gc 245 #[.slice none 0 0, .pointer (some ⟨gm, 0, none⟩), .slice none 0 0, .map none, .slice none 0 0, .slice none 0 0, .pointer none, .slice D qs.length dc] :: SA.own (.slice D qs.length dc) 125 1 qs.length (pps qs) :: SA.zips SA.lf qs ys :: SA.mpo Try.prog 9 g9 n f :: SA.own (.slice B ms.length b) 9 1 ms.length (strs ms) :: L) := Sp.dq_zb S149.p1
        have S151 : Sp R w143 (SA.met gm (rtM xs A c) :: SA.er true ge143 (toldF ⟨#[99, 104, 97, 114, 116, 32, 100, 105, 114, 101, 99, 116, 111, 114, 121, 32, 105, 115, 32, 109, 105, 115, 115, 105, 110, 103, 32, 116, 104, 101, 115, 101, 32, 100, 101, 112, 101, 110, 100, 101, 110, 99, 105, 101, 115, 58, 32]⟩ (onlyF xs ys)) :: SA.blk gc 245 #[.slice none 0 0, .pointer (some ⟨gm, 0, none⟩), .slice none 0 0, .map none, .slice none 0 0, .slice none 0 0, .pointer none, .slice D qs.length dc] :: SA.own (.slice D qs.length dc) 125 1 qs.length (pps qs) :: SA.zips SA.lf qs ys :: SA.mpo Try.prog 9 g9 n f :: SA.own (.slice B ms.length b) 9 1 ms.length (strs ms) :: L) := Sp.met_mk S150.p7.p7.p7.p7.p7.p7
        have S152 : Sp R w143 (SA.rt gc xs ys :: SA.er true ge143 (toldF ⟨#[99, 104, 97, 114, 116, 32, 100, 105, 114, 101, 99, 116, 111, 114, 121, 32, 105, 115, 32, 109, 105, 115, 115, 105, 110, 103, 32, 116, 104, 101, 115, 101, 32, 100, 101, 112, 101, 110, 100, 101, 110, 99, 105, 101, 115, 58, 32]⟩ (onlyF xs ys)) :: SA.mpo Try.prog 9 g9 n f :: SA.own (.slice B ms.length b) 9 1 ms.length (strs ms) :: L) := Sp.rt_mk S151.p4.p4.p4
        refine (F148.res1 rfl (v := .iface 279 (.pointer (some ⟨ge143, 0, none⟩))) (by kernel_rfl) ?_).1
        exact ⟨true, ge143, rfl, S152.p2.drop.p2.drop.p1, (by rw [← hms]; cases hm : ms with | nil => rw [hm] at hc137; cases hc137 | cons x l => rfl)⟩
      · have hc137p := of_decide_eq_false hc137
        have F153 := F136.sb 63 (by kernel_rfl) hc137
        refine wp_cond_false (F153.ev (by kernel_rfl)) ?_
        refine wp_skip ?_
        refine hK132 _ _ ?_; clear hK132 K132
        refine wp_seq_k fun K154 hK154 => ?_
        refine wp_region_lit ?_
        refine op_q F153 (.nilIface) ?_; intro a155 F155
        refine op_q F155 (.nilIface) ?_; intro a156 F156
        refine wpList_nil ?_
        refine hK154 _ _ ?_; clear hK154 K154
        refine wp_ret ?_
        have S157 : Sp R w69 (SA.er false 0 (toldF ⟨#[99, 104, 97, 114, 116, 32, 100, 105, 114, 101, 99, 116, 111, 114, 121, 32, 105, 115, 32, 109, 105, 115, 115, 105, 110, 103, 32, 116, 104, 101, 115, 101, 32, 100, 101, 112, 101, 110, 100, 101, 110, 99, 105, 101, 115, 58, 32]⟩ (onlyF xs ys)) :: SA.zips SA.dq mu xs :: SA.blk gm 237 #[.string ((rtM xs A c).fName), .string ((rtM xs A c).fHome), .slice M1 ((rtM xs A c).fSources.length) m1, .string ((rtM xs A c).fVersion), .string ((rtM xs A c).fDescription), .slice M2 ((rtM xs A c).fKeywords.length) m2, .slice M3 mq.length m3, .string ((rtM xs A c).fIcon), .string ((rtM xs A c).fAPIVersion), .string ((rtM xs A c).fCondition), .string ((rtM xs A c).fTags), .string ((rtM xs A c).fAppVersion), .bool false, .map none, .string ((rtM xs A c).fKubeVersion), .slice M4 mu.length m4, .string ((rtM xs A c).fType)] :: SA.own0 (.slice M1 (rtM xs A c).fSources.length m1) 9 1 ((rtM xs A c).fSources.length) (strs (rtM xs A c).fSources) :: SA.own0 (.slice M2 (rtM xs A c).fKeywords.length m2) 9 1 ((rtM xs A c).fKeywords.length) (strs (rtM xs A c).fKeywords) :: SA.own (.slice M3 mq.length m3) 238 1 mq.length (pps mq) :: SA.zips SA.per mq (rtM xs A c).fMaintainers :: SA.own (.slice M4 mu.length m4) 240 1 mu.length (pps mu) :: SA.blk gc 245 #[.slice none 0 0, .pointer (some ⟨gm, 0, none⟩), .slice none 0 0, .map none, .slice none 0 0, .slice none 0 0, .pointer none, .slice D qs.length dc] :: SA.own (.slice D qs.length dc) 125 1 qs.length (pps qs) :: SA.zips SA.lf qs ys :: SA.mpo Try.prog 9 g9 n f :: SA.own (.slice B ms.length b) 9 1 ms.length (strs ms) :: L) := Sp.er_f S69
        have S158 : Sp R w69 (SA.zips SA.dep mu (rtM xs A c).fDependencies :: SA.er false 0 (toldF ⟨#[99, 104, 97, 114, 116, 32, 100, 105, 114, 101, 99, 116, 111, 114, 121, 32, 105, 115, 32, 109, 105, 115, 115, 105, 110, 103, 32, 116, 104, 101, 115, 101, 32, 100, 101, 112, 101, 110, 100, 101, 110, 99, 105, 101, 115, 58, 32]⟩ (onlyF xs ys)) :: SA.blk gm 237 #[.string ((rtM xs A c).fName), .string ((rtM xs A c).fHome), .slice M1 ((rtM xs A c).fSources.length) m1, .string ((rtM xs A c).fVersion), .string ((rtM xs A c).fDescription), .slice M2 ((rtM xs A c).fKeywords.length) m2, .slice M3 mq.length m3, .string ((rtM xs A c).fIcon), .string ((rtM xs A c).fAPIVersion), .string ((rtM xs A c).fCondition), .string ((rtM xs A c).fTags), .string ((rtM xs A c).fAppVersion), .bool false, .map none, .string ((rtM xs A c).fKubeVersion), .slice M4 mu.length m4, .string ((rtM xs A c).fType)] :: SA.own0 (.slice M1 (rtM xs A c).fSources.length m1) 9 1 ((rtM xs A c).fSources.length) (strs (rtM xs A c).fSources) :: SA.own0 (.slice M2 (rtM xs A c).fKeywords.length m2) 9 1 ((rtM xs A c).fKeywords.length) (strs (rtM xs A c).fKeywords) :: SA.own (.slice M3 mq.length m3) 238 1 mq.length (pps mq) :: SA.zips SA.per mq (rtM xs A c).fMaintainers :: SA.own (.slice M4 mu.length m4) 240 1 mu.length (pps mu) :: SA.blk gc 245 #[.slice none 0 0, .pointer (some ⟨gm, 0, none⟩), .slice none 0 0, .map none, .slice none 0 0, .slice none 0 0, .pointer none, .slice D qs.length dc] :: SA.own (.slice D qs.length dc) 125 1 qs.length (pps qs) :: SA.zips SA.lf qs ys :: SA.mpo Try.prog 9 g9 n f :: SA.own (.slice B ms.length b) 9 1 ms.length (strs ms) :: L) := Sp.dq_zb S157.p1
        have S159 : Sp R w69 (SA.met gm (rtM xs A c) :: SA.er false 0 (toldF ⟨#[99, 104, 97, 114, 116, 32, 100, 105, 114, 101, 99, 116, 111, 114, 121, 32, 105, 115, 32, 109, 105, 115, 115, 105, 110, 103, 32, 116, 104, 101, 115, 101, 32, 100, 101, 112, 101, 110, 100, 101, 110, 99, 105, 101, 115, 58, 32]⟩ (onlyF xs ys)) :: SA.blk gc 245 #[.slice none 0 0, .pointer (some ⟨gm, 0, none⟩), .slice none 0 0, .map none, .slice none 0 0, .slice none 0 0, .pointer none, .slice D qs.length dc] :: SA.own (.slice D qs.length dc) 125 1 qs.length (pps qs) :: SA.zips SA.lf qs ys :: SA.mpo Try.prog 9 g9 n f :: SA.own (.slice B ms.length b) 9 1 ms.length (strs ms) :: L) := Sp.met_mk S158.p7.p7.p7.p7.p7.p7
        have S160 : Sp R w69 (SA.rt gc xs ys :: SA.er false 0 (toldF ⟨#[99, 104, 97, 114, 116, 32, 100, 105, 114, 101, 99, 116, 111, 114, 121, 32, 105, 115, 32, 109, 105, 115, 115, 105, 110, 103, 32, 116, 104, 101, 115, 101, 32, 100, 101, 112, 101, 110, 100, 101, 110, 99, 105, 101, 115, 58, 32]⟩ (onlyF xs ys)) :: SA.mpo Try.prog 9 g9 n f :: SA.own (.slice B ms.length b) 9 1 ms.length (strs ms) :: L) := Sp.rt_mk S159.p4.p4.p4
        refine (F156.res1 rfl (v := .nilIface) (by kernel_rfl) ?_).1
        exact ⟨false, 0, rfl, S160.p2.drop.p2.drop.p1, (by rw [← hms]; cases hm : ms with | nil => rw [hm] at hc137; rfl | cons x l => rw [hm] at hc137; have := of_decide_eq_false hc137; first | (simp at this; done) | (simp at this; omega))⟩
end Go.Proofs.Ytkjcedlgljeoiaa

/- Loops of few rounds, walked one by one. -/
namespace Go.Proofs.Ytkjcedlgljeoiaa
open Go.RowKit Go.Lib

theorem fw_rounds {P : Program} {Q : Exit → Act → World → Prop} {a : Act} {w : World} {c : Code} (n : Nat) (h : Code.rounds P c Q n a w) : (Code.loop c).wp P Q a w := wp_loop_rounds n h
theorem fw_round1 {P : Program} {Q : Exit → Act → World → Prop} {a : Act} {w : World} {c : Code} {n : Nat} (h : ∀ K : Act → World → Prop, (∀ a w, Code.rounds P c Q n a w → K a w) → c.wp P (Exit.then K Q) a w) : Code.rounds P c Q (n + 1) a w := h _ fun _ _ h => h
end Go.Proofs.Ytkjcedlgljeoiaa

/- rules.ZzDependencies, impl.LintDependencies. -/
namespace Go.Proofs.Ytkjcedlgljeoiaa
open Go.RowKit Go.Lib
set_option linter.unusedVariables false
set_option linter.unusedSimpArgs false
theorem told_no {pre : ByteArray} {l : List ByteArray} (h : false = !l.isEmpty) : toldF pre l = ⟨#[]⟩ := by cases l with | nil => rfl | cons x l => cases h
set_option maxRecDepth 100000 in
set_option maxHeartbeats 20000000 in
theorem zzDeps_sp (gc : Nat) (xs : List ByteArray) (ys : List ByteArray) (R : Ctx) (L : List SA) (w : World) (S : Sp R w (SA.rt gc xs ys :: L))  (hx : xs.length ≤ 8) (hy : ys.length ≤ 8) (hxz : ∀ x ∈ xs, x.size ≤ 10) (hyz : ∀ x ∈ ys, x.size ≤ 10) :
    Calls Try.prog 97 #[.pointer (some ⟨gc, 0, none⟩)] w fun e w' => ∃ g : Nat, ∃ b1 : Bool, ∃ g1 : Nat, ∃ b2 : Bool, ∃ g2 : Nat, ∃ b3 : Bool, ∃ g3 : Nat, e = .returned (.slice (some ⟨g, 0, none⟩) 3 3) ∧ Sp R w' (SA.blk g 140 #[errV b1 g1, errV b2 g2, errV b3 g3] :: SA.er b1 g1 (toldF ⟨#[99, 104, 97, 114, 116, 32, 109, 101, 116, 97, 100, 97, 116, 97, 32, 105, 115, 32, 109, 105, 115, 115, 105, 110, 103, 32, 116, 104, 101, 115, 101, 32, 100, 101, 112, 101, 110, 100, 101, 110, 99, 105, 101, 115, 58, 32]⟩ (onlyF ys xs)) :: SA.er b2 g2 (toldF ⟨#[109, 117, 108, 116, 105, 112, 108, 101, 32, 100, 101, 112, 101, 110, 100, 101, 110, 99, 105, 101, 115, 32, 119, 105, 116, 104, 32, 110, 97, 109, 101, 32, 111, 114, 32, 97, 108, 105, 97, 115, 58, 32]⟩ (dupF [] xs)) :: SA.er b3 g3 (toldF ⟨#[99, 104, 97, 114, 116, 32, 100, 105, 114, 101, 99, 116, 111, 114, 121, 32, 105, 115, 32, 109, 105, 115, 115, 105, 110, 103, 32, 116, 104, 101, 115, 101, 32, 100, 101, 112, 101, 110, 100, 101, 110, 99, 105, 101, 115, 58, 32]⟩ (onlyF xs ys)) :: SA.rt gc xs ys :: L) ∧ (b1 = !(onlyF ys xs).isEmpty) ∧ (b2 = !(dupF [] xs).isEmpty) ∧ (b3 = !(onlyF xs ys).isEmpty) := by
  refine fw_enter (fn := Try.f97) rfl rfl 10 rfl (Nat.le_of_ble_eq_true rfl) ?_
  intro a0 F0
  refine wp_seq_k fun K1 hK1 => ?_
  refine wp_region_lit ?_
  refine op_q F0 (.slice none 0 0) ?_; intro a2 F2
  refine wpList_nil ?_
  refine hK1 _ _ ?_; clear hK1 K1
  refine wp_seq_k fun K3 hK3 => ?_
  refine wp_region_lit ?_
  refine op_q F2 (.pointer (some ⟨gc, 0, none⟩)) ?_; intro a4 F4
  refine op_cq F4 (f := 162) (args := #[.pointer (some ⟨gc, 0, none⟩)]) (inMeta_sp gc xs ys _ _ _ S (by first | omega | (simp; done) | (simp; omega)) (by first | omega | (simp; done) | (simp; omega)) (by first | omega | (simp; done) | (simp; omega)) (by first | omega | (simp; done) | (simp; omega))) ?_
  rintro _ w5 ⟨b5, g5, rfl, S5, hp0_5⟩
  refine ⟨_, rfl, ?_⟩
  intro a6 F6
  refine op_q F6 (.pointer (some ⟨gc, 0, none⟩)) ?_; intro a7 F7
  refine op_cq F7 (f := 163) (args := #[.pointer (some ⟨gc, 0, none⟩)]) (unique_sp gc xs ys _ _ _ S5.p1 (by first | omega | (simp; done) | (simp; omega)) (by first | omega | (simp; done) | (simp; omega)) (by first | omega | (simp; done) | (simp; omega)) (by first | omega | (simp; done) | (simp; omega))) ?_
  rintro _ w8 ⟨b8, g8, rfl, S8, hp0_8⟩
  refine ⟨_, rfl, ?_⟩
  intro a9 F9
  refine op_q F9 (.pointer (some ⟨gc, 0, none⟩)) ?_; intro a10 F10
  refine op_cq F10 (f := 164) (args := #[.pointer (some ⟨gc, 0, none⟩)]) (inDir_sp gc xs ys _ _ _ S8.p1 (by first | omega | (simp; done) | (simp; omega)) (by first | omega | (simp; done) | (simp; omega)) (by first | omega | (simp; done) | (simp; omega)) (by first | omega | (simp; done) | (simp; omega))) ?_
  rintro _ w11 ⟨b11, g11, rfl, S11, hp0_11⟩
  refine ⟨_, rfl, ?_⟩
  intro a12 F12
  refine op_sq F12 (s_news F12 140 #[errV b5 g5, errV b8 g8, errV b11 g11] 3 (by cases b5 <;> cases b8 <;> cases b11 <;> kernel_rfl) (by kernel_rfl) (by kernel_rfl) S11) ?_
  rintro _ _ w14 ⟨g13, rfl, rfl⟩ S14 a14 F14
  refine op_q F14 (.slice (some ⟨g13, 0, none⟩) 3 3) ?_; intro a15 F15
  refine wpList_nil ?_
  refine hK3 _ _ ?_; clear hK3 K3
  refine wp_ret ?_
  refine (F15.res1 rfl (v := .slice (some ⟨g13, 0, none⟩) 3 3) (by kernel_rfl) ?_).1
  exact ⟨g13, b5, g5, b8, g8, b11, g11, rfl, S14.p2.p2.p3.p4.p4, (by first | (with_reducible assumption) | omega), (by first | (with_reducible assumption) | omega), (by first | (with_reducible assumption) | omega)⟩
set_option maxRecDepth 100000 in
set_option maxHeartbeats 20000000 in
theorem errText_sp (g : Nat) (s : ByteArray) (R : Ctx) (L : List SA) (w : World) (S : Sp R w (L)) (h0 : Rf R L fun w => Blk w (g) 281 #[.string (s)])  :
    Calls Try.prog 225 #[.pointer (some ⟨g, 0, none⟩)] w fun e w' => e = .returned (.string s) ∧ Sp R w' (L) := by
  refine fw_enter (fn := Try.f225) rfl rfl 7 rfl (Nat.le_of_ble_eq_true rfl) ?_
  intro a0 F0
  refine wp_seq_k fun K1 hK1 => ?_
  refine wp_region_lit ?_
  refine op_q F0 (.string ⟨#[]⟩) ?_; intro a2 F2
  refine wpList_nil ?_
  refine hK1 _ _ ?_; clear hK1 K1
  refine wp_seq_k fun K3 hK3 => ?_
  refine wp_region_lit ?_
  refine op_q F2 (.pointer (some ⟨g, 0, none⟩)) ?_; intro a4 F4
  refine op_q F4 (.pointer (some ⟨g, 0, none⟩)) ?_; intro a5 F5
  refine op_q F5 (.pointer (some ⟨g, 0, none⟩)) ?_; intro a6 F6
  refine op_rq (v := .string s) F6 (r_ld rfl (F6.e (.pointer (some ⟨g, 0, none⟩))) (v := .string s) ((h0 _ S).cell 0) Try.underlying9 rfl) ?_; intro a7 F7
  refine op_q F7 (.string s) ?_; intro a8 F8
  refine wpList_nil ?_
  refine hK3 _ _ ?_; clear hK3 K3
  refine wp_ret ?_
  refine (F8.res1 rfl (v := .string s) (by kernel_rfl) ?_).1
  exact ⟨rfl, S⟩
theorem catch96 (x0 x1 : Nat) (w : World) :
    CallsD Try.prog 96 #[.pointer (some ⟨x0, 0, none⟩), .pointer (some ⟨x1, 0, none⟩)] .returning w fun e u' w' => e = .returned (.tuple #[]) ∧ u' = .returning ∧ w' = w := by
  refine callsD_of_wpS Try.func96 rfl fun c₀ cs hu => ?_
  apply wpS_seq
  apply wpS_region
  simp [wpOpsS, go_sem, recoverD, hu, Try.ntmps96, Exit.thenS]
  refine wpS_cond (t := false) (by simp [Act.eval, Array.replicate]) ?_
  simp only [Bool.false_eq_true, if_false]
  refine wpS_of_wp (wp_skip ?_)
  cases c₀
  simp_all [bodyPostS, results, Try.results96]
set_option maxRecDepth 100000 in
set_option maxHeartbeats 20000000 in
theorem lintDeps_sp (xs : List ByteArray) (A : Option Addr) (c : Nat) (ys : List ByteArray) (B : Option Addr) (d : Nat) (R : Ctx) (L : List SA) (w : World) (S : Sp R w (L)) (h0 : Rf R L fun w => Rows w (A) 7 ((xs.map dpd).map Ty80.cells)) (h1 : Rf R L fun w => Rows w (B) 18 (ys.map leafC)) (hx : xs.length ≤ 8) (hy : ys.length ≤ 8) (hxz : ∀ x ∈ xs, x.size ≤ 10) (hyz : ∀ x ∈ ys, x.size ≤ 10) :
    Calls Try.prog 43 #[.agg #[.bool false, .string ((rtM xs A c).fName), .string ((rtM xs A c).fHome), .string ((rtM xs A c).fVersion), .string ((rtM xs A c).fDescription), .string ((rtM xs A c).fIcon), .string ((rtM xs A c).fAPIVersion), .string ((rtM xs A c).fCondition), .string ((rtM xs A c).fTags), .string ((rtM xs A c).fAppVersion), .string ((rtM xs A c).fKubeVersion), .string ((rtM xs A c).fType), .slice ((rtM xs A c).fSources_a) ((rtM xs A c).fSources.length) ((rtM xs A c).fSources_c), .slice ((rtM xs A c).fKeywords_a) ((rtM xs A c).fKeywords.length) ((rtM xs A c).fKeywords_c), .slice ((rtM xs A c).fMaintainers_a) ((rtM xs A c).fMaintainers.length) ((rtM xs A c).fMaintainers_c), .slice ((rtM xs A c).fDependencies_a) ((rtM xs A c).fDependencies.length) ((rtM xs A c).fDependencies_c), .slice none 0 0, .slice (B) (ys.length) (d)]] w fun e w' => ∃ Ab : Option Addr, ∃ cb : Nat, e = .returned (.tuple #[.slice Ab 3 cb, .int .i64 0]) ∧ Sp R w' (SA.own (.slice Ab 3 cb) 9 1 3 (strs [toldF ⟨#[99, 104, 97, 114, 116, 32, 109, 101, 116, 97, 100, 97, 116, 97, 32, 105, 115, 32, 109, 105, 115, 115, 105, 110, 103, 32, 116, 104, 101, 115, 101, 32, 100, 101, 112, 101, 110, 100, 101, 110, 99, 105, 101, 115, 58, 32]⟩ (onlyF ys xs), toldF ⟨#[109, 117, 108, 116, 105, 112, 108, 101, 32, 100, 101, 112, 101, 110, 100, 101, 110, 99, 105, 101, 115, 32, 119, 105, 116, 104, 32, 110, 97, 109, 101, 32, 111, 114, 32, 97, 108, 105, 97, 115, 58, 32]⟩ (dupF [] xs), toldF ⟨#[99, 104, 97, 114, 116, 32, 100, 105, 114, 101, 99, 116, 111, 114, 121, 32, 105, 115, 32, 109, 105, 115, 115, 105, 110, 103, 32, 116, 104, 101, 115, 101, 32, 100, 101, 112, 101, 110, 100, 101, 110, 99, 105, 101, 115, 58, 32]⟩ (onlyF xs ys)]) :: L) := by
  have hl_xs : xs.length ≤ 9223372036854775807 := by have := (h0 _ S).1; simpa [strs, ptrs, pps] using this
  have hl_ys : ys.length ≤ 9223372036854775807 := by have := (h1 _ S).1; simpa [strs, ptrs, pps] using this
  refine fw_enterD (fn := Try.f43) rfl rfl 34 rfl (Nat.le_of_ble_eq_true rfl) ?_
  intro a0 F0
  refine wp_seq_k fun K1 hK1 => ?_
  refine wp_region_lit ?_
  refine op_sq F0 (s_newp F0 30 #[.bool false, .string ((rtM xs A c).fName), .string ((rtM xs A c).fHome), .string ((rtM xs A c).fVersion), .string ((rtM xs A c).fDescription), .string ((rtM xs A c).fIcon), .string ((rtM xs A c).fAPIVersion), .string ((rtM xs A c).fCondition), .string ((rtM xs A c).fTags), .string ((rtM xs A c).fAppVersion), .string ((rtM xs A c).fKubeVersion), .string ((rtM xs A c).fType), .slice ((rtM xs A c).fSources_a) ((rtM xs A c).fSources.length) ((rtM xs A c).fSources_c), .slice ((rtM xs A c).fKeywords_a) ((rtM xs A c).fKeywords.length) ((rtM xs A c).fKeywords_c), .slice ((rtM xs A c).fMaintainers_a) ((rtM xs A c).fMaintainers.length) ((rtM xs A c).fMaintainers_c), .slice ((rtM xs A c).fDependencies_a) ((rtM xs A c).fDependencies.length) ((rtM xs A c).fDependencies_c), .slice none 0 0, .slice (B) (ys.length) (d)] (by kernel_rfl) (by kernel_rfl) (by kernel_rfl) S) ?_
  rintro _ _ w3 ⟨g1, rfl, rfl⟩ S3 a3 F3
  refine op_sq F3 (s_newp F3 22 #[.slice none 0 0] (by kernel_rfl) (by kernel_rfl) (by kernel_rfl) S3) ?_
  rintro _ _ w5 ⟨g3, rfl, rfl⟩ S5 a5 F5
  refine op_sq F5 (s_newp F5 3 #[.int .i64 0] (by kernel_rfl) (by kernel_rfl) (by kernel_rfl) S5) ?_
  rintro _ _ w7 ⟨g5, rfl, rfl⟩ S7 a7 F7
  refine wpList_nil ?_
  refine hK1 _ _ ?_; clear hK1 K1
  refine wp_seq_k fun K8 hK8 => ?_
  refine wp_region_lit ?_
  refine op_q F7 (.func (.func 96) #[] #[.pointer (some ⟨g3, 0, none⟩), .pointer (some ⟨g5, 0, none⟩)]) ?_; intro a9 F9
  refine op_defer F9 ({ target := .fn (.func 96) #[.pointer (some ⟨g3, 0, none⟩), .pointer (some ⟨g5, 0, none⟩)], args := #[] }) (by kernel_rfl) (by kernel_rfl) rfl rfl rfl ?_; intro a10 F10
  refine wpList_nil ?_
  refine hK8 _ _ ?_; clear hK8 K8
  refine wp_seq_k fun K11 hK11 => ?_
  refine wp_region_lit ?_
  refine op_rq (v := .agg #[.bool false, .string ((rtM xs A c).fName), .string ((rtM xs A c).fHome), .string ((rtM xs A c).fVersion), .string ((rtM xs A c).fDescription), .string ((rtM xs A c).fIcon), .string ((rtM xs A c).fAPIVersion), .string ((rtM xs A c).fCondition), .string ((rtM xs A c).fTags), .string ((rtM xs A c).fAppVersion), .string ((rtM xs A c).fKubeVersion), .string ((rtM xs A c).fType), .slice ((rtM xs A c).fSources_a) ((rtM xs A c).fSources.length) ((rtM xs A c).fSources_c), .slice ((rtM xs A c).fKeywords_a) ((rtM xs A c).fKeywords.length) ((rtM xs A c).fKeywords_c), .slice ((rtM xs A c).fMaintainers_a) ((rtM xs A c).fMaintainers.length) ((rtM xs A c).fMaintainers_c), .slice ((rtM xs A c).fDependencies_a) ((rtM xs A c).fDependencies.length) ((rtM xs A c).fDependencies_c), .slice none 0 0, .slice (B) (ys.length) (d)]) F10 (r_ldm rfl (F10.e (.pointer (some ⟨g1, 0, none⟩))) (S7.bk 2 rfl) 18 (by kernel_rfl) Try.underlying30 rfl (by kernel_rfl) (v := #[.bool false, .string ((rtM xs A c).fName), .string ((rtM xs A c).fHome), .string ((rtM xs A c).fVersion), .string ((rtM xs A c).fDescription), .string ((rtM xs A c).fIcon), .string ((rtM xs A c).fAPIVersion), .string ((rtM xs A c).fCondition), .string ((rtM xs A c).fTags), .string ((rtM xs A c).fAppVersion), .string ((rtM xs A c).fKubeVersion), .string ((rtM xs A c).fType), .slice ((rtM xs A c).fSources_a) ((rtM xs A c).fSources.length) ((rtM xs A c).fSources_c), .slice ((rtM xs A c).fKeywords_a) ((rtM xs A c).fKeywords.length) ((rtM xs A c).fKeywords_c), .slice ((rtM xs A c).fMaintainers_a) ((rtM xs A c).fMaintainers.length) ((rtM xs A c).fMaintainers_c), .slice ((rtM xs A c).fDependencies_a) ((rtM xs A c).fDependencies.length) ((rtM xs A c).fDependencies_c), .slice none 0 0, .slice (B) (ys.length) (d)]) (by kernel_rfl)) ?_; intro a12 F12
  refine op_cq F12 (f := 65) (args := #[.agg #[.bool false, .string ((rtM xs A c).fName), .string ((rtM xs A c).fHome), .string ((rtM xs A c).fVersion), .string ((rtM xs A c).fDescription), .string ((rtM xs A c).fIcon), .string ((rtM xs A c).fAPIVersion), .string ((rtM xs A c).fCondition), .string ((rtM xs A c).fTags), .string ((rtM xs A c).fAppVersion), .string ((rtM xs A c).fKubeVersion), .string ((rtM xs A c).fType), .slice ((rtM xs A c).fSources_a) ((rtM xs A c).fSources.length) ((rtM xs A c).fSources_c), .slice ((rtM xs A c).fKeywords_a) ((rtM xs A c).fKeywords.length) ((rtM xs A c).fKeywords_c), .slice ((rtM xs A c).fMaintainers_a) ((rtM xs A c).fMaintainers.length) ((rtM xs A c).fMaintainers_c), .slice ((rtM xs A c).fDependencies_a) ((rtM xs A c).fDependencies.length) ((rtM xs A c).fDependencies_c), .slice none 0 0, .slice (B) (ys.length) (d)]]) (chartOf_sp xs A c ys B d _ _ _ S7 (fun w S => h0 w S.drop.drop.drop) (fun w S => h1 w S.drop.drop.drop) (by first | omega | (simp; done) | (simp; omega)) (by first | omega | (simp; done) | (simp; omega))) ?_
  rintro _ w13 ⟨gc13, gm13, D13, dc13, qs13, rfl, S13⟩
  refine ⟨_, rfl, ?_⟩
  intro a14 F14
  refine op_q F14 (.tuple #[.pointer (some ⟨gc13, 0, none⟩), .bool true]) ?_; intro a15 F15
  refine op_q F15 (.pointer (some ⟨gc13, 0, none⟩)) ?_; intro a16 F16
  refine op_q F16 (.bool true) ?_; intro a17 F17
  refine op_q F17 (.pointer (some ⟨gc13, 0, none⟩)) ?_; intro a18 F18
  refine op_q F18 (.bool true) ?_; intro a19 F19
  refine wpList_nil ?_
  refine hK11 _ _ ?_; clear hK11 K11
  refine wp_seq_k fun K20 hK20 => ?_
  refine wp_seq_k fun K21 hK21 => ?_
  refine wp_region_lit ?_
  refine op_q F19 (.bool true) ?_; intro a22 F22
  refine op_q F22 (.bool false) ?_; intro a23 F23
  refine wpList_nil ?_
  refine hK21 _ _ ?_; clear hK21 K21
  refine wp_cond_false (F23.ev (by kernel_rfl)) ?_
  refine wp_skip ?_
  refine hK20 _ _ ?_; clear hK20 K20
  refine wp_seq_k fun K24 hK24 => ?_
  refine wp_seq_k fun K25 hK25 => ?_
  refine wp_region_lit ?_
  refine op_q F23 (.pointer (some ⟨gc13, 0, none⟩)) ?_; intro a26 F26
  have S27 : Sp R w13 (SA.rt gc13 xs ys :: SA.blk g5 3 #[.int .i64 0] :: SA.blk g3 22 #[.slice none 0 0] :: SA.blk g1 30 #[.bool false, .string ((rtM xs A c).fName), .string ((rtM xs A c).fHome), .string ((rtM xs A c).fVersion), .string ((rtM xs A c).fDescription), .string ((rtM xs A c).fIcon), .string ((rtM xs A c).fAPIVersion), .string ((rtM xs A c).fCondition), .string ((rtM xs A c).fTags), .string ((rtM xs A c).fAppVersion), .string ((rtM xs A c).fKubeVersion), .string ((rtM xs A c).fType), .slice ((rtM xs A c).fSources_a) ((rtM xs A c).fSources.length) ((rtM xs A c).fSources_c), .slice ((rtM xs A c).fKeywords_a) ((rtM xs A c).fKeywords.length) ((rtM xs A c).fKeywords_c), .slice ((rtM xs A c).fMaintainers_a) ((rtM xs A c).fMaintainers.length) ((rtM xs A c).fMaintainers_c), .slice ((rtM xs A c).fDependencies_a) ((rtM xs A c).fDependencies.length) ((rtM xs A c).fDependencies_c), .slice none 0 0, .slice (B) (ys.length) (d)] :: L) := Sp.rt_mk S13.p3.p3.p3.p3
  refine op_cq F26 (f := 97) (args := #[.pointer (some ⟨gc13, 0, none⟩)]) (zzDeps_sp gc13 xs ys _ _ _ S27 (by first | omega | (simp; done) | (simp; omega)) (by first | omega | (simp; done) | (simp; omega)) (by first | omega | (simp; done) | (simp; omega)) (by first | omega | (simp; done) | (simp; omega))) ?_
  rintro _ w28 ⟨g28, b128, g128, b228, g228, b328, g328, rfl, S28, hp0_28, hp1_28, hp2_28⟩
  refine ⟨_, rfl, ?_⟩
  intro a29 F29
  refine op_q F29 (.int .i64 3) ?_; intro a30 F30
  refine op_q F30 (.int .i64 0) ?_; intro a31 F31
  refine wpList_nil ?_
  refine hK25 _ _ ?_; clear hK25 K25
  refine wp_block ?_
  refine fw_rounds 4 ?_
  refine fw_round1 fun K32 hK32 => ?_
  refine wp_seq_k fun K33 hK33 => ?_
  refine wp_region_lit ?_
  refine op_q F31 (.bool true) ?_; intro a34 F34
  refine wpList_nil ?_
  refine hK33 _ _ ?_; clear hK33 K33
  refine wp_seq_k fun K35 hK35 => ?_
  refine wp_cond_true (F34.ev (by kernel_rfl)) ?_
  refine wp_skip ?_
  refine hK35 _ _ ?_; clear hK35 K35
  refine wp_seq_k fun K36 hK36 => ?_
  refine wp_block ?_
  refine wp_seq_k fun K37 hK37 => ?_
  refine wp_region_lit ?_
  refine op_rq (v := .pointer (some ⟨g28, 0, none⟩)) F34 (r_ix rfl Try.underlying161 1 (by kernel_rfl) (F34.e (.slice (some ⟨g28, 0, none⟩) 3 3)) rfl (F34.e (.int .i64 0)) 0 (by first | rfl | omega | simp) (by first | omega | (simp; done) | (simp; omega)) (by kernel_rfl)) ?_; intro a38 F38
  refine op_rq (v := errV b128 g128) F38 (r_ld rfl (F38.e (.pointer (some ⟨g28, 0, none⟩))) (v := errV b128 g128) ((S28.bk 0 rfl).cell 0) Try.underlying140 rfl) ?_; intro a39 F39
  refine op_q F39 (errV b128 g128) ?_; intro a40 F40
  refine wpList_nil ?_
  refine hK37 _ _ ?_; clear hK37 K37
  refine wp_seq_k fun K41 hK41 => ?_
  refine wp_region_lit ?_
  refine op_q F40 (.string ⟨#[]⟩) ?_; intro a42 F42
  refine wpList_nil ?_
  refine hK41 _ _ ?_; clear hK41 K41
  refine wp_seq_k fun K43 hK43 => ?_
  refine wp_seq_k fun K44 hK44 => ?_
  refine wp_region_lit ?_
  refine op_q F42 (errV b128 g128) ?_; intro a45 F45
  refine op_rq (v := .bool b128) F45 (r_errne rfl (F45.e (errV b128 g128))) ?_; intro a46 F46
  refine wpList_nil ?_
  refine hK44 _ _ ?_; clear hK44 K44
  rcases btf (b128) with hc47 | hc47
  · have F48 := F46.sb 25 (by kernel_rfl) hc47
    subst hc47
    have S49 : Sp R w28 (SA.blk g128 281 #[.string (toldF ⟨#[99, 104, 97, 114, 116, 32, 109, 101, 116, 97, 100, 97, 116, 97, 32, 105, 115, 32, 109, 105, 115, 115, 105, 110, 103, 32, 116, 104, 101, 115, 101, 32, 100, 101, 112, 101, 110, 100, 101, 110, 99, 105, 101, 115, 58, 32]⟩ (onlyF ys xs))] :: SA.blk g28 140 #[errV true g128, errV b228 g228, errV b328 g328] :: SA.er b228 g228 (toldF ⟨#[109, 117, 108, 116, 105, 112, 108, 101, 32, 100, 101, 112, 101, 110, 100, 101, 110, 99, 105, 101, 115, 32, 119, 105, 116, 104, 32, 110, 97, 109, 101, 32, 111, 114, 32, 97, 108, 105, 97, 115, 58, 32]⟩ (dupF [] xs)) :: SA.er b328 g328 (toldF ⟨#[99, 104, 97, 114, 116, 32, 100, 105, 114, 101, 99, 116, 111, 114, 121, 32, 105, 115, 32, 109, 105, 115, 115, 105, 110, 103, 32, 116, 104, 101, 115, 101, 32, 100, 101, 112, 101, 110, 100, 101, 110, 99, 105, 101, 115, 58, 32]⟩ (onlyF xs ys)) :: SA.rt gc13 xs ys :: SA.blk g5 3 #[.int .i64 0] :: SA.blk g3 22 #[.slice none 0 0] :: SA.blk g1 30 #[.bool false, .string ((rtM xs A c).fName), .string ((rtM xs A c).fHome), .string ((rtM xs A c).fVersion), .string ((rtM xs A c).fDescription), .string ((rtM xs A c).fIcon), .string ((rtM xs A c).fAPIVersion), .string ((rtM xs A c).fCondition), .string ((rtM xs A c).fTags), .string ((rtM xs A c).fAppVersion), .string ((rtM xs A c).fKubeVersion), .string ((rtM xs A c).fType), .slice ((rtM xs A c).fSources_a) ((rtM xs A c).fSources.length) ((rtM xs A c).fSources_c), .slice ((rtM xs A c).fKeywords_a) ((rtM xs A c).fKeywords.length) ((rtM xs A c).fKeywords_c), .slice ((rtM xs A c).fMaintainers_a) ((rtM xs A c).fMaintainers.length) ((rtM xs A c).fMaintainers_c), .slice ((rtM xs A c).fDependencies_a) ((rtM xs A c).fDependencies.length) ((rtM xs A c).fDependencies_c), .slice none 0 0, .slice (B) (ys.length) (d)] :: L) := S28.p1
    refine wp_cond_true (F48.ev (by kernel_rfl)) ?_
    refine wp_region_lit ?_
    refine op_q F48 (.iface 279 (.pointer (some ⟨g128, 0, none⟩))) ?_; intro a50 F50
    refine op_cq F50 (f := 225) (args := #[.pointer (some ⟨g128, 0, none⟩)]) (errText_sp g128 (toldF ⟨#[99, 104, 97, 114, 116, 32, 109, 101, 116, 97, 100, 97, 116, 97, 32, 105, 115, 32, 109, 105, 115, 115, 105, 110, 103, 32, 116, 104, 101, 115, 101, 32, 100, 101, 112, 101, 110, 100, 101, 110, 99, 105, 101, 115, 58, 32]⟩ (onlyF ys xs)) _ _ _ S49 (fun w S => S.bk 0 rfl)) ?_
    rintro _ w51 ⟨rfl, S51⟩
    refine ⟨_, rfl, ?_⟩
    intro a52 F52
    refine op_q F52 (.string (toldF ⟨#[99, 104, 97, 114, 116, 32, 109, 101, 116, 97, 100, 97, 116, 97, 32, 105, 115, 32, 109, 105, 115, 115, 105, 110, 103, 32, 116, 104, 101, 115, 101, 32, 100, 101, 112, 101, 110, 100, 101, 110, 99, 105, 101, 115, 58, 32]⟩ (onlyF ys xs))) ?_; intro a53 F53
    refine wpList_nil ?_
    refine hK43 _ _ ?_; clear hK43 K43
    refine wp_region_lit ?_
    refine op_rq (v := .slice none 0 0) F53 (r_ld rfl (F53.e (.pointer (some ⟨g3, 0, none⟩))) (v := .slice none 0 0) ((S51.bk 6 rfl).cell 0) Try.underlying22 rfl) ?_; intro a54 F54
    refine op_q F54 (.string (toldF ⟨#[99, 104, 97, 114, 116, 32, 109, 101, 116, 97, 100, 97, 116, 97, 32, 105, 115, 32, 109, 105, 115, 115, 105, 110, 103, 32, 116, 104, 101, 115, 101, 32, 100, 101, 112, 101, 110, 100, 101, 110, 99, 105, 101, 115, 58, 32]⟩ (onlyF ys xs))) ?_; intro a55 F55
    refine op_sq F55 (s_news F55 9 #[.string (toldF ⟨#[99, 104, 97, 114, 116, 32, 109, 101, 116, 97, 100, 97, 116, 97, 32, 105, 115, 32, 109, 105, 115, 115, 105, 110, 103, 32, 116, 104, 101, 115, 101, 32, 100, 101, 112, 101, 110, 100, 101, 110, 99, 105, 101, 115, 58, 32]⟩ (onlyF ys xs))] 1 (by kernel_rfl) (by kernel_rfl) (by kernel_rfl) S51) ?_
    rintro _ _ w57 ⟨g55, rfl, rfl⟩ S57 a57 F57
    refine op_sq F57 (s_app rfl Try.underlying22 1 _ tin9 rfl rfl (F57.e (.slice none 0 0)) (Sp.nilown (e := 9) (sz := 1) S57) ([Value.string (toldF ⟨#[99, 104, 97, 114, 116, 32, 109, 101, 116, 97, 100, 97, 116, 97, 32, 105, 115, 32, 109, 105, 115, 115, 105, 110, 103, 32, 116, 104, 101, 115, 101, 32, 100, 101, 112, 101, 110, 100, 101, 110, 99, 105, 101, 115, 58, 32]⟩ (onlyF ys xs))]) (F57.e (.slice (some ⟨g55, 0, none⟩) 1 1)) ((S57.bk 0 rfl).sl (by simp)) rfl (by simp [Value.oneCell']) (by omega) (by omega) (n' := 1) (by omega) (cs' := strs [toldF ⟨#[99, 104, 97, 114, 116, 32, 109, 101, 116, 97, 100, 97, 116, 97, 32, 105, 115, 32, 109, 105, 115, 115, 105, 110, 103, 32, 116, 104, 101, 115, 101, 32, 100, 101, 112, 101, 110, 100, 101, 110, 99, 105, 101, 115, 58, 32]⟩ (onlyF ys xs)]) (by first | rfl | simp [strs])) ?_
    rintro _ _ w59 ⟨A58, c58, rfl, rfl⟩ S59 a59 F59
    refine op_sq0 F59 (s_st rfl (F59.e (.pointer (some ⟨g3, 0, none⟩))) (F59.e (.slice A58 1 c58)) S59.p8 (by kernel_rfl) rfl rfl rfl (cs := #[.slice A58 1 c58]) (by kernel_rfl)) ?_
    rintro _ _ w60 rfl S60 F60
    refine wpList_nil ?_
    refine hK36 _ _ ?_; clear hK36 K36
    refine wp_region_lit ?_
    refine op_q F60 (.int .i64 1) ?_; intro a61 F61
    refine op_q F61 (.int .i64 1) ?_; intro a62 F62
    refine wpList_nil ?_
    refine hK32 _ _ ?_; clear hK32 K32
    refine fw_round1 fun K63 hK63 => ?_
    refine wp_seq_k fun K64 hK64 => ?_
    refine wp_region_lit ?_
    refine op_q F62 (.bool true) ?_; intro a65 F65
    refine wpList_nil ?_
    refine hK64 _ _ ?_; clear hK64 K64
    refine wp_seq_k fun K66 hK66 => ?_
    refine wp_cond_true (F65.ev (by kernel_rfl)) ?_
    refine wp_skip ?_
    refine hK66 _ _ ?_; clear hK66 K66
    refine wp_seq_k fun K67 hK67 => ?_
    refine wp_block ?_
    refine wp_seq_k fun K68 hK68 => ?_
    refine wp_region_lit ?_
    refine op_rq (v := .pointer (some ⟨g28, 1, none⟩)) F65 (r_ix rfl Try.underlying161 1 (by kernel_rfl) (F65.e (.slice (some ⟨g28, 0, none⟩) 3 3)) rfl (F65.e (.int .i64 1)) 1 (by first | rfl | omega | simp) (by first | omega | (simp; done) | (simp; omega)) (by kernel_rfl)) ?_; intro a69 F69
    refine op_rq (v := errV b228 g228) F69 (r_ld rfl (F69.e (.pointer (some ⟨g28, 1, none⟩))) (v := errV b228 g228) ((S60.bk 4 rfl).cell 1) Try.underlying140 rfl) ?_; intro a70 F70
    refine op_q F70 (errV b228 g228) ?_; intro a71 F71
    refine wpList_nil ?_
    refine hK68 _ _ ?_; clear hK68 K68
    refine wp_seq_k fun K72 hK72 => ?_
    refine wp_region_lit ?_
    refine op_q F71 (.string ⟨#[]⟩) ?_; intro a73 F73
    refine wpList_nil ?_
    refine hK72 _ _ ?_; clear hK72 K72
    refine wp_seq_k fun K74 hK74 => ?_
    refine wp_seq_k fun K75 hK75 => ?_
    refine wp_region_lit ?_
    refine op_q F73 (errV b228 g228) ?_; intro a76 F76
    refine op_rq (v := .bool b228) F76 (r_errne rfl (F76.e (errV b228 g228))) ?_; intro a77 F77
    refine wpList_nil ?_
    refine hK75 _ _ ?_; clear hK75 K75
    rcases btf (b228) with hc78 | hc78
    · have F79 := F77.sb 25 (by kernel_rfl) hc78
      subst hc78
      have S80 : Sp R w60 (SA.blk g228 281 #[.string (toldF ⟨#[109, 117, 108, 116, 105, 112, 108, 101, 32, 100, 101, 112, 101, 110, 100, 101, 110, 99, 105, 101, 115, 32, 119, 105, 116, 104, 32, 110, 97, 109, 101, 32, 111, 114, 32, 97, 108, 105, 97, 115, 58, 32]⟩ (dupF [] xs))] :: SA.blk g3 22 #[.slice A58 1 c58] :: SA.own (.slice A58 1 c58) 9 1 1 (strs [toldF ⟨#[99, 104, 97, 114, 116, 32, 109, 101, 116, 97, 100, 97, 116, 97, 32, 105, 115, 32, 109, 105, 115, 115, 105, 110, 103, 32, 116, 104, 101, 115, 101, 32, 100, 101, 112, 101, 110, 100, 101, 110, 99, 105, 101, 115, 58, 32]⟩ (onlyF ys xs)]) :: SA.blk g55 9 #[.string (toldF ⟨#[99, 104, 97, 114, 116, 32, 109, 101, 116, 97, 100, 97, 116, 97, 32, 105, 115, 32, 109, 105, 115, 115, 105, 110, 103, 32, 116, 104, 101, 115, 101, 32, 100, 101, 112, 101, 110, 100, 101, 110, 99, 105, 101, 115, 58, 32]⟩ (onlyF ys xs))] :: SA.blk g128 281 #[.string (toldF ⟨#[99, 104, 97, 114, 116, 32, 109, 101, 116, 97, 100, 97, 116, 97, 32, 105, 115, 32, 109, 105, 115, 115, 105, 110, 103, 32, 116, 104, 101, 115, 101, 32, 100, 101, 112, 101, 110, 100, 101, 110, 99, 105, 101, 115, 58, 32]⟩ (onlyF ys xs))] :: SA.blk g28 140 #[errV true g128, errV true g228, errV b328 g328] :: SA.er b328 g328 (toldF ⟨#[99, 104, 97, 114, 116, 32, 100, 105, 114, 101, 99, 116, 111, 114, 121, 32, 105, 115, 32, 109, 105, 115, 115, 105, 110, 103, 32, 116, 104, 101, 115, 101, 32, 100, 101, 112, 101, 110, 100, 101, 110, 99, 105, 101, 115, 58, 32]⟩ (onlyF xs ys)) :: SA.rt gc13 xs ys :: SA.blk g5 3 #[.int .i64 0] :: SA.blk g1 30 #[.bool false, .string ((rtM xs A c).fName), .string ((rtM xs A c).fHome), .string ((rtM xs A c).fVersion), .string ((rtM xs A c).fDescription), .string ((rtM xs A c).fIcon), .string ((rtM xs A c).fAPIVersion), .string ((rtM xs A c).fCondition), .string ((rtM xs A c).fTags), .string ((rtM xs A c).fAppVersion), .string ((rtM xs A c).fKubeVersion), .string ((rtM xs A c).fType), .slice ((rtM xs A c).fSources_a) ((rtM xs A c).fSources.length) ((rtM xs A c).fSources_c), .slice ((rtM xs A c).fKeywords_a) ((rtM xs A c).fKeywords.length) ((rtM xs A c).fKeywords_c), .slice ((rtM xs A c).fMaintainers_a) ((rtM xs A c).fMaintainers.length) ((rtM xs A c).fMaintainers_c), .slice ((rtM xs A c).fDependencies_a) ((rtM xs A c).fDependencies.length) ((rtM xs A c).fDependencies_c), .slice none 0 0, .slice (B) (ys.length) (d)] :: L) := S60.p5
      refine wp_cond_true (F79.ev (by kernel_rfl)) ?_
      refine wp_region_lit ?_
      refine op_q F79 (.iface 279 (.pointer (some ⟨g228, 0, none⟩))) ?_; intro a81 F81
      refine op_cq F81 (f := 225) (args := #[.pointer (some ⟨g228, 0, none⟩)]) (errText_sp g228 (toldF ⟨#[109, 117, 108, 116, 105, 112, 108, 101, 32, 100, 101, 112, 101, 110, 100, 101, 110, 99, 105, 101, 115, 32, 119, 105, 116, 104, 32, 110, 97, 109, 101, 32, 111, 114, 32, 97, 108, 105, 97, 115, 58, 32]⟩ (dupF [] xs)) _ _ _ S80 (fun w S => S.bk 0 rfl)) ?_
      rintro _ w82 ⟨rfl, S82⟩
      refine ⟨_, rfl, ?_⟩
      intro a83 F83
      refine op_q F83 (.string (toldF ⟨#[109, 117, 108, 116, 105, 112, 108, 101, 32, 100, 101, 112, 101, 110, 100, 101, 110, 99, 105, 101, 115, 32, 119, 105, 116, 104, 32, 110, 97, 109, 101, 32, 111, 114, 32, 97, 108, 105, 97, 115, 58, 32]⟩ (dupF [] xs))) ?_; intro a84 F84
      refine wpList_nil ?_
      refine hK74 _ _ ?_; clear hK74 K74
      refine wp_region_lit ?_
      refine op_rq (v := .slice A58 1 c58) F84 (r_ld rfl (F84.e (.pointer (some ⟨g3, 0, none⟩))) (v := .slice A58 1 c58) ((S82.bk 1 rfl).cell 0) Try.underlying22 rfl) ?_; intro a85 F85
      refine op_q F85 (.string (toldF ⟨#[109, 117, 108, 116, 105, 112, 108, 101, 32, 100, 101, 112, 101, 110, 100, 101, 110, 99, 105, 101, 115, 32, 119, 105, 116, 104, 32, 110, 97, 109, 101, 32, 111, 114, 32, 97, 108, 105, 97, 115, 58, 32]⟩ (dupF [] xs))) ?_; intro a86 F86
      refine op_sq F86 (s_news F86 9 #[.string (toldF ⟨#[109, 117, 108, 116, 105, 112, 108, 101, 32, 100, 101, 112, 101, 110, 100, 101, 110, 99, 105, 101, 115, 32, 119, 105, 116, 104, 32, 110, 97, 109, 101, 32, 111, 114, 32, 97, 108, 105, 97, 115, 58, 32]⟩ (dupF [] xs))] 1 (by kernel_rfl) (by kernel_rfl) (by kernel_rfl) S82) ?_
      rintro _ _ w88 ⟨g86, rfl, rfl⟩ S88 a88 F88
      refine op_sq F88 (s_app rfl Try.underlying22 1 _ tin9 rfl rfl (F88.e (.slice A58 1 c58)) S88.p3 ([Value.string (toldF ⟨#[109, 117, 108, 116, 105, 112, 108, 101, 32, 100, 101, 112, 101, 110, 100, 101, 110, 99, 105, 101, 115, 32, 119, 105, 116, 104, 32, 110, 97, 109, 101, 32, 111, 114, 32, 97, 108, 105, 97, 115, 58, 32]⟩ (dupF [] xs))]) (F88.e (.slice (some ⟨g86, 0, none⟩) 1 1)) ((S88.bk 0 rfl).sl (by simp)) rfl (by simp [Value.oneCell']) (by omega) (by omega) (n' := 2) (by omega) (cs' := strs ([toldF ⟨#[99, 104, 97, 114, 116, 32, 109, 101, 116, 97, 100, 97, 116, 97, 32, 105, 115, 32, 109, 105, 115, 115, 105, 110, 103, 32, 116, 104, 101, 115, 101, 32, 100, 101, 112, 101, 110, 100, 101, 110, 99, 105, 101, 115, 58, 32]⟩ (onlyF ys xs)] ++ [toldF ⟨#[109, 117, 108, 116, 105, 112, 108, 101, 32, 100, 101, 112, 101, 110, 100, 101, 110, 99, 105, 101, 115, 32, 119, 105, 116, 104, 32, 110, 97, 109, 101, 32, 111, 114, 32, 97, 108, 105, 97, 115, 58, 32]⟩ (dupF [] xs)])) (by simp [strs])) ?_
      rintro _ _ w90 ⟨A89, c89, rfl, rfl⟩ S90 a90 F90
      refine op_sq0 F90 (s_st rfl (F90.e (.pointer (some ⟨g3, 0, none⟩))) (F90.e (.slice A89 2 c89)) S90.p3 (by kernel_rfl) rfl rfl rfl (cs := #[.slice A89 2 c89]) (by kernel_rfl)) ?_
      rintro _ _ w91 rfl S91 F91
      refine wpList_nil ?_
      refine hK67 _ _ ?_; clear hK67 K67
      refine wp_region_lit ?_
      refine op_q F91 (.int .i64 2) ?_; intro a92 F92
      refine op_q F92 (.int .i64 2) ?_; intro a93 F93
      refine wpList_nil ?_
      refine hK63 _ _ ?_; clear hK63 K63
      refine fw_round1 fun K94 hK94 => ?_
      refine wp_seq_k fun K95 hK95 => ?_
      refine wp_region_lit ?_
      refine op_q F93 (.bool true) ?_; intro a96 F96
      refine wpList_nil ?_
      refine hK95 _ _ ?_; clear hK95 K95
      refine wp_seq_k fun K97 hK97 => ?_
      refine wp_cond_true (F96.ev (by kernel_rfl)) ?_
      refine wp_skip ?_
      refine hK97 _ _ ?_; clear hK97 K97
      refine wp_seq_k fun K98 hK98 => ?_
      refine wp_block ?_
      refine wp_seq_k fun K99 hK99 => ?_
      refine wp_region_lit ?_
      refine op_rq (v := .pointer (some ⟨g28, 2, none⟩)) F96 (r_ix rfl Try.underlying161 1 (by kernel_rfl) (F96.e (.slice (some ⟨g28, 0, none⟩) 3 3)) rfl (F96.e (.int .i64 2)) 2 (by first | rfl | omega | simp) (by first | omega | (simp; done) | (simp; omega)) (by kernel_rfl)) ?_; intro a100 F100
      refine op_rq (v := errV b328 g328) F100 (r_ld rfl (F100.e (.pointer (some ⟨g28, 2, none⟩))) (v := errV b328 g328) ((S91.bk 6 rfl).cell 2) Try.underlying140 rfl) ?_; intro a101 F101
      refine op_q F101 (errV b328 g328) ?_; intro a102 F102
      refine wpList_nil ?_
      refine hK99 _ _ ?_; clear hK99 K99
      refine wp_seq_k fun K103 hK103 => ?_
      refine wp_region_lit ?_
      refine op_q F102 (.string ⟨#[]⟩) ?_; intro a104 F104
      refine wpList_nil ?_
      refine hK103 _ _ ?_; clear hK103 K103
      refine wp_seq_k fun K105 hK105 => ?_
      refine wp_seq_k fun K106 hK106 => ?_
      refine wp_region_lit ?_
      refine op_q F104 (errV b328 g328) ?_; intro a107 F107
      refine op_rq (v := .bool b328) F107 (r_errne rfl (F107.e (errV b328 g328))) ?_; intro a108 F108
      refine wpList_nil ?_
      refine hK106 _ _ ?_; clear hK106 K106
      rcases btf (b328) with hc109 | hc109
      · have F110 := F108.sb 25 (by kernel_rfl) hc109
        subst hc109
        have S111 : Sp R w91 (SA.blk g328 281 #[.string (toldF ⟨#[99, 104, 97, 114, 116, 32, 100, 105, 114, 101, 99, 116, 111, 114, 121, 32, 105, 115, 32, 109, 105, 115, 115, 105, 110, 103, 32, 116, 104, 101, 115, 101, 32, 100, 101, 112, 101, 110, 100, 101, 110, 99, 105, 101, 115, 58, 32]⟩ (onlyF xs ys))] :: SA.blk g3 22 #[.slice A89 2 c89] :: SA.own (.slice A89 2 c89) 9 1 2 (strs ([toldF ⟨#[99, 104, 97, 114, 116, 32, 109, 101, 116, 97, 100, 97, 116, 97, 32, 105, 115, 32, 109, 105, 115, 115, 105, 110, 103, 32, 116, 104, 101, 115, 101, 32, 100, 101, 112, 101, 110, 100, 101, 110, 99, 105, 101, 115, 58, 32]⟩ (onlyF ys xs)] ++ [toldF ⟨#[109, 117, 108, 116, 105, 112, 108, 101, 32, 100, 101, 112, 101, 110, 100, 101, 110, 99, 105, 101, 115, 32, 119, 105, 116, 104, 32, 110, 97, 109, 101, 32, 111, 114, 32, 97, 108, 105, 97, 115, 58, 32]⟩ (dupF [] xs)])) :: SA.blk g86 9 #[.string (toldF ⟨#[109, 117, 108, 116, 105, 112, 108, 101, 32, 100, 101, 112, 101, 110, 100, 101, 110, 99, 105, 101, 115, 32, 119, 105, 116, 104, 32, 110, 97, 109, 101, 32, 111, 114, 32, 97, 108, 105, 97, 115, 58, 32]⟩ (dupF [] xs))] :: SA.blk g228 281 #[.string (toldF ⟨#[109, 117, 108, 116, 105, 112, 108, 101, 32, 100, 101, 112, 101, 110, 100, 101, 110, 99, 105, 101, 115, 32, 119, 105, 116, 104, 32, 110, 97, 109, 101, 32, 111, 114, 32, 97, 108, 105, 97, 115, 58, 32]⟩ (dupF [] xs))] :: SA.blk g55 9 #[.string (toldF ⟨#[99, 104, 97, 114, 116, 32, 109, 101, 116, 97, 100, 97, 116, 97, 32, 105, 115, 32, 109, 105, 115, 115, 105, 110, 103, 32, 116, 104, 101, 115, 101, 32, 100, 101, 112, 101, 110, 100, 101, 110, 99, 105, 101, 115, 58, 32]⟩ (onlyF ys xs))] :: SA.blk g128 281 #[.string (toldF ⟨#[99, 104, 97, 114, 116, 32, 109, 101, 116, 97, 100, 97, 116, 97, 32, 105, 115, 32, 109, 105, 115, 115, 105, 110, 103, 32, 116, 104, 101, 115, 101, 32, 100, 101, 112, 101, 110, 100, 101, 110, 99, 105, 101, 115, 58, 32]⟩ (onlyF ys xs))] :: SA.blk g28 140 #[errV true g128, errV true g228, errV true g328] :: SA.rt gc13 xs ys :: SA.blk g5 3 #[.int .i64 0] :: SA.blk g1 30 #[.bool false, .string ((rtM xs A c).fName), .string ((rtM xs A c).fHome), .string ((rtM xs A c).fVersion), .string ((rtM xs A c).fDescription), .string ((rtM xs A c).fIcon), .string ((rtM xs A c).fAPIVersion), .string ((rtM xs A c).fCondition), .string ((rtM xs A c).fTags), .string ((rtM xs A c).fAppVersion), .string ((rtM xs A c).fKubeVersion), .string ((rtM xs A c).fType), .slice ((rtM xs A c).fSources_a) ((rtM xs A c).fSources.length) ((rtM xs A c).fSources_c), .slice ((rtM xs A c).fKeywords_a) ((rtM xs A c).fKeywords.length) ((rtM xs A c).fKeywords_c), .slice ((rtM xs A c).fMaintainers_a) ((rtM xs A c).fMaintainers.length) ((rtM xs A c).fMaintainers_c), .slice ((rtM xs A c).fDependencies_a) ((rtM xs A c).fDependencies.length) ((rtM xs A c).fDependencies_c), .slice none 0 0, .slice (B) (ys.length) (d)] :: L) := S91.p7
        refine wp_cond_true (F110.ev (by kernel_rfl)) ?_
        refine wp_region_lit ?_
        refine op_q F110 (.iface 279 (.pointer (some ⟨g328, 0, none⟩))) ?_; intro a112 F112
        refine op_cq F112 (f := 225) (args := #[.pointer (some ⟨g328, 0, none⟩)]) (errText_sp g328 (toldF ⟨#[99, 104, 97, 114, 116, 32, 100, 105, 114, 101, 99, 116, 111, 114, 121, 32, 105, 115, 32, 109, 105, 115, 115, 105, 110, 103, 32, 116, 104, 101, 115, 101, 32, 100, 101, 112, 101, 110, 100, 101, 110, 99, 105, 101, 115, 58, 32]⟩ (onlyF xs ys)) _ _ _ S111 (fun w S => S.bk 0 rfl)) ?_
        rintro _ w113 ⟨rfl, S113⟩
        refine ⟨_, rfl, ?_⟩
        intro a114 F114
        refine op_q F114 (.string (toldF ⟨#[99, 104, 97, 114, 116, 32, 100, 105, 114, 101, 99, 116, 111, 114, 121, 32, 105, 115, 32, 109, 105, 115, 115, 105, 110, 103, 32, 116, 104, 101, 115, 101, 32, 100, 101, 112, 101, 110, 100, 101, 110, 99, 105, 101, 115, 58, 32]⟩ (onlyF xs ys))) ?_; intro a115 F115
        refine wpList_nil ?_
        refine hK105 _ _ ?_; clear hK105 K105
        refine wp_region_lit ?_
        refine op_rq (v := .slice A89 2 c89) F115 (r_ld rfl (F115.e (.pointer (some ⟨g3, 0, none⟩))) (v := .slice A89 2 c89) ((S113.bk 1 rfl).cell 0) Try.underlying22 rfl) ?_; intro a116 F116
        refine op_q F116 (.string (toldF ⟨#[99, 104, 97, 114, 116, 32, 100, 105, 114, 101, 99, 116, 111, 114, 121, 32, 105, 115, 32, 109, 105, 115, 115, 105, 110, 103, 32, 116, 104, 101, 115, 101, 32, 100, 101, 112, 101, 110, 100, 101, 110, 99, 105, 101, 115, 58, 32]⟩ (onlyF xs ys))) ?_; intro a117 F117
        refine op_sq F117 (s_news F117 9 #[.string (toldF ⟨#[99, 104, 97, 114, 116, 32, 100, 105, 114, 101, 99, 116, 111, 114, 121, 32, 105, 115, 32, 109, 105, 115, 115, 105, 110, 103, 32, 116, 104, 101, 115, 101, 32, 100, 101, 112, 101, 110, 100, 101, 110, 99, 105, 101, 115, 58, 32]⟩ (onlyF xs ys))] 1 (by kernel_rfl) (by kernel_rfl) (by kernel_rfl) S113) ?_
        rintro _ _ w119 ⟨g117, rfl, rfl⟩ S119 a119 F119
        refine op_sq F119 (s_app rfl Try.underlying22 1 _ tin9 rfl rfl (F119.e (.slice A89 2 c89)) S119.p3 ([Value.string (toldF ⟨#[99, 104, 97, 114, 116, 32, 100, 105, 114, 101, 99, 116, 111, 114, 121, 32, 105, 115, 32, 109, 105, 115, 115, 105, 110, 103, 32, 116, 104, 101, 115, 101, 32, 100, 101, 112, 101, 110, 100, 101, 110, 99, 105, 101, 115, 58, 32]⟩ (onlyF xs ys))]) (F119.e (.slice (some ⟨g117, 0, none⟩) 1 1)) ((S119.bk 0 rfl).sl (by simp)) rfl (by simp [Value.oneCell']) (by omega) (by omega) (n' := 3) (by omega) (cs' := strs (([toldF ⟨#[99, 104, 97, 114, 116, 32, 109, 101, 116, 97, 100, 97, 116, 97, 32, 105, 115, 32, 109, 105, 115, 115, 105, 110, 103, 32, 116, 104, 101, 115, 101, 32, 100, 101, 112, 101, 110, 100, 101, 110, 99, 105, 101, 115, 58, 32]⟩ (onlyF ys xs)] ++ [toldF ⟨#[109, 117, 108, 116, 105, 112, 108, 101, 32, 100, 101, 112, 101, 110, 100, 101, 110, 99, 105, 101, 115, 32, 119, 105, 116, 104, 32, 110, 97, 109, 101, 32, 111, 114, 32, 97, 108, 105, 97, 115, 58, 32]⟩ (dupF [] xs)]) ++ [toldF ⟨#[99, 104, 97, 114, 116, 32, 100, 105, 114, 101, 99, 116, 111, 114, 121, 32, 105, 115, 32, 109, 105, 115, 115, 105, 110, 103, 32, 116, 104, 101, 115, 101, 32, 100, 101, 112, 101, 110, 100, 101, 110, 99, 105, 101, 115, 58, 32]⟩ (onlyF xs ys)])) (by simp [strs])) ?_
        rintro _ _ w121 ⟨A120, c120, rfl, rfl⟩ S121 a121 F121
        refine op_sq0 F121 (s_st rfl (F121.e (.pointer (some ⟨g3, 0, none⟩))) (F121.e (.slice A120 3 c120)) S121.p3 (by kernel_rfl) rfl rfl rfl (cs := #[.slice A120 3 c120]) (by kernel_rfl)) ?_
        rintro _ _ w122 rfl S122 F122
        refine wpList_nil ?_
        refine hK98 _ _ ?_; clear hK98 K98
        refine wp_region_lit ?_
        refine op_q F122 (.int .i64 3) ?_; intro a123 F123
        refine op_q F123 (.int .i64 3) ?_; intro a124 F124
        refine wpList_nil ?_
        refine hK94 _ _ ?_; clear hK94 K94
        refine fw_round1 fun K125 hK125 => ?_
        refine wp_seq_k fun K126 hK126 => ?_
        refine wp_region_lit ?_
        refine op_q F124 (.bool false) ?_; intro a127 F127
        refine wpList_nil ?_
        refine hK126 _ _ ?_; clear hK126 K126
        refine wp_seq_k fun K128 hK128 => ?_
        refine wp_cond_false (F127.ev (by kernel_rfl)) ?_
        refine wp_exit ?_
        refine ex_then ?_; clear hK128 K128
        refine ex_then ?_; clear hK125 K125
        refine ex_in ?_
        refine hK24 _ _ ?_; clear hK24 K24
        refine wp_seq_k fun K129 hK129 => ?_
        refine wp_region_lit ?_
        refine op_rq (v := .slice A120 3 c120) F127 (r_ld rfl (F127.e (.pointer (some ⟨g3, 0, none⟩))) (v := .slice A120 3 c120) ((S122.bk 0 rfl).cell 0) Try.underlying22 rfl) ?_; intro a130 F130
        refine op_sq0 F130 (s_st rfl (F130.e (.pointer (some ⟨g3, 0, none⟩))) (F130.e (.slice A120 3 c120)) S122 (by kernel_rfl) rfl rfl rfl (cs := #[.slice A120 3 c120]) (by kernel_rfl)) ?_
        rintro _ _ w131 rfl S131 F131
        refine op_sq0 F131 (s_st rfl (F131.e (.pointer (some ⟨g5, 0, none⟩))) (F131.e (.int .i64 0)) S131.p10 (by kernel_rfl) rfl rfl rfl (cs := #[.int .i64 0]) (by kernel_rfl)) ?_
        rintro _ _ w132 rfl S132 F132
        refine wpList_nil ?_
        refine hK129 _ _ ?_; clear hK129 K129
        refine wp_ret ?_
        have S133 := S132.p1.p1.p2
        have S134 := S133.p3.drop
        have S135 := S134.p3.drop
        have S136 := S135.p3.drop
        have S137 := S136.p3.drop
        have S138 := S137.p3.drop
        have S139 := S138.p3.drop
        have S140 := S139.p3.drop
        have S141 := S140.p3.drop
        have S142 := S141.p3.drop
        have S143 : Sp R w132 (SA.own (.slice A120 3 c120) 9 1 3 (strs [toldF ⟨#[99, 104, 97, 114, 116, 32, 109, 101, 116, 97, 100, 97, 116, 97, 32, 105, 115, 32, 109, 105, 115, 115, 105, 110, 103, 32, 116, 104, 101, 115, 101, 32, 100, 101, 112, 101, 110, 100, 101, 110, 99, 105, 101, 115, 58, 32]⟩ (onlyF ys xs), toldF ⟨#[109, 117, 108, 116, 105, 112, 108, 101, 32, 100, 101, 112, 101, 110, 100, 101, 110, 99, 105, 101, 115, 32, 119, 105, 116, 104, 32, 110, 97, 109, 101, 32, 111, 114, 32, 97, 108, 105, 97, 115, 58, 32]⟩ (dupF [] xs), toldF ⟨#[99, 104, 97, 114, 116, 32, 100, 105, 114, 101, 99, 116, 111, 114, 121, 32, 105, 115, 32, 109, 105, 115, 115, 105, 110, 103, 32, 116, 104, 101, 115, 101, 32, 100, 101, 112, 101, 110, 100, 101, 110, 99, 105, 101, 115, 58, 32]⟩ (onlyF xs ys)]) :: SA.blk g5 3 #[.int .i64 0] :: SA.blk g3 22 #[.slice A120 3 c120] :: L) := by exact S142
        refine (F132.leaveD (f := 96) (args := #[.pointer (some ⟨g3, 0, none⟩), .pointer (some ⟨g5, 0, none⟩)]) (by simp [go_sem]) (catch96 g3 g5 _) (results2 Try.results43 (F132.rvc (p := ⟨g3, 0, none⟩) (by kernel_rfl) (load_one _ _ _ (.slice A120 3 c120) ((S132.bk 1 rfl).cell 0) _ Try.underlying22 rfl)) (F132.rvc (p := ⟨g5, 0, none⟩) (by kernel_rfl) (load_one _ _ _ (.int .i64 0) ((S132.bk 0 rfl).cell 0) _ Try.underlying3 rfl))) ?_).1
        exact ⟨A120, c120, rfl, S143.p1.drop.p1.drop⟩
      · have F144 := F108.sb 25 (by kernel_rfl) hc109
        subst hc109
        have ht2 : toldF ⟨#[99, 104, 97, 114, 116, 32, 100, 105, 114, 101, 99, 116, 111, 114, 121, 32, 105, 115, 32, 109, 105, 115, 115, 105, 110, 103, 32, 116, 104, 101, 115, 101, 32, 100, 101, 112, 101, 110, 100, 101, 110, 99, 105, 101, 115, 58, 32]⟩ (onlyF xs ys) = ⟨#[]⟩ := told_no hp2_28
        refine wp_cond_false (F144.ev (by kernel_rfl)) ?_
        refine wp_skip ?_
        refine hK105 _ _ ?_; clear hK105 K105
        refine wp_region_lit ?_
        refine op_rq (v := .slice A89 2 c89) F144 (r_ld rfl (F144.e (.pointer (some ⟨g3, 0, none⟩))) (v := .slice A89 2 c89) ((S91.bk 0 rfl).cell 0) Try.underlying22 rfl) ?_; intro a145 F145
        refine op_q F145 (.string ⟨#[]⟩) ?_; intro a146 F146
        refine op_sq F146 (s_news F146 9 #[.string ⟨#[]⟩] 1 (by kernel_rfl) (by kernel_rfl) (by kernel_rfl) S91) ?_
        rintro _ _ w148 ⟨g146, rfl, rfl⟩ S148 a148 F148
        refine op_sq F148 (s_app rfl Try.underlying22 1 _ tin9 rfl rfl (F148.e (.slice A89 2 c89)) S148.p2 ([Value.string ⟨#[]⟩]) (F148.e (.slice (some ⟨g146, 0, none⟩) 1 1)) ((S148.bk 0 rfl).sl (by simp)) rfl (by simp [Value.oneCell']) (by omega) (by omega) (n' := 3) (by omega) (cs' := strs (([toldF ⟨#[99, 104, 97, 114, 116, 32, 109, 101, 116, 97, 100, 97, 116, 97, 32, 105, 115, 32, 109, 105, 115, 115, 105, 110, 103, 32, 116, 104, 101, 115, 101, 32, 100, 101, 112, 101, 110, 100, 101, 110, 99, 105, 101, 115, 58, 32]⟩ (onlyF ys xs)] ++ [toldF ⟨#[109, 117, 108, 116, 105, 112, 108, 101, 32, 100, 101, 112, 101, 110, 100, 101, 110, 99, 105, 101, 115, 32, 119, 105, 116, 104, 32, 110, 97, 109, 101, 32, 111, 114, 32, 97, 108, 105, 97, 115, 58, 32]⟩ (dupF [] xs)]) ++ [⟨#[]⟩])) (by simp [strs])) ?_
        rintro _ _ w150 ⟨A149, c149, rfl, rfl⟩ S150 a150 F150
        refine op_sq0 F150 (s_st rfl (F150.e (.pointer (some ⟨g3, 0, none⟩))) (F150.e (.slice A149 3 c149)) S150.p2 (by kernel_rfl) rfl rfl rfl (cs := #[.slice A149 3 c149]) (by kernel_rfl)) ?_
        rintro _ _ w151 rfl S151 F151
        refine wpList_nil ?_
        refine hK98 _ _ ?_; clear hK98 K98
        refine wp_region_lit ?_
        refine op_q F151 (.int .i64 3) ?_; intro a152 F152
        refine op_q F152 (.int .i64 3) ?_; intro a153 F153
        refine wpList_nil ?_
        refine hK94 _ _ ?_; clear hK94 K94
        refine fw_round1 fun K154 hK154 => ?_
        refine wp_seq_k fun K155 hK155 => ?_
        refine wp_region_lit ?_
        refine op_q F153 (.bool false) ?_; intro a156 F156
        refine wpList_nil ?_
        refine hK155 _ _ ?_; clear hK155 K155
        refine wp_seq_k fun K157 hK157 => ?_
        refine wp_cond_false (F156.ev (by kernel_rfl)) ?_
        refine wp_exit ?_
        refine ex_then ?_; clear hK157 K157
        refine ex_then ?_; clear hK154 K154
        refine ex_in ?_
        refine hK24 _ _ ?_; clear hK24 K24
        refine wp_seq_k fun K158 hK158 => ?_
        refine wp_region_lit ?_
        refine op_rq (v := .slice A149 3 c149) F156 (r_ld rfl (F156.e (.pointer (some ⟨g3, 0, none⟩))) (v := .slice A149 3 c149) ((S151.bk 0 rfl).cell 0) Try.underlying22 rfl) ?_; intro a159 F159
        refine op_sq0 F159 (s_st rfl (F159.e (.pointer (some ⟨g3, 0, none⟩))) (F159.e (.slice A149 3 c149)) S151 (by kernel_rfl) rfl rfl rfl (cs := #[.slice A149 3 c149]) (by kernel_rfl)) ?_
        rintro _ _ w160 rfl S160 F160
        refine op_sq0 F160 (s_st rfl (F160.e (.pointer (some ⟨g5, 0, none⟩))) (F160.e (.int .i64 0)) S160.p10 (by kernel_rfl) rfl rfl rfl (cs := #[.int .i64 0]) (by kernel_rfl)) ?_
        rintro _ _ w161 rfl S161 F161
        refine wpList_nil ?_
        refine hK158 _ _ ?_; clear hK158 K158
        refine wp_ret ?_
        have S162 := S161.p1.p1.p2
        have S163 := S162.p3.drop
        have S164 := S163.p3.drop
        have S165 := S164.p3.drop
        have S166 := S165.p3.drop
        have S167 := S166.p3.drop
        have S168 := S167.p3.drop
        have S169 := S168.p3.drop
        have S170 := S169.p3.drop
        have S171 := S170.p3.drop
        have S172 : Sp R w161 (SA.own (.slice A149 3 c149) 9 1 3 (strs [toldF ⟨#[99, 104, 97, 114, 116, 32, 109, 101, 116, 97, 100, 97, 116, 97, 32, 105, 115, 32, 109, 105, 115, 115, 105, 110, 103, 32, 116, 104, 101, 115, 101, 32, 100, 101, 112, 101, 110, 100, 101, 110, 99, 105, 101, 115, 58, 32]⟩ (onlyF ys xs), toldF ⟨#[109, 117, 108, 116, 105, 112, 108, 101, 32, 100, 101, 112, 101, 110, 100, 101, 110, 99, 105, 101, 115, 32, 119, 105, 116, 104, 32, 110, 97, 109, 101, 32, 111, 114, 32, 97, 108, 105, 97, 115, 58, 32]⟩ (dupF [] xs), toldF ⟨#[99, 104, 97, 114, 116, 32, 100, 105, 114, 101, 99, 116, 111, 114, 121, 32, 105, 115, 32, 109, 105, 115, 115, 105, 110, 103, 32, 116, 104, 101, 115, 101, 32, 100, 101, 112, 101, 110, 100, 101, 110, 99, 105, 101, 115, 58, 32]⟩ (onlyF xs ys)]) :: SA.blk g5 3 #[.int .i64 0] :: SA.blk g3 22 #[.slice A149 3 c149] :: L) := by rw [ht2]; exact S171
        refine (F161.leaveD (f := 96) (args := #[.pointer (some ⟨g3, 0, none⟩), .pointer (some ⟨g5, 0, none⟩)]) (by simp [go_sem]) (catch96 g3 g5 _) (results2 Try.results43 (F161.rvc (p := ⟨g3, 0, none⟩) (by kernel_rfl) (load_one _ _ _ (.slice A149 3 c149) ((S161.bk 1 rfl).cell 0) _ Try.underlying22 rfl)) (F161.rvc (p := ⟨g5, 0, none⟩) (by kernel_rfl) (load_one _ _ _ (.int .i64 0) ((S161.bk 0 rfl).cell 0) _ Try.underlying3 rfl))) ?_).1
        exact ⟨A149, c149, rfl, S172.p1.drop.p1.drop⟩
    · have F173 := F77.sb 25 (by kernel_rfl) hc78
      subst hc78
      have ht1 : toldF ⟨#[109, 117, 108, 116, 105, 112, 108, 101, 32, 100, 101, 112, 101, 110, 100, 101, 110, 99, 105, 101, 115, 32, 119, 105, 116, 104, 32, 110, 97, 109, 101, 32, 111, 114, 32, 97, 108, 105, 97, 115, 58, 32]⟩ (dupF [] xs) = ⟨#[]⟩ := told_no hp1_28
      refine wp_cond_false (F173.ev (by kernel_rfl)) ?_
      refine wp_skip ?_
      refine hK74 _ _ ?_; clear hK74 K74
      refine wp_region_lit ?_
      refine op_rq (v := .slice A58 1 c58) F173 (r_ld rfl (F173.e (.pointer (some ⟨g3, 0, none⟩))) (v := .slice A58 1 c58) ((S60.bk 0 rfl).cell 0) Try.underlying22 rfl) ?_; intro a174 F174
      refine op_q F174 (.string ⟨#[]⟩) ?_; intro a175 F175
      refine op_sq F175 (s_news F175 9 #[.string ⟨#[]⟩] 1 (by kernel_rfl) (by kernel_rfl) (by kernel_rfl) S60) ?_
      rintro _ _ w177 ⟨g175, rfl, rfl⟩ S177 a177 F177
      refine op_sq F177 (s_app rfl Try.underlying22 1 _ tin9 rfl rfl (F177.e (.slice A58 1 c58)) S177.p2 ([Value.string ⟨#[]⟩]) (F177.e (.slice (some ⟨g175, 0, none⟩) 1 1)) ((S177.bk 0 rfl).sl (by simp)) rfl (by simp [Value.oneCell']) (by omega) (by omega) (n' := 2) (by omega) (cs' := strs ([toldF ⟨#[99, 104, 97, 114, 116, 32, 109, 101, 116, 97, 100, 97, 116, 97, 32, 105, 115, 32, 109, 105, 115, 115, 105, 110, 103, 32, 116, 104, 101, 115, 101, 32, 100, 101, 112, 101, 110, 100, 101, 110, 99, 105, 101, 115, 58, 32]⟩ (onlyF ys xs)] ++ [⟨#[]⟩])) (by simp [strs])) ?_
      rintro _ _ w179 ⟨A178, c178, rfl, rfl⟩ S179 a179 F179
      refine op_sq0 F179 (s_st rfl (F179.e (.pointer (some ⟨g3, 0, none⟩))) (F179.e (.slice A178 2 c178)) S179.p2 (by kernel_rfl) rfl rfl rfl (cs := #[.slice A178 2 c178]) (by kernel_rfl)) ?_
      rintro _ _ w180 rfl S180 F180
      refine wpList_nil ?_
      refine hK67 _ _ ?_; clear hK67 K67
      refine wp_region_lit ?_
      refine op_q F180 (.int .i64 2) ?_; intro a181 F181
      refine op_q F181 (.int .i64 2) ?_; intro a182 F182
      refine wpList_nil ?_
      refine hK63 _ _ ?_; clear hK63 K63
      refine fw_round1 fun K183 hK183 => ?_
      refine wp_seq_k fun K184 hK184 => ?_
      refine wp_region_lit ?_
      refine op_q F182 (.bool true) ?_; intro a185 F185
      refine wpList_nil ?_
      refine hK184 _ _ ?_; clear hK184 K184
      refine wp_seq_k fun K186 hK186 => ?_
      refine wp_cond_true (F185.ev (by kernel_rfl)) ?_
      refine wp_skip ?_
      refine hK186 _ _ ?_; clear hK186 K186
      refine wp_seq_k fun K187 hK187 => ?_
      refine wp_block ?_
      refine wp_seq_k fun K188 hK188 => ?_
      refine wp_region_lit ?_
      refine op_rq (v := .pointer (some ⟨g28, 2, none⟩)) F185 (r_ix rfl Try.underlying161 1 (by kernel_rfl) (F185.e (.slice (some ⟨g28, 0, none⟩) 3 3)) rfl (F185.e (.int .i64 2)) 2 (by first | rfl | omega | simp) (by first | omega | (simp; done) | (simp; omega)) (by kernel_rfl)) ?_; intro a189 F189
      refine op_rq (v := errV b328 g328) F189 (r_ld rfl (F189.e (.pointer (some ⟨g28, 2, none⟩))) (v := errV b328 g328) ((S180.bk 5 rfl).cell 2) Try.underlying140 rfl) ?_; intro a190 F190
      refine op_q F190 (errV b328 g328) ?_; intro a191 F191
      refine wpList_nil ?_
      refine hK188 _ _ ?_; clear hK188 K188
      refine wp_seq_k fun K192 hK192 => ?_
      refine wp_region_lit ?_
      refine op_q F191 (.string ⟨#[]⟩) ?_; intro a193 F193
      refine wpList_nil ?_
      refine hK192 _ _ ?_; clear hK192 K192
      refine wp_seq_k fun K194 hK194 => ?_
      refine wp_seq_k fun K195 hK195 => ?_
      refine wp_region_lit ?_
      refine op_q F193 (errV b328 g328) ?_; intro a196 F196
      refine op_rq (v := .bool b328) F196 (r_errne rfl (F196.e (errV b328 g328))) ?_; intro a197 F197
      refine wpList_nil ?_
      refine hK195 _ _ ?_; clear hK195 K195
      rcases btf (b328) with hc198 | hc198
      · have F199 := F197.sb 25 (by kernel_rfl) hc198
        subst hc198
        have S200 : Sp R w180 (SA.blk g328 281 #[.string (toldF ⟨#[99, 104, 97, 114, 116, 32, 100, 105, 114, 101, 99, 116, 111, 114, 121, 32, 105, 115, 32, 109, 105, 115, 115, 105, 110, 103, 32, 116, 104, 101, 115, 101, 32, 100, 101, 112, 101, 110, 100, 101, 110, 99, 105, 101, 115, 58, 32]⟩ (onlyF xs ys))] :: SA.blk g3 22 #[.slice A178 2 c178] :: SA.own (.slice A178 2 c178) 9 1 2 (strs ([toldF ⟨#[99, 104, 97, 114, 116, 32, 109, 101, 116, 97, 100, 97, 116, 97, 32, 105, 115, 32, 109, 105, 115, 115, 105, 110, 103, 32, 116, 104, 101, 115, 101, 32, 100, 101, 112, 101, 110, 100, 101, 110, 99, 105, 101, 115, 58, 32]⟩ (onlyF ys xs)] ++ [⟨#[]⟩])) :: SA.blk g175 9 #[.string ⟨#[]⟩] :: SA.blk g55 9 #[.string (toldF ⟨#[99, 104, 97, 114, 116, 32, 109, 101, 116, 97, 100, 97, 116, 97, 32, 105, 115, 32, 109, 105, 115, 115, 105, 110, 103, 32, 116, 104, 101, 115, 101, 32, 100, 101, 112, 101, 110, 100, 101, 110, 99, 105, 101, 115, 58, 32]⟩ (onlyF ys xs))] :: SA.blk g128 281 #[.string (toldF ⟨#[99, 104, 97, 114, 116, 32, 109, 101, 116, 97, 100, 97, 116, 97, 32, 105, 115, 32, 109, 105, 115, 115, 105, 110, 103, 32, 116, 104, 101, 115, 101, 32, 100, 101, 112, 101, 110, 100, 101, 110, 99, 105, 101, 115, 58, 32]⟩ (onlyF ys xs))] :: SA.blk g28 140 #[errV true g128, errV false g228, errV true g328] :: SA.er false g228 (toldF ⟨#[109, 117, 108, 116, 105, 112, 108, 101, 32, 100, 101, 112, 101, 110, 100, 101, 110, 99, 105, 101, 115, 32, 119, 105, 116, 104, 32, 110, 97, 109, 101, 32, 111, 114, 32, 97, 108, 105, 97, 115, 58, 32]⟩ (dupF [] xs)) :: SA.rt gc13 xs ys :: SA.blk g5 3 #[.int .i64 0] :: SA.blk g1 30 #[.bool false, .string ((rtM xs A c).fName), .string ((rtM xs A c).fHome), .string ((rtM xs A c).fVersion), .string ((rtM xs A c).fDescription), .string ((rtM xs A c).fIcon), .string ((rtM xs A c).fAPIVersion), .string ((rtM xs A c).fCondition), .string ((rtM xs A c).fTags), .string ((rtM xs A c).fAppVersion), .string ((rtM xs A c).fKubeVersion), .string ((rtM xs A c).fType), .slice ((rtM xs A c).fSources_a) ((rtM xs A c).fSources.length) ((rtM xs A c).fSources_c), .slice ((rtM xs A c).fKeywords_a) ((rtM xs A c).fKeywords.length) ((rtM xs A c).fKeywords_c), .slice ((rtM xs A c).fMaintainers_a) ((rtM xs A c).fMaintainers.length) ((rtM xs A c).fMaintainers_c), .slice ((rtM xs A c).fDependencies_a) ((rtM xs A c).fDependencies.length) ((rtM xs A c).fDependencies_c), .slice none 0 0, .slice (B) (ys.length) (d)] :: L) := S180.p7
        refine wp_cond_true (F199.ev (by kernel_rfl)) ?_
        refine wp_region_lit ?_
        refine op_q F199 (.iface 279 (.pointer (some ⟨g328, 0, none⟩))) ?_; intro a201 F201
        refine op_cq F201 (f := 225) (args := #[.pointer (some ⟨g328, 0, none⟩)]) (errText_sp g328 (toldF ⟨#[99, 104, 97, 114, 116, 32, 100, 105, 114, 101, 99, 116, 111, 114, 121, 32, 105, 115, 32, 109, 105, 115, 115, 105, 110, 103, 32, 116, 104, 101, 115, 101, 32, 100, 101, 112, 101, 110, 100, 101, 110, 99, 105, 101, 115, 58, 32]⟩ (onlyF xs ys)) _ _ _ S200 (fun w S => S.bk 0 rfl)) ?_
        rintro _ w202 ⟨rfl, S202⟩
        refine ⟨_, rfl, ?_⟩
        intro a203 F203
        refine op_q F203 (.string (toldF ⟨#[99, 104, 97, 114, 116, 32, 100, 105, 114, 101, 99, 116, 111, 114, 121, 32, 105, 115, 32, 109, 105, 115, 115, 105, 110, 103, 32, 116, 104, 101, 115, 101, 32, 100, 101, 112, 101, 110, 100, 101, 110, 99, 105, 101, 115, 58, 32]⟩ (onlyF xs ys))) ?_; intro a204 F204
        refine wpList_nil ?_
        refine hK194 _ _ ?_; clear hK194 K194
        refine wp_region_lit ?_
        refine op_rq (v := .slice A178 2 c178) F204 (r_ld rfl (F204.e (.pointer (some ⟨g3, 0, none⟩))) (v := .slice A178 2 c178) ((S202.bk 1 rfl).cell 0) Try.underlying22 rfl) ?_; intro a205 F205
        refine op_q F205 (.string (toldF ⟨#[99, 104, 97, 114, 116, 32, 100, 105, 114, 101, 99, 116, 111, 114, 121, 32, 105, 115, 32, 109, 105, 115, 115, 105, 110, 103, 32, 116, 104, 101, 115, 101, 32, 100, 101, 112, 101, 110, 100, 101, 110, 99, 105, 101, 115, 58, 32]⟩ (onlyF xs ys))) ?_; intro a206 F206
        refine op_sq F206 (s_news F206 9 #[.string (toldF ⟨#[99, 104, 97, 114, 116, 32, 100, 105, 114, 101, 99, 116, 111, 114, 121, 32, 105, 115, 32, 109, 105, 115, 115, 105, 110, 103, 32, 116, 104, 101, 115, 101, 32, 100, 101, 112, 101, 110, 100, 101, 110, 99, 105, 101, 115, 58, 32]⟩ (onlyF xs ys))] 1 (by kernel_rfl) (by kernel_rfl) (by kernel_rfl) S202) ?_
        rintro _ _ w208 ⟨g206, rfl, rfl⟩ S208 a208 F208
        refine op_sq F208 (s_app rfl Try.underlying22 1 _ tin9 rfl rfl (F208.e (.slice A178 2 c178)) S208.p3 ([Value.string (toldF ⟨#[99, 104, 97, 114, 116, 32, 100, 105, 114, 101, 99, 116, 111, 114, 121, 32, 105, 115, 32, 109, 105, 115, 115, 105, 110, 103, 32, 116, 104, 101, 115, 101, 32, 100, 101, 112, 101, 110, 100, 101, 110, 99, 105, 101, 115, 58, 32]⟩ (onlyF xs ys))]) (F208.e (.slice (some ⟨g206, 0, none⟩) 1 1)) ((S208.bk 0 rfl).sl (by simp)) rfl (by simp [Value.oneCell']) (by omega) (by omega) (n' := 3) (by omega) (cs' := strs (([toldF ⟨#[99, 104, 97, 114, 116, 32, 109, 101, 116, 97, 100, 97, 116, 97, 32, 105, 115, 32, 109, 105, 115, 115, 105, 110, 103, 32, 116, 104, 101, 115, 101, 32, 100, 101, 112, 101, 110, 100, 101, 110, 99, 105, 101, 115, 58, 32]⟩ (onlyF ys xs)] ++ [⟨#[]⟩]) ++ [toldF ⟨#[99, 104, 97, 114, 116, 32, 100, 105, 114, 101, 99, 116, 111, 114, 121, 32, 105, 115, 32, 109, 105, 115, 115, 105, 110, 103, 32, 116, 104, 101, 115, 101, 32, 100, 101, 112, 101, 110, 100, 101, 110, 99, 105, 101, 115, 58, 32]⟩ (onlyF xs ys)])) (by simp [strs])) ?_
        rintro _ _ w210 ⟨A209, c209, rfl, rfl⟩ S210 a210 F210
        refine op_sq0 F210 (s_st rfl (F210.e (.pointer (some ⟨g3, 0, none⟩))) (F210.e (.slice A209 3 c209)) S210.p3 (by kernel_rfl) rfl rfl rfl (cs := #[.slice A209 3 c209]) (by kernel_rfl)) ?_
        rintro _ _ w211 rfl S211 F211
        refine wpList_nil ?_
        refine hK187 _ _ ?_; clear hK187 K187
        refine wp_region_lit ?_
        refine op_q F211 (.int .i64 3) ?_; intro a212 F212
        refine op_q F212 (.int .i64 3) ?_; intro a213 F213
        refine wpList_nil ?_
        refine hK183 _ _ ?_; clear hK183 K183
        refine fw_round1 fun K214 hK214 => ?_
        refine wp_seq_k fun K215 hK215 => ?_
        refine wp_region_lit ?_
        refine op_q F213 (.bool false) ?_; intro a216 F216
        refine wpList_nil ?_
        refine hK215 _ _ ?_; clear hK215 K215
        refine wp_seq_k fun K217 hK217 => ?_
        refine wp_cond_false (F216.ev (by kernel_rfl)) ?_
        refine wp_exit ?_
        refine ex_then ?_; clear hK217 K217
        refine ex_then ?_; clear hK214 K214
        refine ex_in ?_
        refine hK24 _ _ ?_; clear hK24 K24
        refine wp_seq_k fun K218 hK218 => ?_
        refine wp_region_lit ?_
        refine op_rq (v := .slice A209 3 c209) F216 (r_ld rfl (F216.e (.pointer (some ⟨g3, 0, none⟩))) (v := .slice A209 3 c209) ((S211.bk 0 rfl).cell 0) Try.underlying22 rfl) ?_; intro a219 F219
        refine op_sq0 F219 (s_st rfl (F219.e (.pointer (some ⟨g3, 0, none⟩))) (F219.e (.slice A209 3 c209)) S211 (by kernel_rfl) rfl rfl rfl (cs := #[.slice A209 3 c209]) (by kernel_rfl)) ?_
        rintro _ _ w220 rfl S220 F220
        refine op_sq0 F220 (s_st rfl (F220.e (.pointer (some ⟨g5, 0, none⟩))) (F220.e (.int .i64 0)) S220.p10 (by kernel_rfl) rfl rfl rfl (cs := #[.int .i64 0]) (by kernel_rfl)) ?_
        rintro _ _ w221 rfl S221 F221
        refine wpList_nil ?_
        refine hK218 _ _ ?_; clear hK218 K218
        refine wp_ret ?_
        have S222 := S221.p1.p1.p2
        have S223 := S222.p3.drop
        have S224 := S223.p3.drop
        have S225 := S224.p3.drop
        have S226 := S225.p3.drop
        have S227 := S226.p3.drop
        have S228 := S227.p3.drop
        have S229 := S228.p3.drop
        have S230 := S229.p3.drop
        have S231 := S230.p3.drop
        have S232 : Sp R w221 (SA.own (.slice A209 3 c209) 9 1 3 (strs [toldF ⟨#[99, 104, 97, 114, 116, 32, 109, 101, 116, 97, 100, 97, 116, 97, 32, 105, 115, 32, 109, 105, 115, 115, 105, 110, 103, 32, 116, 104, 101, 115, 101, 32, 100, 101, 112, 101, 110, 100, 101, 110, 99, 105, 101, 115, 58, 32]⟩ (onlyF ys xs), toldF ⟨#[109, 117, 108, 116, 105, 112, 108, 101, 32, 100, 101, 112, 101, 110, 100, 101, 110, 99, 105, 101, 115, 32, 119, 105, 116, 104, 32, 110, 97, 109, 101, 32, 111, 114, 32, 97, 108, 105, 97, 115, 58, 32]⟩ (dupF [] xs), toldF ⟨#[99, 104, 97, 114, 116, 32, 100, 105, 114, 101, 99, 116, 111, 114, 121, 32, 105, 115, 32, 109, 105, 115, 115, 105, 110, 103, 32, 116, 104, 101, 115, 101, 32, 100, 101, 112, 101, 110, 100, 101, 110, 99, 105, 101, 115, 58, 32]⟩ (onlyF xs ys)]) :: SA.blk g5 3 #[.int .i64 0] :: SA.blk g3 22 #[.slice A209 3 c209] :: L) := by rw [ht1]; exact S231
        refine (F221.leaveD (f := 96) (args := #[.pointer (some ⟨g3, 0, none⟩), .pointer (some ⟨g5, 0, none⟩)]) (by simp [go_sem]) (catch96 g3 g5 _) (results2 Try.results43 (F221.rvc (p := ⟨g3, 0, none⟩) (by kernel_rfl) (load_one _ _ _ (.slice A209 3 c209) ((S221.bk 1 rfl).cell 0) _ Try.underlying22 rfl)) (F221.rvc (p := ⟨g5, 0, none⟩) (by kernel_rfl) (load_one _ _ _ (.int .i64 0) ((S221.bk 0 rfl).cell 0) _ Try.underlying3 rfl))) ?_).1
        exact ⟨A209, c209, rfl, S232.p1.drop.p1.drop⟩
      · have F233 := F197.sb 25 (by kernel_rfl) hc198
        subst hc198
        have ht2 : toldF ⟨#[99, 104, 97, 114, 116, 32, 100, 105, 114, 101, 99, 116, 111, 114, 121, 32, 105, 115, 32, 109, 105, 115, 115, 105, 110, 103, 32, 116, 104, 101, 115, 101, 32, 100, 101, 112, 101, 110, 100, 101, 110, 99, 105, 101, 115, 58, 32]⟩ (onlyF xs ys) = ⟨#[]⟩ := told_no hp2_28
        refine wp_cond_false (F233.ev (by kernel_rfl)) ?_
        refine wp_skip ?_
        refine hK194 _ _ ?_; clear hK194 K194
        refine wp_region_lit ?_
        refine op_rq (v := .slice A178 2 c178) F233 (r_ld rfl (F233.e (.pointer (some ⟨g3, 0, none⟩))) (v := .slice A178 2 c178) ((S180.bk 0 rfl).cell 0) Try.underlying22 rfl) ?_; intro a234 F234
        refine op_q F234 (.string ⟨#[]⟩) ?_; intro a235 F235
        refine op_sq F235 (s_news F235 9 #[.string ⟨#[]⟩] 1 (by kernel_rfl) (by kernel_rfl) (by kernel_rfl) S180) ?_
        rintro _ _ w237 ⟨g235, rfl, rfl⟩ S237 a237 F237
        refine op_sq F237 (s_app rfl Try.underlying22 1 _ tin9 rfl rfl (F237.e (.slice A178 2 c178)) S237.p2 ([Value.string ⟨#[]⟩]) (F237.e (.slice (some ⟨g235, 0, none⟩) 1 1)) ((S237.bk 0 rfl).sl (by simp)) rfl (by simp [Value.oneCell']) (by omega) (by omega) (n' := 3) (by omega) (cs' := strs (([toldF ⟨#[99, 104, 97, 114, 116, 32, 109, 101, 116, 97, 100, 97, 116, 97, 32, 105, 115, 32, 109, 105, 115, 115, 105, 110, 103, 32, 116, 104, 101, 115, 101, 32, 100, 101, 112, 101, 110, 100, 101, 110, 99, 105, 101, 115, 58, 32]⟩ (onlyF ys xs)] ++ [⟨#[]⟩]) ++ [⟨#[]⟩])) (by simp [strs])) ?_
        rintro _ _ w239 ⟨A238, c238, rfl, rfl⟩ S239 a239 F239
        refine op_sq0 F239 (s_st rfl (F239.e (.pointer (some ⟨g3, 0, none⟩))) (F239.e (.slice A238 3 c238)) S239.p2 (by kernel_rfl) rfl rfl rfl (cs := #[.slice A238 3 c238]) (by kernel_rfl)) ?_
        rintro _ _ w240 rfl S240 F240
        refine wpList_nil ?_
        refine hK187 _ _ ?_; clear hK187 K187
        refine wp_region_lit ?_
        refine op_q F240 (.int .i64 3) ?_; intro a241 F241
        refine op_q F241 (.int .i64 3) ?_; intro a242 F242
        refine wpList_nil ?_
        refine hK183 _ _ ?_; clear hK183 K183
        refine fw_round1 fun K243 hK243 => ?_
        refine wp_seq_k fun K244 hK244 => ?_
        refine wp_region_lit ?_
        refine op_q F242 (.bool false) ?_; intro a245 F245
        refine wpList_nil ?_
        refine hK244 _ _ ?_; clear hK244 K244
        refine wp_seq_k fun K246 hK246 => ?_
        refine wp_cond_false (F245.ev (by kernel_rfl)) ?_
        refine wp_exit ?_
        refine ex_then ?_; clear hK246 K246
        refine ex_then ?_; clear hK243 K243
        refine ex_in ?_
        refine hK24 _ _ ?_; clear hK24 K24
        refine wp_seq_k fun K247 hK247 => ?_
        refine wp_region_lit ?_
        refine op_rq (v := .slice A238 3 c238) F245 (r_ld rfl (F245.e (.pointer (some ⟨g3, 0, none⟩))) (v := .slice A238 3 c238) ((S240.bk 0 rfl).cell 0) Try.underlying22 rfl) ?_; intro a248 F248
        refine op_sq0 F248 (s_st rfl (F248.e (.pointer (some ⟨g3, 0, none⟩))) (F248.e (.slice A238 3 c238)) S240 (by kernel_rfl) rfl rfl rfl (cs := #[.slice A238 3 c238]) (by kernel_rfl)) ?_
        rintro _ _ w249 rfl S249 F249
        refine op_sq0 F249 (s_st rfl (F249.e (.pointer (some ⟨g5, 0, none⟩))) (F249.e (.int .i64 0)) S249.p10 (by kernel_rfl) rfl rfl rfl (cs := #[.int .i64 0]) (by kernel_rfl)) ?_
        rintro _ _ w250 rfl S250 F250
        refine wpList_nil ?_
        refine hK247 _ _ ?_; clear hK247 K247
        refine wp_ret ?_
        have S251 := S250.p1.p1.p2
        have S252 := S251.p3.drop
        have S253 := S252.p3.drop
        have S254 := S253.p3.drop
        have S255 := S254.p3.drop
        have S256 := S255.p3.drop
        have S257 := S256.p3.drop
        have S258 := S257.p3.drop
        have S259 := S258.p3.drop
        have S260 := S259.p3.drop
        have S261 : Sp R w250 (SA.own (.slice A238 3 c238) 9 1 3 (strs [toldF ⟨#[99, 104, 97, 114, 116, 32, 109, 101, 116, 97, 100, 97, 116, 97, 32, 105, 115, 32, 109, 105, 115, 115, 105, 110, 103, 32, 116, 104, 101, 115, 101, 32, 100, 101, 112, 101, 110, 100, 101, 110, 99, 105, 101, 115, 58, 32]⟩ (onlyF ys xs), toldF ⟨#[109, 117, 108, 116, 105, 112, 108, 101, 32, 100, 101, 112, 101, 110, 100, 101, 110, 99, 105, 101, 115, 32, 119, 105, 116, 104, 32, 110, 97, 109, 101, 32, 111, 114, 32, 97, 108, 105, 97, 115, 58, 32]⟩ (dupF [] xs), toldF ⟨#[99, 104, 97, 114, 116, 32, 100, 105, 114, 101, 99, 116, 111, 114, 121, 32, 105, 115, 32, 109, 105, 115, 115, 105, 110, 103, 32, 116, 104, 101, 115, 101, 32, 100, 101, 112, 101, 110, 100, 101, 110, 99, 105, 101, 115, 58, 32]⟩ (onlyF xs ys)]) :: SA.blk g5 3 #[.int .i64 0] :: SA.blk g3 22 #[.slice A238 3 c238] :: L) := by rw [ht1, ht2]; exact S260
        refine (F250.leaveD (f := 96) (args := #[.pointer (some ⟨g3, 0, none⟩), .pointer (some ⟨g5, 0, none⟩)]) (by simp [go_sem]) (catch96 g3 g5 _) (results2 Try.results43 (F250.rvc (p := ⟨g3, 0, none⟩) (by kernel_rfl) (load_one _ _ _ (.slice A238 3 c238) ((S250.bk 1 rfl).cell 0) _ Try.underlying22 rfl)) (F250.rvc (p := ⟨g5, 0, none⟩) (by kernel_rfl) (load_one _ _ _ (.int .i64 0) ((S250.bk 0 rfl).cell 0) _ Try.underlying3 rfl))) ?_).1
        exact ⟨A238, c238, rfl, S261.p1.drop.p1.drop⟩
  · have F262 := F46.sb 25 (by kernel_rfl) hc47
    subst hc47
    have ht0 : toldF ⟨#[99, 104, 97, 114, 116, 32, 109, 101, 116, 97, 100, 97, 116, 97, 32, 105, 115, 32, 109, 105, 115, 115, 105, 110, 103, 32, 116, 104, 101, 115, 101, 32, 100, 101, 112, 101, 110, 100, 101, 110, 99, 105, 101, 115, 58, 32]⟩ (onlyF ys xs) = ⟨#[]⟩ := told_no hp0_28
    refine wp_cond_false (F262.ev (by kernel_rfl)) ?_
    refine wp_skip ?_
    refine hK43 _ _ ?_; clear hK43 K43
    refine wp_region_lit ?_
    refine op_rq (v := .slice none 0 0) F262 (r_ld rfl (F262.e (.pointer (some ⟨g3, 0, none⟩))) (v := .slice none 0 0) ((S28.bk 6 rfl).cell 0) Try.underlying22 rfl) ?_; intro a263 F263
    refine op_q F263 (.string ⟨#[]⟩) ?_; intro a264 F264
    refine op_sq F264 (s_news F264 9 #[.string ⟨#[]⟩] 1 (by kernel_rfl) (by kernel_rfl) (by kernel_rfl) S28) ?_
    rintro _ _ w266 ⟨g264, rfl, rfl⟩ S266 a266 F266
    refine op_sq F266 (s_app rfl Try.underlying22 1 _ tin9 rfl rfl (F266.e (.slice none 0 0)) (Sp.nilown (e := 9) (sz := 1) S266) ([Value.string ⟨#[]⟩]) (F266.e (.slice (some ⟨g264, 0, none⟩) 1 1)) ((S266.bk 0 rfl).sl (by simp)) rfl (by simp [Value.oneCell']) (by omega) (by omega) (n' := 1) (by omega) (cs' := strs [⟨#[]⟩]) (by first | rfl | simp [strs])) ?_
    rintro _ _ w268 ⟨A267, c267, rfl, rfl⟩ S268 a268 F268
    refine op_sq0 F268 (s_st rfl (F268.e (.pointer (some ⟨g3, 0, none⟩))) (F268.e (.slice A267 1 c267)) S268.p8 (by kernel_rfl) rfl rfl rfl (cs := #[.slice A267 1 c267]) (by kernel_rfl)) ?_
    rintro _ _ w269 rfl S269 F269
    refine wpList_nil ?_
    refine hK36 _ _ ?_; clear hK36 K36
    refine wp_region_lit ?_
    refine op_q F269 (.int .i64 1) ?_; intro a270 F270
    refine op_q F270 (.int .i64 1) ?_; intro a271 F271
    refine wpList_nil ?_
    refine hK32 _ _ ?_; clear hK32 K32
    refine fw_round1 fun K272 hK272 => ?_
    refine wp_seq_k fun K273 hK273 => ?_
    refine wp_region_lit ?_
    refine op_q F271 (.bool true) ?_; intro a274 F274
    refine wpList_nil ?_
    refine hK273 _ _ ?_; clear hK273 K273
    refine wp_seq_k fun K275 hK275 => ?_
    refine wp_cond_true (F274.ev (by kernel_rfl)) ?_
    refine wp_skip ?_
    refine hK275 _ _ ?_; clear hK275 K275
    refine wp_seq_k fun K276 hK276 => ?_
    refine wp_block ?_
    refine wp_seq_k fun K277 hK277 => ?_
    refine wp_region_lit ?_
    refine op_rq (v := .pointer (some ⟨g28, 1, none⟩)) F274 (r_ix rfl Try.underlying161 1 (by kernel_rfl) (F274.e (.slice (some ⟨g28, 0, none⟩) 3 3)) rfl (F274.e (.int .i64 1)) 1 (by first | rfl | omega | simp) (by first | omega | (simp; done) | (simp; omega)) (by kernel_rfl)) ?_; intro a278 F278
    refine op_rq (v := errV b228 g228) F278 (r_ld rfl (F278.e (.pointer (some ⟨g28, 1, none⟩))) (v := errV b228 g228) ((S269.bk 3 rfl).cell 1) Try.underlying140 rfl) ?_; intro a279 F279
    refine op_q F279 (errV b228 g228) ?_; intro a280 F280
    refine wpList_nil ?_
    refine hK277 _ _ ?_; clear hK277 K277
    refine wp_seq_k fun K281 hK281 => ?_
    refine wp_region_lit ?_
    refine op_q F280 (.string ⟨#[]⟩) ?_; intro a282 F282
    refine wpList_nil ?_
    refine hK281 _ _ ?_; clear hK281 K281
    refine wp_seq_k fun K283 hK283 => ?_
    refine wp_seq_k fun K284 hK284 => ?_
    refine wp_region_lit ?_
    refine op_q F282 (errV b228 g228) ?_; intro a285 F285
    refine op_rq (v := .bool b228) F285 (r_errne rfl (F285.e (errV b228 g228))) ?_; intro a286 F286
    refine wpList_nil ?_
    refine hK284 _ _ ?_; clear hK284 K284
    rcases btf (b228) with hc287 | hc287
    · have F288 := F286.sb 25 (by kernel_rfl) hc287
      subst hc287
      have S289 : Sp R w269 (SA.blk g228 281 #[.string (toldF ⟨#[109, 117, 108, 116, 105, 112, 108, 101, 32, 100, 101, 112, 101, 110, 100, 101, 110, 99, 105, 101, 115, 32, 119, 105, 116, 104, 32, 110, 97, 109, 101, 32, 111, 114, 32, 97, 108, 105, 97, 115, 58, 32]⟩ (dupF [] xs))] :: SA.blk g3 22 #[.slice A267 1 c267] :: SA.own (.slice A267 1 c267) 9 1 1 (strs [⟨#[]⟩]) :: SA.blk g264 9 #[.string ⟨#[]⟩] :: SA.blk g28 140 #[errV false g128, errV true g228, errV b328 g328] :: SA.er false g128 (toldF ⟨#[99, 104, 97, 114, 116, 32, 109, 101, 116, 97, 100, 97, 116, 97, 32, 105, 115, 32, 109, 105, 115, 115, 105, 110, 103, 32, 116, 104, 101, 115, 101, 32, 100, 101, 112, 101, 110, 100, 101, 110, 99, 105, 101, 115, 58, 32]⟩ (onlyF ys xs)) :: SA.er b328 g328 (toldF ⟨#[99, 104, 97, 114, 116, 32, 100, 105, 114, 101, 99, 116, 111, 114, 121, 32, 105, 115, 32, 109, 105, 115, 115, 105, 110, 103, 32, 116, 104, 101, 115, 101, 32, 100, 101, 112, 101, 110, 100, 101, 110, 99, 105, 101, 115, 58, 32]⟩ (onlyF xs ys)) :: SA.rt gc13 xs ys :: SA.blk g5 3 #[.int .i64 0] :: SA.blk g1 30 #[.bool false, .string ((rtM xs A c).fName), .string ((rtM xs A c).fHome), .string ((rtM xs A c).fVersion), .string ((rtM xs A c).fDescription), .string ((rtM xs A c).fIcon), .string ((rtM xs A c).fAPIVersion), .string ((rtM xs A c).fCondition), .string ((rtM xs A c).fTags), .string ((rtM xs A c).fAppVersion), .string ((rtM xs A c).fKubeVersion), .string ((rtM xs A c).fType), .slice ((rtM xs A c).fSources_a) ((rtM xs A c).fSources.length) ((rtM xs A c).fSources_c), .slice ((rtM xs A c).fKeywords_a) ((rtM xs A c).fKeywords.length) ((rtM xs A c).fKeywords_c), .slice ((rtM xs A c).fMaintainers_a) ((rtM xs A c).fMaintainers.length) ((rtM xs A c).fMaintainers_c), .slice ((rtM xs A c).fDependencies_a) ((rtM xs A c).fDependencies.length) ((rtM xs A c).fDependencies_c), .slice none 0 0, .slice (B) (ys.length) (d)] :: L) := S269.p5
      refine wp_cond_true (F288.ev (by kernel_rfl)) ?_
      refine wp_region_lit ?_
      refine op_q F288 (.iface 279 (.pointer (some ⟨g228, 0, none⟩))) ?_; intro a290 F290
      refine op_cq F290 (f := 225) (args := #[.pointer (some ⟨g228, 0, none⟩)]) (errText_sp g228 (toldF ⟨#[109, 117, 108, 116, 105, 112, 108, 101, 32, 100, 101, 112, 101, 110, 100, 101, 110, 99, 105, 101, 115, 32, 119, 105, 116, 104, 32, 110, 97, 109, 101, 32, 111, 114, 32, 97, 108, 105, 97, 115, 58, 32]⟩ (dupF [] xs)) _ _ _ S289 (fun w S => S.bk 0 rfl)) ?_
      rintro _ w291 ⟨rfl, S291⟩
      refine ⟨_, rfl, ?_⟩
      intro a292 F292
      refine op_q F292 (.string (toldF ⟨#[109, 117, 108, 116, 105, 112, 108, 101, 32, 100, 101, 112, 101, 110, 100, 101, 110, 99, 105, 101, 115, 32, 119, 105, 116, 104, 32, 110, 97, 109, 101, 32, 111, 114, 32, 97, 108, 105, 97, 115, 58, 32]⟩ (dupF [] xs))) ?_; intro a293 F293
      refine wpList_nil ?_
      refine hK283 _ _ ?_; clear hK283 K283
      refine wp_region_lit ?_
      refine op_rq (v := .slice A267 1 c267) F293 (r_ld rfl (F293.e (.pointer (some ⟨g3, 0, none⟩))) (v := .slice A267 1 c267) ((S291.bk 1 rfl).cell 0) Try.underlying22 rfl) ?_; intro a294 F294
      refine op_q F294 (.string (toldF ⟨#[109, 117, 108, 116, 105, 112, 108, 101, 32, 100, 101, 112, 101, 110, 100, 101, 110, 99, 105, 101, 115, 32, 119, 105, 116, 104, 32, 110, 97, 109, 101, 32, 111, 114, 32, 97, 108, 105, 97, 115, 58, 32]⟩ (dupF [] xs))) ?_; intro a295 F295
      refine op_sq F295 (s_news F295 9 #[.string (toldF ⟨#[109, 117, 108, 116, 105, 112, 108, 101, 32, 100, 101, 112, 101, 110, 100, 101, 110, 99, 105, 101, 115, 32, 119, 105, 116, 104, 32, 110, 97, 109, 101, 32, 111, 114, 32, 97, 108, 105, 97, 115, 58, 32]⟩ (dupF [] xs))] 1 (by kernel_rfl) (by kernel_rfl) (by kernel_rfl) S291) ?_
      rintro _ _ w297 ⟨g295, rfl, rfl⟩ S297 a297 F297
      refine op_sq F297 (s_app rfl Try.underlying22 1 _ tin9 rfl rfl (F297.e (.slice A267 1 c267)) S297.p3 ([Value.string (toldF ⟨#[109, 117, 108, 116, 105, 112, 108, 101, 32, 100, 101, 112, 101, 110, 100, 101, 110, 99, 105, 101, 115, 32, 119, 105, 116, 104, 32, 110, 97, 109, 101, 32, 111, 114, 32, 97, 108, 105, 97, 115, 58, 32]⟩ (dupF [] xs))]) (F297.e (.slice (some ⟨g295, 0, none⟩) 1 1)) ((S297.bk 0 rfl).sl (by simp)) rfl (by simp [Value.oneCell']) (by omega) (by omega) (n' := 2) (by omega) (cs' := strs ([⟨#[]⟩] ++ [toldF ⟨#[109, 117, 108, 116, 105, 112, 108, 101, 32, 100, 101, 112, 101, 110, 100, 101, 110, 99, 105, 101, 115, 32, 119, 105, 116, 104, 32, 110, 97, 109, 101, 32, 111, 114, 32, 97, 108, 105, 97, 115, 58, 32]⟩ (dupF [] xs)])) (by simp [strs])) ?_
      rintro _ _ w299 ⟨A298, c298, rfl, rfl⟩ S299 a299 F299
      refine op_sq0 F299 (s_st rfl (F299.e (.pointer (some ⟨g3, 0, none⟩))) (F299.e (.slice A298 2 c298)) S299.p3 (by kernel_rfl) rfl rfl rfl (cs := #[.slice A298 2 c298]) (by kernel_rfl)) ?_
      rintro _ _ w300 rfl S300 F300
      refine wpList_nil ?_
      refine hK276 _ _ ?_; clear hK276 K276
      refine wp_region_lit ?_
      refine op_q F300 (.int .i64 2) ?_; intro a301 F301
      refine op_q F301 (.int .i64 2) ?_; intro a302 F302
      refine wpList_nil ?_
      refine hK272 _ _ ?_; clear hK272 K272
      refine fw_round1 fun K303 hK303 => ?_
      refine wp_seq_k fun K304 hK304 => ?_
      refine wp_region_lit ?_
      refine op_q F302 (.bool true) ?_; intro a305 F305
      refine wpList_nil ?_
      refine hK304 _ _ ?_; clear hK304 K304
      refine wp_seq_k fun K306 hK306 => ?_
      refine wp_cond_true (F305.ev (by kernel_rfl)) ?_
      refine wp_skip ?_
      refine hK306 _ _ ?_; clear hK306 K306
      refine wp_seq_k fun K307 hK307 => ?_
      refine wp_block ?_
      refine wp_seq_k fun K308 hK308 => ?_
      refine wp_region_lit ?_
      refine op_rq (v := .pointer (some ⟨g28, 2, none⟩)) F305 (r_ix rfl Try.underlying161 1 (by kernel_rfl) (F305.e (.slice (some ⟨g28, 0, none⟩) 3 3)) rfl (F305.e (.int .i64 2)) 2 (by first | rfl | omega | simp) (by first | omega | (simp; done) | (simp; omega)) (by kernel_rfl)) ?_; intro a309 F309
      refine op_rq (v := errV b328 g328) F309 (r_ld rfl (F309.e (.pointer (some ⟨g28, 2, none⟩))) (v := errV b328 g328) ((S300.bk 5 rfl).cell 2) Try.underlying140 rfl) ?_; intro a310 F310
      refine op_q F310 (errV b328 g328) ?_; intro a311 F311
      refine wpList_nil ?_
      refine hK308 _ _ ?_; clear hK308 K308
      refine wp_seq_k fun K312 hK312 => ?_
      refine wp_region_lit ?_
      refine op_q F311 (.string ⟨#[]⟩) ?_; intro a313 F313
      refine wpList_nil ?_
      refine hK312 _ _ ?_; clear hK312 K312
      refine wp_seq_k fun K314 hK314 => ?_
      refine wp_seq_k fun K315 hK315 => ?_
      refine wp_region_lit ?_
      refine op_q F313 (errV b328 g328) ?_; intro a316 F316
      refine op_rq (v := .bool b328) F316 (r_errne rfl (F316.e (errV b328 g328))) ?_; intro a317 F317
      refine wpList_nil ?_
      refine hK315 _ _ ?_; clear hK315 K315
      rcases btf (b328) with hc318 | hc318
      · have F319 := F317.sb 25 (by kernel_rfl) hc318
        subst hc318
        have S320 : Sp R w300 (SA.blk g328 281 #[.string (toldF ⟨#[99, 104, 97, 114, 116, 32, 100, 105, 114, 101, 99, 116, 111, 114, 121, 32, 105, 115, 32, 109, 105, 115, 115, 105, 110, 103, 32, 116, 104, 101, 115, 101, 32, 100, 101, 112, 101, 110, 100, 101, 110, 99, 105, 101, 115, 58, 32]⟩ (onlyF xs ys))] :: SA.blk g3 22 #[.slice A298 2 c298] :: SA.own (.slice A298 2 c298) 9 1 2 (strs ([⟨#[]⟩] ++ [toldF ⟨#[109, 117, 108, 116, 105, 112, 108, 101, 32, 100, 101, 112, 101, 110, 100, 101, 110, 99, 105, 101, 115, 32, 119, 105, 116, 104, 32, 110, 97, 109, 101, 32, 111, 114, 32, 97, 108, 105, 97, 115, 58, 32]⟩ (dupF [] xs)])) :: SA.blk g295 9 #[.string (toldF ⟨#[109, 117, 108, 116, 105, 112, 108, 101, 32, 100, 101, 112, 101, 110, 100, 101, 110, 99, 105, 101, 115, 32, 119, 105, 116, 104, 32, 110, 97, 109, 101, 32, 111, 114, 32, 97, 108, 105, 97, 115, 58, 32]⟩ (dupF [] xs))] :: SA.blk g228 281 #[.string (toldF ⟨#[109, 117, 108, 116, 105, 112, 108, 101, 32, 100, 101, 112, 101, 110, 100, 101, 110, 99, 105, 101, 115, 32, 119, 105, 116, 104, 32, 110, 97, 109, 101, 32, 111, 114, 32, 97, 108, 105, 97, 115, 58, 32]⟩ (dupF [] xs))] :: SA.blk g264 9 #[.string ⟨#[]⟩] :: SA.blk g28 140 #[errV false g128, errV true g228, errV true g328] :: SA.er false g128 (toldF ⟨#[99, 104, 97, 114, 116, 32, 109, 101, 116, 97, 100, 97, 116, 97, 32, 105, 115, 32, 109, 105, 115, 115, 105, 110, 103, 32, 116, 104, 101, 115, 101, 32, 100, 101, 112, 101, 110, 100, 101, 110, 99, 105, 101, 115, 58, 32]⟩ (onlyF ys xs)) :: SA.rt gc13 xs ys :: SA.blk g5 3 #[.int .i64 0] :: SA.blk g1 30 #[.bool false, .string ((rtM xs A c).fName), .string ((rtM xs A c).fHome), .string ((rtM xs A c).fVersion), .string ((rtM xs A c).fDescription), .string ((rtM xs A c).fIcon), .string ((rtM xs A c).fAPIVersion), .string ((rtM xs A c).fCondition), .string ((rtM xs A c).fTags), .string ((rtM xs A c).fAppVersion), .string ((rtM xs A c).fKubeVersion), .string ((rtM xs A c).fType), .slice ((rtM xs A c).fSources_a) ((rtM xs A c).fSources.length) ((rtM xs A c).fSources_c), .slice ((rtM xs A c).fKeywords_a) ((rtM xs A c).fKeywords.length) ((rtM xs A c).fKeywords_c), .slice ((rtM xs A c).fMaintainers_a) ((rtM xs A c).fMaintainers.length) ((rtM xs A c).fMaintainers_c), .slice ((rtM xs A c).fDependencies_a) ((rtM xs A c).fDependencies.length) ((rtM xs A c).fDependencies_c), .slice none 0 0, .slice (B) (ys.length) (d)] :: L) := S300.p7
        refine wp_cond_true (F319.ev (by kernel_rfl)) ?_
        refine wp_region_lit ?_
        refine op_q F319 (.iface 279 (.pointer (some ⟨g328, 0, none⟩))) ?_; intro a321 F321
        refine op_cq F321 (f := 225) (args := #[.pointer (some ⟨g328, 0, none⟩)]) (errText_sp g328 (toldF ⟨#[99, 104, 97, 114, 116, 32, 100, 105, 114, 101, 99, 116, 111, 114, 121, 32, 105, 115, 32, 109, 105, 115, 115, 105, 110, 103, 32, 116, 104, 101, 115, 101, 32, 100, 101, 112, 101, 110, 100, 101, 110, 99, 105, 101, 115, 58, 32]⟩ (onlyF xs ys)) _ _ _ S320 (fun w S => S.bk 0 rfl)) ?_
        rintro _ w322 ⟨rfl, S322⟩
        refine ⟨_, rfl, ?_⟩
        intro a323 F323
        refine op_q F323 (.string (toldF ⟨#[99, 104, 97, 114, 116, 32, 100, 105, 114, 101, 99, 116, 111, 114, 121, 32, 105, 115, 32, 109, 105, 115, 115, 105, 110, 103, 32, 116, 104, 101, 115, 101, 32, 100, 101, 112, 101, 110, 100, 101, 110, 99, 105, 101, 115, 58, 32]⟩ (onlyF xs ys))) ?_; intro a324 F324
        refine wpList_nil ?_
        refine hK314 _ _ ?_; clear hK314 K314
        refine wp_region_lit ?_
        refine op_rq (v := .slice A298 2 c298) F324 (r_ld rfl (F324.e (.pointer (some ⟨g3, 0, none⟩))) (v := .slice A298 2 c298) ((S322.bk 1 rfl).cell 0) Try.underlying22 rfl) ?_; intro a325 F325
        refine op_q F325 (.string (toldF ⟨#[99, 104, 97, 114, 116, 32, 100, 105, 114, 101, 99, 116, 111, 114, 121, 32, 105, 115, 32, 109, 105, 115, 115, 105, 110, 103, 32, 116, 104, 101, 115, 101, 32, 100, 101, 112, 101, 110, 100, 101, 110, 99, 105, 101, 115, 58, 32]⟩ (onlyF xs ys))) ?_; intro a326 F326
        refine op_sq F326 (s_news F326 9 #[.string (toldF ⟨#[99, 104, 97, 114, 116, 32, 100, 105, 114, 101, 99, 116, 111, 114, 121, 32, 105, 115, 32, 109, 105, 115, 115, 105, 110, 103, 32, 116, 104, 101, 115, 101, 32, 100, 101, 112, 101, 110, 100, 101, 110, 99, 105, 101, 115, 58, 32]⟩ (onlyF xs ys))] 1 (by kernel_rfl) (by kernel_rfl) (by kernel_rfl) S322) ?_
        rintro _ _ w328 ⟨g326, rfl, rfl⟩ S328 a328 F328
        refine op_sq F328 (s_app rfl Try.underlying22 1 _ tin9 rfl rfl (F328.e (.slice A298 2 c298)) S328.p3 ([Value.string (toldF ⟨#[99, 104, 97, 114, 116, 32, 100, 105, 114, 101, 99, 116, 111, 114, 121, 32, 105, 115, 32, 109, 105, 115, 115, 105, 110, 103, 32, 116, 104, 101, 115, 101, 32, 100, 101, 112, 101, 110, 100, 101, 110, 99, 105, 101, 115, 58, 32]⟩ (onlyF xs ys))]) (F328.e (.slice (some ⟨g326, 0, none⟩) 1 1)) ((S328.bk 0 rfl).sl (by simp)) rfl (by simp [Value.oneCell']) (by omega) (by omega) (n' := 3) (by omega) (cs' := strs (([⟨#[]⟩] ++ [toldF ⟨#[109, 117, 108, 116, 105, 112, 108, 101, 32, 100, 101, 112, 101, 110, 100, 101, 110, 99, 105, 101, 115, 32, 119, 105, 116, 104, 32, 110, 97, 109, 101, 32, 111, 114, 32, 97, 108, 105, 97, 115, 58, 32]⟩ (dupF [] xs)]) ++ [toldF ⟨#[99, 104, 97, 114, 116, 32, 100, 105, 114, 101, 99, 116, 111, 114, 121, 32, 105, 115, 32, 109, 105, 115, 115, 105, 110, 103, 32, 116, 104, 101, 115, 101, 32, 100, 101, 112, 101, 110, 100, 101, 110, 99, 105, 101, 115, 58, 32]⟩ (onlyF xs ys)])) (by simp [strs])) ?_
        rintro _ _ w330 ⟨A329, c329, rfl, rfl⟩ S330 a330 F330
        refine op_sq0 F330 (s_st rfl (F330.e (.pointer (some ⟨g3, 0, none⟩))) (F330.e (.slice A329 3 c329)) S330.p3 (by kernel_rfl) rfl rfl rfl (cs := #[.slice A329 3 c329]) (by kernel_rfl)) ?_
        rintro _ _ w331 rfl S331 F331
        refine wpList_nil ?_
        refine hK307 _ _ ?_; clear hK307 K307
        refine wp_region_lit ?_
        refine op_q F331 (.int .i64 3) ?_; intro a332 F332
        refine op_q F332 (.int .i64 3) ?_; intro a333 F333
        refine wpList_nil ?_
        refine hK303 _ _ ?_; clear hK303 K303
        refine fw_round1 fun K334 hK334 => ?_
        refine wp_seq_k fun K335 hK335 => ?_
        refine wp_region_lit ?_
        refine op_q F333 (.bool false) ?_; intro a336 F336
        refine wpList_nil ?_
        refine hK335 _ _ ?_; clear hK335 K335
        refine wp_seq_k fun K337 hK337 => ?_
        refine wp_cond_false (F336.ev (by kernel_rfl)) ?_
        refine wp_exit ?_
        refine ex_then ?_; clear hK337 K337
        refine ex_then ?_; clear hK334 K334
        refine ex_in ?_
        refine hK24 _ _ ?_; clear hK24 K24
        refine wp_seq_k fun K338 hK338 => ?_
        refine wp_region_lit ?_
        refine op_rq (v := .slice A329 3 c329) F336 (r_ld rfl (F336.e (.pointer (some ⟨g3, 0, none⟩))) (v := .slice A329 3 c329) ((S331.bk 0 rfl).cell 0) Try.underlying22 rfl) ?_; intro a339 F339
        refine op_sq0 F339 (s_st rfl (F339.e (.pointer (some ⟨g3, 0, none⟩))) (F339.e (.slice A329 3 c329)) S331 (by kernel_rfl) rfl rfl rfl (cs := #[.slice A329 3 c329]) (by kernel_rfl)) ?_
        rintro _ _ w340 rfl S340 F340
        refine op_sq0 F340 (s_st rfl (F340.e (.pointer (some ⟨g5, 0, none⟩))) (F340.e (.int .i64 0)) S340.p10 (by kernel_rfl) rfl rfl rfl (cs := #[.int .i64 0]) (by kernel_rfl)) ?_
        rintro _ _ w341 rfl S341 F341
        refine wpList_nil ?_
        refine hK338 _ _ ?_; clear hK338 K338
        refine wp_ret ?_
        have S342 := S341.p1.p1.p2
        have S343 := S342.p3.drop
        have S344 := S343.p3.drop
        have S345 := S344.p3.drop
        have S346 := S345.p3.drop
        have S347 := S346.p3.drop
        have S348 := S347.p3.drop
        have S349 := S348.p3.drop
        have S350 := S349.p3.drop
        have S351 := S350.p3.drop
        have S352 : Sp R w341 (SA.own (.slice A329 3 c329) 9 1 3 (strs [toldF ⟨#[99, 104, 97, 114, 116, 32, 109, 101, 116, 97, 100, 97, 116, 97, 32, 105, 115, 32, 109, 105, 115, 115, 105, 110, 103, 32, 116, 104, 101, 115, 101, 32, 100, 101, 112, 101, 110, 100, 101, 110, 99, 105, 101, 115, 58, 32]⟩ (onlyF ys xs), toldF ⟨#[109, 117, 108, 116, 105, 112, 108, 101, 32, 100, 101, 112, 101, 110, 100, 101, 110, 99, 105, 101, 115, 32, 119, 105, 116, 104, 32, 110, 97, 109, 101, 32, 111, 114, 32, 97, 108, 105, 97, 115, 58, 32]⟩ (dupF [] xs), toldF ⟨#[99, 104, 97, 114, 116, 32, 100, 105, 114, 101, 99, 116, 111, 114, 121, 32, 105, 115, 32, 109, 105, 115, 115, 105, 110, 103, 32, 116, 104, 101, 115, 101, 32, 100, 101, 112, 101, 110, 100, 101, 110, 99, 105, 101, 115, 58, 32]⟩ (onlyF xs ys)]) :: SA.blk g5 3 #[.int .i64 0] :: SA.blk g3 22 #[.slice A329 3 c329] :: L) := by rw [ht0]; exact S351
        refine (F341.leaveD (f := 96) (args := #[.pointer (some ⟨g3, 0, none⟩), .pointer (some ⟨g5, 0, none⟩)]) (by simp [go_sem]) (catch96 g3 g5 _) (results2 Try.results43 (F341.rvc (p := ⟨g3, 0, none⟩) (by kernel_rfl) (load_one _ _ _ (.slice A329 3 c329) ((S341.bk 1 rfl).cell 0) _ Try.underlying22 rfl)) (F341.rvc (p := ⟨g5, 0, none⟩) (by kernel_rfl) (load_one _ _ _ (.int .i64 0) ((S341.bk 0 rfl).cell 0) _ Try.underlying3 rfl))) ?_).1
        exact ⟨A329, c329, rfl, S352.p1.drop.p1.drop⟩
      · have F353 := F317.sb 25 (by kernel_rfl) hc318
        subst hc318
        have ht2 : toldF ⟨#[99, 104, 97, 114, 116, 32, 100, 105, 114, 101, 99, 116, 111, 114, 121, 32, 105, 115, 32, 109, 105, 115, 115, 105, 110, 103, 32, 116, 104, 101, 115, 101, 32, 100, 101, 112, 101, 110, 100, 101, 110, 99, 105, 101, 115, 58, 32]⟩ (onlyF xs ys) = ⟨#[]⟩ := told_no hp2_28
        refine wp_cond_false (F353.ev (by kernel_rfl)) ?_
        refine wp_skip ?_
        refine hK314 _ _ ?_; clear hK314 K314
        refine wp_region_lit ?_
        refine op_rq (v := .slice A298 2 c298) F353 (r_ld rfl (F353.e (.pointer (some ⟨g3, 0, none⟩))) (v := .slice A298 2 c298) ((S300.bk 0 rfl).cell 0) Try.underlying22 rfl) ?_; intro a354 F354
        refine op_q F354 (.string ⟨#[]⟩) ?_; intro a355 F355
        refine op_sq F355 (s_news F355 9 #[.string ⟨#[]⟩] 1 (by kernel_rfl) (by kernel_rfl) (by kernel_rfl) S300) ?_
        rintro _ _ w357 ⟨g355, rfl, rfl⟩ S357 a357 F357
        refine op_sq F357 (s_app rfl Try.underlying22 1 _ tin9 rfl rfl (F357.e (.slice A298 2 c298)) S357.p2 ([Value.string ⟨#[]⟩]) (F357.e (.slice (some ⟨g355, 0, none⟩) 1 1)) ((S357.bk 0 rfl).sl (by simp)) rfl (by simp [Value.oneCell']) (by omega) (by omega) (n' := 3) (by omega) (cs' := strs (([⟨#[]⟩] ++ [toldF ⟨#[109, 117, 108, 116, 105, 112, 108, 101, 32, 100, 101, 112, 101, 110, 100, 101, 110, 99, 105, 101, 115, 32, 119, 105, 116, 104, 32, 110, 97, 109, 101, 32, 111, 114, 32, 97, 108, 105, 97, 115, 58, 32]⟩ (dupF [] xs)]) ++ [⟨#[]⟩])) (by simp [strs])) ?_
        rintro _ _ w359 ⟨A358, c358, rfl, rfl⟩ S359 a359 F359
        refine op_sq0 F359 (s_st rfl (F359.e (.pointer (some ⟨g3, 0, none⟩))) (F359.e (.slice A358 3 c358)) S359.p2 (by kernel_rfl) rfl rfl rfl (cs := #[.slice A358 3 c358]) (by kernel_rfl)) ?_
        rintro _ _ w360 rfl S360 F360
        refine wpList_nil ?_
        refine hK307 _ _ ?_; clear hK307 K307
        refine wp_region_lit ?_
        refine op_q F360 (.int .i64 3) ?_; intro a361 F361
        refine op_q F361 (.int .i64 3) ?_; intro a362 F362
        refine wpList_nil ?_
        refine hK303 _ _ ?_; clear hK303 K303
        refine fw_round1 fun K363 hK363 => ?_
        refine wp_seq_k fun K364 hK364 => ?_
        refine wp_region_lit ?_
        refine op_q F362 (.bool false) ?_; intro a365 F365
        refine wpList_nil ?_
        refine hK364 _ _ ?_; clear hK364 K364
        refine wp_seq_k fun K366 hK366 => ?_
        refine wp_cond_false (F365.ev (by kernel_rfl)) ?_
        refine wp_exit ?_
        refine ex_then ?_; clear hK366 K366
        refine ex_then ?_; clear hK363 K363
        refine ex_in ?_
        refine hK24 _ _ ?_; clear hK24 K24
        refine wp_seq_k fun K367 hK367 => ?_
        refine wp_region_lit ?_
        refine op_rq (v := .slice A358 3 c358) F365 (r_ld rfl (F365.e (.pointer (some ⟨g3, 0, none⟩))) (v := .slice A358 3 c358) ((S360.bk 0 rfl).cell 0) Try.underlying22 rfl) ?_; intro a368 F368
        refine op_sq0 F368 (s_st rfl (F368.e (.pointer (some ⟨g3, 0, none⟩))) (F368.e (.slice A358 3 c358)) S360 (by kernel_rfl) rfl rfl rfl (cs := #[.slice A358 3 c358]) (by kernel_rfl)) ?_
        rintro _ _ w369 rfl S369 F369
        refine op_sq0 F369 (s_st rfl (F369.e (.pointer (some ⟨g5, 0, none⟩))) (F369.e (.int .i64 0)) S369.p10 (by kernel_rfl) rfl rfl rfl (cs := #[.int .i64 0]) (by kernel_rfl)) ?_
        rintro _ _ w370 rfl S370 F370
        refine wpList_nil ?_
        refine hK367 _ _ ?_; clear hK367 K367
        refine wp_ret ?_
        have S371 := S370.p1.p1.p2
        have S372 := S371.p3.drop
        have S373 := S372.p3.drop
        have S374 := S373.p3.drop
        have S375 := S374.p3.drop
        have S376 := S375.p3.drop
        have S377 := S376.p3.drop
        have S378 := S377.p3.drop
        have S379 := S378.p3.drop
        have S380 := S379.p3.drop
        have S381 : Sp R w370 (SA.own (.slice A358 3 c358) 9 1 3 (strs [toldF ⟨#[99, 104, 97, 114, 116, 32, 109, 101, 116, 97, 100, 97, 116, 97, 32, 105, 115, 32, 109, 105, 115, 115, 105, 110, 103, 32, 116, 104, 101, 115, 101, 32, 100, 101, 112, 101, 110, 100, 101, 110, 99, 105, 101, 115, 58, 32]⟩ (onlyF ys xs), toldF ⟨#[109, 117, 108, 116, 105, 112, 108, 101, 32, 100, 101, 112, 101, 110, 100, 101, 110, 99, 105, 101, 115, 32, 119, 105, 116, 104, 32, 110, 97, 109, 101, 32, 111, 114, 32, 97, 108, 105, 97, 115, 58, 32]⟩ (dupF [] xs), toldF ⟨#[99, 104, 97, 114, 116, 32, 100, 105, 114, 101, 99, 116, 111, 114, 121, 32, 105, 115, 32, 109, 105, 115, 115, 105, 110, 103, 32, 116, 104, 101, 115, 101, 32, 100, 101, 112, 101, 110, 100, 101, 110, 99, 105, 101, 115, 58, 32]⟩ (onlyF xs ys)]) :: SA.blk g5 3 #[.int .i64 0] :: SA.blk g3 22 #[.slice A358 3 c358] :: L) := by rw [ht0, ht2]; exact S380
        refine (F370.leaveD (f := 96) (args := #[.pointer (some ⟨g3, 0, none⟩), .pointer (some ⟨g5, 0, none⟩)]) (by simp [go_sem]) (catch96 g3 g5 _) (results2 Try.results43 (F370.rvc (p := ⟨g3, 0, none⟩) (by kernel_rfl) (load_one _ _ _ (.slice A358 3 c358) ((S370.bk 1 rfl).cell 0) _ Try.underlying22 rfl)) (F370.rvc (p := ⟨g5, 0, none⟩) (by kernel_rfl) (load_one _ _ _ (.int .i64 0) ((S370.bk 0 rfl).cell 0) _ Try.underlying3 rfl))) ?_).1
        exact ⟨A358, c358, rfl, S381.p1.drop.p1.drop⟩
    · have F382 := F286.sb 25 (by kernel_rfl) hc287
      subst hc287
      have ht1 : toldF ⟨#[109, 117, 108, 116, 105, 112, 108, 101, 32, 100, 101, 112, 101, 110, 100, 101, 110, 99, 105, 101, 115, 32, 119, 105, 116, 104, 32, 110, 97, 109, 101, 32, 111, 114, 32, 97, 108, 105, 97, 115, 58, 32]⟩ (dupF [] xs) = ⟨#[]⟩ := told_no hp1_28
      refine wp_cond_false (F382.ev (by kernel_rfl)) ?_
      refine wp_skip ?_
      refine hK283 _ _ ?_; clear hK283 K283
      refine wp_region_lit ?_
      refine op_rq (v := .slice A267 1 c267) F382 (r_ld rfl (F382.e (.pointer (some ⟨g3, 0, none⟩))) (v := .slice A267 1 c267) ((S269.bk 0 rfl).cell 0) Try.underlying22 rfl) ?_; intro a383 F383
      refine op_q F383 (.string ⟨#[]⟩) ?_; intro a384 F384
      refine op_sq F384 (s_news F384 9 #[.string ⟨#[]⟩] 1 (by kernel_rfl) (by kernel_rfl) (by kernel_rfl) S269) ?_
      rintro _ _ w386 ⟨g384, rfl, rfl⟩ S386 a386 F386
      refine op_sq F386 (s_app rfl Try.underlying22 1 _ tin9 rfl rfl (F386.e (.slice A267 1 c267)) S386.p2 ([Value.string ⟨#[]⟩]) (F386.e (.slice (some ⟨g384, 0, none⟩) 1 1)) ((S386.bk 0 rfl).sl (by simp)) rfl (by simp [Value.oneCell']) (by omega) (by omega) (n' := 2) (by omega) (cs' := strs ([⟨#[]⟩] ++ [⟨#[]⟩])) (by simp [strs])) ?_
      rintro _ _ w388 ⟨A387, c387, rfl, rfl⟩ S388 a388 F388
      refine op_sq0 F388 (s_st rfl (F388.e (.pointer (some ⟨g3, 0, none⟩))) (F388.e (.slice A387 2 c387)) S388.p2 (by kernel_rfl) rfl rfl rfl (cs := #[.slice A387 2 c387]) (by kernel_rfl)) ?_
      rintro _ _ w389 rfl S389 F389
      refine wpList_nil ?_
      refine hK276 _ _ ?_; clear hK276 K276
      refine wp_region_lit ?_
      refine op_q F389 (.int .i64 2) ?_; intro a390 F390
      refine op_q F390 (.int .i64 2) ?_; intro a391 F391
      refine wpList_nil ?_
      refine hK272 _ _ ?_; clear hK272 K272
      refine fw_round1 fun K392 hK392 => ?_
      refine wp_seq_k fun K393 hK393 => ?_
      refine wp_region_lit ?_
      refine op_q F391 (.bool true) ?_; intro a394 F394
      refine wpList_nil ?_
      refine hK393 _ _ ?_; clear hK393 K393
      refine wp_seq_k fun K395 hK395 => ?_
      refine wp_cond_true (F394.ev (by kernel_rfl)) ?_
      refine wp_skip ?_
      refine hK395 _ _ ?_; clear hK395 K395
      refine wp_seq_k fun K396 hK396 => ?_
      refine wp_block ?_
      refine wp_seq_k fun K397 hK397 => ?_
      refine wp_region_lit ?_
      refine op_rq (v := .pointer (some ⟨g28, 2, none⟩)) F394 (r_ix rfl Try.underlying161 1 (by kernel_rfl) (F394.e (.slice (some ⟨g28, 0, none⟩) 3 3)) rfl (F394.e (.int .i64 2)) 2 (by first | rfl | omega | simp) (by first | omega | (simp; done) | (simp; omega)) (by kernel_rfl)) ?_; intro a398 F398
      refine op_rq (v := errV b328 g328) F398 (r_ld rfl (F398.e (.pointer (some ⟨g28, 2, none⟩))) (v := errV b328 g328) ((S389.bk 4 rfl).cell 2) Try.underlying140 rfl) ?_; intro a399 F399
      refine op_q F399 (errV b328 g328) ?_; intro a400 F400
      refine wpList_nil ?_
      refine hK397 _ _ ?_; clear hK397 K397
      refine wp_seq_k fun K401 hK401 => ?_
      refine wp_region_lit ?_
      refine op_q F400 (.string ⟨#[]⟩) ?_; intro a402 F402
      refine wpList_nil ?_
      refine hK401 _ _ ?_; clear hK401 K401
      refine wp_seq_k fun K403 hK403 => ?_
      refine wp_seq_k fun K404 hK404 => ?_
      refine wp_region_lit ?_
      refine op_q F402 (errV b328 g328) ?_; intro a405 F405
      refine op_rq (v := .bool b328) F405 (r_errne rfl (F405.e (errV b328 g328))) ?_; intro a406 F406
      refine wpList_nil ?_
      refine hK404 _ _ ?_; clear hK404 K404
      rcases btf (b328) with hc407 | hc407
      · have F408 := F406.sb 25 (by kernel_rfl) hc407
        subst hc407
        have S409 : Sp R w389 (SA.blk g328 281 #[.string (toldF ⟨#[99, 104, 97, 114, 116, 32, 100, 105, 114, 101, 99, 116, 111, 114, 121, 32, 105, 115, 32, 109, 105, 115, 115, 105, 110, 103, 32, 116, 104, 101, 115, 101, 32, 100, 101, 112, 101, 110, 100, 101, 110, 99, 105, 101, 115, 58, 32]⟩ (onlyF xs ys))] :: SA.blk g3 22 #[.slice A387 2 c387] :: SA.own (.slice A387 2 c387) 9 1 2 (strs ([⟨#[]⟩] ++ [⟨#[]⟩])) :: SA.blk g384 9 #[.string ⟨#[]⟩] :: SA.blk g264 9 #[.string ⟨#[]⟩] :: SA.blk g28 140 #[errV false g128, errV false g228, errV true g328] :: SA.er false g128 (toldF ⟨#[99, 104, 97, 114, 116, 32, 109, 101, 116, 97, 100, 97, 116, 97, 32, 105, 115, 32, 109, 105, 115, 115, 105, 110, 103, 32, 116, 104, 101, 115, 101, 32, 100, 101, 112, 101, 110, 100, 101, 110, 99, 105, 101, 115, 58, 32]⟩ (onlyF ys xs)) :: SA.er false g228 (toldF ⟨#[109, 117, 108, 116, 105, 112, 108, 101, 32, 100, 101, 112, 101, 110, 100, 101, 110, 99, 105, 101, 115, 32, 119, 105, 116, 104, 32, 110, 97, 109, 101, 32, 111, 114, 32, 97, 108, 105, 97, 115, 58, 32]⟩ (dupF [] xs)) :: SA.rt gc13 xs ys :: SA.blk g5 3 #[.int .i64 0] :: SA.blk g1 30 #[.bool false, .string ((rtM xs A c).fName), .string ((rtM xs A c).fHome), .string ((rtM xs A c).fVersion), .string ((rtM xs A c).fDescription), .string ((rtM xs A c).fIcon), .string ((rtM xs A c).fAPIVersion), .string ((rtM xs A c).fCondition), .string ((rtM xs A c).fTags), .string ((rtM xs A c).fAppVersion), .string ((rtM xs A c).fKubeVersion), .string ((rtM xs A c).fType), .slice ((rtM xs A c).fSources_a) ((rtM xs A c).fSources.length) ((rtM xs A c).fSources_c), .slice ((rtM xs A c).fKeywords_a) ((rtM xs A c).fKeywords.length) ((rtM xs A c).fKeywords_c), .slice ((rtM xs A c).fMaintainers_a) ((rtM xs A c).fMaintainers.length) ((rtM xs A c).fMaintainers_c), .slice ((rtM xs A c).fDependencies_a) ((rtM xs A c).fDependencies.length) ((rtM xs A c).fDependencies_c), .slice none 0 0, .slice (B) (ys.length) (d)] :: L) := S389.p7
        refine wp_cond_true (F408.ev (by kernel_rfl)) ?_
        refine wp_region_lit ?_
        refine op_q F408 (.iface 279 (.pointer (some ⟨g328, 0, none⟩))) ?_; intro a410 F410
        refine op_cq F410 (f := 225) (args := #[.pointer (some ⟨g328, 0, none⟩)]) (errText_sp g328 (toldF ⟨#[99, 104, 97, 114, 116, 32, 100, 105, 114, 101, 99, 116, 111, 114, 121, 32, 105, 115, 32, 109, 105, 115, 115, 105, 110, 103, 32, 116, 104, 101, 115, 101, 32, 100, 101, 112, 101, 110, 100, 101, 110, 99, 105, 101, 115, 58, 32]⟩ (onlyF xs ys)) _ _ _ S409 (fun w S => S.bk 0 rfl)) ?_
        rintro _ w411 ⟨rfl, S411⟩
        refine ⟨_, rfl, ?_⟩
        intro a412 F412
        refine op_q F412 (.string (toldF ⟨#[99, 104, 97, 114, 116, 32, 100, 105, 114, 101, 99, 116, 111, 114, 121, 32, 105, 115, 32, 109, 105, 115, 115, 105, 110, 103, 32, 116, 104, 101, 115, 101, 32, 100, 101, 112, 101, 110, 100, 101, 110, 99, 105, 101, 115, 58, 32]⟩ (onlyF xs ys))) ?_; intro a413 F413
        refine wpList_nil ?_
        refine hK403 _ _ ?_; clear hK403 K403
        refine wp_region_lit ?_
        refine op_rq (v := .slice A387 2 c387) F413 (r_ld rfl (F413.e (.pointer (some ⟨g3, 0, none⟩))) (v := .slice A387 2 c387) ((S411.bk 1 rfl).cell 0) Try.underlying22 rfl) ?_; intro a414 F414
        refine op_q F414 (.string (toldF ⟨#[99, 104, 97, 114, 116, 32, 100, 105, 114, 101, 99, 116, 111, 114, 121, 32, 105, 115, 32, 109, 105, 115, 115, 105, 110, 103, 32, 116, 104, 101, 115, 101, 32, 100, 101, 112, 101, 110, 100, 101, 110, 99, 105, 101, 115, 58, 32]⟩ (onlyF xs ys))) ?_; intro a415 F415
        refine op_sq F415 (s_news F415 9 #[.string (toldF ⟨#[99, 104, 97, 114, 116, 32, 100, 105, 114, 101, 99, 116, 111, 114, 121, 32, 105, 115, 32, 109, 105, 115, 115, 105, 110, 103, 32, 116, 104, 101, 115, 101, 32, 100, 101, 112, 101, 110, 100, 101, 110, 99, 105, 101, 115, 58, 32]⟩ (onlyF xs ys))] 1 (by kernel_rfl) (by kernel_rfl) (by kernel_rfl) S411) ?_
        rintro _ _ w417 ⟨g415, rfl, rfl⟩ S417 a417 F417
        refine op_sq F417 (s_app rfl Try.underlying22 1 _ tin9 rfl rfl (F417.e (.slice A387 2 c387)) S417.p3 ([Value.string (toldF ⟨#[99, 104, 97, 114, 116, 32, 100, 105, 114, 101, 99, 116, 111, 114, 121, 32, 105, 115, 32, 109, 105, 115, 115, 105, 110, 103, 32, 116, 104, 101, 115, 101, 32, 100, 101, 112, 101, 110, 100, 101, 110, 99, 105, 101, 115, 58, 32]⟩ (onlyF xs ys))]) (F417.e (.slice (some ⟨g415, 0, none⟩) 1 1)) ((S417.bk 0 rfl).sl (by simp)) rfl (by simp [Value.oneCell']) (by omega) (by omega) (n' := 3) (by omega) (cs' := strs (([⟨#[]⟩] ++ [⟨#[]⟩]) ++ [toldF ⟨#[99, 104, 97, 114, 116, 32, 100, 105, 114, 101, 99, 116, 111, 114, 121, 32, 105, 115, 32, 109, 105, 115, 115, 105, 110, 103, 32, 116, 104, 101, 115, 101, 32, 100, 101, 112, 101, 110, 100, 101, 110, 99, 105, 101, 115, 58, 32]⟩ (onlyF xs ys)])) (by simp [strs])) ?_
        rintro _ _ w419 ⟨A418, c418, rfl, rfl⟩ S419 a419 F419
        refine op_sq0 F419 (s_st rfl (F419.e (.pointer (some ⟨g3, 0, none⟩))) (F419.e (.slice A418 3 c418)) S419.p3 (by kernel_rfl) rfl rfl rfl (cs := #[.slice A418 3 c418]) (by kernel_rfl)) ?_
        rintro _ _ w420 rfl S420 F420
        refine wpList_nil ?_
        refine hK396 _ _ ?_; clear hK396 K396
        refine wp_region_lit ?_
        refine op_q F420 (.int .i64 3) ?_; intro a421 F421
        refine op_q F421 (.int .i64 3) ?_; intro a422 F422
        refine wpList_nil ?_
        refine hK392 _ _ ?_; clear hK392 K392
        refine fw_round1 fun K423 hK423 => ?_
        refine wp_seq_k fun K424 hK424 => ?_
        refine wp_region_lit ?_
        refine op_q F422 (.bool false) ?_; intro a425 F425
        refine wpList_nil ?_
        refine hK424 _ _ ?_; clear hK424 K424
        refine wp_seq_k fun K426 hK426 => ?_
        refine wp_cond_false (F425.ev (by kernel_rfl)) ?_
        refine wp_exit ?_
        refine ex_then ?_; clear hK426 K426
        refine ex_then ?_; clear hK423 K423
        refine ex_in ?_
        refine hK24 _ _ ?_; clear hK24 K24
        refine wp_seq_k fun K427 hK427 => ?_
        refine wp_region_lit ?_
        refine op_rq (v := .slice A418 3 c418) F425 (r_ld rfl (F425.e (.pointer (some ⟨g3, 0, none⟩))) (v := .slice A418 3 c418) ((S420.bk 0 rfl).cell 0) Try.underlying22 rfl) ?_; intro a428 F428
        refine op_sq0 F428 (s_st rfl (F428.e (.pointer (some ⟨g3, 0, none⟩))) (F428.e (.slice A418 3 c418)) S420 (by kernel_rfl) rfl rfl rfl (cs := #[.slice A418 3 c418]) (by kernel_rfl)) ?_
        rintro _ _ w429 rfl S429 F429
        refine op_sq0 F429 (s_st rfl (F429.e (.pointer (some ⟨g5, 0, none⟩))) (F429.e (.int .i64 0)) S429.p10 (by kernel_rfl) rfl rfl rfl (cs := #[.int .i64 0]) (by kernel_rfl)) ?_
        rintro _ _ w430 rfl S430 F430
        refine wpList_nil ?_
        refine hK427 _ _ ?_; clear hK427 K427
        refine wp_ret ?_
        have S431 := S430.p1.p1.p2
        have S432 := S431.p3.drop
        have S433 := S432.p3.drop
        have S434 := S433.p3.drop
        have S435 := S434.p3.drop
        have S436 := S435.p3.drop
        have S437 := S436.p3.drop
        have S438 := S437.p3.drop
        have S439 := S438.p3.drop
        have S440 := S439.p3.drop
        have S441 : Sp R w430 (SA.own (.slice A418 3 c418) 9 1 3 (strs [toldF ⟨#[99, 104, 97, 114, 116, 32, 109, 101, 116, 97, 100, 97, 116, 97, 32, 105, 115, 32, 109, 105, 115, 115, 105, 110, 103, 32, 116, 104, 101, 115, 101, 32, 100, 101, 112, 101, 110, 100, 101, 110, 99, 105, 101, 115, 58, 32]⟩ (onlyF ys xs), toldF ⟨#[109, 117, 108, 116, 105, 112, 108, 101, 32, 100, 101, 112, 101, 110, 100, 101, 110, 99, 105, 101, 115, 32, 119, 105, 116, 104, 32, 110, 97, 109, 101, 32, 111, 114, 32, 97, 108, 105, 97, 115, 58, 32]⟩ (dupF [] xs), toldF ⟨#[99, 104, 97, 114, 116, 32, 100, 105, 114, 101, 99, 116, 111, 114, 121, 32, 105, 115, 32, 109, 105, 115, 115, 105, 110, 103, 32, 116, 104, 101, 115, 101, 32, 100, 101, 112, 101, 110, 100, 101, 110, 99, 105, 101, 115, 58, 32]⟩ (onlyF xs ys)]) :: SA.blk g5 3 #[.int .i64 0] :: SA.blk g3 22 #[.slice A418 3 c418] :: L) := by rw [ht0, ht1]; exact S440
        refine (F430.leaveD (f := 96) (args := #[.pointer (some ⟨g3, 0, none⟩), .pointer (some ⟨g5, 0, none⟩)]) (by simp [go_sem]) (catch96 g3 g5 _) (results2 Try.results43 (F430.rvc (p := ⟨g3, 0, none⟩) (by kernel_rfl) (load_one _ _ _ (.slice A418 3 c418) ((S430.bk 1 rfl).cell 0) _ Try.underlying22 rfl)) (F430.rvc (p := ⟨g5, 0, none⟩) (by kernel_rfl) (load_one _ _ _ (.int .i64 0) ((S430.bk 0 rfl).cell 0) _ Try.underlying3 rfl))) ?_).1
        exact ⟨A418, c418, rfl, S441.p1.drop.p1.drop⟩
      · have F442 := F406.sb 25 (by kernel_rfl) hc407
        subst hc407
        have ht2 : toldF ⟨#[99, 104, 97, 114, 116, 32, 100, 105, 114, 101, 99, 116, 111, 114, 121, 32, 105, 115, 32, 109, 105, 115, 115, 105, 110, 103, 32, 116, 104, 101, 115, 101, 32, 100, 101, 112, 101, 110, 100, 101, 110, 99, 105, 101, 115, 58, 32]⟩ (onlyF xs ys) = ⟨#[]⟩ := told_no hp2_28
        refine wp_cond_false (F442.ev (by kernel_rfl)) ?_
        refine wp_skip ?_
        refine hK403 _ _ ?_; clear hK403 K403
        refine wp_region_lit ?_
        refine op_rq (v := .slice A387 2 c387) F442 (r_ld rfl (F442.e (.pointer (some ⟨g3, 0, none⟩))) (v := .slice A387 2 c387) ((S389.bk 0 rfl).cell 0) Try.underlying22 rfl) ?_; intro a443 F443
        refine op_q F443 (.string ⟨#[]⟩) ?_; intro a444 F444
        refine op_sq F444 (s_news F444 9 #[.string ⟨#[]⟩] 1 (by kernel_rfl) (by kernel_rfl) (by kernel_rfl) S389) ?_
        rintro _ _ w446 ⟨g444, rfl, rfl⟩ S446 a446 F446
        refine op_sq F446 (s_app rfl Try.underlying22 1 _ tin9 rfl rfl (F446.e (.slice A387 2 c387)) S446.p2 ([Value.string ⟨#[]⟩]) (F446.e (.slice (some ⟨g444, 0, none⟩) 1 1)) ((S446.bk 0 rfl).sl (by simp)) rfl (by simp [Value.oneCell']) (by omega) (by omega) (n' := 3) (by omega) (cs' := strs (([⟨#[]⟩] ++ [⟨#[]⟩]) ++ [⟨#[]⟩])) (by simp [strs])) ?_
        rintro _ _ w448 ⟨A447, c447, rfl, rfl⟩ S448 a448 F448
        refine op_sq0 F448 (s_st rfl (F448.e (.pointer (some ⟨g3, 0, none⟩))) (F448.e (.slice A447 3 c447)) S448.p2 (by kernel_rfl) rfl rfl rfl (cs := #[.slice A447 3 c447]) (by kernel_rfl)) ?_
        rintro _ _ w449 rfl S449 F449
        refine wpList_nil ?_
        refine hK396 _ _ ?_; clear hK396 K396
        refine wp_region_lit ?_
        refine op_q F449 (.int .i64 3) ?_; intro a450 F450
        refine op_q F450 (.int .i64 3) ?_; intro a451 F451
        refine wpList_nil ?_
        refine hK392 _ _ ?_; clear hK392 K392
        refine fw_round1 fun K452 hK452 => ?_
        refine wp_seq_k fun K453 hK453 => ?_
        refine wp_region_lit ?_
        refine op_q F451 (.bool false) ?_; intro a454 F454
        refine wpList_nil ?_
        refine hK453 _ _ ?_; clear hK453 K453
        refine wp_seq_k fun K455 hK455 => ?_
        refine wp_cond_false (F454.ev (by kernel_rfl)) ?_
        refine wp_exit ?_
        refine ex_then ?_; clear hK455 K455
        refine ex_then ?_; clear hK452 K452
        refine ex_in ?_
        refine hK24 _ _ ?_; clear hK24 K24
        refine wp_seq_k fun K456 hK456 => ?_
        refine wp_region_lit ?_
        refine op_rq (v := .slice A447 3 c447) F454 (r_ld rfl (F454.e (.pointer (some ⟨g3, 0, none⟩))) (v := .slice A447 3 c447) ((S449.bk 0 rfl).cell 0) Try.underlying22 rfl) ?_; intro a457 F457
        refine op_sq0 F457 (s_st rfl (F457.e (.pointer (some ⟨g3, 0, none⟩))) (F457.e (.slice A447 3 c447)) S449 (by kernel_rfl) rfl rfl rfl (cs := #[.slice A447 3 c447]) (by kernel_rfl)) ?_
        rintro _ _ w458 rfl S458 F458
        refine op_sq0 F458 (s_st rfl (F458.e (.pointer (some ⟨g5, 0, none⟩))) (F458.e (.int .i64 0)) S458.p10 (by kernel_rfl) rfl rfl rfl (cs := #[.int .i64 0]) (by kernel_rfl)) ?_
        rintro _ _ w459 rfl S459 F459
        refine wpList_nil ?_
        refine hK456 _ _ ?_; clear hK456 K456
        refine wp_ret ?_
        have S460 := S459.p1.p1.p2
        have S461 := S460.p3.drop
        have S462 := S461.p3.drop
        have S463 := S462.p3.drop
        have S464 := S463.p3.drop
        have S465 := S464.p3.drop
        have S466 := S465.p3.drop
        have S467 := S466.p3.drop
        have S468 := S467.p3.drop
        have S469 := S468.p3.drop
        have S470 : Sp R w459 (SA.own (.slice A447 3 c447) 9 1 3 (strs [toldF ⟨#[99, 104, 97, 114, 116, 32, 109, 101, 116, 97, 100, 97, 116, 97, 32, 105, 115, 32, 109, 105, 115, 115, 105, 110, 103, 32, 116, 104, 101, 115, 101, 32, 100, 101, 112, 101, 110, 100, 101, 110, 99, 105, 101, 115, 58, 32]⟩ (onlyF ys xs), toldF ⟨#[109, 117, 108, 116, 105, 112, 108, 101, 32, 100, 101, 112, 101, 110, 100, 101, 110, 99, 105, 101, 115, 32, 119, 105, 116, 104, 32, 110, 97, 109, 101, 32, 111, 114, 32, 97, 108, 105, 97, 115, 58, 32]⟩ (dupF [] xs), toldF ⟨#[99, 104, 97, 114, 116, 32, 100, 105, 114, 101, 99, 116, 111, 114, 121, 32, 105, 115, 32, 109, 105, 115, 115, 105, 110, 103, 32, 116, 104, 101, 115, 101, 32, 100, 101, 112, 101, 110, 100, 101, 110, 99, 105, 101, 115, 58, 32]⟩ (onlyF xs ys)]) :: SA.blk g5 3 #[.int .i64 0] :: SA.blk g3 22 #[.slice A447 3 c447] :: L) := by rw [ht0, ht1, ht2]; exact S469
        refine (F459.leaveD (f := 96) (args := #[.pointer (some ⟨g3, 0, none⟩), .pointer (some ⟨g5, 0, none⟩)]) (by simp [go_sem]) (catch96 g3 g5 _) (results2 Try.results43 (F459.rvc (p := ⟨g3, 0, none⟩) (by kernel_rfl) (load_one _ _ _ (.slice A447 3 c447) ((S459.bk 1 rfl).cell 0) _ Try.underlying22 rfl)) (F459.rvc (p := ⟨g5, 0, none⟩) (by kernel_rfl) (load_one _ _ _ (.int .i64 0) ((S459.bk 0 rfl).cell 0) _ Try.underlying3 rfl))) ?_).1
        exact ⟨A447, c447, rfl, S470.p1.drop.p1.drop⟩
end Go.Proofs.Ytkjcedlgljeoiaa

