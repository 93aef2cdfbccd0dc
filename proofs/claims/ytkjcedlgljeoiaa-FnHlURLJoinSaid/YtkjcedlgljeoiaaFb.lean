/- Bytes: append of a text to a row of one's own, make, a text out of a row; a slice and nil. -/
import Derived.Test.YtkjcedlgljeoiaaFo
namespace Go.Proofs.Ytkjcedlgljeoiaa
open Go.RowKit Go.Lib

section
variable {n : Nat} {D : List Deferred} {a : Act} {E E' : List (Nat × Value)} {P : Program} {w : World} {R : Ctx} {L : List SA}
variable {ops : Array Oper} {rest : List Oper} {o : Oper} {Q : Exit → Act → World → Prop}
theorem run_appends_at {t u ty e : TypeId} {i : TypeInfo} (ht : P.underlying t = some (.slice e)) (hu : P.underlying u = some .string) (hi : P.info? e = some i) (hz : i.zero = some (.int .u8 0)) (hsize : i.size = 1) (hby : i.bytes = 1)
    {v : Value} {m : Nat} {xs : List Value} (hown : w.ownsRow 0 e 1 v m xs) (s : ByteArray) (hbytes : m + s.size ≤ 140737488355328) :
    ∃ v' w', (Builtin.append_ #[t, u] ty #[v, .string s]).run P w = .ok v' w' ∧ w'.ownsRow 0 e 1 v' (m + s.size) (xs ++ strCells s) ∧ w.grownBy w' v.ownBlock ∧ (∀ k, v'.ownBlock = some k → v.ownBlock = some k ∨ w.heap.size ≤ k) ∧
      (v' = .slice none 0 0 ↔ v = .slice none 0 0 ∧ s.size = 0) := by
  have h63 : m + s.size ≤ maxLen := by simp only [maxLen]; omega
  obtain ⟨v', w', h1, h2, h3, h4⟩ := run_append_own_string (P := P) w 0 t u ty e i ht hu hi hz hsize hby v m xs hown s h63 hbytes (Nat.zero_le _)
  refine ⟨v', w', h1, h2, h3, fun k hk => ?_, h4⟩
  rcases hown.2 with ⟨rfl, rfl⟩ | ⟨g, cap, cur, rfl, hbg, hg, hnc, hcm, hcs, htake⟩
  · have hx : xs = [] := List.eq_nil_of_length_eq_zero (by simpa using hown.1)
    subst hx
    obtain ⟨v2, w2, k1, k2, _, _⟩ := run_append_own_string (P := P) w w.heap.size t u ty e i ht hu hi hz hsize hby (.slice none 0 0) 0 [] (own_nil _ _ _ _) s h63 hbytes (Nat.le_refl _)
    rw [h1] at k1
    injection k1 with e1 e2
    subst e1; subst e2
    exact .inr (own_ge k2 k hk)
  · by_cases hroom : m + s.size ≤ cap
    · have hcs' : cur.size = cap := by simpa using hcs
      have hr := run_append_room_string (P := P) w t u ty e i ht hu hi hsize g m cap cur hg s hroom (by omega)
      rw [h1] at hr
      injection hr with e1 e2
      subst e1
      exact .inl hk
    · have hxl : xs.length = m := by simpa using hown.1
      have holds : ∀ j u, xs[j]? = some u → w.cell? ((⟨g, 0, none⟩ : Addr).add j) = some u := hown.cells (g := g) rfl
      have hr := run_append_grow_string (P := P) w t u ty e i (.int .u8 0) ht hu hi hz ⟨g, 0, none⟩ m cap xs (by rw [hsize]; simpa using hxl) holds s (by omega) (by omega) (by rw [hby]; exact growslice_fits (by omega) (by omega))
      rw [h1] at hr
      injection hr with e1 e2
      subst e1
      injection hk with hk
      exact .inr (by rw [← hk]; exact Nat.le_refl _)
theorem strCells_app (b s : ByteArray) : strCells (b ++ s) = strCells b ++ strCells s := by simp [strCells, ByteArray.data_append]
/-- append(b, s...), s a text. -/
theorem s_apps {sl x : Operand} {t u e : TypeId} (ho : o.op = .call { callee := .builtin .append, args := #[sl, x], argTypes := #[t, u] }) (ht : P.underlying t = some (.slice e)) (hu : P.underlying u = some .string)
    (hi : (P.info? e).map (fun i => (i.zero, i.size, i.bytes)) = some (some (.int .u8 0), 1, 1)) {A : Option Addr} {c : Nat} {b s : ByteArray} (hs : a.eval sl = .slice A b.size c) (S : Sp R w (SA.own (.slice A b.size c) e 1 b.size (strCells b) :: L))
    (hx : a.eval x = .string s) (h63 : b.size + s.size ≤ 140737488355328) {r : ByteArray} (hr : b ++ s = r) :
    sAt P R L o a w (fun v' B => ∃ A' c', v' = .slice A' r.size c' ∧ (A ≠ none → A' ≠ none) ∧ B = SA.own (.slice A' r.size c') e 1 r.size (strCells r)) := by
  subst hr
  obtain ⟨i0, hi0, hzz⟩ := Option.map_eq_some_iff.1 hi
  simp only [Prod.mk.injEq] at hzz
  obtain ⟨hz0, hz1, hz2⟩ := hzz
  obtain ⟨v', w', q1, q2, q3, q4, q5⟩ := run_appends_at (P := P) (ty := o.type) ht hu hi0 hz0 hz1 hz2 (S.ow 0 rfl) s h63
  rw [← strCells_app, ← ByteArray.size_append] at q2
  obtain ⟨A', c', rfl, _⟩ := own_form q2
  have hrun : (execOp a.eval o).run P w = .ok (.value (.slice A' (b ++ s).size c')) w' := by
    unfold execOp
    simp only [ho, resolve, invoke, builtin, Sem.run_bind, Sem.run_pure, Result.andThen_ok, List.map_toArray, List.map_cons, List.map_nil, hs, hx, q1]
  unfold sAt
  rw [hrun]
  refine ⟨_, ⟨A', c', rfl, fun hA e => ?_, rfl⟩, S.upd q3.os q3.tape q3.output fun F hF => ⟨fun k => Value.ownBlock (.slice A' (b ++ s).size c') = some k, ⟨q2, fun _ => Iff.rfl⟩, fun k hk => (q4 k hk).imp (fun h => (hF.2 k).2 h) id, fun k hl hk => q3.block k hl fun e => hk ((hF.2 k).2 e.symm)⟩⟩
  subst e
  rcases q2.2 with ⟨h0, _⟩ | ⟨g, cap, cur, h0, _⟩
  · have := (q5.1 h0).1
    injection this with h1
    exact hA h1
  · cases h0
/-- append(b, c), c the byte of a new block. -/
theorem s_appb {sl x : Operand} {t e : TypeId} (ho : o.op = .call { callee := .builtin .append, args := #[sl, x], argTypes := #[t, t] }) (ht : P.underlying t = some (.slice e))
    (hi : (P.info? e).map (fun i => (i.zero, i.size, i.bytes)) = some (some (.int .u8 0), 1, 1)) {A : Option Addr} {c : Nat} {b : ByteArray} (q : UInt8) (hs : a.eval sl = .slice A b.size c) (S : Sp R w (SA.own (.slice A b.size c) e 1 b.size (strCells b) :: L))
    {B : Option Addr} {c2 : Nat} (hx : a.eval x = .slice B 1 c2) (hb : Sl w B [.int .u8 q.toNat]) (h63 : b.size + 1 ≤ 140737488355328) {r : ByteArray} (hr : b ++ ⟨#[q]⟩ = r) :
    sAt P R L o a w (fun v' B => ∃ A' c', v' = .slice A' r.size c' ∧ A' ≠ none ∧ B = SA.own (.slice A' r.size c') e 1 r.size (strCells r)) := by
  subst hr
  have e1 : (b ++ ⟨#[q]⟩).size = b.size + 1 := by rw [ByteArray.size_append]; rfl
  have e2 : strCells (b ++ ⟨#[q]⟩) = strCells b ++ [.int .u8 q.toNat] := by simp [strCells, ByteArray.data_append]
  have h := s_app ho ht 1 1 hi rfl rfl hs S [.int .u8 q.toNat] hx hb rfl (by simp [Value.oneCell']) (by omega) (by omega) rfl rfl
  unfold sAt sUpon at h ⊢
  have hne : ∀ (A' : Option Addr) (c' : Nat) (w' : World), Sp R w' (SA.own (.slice A' (b.size + 1) c') e 1 (b.size + 1) (strCells b ++ [.int .u8 q.toNat]) :: L) → A' ≠ none := fun A' c' w' S' e0 => by
    subst e0
    rcases (S'.ow 0 rfl).2 with ⟨_, h0⟩ | ⟨g, cap, cur, h0, _⟩
    · omega
    · cases h0
  generalize (execOp a.eval o).run P w = r at h ⊢
  rcases r with ⟨nx, w'⟩ | ⟨hh, w'⟩
  · cases nx <;> first | exact h.elim | skip
    case value u =>
      obtain ⟨B2, ⟨A', c', rfl, rfl⟩, S'⟩ := h
      exact ⟨_, ⟨A', c', by rw [e1], hne _ _ _ S', by rw [e1, e2]⟩, S'⟩
    case skip =>
      obtain ⟨B2, ⟨A', c', h0, _⟩, _⟩ := h
      cases h0
    case enter f args =>
      refine Calls.mono h fun e w'' ⟨v, B2, h1, ⟨A', c', h2, h3⟩, S'⟩ => ⟨v, B2, h1, ⟨A', c', by rw [e1]; exact h2, ?_, by rw [e1, e2]; exact h3⟩, S'⟩
      subst h3
      exact hne _ _ _ S'
  · exact h.elim
/-- make([]byte, 0, c). -/
theorem s_mkb {t e : TypeId} {x y : Operand} (ho : o.op = .makeSlice t x y) (ht : P.underlying t = some (.slice e)) (hi : (P.info? e).map (fun i => (i.zero, i.size, i.bytes)) = some (some (.int .u8 0), 1, 1))
    (c : Nat) {ci : Int} (hx : a.eval x = .int .i64 0) (hy : a.eval y = .int .i64 ci) (hci : ci = (c : Int)) (hc : c ≤ 16777216) (S : Sp R w L) :
    sAt P R L o a w (fun v' B => ∃ g c' : Nat, v' = .slice (some ⟨g, 0, none⟩) (⟨#[]⟩ : ByteArray).size c' ∧ B = SA.own (.slice (some ⟨g, 0, none⟩) (⟨#[]⟩ : ByteArray).size c') e 1 (⟨#[]⟩ : ByteArray).size (strCells ⟨#[]⟩)) := by
  subst hci
  obtain ⟨i0, hi0, hzz⟩ := Option.map_eq_some_iff.1 hi
  simp only [Prod.mk.injEq] at hzz
  obtain ⟨hz0, hz1, hz2⟩ := hzz
  obtain ⟨w', q1, q2, q3⟩ := run_makeSlice_owned (P := P) w w.heap.size t e i0 _ 1 ht hi0 hz0 hz1 .i64 .i64 c (by omega) (by rw [hz2]; omega) (by simp only [maxLen]; omega) (Nat.le_refl _)
  have hrun : (execOp a.eval o).run P w = .ok (.value (.slice (some ⟨w.heap.size, 0, none⟩) 0 c)) w' := by
    unfold execOp
    simp only [ho, hx, hy]
    rw [Sem.run_bind, q1]
    rfl
  unfold sAt
  rw [hrun]
  exact ⟨_, ⟨_, c, rfl, rfl⟩, S.newown ⟨q3.os, q3.tape, q3.output, q3.size, fun k hk => q3.block k hk (by simp)⟩ q2⟩
/-- A text out of a row. -/
theorem r_b2s {src dst e : TypeId} {x : Operand} (ho : o.op = .convert src dst x) (hs : P.underlying src = some (.slice e)) (he : P.underlying e = some (.int .u8)) (hd : P.underlying dst = some .string) {v : Value} {b : ByteArray} (hx : a.eval x = v)
    {e' : TypeId} (h : w.ownsRow 0 e' 1 v b.size (strCells b)) : (execOp a.eval o).run P w = .ok (.value (.string b)) w := by
  unfold execOp
  simp only [ho, hx]
  rw [Sem.run_bind, own_text hs he hd h]
  rfl
theorem own_nil_or {e : TypeId} {sz m c : Nat} {A : Option Addr} {cs : List Value} (h : w.ownsRow 0 e sz (.slice A m c) m cs) : (A = none ∧ m = 0 ∧ c = 0) ∨ ∃ g, A = some ⟨g, 0, none⟩ := by
  rcases h.2 with ⟨h1, h2⟩ | ⟨g, cap, cur, h1, _⟩
  · injection h1 with h3 _ h4
    exact .inl ⟨h3, h2, h4⟩
  · injection h1 with h3
    exact .inr ⟨g, h3⟩
theorem bytes_nil {b : ByteArray} (h : b.size = 0) : b = ⟨#[]⟩ := by
  apply ByteArray.ext
  exact Array.eq_empty_of_size_eq_zero h
end
end Go.Proofs.Ytkjcedlgljeoiaa
