/- Memory in separate parts: assertions with the blocks that they speak of; lists of parts that share no block; what stands still. -/
import Derived.Test.YtkjcedlgljeoiaaWr
namespace Go.Proofs.Ytkjcedlgljeoiaa
open Go.RowKit

/-- An assertion on memory, with the blocks that it speaks of. -/
structure SA where
  holds : World → (Nat → Prop) → Prop
  stab : ∀ {w w' : World} {F : Nat → Prop}, holds w F → (∀ k, F k → w'.heap[k]? = w.heap[k]?) → holds w' F
  lt : ∀ {w : World} {F : Nat → Prop}, holds w F → ∀ k, F k → k < w.heap.size

theorem heap_lt2 {w : World} {k : Nat} {o : Obj} (h : w.heap[k]? = some o) : k < w.heap.size := (Array.getElem?_eq_some_iff.1 h).1
theorem own_stab {w w' : World} {e : TypeId} {sz n : Nat} {v : Value} {cs : List Value} (h : w.ownsRow 0 e sz v n cs) (hk : ∀ k, v.ownBlock = some k → w'.heap[k]? = w.heap[k]?) : w'.ownsRow 0 e sz v n cs := by
  refine ⟨h.1, ?_⟩
  rcases h.2 with hn | ⟨g, cap, cur, rfl, hb, hgg, rest⟩
  · exact .inl hn
  · exact .inr ⟨g, cap, cur, rfl, hb, (hk g rfl).trans hgg, rest⟩

namespace SA
def emp : SA := ⟨fun _ F => ∀ k, ¬ F k, fun h _ => h, fun h k hk => absurd hk (h k)⟩
def pure (p : Prop) : SA := ⟨fun _ F => p ∧ ∀ k, ¬ F k, fun h _ => h, fun h k hk => absurd hk (h.2 k)⟩
def blk (g : Nat) (t : TypeId) (cs : Array Value) : SA :=
  ⟨fun w F => Blk w g t cs ∧ ∀ k, F k ↔ k = g, fun h hk => ⟨(hk g ((h.2 g).2 rfl)).trans h.1, h.2⟩, fun h k hk => by rw [(h.2 k).1 hk]; exact h.1.lt⟩
def own (v : Value) (e : TypeId) (sz n : Nat) (l : List Value) : SA :=
  ⟨fun w F => w.ownsRow 0 e sz v n l ∧ ∀ k, F k ↔ v.ownBlock = some k, fun h hk => ⟨own_stab h.1 fun k e => hk k ((h.2 k).2 e), h.2⟩, fun h k hk => own_lt h.1 k ((h.2 k).1 hk)⟩
/-- Any other object, known whole. -/
def obj (g : Nat) (p : Obj → Prop) : SA :=
  ⟨fun w F => (∃ o, w.heap[g]? = some o ∧ p o) ∧ ∀ k, F k ↔ k = g, fun ⟨⟨o, h1, h2⟩, h3⟩ hk => ⟨⟨o, (hk g ((h3 g).2 rfl)).trans h1, h2⟩, h3⟩, fun ⟨⟨o, h1, _⟩, h3⟩ k hk => by rw [(h3 k).1 hk]; exact heap_lt2 h1⟩
def star (A B : SA) : SA :=
  ⟨fun w F => ∃ F1 F2, A.holds w F1 ∧ B.holds w F2 ∧ (∀ k, F2 k → ¬ F1 k) ∧ ∀ k, F k ↔ F1 k ∨ F2 k,
   fun ⟨F1, F2, h1, h2, h3, h4⟩ hk => ⟨F1, F2, A.stab h1 fun k hf => hk k ((h4 k).2 (.inl hf)), B.stab h2 fun k hf => hk k ((h4 k).2 (.inr hf)), h3, h4⟩,
   fun ⟨_, _, h1, h2, _, h4⟩ k hk => ((h4 k).1 hk).elim (A.lt h1 k) (B.lt h2 k)⟩
def ex {α : Sort _} (f : α → SA) : SA := ⟨fun w F => ∃ x, (f x).holds w F, fun ⟨x, h⟩ hk => ⟨x, (f x).stab h hk⟩, fun ⟨x, h⟩ => (f x).lt h⟩
def stars : List SA → SA
  | [] => emp
  | A :: L => star A (stars L)
end SA

/-- What does not turn: the streams, and some blocks. -/
structure Ctx where
  w0 : World
  fz : Nat → Option Obj
structure Ctx.In (R : Ctx) (w : World) : Prop where
  os : w.os = R.w0.os
  tape : w.tape = R.w0.tape
  output : w.output = R.w0.output
  fz : ∀ k o, R.fz k = some o → w.heap[k]? = some o

/-- Parts that share no block with one another, and none with D. -/
def SpL (w : World) : (Nat → Prop) → List SA → Prop
  | _, [] => True
  | D, A :: L => ∃ F, A.holds w F ∧ (∀ k, F k → ¬ D k) ∧ SpL w (fun k => D k ∨ F k) L
def Sp (R : Ctx) (w : World) (L : List SA) : Prop := R.In w ∧ SpL w (fun k => (R.fz k).isSome = true) L

section
variable {R : Ctx} {w w' : World} {A B : SA} {L L' : List SA} {D D' : Nat → Prop}
theorem SpL.move : ∀ {L : List SA} {D D' : Nat → Prop}, SpL w D L → (∀ k, k < w.heap.size → ¬ D k → w'.heap[k]? = w.heap[k]?) → (∀ k, k < w.heap.size → D' k → D k) → SpL w' D' L
  | [], _, _, _, _, _ => trivial
  | A :: L, D, D', ⟨F, h1, h2, h3⟩, hk, hD => by
    refine ⟨F, A.stab h1 fun k hf => hk k (A.lt h1 k hf) (h2 k hf), fun k hf hd => h2 k hf (hD k (A.lt h1 k hf) hd), h3.move (fun k hl hn => hk k hl fun hd => hn (.inl hd)) fun k hl hd => hd.imp (hD k hl) id⟩
theorem SpL.anti (h : SpL w D L) (hD : ∀ k, D' k → D k) : SpL w D' L := h.move (fun _ _ _ => rfl) fun k _ => hD k
theorem SpL.swap (h : SpL w D (A :: B :: L)) : SpL w D (B :: A :: L) := by
  obtain ⟨F, h1, h2, G, h3, h4, h5⟩ := h
  exact ⟨G, h3, fun k hk hd => h4 k hk (.inl hd), F, h1, fun k hk hd => hd.elim (h2 k hk) fun hg => h4 k hg (.inr hk), h5.anti fun k hk => hk.elim (fun h => h.elim (fun h => .inl (.inl h)) .inr) fun h => .inl (.inr h)⟩
theorem SpL.perm (h : L.Perm L') : ∀ {D : Nat → Prop}, SpL w D L → SpL w D L' := by
  induction h with
  | nil => exact fun h => h
  | cons x _ ih => exact fun ⟨F, h1, h2, h3⟩ => ⟨F, h1, h2, ih h3⟩
  | swap x y l => exact fun h => h.swap
  | trans _ _ ih1 ih2 => exact fun h => ih2 (ih1 h)
theorem Sp.perm (h : L.Perm L') (S : Sp R w L) : Sp R w L' := ⟨S.1, S.2.perm h⟩
theorem Sp.swap (S : Sp R w (A :: B :: L)) : Sp R w (B :: A :: L) := ⟨S.1, S.2.swap⟩
theorem Sp.drop (S : Sp R w (A :: L)) : Sp R w L := ⟨S.1, by
  obtain ⟨F, _, _, h⟩ := S.2
  exact h.anti fun k hk => .inl hk⟩
theorem SpL.mem : ∀ {L : List SA} {D : Nat → Prop}, SpL w D L → A ∈ L → ∃ F, A.holds w F
  | _ :: L, D, ⟨F, h1, _, h3⟩, hm => by
    rcases List.mem_cons.1 hm with rfl | hm
    · exact ⟨F, h1⟩
    · exact h3.mem hm
theorem Sp.mem (S : Sp R w L) (hm : A ∈ L) : ∃ F, A.holds w F := S.2.mem hm
theorem Sp.bkm {g : Nat} {t : TypeId} {cs : Array Value} (S : Sp R w L) (hm : SA.blk g t cs ∈ L) : Blk w g t cs := let ⟨_, h, _⟩ := S.mem hm; h
theorem Sp.bk (i : Nat) {g : Nat} {t : TypeId} {cs : Array Value} (S : Sp R w L) (hm : L[i]? = some (SA.blk g t cs)) : Blk w g t cs := S.bkm (List.mem_of_getElem? hm)
theorem Sp.owm {v : Value} {e : TypeId} {sz n : Nat} {l : List Value} (S : Sp R w L) (hm : SA.own v e sz n l ∈ L) : w.ownsRow 0 e sz v n l := let ⟨_, h, _⟩ := S.mem hm; h
theorem Sp.ow (i : Nat) {v : Value} {e : TypeId} {sz n : Nat} {l : List Value} (S : Sp R w L) (hm : L[i]? = some (SA.own v e sz n l)) : w.ownsRow 0 e sz v n l := S.owm (List.mem_of_getElem? hm)
theorem SpL.lt : ∀ {L : List SA} {D : Nat → Prop}, SpL w D L → (∀ k, D k → k < w.heap.size) → True := fun _ _ => trivial
theorem Ctx.In.lt (h : R.In w) {k : Nat} (hk : (R.fz k).isSome = true) : k < w.heap.size := by
  obtain ⟨o, ho⟩ := Option.isSome_iff_exists.1 hk
  exact heap_lt2 (h.fz k o ho)
theorem Ctx.In.move (h : R.In w) (h1 : w'.os = w.os) (h2 : w'.tape = w.tape) (h3 : w'.output = w.output) (hk : ∀ k, (R.fz k).isSome = true → w'.heap[k]? = w.heap[k]?) : R.In w' :=
  ⟨h1.trans h.os, h2.trans h.tape, h3.trans h.output, fun k o ho => (hk k (by rw [ho]; rfl)).trans (h.fz k o ho)⟩
/-- What the first part is turned into. -/
theorem Sp.upd (S : Sp R w (A :: L)) (h1 : w'.os = w.os) (h2 : w'.tape = w.tape) (h3 : w'.output = w.output)
    (h : ∀ F, A.holds w F → ∃ F', B.holds w' F' ∧ (∀ k, F' k → F k ∨ w.heap.size ≤ k) ∧ ∀ k, k < w.heap.size → ¬ F k → w'.heap[k]? = w.heap[k]?) : Sp R w' (B :: L) := by
  obtain ⟨hR, F, hA, hd, hL⟩ := S
  obtain ⟨F', hB, hF, hk⟩ := h F hA
  refine ⟨hR.move h1 h2 h3 fun k hs => hk k (hR.lt hs) fun hf => hd k hf hs, F', hB, fun k hf hs => (hF k hf).elim (fun h => hd k h hs) fun h => absurd (hR.lt hs) (by omega), ?_⟩
  refine hL.move (fun k hl hn => hk k hl fun hf => hn (.inr hf)) fun k hl hd' => hd'.imp id fun hf => (hF k hf).resolve_right (by omega)
theorem Sp.below (S : Sp R w L) (hb : Below w.heap.size w w') : Sp R w' L :=
  ⟨S.1.move hb.os hb.tape hb.output fun k hs => hb.block k (S.1.lt hs), S.2.move (fun k hl _ => hb.block k hl) fun _ _ h => h⟩
theorem Sp.emp (S : Sp R w L) : Sp R w (SA.emp :: L) := ⟨S.1, fun _ => False, fun _ h => h, fun _ h => h.elim, S.2.anti fun _ h => h.resolve_right id⟩
/-- A new part, of new blocks alone. -/
theorem Sp.new (S : Sp R w L) (hb : Below w.heap.size w w') {F : Nat → Prop} (hA : A.holds w' F) (hF : ∀ k, F k → w.heap.size ≤ k) : Sp R w' (A :: L) :=
  S.emp.upd hb.os hb.tape hb.output fun _ _ => ⟨F, hA, fun k h => .inr (hF k h), fun k hl _ => hb.block k hl⟩
theorem Sp.newblk {g : Nat} {t : TypeId} {cs : Array Value} (S : Sp R w L) (hb : Below w.heap.size w w') (hg : w.heap.size ≤ g) (h : Blk w' g t cs) : Sp R w' (SA.blk g t cs :: L) :=
  S.new hb (F := fun k => k = g) ⟨h, fun _ => Iff.rfl⟩ fun k e => by rw [e]; exact hg
theorem Sp.newown {v : Value} {e : TypeId} {sz n : Nat} {l : List Value} (S : Sp R w L) (hb : Below w.heap.size w w') (h : w'.ownsRow w.heap.size e sz v n l) : Sp R w' (SA.own v e sz n l :: L) :=
  S.new hb (F := fun k => v.ownBlock = some k) ⟨own_mono h (Nat.zero_le _), fun _ => Iff.rfl⟩ fun k e => own_ge h k e
theorem Sp.nilown {e : TypeId} {sz : Nat} (S : Sp R w L) : Sp R w (SA.own (.slice none 0 0) e sz 0 [] :: L) :=
  S.new (Below.refl _ _) (F := fun _ => False) ⟨own_nil _ _ _ _, fun k => by simp [Value.ownBlock]⟩ fun _ h => h.elim
theorem Sp.star : Sp R w (SA.star A B :: L) ↔ Sp R w (A :: B :: L) := by
  constructor
  · rintro ⟨hR, F, ⟨F1, F2, h1, h2, h3, h4⟩, hd, hL⟩
    exact ⟨hR, F1, h1, fun k hk => hd k ((h4 k).2 (.inl hk)), F2, h2, fun k hk h => h.elim (hd k ((h4 k).2 (.inr hk))) (h3 k hk), hL.anti fun k h => h.elim (fun h => h.imp id fun h => (h4 k).2 (.inl h)) fun h => .inr ((h4 k).2 (.inr h))⟩
  · rintro ⟨hR, F1, h1, hd1, F2, h2, hd2, hL⟩
    exact ⟨hR, fun k => F1 k ∨ F2 k, ⟨F1, F2, h1, h2, fun k hk hf => hd2 k hk (.inr hf), fun _ => Iff.rfl⟩, fun k h => h.elim (hd1 k) fun h hd => hd2 k h (.inl hd), hL.anti fun k h => h.elim (fun h => .inl (.inl h)) fun h => h.elim (fun h => .inl (.inr h)) .inr⟩
theorem Sp.ex {α : Sort _} {f : α → SA} : Sp R w (SA.ex f :: L) ↔ ∃ x, Sp R w (f x :: L) := by
  constructor
  · rintro ⟨hR, F, ⟨x, h⟩, r⟩; exact ⟨x, hR, F, h, r⟩
  · rintro ⟨x, hR, F, h, r⟩; exact ⟨hR, F, ⟨x, h⟩, r⟩
theorem Sp.pure {p : Prop} : Sp R w (SA.pure p :: L) ↔ p ∧ Sp R w L := by
  constructor
  · intro S; obtain ⟨_, h, _⟩ := S.mem (List.mem_cons_self ..); exact ⟨h, S.drop⟩
  · rintro ⟨h, S⟩; exact ⟨S.1, fun _ => False, ⟨h, fun _ => id⟩, fun _ h => h.elim, S.2.anti fun _ h => h.resolve_right id⟩
theorem Sp.stars : ∀ {l L : List SA}, Sp R w (SA.stars l :: L) ↔ Sp R w (l ++ L)
  | [], L => ⟨fun S => S.drop, fun S => S.emp⟩
  | A :: l, L => by
    show Sp R w (SA.star A (SA.stars l) :: L) ↔ _
    rw [Sp.star]
    constructor
    · intro S
      exact Sp.perm (List.perm_middle (a := A)) (Sp.stars.1 S.swap)
    · intro S
      exact (Sp.stars.2 (Sp.perm (List.perm_middle (a := A)).symm S)).swap
theorem Sp.ne {g g' : Nat} {t t' : TypeId} {cs cs' : Array Value} (S : Sp R w (SA.blk g t cs :: SA.blk g' t' cs' :: L)) : g ≠ g' := fun e => by
  obtain ⟨_, F, h1, _, G, h2, h3, _⟩ := S
  exact h3 g' ((h2.2 g').2 rfl) (.inr ((h1.2 g').2 e.symm))
theorem Sp.below_of {w : World} {L : List SA} {w' : World} (S : Sp ⟨w, fun k => w.heap[k]?⟩ w' L) : Below w.heap.size w w' := by
  refine ⟨S.1.os, S.1.tape, S.1.output, ?_, fun k hk => ?_⟩
  · rcases Nat.eq_zero_or_pos w.heap.size with h | h
    · omega
    · have := heap_lt2 (S.1.fz (w.heap.size - 1) _ (Array.getElem?_eq_getElem (by omega)))
      omega
  · exact (S.1.fz k _ (Array.getElem?_eq_getElem hk)).trans (Array.getElem?_eq_getElem hk).symm
theorem Sp.start (w : World) : Sp ⟨w, fun k => w.heap[k]?⟩ w [] := ⟨⟨rfl, rfl, rfl, fun _ _ h => h⟩, trivial⟩
/-- A fact on what does not turn. -/
def Pers (R : Ctx) (p : World → Prop) : Prop := ∀ w, R.In w → p w
theorem Pers.at {p : World → Prop} (h : Pers R p) (S : Sp R w L) : p w := h w S.1
theorem Pers.of {p : World → Prop} {w : World} (h : ∀ w', Below w.heap.size w w' → p w') : Pers ⟨w, fun k => w.heap[k]?⟩ p := fun w' hR => h w' (Sp.below_of (L := []) ⟨hR, trivial⟩)
/-- More stands still. -/
def Ctx.le (R R' : Ctx) : Prop := R'.w0.os = R.w0.os ∧ R'.w0.tape = R.w0.tape ∧ R'.w0.output = R.w0.output ∧ ∀ k o, R.fz k = some o → R'.fz k = some o
theorem Ctx.le.refl (R : Ctx) : R.le R := ⟨rfl, rfl, rfl, fun _ _ h => h⟩
theorem Ctx.le.trans {R1 R2 R3 : Ctx} (h : R1.le R2) (k : R2.le R3) : R1.le R3 := ⟨k.1.trans h.1, k.2.1.trans h.2.1, k.2.2.1.trans h.2.2.1, fun i o e => k.2.2.2 i o (h.2.2.2 i o e)⟩
theorem Ctx.le.in {R R' : Ctx} (h : R.le R') (hw : R'.In w) : R.In w := ⟨hw.os.trans h.1, hw.tape.trans h.2.1, hw.output.trans h.2.2.1, fun k o e => hw.fz k o (h.2.2.2 k o e)⟩
theorem Pers.le {R R' : Ctx} {p : World → Prop} (h : Pers R p) (hl : R.le R') : Pers R' p := fun w hw => h w (hl.in hw)
theorem Sp.le {R R' : Ctx} (S : Sp R' w L) (hl : R.le R') : Sp R w L := ⟨hl.in S.1, S.2.anti fun k hk => by
  obtain ⟨o, ho⟩ := Option.isSome_iff_exists.1 hk
  rw [hl.2.2.2 k o ho]; rfl⟩
theorem Sp.dropM : ∀ {M : List SA}, Sp R w (M ++ L) → Sp R w L
  | [], S => S
  | _ :: _, S => Sp.dropM S.drop
/-- A fact that follows from what stands by. -/
def Rf (R : Ctx) (L : List SA) (p : World → Prop) : Prop := ∀ w, Sp R w L → p w
theorem Rf.of {p : World → Prop} {w : World} (h : ∀ w', Below w.heap.size w w' → p w') : Rf ⟨w, fun k => w.heap[k]?⟩ [] p := fun w' S => h w' (Sp.below_of S)
theorem Rf.le {R' : Ctx} {p : World → Prop} (h : Rf R L p) (hl : R.le R') : Rf R' L p := fun w S => h w (S.le hl)
open Classical in
/-- A part that will not turn any more. -/
theorem Sp.freeze (S : Sp R w (A :: L)) : ∃ R', R.le R' ∧ Sp R' w L ∧ Pers R' fun w' => ∃ F, A.holds w' F := by
  obtain ⟨hR, F, h1, h2, h3⟩ := S
  refine ⟨⟨R.w0, fun k => if F k then w.heap[k]? else R.fz k⟩, ⟨rfl, rfl, rfl, fun k o ho => ?_⟩, ⟨⟨hR.os, hR.tape, hR.output, fun k o ho => ?_⟩, h3.anti fun k hk => ?_⟩, fun w' hw => ⟨F, A.stab h1 fun k hf => ?_⟩⟩
  · have : ¬ F k := fun hf => h2 k hf (by show (R.fz k).isSome = true; rw [ho]; rfl)
    simp only [if_neg this, ho]
  · by_cases hf : F k
    · simpa [hf] using ho
    · exact hR.fz k o (by simpa [hf] using ho)
  · by_cases hf : F k
    · exact .inr hf
    · exact .inl (by simpa [hf] using hk)
  · have hlt := A.lt h1 k hf
    have := hw.fz k w.heap[k] (by simp [hf, hlt])
    rw [this]; simp [hlt]
end
section
variable {R : Ctx} {w : World} {D : Nat → Prop} {L : List SA} {A0 A1 A2 A3 A4 A5 A6 A7 A8 A9 A10 A11 A12 A13 A14 A15 A16 A17 A18 A19 A20 A21 A22 A23 A24 : SA}
theorem SpL.p1 (h : SpL w D (A0 :: A1 :: L)) : SpL w D (A1 :: A0 :: L) := h.swap
theorem SpL.p2 (h : SpL w D (A0 :: A1 :: A2 :: L)) : SpL w D (A2 :: A0 :: A1 :: L) := by
  obtain ⟨F, h1, h2, h3⟩ := h
  exact SpL.swap ⟨F, h1, h2, SpL.p1 h3⟩
theorem SpL.p3 (h : SpL w D (A0 :: A1 :: A2 :: A3 :: L)) : SpL w D (A3 :: A0 :: A1 :: A2 :: L) := by
  obtain ⟨F, h1, h2, h3⟩ := h
  exact SpL.swap ⟨F, h1, h2, SpL.p2 h3⟩
theorem SpL.p4 (h : SpL w D (A0 :: A1 :: A2 :: A3 :: A4 :: L)) : SpL w D (A4 :: A0 :: A1 :: A2 :: A3 :: L) := by
  obtain ⟨F, h1, h2, h3⟩ := h
  exact SpL.swap ⟨F, h1, h2, SpL.p3 h3⟩
theorem SpL.p5 (h : SpL w D (A0 :: A1 :: A2 :: A3 :: A4 :: A5 :: L)) : SpL w D (A5 :: A0 :: A1 :: A2 :: A3 :: A4 :: L) := by
  obtain ⟨F, h1, h2, h3⟩ := h
  exact SpL.swap ⟨F, h1, h2, SpL.p4 h3⟩
theorem SpL.p6 (h : SpL w D (A0 :: A1 :: A2 :: A3 :: A4 :: A5 :: A6 :: L)) : SpL w D (A6 :: A0 :: A1 :: A2 :: A3 :: A4 :: A5 :: L) := by
  obtain ⟨F, h1, h2, h3⟩ := h
  exact SpL.swap ⟨F, h1, h2, SpL.p5 h3⟩
theorem SpL.p7 (h : SpL w D (A0 :: A1 :: A2 :: A3 :: A4 :: A5 :: A6 :: A7 :: L)) : SpL w D (A7 :: A0 :: A1 :: A2 :: A3 :: A4 :: A5 :: A6 :: L) := by
  obtain ⟨F, h1, h2, h3⟩ := h
  exact SpL.swap ⟨F, h1, h2, SpL.p6 h3⟩
theorem SpL.p8 (h : SpL w D (A0 :: A1 :: A2 :: A3 :: A4 :: A5 :: A6 :: A7 :: A8 :: L)) : SpL w D (A8 :: A0 :: A1 :: A2 :: A3 :: A4 :: A5 :: A6 :: A7 :: L) := by
  obtain ⟨F, h1, h2, h3⟩ := h
  exact SpL.swap ⟨F, h1, h2, SpL.p7 h3⟩
theorem SpL.p9 (h : SpL w D (A0 :: A1 :: A2 :: A3 :: A4 :: A5 :: A6 :: A7 :: A8 :: A9 :: L)) : SpL w D (A9 :: A0 :: A1 :: A2 :: A3 :: A4 :: A5 :: A6 :: A7 :: A8 :: L) := by
  obtain ⟨F, h1, h2, h3⟩ := h
  exact SpL.swap ⟨F, h1, h2, SpL.p8 h3⟩
theorem SpL.p10 (h : SpL w D (A0 :: A1 :: A2 :: A3 :: A4 :: A5 :: A6 :: A7 :: A8 :: A9 :: A10 :: L)) : SpL w D (A10 :: A0 :: A1 :: A2 :: A3 :: A4 :: A5 :: A6 :: A7 :: A8 :: A9 :: L) := by
  obtain ⟨F, h1, h2, h3⟩ := h
  exact SpL.swap ⟨F, h1, h2, SpL.p9 h3⟩
theorem SpL.p11 (h : SpL w D (A0 :: A1 :: A2 :: A3 :: A4 :: A5 :: A6 :: A7 :: A8 :: A9 :: A10 :: A11 :: L)) : SpL w D (A11 :: A0 :: A1 :: A2 :: A3 :: A4 :: A5 :: A6 :: A7 :: A8 :: A9 :: A10 :: L) := by
  obtain ⟨F, h1, h2, h3⟩ := h
  exact SpL.swap ⟨F, h1, h2, SpL.p10 h3⟩
theorem SpL.p12 (h : SpL w D (A0 :: A1 :: A2 :: A3 :: A4 :: A5 :: A6 :: A7 :: A8 :: A9 :: A10 :: A11 :: A12 :: L)) : SpL w D (A12 :: A0 :: A1 :: A2 :: A3 :: A4 :: A5 :: A6 :: A7 :: A8 :: A9 :: A10 :: A11 :: L) := by
  obtain ⟨F, h1, h2, h3⟩ := h
  exact SpL.swap ⟨F, h1, h2, SpL.p11 h3⟩
theorem SpL.p13 (h : SpL w D (A0 :: A1 :: A2 :: A3 :: A4 :: A5 :: A6 :: A7 :: A8 :: A9 :: A10 :: A11 :: A12 :: A13 :: L)) : SpL w D (A13 :: A0 :: A1 :: A2 :: A3 :: A4 :: A5 :: A6 :: A7 :: A8 :: A9 :: A10 :: A11 :: A12 :: L) := by
  obtain ⟨F, h1, h2, h3⟩ := h
  exact SpL.swap ⟨F, h1, h2, SpL.p12 h3⟩
theorem SpL.p14 (h : SpL w D (A0 :: A1 :: A2 :: A3 :: A4 :: A5 :: A6 :: A7 :: A8 :: A9 :: A10 :: A11 :: A12 :: A13 :: A14 :: L)) : SpL w D (A14 :: A0 :: A1 :: A2 :: A3 :: A4 :: A5 :: A6 :: A7 :: A8 :: A9 :: A10 :: A11 :: A12 :: A13 :: L) := by
  obtain ⟨F, h1, h2, h3⟩ := h
  exact SpL.swap ⟨F, h1, h2, SpL.p13 h3⟩
theorem SpL.p15 (h : SpL w D (A0 :: A1 :: A2 :: A3 :: A4 :: A5 :: A6 :: A7 :: A8 :: A9 :: A10 :: A11 :: A12 :: A13 :: A14 :: A15 :: L)) : SpL w D (A15 :: A0 :: A1 :: A2 :: A3 :: A4 :: A5 :: A6 :: A7 :: A8 :: A9 :: A10 :: A11 :: A12 :: A13 :: A14 :: L) := by
  obtain ⟨F, h1, h2, h3⟩ := h
  exact SpL.swap ⟨F, h1, h2, SpL.p14 h3⟩
theorem SpL.p16 (h : SpL w D (A0 :: A1 :: A2 :: A3 :: A4 :: A5 :: A6 :: A7 :: A8 :: A9 :: A10 :: A11 :: A12 :: A13 :: A14 :: A15 :: A16 :: L)) : SpL w D (A16 :: A0 :: A1 :: A2 :: A3 :: A4 :: A5 :: A6 :: A7 :: A8 :: A9 :: A10 :: A11 :: A12 :: A13 :: A14 :: A15 :: L) := by
  obtain ⟨F, h1, h2, h3⟩ := h
  exact SpL.swap ⟨F, h1, h2, SpL.p15 h3⟩
theorem SpL.p17 (h : SpL w D (A0 :: A1 :: A2 :: A3 :: A4 :: A5 :: A6 :: A7 :: A8 :: A9 :: A10 :: A11 :: A12 :: A13 :: A14 :: A15 :: A16 :: A17 :: L)) : SpL w D (A17 :: A0 :: A1 :: A2 :: A3 :: A4 :: A5 :: A6 :: A7 :: A8 :: A9 :: A10 :: A11 :: A12 :: A13 :: A14 :: A15 :: A16 :: L) := by
  obtain ⟨F, h1, h2, h3⟩ := h
  exact SpL.swap ⟨F, h1, h2, SpL.p16 h3⟩
theorem SpL.p18 (h : SpL w D (A0 :: A1 :: A2 :: A3 :: A4 :: A5 :: A6 :: A7 :: A8 :: A9 :: A10 :: A11 :: A12 :: A13 :: A14 :: A15 :: A16 :: A17 :: A18 :: L)) : SpL w D (A18 :: A0 :: A1 :: A2 :: A3 :: A4 :: A5 :: A6 :: A7 :: A8 :: A9 :: A10 :: A11 :: A12 :: A13 :: A14 :: A15 :: A16 :: A17 :: L) := by
  obtain ⟨F, h1, h2, h3⟩ := h
  exact SpL.swap ⟨F, h1, h2, SpL.p17 h3⟩
theorem SpL.p19 (h : SpL w D (A0 :: A1 :: A2 :: A3 :: A4 :: A5 :: A6 :: A7 :: A8 :: A9 :: A10 :: A11 :: A12 :: A13 :: A14 :: A15 :: A16 :: A17 :: A18 :: A19 :: L)) : SpL w D (A19 :: A0 :: A1 :: A2 :: A3 :: A4 :: A5 :: A6 :: A7 :: A8 :: A9 :: A10 :: A11 :: A12 :: A13 :: A14 :: A15 :: A16 :: A17 :: A18 :: L) := by
  obtain ⟨F, h1, h2, h3⟩ := h
  exact SpL.swap ⟨F, h1, h2, SpL.p18 h3⟩
theorem SpL.p20 (h : SpL w D (A0 :: A1 :: A2 :: A3 :: A4 :: A5 :: A6 :: A7 :: A8 :: A9 :: A10 :: A11 :: A12 :: A13 :: A14 :: A15 :: A16 :: A17 :: A18 :: A19 :: A20 :: L)) : SpL w D (A20 :: A0 :: A1 :: A2 :: A3 :: A4 :: A5 :: A6 :: A7 :: A8 :: A9 :: A10 :: A11 :: A12 :: A13 :: A14 :: A15 :: A16 :: A17 :: A18 :: A19 :: L) := by
  obtain ⟨F, h1, h2, h3⟩ := h
  exact SpL.swap ⟨F, h1, h2, SpL.p19 h3⟩
theorem SpL.p21 (h : SpL w D (A0 :: A1 :: A2 :: A3 :: A4 :: A5 :: A6 :: A7 :: A8 :: A9 :: A10 :: A11 :: A12 :: A13 :: A14 :: A15 :: A16 :: A17 :: A18 :: A19 :: A20 :: A21 :: L)) : SpL w D (A21 :: A0 :: A1 :: A2 :: A3 :: A4 :: A5 :: A6 :: A7 :: A8 :: A9 :: A10 :: A11 :: A12 :: A13 :: A14 :: A15 :: A16 :: A17 :: A18 :: A19 :: A20 :: L) := by
  obtain ⟨F, h1, h2, h3⟩ := h
  exact SpL.swap ⟨F, h1, h2, SpL.p20 h3⟩
theorem SpL.p22 (h : SpL w D (A0 :: A1 :: A2 :: A3 :: A4 :: A5 :: A6 :: A7 :: A8 :: A9 :: A10 :: A11 :: A12 :: A13 :: A14 :: A15 :: A16 :: A17 :: A18 :: A19 :: A20 :: A21 :: A22 :: L)) : SpL w D (A22 :: A0 :: A1 :: A2 :: A3 :: A4 :: A5 :: A6 :: A7 :: A8 :: A9 :: A10 :: A11 :: A12 :: A13 :: A14 :: A15 :: A16 :: A17 :: A18 :: A19 :: A20 :: A21 :: L) := by
  obtain ⟨F, h1, h2, h3⟩ := h
  exact SpL.swap ⟨F, h1, h2, SpL.p21 h3⟩
theorem SpL.p23 (h : SpL w D (A0 :: A1 :: A2 :: A3 :: A4 :: A5 :: A6 :: A7 :: A8 :: A9 :: A10 :: A11 :: A12 :: A13 :: A14 :: A15 :: A16 :: A17 :: A18 :: A19 :: A20 :: A21 :: A22 :: A23 :: L)) : SpL w D (A23 :: A0 :: A1 :: A2 :: A3 :: A4 :: A5 :: A6 :: A7 :: A8 :: A9 :: A10 :: A11 :: A12 :: A13 :: A14 :: A15 :: A16 :: A17 :: A18 :: A19 :: A20 :: A21 :: A22 :: L) := by
  obtain ⟨F, h1, h2, h3⟩ := h
  exact SpL.swap ⟨F, h1, h2, SpL.p22 h3⟩
theorem SpL.p24 (h : SpL w D (A0 :: A1 :: A2 :: A3 :: A4 :: A5 :: A6 :: A7 :: A8 :: A9 :: A10 :: A11 :: A12 :: A13 :: A14 :: A15 :: A16 :: A17 :: A18 :: A19 :: A20 :: A21 :: A22 :: A23 :: A24 :: L)) : SpL w D (A24 :: A0 :: A1 :: A2 :: A3 :: A4 :: A5 :: A6 :: A7 :: A8 :: A9 :: A10 :: A11 :: A12 :: A13 :: A14 :: A15 :: A16 :: A17 :: A18 :: A19 :: A20 :: A21 :: A22 :: A23 :: L) := by
  obtain ⟨F, h1, h2, h3⟩ := h
  exact SpL.swap ⟨F, h1, h2, SpL.p23 h3⟩
theorem Sp.p1 (S : Sp R w (A0 :: A1 :: L)) : Sp R w (A1 :: A0 :: L) := ⟨S.1, S.2.p1⟩
theorem Sp.p2 (S : Sp R w (A0 :: A1 :: A2 :: L)) : Sp R w (A2 :: A0 :: A1 :: L) := ⟨S.1, S.2.p2⟩
theorem Sp.p3 (S : Sp R w (A0 :: A1 :: A2 :: A3 :: L)) : Sp R w (A3 :: A0 :: A1 :: A2 :: L) := ⟨S.1, S.2.p3⟩
theorem Sp.p4 (S : Sp R w (A0 :: A1 :: A2 :: A3 :: A4 :: L)) : Sp R w (A4 :: A0 :: A1 :: A2 :: A3 :: L) := ⟨S.1, S.2.p4⟩
theorem Sp.p5 (S : Sp R w (A0 :: A1 :: A2 :: A3 :: A4 :: A5 :: L)) : Sp R w (A5 :: A0 :: A1 :: A2 :: A3 :: A4 :: L) := ⟨S.1, S.2.p5⟩
theorem Sp.p6 (S : Sp R w (A0 :: A1 :: A2 :: A3 :: A4 :: A5 :: A6 :: L)) : Sp R w (A6 :: A0 :: A1 :: A2 :: A3 :: A4 :: A5 :: L) := ⟨S.1, S.2.p6⟩
theorem Sp.p7 (S : Sp R w (A0 :: A1 :: A2 :: A3 :: A4 :: A5 :: A6 :: A7 :: L)) : Sp R w (A7 :: A0 :: A1 :: A2 :: A3 :: A4 :: A5 :: A6 :: L) := ⟨S.1, S.2.p7⟩
theorem Sp.p8 (S : Sp R w (A0 :: A1 :: A2 :: A3 :: A4 :: A5 :: A6 :: A7 :: A8 :: L)) : Sp R w (A8 :: A0 :: A1 :: A2 :: A3 :: A4 :: A5 :: A6 :: A7 :: L) := ⟨S.1, S.2.p8⟩
theorem Sp.p9 (S : Sp R w (A0 :: A1 :: A2 :: A3 :: A4 :: A5 :: A6 :: A7 :: A8 :: A9 :: L)) : Sp R w (A9 :: A0 :: A1 :: A2 :: A3 :: A4 :: A5 :: A6 :: A7 :: A8 :: L) := ⟨S.1, S.2.p9⟩
theorem Sp.p10 (S : Sp R w (A0 :: A1 :: A2 :: A3 :: A4 :: A5 :: A6 :: A7 :: A8 :: A9 :: A10 :: L)) : Sp R w (A10 :: A0 :: A1 :: A2 :: A3 :: A4 :: A5 :: A6 :: A7 :: A8 :: A9 :: L) := ⟨S.1, S.2.p10⟩
theorem Sp.p11 (S : Sp R w (A0 :: A1 :: A2 :: A3 :: A4 :: A5 :: A6 :: A7 :: A8 :: A9 :: A10 :: A11 :: L)) : Sp R w (A11 :: A0 :: A1 :: A2 :: A3 :: A4 :: A5 :: A6 :: A7 :: A8 :: A9 :: A10 :: L) := ⟨S.1, S.2.p11⟩
theorem Sp.p12 (S : Sp R w (A0 :: A1 :: A2 :: A3 :: A4 :: A5 :: A6 :: A7 :: A8 :: A9 :: A10 :: A11 :: A12 :: L)) : Sp R w (A12 :: A0 :: A1 :: A2 :: A3 :: A4 :: A5 :: A6 :: A7 :: A8 :: A9 :: A10 :: A11 :: L) := ⟨S.1, S.2.p12⟩
theorem Sp.p13 (S : Sp R w (A0 :: A1 :: A2 :: A3 :: A4 :: A5 :: A6 :: A7 :: A8 :: A9 :: A10 :: A11 :: A12 :: A13 :: L)) : Sp R w (A13 :: A0 :: A1 :: A2 :: A3 :: A4 :: A5 :: A6 :: A7 :: A8 :: A9 :: A10 :: A11 :: A12 :: L) := ⟨S.1, S.2.p13⟩
theorem Sp.p14 (S : Sp R w (A0 :: A1 :: A2 :: A3 :: A4 :: A5 :: A6 :: A7 :: A8 :: A9 :: A10 :: A11 :: A12 :: A13 :: A14 :: L)) : Sp R w (A14 :: A0 :: A1 :: A2 :: A3 :: A4 :: A5 :: A6 :: A7 :: A8 :: A9 :: A10 :: A11 :: A12 :: A13 :: L) := ⟨S.1, S.2.p14⟩
theorem Sp.p15 (S : Sp R w (A0 :: A1 :: A2 :: A3 :: A4 :: A5 :: A6 :: A7 :: A8 :: A9 :: A10 :: A11 :: A12 :: A13 :: A14 :: A15 :: L)) : Sp R w (A15 :: A0 :: A1 :: A2 :: A3 :: A4 :: A5 :: A6 :: A7 :: A8 :: A9 :: A10 :: A11 :: A12 :: A13 :: A14 :: L) := ⟨S.1, S.2.p15⟩
theorem Sp.p16 (S : Sp R w (A0 :: A1 :: A2 :: A3 :: A4 :: A5 :: A6 :: A7 :: A8 :: A9 :: A10 :: A11 :: A12 :: A13 :: A14 :: A15 :: A16 :: L)) : Sp R w (A16 :: A0 :: A1 :: A2 :: A3 :: A4 :: A5 :: A6 :: A7 :: A8 :: A9 :: A10 :: A11 :: A12 :: A13 :: A14 :: A15 :: L) := ⟨S.1, S.2.p16⟩
theorem Sp.p17 (S : Sp R w (A0 :: A1 :: A2 :: A3 :: A4 :: A5 :: A6 :: A7 :: A8 :: A9 :: A10 :: A11 :: A12 :: A13 :: A14 :: A15 :: A16 :: A17 :: L)) : Sp R w (A17 :: A0 :: A1 :: A2 :: A3 :: A4 :: A5 :: A6 :: A7 :: A8 :: A9 :: A10 :: A11 :: A12 :: A13 :: A14 :: A15 :: A16 :: L) := ⟨S.1, S.2.p17⟩
theorem Sp.p18 (S : Sp R w (A0 :: A1 :: A2 :: A3 :: A4 :: A5 :: A6 :: A7 :: A8 :: A9 :: A10 :: A11 :: A12 :: A13 :: A14 :: A15 :: A16 :: A17 :: A18 :: L)) : Sp R w (A18 :: A0 :: A1 :: A2 :: A3 :: A4 :: A5 :: A6 :: A7 :: A8 :: A9 :: A10 :: A11 :: A12 :: A13 :: A14 :: A15 :: A16 :: A17 :: L) := ⟨S.1, S.2.p18⟩
theorem Sp.p19 (S : Sp R w (A0 :: A1 :: A2 :: A3 :: A4 :: A5 :: A6 :: A7 :: A8 :: A9 :: A10 :: A11 :: A12 :: A13 :: A14 :: A15 :: A16 :: A17 :: A18 :: A19 :: L)) : Sp R w (A19 :: A0 :: A1 :: A2 :: A3 :: A4 :: A5 :: A6 :: A7 :: A8 :: A9 :: A10 :: A11 :: A12 :: A13 :: A14 :: A15 :: A16 :: A17 :: A18 :: L) := ⟨S.1, S.2.p19⟩
theorem Sp.p20 (S : Sp R w (A0 :: A1 :: A2 :: A3 :: A4 :: A5 :: A6 :: A7 :: A8 :: A9 :: A10 :: A11 :: A12 :: A13 :: A14 :: A15 :: A16 :: A17 :: A18 :: A19 :: A20 :: L)) : Sp R w (A20 :: A0 :: A1 :: A2 :: A3 :: A4 :: A5 :: A6 :: A7 :: A8 :: A9 :: A10 :: A11 :: A12 :: A13 :: A14 :: A15 :: A16 :: A17 :: A18 :: A19 :: L) := ⟨S.1, S.2.p20⟩
theorem Sp.p21 (S : Sp R w (A0 :: A1 :: A2 :: A3 :: A4 :: A5 :: A6 :: A7 :: A8 :: A9 :: A10 :: A11 :: A12 :: A13 :: A14 :: A15 :: A16 :: A17 :: A18 :: A19 :: A20 :: A21 :: L)) : Sp R w (A21 :: A0 :: A1 :: A2 :: A3 :: A4 :: A5 :: A6 :: A7 :: A8 :: A9 :: A10 :: A11 :: A12 :: A13 :: A14 :: A15 :: A16 :: A17 :: A18 :: A19 :: A20 :: L) := ⟨S.1, S.2.p21⟩
theorem Sp.p22 (S : Sp R w (A0 :: A1 :: A2 :: A3 :: A4 :: A5 :: A6 :: A7 :: A8 :: A9 :: A10 :: A11 :: A12 :: A13 :: A14 :: A15 :: A16 :: A17 :: A18 :: A19 :: A20 :: A21 :: A22 :: L)) : Sp R w (A22 :: A0 :: A1 :: A2 :: A3 :: A4 :: A5 :: A6 :: A7 :: A8 :: A9 :: A10 :: A11 :: A12 :: A13 :: A14 :: A15 :: A16 :: A17 :: A18 :: A19 :: A20 :: A21 :: L) := ⟨S.1, S.2.p22⟩
theorem Sp.p23 (S : Sp R w (A0 :: A1 :: A2 :: A3 :: A4 :: A5 :: A6 :: A7 :: A8 :: A9 :: A10 :: A11 :: A12 :: A13 :: A14 :: A15 :: A16 :: A17 :: A18 :: A19 :: A20 :: A21 :: A22 :: A23 :: L)) : Sp R w (A23 :: A0 :: A1 :: A2 :: A3 :: A4 :: A5 :: A6 :: A7 :: A8 :: A9 :: A10 :: A11 :: A12 :: A13 :: A14 :: A15 :: A16 :: A17 :: A18 :: A19 :: A20 :: A21 :: A22 :: L) := ⟨S.1, S.2.p23⟩
theorem Sp.p24 (S : Sp R w (A0 :: A1 :: A2 :: A3 :: A4 :: A5 :: A6 :: A7 :: A8 :: A9 :: A10 :: A11 :: A12 :: A13 :: A14 :: A15 :: A16 :: A17 :: A18 :: A19 :: A20 :: A21 :: A22 :: A23 :: A24 :: L)) : Sp R w (A24 :: A0 :: A1 :: A2 :: A3 :: A4 :: A5 :: A6 :: A7 :: A8 :: A9 :: A10 :: A11 :: A12 :: A13 :: A14 :: A15 :: A16 :: A17 :: A18 :: A19 :: A20 :: A21 :: A22 :: A23 :: L) := ⟨S.1, S.2.p24⟩
end
end Go.Proofs.Ytkjcedlgljeoiaa
