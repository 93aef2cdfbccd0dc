/- A text turned into bytes of one's own: the block, its cells read and written, its text. -/
import Derived.Test.YtkjcedlgljeoiaaRw
import Derived.Lib.ConvBytes
namespace Go.Proofs.Ytkjcedlgljeoiaa
open Go.RowKit Go.Lib

/-- Block g holds the bytes b (and spare zeros, and the mark of a conversion behind them). -/
def BB (w : World) (g : Nat) (e : TypeId) (b : ByteArray) : Prop := ∃ tail : List Value, w.heap[g]? = some (.cells (strCells b ++ tail).toArray e ((strCells b ++ tail).length, (strCells b ++ tail).length + 1))
section
variable {w w' : World} {g : Nat} {e : TypeId} {b : ByteArray}
theorem BB.lt (h : BB w g e b) : g < w.heap.size := by
  obtain ⟨tail, h⟩ := h
  exact (Array.getElem?_eq_some_iff.1 h).1
theorem BB.below (h : BB w g e b) (hb : Below w.heap.size w w') : BB w' g e b := by
  have hl := h.lt
  obtain ⟨tail, h⟩ := h
  exact ⟨tail, (hb.block g hl).trans h⟩
theorem BB.sl (h : BB w g e b) (hn : b.size ≤ 9223372036854775807) : Sl w (some ⟨g, 0, none⟩) (strCells b) := by
  obtain ⟨tail, h⟩ := h
  refine ⟨by rw [strCells_length]; exact hn, fun _ => ⟨_, rfl, fun j u hu => ?_⟩⟩
  rw [cadd_zero, cell_of_row w g j _ e _ h]
  simp only [List.getElem?_toArray]
  rw [List.getElem?_append_left (List.getElem?_eq_some_iff.1 hu).1]
  exact hu
theorem BB.frozen (h : BB w g e b) {i : Nat} (hi : i < b.size) : w.frozen? ⟨g, i, none⟩ = false := by
  obtain ⟨tail, h⟩ := h
  simp only [World.frozen?, h]
  have h1 : (strCells b ++ tail).length = b.size + tail.length := by rw [List.length_append, strCells_length]
  simp only [Bool.and_eq_false_imp, decide_eq_true_eq, h1]
  simp
  omega
/-- The byte at i is replaced. -/
theorem BB.set (h : BB w g e b) {i : Nat} (hi : i < b.size) (c : UInt8) : BB (w.setCell ⟨g, i, none⟩ (.int .u8 c.toNat)) g e (b.set i c hi) ∧ w.grownBy (w.setCell ⟨g, i, none⟩ (.int .u8 c.toNat)) (some g) := by
  obtain ⟨tail, h⟩ := h
  refine ⟨⟨tail, ?_⟩, rfl, rfl, rfl, by simp [World.setCell], fun k _ hne => Below.heap_setCell w ⟨g, i, none⟩ _ k (fun e => hne (by rw [e]))⟩
  have hs : strCells (b.set i c hi) = (strCells b).set i (.int .u8 c.toNat) := by
    unfold strCells ByteArray.set
    simp [List.map_set]
  have hl : i < (strCells b).length := by rw [strCells_length]; exact hi
  simp only [World.setCell, Array.getElem?_modify, h]
  simp only [if_true, Option.map_some, Option.isSome_none, Bool.false_eq_true, if_false]
  rw [hs]
  have e1 : ((strCells b).set i (Value.int .u8 c.toNat) ++ tail) = (strCells b ++ tail).set i (.int .u8 c.toNat) := by rw [List.set_append_left _ _ hl]
  rw [e1]
  simp
theorem sl_text {P : Program} {w : World} {src dst e : TypeId} {A : Option Addr} {c : Nat} {b : ByteArray} (hs : P.underlying src = some (.slice e)) (he : P.underlying e = some (.int .u8)) (hd : P.underlying dst = some .string)
    (h : Sl w A (strCells b)) (hA : ∀ ad, A = some ad → ad.spot = none) : (convert src dst (.slice A b.size c)).run P w = .ok (.string b) w := by
  rcases Nat.eq_zero_or_pos b.size with h0 | h0
  · have hb : b = ByteArray.empty := by
      apply ByteArray.ext
      apply Array.eq_empty_of_size_eq_zero
      exact h0
    subst hb
    cases A with
    | none => exact run_convert_bytes_nil w src e hs he _ c dst hd
    | some ad =>
      obtain ⟨bl, off, sp⟩ := ad
      obtain rfl : sp = none := hA _ rfl
      have := run_convert_bytes_arg w src e hs he bl off 0 c [] rfl (fun i hi => by omega) dst hd
      exact this
  · obtain ⟨ad, rfl, hc⟩ := h.2 (by rw [strCells_length]; exact h0)
    obtain ⟨bl, off, sp⟩ := ad
    obtain rfl : sp = none := hA _ rfl
    have hx : strOfNums (b.data.toList.map fun c => (c.toNat : Int)) = b := by
      apply ByteArray.ext
      apply Array.ext'
      rw [strOfNums_data]
      simp [List.map_map, Function.comp_def]
    have hl : (b.data.toList.map fun c => (c.toNat : Int)).length = b.size := by simp
    have := run_convert_bytes_arg w src e hs he bl off b.size c _ hl (fun i hi => by
      have hi2 : i < b.data.toList.length := by simpa using hi
      have hcell := hc i (.int .u8 ((b.data.toList.map fun c => (c.toNat : Int)).getD i 0)) (by
        simp [strCells, List.getD_eq_getElem?_getD, List.getElem?_map, List.getElem?_eq_getElem hi2])
      have hplain : (⟨bl, off, none⟩ : Addr).add i = ⟨bl, off + i, none⟩ := by unfold Addr.add; split <;> simp_all
      rwa [hplain] at hcell) dst hd
    rwa [hx] at this
end
section
variable {P : Program} {ops : Array Oper} {rest : List Oper} {o : Oper} {a : Act} {w : World} {Q : Exit → Act → World → Prop}
/-- '[]byte(s)'. -/
theorem ev_bytes (hgd : o.guard = none) (src dst e : TypeId) (x : Operand) (ho : o.op = .convert src dst x) (hs : P.underlying src = some .string) (hd : P.underlying dst = some (.slice e)) (he : P.underlying e = some (.int .u8))
    (s : ByteArray) (hx : a.eval x = .string s)
    (h : ∀ (g c : Nat) (w1 : World), w.heap.size ≤ g → s.size ≤ c → BB w1 g e s → Below w.heap.size w w1 → wpList P ops Q rest (a.put o.dst (.slice (some ⟨g, 0, none⟩) s.size c)) w1) : wpList P ops Q (o :: rest) a w := by
  have hr := Go.Lib.run_convert_string_bytes (P := P) w src dst e s hs hd he
  refine ev_run hgd (v := .slice (some ⟨w.heap.size, 0, none⟩) s.size (grownCap w s.size 0 e)) (w1 := bytesWorld w e s) ?_ (h _ _ _ (Nat.le_refl _) (grownCap_ge _ _ _ _) ?_ ?_)
  · simp [execOp, ho, hx, hr]
  · refine ⟨List.replicate (grownCap w s.size 0 e - s.size) (.int .u8 0), ?_⟩
    have e1 : (strCells s ++ List.replicate (grownCap w s.size 0 e - s.size) (Value.int .u8 0)).toArray = bytesCells w e s := by
      unfold bytesCells strCells
      apply Array.ext'
      simp
    have e2 := congrArg Array.size e1
    simp only [List.size_toArray] at e2
    rw [e1, e2]
    exact bytesWorld_at_new w e s
  · exact ⟨rfl, rfl, rfl, by rw [bytesWorld_size]; omega, fun k hk => bytesWorld_at_old w e s k hk⟩
end
end Go.Proofs.Ytkjcedlgljeoiaa
