/- Bytes of a text, of one's own: []byte(s), read and written, and back. -/
import Derived.Test.YtkjcedlgljeoiaaFb
import Derived.Test.YtkjcedlgljeoiaaBy
namespace Go.Proofs.Ytkjcedlgljeoiaa
open Go.RowKit Go.Lib

/-- The j-th byte; 0 beyond the end. -/
def bt0 (s : ByteArray) (j : Nat) : Nat := if h : j < s.size then s[j].toNat else 0
theorem bt0_at {s : ByteArray} {j : Nat} (h : j < s.size) : bt0 s j = s[j].toNat := by unfold bt0; rw [dif_pos h]
theorem bt0_le (s : ByteArray) (j : Nat) : bt0 s j ≤ 255 := by
  unfold bt0
  split
  · exact Nat.le_of_lt_succ (UInt8.toNat_lt _)
  · omega
theorem eq_of_bt0 {a b : ByteArray} (hs : a.size = b.size) (h : ∀ j, j < a.size → bt0 a j = bt0 b j) : a = b := by
  apply ByteArray.ext
  refine Array.ext hs fun i h1 h2 => ?_
  have := h i h1
  rw [bt0_at (by exact h1), bt0_at (by exact h2)] at this
  exact UInt8.toNat_inj.1 this
theorem bt0_set {b : ByteArray} {i j : Nat} {c : UInt8} (hi : i < b.size) : bt0 (b.set i c hi) j = if j = i then c.toNat else bt0 b j := by
  have hz : (b.set i c hi).size = b.size := by show (b.data.set i c hi).size = b.data.size; exact Array.size_set hi
  unfold bt0
  by_cases hj : j < b.size
  · rw [dif_pos (by rw [hz]; exact hj), dif_pos hj]
    by_cases e : j = i
    · subst e
      rw [if_pos rfl]
      show ((b.data.set j c hi)[j]'(by simpa using hi)).toNat = _
      rw [Array.getElem_set_self]
    · rw [if_neg e]
      show ((b.data.set i c hi)[j]'(by simpa using hj)).toNat = _
      rw [Array.getElem_set_ne (h := fun h => e h.symm)]
      rfl
  · rw [dif_neg (by rw [hz]; exact hj), dif_neg hj, if_neg (by omega)]
theorem set_size {b : ByteArray} {i : Nat} {c : UInt8} (hi : i < b.size) : (b.set i c hi).size = b.size := by show (b.data.set i c hi).size = b.data.size; exact Array.size_set hi
namespace SA
def bb (g : Nat) (e : TypeId) (b : ByteArray) : SA :=
  ⟨fun w F => BB w g e b ∧ ∀ k, F k ↔ k = g, fun ⟨⟨tail, h⟩, h2⟩ hk => ⟨⟨tail, (hk g ((h2 g).2 rfl)).trans h⟩, h2⟩, fun h k hk => by rw [(h.2 k).1 hk]; exact h.1.lt⟩
end SA
section
variable {n : Nat} {D : List Deferred} {a : Act} {E E' : List (Nat × Value)} {P : Program} {w : World} {R : Ctx} {L : List SA}
variable {ops : Array Oper} {rest : List Oper} {o : Oper} {Q : Exit → Act → World → Prop}
theorem Sp.bb (i : Nat) {g : Nat} {e : TypeId} {b : ByteArray} (S : Sp R w L) (hm : L[i]? = some (SA.bb g e b)) : BB w g e b := let ⟨_, h, _⟩ := S.mem (List.mem_of_getElem? hm); h
theorem bb_at {g : Nat} {e : TypeId} {b : ByteArray} (h : BB w g e b) {k m : Nat} (hk : k < b.size) (hm : bt0 b k = m) : w.cell? ⟨g, k, none⟩ = some (.int .u8 m) := by
  obtain ⟨tail, h⟩ := h
  subst hm
  rw [cell_of_row w g k _ e _ h]
  have h1 : k < (strCells b).length := by rw [strCells_length]; exact hk
  simp only [List.getElem?_toArray]
  rw [List.getElem?_append_left h1, bt0_at hk]
  have h2 : k < b.data.size := hk
  rw [strCells, List.getElem?_map, Array.getElem?_toList, Array.getElem?_eq_getElem h2]
  rfl
/-- '[]byte(s)'. -/
theorem s_bytes {src dst e : TypeId} {x : Operand} (ho : o.op = .convert src dst x) (hs : P.underlying src = some .string) (hd : P.underlying dst = some (.slice e)) (he : P.underlying e = some (.int .u8)) {s : ByteArray} (hx : a.eval x = .string s) (S : Sp R w L) :
    sAt P R L o a w (fun v A => ∃ g c : Nat, v = .slice (some ⟨g, 0, none⟩) s.size c ∧ A = SA.bb g e s) := by
  have hr := Go.Lib.run_convert_string_bytes (P := P) w src dst e s hs hd he
  have hrun : (execOp a.eval o).run P w = .ok (.value (.slice (some ⟨w.heap.size, 0, none⟩) s.size (grownCap w s.size 0 e))) (bytesWorld w e s) := by simp [execOp, ho, hx, hr]
  have hbb : BB (bytesWorld w e s) w.heap.size e s := by
    refine ⟨List.replicate (grownCap w s.size 0 e - s.size) (.int .u8 0), ?_⟩
    have e1 : (strCells s ++ List.replicate (grownCap w s.size 0 e - s.size) (Value.int .u8 0)).toArray = bytesCells w e s := by
      unfold bytesCells strCells
      apply Array.ext'
      simp
    have e2 := congrArg Array.size e1
    simp only [List.size_toArray] at e2
    rw [e1, e2]
    exact bytesWorld_at_new w e s
  unfold sAt
  rw [hrun]
  exact ⟨_, ⟨_, _, rfl, rfl⟩, S.new ⟨rfl, rfl, rfl, by rw [bytesWorld_size]; omega, fun k hk => bytesWorld_at_old w e s k hk⟩ (F := fun k => k = w.heap.size) ⟨hbb, fun _ => Iff.rfl⟩ fun k e => by rw [e]; exact Nat.le_refl _⟩
/-- A byte is written. -/
theorem s_stbb {ty : TypeId} {x y : Operand} (ho : o.op = .store ty x y) {g i : Nat} {e : TypeId} {b : ByteArray} (hx : a.eval x = .pointer (some ⟨g, i, none⟩)) {z : Int} (hy : a.eval y = .int .u8 z) (S : Sp R w (SA.bb g e b :: L)) (hi : (P.info? ty).map (·.size) = some 1) (hs : i < b.size)
    (c : UInt8) (hz : (c.toNat : Int) = z) : sAt P R L o a w (fun _ A => A = SA.bb g e (b.set i c hs)) := by
  subst hz
  have hb := S.bb 0 rfl
  have hcell := bb_at hb hs rfl
  have hst := run_storeCells_cells (P := P) g i [.int .u8 c.toNat] 0 w (fun j hj => by
      obtain rfl : j = 0 := by simpa using hj
      simp [hcell]) (fun j hj => by
      obtain rfl : j = 0 := by simpa using hj
      exact hb.frozen hs)
    (fun v hv => by rw [List.mem_singleton.1 hv]; rfl)
  have hrun : (storeVar ty ⟨g, i, none⟩ (.int .u8 c.toNat)).run P w = .ok () (w.setCell ⟨g, i, none⟩ (.int .u8 c.toNat)) := by
    cases hq : P.info? ty with
    | none => simp [hq] at hi
    | some inf =>
      have hz : inf.size = 1 := by simpa [hq] using hi
      simp only [Nat.add_zero] at hst
      simp [storeVar, sizeOf, typeInfo, hq, Value.cells, hz, hst]
      rfl
  unfold sAt execOp
  simp only [ho, hx, hy, Instr.storeAt, Instr.sureAddr, Sem.run_bind, Sem.run_pure, Result.andThen_ok, hrun]
  exact ⟨_, rfl, S.upd rfl rfl rfl fun F hF => ⟨F, ⟨(hb.set hs c).1, hF.2⟩, fun k h => .inl h, fun k _ hk => Below.heap_setCell w ⟨g, i, none⟩ _ k fun e => hk ((hF.2 k).2 e)⟩⟩
/-- A text out of them. -/
theorem r_bb2s {src dst e : TypeId} {x : Operand} (ho : o.op = .convert src dst x) (hs : P.underlying src = some (.slice e)) (he : P.underlying e = some (.int .u8)) (hd : P.underlying dst = some .string) {g c : Nat} {e' : TypeId} {b : ByteArray} (h : BB w g e' b) {m : Nat} (hx : a.eval x = .slice (some ⟨g, 0, none⟩) m c) (hm : m = b.size)
    (hn : b.size ≤ 9223372036854775807) : (execOp a.eval o).run P w = .ok (.value (.string b)) w := by
  subst hm
  unfold execOp
  simp only [ho, hx]
  rw [Sem.run_bind, sl_text hs he hd (h.sl hn) (fun ad e => by injection e with e; subst e; rfl)]
  rfl
theorem wru8 {r z : Int} (h : r = z) (h1 : 0 ≤ z) (h2 : z ≤ 255) : IntKind.u8.wrap r = z := by subst h; exact IntWalk.u8_in _ ⟨h1, h2⟩
theorem wri32 {r z : Int} (h : r = z) (h1 : -2147483648 ≤ z) (h2 : z ≤ 2147483647) : IntKind.i32.wrap r = z := by subst h; exact IntWalk.i32_in _ ⟨h1, h2⟩
theorem s_pb (F : Fr n D a E) {b q : Bool} (hT : b = q) (hrun : (execOp (valE E) o).run P w = .ok (.value (.bool b)) w) (hk : knownL E o.op.operands.toList = true) (hs : isSelect o.op = false) (S : Sp R w (SA.emp :: L)) : sAt P R L o a w (fun u A => u = .bool q ∧ A = SA.emp) := by
  subst hT; exact s_p F hrun hk hs S
theorem s_rb {b q : Bool} (hT : b = q) (hrun : (execOp a.eval o).run P w = .ok (.value (.bool b)) w) (S : Sp R w (SA.emp :: L)) : sAt P R L o a w (fun u A => u = .bool q ∧ A = SA.emp) := by
  subst hT; exact s_r hrun S
end
def lowN (n : Nat) : Nat := if 65 ≤ n ∧ n ≤ 90 then n + 32 else n
def lowF (s : ByteArray) : ByteArray := ⟨s.data.map fun c => UInt8.ofNat (lowN c.toNat)⟩
theorem lowN_le {n : Nat} (h : n ≤ 255) : lowN n ≤ 255 := by unfold lowN; split <;> omega
theorem lowF_size (s : ByteArray) : (lowF s).size = s.size := by show (s.data.map _).size = s.data.size; exact Array.size_map
theorem lowF_bt (s : ByteArray) {j : Nat} (h : j < s.size) : bt0 (lowF s) j = lowN (bt0 s j) := by
  rw [bt0_at (by rw [lowF_size]; exact h), bt0_at h]
  have h2 : lowN s[j].toNat ≤ 255 := lowN_le (Nat.le_of_lt_succ (UInt8.toNat_lt _))
  have e : (lowF s)[j]'(by rw [lowF_size]; exact h) = UInt8.ofNat (lowN s[j].toNat) := by
    show (s.data.map _)[j]'(by simpa using h) = _
    rw [Array.getElem_map]
    rfl
  rw [e, UInt8.toNat_ofNat_of_lt' (Nat.lt_of_le_of_lt h2 (by decide))]
end Go.Proofs.Ytkjcedlgljeoiaa
