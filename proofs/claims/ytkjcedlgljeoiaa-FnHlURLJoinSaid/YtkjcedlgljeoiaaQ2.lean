/- Contracts: hlPieces, HlLines: the pieces of a text between one byte. -/
import Derived.Test.YtkjcedlgljeoiaaQ1
namespace Go.Proofs.Ytkjcedlgljeoiaa
open Go.RowKit Go.Lib

theorem here_one {s : ByteArray} {c : UInt8} {j : Nat} (h : j < s.size) : hereB s ⟨#[c]⟩ j = (s[j] == c) := by
  rw [hereB_eq]
  have hl : j < s.data.toList.length := by simpa using h
  rw [List.drop_eq_getElem_cons hl]
  have e : s.data.toList[j] = s[j] := rfl
  rw [e]
  show (List.take 1 _ == [c]) = _
  simp
theorem ext_get {s : ByteArray} {f k : Nat} (h : f + k < s.size) (h2 : k < (s.extract f s.size).size) : (s.extract f s.size)[k] = s[f + k] := by
  rw [ByteArray.getElem_extract]
theorem ext_ext (s : ByteArray) (f a b : Nat) (hb : f + b ≤ s.size) : (s.extract f s.size).extract a b = s.extract (f + a) (f + b) := by
  rw [ByteArray.extract_extract]
  congr 1
  omega
/-- The first place of c behind f. -/
theorem idx_piece {s : ByteArray} {c : UInt8} {f k : Nat} (hf : f ≤ k) (hk : k < s.size) (hno : ∀ j, ∀ h : j < s.size, f ≤ j → j < k → s[j] ≠ c) (he : s[k] = c) : idxO (s.extract f s.size) ⟨#[c]⟩ = some (k - f) := by
  have hsz : (s.extract f s.size).size = s.size - f := by simp [ByteArray.size_extract]
  have h1 : (⟨#[c]⟩ : ByteArray).size = 1 := rfl
  refine firstN_some (by rw [hsz, h1]; omega) (fun j hj => ?_) ?_
  · rw [here_one (by rw [hsz]; omega), ext_get (by omega) _]
    simpa using hno (f + j) (by omega) (by omega) (by omega)
  · rw [here_one (by rw [hsz]; omega), ext_get (by omega) _]
    have e : s[f + (k - f)]'(by omega) = s[k] := by congr 1; omega
    rw [e]; simpa using he
theorem idx_piece_none {s : ByteArray} {c : UInt8} {f : Nat} (hno : ∀ j, ∀ h : j < s.size, f ≤ j → s[j] ≠ c) : idxO (s.extract f s.size) ⟨#[c]⟩ = none := by
  have hsz : (s.extract f s.size).size = s.size - f := by simp [ByteArray.size_extract]
  have h1 : (⟨#[c]⟩ : ByteArray).size = 1 := rfl
  refine firstN_none fun j hj => ?_
  rw [hsz, h1] at hj
  rw [here_one (by rw [hsz]; omega), ext_get (by omega) _]
  simpa using hno (f + j) (by omega) (by omega)
theorem split_step {s : ByteArray} {c : UInt8} {f k K : Nat} (hf : f ≤ k) (hk : k < s.size) (hno : ∀ j, ∀ h : j < s.size, f ≤ j → j < k → s[j] ≠ c) (he : s[k] = c) :
    splitF ⟨#[c]⟩ (K + 1) (s.extract f s.size) = s.extract f k :: splitF ⟨#[c]⟩ K (s.extract (k + 1) s.size) := by
  have hsz : (s.extract f s.size).size = s.size - f := by simp [ByteArray.size_extract]
  have h1 : (⟨#[c]⟩ : ByteArray).size = 1 := rfl
  conv => lhs; unfold splitF
  rw [idx_piece hf hk hno he]
  simp only []
  rw [ext_ext _ _ _ _ (by omega), hsz, h1, ext_ext _ _ _ _ (by omega)]
  have e1 : f + 0 = f := rfl
  have e2 : f + (k - f) = k := by omega
  have e3 : f + (k - f + 1) = k + 1 := by omega
  have e4 : f + (s.size - f) = s.size := by omega
  rw [e1, e2, e3, e4]
theorem split_end {s : ByteArray} {c : UInt8} {f K : Nat} (hno : ∀ j, ∀ h : j < s.size, f ≤ j → s[j] ≠ c) : splitF ⟨#[c]⟩ K (s.extract f s.size) = [s.extract f s.size] := by
  cases K with
  | zero => rfl
  | succ K => unfold splitF; rw [idx_piece_none hno]
theorem ext_whole (s : ByteArray) : s.extract 0 s.size = s := by
  apply ByteArray.ext; simp

set_option maxRecDepth 100000 in
set_option maxHeartbeats 2000000 in
theorem pieces_any (s : ByteArray) (b : UInt8) (w : World) (hs : s.size ≤ 1000000) :
    Calls Try.prog 91 #[.string s, .int .u8 b.toNat] w fun e w' => ∃ v, e = .returned v ∧ w'.ownsRow w.heap.size 9 1 v (splitF ⟨#[b]⟩ (s.size + 1) s).length (strs (splitF ⟨#[b]⟩ (s.size + 1) s)) ∧ Below w.heap.size w w' := by
  go_enter Try.func91, Try.ntmps91
  go_wp2
  go_loopw [5, 6, 10] (fun v f i wr => ∃ (k f0 K : Nat) (done : List ByteArray), k ≤ s.size ∧ f0 ≤ k ∧ i = .int .i64 k ∧ f = .int .i64 f0 ∧ Hid (wr.ownsRow w.heap.size 9 1 v done.length (strs done)) ∧ Hid (Below w.heap.size w wr) ∧
      Hid (done ++ splitF ⟨#[b]⟩ K (s.extract f0 s.size) = splitF ⟨#[b]⟩ (s.size + 1) s) ∧ s.size + 1 ≤ K + f0 ∧ done.length ≤ f0 ∧ Hid (∀ j, ∀ h : j < s.size, f0 ≤ j → j < k → s[j] ≠ b)) (fun _ _ i _ => s.size - (intOf i).toNat)
  case atStart => exact ⟨0, 0, s.size + 1, [], Nat.zero_le _, Nat.le_refl _, rfl, rfl, own_nil _ _ _ _, Below.refl _ _, by show _ = _; rw [ext_whole]; rfl, by omega, Nat.le_refl _, fun j h _ hj => by omega⟩
  case round =>
    obtain ⟨k, f0, K, done, hk, hf, rfl, rfl, HO, HB, HL, hK, hd, HN⟩ := hrel
    by_cases hlt : k < s.size
    · by_cases he : s[k] = b
      · have d1 : ((s[k].toNat : Int) == (b.toNat : Int)) = true := by simp [he]
        obtain ⟨K, rfl⟩ : ∃ q, K = q + 1 := ⟨K - 1, by omega⟩
        have hL2 : (done ++ [s.extract f0 k]) ++ splitF ⟨#[b]⟩ K (s.extract (k + 1) s.size) = splitF ⟨#[b]⟩ (s.size + 1) s := by
          rw [← HL.out, split_step hf hlt HN.out he]; simp
        have HL2 := Lib.hid hL2
        clear hL2 HL HN he
        have hbA : Hid (Below wr.heap.size wr (wr.alloc (.cells #[.string (s.extract f0 k)] 9))) := (Below.refl _ _).alloc (Nat.le_refl _) _
        have hsA : Hid (Sl (wr.alloc (.cells #[.string (s.extract f0 k)] 9)) (some ⟨wr.heap.size, 0, none⟩) (strs [s.extract f0 k])) := (Blk.new wr 9 #[.string (s.extract f0 k)]).sl (by simp)
        go_wp2_with ((with_reducible refine at_dst (N := 24) rfl ?_); refine ev_app (w := wr.alloc (.cells #[.string (s.extract f0 k)] 9)) rfl _ _ 22 9 rfl Try.underlying22 _ 1 16 info9 rfl (by omega) w.heap.size _ _ _ rfl (own_below HO.out hbA.out) _ 1 1 (strs [s.extract f0 k]) rfl hsA.out (by simp [strs]) (by simp [strs, Value.oneCell']) (by omega) (by omega) (Nat.le_trans HB.out.size hbA.out.size) ?_; intro v1 w1 ho1 hg1 hat1
                     have HX := Lib.hid (below_row (below_trans HB.out hbA.out) hg1 (Nat.le_trans HB.out.size hbA.out.size) (own_ge HO.out))
                     have ho2 : w1.ownsRow w.heap.size 9 1 v1 (done ++ [s.extract f0 k]).length (strs (done ++ [s.extract f0 k])) := by simpa [strs] using ho1
                     have HO1 := Lib.hid ho2
                     clear ho1 ho2 hg1 hat1)
        refine ⟨⟨k + 1, k + 1, K, done ++ [s.extract f0 k], by omega, Nat.le_refl _, by go_num, by go_num, HO1, HX, HL2, by omega, by simp; omega, fun j h h1 h2 => by omega⟩, ?_⟩
        simp [intOf]; omega
      · have d1 : ((s[k].toNat : Int) == (b.toNat : Int)) = false := by
          simp only [beq_eq_false_iff_ne, ne_eq]
          intro e
          exact he (UInt8.toNat_inj.1 (by omega))
        have HN2 : Hid (∀ j, ∀ h : j < s.size, f0 ≤ j → j < k + 1 → s[j] ≠ b) := fun j h h1 h2 => by
          by_cases e : j = k
          · subst e; exact he
          · exact HN.out j h h1 (by omega)
        clear HN he
        go_wp2_with fail
        refine ⟨⟨k + 1, f0, K, done, by omega, by omega, by go_num, rfl, HO, HB, HL, hK, hd, HN2⟩, ?_⟩
        simp [intOf]; omega
    · have hL2 : done ++ [s.extract f0 s.size] = splitF ⟨#[b]⟩ (s.size + 1) s := by
        rw [← HL.out, split_end (fun j h h1 => HN.out j h h1 (by omega))]
      have HL2 := Lib.hid hL2
      clear hL2 HL HN
      have hbA : Hid (Below wr.heap.size wr (wr.alloc (.cells #[.string (s.extract f0 s.size)] 9))) := (Below.refl _ _).alloc (Nat.le_refl _) _
      have hsA : Hid (Sl (wr.alloc (.cells #[.string (s.extract f0 s.size)] 9)) (some ⟨wr.heap.size, 0, none⟩) (strs [s.extract f0 s.size])) := (Blk.new wr 9 #[.string (s.extract f0 s.size)]).sl (by simp)
      go_wp2_with ((with_reducible refine at_dst (N := 33) rfl ?_); refine ev_app (w := wr.alloc (.cells #[.string (s.extract f0 s.size)] 9)) rfl _ _ 22 9 rfl Try.underlying22 _ 1 16 info9 rfl (by omega) w.heap.size _ _ _ rfl (own_below HO.out hbA.out) _ 1 1 (strs [s.extract f0 s.size]) rfl hsA.out (by simp [strs]) (by simp [strs, Value.oneCell']) (by omega) (by omega) (Nat.le_trans HB.out.size hbA.out.size) ?_; intro v1 w1 ho1 hg1 hat1
                   have HX := Lib.hid (below_row (below_trans HB.out hbA.out) hg1 (Nat.le_trans HB.out.size hbA.out.size) (own_ge HO.out))
                   have ho2 : w1.ownsRow w.heap.size 9 1 v1 (done ++ [s.extract f0 s.size]).length (strs (done ++ [s.extract f0 s.size])) := by simpa [strs] using ho1
                   have HO1 := Lib.hid ho2
                   clear ho1 ho2 hg1 hat1)
      go_ret
      exact ⟨_, rfl, by rw [← HL2.out]; exact HO1.out, HX.out⟩
end Go.Proofs.Ytkjcedlgljeoiaa
