/- Contracts: plain.Split, plain.ReplaceAll, Transform. -/
import Derived.Test.YtkjcedlgljeoiaaP4
namespace Go.Proofs.Ytkjcedlgljeoiaa
open Go.RowKit Go.Lib

def splitF (sep : ByteArray) : Nat → ByteArray → List ByteArray
  | 0, s => [s]
  | k + 1, s => match idxO s sep with
    | some i => s.extract 0 i :: splitF sep k (s.extract (i + sep.size) s.size)
    | none => [s]
theorem idxO_lt {s sub : ByteArray} {i : Nat} (h : idxO s sub = some i) : i + sub.size ≤ s.size := by
  unfold idxO firstN at h
  rw [List.find?_range_eq_some] at h
  have := List.mem_range.1 h.2.1
  omega
theorem splitF_len (sep : ByteArray) (hm : 1 ≤ sep.size) : ∀ (k : Nat) (s : ByteArray), (splitF sep k s).length ≤ s.size + 1
  | 0, s => by simp [splitF]
  | k + 1, s => by
    unfold splitF
    cases h : idxO s sep with
    | none => simp
    | some i =>
      have h1 := idxO_lt h
      have h2 := splitF_len sep hm k (s.extract (i + sep.size) s.size)
      simp [ByteArray.size_extract] at h2 ⊢
      omega

set_option maxRecDepth 100000 in
set_option maxHeartbeats 1000000 in
theorem split_any (s sep : ByteArray) (w : World) (hm : 1 ≤ sep.size) (hs : s.size + sep.size ≤ 1099511627776) :
    Calls Try.prog 202 #[.string s, .string sep] w fun e w' => ∃ v, e = .returned v ∧ w'.ownsRow w.heap.size 9 1 v (splitF sep (s.size + 1) s).length (strs (splitF sep (s.size + 1) s)) ∧ Below w.heap.size w w' := by
  go_enter Try.func202, Try.ntmps202
  go_wp2_with (go_at_call 145; (with_reducible refine (index_any _ _ _ (by omega)).mono ?_); rintro e w' ⟨rfl, rfl⟩)
  go_loopw [0, 5, 6] (fun v0 v i wr => ∃ (k : Nat) (s1 : ByteArray) (done : List ByteArray), v0 = .string s1 ∧ i = .int .i64 (idxI s1 sep) ∧ wr.ownsRow w.heap.size 9 1 v done.length (strs done) ∧ Below w.heap.size w wr ∧
      Hid (done ++ splitF sep k s1 = splitF sep (s.size + 1) s) ∧ s1.size < k ∧ done.length + s1.size ≤ s.size) (fun v0 _ _ _ => match v0 with | .string s1 => s1.size | _ => 0)
  case atStart => exact ⟨s.size + 1, s, [], rfl, rfl, own_nil _ _ _ _, Below.refl _ _, rfl, by omega, by simp⟩
  case round =>
    obtain ⟨k, s1, done, rfl, rfl, hown, hbel, HL, hk, hd⟩ := hrel
    have HO := Lib.hid hown
    have HB := Lib.hid hbel
    clear hown hbel
    cases hi : idxO s1 sep with
    | some i =>
      have hlt := idxO_lt hi
      have hv : idxI s1 sep = (i : Int) := by simp [idxI, hi]
      obtain ⟨k, rfl⟩ : ∃ j, k = j + 1 := ⟨k - 1, by omega⟩
      have hL2 : (done ++ [s1.extract 0 i]) ++ splitF sep k (s1.extract (i + sep.size) s1.size) = splitF sep (s.size + 1) s := by
        rw [← HL.out]
        conv => rhs; unfold splitF
        rw [hi]
        simp
      have HL2 := Lib.hid hL2
      clear hL2 HL hi
      rw [hv]
      clear hv
      go_wp2_with fail
      have hbW : Below wr.heap.size wr ((wr.alloc (.cells #[.string (s1.extract 0 i)] 9)).drew) := ((Below.refl _ _).alloc (Nat.le_refl _) _).drew
      have hsl : Sl ((wr.alloc (.cells #[.string (s1.extract 0 i)] 9)).drew) (some ⟨wr.heap.size, 0, none⟩) (strs [s1.extract 0 i]) := ((Blk.new wr 9 #[.string (s1.extract 0 i)]).sl (by simp)).below ((Below.refl _ _).drew)
      have HS := Lib.hid hsl
      have HW := Lib.hid hbW
      clear hsl hbW
      have hle : i ≤ s1.size := by omega
      have hle2 : i + sep.size ≤ s1.size := hlt
      have e1 : IntKind.i64.wrap ((i : Int) + (sep.size : Int)) = (i : Int) + (sep.size : Int) := IntWalk.i64_in _ (by omega)
      have e2 : (0 : Int) ≤ (i : Int) + (sep.size : Int) := by omega
      have e3 : (i : Int) + (sep.size : Int) ≤ (s1.size : Int) := by omega
      have e4 : ((i : Int) + (sep.size : Int)).toNat = i + sep.size := by omega
      go_region_law (refine st_app (w := (wr.alloc (.cells #[.string (s1.extract 0 i)] 9)).drew) rfl _ _ 22 9 rfl Try.underlying22 _ 1 16 info9 rfl (by omega) w.heap.size _ _ _ rfl (own_below HO.out HW.out) _ 1 1 (strs [s1.extract 0 i]) rfl HS.out (by simp [strs]) (by simp [strs, Value.oneCell']) (by omega) (by omega) (Nat.le_trans HB.out.size HW.out.size) ?_; intro v1 w1 ho1 hg1 hat1)
      clear e1 e2 e3 e4
      go_wp2_with (go_at_call 145; (with_reducible refine (index_any _ _ _ (by simp [ByteArray.size_extract]; omega)).mono ?_); rintro e w' ⟨rfl, rfl⟩)
      go_roundw
      case rel =>
        refine ⟨k, s1.extract (i + sep.size) s1.size, done ++ [s1.extract 0 i], rfl, rfl, ?_, ?_, HL2.out, ?_, ?_⟩
        · simpa [strs] using ho1
        · exact below_row (HB.out.trans (HW.out.mono HB.out.size)) hg1 (Nat.le_trans HB.out.size HW.out.size) (own_ge HO.out)
        · simp [ByteArray.size_extract]; omega
        · simp [ByteArray.size_extract]; omega
      case measure => simp [ByteArray.size_extract]; omega
    | none =>
      have hv : idxI s1 sep = -1 := by simp [idxI, hi]
      rw [hv]
      clear hv
      obtain ⟨k, rfl⟩ : ∃ j, k = j + 1 := ⟨k - 1, by omega⟩
      have hL2 : done ++ [s1] = splitF sep (s.size + 1) s := by
        rw [← HL.out]
        conv => rhs; unfold splitF
        rw [hi]
      have HL2 := Lib.hid hL2
      clear hL2 HL hi
      have hbW : Below wr.heap.size wr (wr.alloc (.cells #[.string s1] 9)) := (Below.refl _ _).alloc (Nat.le_refl _) _
      have hsl : Sl (wr.alloc (.cells #[.string s1] 9)) (some ⟨wr.heap.size, 0, none⟩) (strs [s1]) := (Blk.new wr 9 #[.string s1]).sl (by simp)
      have HS := Lib.hid hsl
      have HW := Lib.hid hbW
      clear hsl hbW
      go_wp2_with ((with_reducible refine at_dst (N := 30) rfl ?_); refine ev_app (w := wr.alloc (.cells #[.string s1] 9)) rfl _ _ 22 9 rfl Try.underlying22 _ 1 16 info9 rfl (by omega) w.heap.size _ _ _ rfl (own_below HO.out HW.out) _ 1 1 (strs [s1]) rfl HS.out (by simp [strs]) (by simp [strs, Value.oneCell']) (by omega) (by omega) (Nat.le_trans HB.out.size HW.out.size) ?_; intro v1 w1 ho1 hg1 hat1)
      go_ret
      refine ⟨_, rfl, ?_, ?_⟩
      · rw [← HL2.out]
        simpa [strs] using ho1
      · exact below_row (HB.out.trans (HW.out.mono HB.out.size)) hg1 (Nat.le_trans HB.out.size HW.out.size) (own_ge HO.out)

def replF (s old new : ByteArray) : ByteArray := joinF new (splitF old (s.size + 1) s)
theorem splitF_sum (sep : ByteArray) : ∀ (k : Nat) (s : ByteArray), szSum (splitF sep k s) ≤ s.size
  | 0, s => by simp [splitF, szSum]
  | k + 1, s => by
    unfold splitF
    cases h : idxO s sep with
    | none => simp [szSum]
    | some i =>
      have h1 := idxO_lt h
      have h2 := splitF_sum sep k (s.extract (i + sep.size) s.size)
      simp [szSum, ByteArray.size_extract] at h2 ⊢
      omega
end Go.Proofs.Ytkjcedlgljeoiaa
