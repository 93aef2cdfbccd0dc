/- Contracts: plain.IsSpace, plain.Sanitize, sanitizeString, ChClean: white made blanks, what is not printed taken out. -/
import Derived.Test.YtdgblfldbikneaaP5
import Derived.Test.YtdgblfldbikneaaMs
namespace Go.Proofs.Ytdgblfldbikneaa
open Go.RowKit Go.Lib

def isSp (r : Int) : Bool := (decide (9 ≤ r) && decide (r ≤ 13)) || r == 32
theorem isSpace_any (r : Int) (w : World) (h0 : 0 ≤ r) (h1 : r ≤ 127) :
    Calls Try.prog 145 #[.int .i32 r] w fun e w' => e = .returned (.bool (isSp r)) ∧ w = w' := by
  by_cases h : r = 9 ∨ r = 10 ∨ r = 11 ∨ r = 12 ∨ r = 13 ∨ r = 32
  · rcases h with rfl | rfl | rfl | rfl | rfl | rfl <;>
    · go_enter Try.func145, Try.ntmps145
      go_wp2
      go_ret
      exact ⟨rfl, rfl⟩
  · have hf : isSp r = false := by simp [isSp]; omega
    have HF := Lib.hid hf
    have k1 : (r == 9) = false := by simp; omega
    have k2 : (r == 10) = false := by simp; omega
    have k3 : (r == 11) = false := by simp; omega
    have k4 : (r == 12) = false := by simp; omega
    have k5 : (r == 13) = false := by simp; omega
    have k6 : (r == 32) = false := by simp; omega
    have k7 : (r == 133) = false := by simp; omega
    have k8 : (r == 160) = false := by simp; omega
    have k9 : (r == 5760) = false := by simp; omega
    have k10 : (r == 8232) = false := by simp; omega
    have k11 : (r == 8233) = false := by simp; omega
    have k12 : (r == 8239) = false := by simp; omega
    have k13 : (r == 8287) = false := by simp; omega
    have k14 : (r == 12288) = false := by simp; omega
    have k15 : decide (8192 ≤ r) = false := by simp; omega
    clear hf h
    go_enter Try.func145, Try.ntmps145
    go_wp2
    go_ret
    exact ⟨ret_bool HF.out.symm, rfl⟩

def cleanB (c : UInt8) : Option UInt8 := if 9 ≤ c.toNat ∧ c.toNat ≤ 13 then some 32 else if 32 ≤ c.toNat ∧ c.toNat < 127 then some c else none
def cleanL (s : ByteArray) (k : Nat) : List UInt8 := (s.data.toList.take k).filterMap cleanB
def cleanF (s : ByteArray) : ByteArray := ⟨(s.data.toList.filterMap cleanB).toArray⟩
def u8s (l : List UInt8) : List Value := l.map fun c => .int .u8 c.toNat
theorem cleanL_none {s : ByteArray} {k : Nat} (hk : k < s.size) (h : cleanB s[k] = none) : cleanL s (k + 1) = cleanL s k := by
  have hl : k < s.data.toList.length := by simpa using hk
  unfold cleanL
  rw [List.take_succ_eq_append_getElem hl, List.filterMap_append]
  have h2 : cleanB (s.data.toList[k]) = none := h
  have : [s.data.toList[k]].filterMap cleanB = [] := by simp only [List.filterMap_cons, h2, List.filterMap_nil]
  rw [this, List.append_nil]
theorem cleanL_some {s : ByteArray} {k : Nat} (hk : k < s.size) {c : UInt8} (h : cleanB s[k] = some c) : cleanL s (k + 1) = cleanL s k ++ [c] := by
  have hl : k < s.data.toList.length := by simpa using hk
  unfold cleanL
  rw [List.take_succ_eq_append_getElem hl, List.filterMap_append]
  have h2 : cleanB (s.data.toList[k]) = some c := h
  have : [s.data.toList[k]].filterMap cleanB = [c] := by simp only [List.filterMap_cons, h2, List.filterMap_nil]
  rw [this]
theorem cleanL_len (s : ByteArray) (k : Nat) : (cleanL s k).length ≤ k := Nat.le_trans (List.length_filterMap_le _ _) (by simp; omega)
theorem own_u8 {w : World} {B : Nat} {v : Value} {l : List UInt8} (h : w.ownsRow B 5 1 v l.length (u8s l)) : w.ownsRow B 5 1 v (⟨l.toArray⟩ : ByteArray).size (strCells ⟨l.toArray⟩) := by
  have : (⟨l.toArray⟩ : ByteArray).size = l.length := by simp [ByteArray.size]
  rw [this]
  simpa [strCells, u8s] using h
theorem cleanL_all (s : ByteArray) (k : Nat) (h : s.size ≤ k) : (⟨(cleanL s k).toArray⟩ : ByteArray) = cleanF s := by
  unfold cleanL cleanF
  rw [List.take_of_length_le (by simpa using h)]
theorem own_u8_succ {w : World} {B : Nat} {v : Value} {l : List UInt8} {c : UInt8} (h : w.ownsRow B 5 1 v (l.length + 1) (u8s l ++ u8s [c])) : w.ownsRow B 5 1 v (l ++ [c]).length (u8s (l ++ [c])) := by
  simpa [u8s] using h

/-- All bytes are below 128. -/
def asciiB (s : ByteArray) : Prop := ∀ j, ∀ h : j < s.size, s[j].toNat ≤ 127
theorem u8_32 : (32 : UInt8).toNat = 32 := rfl

set_option maxRecDepth 100000 in
set_option maxHeartbeats 2000000 in
theorem sanitize_any (s : ByteArray) (w : World) (h : s.size ≤ 1000000) (ha : asciiB s) :
    Calls Try.prog 138 #[.string s] w fun e w' => e = .returned (.string (cleanF s)) ∧ Below w.heap.size w w' := by
  have HA := Lib.hid ha
  clear ha
  go_enter Try.func138, Try.ntmps138
  go_wp2
  go_loopw [3, 4] (fun v i wr => ∃ k : Nat, k ≤ s.size ∧ i = .int .i64 k ∧ Hid (wr.ownsRow w.heap.size 5 1 v (cleanL s k).length (u8s (cleanL s k))) ∧ Hid (Below w.heap.size w wr)) (fun _ i _ => s.size - (intOf i).toNat)
  case atStart => exact ⟨0, Nat.zero_le _, rfl, own_nil _ _ _ _, Below.refl _ _⟩
  case round =>
    obtain ⟨k, hk, rfl, HO, HB⟩ := hrel
    by_cases hlt : k < s.size
    · have h127 := HA.out k hlt
      have h127' : (s[k].toNat : Int) ≤ 127 := by omega
      have hlen := cleanL_len s k
      have d0 : decide (128 ≤ (s[k].toNat : Int)) = false := by simp; omega
      by_cases hsp : isSp (s[k].toNat : Int) = true
      · have hcl : cleanB s[k] = some 32 := by
          simp [isSp] at hsp
          unfold cleanB
          rcases hsp with ⟨h1, h2⟩ | h1
          · rw [if_pos ⟨by omega, by omega⟩]
          · have : s[k] = 32 := by apply UInt8.toNat_inj.1; rw [u8_32]; omega
            rw [this]; rfl
        have HC := Lib.hid (cleanL_some hlt hcl)
        have hbA : Hid (Below wr.heap.size wr (wr.alloc (.cells #[.int .u8 32] 5))) := (Below.refl _ _).alloc (Nat.le_refl _) _
        have hsA : Hid (Sl (wr.alloc (.cells #[.int .u8 32] 5)) (some ⟨wr.heap.size, 0, none⟩) (u8s [32])) := (Blk.new wr 5 #[.int .u8 32]).sl (by simp)
        have HS := Lib.hid hsp
        clear hsp hcl
        go_wp2_with (first
          | (go_at_call 145; (with_reducible refine (isSpace_any _ _ (by omega) (by omega)).mono ?_); rintro e w' ⟨rfl, rfl⟩; rw [HS.out])
          | ((with_reducible refine at_dst (N := 25) rfl ?_); refine ev_app (w := wr.alloc (.cells #[.int .u8 32] 5)) rfl _ _ 120 5 rfl Try.underlying120 _ 1 1 info5 rfl (by omega) w.heap.size _ _ _ rfl (own_below HO.out hbA.out) _ 1 1 (u8s [32]) rfl hsA.out (by simp [u8s]) (by simp [u8s, Value.oneCell']) (by omega) (by omega) (Nat.le_trans HB.out.size hbA.out.size) ?_; intro v1 w1 ho1 hg1 hat1
             have HX := Lib.hid (below_row (below_trans HB.out hbA.out) hg1 (Nat.le_trans HB.out.size hbA.out.size) (own_ge HO.out))
             have HO1 := Lib.hid ho1
             clear ho1 hg1 hat1))
        go_roundw
        case rel => exact ⟨k + 1, by omega, by go_num, by show World.ownsRow _ _ _ _ _ _ _; rw [HC.out]; exact own_u8_succ HO1.out, HX.out⟩
        case measure => simp [intOf]; omega
      · have hsp2 : isSp (s[k].toNat : Int) = false := by simpa using hsp
        have HS := Lib.hid hsp2
        by_cases hp : 32 ≤ s[k].toNat ∧ s[k].toNat < 127
        · have hcl : cleanB s[k] = some s[k] := by
            unfold cleanB
            rw [if_neg (by simp [isSp] at hsp2; omega), if_pos hp]
          have HC := Lib.hid (cleanL_some hlt hcl)
          have hbA : Hid (Below wr.heap.size wr (wr.alloc (.cells #[.int .u8 s[k].toNat] 5))) := (Below.refl _ _).alloc (Nat.le_refl _) _
          have hsA : Hid (Sl (wr.alloc (.cells #[.int .u8 s[k].toNat] 5)) (some ⟨wr.heap.size, 0, none⟩) (u8s [s[k]])) := (Blk.new wr 5 #[.int .u8 s[k].toNat]).sl (by simp)
          obtain ⟨p1, p2⟩ := hp
          have d1 : decide (32 ≤ (s[k].toNat : Int)) = true := by simp; omega
          have d2 : decide ((s[k].toNat : Int) < 127) = true := by simp; omega
          clear hsp hsp2 hcl
          go_wp2_with (first
            | (go_at_call 145; (with_reducible refine (isSpace_any _ _ (by omega) (by omega)).mono ?_); rintro e w' ⟨rfl, rfl⟩; rw [HS.out])
            | ((with_reducible refine at_dst (N := 36) rfl ?_); refine ev_app (w := wr.alloc (.cells #[.int .u8 s[k].toNat] 5)) rfl _ _ 120 5 rfl Try.underlying120 _ 1 1 info5 rfl (by omega) w.heap.size _ _ _ rfl (own_below HO.out hbA.out) _ 1 1 (u8s [s[k]]) rfl hsA.out (by simp [u8s]) (by simp [u8s, Value.oneCell']) (by omega) (by omega) (Nat.le_trans HB.out.size hbA.out.size) ?_; intro v1 w1 ho1 hg1 hat1
               have HX := Lib.hid (below_row (below_trans HB.out hbA.out) hg1 (Nat.le_trans HB.out.size hbA.out.size) (own_ge HO.out))
               have HO1 := Lib.hid ho1
               clear ho1 hg1 hat1))
          go_roundw
          case rel => exact ⟨k + 1, by omega, by go_num, by show World.ownsRow _ _ _ _ _ _ _; rw [HC.out]; exact own_u8_succ HO1.out, HX.out⟩
          case measure => simp [intOf]; omega
        · have hcl : cleanB s[k] = none := by
            unfold cleanB
            rw [if_neg (by simp [isSp] at hsp2; omega), if_neg hp]
          have HC := Lib.hid (cleanL_none hlt hcl)
          have hp2 : (s[k].toNat : Int) < 32 ∨ 127 ≤ (s[k].toNat : Int) := by omega
          clear hsp hsp2 hcl hp
          rcases hp2 with hp2 | hp2
          · have d1 : decide (32 ≤ (s[k].toNat : Int)) = false := by simp; omega
            go_wp2_with (go_at_call 145; (with_reducible refine (isSpace_any _ _ (by omega) (by omega)).mono ?_); rintro e w' ⟨rfl, rfl⟩; rw [HS.out])
            go_roundw
            case rel => exact ⟨k + 1, by omega, by go_num, by show World.ownsRow _ _ _ _ _ _ _; rw [HC.out]; exact HO.out, HB⟩
            case measure => simp [intOf]; omega
          · have d1 : decide (32 ≤ (s[k].toNat : Int)) = true := by simp; omega
            have d2 : decide ((s[k].toNat : Int) < 127) = false := by simp; omega
            go_wp2_with (go_at_call 145; (with_reducible refine (isSpace_any _ _ (by omega) (by omega)).mono ?_); rintro e w' ⟨rfl, rfl⟩; rw [HS.out])
            go_roundw
            case rel => exact ⟨k + 1, by omega, by go_num, by show World.ownsRow _ _ _ _ _ _ _; rw [HC.out]; exact HO.out, HB⟩
            case measure => simp [intOf]; omega
    · have hcv := own_text (P := Try.prog) Try.underlying120 Try.underlying5 Try.underlying9 (own_u8 HO.out)
      rw [cleanL_all s k (by omega)] at hcv
      go_wp2
      go_ret
      exact ⟨rfl, HB.out⟩
theorem sanStr_any (s : ByteArray) (w : World) (h : s.size ≤ 1000000) (ha : asciiB s) :
    Calls Try.prog 113 #[.string s] w fun e w' => e = .returned (.string (cleanF s)) ∧ Below w.heap.size w w' := by
  have HA := Lib.hid ha
  clear ha
  go_enter Try.func113, Try.ntmps113
  go_wp2_with (go_at_call 138; (with_reducible refine (sanitize_any s _ h HA.out).mono ?_); rintro e w' ⟨rfl, hb⟩)
  go_ret
  exact ⟨rfl, hb⟩
end Go.Proofs.Ytdgblfldbikneaa
