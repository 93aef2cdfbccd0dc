/- Contract: ChClean. -/
import Derived.Test.YtdgblfldbikneaaA0
namespace Go.Proofs.Ytdgblfldbikneaa
open Go.RowKit Go.Lib

set_option maxRecDepth 100000 in
set_option maxHeartbeats 2000000 in
theorem chClean_any (s : ByteArray) (w : World) (h : s.size ≤ 1000000) :
    Calls Try.prog 68 #[.string s] w fun e w' => e = .returned (.string (cleanF s)) ∧ Below w.heap.size w w' := by
  go_enter Try.func68, Try.ntmps68
  go_wp2
  go_loopw [3, 4] (fun v i wr => ∃ k : Nat, k ≤ s.size ∧ i = .int .i64 k ∧ Hid (wr.ownsRow w.heap.size 5 1 v (cleanL s k).length (u8s (cleanL s k))) ∧ Hid (Below w.heap.size w wr)) (fun _ i _ => s.size - (intOf i).toNat)
  case atStart => exact ⟨0, Nat.zero_le _, rfl, own_nil _ _ _ _, Below.refl _ _⟩
  case round =>
    obtain ⟨k, hk, rfl, HO, HB⟩ := hrel
    by_cases hlt : k < s.size
    · have h255 : (s[k].toNat : Int) ≤ 255 := by have := s[k].toNat_lt; omega
      have hlen := cleanL_len s k
      have hr : (9 ≤ s[k].toNat ∧ s[k].toNat ≤ 13) ∨ s[k].toNat < 9 ∨ (14 ≤ s[k].toNat ∧ s[k].toNat ≤ 31) ∨ (32 ≤ s[k].toNat ∧ s[k].toNat ≤ 126) ∨ 127 ≤ s[k].toNat := by omega
      rcases hr with ⟨h1, h2⟩ | h1 | ⟨h1, h2⟩ | ⟨h1, h2⟩ | h1
      · have hcl : cleanB s[k] = some 32 := by
          unfold cleanB
          rw [if_pos ⟨by omega, by omega⟩]
        have HC := Lib.hid (cleanL_some hlt hcl)
        clear hcl
        have d0 : decide (9 ≤ (s[k].toNat : Int)) = true := by simp; omega
        have d1 : decide ((s[k].toNat : Int) ≤ 13) = true := by simp; omega
        have hbA : Hid (Below wr.heap.size wr (wr.alloc (.cells #[.int .u8 32] 5))) := (Below.refl _ _).alloc (Nat.le_refl _) _
        have hsA : Hid (Sl (wr.alloc (.cells #[.int .u8 32] 5)) (some ⟨wr.heap.size, 0, none⟩) (u8s [32])) := (Blk.new wr 5 #[.int .u8 32]).sl (by simp)
        go_wp2_with ((with_reducible refine at_dst (N := 24) rfl ?_); refine ev_app (w := wr.alloc (.cells #[.int .u8 32] 5)) rfl _ _ 120 5 rfl Try.underlying120 _ 1 1 info5 rfl (by omega) w.heap.size _ _ _ rfl (own_below HO.out hbA.out) _ 1 1 (u8s [32]) rfl hsA.out (by simp [u8s]) (by simp [u8s, Value.oneCell']) (by omega) (by omega) (Nat.le_trans HB.out.size hbA.out.size) ?_; intro v1 w1 ho1 hg1 hat1; have HX := Lib.hid (below_row (below_trans HB.out hbA.out) hg1 (Nat.le_trans HB.out.size hbA.out.size) (own_ge HO.out)); have HO1 := Lib.hid ho1; clear ho1 hg1 hat1)
        refine ⟨⟨k + 1, by omega, by go_num, by show World.ownsRow _ _ _ _ _ _ _; rw [HC.out]; exact own_u8_succ HO1.out, HX⟩, ?_⟩
        simp [intOf]; omega
      · have hcl : cleanB s[k] = none := by
          unfold cleanB
          rw [if_neg (by omega), if_neg (by omega)]
        have HC := Lib.hid (cleanL_none hlt hcl)
        clear hcl
        have d0 : decide (9 ≤ (s[k].toNat : Int)) = false := by simp; omega
        have d1 : decide (32 ≤ (s[k].toNat : Int)) = false := by simp; omega
        go_wp2_with fail
        refine ⟨⟨k + 1, by omega, by go_num, by show World.ownsRow _ _ _ _ _ _ _; rw [HC.out]; exact HO.out, HB⟩, ?_⟩
        simp [intOf]; omega
      · have hcl : cleanB s[k] = none := by
          unfold cleanB
          rw [if_neg (by omega), if_neg (by omega)]
        have HC := Lib.hid (cleanL_none hlt hcl)
        clear hcl
        have d0 : decide (9 ≤ (s[k].toNat : Int)) = true := by simp; omega
        have d1 : decide ((s[k].toNat : Int) ≤ 13) = false := by simp; omega
        have d2 : decide (32 ≤ (s[k].toNat : Int)) = false := by simp; omega
        go_wp2_with fail
        refine ⟨⟨k + 1, by omega, by go_num, by show World.ownsRow _ _ _ _ _ _ _; rw [HC.out]; exact HO.out, HB⟩, ?_⟩
        simp [intOf]; omega
      · have hcl : cleanB s[k] = some s[k] := by
          unfold cleanB
          rw [if_neg (by omega), if_pos (by omega)]
        have HC := Lib.hid (cleanL_some hlt hcl)
        clear hcl
        have d0 : decide (9 ≤ (s[k].toNat : Int)) = true := by simp; omega
        have d1 : decide ((s[k].toNat : Int) ≤ 13) = false := by simp; omega
        have d2 : decide (32 ≤ (s[k].toNat : Int)) = true := by simp; omega
        have d3 : decide ((s[k].toNat : Int) < 127) = true := by simp; omega
        have hbA : Hid (Below wr.heap.size wr (wr.alloc (.cells #[.int .u8 s[k].toNat] 5))) := (Below.refl _ _).alloc (Nat.le_refl _) _
        have hsA : Hid (Sl (wr.alloc (.cells #[.int .u8 s[k].toNat] 5)) (some ⟨wr.heap.size, 0, none⟩) (u8s [s[k]])) := (Blk.new wr 5 #[.int .u8 s[k].toNat]).sl (by simp)
        go_wp2_with ((with_reducible refine at_dst (N := 35) rfl ?_); refine ev_app (w := wr.alloc (.cells #[.int .u8 s[k].toNat] 5)) rfl _ _ 120 5 rfl Try.underlying120 _ 1 1 info5 rfl (by omega) w.heap.size _ _ _ rfl (own_below HO.out hbA.out) _ 1 1 (u8s [s[k]]) rfl hsA.out (by simp [u8s]) (by simp [u8s, Value.oneCell']) (by omega) (by omega) (Nat.le_trans HB.out.size hbA.out.size) ?_; intro v1 w1 ho1 hg1 hat1; have HX := Lib.hid (below_row (below_trans HB.out hbA.out) hg1 (Nat.le_trans HB.out.size hbA.out.size) (own_ge HO.out)); have HO1 := Lib.hid ho1; clear ho1 hg1 hat1)
        refine ⟨⟨k + 1, by omega, by go_num, by show World.ownsRow _ _ _ _ _ _ _; rw [HC.out]; exact own_u8_succ HO1.out, HX⟩, ?_⟩
        simp [intOf]; omega
      · have hcl : cleanB s[k] = none := by
          unfold cleanB
          rw [if_neg (by omega), if_neg (by omega)]
        have HC := Lib.hid (cleanL_none hlt hcl)
        clear hcl
        have d0 : decide (9 ≤ (s[k].toNat : Int)) = true := by simp; omega
        have d1 : decide ((s[k].toNat : Int) ≤ 13) = false := by simp; omega
        have d2 : decide (32 ≤ (s[k].toNat : Int)) = true := by simp; omega
        have d3 : decide ((s[k].toNat : Int) < 127) = false := by simp; omega
        go_wp2_with fail
        refine ⟨⟨k + 1, by omega, by go_num, by show World.ownsRow _ _ _ _ _ _ _; rw [HC.out]; exact HO.out, HB⟩, ?_⟩
        simp [intOf]; omega
    · have hcv := own_text (P := Try.prog) Try.underlying120 Try.underlying5 Try.underlying9 (own_u8 HO.out)
      rw [cleanL_all s k (by omega)] at hcv
      go_wp2
      go_ret
      exact ⟨rfl, HB.out⟩
end Go.Proofs.Ytdgblfldbikneaa
