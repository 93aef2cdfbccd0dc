/- Contracts: validatePluginData, ZzValidate; PluginValid with its deferred closure. -/
import Derived.Test.YtdgblfldbikneaaN0
import Derived.Defers
import Derived.Recover
import Derived.Laws.Pointers
namespace Go.Proofs.Ytdgblfldbikneaa
open Go.RowKit Go.Lib

theorem grown_refl (w : World) (g : Nat) : w.grownBy w (some g) := World.grownBy.refl w _
theorem grown_of_below {w w' : World} {g : Nat} (h : Below w.heap.size w w') : w.grownBy w' (some g) := ⟨h.os, h.tape, h.output, h.size, fun k hk _ => h.block k hk⟩
theorem grown_set {w w' : World} {g : Nat} {i : Nat} {u : Value} (h : Below w.heap.size w w') : w.grownBy (w'.setCell ⟨g, i, none⟩ u) (some g) :=
  ⟨h.os, h.tape, h.output, by simpa [World.setCell] using h.size, fun k hk hne => (Below.heap_setCell w' ⟨g, i, none⟩ u k (fun e => hne (by rw [e]))).trans (h.block k hk)⟩
theorem Blk.ne {w : World} {g g' : Nat} {t t' : TypeId} {c c' : Array Value} (h : Blk w g t c) (h' : Blk w g' t' c') (ht : t ≠ t') : g ≠ g' := by
  rintro rfl
  unfold Blk at h h'
  rw [h] at h'
  injection h' with h'
  injection h' with _ h'
  exact ht h'

abbrev pmCells (n u : ByteArray) : Array Value := #[.string n, .string u, .slice none 0 0, .string ⟨#[]⟩, .bool false]
abbrev lowDash : ByteArray := ⟨#[95, 45]⟩
set_option maxRecDepth 100000 in
set_option maxHeartbeats 2000000 in
theorem plugVal_any (gp gm : Nat) (d n u : ByteArray) (w : World) (hp : Blk w gp 162 #[.pointer (some ⟨gm, 0, none⟩), .string d]) (hm : Blk w gm 160 (pmCells n u)) (hn : n.size ≤ 1000000) (hu : u.size ≤ 1000000) (ha : asciiB u) :
    Calls Try.prog 130 #[.pointer (some ⟨gp, 0, none⟩)] w fun e w' => ∃ v u2, e = .returned v ∧ ErrIs v (wordB n lowDash) ∧ (wordB n lowDash = true → u2 = cleanF u) ∧ Blk w' gm 160 (pmCells n u2) ∧ w.grownBy w' (some gm) := by
  have HP := Lib.hid hp
  have HM := Lib.hid hm
  have q0 : w.cell? ⟨gp, 0, none⟩ = some (.pointer (some ⟨gm, 0, none⟩)) := hp.cell 0
  have q1 : w.cell? ⟨gm, 0, none⟩ = some (.string n) := hm.cell 0
  have q2 : w.cell? ⟨gm, 1, none⟩ = some (.string u) := hm.cell 1
  have HA := Lib.hid ha
  clear hp hm ha
  cases hw : wordB n lowDash
  · have HW := Lib.hid hw
    clear hw
    go_enter Try.func130, Try.ntmps130
    go_wp2_with (first
      | (go_at_call 129; (with_reducible refine (word_any n lowDash _ (Nat.le_trans (Nat.add_le_add_right hn 2) (Nat.le_of_ble_eq_true rfl))).mono ?_); rintro e w' ⟨rfl, rfl⟩; rw [HW.out])
      | (go_at_call 84; (with_reducible refine (errNew_any _ _).mono ?_); rintro e w1 ⟨v, rfl, ⟨g, rfl, hg⟩, hb⟩))
    go_ret
    exact ⟨_, u, rfl, ⟨g, rfl⟩, by simp, HM.out.below hb, grown_of_below hb⟩
  · have HW := Lib.hid hw
    clear hw
    go_enter Try.func130, Try.ntmps130
    go_upto_region 5 with (go_at_call 129; (with_reducible refine (word_any n lowDash _ (Nat.le_trans (Nat.add_le_add_right hn 2) (Nat.le_of_ble_eq_true rfl))).mono ?_); rintro e w' ⟨rfl, rfl⟩; rw [HW.out])
    go_cut [2] (fun s2 wx => s2 = .nilIface ∧ Blk wx gm 160 (pmCells n (cleanF u)) ∧ w.grownBy wx (some gm))
    case first =>
      go_region_with (go_at_call 138; (with_reducible refine (sanitize_any u _ hu HA.out).mono ?_); rintro e w1 ⟨rfl, hb0⟩
                      have hb := ((Below.refl w.heap.size w).drew).trans (show Below w.heap.size w.drew w1 from hb0)
                      clear hb0
                      have p0 : w1.cell? ⟨gp, 0, none⟩ = some (.pointer (some ⟨gm, 0, none⟩)) := (HP.out.below hb).cell 0
                      have p2 : w1.cell? ⟨gm, 1, none⟩ = some (.string u) := (HM.out.below hb).cell 1
                      have p3 : w1.frozen? ⟨gm, 1, none⟩ = false := (HM.out.below hb).frozen 1
                      have HB := Lib.hid hb
                      clear hb)
      all_goals (go_wp2_with fail; go_meet; exact ⟨rfl, (HM.out.below HB.out).set_ 1 _, grown_set HB.out⟩)
    case rest =>
      obtain ⟨rfl, hm2, hg2⟩ := hcut
      go_wp2_with fail
      go_ret
      exact ⟨_, cleanF u, rfl, rfl, fun _ => rfl, hm2, hg2⟩
theorem zzPlugVal_any (gp gm : Nat) (d n u : ByteArray) (w : World) (hp : Blk w gp 162 #[.pointer (some ⟨gm, 0, none⟩), .string d]) (hm : Blk w gm 160 (pmCells n u)) (hn : n.size ≤ 1000000) (hu : u.size ≤ 1000000) (ha : asciiB u) :
    Calls Try.prog 102 #[.pointer (some ⟨gp, 0, none⟩)] w fun e w' => ∃ v u2, e = .returned v ∧ ErrIs v (wordB n lowDash) ∧ (wordB n lowDash = true → u2 = cleanF u) ∧ Blk w' gm 160 (pmCells n u2) ∧ w.grownBy w' (some gm) := by
  have HP := Lib.hid hp
  have HM := Lib.hid hm
  have HA := Lib.hid ha
  clear hp hm ha
  go_enter Try.func102, Try.ntmps102
  go_wp2_with (go_at_call 130; (with_reducible refine (plugVal_any gp gm d n u _ HP.out HM.out hn hu HA.out).mono ?_); rintro e w1 ⟨v, u2, rfl, h1, h2, h3, h4⟩)
  go_ret
  exact ⟨v, u2, rfl, h1, h2, h3, h4⟩
theorem catch101 (a b c : Nat) (w : World) :
    CallsD Try.prog 101 #[.pointer (some ⟨a, 0, none⟩), .pointer (some ⟨b, 0, none⟩), .pointer (some ⟨c, 0, none⟩)] .returning w fun e u' w' => e = .returned (.tuple #[]) ∧ u' = .returning ∧ w' = w := by
  refine callsD_of_wpS Try.func101 rfl fun c₀ cs hu => ?_
  apply wpS_seq
  apply wpS_region
  simp [wpOpsS, go_sem, recoverD, hu, Try.ntmps101, Exit.thenS]
  refine wpS_cond (t := false) (by simp [Act.eval, Array.replicate]) ?_
  simp only [Bool.false_eq_true, if_false]
  refine wpS_of_wp (wp_skip ?_)
  cases c₀
  simp_all [bodyPostS, results, Try.results101]
end Go.Proofs.Ytdgblfldbikneaa
