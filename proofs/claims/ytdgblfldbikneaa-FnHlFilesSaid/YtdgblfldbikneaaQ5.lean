/- Contracts: newFiles, ZzFiles, GetBytes, Get, Lines, FileGet. -/
import Derived.Test.YtdgblfldbikneaaQ4
namespace Go.Proofs.Ytdgblfldbikneaa
open Go.RowKit Go.Lib

/-- The text of the last file of a name. -/
def lookF (xs : List Ty73) (s : ByteArray) : Option ByteArray := xs.foldl (fun acc x => if x.fName = s then some x.fData else acc) none
theorem lookF_succ {xs : List Ty73} {k : Nat} (h : k < xs.length) (s : ByteArray) : lookF (xs.take (k + 1)) s = if xs[k].fName = s then some xs[k].fData else lookF (xs.take k) s := by
  unfold lookF
  rw [List.take_succ_eq_append_getElem h, List.foldl_append]
  rfl
def LookOk (w : World) (o : Option Value) : Option ByteArray → Prop
  | none => o = none
  | some d => ∃ gb c, o = some (.slice (some ⟨gb, 0, none⟩) d.size c) ∧ BB w gb 5 d
theorem LookOk.kept {w w' : World} {row : Option Nat} {o : Option Value} {d : Option ByteArray} (h : LookOk w o d) (hg : w.grownBy w' row) (hr : ∀ g b, BB w g 5 b → some g ≠ row) : LookOk w' o d := by
  cases d with
  | none => exact h
  | some d =>
    obtain ⟨gb, c, e, hb⟩ := h
    exact ⟨gb, c, e, hb.kept hg (hr _ _ hb)⟩
theorem LookOk.below {w w' : World} {o : Option Value} {d : Option ByteArray} (h : LookOk w o d) (hb : Below w.heap.size w w') : LookOk w' o d := by
  cases d with
  | none => exact h
  | some d =>
    obtain ⟨gb, c, e, hB⟩ := h
    exact ⟨gb, c, e, hB.below hb⟩
theorem Mp.ne_bb {P : Program} {k : TypeId} {w : World} {g n : Nat} {f : ByteArray → Option Value} (h : Mp P k w g n f) {gb : Nat} {b : ByteArray} (hb : BB w gb 5 b) : some gb ≠ some g := by
  intro e
  injection e with e
  subst e
  obtain ⟨D, ⟨es, cl, h, _⟩, _⟩ := h
  obtain ⟨tail, hb⟩ := hb
  rw [h] at hb
  cases hb
theorem Mp.look {P : Program} {k e t : TypeId} {w : World} {g n : Nat} {f : ByteArray → Option Value} (H : Mp P k w g n f) (hk : P.underlying k = some .string) (ht : P.underlying t = some (.map k e)) {z : Value} (hz : (zeroValue e).run P w = .ok z w) {s : ByteArray} (hs : s.size ≤ maxLen) :
    (Instr.lookup t (.map (some g)) (.string s) false).run P w = .ok ((f s).getD z) w := by
  obtain ⟨D, hown, _, hf⟩ := H
  obtain ⟨v, ps, hrun, hv⟩ := hown.lookup (Maps.string_keyed hk) ht hz (zd := .held z) (zp := []) rfl (WideMaps.keyOf_string_mk hk hs)
  obtain ⟨h1, h2⟩ := hf s
  rw [hrun]
  have e0 : v = (f s).getD z := by
    cases hfs : f s with
    | none =>
      have hh : Maps.has D (kS s) = false := by rw [h1, hfs]; rfl
      have e1 : D.atKey (.string s.data.toList) (.held z) = .held z := Maps.atKey_of_not_has (k := kS s) hh (.held z)
      rw [e1] at hv
      simp only [heldR, Option.some.injEq, Prod.mk.injEq, DataW.held.injEq] at hv
      exact hv.1
    | some u =>
      have e1 : D.atKey (.string s.data.toList) (.held z) = .held u := h2 u hfs _
      rw [e1] at hv
      simp only [heldR, Option.some.injEq, Prod.mk.injEq, DataW.held.injEq] at hv
      exact hv.1
  rw [e0]
/-- Block g is the map of the files xs. -/
def FM (w : World) (g n : Nat) (xs : List Ty73) : Prop := ∃ f, Mp Try.prog 9 w g n f ∧ ∀ s, LookOk w (f s) (lookF xs s)

set_option maxRecDepth 100000 in
set_option maxHeartbeats 2000000 in
theorem newFiles_any (A : Option Addr) (c : Nat) (ps : List Value) (xs : List Ty73) (w : World) (h : Sl w A ps) (hp : FilesAt w ps xs) (hn : xs.length ≤ 1000000) (hs : ∀ k, ∀ h : k < xs.length, xs[k].fName.size ≤ 1000000) :
    Calls Try.prog 126 #[.slice A xs.length c] w fun e w' => ∃ g, e = .returned (.map (some g)) ∧ FM w' g xs.length xs ∧ Below w.heap.size w w' := by
  have H := Lib.hid h
  have HP := Lib.hid hp
  have HS := Lib.hid hs
  clear h hp hs
  have hmm := @run_makeMap Try.prog
  go_enter Try.func126, Try.ntmps126
  go_upto_region 3 with fail
  have HM0 : Hid (FM (w.alloc (.map #[] 0)) w.heap.size 0 (xs.take 0)) := ⟨_, Mp.new w Try.prog 9, fun s => rfl⟩
  have HB0 : Hid (Below w.heap.size w (w.alloc (.map #[] 0))) := (Below.refl _ _).alloc (Nat.le_refl _) _
  go_loopw [9] (fun i wr => ∃ (k : Nat), k ≤ xs.length ∧ i = .int .i64 k ∧ Hid (FM wr w.heap.size k (xs.take k)) ∧ Hid (Below w.heap.size w wr)) (fun i _ => xs.length - (intOf i).toNat)
  case atStart => exact ⟨0, Nat.zero_le _, rfl, HM0, HB0⟩
  case round =>
    clear HM0 HB0
    obtain ⟨k, hk, rfl, HM, HB⟩ := hrel
    by_cases hlt : k < xs.length
    · obtain ⟨v, hpk, gp, gb, cb, rfl, hb1, hb2⟩ := (HP.out.below HB.out).2 k hlt
      obtain ⟨ad, rfl, hx⟩ := (H.out.below HB.out).at_ hpk
      have q1 : wr.cell? ⟨gp, 0, none⟩ = some (.string xs[k].fName) := hb1.cell 0
      have q2 : wr.cell? ⟨gp, 1, none⟩ = some (.slice (some ⟨gb, 0, none⟩) xs[k].fData.size cb) := hb1.cell 1
      have hsz := HS.out k hlt
      obtain ⟨f, hmp, hf⟩ := HM.out
      obtain ⟨w1, hrun, hm1, hg1⟩ := hmp.drew.update (t := 146) Try.underlying9 Try.underlying146 (by simp only [maxLen]; omega) (s := xs[k].fName) (by simp only [maxLen]; omega) (.slice (some ⟨gb, 0, none⟩) xs[k].fData.size cb)
      have hfm : FM w1 w.heap.size (k + 1) (xs.take (k + 1)) := by
        refine ⟨_, hm1, fun s => ?_⟩
        rw [lookF_succ hlt]
        unfold fput
        by_cases e : xs[k].fName = s
        · rw [if_pos e, if_pos e.symm]
          have hb3 : BB wr.drew gb 5 xs[k].fData := hb2
          exact ⟨gb, cb, rfl, hb3.kept hg1 (hmp.drew.ne_bb hb3)⟩
        · rw [if_neg e, if_neg (fun h => e h.symm)]
          have h3 : LookOk wr.drew (f s) (lookF (xs.take k) s) := (hf s).below ((Below.refl _ _).drew)
          exact h3.kept hg1 (fun g b hb => hmp.drew.ne_bb hb)
      have HM1 := Lib.hid hfm
      have HB1 := Lib.hid (below_grown HB.out.drew hg1 HB.out.size (Nat.le_refl _))
      clear hm1 hg1 hfm hmp hf hb1 hb2 hpk HM HB
      go_upto_region 5 with fail
      clear hx
      go_region
      all_goals
        go_wp2_with fail
        go_roundw
        case rel => exact ⟨k + 1, by omega, by go_num, HM1, HB1⟩
        case measure => simp [intOf]; omega
    · obtain rfl : k = xs.length := by omega
      rw [List.take_length] at HM
      go_wp2
      go_ret
      exact ⟨_, rfl, HM.out, HB.out⟩
theorem zzFiles_any (A : Option Addr) (c : Nat) (ps : List Value) (xs : List Ty73) (w : World) (h : Sl w A ps) (hp : FilesAt w ps xs) (hn : xs.length ≤ 1000000) (hs : ∀ k, ∀ h : k < xs.length, xs[k].fName.size ≤ 1000000) :
    Calls Try.prog 88 #[.slice A xs.length c] w fun e w' => ∃ g, e = .returned (.map (some g)) ∧ FM w' g xs.length xs ∧ Below w.heap.size w w' := by
  have H := Lib.hid h
  have HP := Lib.hid hp
  have HS := Lib.hid hs
  clear h hp hs
  go_enter Try.func88, Try.ntmps88
  go_wp2_with (go_at_call 126; (with_reducible refine (newFiles_any A c ps xs _ H.out HP.out hn HS.out).mono ?_); rintro e w1 ⟨g, rfl, hm, hb⟩)
  go_ret
  exact ⟨g, rfl, hm, hb⟩
end Go.Proofs.Ytdgblfldbikneaa
