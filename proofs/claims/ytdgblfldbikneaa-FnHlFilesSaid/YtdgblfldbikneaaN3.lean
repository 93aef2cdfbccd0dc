/- Contracts: detectDuplicates, ZzDuplicates, PluginDuplicates. -/
import Derived.Test.YtdgblfldbikneaaN2
import Derived.Test.YtdgblfldbikneaaMp
import Derived.Test.YtdgblfldbikneaaP3
namespace Go.Proofs.Ytdgblfldbikneaa
open Go.RowKit Go.Lib

theorem Mp.update {P : Program} {k e t : TypeId} {w : World} {g n : Nat} {f : ByteArray → Option Value} (H : Mp P k w g n f) (hk : P.underlying k = some .string) (ht : P.underlying t = some (.map k e)) (hn : n < maxLen) {s : ByteArray} (hs : s.size ≤ maxLen) (v : Value) :
    ∃ w1, (Instr.mapUpdate t (.map (some g)) (.string s) v).run P w = .ok () w1 ∧ Mp P k w1 g (n + 1) (fput f s v) ∧ w.grownBy w1 (some g) := by
  obtain ⟨D, hown, hM, hf⟩ := H
  obtain ⟨w1, hrun, h1, h2⟩ := hown.update (Maps.string_keyed hk) ht hn (WideMaps.keyOf_string_mk hk hs) (d := .held v) (ps := []) (val := v) rfl
  refine ⟨w1, hrun, ⟨_, h1, hM.put _ _, fun u => ?_⟩, h2⟩
  by_cases e1 : u = s
  · subst e1
    simp only [fput, if_true]
    exact ⟨Maps.has_put_same hM (kS_key _) _, fun v' hv' z => by injection hv' with hv'; subst hv'; exact Maps.atKey_put_same hM (kS_key _) _ _⟩
  · have hne : kS u ≠ kS s := fun h => e1 (kS_inj h)
    simp only [fput, if_neg e1]
    obtain ⟨f1, f2⟩ := hf u
    refine ⟨?_, fun v' hv' z => ?_⟩
    · rw [← f1]; exact Maps.has_put_other hne _
    · rw [← f2 v' hv' z]; exact Maps.atKey_put_other hne _ _
theorem Mp.drew {P : Program} {k : TypeId} {w : World} {g n : Nat} {f : ByteArray → Option Value} (h : Mp P k w g n f) : Mp P k w.drew g n f := h
theorem Blk.kept {w w' : World} {row : Option Nat} {g : Nat} {t : TypeId} {c : Array Value} (h : Blk w g t c) (hg : w.grownBy w' row) (hne : some g ≠ row) : Blk w' g t c := (hg.block g h.lt hne).trans h

/-- The values ps are plugins of the names ns. -/
def PlugsAt (w : World) (ps : List Value) (ns : List ByteArray) : Prop :=
  ps.length = ns.length ∧ ∀ k, ∀ h : k < ns.length, ∃ gp gm, ps[k]? = some (.pointer (some ⟨gp, 0, none⟩)) ∧ Blk w gp 162 #[.pointer (some ⟨gm, 0, none⟩), .string ⟨#[]⟩] ∧ Blk w gm 160 (pmCells ns[k] ⟨#[]⟩)
theorem PlugsAt.below {w w' : World} {ps : List Value} {ns : List ByteArray} (h : PlugsAt w ps ns) (hb : Below w.heap.size w w') : PlugsAt w' ps ns :=
  ⟨h.1, fun k hk => by
    obtain ⟨gp, gm, e, h1, h2⟩ := h.2 k hk
    exact ⟨gp, gm, e, h1.below hb, h2.below hb⟩⟩
theorem PlugsAt.kept {w w' : World} {row : Option Nat} {ps : List Value} {ns : List ByteArray} (h : PlugsAt w ps ns) (hg : w.grownBy w' row) (hr : ∀ g t c, Blk w g t c → t = 162 ∨ t = 160 → some g ≠ row) : PlugsAt w' ps ns :=
  ⟨h.1, fun k hk => by
    obtain ⟨gp, gm, e, h1, h2⟩ := h.2 k hk
    exact ⟨gp, gm, e, h1.kept hg (hr _ _ _ h1 (.inl rfl)), h2.kept hg (hr _ _ _ h2 (.inr rfl))⟩⟩
/-- Some name stands among those ahead of it. -/
def dupB (ns : List ByteArray) : Bool := (List.range ns.length).any fun k => oneOf (ns.getD k ByteArray.empty) (ns.take k)
theorem oneOf_snoc (s : ByteArray) (xs : List ByteArray) (x : ByteArray) : oneOf s (xs ++ [x]) = (oneOf s xs || x.toList == s.toList) := by simp [oneOf]
theorem dupB_yes {ns : List ByteArray} {k : Nat} (hk : k < ns.length) (h : oneOf ns[k] (ns.take k) = true) : dupB ns = true := by
  unfold dupB
  rw [List.any_eq_true]
  exact ⟨k, List.mem_range.2 hk, by rw [List.getD_eq_getElem?_getD, List.getElem?_eq_getElem hk]; exact h⟩
theorem dupB_no {ns : List ByteArray} (h : ∀ k, ∀ hk : k < ns.length, oneOf ns[k] (ns.take k) = false) : dupB ns = false := by
  unfold dupB
  rw [List.any_eq_false]
  intro k hk
  have hk := List.mem_range.1 hk
  rw [List.getD_eq_getElem?_getD, List.getElem?_eq_getElem hk]
  simpa using h k hk
theorem toList_eq {s t : ByteArray} : (s.toList == t.toList) = decide (t = s) := by
  rw [ByteArray.toList_eq, ByteArray.toList_eq]
  by_cases h : t = s
  · subst h; simp
  · simp only [h, decide_false, beq_eq_false_iff_ne, ne_eq]
    intro e
    exact h (by apply ByteArray.ext; apply Array.ext'; exact e.symm)

theorem zeroMap (w : World) : (zeroValue 9).run Try.prog w = .ok (.string ByteArray.empty) w := by kernel_rfl
set_option maxRecDepth 100000 in
set_option maxHeartbeats 2000000 in
theorem detectDup_any (A : Option Addr) (c : Nat) (ps : List Value) (ns : List ByteArray) (w : World) (h : Sl w A ps) (hp : PlugsAt w ps ns) (hn : ns.length ≤ 1000000) (hs : ∀ k, ∀ h : k < ns.length, ns[k].size ≤ 1000000) :
    Calls Try.prog 131 #[.slice A ns.length c] w fun e w' => ∃ v, e = .returned v ∧ ErrIs v (!dupB ns) ∧ Below w.heap.size w w' := by
  have H := Lib.hid h
  have HP := Lib.hid hp
  have HS := Lib.hid hs
  clear h hp hs
  have hmm := @run_makeMap Try.prog
  go_enter Try.func131, Try.ntmps131
  go_upto_region 3 with fail
  have HM0 : Hid (Mp Try.prog 9 (w.alloc (.map #[] 0)) w.heap.size 0 (fun _ => none)) := Mp.new w Try.prog 9
  have HB0 : Hid (Below w.heap.size w (w.alloc (.map #[] 0))) := (Below.refl _ _).alloc (Nat.le_refl _) _
  go_loopw [11] (fun i wr => ∃ (k : Nat) (f : ByteArray → Option Value), k ≤ ns.length ∧ i = .int .i64 k ∧ Hid (Mp Try.prog 9 wr w.heap.size k f) ∧ Hid (∀ s, (f s).isSome = oneOf s (ns.take k)) ∧ Hid (∀ j, ∀ hj : j < ns.length, j < k → oneOf ns[j] (ns.take j) = false) ∧ Hid (Below w.heap.size w wr)) (fun i _ => ns.length - (intOf i).toNat)
  case atStart => exact ⟨0, _, Nat.zero_le _, rfl, HM0, fun s => rfl, fun j _ h0 => by omega, HB0⟩
  case round =>
    clear HM0 HB0
    obtain ⟨k, f, hk, rfl, HM, HF, HN, HB⟩ := hrel
    by_cases hlt : k < ns.length
    · obtain ⟨gp, gm, hpk, hb1, hb2⟩ := (HP.out.below HB.out).2 k hlt
      obtain ⟨ad, rfl, hx⟩ := (H.out.below HB.out).at_ hpk
      have q1 : wr.cell? ⟨gp, 0, none⟩ = some (.pointer (some ⟨gm, 0, none⟩)) := hb1.cell 0
      have q2 : wr.cell? ⟨gm, 0, none⟩ = some (.string ns[k]) := hb2.cell 0
      have q3 : wr.cell? ⟨gp, 1, none⟩ = some (.string ⟨#[]⟩) := hb1.cell 1
      have hsz := HS.out k hlt
      clear hb1 hb2 hpk
      cases hd : oneOf ns[k] (ns.take k)
      · have hnone : f ns[k] = none := by
          have := HF.out ns[k]
          rw [hd] at this
          simpa using this
        have HN1 := Lib.hid hnone
        have HD := Lib.hid hd
        clear hd hnone
        go_upto_region 8 with (at_lookup; refine ev_look_ok rfl _ _ 194 rfl 9 9 Try.underlying9 Try.underlying194 _ (zeroMap _) w.heap.size k f rfl HM.out ns[k] rfl (by simp only [maxLen]; omega) ?_; rw [HN1.out]; simp only [Option.getD_none, Option.isSome_none])
        obtain ⟨w1, hrun, hm1, hg1⟩ := HM.out.drew.update (t := 194) Try.underlying9 Try.underlying194 (by simp only [maxLen]; omega) (s := ns[k]) (by simp only [maxLen]; omega) (.string ⟨#[]⟩)
        have HM1 := Lib.hid hm1
        have HB1 := Lib.hid (below_grown HB.out.drew hg1 HB.out.size (Nat.le_refl _))
        clear hm1 hg1
        have HFN : Hid (∀ s, (fput f ns[k] (.string ⟨#[]⟩) s).isSome = oneOf s (ns.take (k + 1))) := fun s => by
          rw [List.take_succ_eq_append_getElem hlt, oneOf_snoc, toList_eq, ← HF.out s]
          unfold fput
          by_cases e : s = ns[k]
          · simp [e]
          · simp [e]
        have HNN : Hid (∀ j, ∀ hj : j < ns.length, j < k + 1 → oneOf ns[j] (ns.take j) = false) := fun j hj hjk => by
          by_cases e : j = k
          · subst e; exact HD.out
          · exact HN.out j hj (by omega)
        clear HN HD HF HM HN1 hx
        go_region
        all_goals
          go_wp2_with fail
          go_roundw
          case rel => exact ⟨k + 1, _, by omega, by go_num, HM1, HFN, HNN, HB1⟩
          case measure => simp [intOf]; omega
      · have hsome := HF.out ns[k]
        rw [hd] at hsome
        obtain ⟨u, hu⟩ := Option.isSome_iff_exists.1 hsome
        have HU := Lib.hid hu
        have HD := Lib.hid (dupB_yes hlt hd)
        clear hd hu hsome
        go_wp2_with (first
          | (at_lookup; refine ev_look_ok rfl _ _ 194 rfl 9 9 Try.underlying9 Try.underlying194 _ (zeroMap _) w.heap.size k f rfl HM.out ns[k] rfl (by simp only [maxLen]; omega) ?_; rw [HU.out]; simp only [Option.getD_some, Option.isSome_some])
          | (go_at_call 84; (with_reducible refine (errNew_any _ _).mono ?_); rintro e w1 ⟨v, rfl, ⟨g, rfl, hg⟩, hb⟩))
        go_ret
        exact ⟨_, rfl, by rw [HD.out]; exact ⟨g, rfl⟩, below_trans HB.out hb⟩
    · have hd := dupB_no (ns := ns) (fun j hj => HN.out j hj (by omega))
      have HD := Lib.hid hd
      clear hd
      go_wp2
      go_ret
      exact ⟨_, rfl, by rw [HD.out]; rfl, HB.out⟩
end Go.Proofs.Ytdgblfldbikneaa
