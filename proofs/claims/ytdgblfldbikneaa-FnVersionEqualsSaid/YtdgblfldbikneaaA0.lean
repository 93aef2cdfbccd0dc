/- Contract: chAscii: at most 60 bytes, each below 128. -/
import Derived.Test.YtdgblfldbikneaaN0
import Derived.Test.YtdgblfldbikneaaBy
namespace Go.Proofs.Ytdgblfldbikneaa
open Go.RowKit Go.Lib

def mskB (c : UInt8) : UInt8 := c &&& 127
theorem bits_msk : ∀ n : Fin 256, bits .and .u8 (n.val : Int) 127 = ((mskB (UInt8.ofNat n.val)).toNat : Int) ∧ (mskB (UInt8.ofNat n.val)).toNat ≤ 127 := by decide +kernel
theorem bits_msk' (c : UInt8) : bits .and .u8 (c.toNat : Int) 127 = ((mskB c).toNat : Int) := by
  have := (bits_msk ⟨c.toNat, c.toNat_lt⟩).1
  simpa [UInt8.ofNat_toNat] using this
theorem msk_le (c : UInt8) : (mskB c).toNat ≤ 127 := by
  have := (bits_msk ⟨c.toNat, c.toNat_lt⟩).2
  simpa [UInt8.ofNat_toNat] using this
/-- The first k bytes masked. -/
def mskF (s : ByteArray) (k : Nat) : ByteArray := ⟨((s.data.toList.take k).map mskB ++ s.data.toList.drop k).toArray⟩
def ascF (s : ByteArray) : ByteArray := mskF (s.extract 0 (min s.size 60)) (min s.size 60)
theorem mskF_size (s : ByteArray) (k : Nat) : (mskF s k).size = s.size := by
  show (List.toArray _).size = _
  rw [List.size_toArray, List.length_append, List.length_map, List.length_take, List.length_drop]
  have : s.data.toList.length = s.size := by simp
  omega
theorem mskF_zero (s : ByteArray) : mskF s 0 = s := by
  apply ByteArray.ext; apply Array.ext'; simp [mskF]
theorem mskF_data (s : ByteArray) (k : Nat) : (mskF s k).data.toList = (s.data.toList.take k).map mskB ++ s.data.toList.drop k := by simp [mskF]
theorem mskF_get {s : ByteArray} {k : Nat} (h : k < s.size) (h2 : k < (mskF s k).size) : (mskF s k)[k] = s[k] := by
  have hl : k < s.data.toList.length := by simpa using h
  have e : (mskF s k).data.toList[k]? = some (s.data.toList[k]) := by
    rw [mskF_data, List.getElem?_append_right (by rw [List.length_map, List.length_take]; omega), List.length_map, List.length_take, Nat.min_eq_left (by omega), Nat.sub_self, List.getElem?_drop, Nat.add_zero]
    exact List.getElem?_eq_getElem hl
  obtain ⟨h3, h4⟩ := List.getElem?_eq_some_iff.1 e
  exact h4
theorem mskF_succ {s : ByteArray} {k : Nat} (h : k < s.size) (h2 : k < (mskF s k).size) : (mskF s k).set k (mskB s[k]) h2 = mskF s (k + 1) := by
  have hl : k < s.data.toList.length := by simpa using h
  apply ByteArray.ext
  apply Array.ext'
  have e0 : ((mskF s k).set k (mskB s[k]) h2).data = (mskF s k).data.set k (mskB s[k]) h2 := rfl
  rw [e0, Array.toList_set, mskF_data, mskF_data, List.take_succ_eq_append_getElem hl, List.drop_eq_getElem_cons hl, List.set_append_right _ _ (by rw [List.length_map, List.length_take]; omega)]
  have e : k - ((s.data.toList.take k).map mskB).length = 0 := by rw [List.length_map, List.length_take]; omega
  rw [e, List.set_cons_zero, List.map_append, List.append_assoc]
  rfl
theorem asc_ascii (s : ByteArray) : asciiB (ascF s) := by
  intro j hj
  have hsz : (s.extract 0 (min s.size 60)).size = min s.size 60 := by rw [ByteArray.size_extract]; omega
  have e : ascF s = ⟨((s.extract 0 (min s.size 60)).data.toList.map mskB).toArray⟩ := by
    unfold ascF mskF
    have hl : (s.extract 0 (min s.size 60)).data.toList.length = min s.size 60 := by rw [← hsz]; simp
    rw [List.take_of_length_le (by omega), List.drop_of_length_le (by omega), List.append_nil]
  have h2 : ∀ c ∈ (ascF s).data.toList, c.toNat ≤ 127 := by
    rw [e]
    intro c hc
    simp only [List.mem_map] at hc
    obtain ⟨x, _, rfl⟩ := hc
    exact msk_le x
  exact h2 _ (Array.mem_toList_iff.2 (Array.getElem_mem _))
theorem asc_size (s : ByteArray) : (ascF s).size ≤ 60 := by
  unfold ascF
  rw [mskF_size]
  simp [ByteArray.size_extract]
  omega

theorem ascF_big {s : ByteArray} (h : 60 < s.size) : ascF s = mskF (s.extract 0 60) (s.extract 0 60).size := by
  have e : min s.size 60 = 60 := by omega
  have e2 : (s.extract 0 60).size = 60 := by simp [ByteArray.size_extract]; omega
  unfold ascF
  rw [e, e2]
theorem ascF_small {s : ByteArray} (h : s.size ≤ 60) : ascF s = mskF s s.size := by
  have e : min s.size 60 = s.size := by omega
  unfold ascF
  rw [e]
  have e2 : s.extract 0 s.size = s := by apply ByteArray.ext; simp
  rw [e2]
theorem BB.cell {w : World} {g : Nat} {e : TypeId} {b : ByteArray} (h : BB w g e b) {i : Nat} (hi : i < b.size) : w.cell? ⟨g, i, none⟩ = some (.int .u8 b[i].toNat) := by
  obtain ⟨tail, h⟩ := h
  rw [cell_of_row w g i _ e _ h]
  simp only [List.getElem?_toArray]
  have hl : i < (strCells b).length := by rw [strCells_length]; exact hi
  rw [List.getElem?_append_left hl]
  have hl2 : i < b.data.toList.length := by simpa using hi
  unfold strCells
  rw [List.getElem?_map, List.getElem?_eq_getElem hl2]
  rfl
set_option maxRecDepth 100000 in
set_option maxHeartbeats 2000000 in
theorem chAscii_any (s : ByteArray) (w : World) (hs : s.size ≤ 9223372036854775807) :
    Calls Try.prog 25 #[.string s] w fun e w' => e = .returned (.string (ascF s)) ∧ Below w.heap.size w w' := by
  rcases Nat.lt_or_ge 60 s.size with h60 | h60
  · obtain ⟨x, hx⟩ : ∃ x, x = s.extract 0 60 := ⟨_, rfl⟩
    have HX3 : Hid (ascF s = mskF x x.size) := by rw [hx]; exact ascF_big h60
    have hx4 : x.size ≤ 60 := by rw [hx]; simp [ByteArray.size_extract]; omega
    have d0 : (60 : Int) < (s.size : Int) := by omega
    go_enter Try.func25, Try.ntmps25
    go_upto_region 2 with ((with_reducible refine at_dst (N := 10) rfl ?_); refine ev_bytes rfl 9 120 5 _ rfl Try.underlying9 Try.underlying120 Try.underlying5 _ rfl ?_; intro g c w1 hg hc hB hb)
    rw [← hx] at hB hc
    have hmin : min 60 s.size = x.size := by rw [hx, ByteArray.size_extract]; omega
    simp only [← hx, hmin]
    clear hx hmin
    go_wp2_with fail
    go_loopw [13] (fun i wr => ∃ k : Nat, k ≤ x.size ∧ i = .int .i64 k ∧ Hid (BB wr g 5 (mskF x k)) ∧ Hid (Below w.heap.size w wr)) (fun i _ => x.size - (intOf i).toNat)
    case atStart => exact ⟨0, Nat.zero_le _, rfl, by rw [mskF_zero]; exact hB, hb⟩
    case round =>
      clear hB hb
      obtain ⟨k, hk, rfl, HB, HW⟩ := hrel
      by_cases hlt : k < x.size
      · have h2 : k < (mskF x k).size := by rw [mskF_size]; exact hlt
        have q0 : wr.cell? ⟨g, k, none⟩ = some (.int .u8 x[k].toNat) := by
          have := HB.out.cell h2
          rwa [mskF_get hlt] at this
        have f0 : wr.frozen? ⟨g, k, none⟩ = false := HB.out.frozen h2
        have hbit := bits_msk' x[k]
        have HS := Lib.hid (HB.out.set h2 (mskB x[k]))
        have hsucc := Lib.hid (mskF_succ hlt h2)
        go_wp2_with fail
        refine ⟨⟨k + 1, by omega, by go_num, by show BB _ _ _ _; rw [← hsucc.out]; exact HS.out.1, below_grown HW.out HS.out.2 HW.out.size hg⟩, ?_⟩
        simp [intOf]; omega
      · obtain rfl : k = x.size := by omega
        have HT := sl_text (P := Try.prog) (c := c) Try.underlying120 Try.underlying5 Try.underlying9 (HB.out.sl (by rw [mskF_size]; omega)) (fun ad e => by injection e with e; rw [← e])
        rw [mskF_size] at HT
        go_wp2_with fail
        go_ret
        exact ⟨ret_str HX3.out.symm, HW.out⟩
  · obtain ⟨x, hx⟩ : ∃ x, x = s := ⟨_, rfl⟩
    have HX3 : Hid (ascF s = mskF x x.size) := by rw [hx]; exact ascF_small h60
    have hx4 : x.size ≤ 60 := by rw [hx]; omega
    have d0 : ¬ (60 : Int) < (s.size : Int) := by omega
    go_enter Try.func25, Try.ntmps25
    go_upto_region 2 with ((with_reducible refine at_dst (N := 10) rfl ?_); refine ev_bytes rfl 9 120 5 _ rfl Try.underlying9 Try.underlying120 Try.underlying5 _ rfl ?_; intro g c w1 hg hc hB hb)
    rw [← hx] at hB hc
    simp only [← hx]
    clear hx
    go_wp2_with fail
    go_loopw [13] (fun i wr => ∃ k : Nat, k ≤ x.size ∧ i = .int .i64 k ∧ Hid (BB wr g 5 (mskF x k)) ∧ Hid (Below w.heap.size w wr)) (fun i _ => x.size - (intOf i).toNat)
    case atStart => exact ⟨0, Nat.zero_le _, rfl, by rw [mskF_zero]; exact hB, hb⟩
    case round =>
      clear hB hb
      obtain ⟨k, hk, rfl, HB, HW⟩ := hrel
      by_cases hlt : k < x.size
      · have h2 : k < (mskF x k).size := by rw [mskF_size]; exact hlt
        have q0 : wr.cell? ⟨g, k, none⟩ = some (.int .u8 x[k].toNat) := by
          have := HB.out.cell h2
          rwa [mskF_get hlt] at this
        have f0 : wr.frozen? ⟨g, k, none⟩ = false := HB.out.frozen h2
        have hbit := bits_msk' x[k]
        have HS := Lib.hid (HB.out.set h2 (mskB x[k]))
        have hsucc := Lib.hid (mskF_succ hlt h2)
        go_wp2_with fail
        refine ⟨⟨k + 1, by omega, by go_num, by show BB _ _ _ _; rw [← hsucc.out]; exact HS.out.1, below_grown HW.out HS.out.2 HW.out.size hg⟩, ?_⟩
        simp [intOf]; omega
      · obtain rfl : k = x.size := by omega
        have HT := sl_text (P := Try.prog) (c := c) Try.underlying120 Try.underlying5 Try.underlying9 (HB.out.sl (by rw [mskF_size]; omega)) (fun ad e => by injection e with e; rw [← e])
        rw [mskF_size] at HT
        go_wp2_with fail
        go_ret
        exact ⟨ret_str HX3.out.symm, HW.out⟩
end Go.Proofs.Ytdgblfldbikneaa
