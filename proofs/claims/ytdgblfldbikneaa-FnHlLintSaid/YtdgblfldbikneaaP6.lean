/- Contracts: transform, ZzTransform, Transform. -/
import Derived.Test.YtdgblfldbikneaaP5
import Derived.Test.YtdgblfldbikneaaBy
namespace Go.Proofs.Ytdgblfldbikneaa
open Go.RowKit Go.Lib

abbrev markS : ByteArray := ⟨#[60, 67, 72, 65, 82, 84, 78, 65, 77, 69, 62]⟩
theorem transf_any (s name : ByteArray) (w : World) (hs : s.size ≤ 1000000) (hn : name.size ≤ 1000000) :
    Calls Try.prog 123 #[.string s, .string name] w fun e w' => ∃ g c, e = .returned (.slice (some ⟨g, 0, none⟩) (replF s markS name).size c) ∧ BB w' g 5 (replF s markS name) ∧ Below w.heap.size w w' := by
  go_enter Try.func123, Try.ntmps123
  go_wp2_with (first
    | (go_at_call 141; (with_reducible refine (replace_any s markS name _ (Nat.le_of_ble_eq_true rfl) (Nat.le_trans (Nat.add_le_add_right hs 11) (Nat.le_of_ble_eq_true rfl)) (by omega)).mono ?_); rintro e w1 ⟨rfl, hb⟩)
    | ((with_reducible refine at_dst (N := 8) rfl ?_); refine ev_bytes rfl 9 120 5 _ rfl Try.underlying9 Try.underlying120 Try.underlying5 _ rfl ?_; intro g c w2 hg hc hB hb2))
  go_ret
  exact ⟨g, c, rfl, hB, below_trans hb hb2⟩
theorem zzTransf_any (s name : ByteArray) (w : World) (hs : s.size ≤ 1000000) (hn : name.size ≤ 1000000) :
    Calls Try.prog 81 #[.string s, .string name] w fun e w' => ∃ g c, e = .returned (.slice (some ⟨g, 0, none⟩) (replF s markS name).size c) ∧ BB w' g 5 (replF s markS name) ∧ Below w.heap.size w w' := by
  go_enter Try.func81, Try.ntmps81
  go_wp2_with (go_at_call 123; (with_reducible refine (transf_any s name _ hs hn).mono ?_); rintro e w1 ⟨g, c, rfl, hB, hb⟩)
  go_ret
  exact ⟨g, c, rfl, hB, hb⟩
theorem replF_size (s old new : ByteArray) (hm : 1 ≤ old.size) : (replF s old new).size ≤ s.size + (s.size + 1) * new.size := by
  have h1 := joinF_size new (splitF old (s.size + 1) s)
  have h2 := splitF_sum old (s.size + 1) s
  have h3 : (splitF old (s.size + 1) s).length * new.size ≤ (s.size + 1) * new.size := Nat.mul_le_mul_right _ (splitF_len old hm _ _)
  unfold replF
  omega
theorem transform_any (s name : ByteArray) (w : World) (hs : s.size ≤ 1000000) (hn : name.size ≤ 1000000) :
    Calls Try.prog 33 #[.string s, .string name] w fun e w' => e = .returned (.string (replF s markS name)) ∧ Below w.heap.size w w' := by
  have hsz := replF_size s markS name (Nat.le_of_ble_eq_true rfl)
  have hmul : (s.size + 1) * name.size ≤ 1000001 * 1000000 := Nat.mul_le_mul (by omega) hn
  have HZ := Lib.hid (show (replF s markS name).size ≤ 9223372036854775807 by omega)
  clear hsz hmul
  go_enter Try.func33, Try.ntmps33
  go_wp2_with (go_at_call 81; (with_reducible refine (zzTransf_any s name _ hs hn).mono ?_); rintro e w1 ⟨g, c, rfl, hB, hb⟩; have HT := Lib.hid (sl_text (P := Try.prog) (c := c) Try.underlying120 Try.underlying5 Try.underlying9 (hB.sl HZ.out) (fun ad e => by injection e with e; rw [← e])); clear hB; have ht := HT.out)
  go_ret
  exact ⟨rfl, hb⟩
end Go.Proofs.Ytdgblfldbikneaa
