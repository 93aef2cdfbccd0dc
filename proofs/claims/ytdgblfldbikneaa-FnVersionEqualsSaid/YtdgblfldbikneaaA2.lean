/- Contracts: personOf, Maintainer.Validate, personTold. -/
import Derived.Test.YtdgblfldbikneaaA1
import Derived.Test.YtdgblfldbikneaaFz
import Derived.Test.YtdgblfldbikneaaN2
namespace Go.Proofs.Ytdgblfldbikneaa
open Go.RowKit Go.Lib

theorem personOf_nil (a b c : ByteArray) (w : World) :
    Calls Try.prog 65 #[.agg #[.bool true, .string a, .string b, .string c]] w fun e w' => e = .returned (.pointer none) ∧ Below w.heap.size w w' := by
  go_enter Try.func65, Try.ntmps65
  go_wp2_with ((with_reducible refine at_dst (N := 1) rfl ?_); refine ev_box rfl 35 _ rfl _ rfl ?_; intro g w1 hg hB hb; have q0 : w1.cell? ⟨g, 0, none⟩ = some (.bool true) := hB.cell 0)
  go_ret
  exact ⟨rfl, hb⟩
theorem personOf_some (a b c : ByteArray) (w : World) :
    Calls Try.prog 65 #[.agg #[.bool false, .string a, .string b, .string c]] w fun e w' => ∃ g, e = .returned (.pointer (some ⟨g, 0, none⟩)) ∧ w.heap.size ≤ g ∧ Blk w' g 185 #[.string a, .string b, .string c] ∧ Below w.heap.size w w' := by
  go_enter Try.func65, Try.ntmps65
  go_wp2_with (first
    | ((with_reducible refine at_dst (N := 1) rfl ?_); refine ev_box rfl 35 _ rfl _ rfl ?_; intro g w1 hg hB hb
       have q0 : w1.cell? ⟨g, 0, none⟩ = some (.bool false) := hB.cell 0
       have q1 : w1.cell? ⟨g, 1, none⟩ = some (.string a) := hB.cell 1
       have q2 : w1.cell? ⟨g, 2, none⟩ = some (.string b) := hB.cell 2
       have q3 : w1.cell? ⟨g, 3, none⟩ = some (.string c) := hB.cell 3)
    | ((with_reducible refine at_dst (N := 12) rfl ?_); refine ev_box rfl 185 _ rfl _ rfl ?_; intro g2 w2 hg2 hB2 hb2))
  go_ret
  exact ⟨g2, rfl, Nat.le_trans hb.size hg2, hB2, below_trans hb hb2⟩
theorem sz9 : (Try.prog.info? 9).map (·.size) = some 1 := by kernel_rfl
theorem persVal_nil (w : World) : Calls Try.prog 66 #[.pointer none] w fun e w' => (∃ s, e = .returned (.iface 186 (.string s))) ∧ w = w' := by
  go_enter Try.func66, Try.ntmps66
  go_wp2_with fail
  go_ret
  exact ⟨⟨_, rfl⟩, rfl⟩
set_option maxRecDepth 100000 in
set_option maxHeartbeats 2000000 in
theorem persVal_some (g : Nat) (a b c : ByteArray) (w : World) (h : Blk w g 185 #[.string a, .string b, .string c]) (ha : a.size ≤ 1000000) (hb : b.size ≤ 1000000) (hc : c.size ≤ 1000000) (aa : asciiB a) (ab : asciiB b) (ac : asciiB c) :
    Calls Try.prog 66 #[.pointer (some ⟨g, 0, none⟩)] w fun e w' => e = .returned .nilIface ∧ Blk w' g 185 #[.string (cleanF a), .string (cleanF b), .string (cleanF c)] ∧ w.grownBy w' (some g) := by
  have H := Lib.hid h
  have HA := Lib.hid aa
  have HBb := Lib.hid ab
  have HC := Lib.hid ac
  have q0 : w.cell? ⟨g, 0, none⟩ = some (.string a) := h.cell 0
  clear h aa ab ac
  go_enter Try.func66, Try.ntmps66
  go_wp2_with (first
    | (go_at_call 113; (with_reducible refine (sanStr_any a _ ha HA.out).mono ?_); rintro e w1 ⟨rfl, hb1⟩; have H1 := Lib.hid (H.out.below hb1); have G1 := Lib.hid (grown_of_below (g := g) hb1); clear hb1)
    | (refine ev_store1 rfl 9 _ _ rfl g 0 _ rfl (.string (cleanF a)) rfl 185 H1.out sz9 (by simp) rfl rfl ?_; intro w2 hB2 hg2 hz2
       have H2 : Hid (Blk w2 g 185 #[.string (cleanF a), .string b, .string c]) := hB2
       have G2 := Lib.hid (G1.out.trans hg2)
       have q1 : w2.cell? ⟨g, 1, none⟩ = some (.string b) := hB2.cell 1
       clear hB2 hg2 hz2)
    | (go_at_call 113; (with_reducible refine (sanStr_any b _ hb HBb.out).mono ?_); rintro e w3 ⟨rfl, hb3⟩; have H3 := Lib.hid (H2.out.below hb3); have G3 := Lib.hid (G2.out.trans (grown_of_below (g := g) hb3)); clear hb3)
    | (refine ev_store1 rfl 9 _ _ rfl g 1 _ rfl (.string (cleanF b)) rfl 185 H3.out sz9 (by simp) rfl rfl ?_; intro w4 hB4 hg4 hz4
       have H4 : Hid (Blk w4 g 185 #[.string (cleanF a), .string (cleanF b), .string c]) := hB4
       have G4 := Lib.hid (G3.out.trans hg4)
       have q2 : w4.cell? ⟨g, 2, none⟩ = some (.string c) := hB4.cell 2
       clear hB4 hg4 hz4)
    | (go_at_call 113; (with_reducible refine (sanStr_any c _ hc HC.out).mono ?_); rintro e w5 ⟨rfl, hb5⟩; have H5 := Lib.hid (H4.out.below hb5); have G5 := Lib.hid (G4.out.trans (grown_of_below (g := g) hb5)); clear hb5)
    | (refine ev_store1 rfl 9 _ _ rfl g 2 _ rfl (.string (cleanF c)) rfl 185 H5.out sz9 (by simp) rfl rfl ?_; intro w6 hB6 hg6 hz6
       have H6 : Hid (Blk w6 g 185 #[.string (cleanF a), .string (cleanF b), .string (cleanF c)]) := hB6
       have G6 := Lib.hid (G5.out.trans hg6)
       clear hB6 hg6 hz6))
  go_ret
  exact ⟨rfl, H6.out, G6.out⟩
end Go.Proofs.Ytdgblfldbikneaa
