/- Linter: impl.Lint. -/
import Derived.Test.YtdgblfldbikneaaL2
import Derived.Test.YtdgblfldbikneaaPl
import Derived.Test.YtdgblfldbikneaaTy
namespace Go.Proofs.Ytdgblfldbikneaa
open Go.RowKit Go.Lib
set_option linter.unusedVariables false
set_option linter.unusedSimpArgs false
def mC (p : Ty65 × Nat) : List Value := [.int .i64 p.1.fSeverity, .string p.1.fPath, .iface 199 (.pointer (some ⟨p.2, 0, none⟩))]
def ErrsAt (B : Nat) (w : World) (ps : List (Ty65 × Nat)) : Prop := ∀ p ∈ ps, B ≤ p.2 ∧ Blk w p.2 201 #[.string p.1.fError]
theorem ErrsAt.below {B : Nat} {w w' : World} {ps : List (Ty65 × Nat)} (h : ErrsAt B w ps) (hb : Below w.heap.size w w') : ErrsAt B w' ps := fun p hp => ⟨(h p hp).1, (h p hp).2.below hb⟩
theorem ErrsAt.grown {B : Nat} {w w' : World} {ps : List (Ty65 × Nat)} (h : ErrsAt B w ps) {b : Nat} {t : TypeId} {c : Array Value} (hb : Blk w b t c) (h1 : t ≠ 201) (hg : w.grownBy w' (some b)) : ErrsAt B w' ps := fun p hp => ⟨(h p hp).1, (h p hp).2.grown hg ((h p hp).2.apart hb h1.symm)⟩
theorem ErrsAt.row {B : Nat} {w w' : World} {ps : List (Ty65 × Nat)} (h : ErrsAt B w ps) {b : Nat} {e : TypeId} {sz n : Nat} {v : Value} {cs : List Value} (ho : w.ownsRow b e sz v n cs) (h1 : e ≠ 201) (hg : w.grownBy w' v.ownBlock) : ErrsAt B w' ps := fun p hp => ⟨(h p hp).1, (h p hp).2.row hg (own_ne ho (h p hp).2 h1)⟩
theorem ErrsAt.grx {B : Nat} {w w' : World} {S : Nat → Prop} {ps : List (Ty65 × Nat)} (h : ErrsAt B w ps) (hx : GrX S w w') (hn : ∀ g c, Blk w g 201 c → ¬ S g) : ErrsAt B w' ps := fun p hp => ⟨(h p hp).1, (h p hp).2.grx hx (hn _ _ (h p hp).2)⟩
theorem ErrsAt.get {B : Nat} {w : World} {ps : List (Ty65 × Nat)} (h : ErrsAt B w ps) {p : Ty65 × Nat} (hp : p ∈ ps) : Blk w p.2 201 #[.string p.1.fError] := (h p hp).2
theorem own_fresh {w : World} {base : Nat} {e : TypeId} {sz n : Nat} {v : Value} {cs : List Value} {g : Nat} (h : w.ownsRow base e sz v n cs) (hg : w.heap.size ≤ g) : v.ownBlock ≠ some g := fun h2 => by
  have := own_lt h g h2
  omega
theorem ErrsAt.snoc {B : Nat} {w : World} {ps : List (Ty65 × Nat)} {p : Ty65 × Nat} (h : ErrsAt B w ps) (h1 : B ≤ p.2) (h2 : Blk w p.2 201 #[.string p.1.fError]) : ErrsAt B w (ps ++ [p]) := fun q hq => by
  rcases List.mem_append.1 hq with hq | hq
  · exact h q hq
  · rw [List.mem_singleton.1 hq]; exact ⟨h1, h2⟩
def sevOk (x : Ty65) : Bool := decide (0 ≤ x.fSeverity ∧ x.fSeverity ≤ 3)
def badF (x : Ty65) : Bool := sevOk x && x.fIs
def okF (x : Ty65) : Bool := sevOk x && !x.fIs
def highF (xs : List Ty65) : Int := (xs.filter badF).foldl (fun h x => if h < x.fSeverity then x.fSeverity else h) 0
theorem bad_snoc {xs : List Ty65} {k : Nat} (h : k < xs.length) : (xs.take (k + 1)).filter badF = (xs.take k).filter badF ++ if badF xs[k] then [xs[k]] else [] := by
  rw [List.take_succ_eq_append_getElem h, List.filter_append]
  by_cases hq : badF xs[k] = true <;> simp [List.filter_cons, hq]
theorem high_snoc {xs : List Ty65} {k : Nat} (h : k < xs.length) : highF (xs.take (k + 1)) = if badF xs[k] then (if highF (xs.take k) < xs[k].fSeverity then xs[k].fSeverity else highF (xs.take k)) else highF (xs.take k) := by
  unfold highF
  rw [bad_snoc h]
  by_cases hq : badF xs[k] = true <;> simp [hq]
theorem oks_snoc {xs : List Ty65} {k : Nat} (h : k < xs.length) : (xs.take (k + 1)).map (fun x => Value.bool (okF x)) = (xs.take k).map (fun x => Value.bool (okF x)) ++ [Value.bool (okF xs[k])] := by
  rw [List.take_succ_eq_append_getElem h, List.map_append]; rfl
theorem errNew_lo (s : ByteArray) (w : World) :
    Calls Try.prog 84 #[.string s] w fun e w' => ∃ g, e = .returned (.iface 199 (.pointer (some ⟨g, 0, none⟩))) ∧ w.heap.size ≤ g ∧ Blk w' g 201 #[.string s] ∧ Below w.heap.size w w' := by
  go_enter Try.func84, Try.ntmps84
  go_wp2
  go_ret
  exact ⟨w.heap.size, rfl, Nat.le_refl _, Blk.new _ _ _, (Below.refl _ _).alloc (Nat.le_refl _) _⟩
def sevT (a : Int) : ByteArray := if a = 0 then ⟨#[85, 78, 75, 78, 79, 87, 78]⟩ else if a = 1 then ⟨#[73, 78, 70, 79]⟩ else if a = 2 then ⟨#[87, 65, 82, 78, 73, 78, 71]⟩ else ⟨#[69, 82, 82, 79, 82]⟩
theorem msgErr_any (a : Int) (p s : ByteArray) (ge : Nat) (w : World) (ha : 0 ≤ a) (ha2 : a ≤ 3) (hp : p.size ≤ 1000000) (hs : s.size ≤ 1000000) (h : Blk w ge 201 #[.string s]) :
    Calls Try.prog 86 #[.agg #[.int .i64 a, .string p, .iface 199 (.pointer (some ⟨ge, 0, none⟩))]] w fun e w' => e = .returned (.string (msgF (sevT a) p s)) ∧ Below w.heap.size w w' := by
  have hc : a = 0 ∨ a = 1 ∨ a = 2 ∨ a = 3 := by omega
  rcases hc with rfl | rfl | rfl | rfl
  · exact msgErr0_any p s ge w hp hs h
  · exact msgErr1_any p s ge w hp hs h
  · exact msgErr2_any p s ge w hp hs h
  · exact msgErr3_any p s ge w hp hs h
def textF (x : Ty65) : ByteArray := msgF (sevT x.fSeverity) x.fPath x.fError
set_option maxRecDepth 100000 in
set_option maxHeartbeats 8000000 in
theorem lint_any (A : Option Addr) (c : Nat) (xs : List Ty65) (w : World) (h : Rows w A 4 (xs.map Ty65.cells)) (hx : ∀ x ∈ xs, x.fPath.size ≤ 1000000 ∧ x.fError.size ≤ 1000000) (hn : xs.length ≤ 1000000) :
    Calls Try.prog 39 #[.slice A xs.length c] w fun e w' => ∃ vo vt, e = .returned (.tuple #[vo, vt, .int .i64 (highF xs)]) ∧ w'.ownsRow w.heap.size 4 1 vo xs.length (xs.map fun x => Value.bool (okF x)) ∧ w'.ownsRow w.heap.size 9 1 vt (xs.filter badF).length (strs ((xs.filter badF).map textF)) ∧ Below w.heap.size w w' := by
  have hl : xs.length ≤ 9223372036854775807 := by simpa using h.1
  have H := Lib.hid h
  have HX := Lib.hid hx
  clear h hx
  go_enter Try.func39, Try.ntmps39
  go_wp2_with (first
    | ((with_reducible refine at_dst (N := 5) rfl ?_); refine ev_alloc rfl 139 rfl _ _ tz139 ?_; intro g5 w1 hg hB hb
       have low_g5 := Nat.le_trans (Nat.le_refl _) hg
       have B_w1 := Lib.hid (below_trans (Below.refl _ _) hb)
       have g5_w1 : Hid (Blk w1 g5 139 #[.slice none 0 0, .int .i64 0, .string ⟨#[]⟩]) := hB
       clear hB hb)
    | (refine ev_store rfl 139 _ _ rfl g5 _ _ rfl rfl 139 g5_w1.out tsz139 rfl rfl ?_; intro w2 hB hg hz
       have B_w2 := Lib.hid (below_grown B_w1.out hg B_w1.out.size low_g5)
       have g5_w2 : Hid (Blk w2 g5 139 #[.slice none 0 0, .int .i64 0, .string ⟨#[]⟩]) := hB
       clear hB hg hz))
  go_wp2_with fail
  go_loopw [2, 14] (fun v i wr => ∃ k : Nat, ∃ ps : List (Ty65 × Nat), ∃ A10 : Option Addr, ∃ c10 : Nat, ∃ hh : Int, k ≤ xs.length ∧ i = .int .i64 k ∧ ps.length ≤ k ∧ Hid (ps.map (·.1) = (xs.take k).filter badF) ∧ Hid (hh = highF (xs.take k)) ∧ Hid (wr.ownsRow w.heap.size 4 1 v k ((xs.take k).map fun x => Value.bool (okF x))) ∧ Hid (Blk wr g5 139 #[.slice A10 ps.length c10, .int .i64 hh, .string ⟨#[]⟩]) ∧ Hid (wr.ownsRow w.heap.size 143 3 (.slice A10 ps.length c10) ps.length (flatC mC ps)) ∧ Hid (ErrsAt w.heap.size wr ps) ∧ Hid (Below w.heap.size w wr)) (fun _ i _ => xs.length - (intOf i).toNat)
  case atStart => exact ⟨0, [], none, 0, 0, Nat.zero_le _, rfl, Nat.le_refl _, rfl, rfl, own_nil _ _ _ _, g5_w2, own_nil _ _ _ _, (fun p hp => by cases hp), B_w2⟩
  case round =>
    obtain ⟨k, ps, A10, c10, hh, hk, rfl, hpk, HPS, HHI, HO, HG5, HOM, HER, HB⟩ := hrel
    by_cases hlt : k < xs.length
    · obtain ⟨ad, rfl, hx⟩ := (H.out.below HB.out).at_ (j := k) (row := xs[k].cells) (by simp [hlt])
      have HC := Lib.hid hx
      clear hx
      have HBS := Lib.hid (bad_snoc hlt)
      have HHS := Lib.hid (high_snoc hlt)
      have HOS := Lib.hid (oks_snoc hlt)
      have hn2 : ps.length ≤ 1000000 := by omega
      cases hs : sevOk xs[k] <;> cases hi : xs[k].fIs
      · have hbf : badF xs[k] = false := by rw [badF, hs, hi]; rfl
        have hof : okF xs[k] = false := by rw [okF, hs, hi]; rfl
        rw [hbf] at HBS HHS
        rw [hof] at HOS
        have hsv : ¬ (0 ≤ xs[k].fSeverity ∧ xs[k].fSeverity ≤ 3) := by simpa [sevOk] using hs
        have HSN := Lib.hid hsv
        have HC2 : Hid (∀ i u, ([.int .i64 (xs[k].fSeverity), .string (xs[k].fPath), .bool false, .string (xs[k].fError)] : List Value)[i]? = some u → wr.cell? ((ad.add (k * 4)).add i) = some u) := by
          have h0 := HC.out
          rw [show xs[k].cells = [.int .i64 (xs[k].fSeverity), .string (xs[k].fPath), .bool false, .string (xs[k].fError)] by rw [Ty65.cells, hi]] at h0
          exact h0
        clear hsv hs hbf hof hi
        go_wp2_with (first
          | ((with_reducible refine at_dst (N := 17) rfl ?_); refine ev_loadR rfl 65 _ rfl _ rfl [.int .i64 (xs[k].fSeverity), .string (xs[k].fPath), .bool false, .string (xs[k].fError)] (HC2.out) _ Try.underlying65 rfl tsz65 ?_)
          | ((with_reducible refine at_dst (N := 7) rfl ?_); refine ev_alloc rfl 65 rfl _ _ tz65 ?_; intro g7 w3 hg hB hb
             have n_g5_g7 : g5 ≠ g7 := by have := HG5.out.lt; omega
             have low_g7 := Nat.le_trans HB.out.size hg
             have owb_w3 := Lib.hid (own_below HO.out hb)
             have g5_w3 := Lib.hid (HG5.out.below hb)
             have owm_w3 := Lib.hid (own_below HOM.out hb)
             have er_w3 := Lib.hid (HER.out.below hb)
             have B_w3 := Lib.hid (below_trans HB.out hb)
             have g7_w3 : Hid (Blk w3 g7 65 #[.int .i64 0, .string ⟨#[]⟩, .bool false, .string ⟨#[]⟩]) := hB
             clear hB hb)
          | (refine ev_store rfl 65 _ _ rfl g7 _ _ rfl rfl 65 g7_w3.out tsz65 rfl rfl ?_; intro w4 hB hg hz
             have owb_w4 := Lib.hid (own_grown owb_w3.out hg (own_ne owb_w3.out g7_w3.out (by decide)))
             have g5_w4 := Lib.hid (g5_w3.out.grown hg n_g5_g7)
             have owm_w4 := Lib.hid (own_grown owm_w3.out hg (own_ne owm_w3.out g7_w3.out (by decide)))
             have er_w4 := Lib.hid (er_w3.out.grown g7_w3.out (by decide) hg)
             have B_w4 := Lib.hid (below_grown B_w3.out hg B_w3.out.size low_g7)
             have g7_w4 : Hid (Blk w4 g7 65 #[.int .i64 (xs[k].fSeverity), .string (xs[k].fPath), .bool false, .string (xs[k].fError)]) := hB
             clear hB hg hz)
          | ((with_reducible refine at_dst (N := 19) rfl ?_); refine ev_ld rfl 4 _ rfl ⟨g7, 2, none⟩ rfl (.bool false) (g7_w4.out.cell 2) _ Try.underlying4 rfl ?_)
          | ((with_reducible refine at_dst (N := 25) rfl ?_); refine ev_ld rfl 3 _ rfl ⟨g7, 0, none⟩ rfl (.int .i64 (xs[k].fSeverity)) (g7_w4.out.cell 0) _ Try.underlying3 rfl ?_)
          | ((with_reducible refine at_dst (N := 27) rfl ?_); refine ev_ld rfl 9 _ rfl ⟨g7, 1, none⟩ rfl (.string (xs[k].fPath)) (g7_w4.out.cell 1) _ Try.underlying9 rfl ?_)
          | (go_at_call 85; (with_reducible refine (rule_bad g5 xs[k].fSeverity xs[k].fPath _ _ HSN.out).mono ?_); rintro e w5 ⟨rfl, hb⟩
             have owb_w5 := Lib.hid (own_below owb_w4.out hb)
             have g5_w5 := Lib.hid (g5_w4.out.below hb)
             have owm_w5 := Lib.hid (own_below owm_w4.out hb)
             have er_w5 := Lib.hid (er_w4.out.below hb)
             have g7_w5 := Lib.hid (g7_w4.out.below hb)
             have B_w5 := Lib.hid (below_trans B_w4.out hb)
             clear hb)
          | ((with_reducible refine at_dst (N := 30) rfl ?_); refine ev_bs rfl 46 4 1 _ rfl #[.bool false] (by go_simp) ?_; intro g30 w6 hg hB hb
             have n_g5_g30 : g5 ≠ g30 := by have := g5_w5.out.lt; omega
             have n_g7_g30 : g7 ≠ g30 := by have := g7_w5.out.lt; omega
             have low_g30 := Nat.le_trans B_w5.out.size hg
             have owb_w6 := Lib.hid (own_below owb_w5.out hb)
             have g5_w6 := Lib.hid (g5_w5.out.below hb)
             have owm_w6 := Lib.hid (own_below owm_w5.out hb)
             have er_w6 := Lib.hid (er_w5.out.below hb)
             have g7_w6 := Lib.hid (g7_w5.out.below hb)
             have B_w6 := Lib.hid (below_trans B_w5.out hb)
             have g30_w6 : Hid (Blk w6 g30 4 #[.bool false]) := hB
             clear hB hb)
          | ((with_reducible refine at_dst (N := 31) rfl ?_); refine ev_app rfl _ _ 46 4 rfl Try.underlying46 _ 1 _ tin4 rfl (by omega) w.heap.size _ _ _ rfl owb_w6.out _ 1 1 [.bool false] rfl (g30_w6.out.sl (by simp)) rfl (by simp [Value.oneCell']) (by omega) (by omega) B_w6.out.size ?_; intro v31_w7 w7 ho1 hg1 hat1
             have g5_w7 := Lib.hid (g5_w6.out.row hg1 (own_ne owb_w6.out g5_w6.out (by decide)))
             have owm_w7 := Lib.hid (own_row owm_w6.out hg1 (own_apart owm_w6.out owb_w6.out (by decide)))
             have er_w7 := Lib.hid (er_w6.out.row owb_w6.out (by decide) hg1)
             have g7_w7 := Lib.hid (g7_w6.out.row hg1 (own_ne owb_w6.out g7_w6.out (by decide)))
             have B_w7 := Lib.hid (below_row B_w6.out hg1 B_w6.out.size (own_ge owb_w6.out))
             have owb_w7 := Lib.hid ho1
             clear ho1 hg1 hat1))
        refine ⟨⟨k + 1, ps, A10, c10, hh, by omega, by go_num, by omega, by show _ = _; rw [HPS.out, HBS.out]; simp, by show _ = _; rw [HHS.out, ← HHI.out]; rfl, by show World.ownsRow _ _ _ _ _ _ _; rw [HOS.out]; exact owb_w7.out, g5_w7, owm_w7, er_w7, B_w7⟩, ?_⟩
        simp [intOf]; omega
      · have hbf : badF xs[k] = false := by rw [badF, hs, hi]; rfl
        have hof : okF xs[k] = false := by rw [okF, hs, hi]; rfl
        rw [hbf] at HBS HHS
        rw [hof] at HOS
        have hsv : ¬ (0 ≤ xs[k].fSeverity ∧ xs[k].fSeverity ≤ 3) := by simpa [sevOk] using hs
        have HSN := Lib.hid hsv
        have HC2 : Hid (∀ i u, ([.int .i64 (xs[k].fSeverity), .string (xs[k].fPath), .bool true, .string (xs[k].fError)] : List Value)[i]? = some u → wr.cell? ((ad.add (k * 4)).add i) = some u) := by
          have h0 := HC.out
          rw [show xs[k].cells = [.int .i64 (xs[k].fSeverity), .string (xs[k].fPath), .bool true, .string (xs[k].fError)] by rw [Ty65.cells, hi]] at h0
          exact h0
        clear hsv hs hbf hof hi
        go_wp2_with (first
          | ((with_reducible refine at_dst (N := 17) rfl ?_); refine ev_loadR rfl 65 _ rfl _ rfl [.int .i64 (xs[k].fSeverity), .string (xs[k].fPath), .bool true, .string (xs[k].fError)] (HC2.out) _ Try.underlying65 rfl tsz65 ?_)
          | ((with_reducible refine at_dst (N := 7) rfl ?_); refine ev_alloc rfl 65 rfl _ _ tz65 ?_; intro g7 w8 hg hB hb
             have n_g5_g7 : g5 ≠ g7 := by have := HG5.out.lt; omega
             have low_g7 := Nat.le_trans HB.out.size hg
             have owb_w8 := Lib.hid (own_below HO.out hb)
             have g5_w8 := Lib.hid (HG5.out.below hb)
             have owm_w8 := Lib.hid (own_below HOM.out hb)
             have er_w8 := Lib.hid (HER.out.below hb)
             have B_w8 := Lib.hid (below_trans HB.out hb)
             have g7_w8 : Hid (Blk w8 g7 65 #[.int .i64 0, .string ⟨#[]⟩, .bool false, .string ⟨#[]⟩]) := hB
             clear hB hb)
          | (refine ev_store rfl 65 _ _ rfl g7 _ _ rfl rfl 65 g7_w8.out tsz65 rfl rfl ?_; intro w9 hB hg hz
             have owb_w9 := Lib.hid (own_grown owb_w8.out hg (own_ne owb_w8.out g7_w8.out (by decide)))
             have g5_w9 := Lib.hid (g5_w8.out.grown hg n_g5_g7)
             have owm_w9 := Lib.hid (own_grown owm_w8.out hg (own_ne owm_w8.out g7_w8.out (by decide)))
             have er_w9 := Lib.hid (er_w8.out.grown g7_w8.out (by decide) hg)
             have B_w9 := Lib.hid (below_grown B_w8.out hg B_w8.out.size low_g7)
             have g7_w9 : Hid (Blk w9 g7 65 #[.int .i64 (xs[k].fSeverity), .string (xs[k].fPath), .bool true, .string (xs[k].fError)]) := hB
             clear hB hg hz)
          | ((with_reducible refine at_dst (N := 19) rfl ?_); refine ev_ld rfl 4 _ rfl ⟨g7, 2, none⟩ rfl (.bool true) (g7_w9.out.cell 2) _ Try.underlying4 rfl ?_)
          | ((with_reducible refine at_dst (N := 21) rfl ?_); refine ev_ld rfl 9 _ rfl ⟨g7, 3, none⟩ rfl (.string (xs[k].fError)) (g7_w9.out.cell 3) _ Try.underlying9 rfl ?_)
          | (go_at_call 84; (with_reducible refine (errNew_lo xs[k].fError _).mono ?_); rintro e w10 ⟨ge, rfl, hlo, hbe, hb⟩
             have n_g5_ge : g5 ≠ ge := by have := g5_w9.out.lt; omega
             have n_g7_ge : g7 ≠ ge := by have := g7_w9.out.lt; omega
             have low_ge := Nat.le_trans B_w9.out.size hlo
             have owb_w10 := Lib.hid (own_below owb_w9.out hb)
             have g5_w10 := Lib.hid (g5_w9.out.below hb)
             have owm_w10 := Lib.hid (own_below owm_w9.out hb)
             have er_w10 := Lib.hid (er_w9.out.below hb)
             have g7_w10 := Lib.hid (g7_w9.out.below hb)
             have B_w10 := Lib.hid (below_trans B_w9.out hb)
             have HGE := Lib.hid hbe
             clear hbe hlo
             clear hb)
          | ((with_reducible refine at_dst (N := 25) rfl ?_); refine ev_ld rfl 3 _ rfl ⟨g7, 0, none⟩ rfl (.int .i64 (xs[k].fSeverity)) (g7_w10.out.cell 0) _ Try.underlying3 rfl ?_)
          | ((with_reducible refine at_dst (N := 27) rfl ?_); refine ev_ld rfl 9 _ rfl ⟨g7, 1, none⟩ rfl (.string (xs[k].fPath)) (g7_w10.out.cell 1) _ Try.underlying9 rfl ?_)
          | (go_at_call 85; (with_reducible refine (rule_bad g5 xs[k].fSeverity xs[k].fPath _ _ HSN.out).mono ?_); rintro e w11 ⟨rfl, hb⟩
             have owb_w11 := Lib.hid (own_below owb_w10.out hb)
             have g5_w11 := Lib.hid (g5_w10.out.below hb)
             have owm_w11 := Lib.hid (own_below owm_w10.out hb)
             have er_w11 := Lib.hid (er_w10.out.below hb)
             have g7_w11 := Lib.hid (g7_w10.out.below hb)
             have ge_w11 := Lib.hid (HGE.out.below hb)
             have B_w11 := Lib.hid (below_trans B_w10.out hb)
             clear hb)
          | ((with_reducible refine at_dst (N := 30) rfl ?_); refine ev_bs rfl 46 4 1 _ rfl #[.bool false] (by go_simp) ?_; intro g30 w12 hg hB hb
             have n_g5_g30 : g5 ≠ g30 := by have := g5_w11.out.lt; omega
             have n_g7_g30 : g7 ≠ g30 := by have := g7_w11.out.lt; omega
             have n_ge_g30 : ge ≠ g30 := by have := ge_w11.out.lt; omega
             have low_g30 := Nat.le_trans B_w11.out.size hg
             have owb_w12 := Lib.hid (own_below owb_w11.out hb)
             have g5_w12 := Lib.hid (g5_w11.out.below hb)
             have owm_w12 := Lib.hid (own_below owm_w11.out hb)
             have er_w12 := Lib.hid (er_w11.out.below hb)
             have g7_w12 := Lib.hid (g7_w11.out.below hb)
             have ge_w12 := Lib.hid (ge_w11.out.below hb)
             have B_w12 := Lib.hid (below_trans B_w11.out hb)
             have g30_w12 : Hid (Blk w12 g30 4 #[.bool false]) := hB
             clear hB hb)
          | ((with_reducible refine at_dst (N := 31) rfl ?_); refine ev_app rfl _ _ 46 4 rfl Try.underlying46 _ 1 _ tin4 rfl (by omega) w.heap.size _ _ _ rfl owb_w12.out _ 1 1 [.bool false] rfl (g30_w12.out.sl (by simp)) rfl (by simp [Value.oneCell']) (by omega) (by omega) B_w12.out.size ?_; intro v31_w13 w13 ho1 hg1 hat1
             have g5_w13 := Lib.hid (g5_w12.out.row hg1 (own_ne owb_w12.out g5_w12.out (by decide)))
             have owm_w13 := Lib.hid (own_row owm_w12.out hg1 (own_apart owm_w12.out owb_w12.out (by decide)))
             have er_w13 := Lib.hid (er_w12.out.row owb_w12.out (by decide) hg1)
             have g7_w13 := Lib.hid (g7_w12.out.row hg1 (own_ne owb_w12.out g7_w12.out (by decide)))
             have ge_w13 := Lib.hid (ge_w12.out.row hg1 (own_ne owb_w12.out ge_w12.out (by decide)))
             have B_w13 := Lib.hid (below_row B_w12.out hg1 B_w12.out.size (own_ge owb_w12.out))
             have owb_w13 := Lib.hid ho1
             clear ho1 hg1 hat1))
        refine ⟨⟨k + 1, ps, A10, c10, hh, by omega, by go_num, by omega, by show _ = _; rw [HPS.out, HBS.out]; simp, by show _ = _; rw [HHS.out, ← HHI.out]; rfl, by show World.ownsRow _ _ _ _ _ _ _; rw [HOS.out]; exact owb_w13.out, g5_w13, owm_w13, er_w13, B_w13⟩, ?_⟩
        simp [intOf]; omega
      · have hbf : badF xs[k] = false := by rw [badF, hs, hi]; rfl
        have hof : okF xs[k] = true := by rw [okF, hs, hi]; rfl
        rw [hbf] at HBS HHS
        rw [hof] at HOS
        have hsv : 0 ≤ xs[k].fSeverity ∧ xs[k].fSeverity ≤ 3 := by simpa [sevOk] using hs
        have HS1 := Lib.hid hsv.1
        have HS2 := Lib.hid hsv.2
        have HC2 : Hid (∀ i u, ([.int .i64 (xs[k].fSeverity), .string (xs[k].fPath), .bool false, .string (xs[k].fError)] : List Value)[i]? = some u → wr.cell? ((ad.add (k * 4)).add i) = some u) := by
          have h0 := HC.out
          rw [show xs[k].cells = [.int .i64 (xs[k].fSeverity), .string (xs[k].fPath), .bool false, .string (xs[k].fError)] by rw [Ty65.cells, hi]] at h0
          exact h0
        clear hsv hs hbf hof hi
        go_wp2_with (first
          | ((with_reducible refine at_dst (N := 17) rfl ?_); refine ev_loadR rfl 65 _ rfl _ rfl [.int .i64 (xs[k].fSeverity), .string (xs[k].fPath), .bool false, .string (xs[k].fError)] (HC2.out) _ Try.underlying65 rfl tsz65 ?_)
          | ((with_reducible refine at_dst (N := 7) rfl ?_); refine ev_alloc rfl 65 rfl _ _ tz65 ?_; intro g7 w14 hg hB hb
             have n_g5_g7 : g5 ≠ g7 := by have := HG5.out.lt; omega
             have low_g7 := Nat.le_trans HB.out.size hg
             have owb_w14 := Lib.hid (own_below HO.out hb)
             have g5_w14 := Lib.hid (HG5.out.below hb)
             have owm_w14 := Lib.hid (own_below HOM.out hb)
             have er_w14 := Lib.hid (HER.out.below hb)
             have B_w14 := Lib.hid (below_trans HB.out hb)
             have g7_w14 : Hid (Blk w14 g7 65 #[.int .i64 0, .string ⟨#[]⟩, .bool false, .string ⟨#[]⟩]) := hB
             clear hB hb)
          | (refine ev_store rfl 65 _ _ rfl g7 _ _ rfl rfl 65 g7_w14.out tsz65 rfl rfl ?_; intro w15 hB hg hz
             have owb_w15 := Lib.hid (own_grown owb_w14.out hg (own_ne owb_w14.out g7_w14.out (by decide)))
             have g5_w15 := Lib.hid (g5_w14.out.grown hg n_g5_g7)
             have owm_w15 := Lib.hid (own_grown owm_w14.out hg (own_ne owm_w14.out g7_w14.out (by decide)))
             have er_w15 := Lib.hid (er_w14.out.grown g7_w14.out (by decide) hg)
             have B_w15 := Lib.hid (below_grown B_w14.out hg B_w14.out.size low_g7)
             have g7_w15 : Hid (Blk w15 g7 65 #[.int .i64 (xs[k].fSeverity), .string (xs[k].fPath), .bool false, .string (xs[k].fError)]) := hB
             clear hB hg hz)
          | ((with_reducible refine at_dst (N := 19) rfl ?_); refine ev_ld rfl 4 _ rfl ⟨g7, 2, none⟩ rfl (.bool false) (g7_w15.out.cell 2) _ Try.underlying4 rfl ?_)
          | ((with_reducible refine at_dst (N := 25) rfl ?_); refine ev_ld rfl 3 _ rfl ⟨g7, 0, none⟩ rfl (.int .i64 (xs[k].fSeverity)) (g7_w15.out.cell 0) _ Try.underlying3 rfl ?_)
          | ((with_reducible refine at_dst (N := 27) rfl ?_); refine ev_ld rfl 9 _ rfl ⟨g7, 1, none⟩ rfl (.string (xs[k].fPath)) (g7_w15.out.cell 1) _ Try.underlying9 rfl ?_)
          | (go_at_call 85; (with_reducible refine (rule_nil g5 xs[k].fSeverity xs[k].fPath _ HS1.out HS2.out).mono ?_); rintro e w16 ⟨rfl, hb⟩
             have owb_w16 := Lib.hid (own_below owb_w15.out hb)
             have g5_w16 := Lib.hid (g5_w15.out.below hb)
             have owm_w16 := Lib.hid (own_below owm_w15.out hb)
             have er_w16 := Lib.hid (er_w15.out.below hb)
             have g7_w16 := Lib.hid (g7_w15.out.below hb)
             have B_w16 := Lib.hid (below_trans B_w15.out hb)
             clear hb)
          | ((with_reducible refine at_dst (N := 30) rfl ?_); refine ev_bs rfl 46 4 1 _ rfl #[.bool true] (by go_simp) ?_; intro g30 w17 hg hB hb
             have n_g5_g30 : g5 ≠ g30 := by have := g5_w16.out.lt; omega
             have n_g7_g30 : g7 ≠ g30 := by have := g7_w16.out.lt; omega
             have low_g30 := Nat.le_trans B_w16.out.size hg
             have owb_w17 := Lib.hid (own_below owb_w16.out hb)
             have g5_w17 := Lib.hid (g5_w16.out.below hb)
             have owm_w17 := Lib.hid (own_below owm_w16.out hb)
             have er_w17 := Lib.hid (er_w16.out.below hb)
             have g7_w17 := Lib.hid (g7_w16.out.below hb)
             have B_w17 := Lib.hid (below_trans B_w16.out hb)
             have g30_w17 : Hid (Blk w17 g30 4 #[.bool true]) := hB
             clear hB hb)
          | ((with_reducible refine at_dst (N := 31) rfl ?_); refine ev_app rfl _ _ 46 4 rfl Try.underlying46 _ 1 _ tin4 rfl (by omega) w.heap.size _ _ _ rfl owb_w17.out _ 1 1 [.bool true] rfl (g30_w17.out.sl (by simp)) rfl (by simp [Value.oneCell']) (by omega) (by omega) B_w17.out.size ?_; intro v31_w18 w18 ho1 hg1 hat1
             have g5_w18 := Lib.hid (g5_w17.out.row hg1 (own_ne owb_w17.out g5_w17.out (by decide)))
             have owm_w18 := Lib.hid (own_row owm_w17.out hg1 (own_apart owm_w17.out owb_w17.out (by decide)))
             have er_w18 := Lib.hid (er_w17.out.row owb_w17.out (by decide) hg1)
             have g7_w18 := Lib.hid (g7_w17.out.row hg1 (own_ne owb_w17.out g7_w17.out (by decide)))
             have B_w18 := Lib.hid (below_row B_w17.out hg1 B_w17.out.size (own_ge owb_w17.out))
             have owb_w18 := Lib.hid ho1
             clear ho1 hg1 hat1))
        refine ⟨⟨k + 1, ps, A10, c10, hh, by omega, by go_num, by omega, by show _ = _; rw [HPS.out, HBS.out]; simp, by show _ = _; rw [HHS.out, ← HHI.out]; rfl, by show World.ownsRow _ _ _ _ _ _ _; rw [HOS.out]; exact owb_w18.out, g5_w18, owm_w18, er_w18, B_w18⟩, ?_⟩
        simp [intOf]; omega
      · have hbf : badF xs[k] = true := by rw [badF, hs, hi]; rfl
        have hof : okF xs[k] = false := by rw [okF, hs, hi]; rfl
        rw [hbf] at HBS HHS
        rw [hof] at HOS
        have hsv : 0 ≤ xs[k].fSeverity ∧ xs[k].fSeverity ≤ 3 := by simpa [sevOk] using hs
        have HS1 := Lib.hid hsv.1
        have HS2 := Lib.hid hsv.2
        have HC2 : Hid (∀ i u, ([.int .i64 (xs[k].fSeverity), .string (xs[k].fPath), .bool true, .string (xs[k].fError)] : List Value)[i]? = some u → wr.cell? ((ad.add (k * 4)).add i) = some u) := by
          have h0 := HC.out
          rw [show xs[k].cells = [.int .i64 (xs[k].fSeverity), .string (xs[k].fPath), .bool true, .string (xs[k].fError)] by rw [Ty65.cells, hi]] at h0
          exact h0
        clear hsv hs hbf hof hi
        go_wp2_with (first
          | ((with_reducible refine at_dst (N := 17) rfl ?_); refine ev_loadR rfl 65 _ rfl _ rfl [.int .i64 (xs[k].fSeverity), .string (xs[k].fPath), .bool true, .string (xs[k].fError)] (HC2.out) _ Try.underlying65 rfl tsz65 ?_)
          | ((with_reducible refine at_dst (N := 7) rfl ?_); refine ev_alloc rfl 65 rfl _ _ tz65 ?_; intro g7 w19 hg hB hb
             have n_g5_g7 : g5 ≠ g7 := by have := HG5.out.lt; omega
             have low_g7 := Nat.le_trans HB.out.size hg
             have owb_w19 := Lib.hid (own_below HO.out hb)
             have g5_w19 := Lib.hid (HG5.out.below hb)
             have owm_w19 := Lib.hid (own_below HOM.out hb)
             have er_w19 := Lib.hid (HER.out.below hb)
             have B_w19 := Lib.hid (below_trans HB.out hb)
             have g7_w19 : Hid (Blk w19 g7 65 #[.int .i64 0, .string ⟨#[]⟩, .bool false, .string ⟨#[]⟩]) := hB
             clear hB hb)
          | (refine ev_store rfl 65 _ _ rfl g7 _ _ rfl rfl 65 g7_w19.out tsz65 rfl rfl ?_; intro w20 hB hg hz
             have owb_w20 := Lib.hid (own_grown owb_w19.out hg (own_ne owb_w19.out g7_w19.out (by decide)))
             have g5_w20 := Lib.hid (g5_w19.out.grown hg n_g5_g7)
             have owm_w20 := Lib.hid (own_grown owm_w19.out hg (own_ne owm_w19.out g7_w19.out (by decide)))
             have er_w20 := Lib.hid (er_w19.out.grown g7_w19.out (by decide) hg)
             have B_w20 := Lib.hid (below_grown B_w19.out hg B_w19.out.size low_g7)
             have g7_w20 : Hid (Blk w20 g7 65 #[.int .i64 (xs[k].fSeverity), .string (xs[k].fPath), .bool true, .string (xs[k].fError)]) := hB
             clear hB hg hz)
          | ((with_reducible refine at_dst (N := 19) rfl ?_); refine ev_ld rfl 4 _ rfl ⟨g7, 2, none⟩ rfl (.bool true) (g7_w20.out.cell 2) _ Try.underlying4 rfl ?_)
          | ((with_reducible refine at_dst (N := 21) rfl ?_); refine ev_ld rfl 9 _ rfl ⟨g7, 3, none⟩ rfl (.string (xs[k].fError)) (g7_w20.out.cell 3) _ Try.underlying9 rfl ?_)
          | (go_at_call 84; (with_reducible refine (errNew_lo xs[k].fError _).mono ?_); rintro e w21 ⟨ge, rfl, hlo, hbe, hb⟩
             have n_g5_ge : g5 ≠ ge := by have := g5_w20.out.lt; omega
             have n_g7_ge : g7 ≠ ge := by have := g7_w20.out.lt; omega
             have low_ge := Nat.le_trans B_w20.out.size hlo
             have owb_w21 := Lib.hid (own_below owb_w20.out hb)
             have g5_w21 := Lib.hid (g5_w20.out.below hb)
             have owm_w21 := Lib.hid (own_below owm_w20.out hb)
             have er_w21 := Lib.hid (er_w20.out.below hb)
             have g7_w21 := Lib.hid (g7_w20.out.below hb)
             have B_w21 := Lib.hid (below_trans B_w20.out hb)
             have HGE := Lib.hid hbe
             clear hbe hlo
             clear hb)
          | ((with_reducible refine at_dst (N := 25) rfl ?_); refine ev_ld rfl 3 _ rfl ⟨g7, 0, none⟩ rfl (.int .i64 (xs[k].fSeverity)) (g7_w21.out.cell 0) _ Try.underlying3 rfl ?_)
          | ((with_reducible refine at_dst (N := 27) rfl ?_); refine ev_ld rfl 9 _ rfl ⟨g7, 1, none⟩ rfl (.string (xs[k].fPath)) (g7_w21.out.cell 1) _ Try.underlying9 rfl ?_)
          | (go_at_call 85; (with_reducible refine (rule_err w.heap.size g5 ge xs[k].fSeverity hh xs[k].fPath (.slice A10 ps.length c10) ps.length (flatC mC ps) _ HS1.out HS2.out B_w21.out.size hn2 g5_w21.out owm_w21.out).mono ?_); rintro e w22 ⟨rfl, M2, hbl, ho2, hx⟩
             have owb_w22 := Lib.hid (own_grx owb_w21.out hx (fun k hk h => h.elim (fun e => own_ne owb_w21.out g5_w21.out (by decide) (e ▸ hk)) (fun e => own_apart owb_w21.out owm_w21.out (by decide) k e hk)))
             have er_w22 := Lib.hid (er_w21.out.grx hx (fun g c hb2 h => h.elim (fun e => (hb2.apart g5_w21.out (by decide)) e) (fun e => own_ne owm_w21.out hb2 (by decide) e)))
             have g7_w22 := Lib.hid (g7_w21.out.grx hx (fun h => h.elim (fun e => n_g5_g7.symm e) (fun e => own_ne owm_w21.out g7_w21.out (by decide) e)))
             have ge_w22 := Lib.hid (HGE.out.grx hx (fun h => h.elim (fun e => n_g5_ge.symm e) (fun e => own_ne owm_w21.out HGE.out (by decide) e)))
             have B_w22 := Lib.hid (below_grx B_w21.out hx B_w21.out.size (fun k h => h.elim (fun e => e ▸ low_g5) (fun e => own_ge owm_w21.out k e)))
             obtain ⟨A11, c11, rfl, _⟩ := own_form ho2
             have HG6 := Lib.hid hbl
             have HOM2 := Lib.hid ho2
             clear hbl ho2
             clear hx)
          | ((with_reducible refine at_dst (N := 30) rfl ?_); refine ev_bs rfl 46 4 1 _ rfl #[.bool false] (by go_simp) ?_; intro g30 w23 hg hB hb
             have n_g7_g30 : g7 ≠ g30 := by have := g7_w22.out.lt; omega
             have n_ge_g30 : ge ≠ g30 := by have := ge_w22.out.lt; omega
             have n_g5_g30 : g5 ≠ g30 := by have := HG6.out.lt; omega
             have low_g30 := Nat.le_trans B_w22.out.size hg
             have owb_w23 := Lib.hid (own_below owb_w22.out hb)
             have er_w23 := Lib.hid (er_w22.out.below hb)
             have g7_w23 := Lib.hid (g7_w22.out.below hb)
             have ge_w23 := Lib.hid (ge_w22.out.below hb)
             have g5_w23 := Lib.hid (HG6.out.below hb)
             have owm_w23 := Lib.hid (own_below HOM2.out hb)
             have B_w23 := Lib.hid (below_trans B_w22.out hb)
             have g30_w23 : Hid (Blk w23 g30 4 #[.bool false]) := hB
             clear hB hb)
          | ((with_reducible refine at_dst (N := 31) rfl ?_); refine ev_app rfl _ _ 46 4 rfl Try.underlying46 _ 1 _ tin4 rfl (by omega) w.heap.size _ _ _ rfl owb_w23.out _ 1 1 [.bool false] rfl (g30_w23.out.sl (by simp)) rfl (by simp [Value.oneCell']) (by omega) (by omega) B_w23.out.size ?_; intro v31_w24 w24 ho1 hg1 hat1
             have er_w24 := Lib.hid (er_w23.out.row owb_w23.out (by decide) hg1)
             have g7_w24 := Lib.hid (g7_w23.out.row hg1 (own_ne owb_w23.out g7_w23.out (by decide)))
             have ge_w24 := Lib.hid (ge_w23.out.row hg1 (own_ne owb_w23.out ge_w23.out (by decide)))
             have g5_w24 := Lib.hid (g5_w23.out.row hg1 (own_ne owb_w23.out g5_w23.out (by decide)))
             have owm_w24 := Lib.hid (own_row owm_w23.out hg1 (own_apart owm_w23.out owb_w23.out (by decide)))
             have B_w24 := Lib.hid (below_row B_w23.out hg1 B_w23.out.size (own_ge owb_w23.out))
             have owb_w24 := Lib.hid ho1
             clear ho1 hg1 hat1))
        refine ⟨⟨k + 1, ps ++ [(xs[k], ge)], A11, c11, _, by omega, by go_num, by simp; omega, by show _ = _; rw [List.map_append, HPS.out, HBS.out]; rfl, by show _ = _; rw [HHS.out, ← HHI.out]; (try rfl), by show World.ownsRow _ _ _ _ _ _ _; rw [HOS.out]; exact owb_w24.out, by show Blk _ _ _ _; rw [List.length_append]; exact g5_w24.out, by show World.ownsRow _ _ _ _ _ _ _; rw [flatC_snoc, List.length_append]; exact owm_w24.out, er_w24.out.snoc low_ge ge_w24.out, B_w24⟩, ?_⟩
        simp [intOf]; omega
    · obtain rfl : k = xs.length := by omega
      rw [List.take_length] at HPS HHI HO
      clear hlt
      go_wp2_with (first
        | ((with_reducible refine at_dst (N := 34) rfl ?_); refine ev_ld rfl 137 _ rfl ⟨g5, 0, none⟩ rfl (.slice A10 ps.length c10) (HG5.out.cell 0) _ Try.underlying137 rfl ?_))
      go_wp2_with fail
      go_loopw [3, 36] (fun v i wx => ∃ j : Nat, j ≤ ps.length ∧ i = .int .i64 j ∧ Hid (wx.ownsRow w.heap.size 9 1 v j (strs ((ps.take j).map fun p => textF p.1))) ∧ Hid (wx.ownsRow w.heap.size 4 1 u2 xs.length (xs.map fun x => Value.bool (okF x))) ∧ Hid (Blk wx g5 139 #[.slice A10 ps.length c10, .int .i64 hh, .string ⟨#[]⟩]) ∧ Hid (wx.ownsRow w.heap.size 143 3 (.slice A10 ps.length c10) ps.length (flatC mC ps)) ∧ Hid (ErrsAt w.heap.size wx ps) ∧ Hid (Below w.heap.size w wx)) (fun _ i _ => ps.length - (intOf i).toNat)
      case atStart => exact ⟨0, Nat.zero_le _, rfl, own_nil _ _ _ _, HO, HG5, HOM, HER, HB⟩
      case round =>
        obtain ⟨j, hj, rfl, HT, HO2, HG2, HM2, HE2, HB2⟩ := hrel
        by_cases hjl : j < ps.length
        · obtain ⟨ad3, rfl, hx3⟩ := (own_rowsT1 HM2.out rfl (by decide) (fun x => rfl) (by omega)).at_ (j := j) (row := mC ps[j]) (by simp [hjl])
          have hm0 : ps[j].1 ∈ xs.filter badF := by rw [← HPS.out]; exact List.mem_map.2 ⟨ps[j], List.getElem_mem hjl, rfl⟩
          obtain ⟨hm1, hm2⟩ := List.mem_filter.1 hm0
          obtain ⟨z1, z2⟩ := HX.out _ hm1
          have hm3 : 0 ≤ ps[j].1.fSeverity ∧ ps[j].1.fSeverity ≤ 3 := by
            rw [badF, Bool.and_eq_true] at hm2
            simpa [sevOk] using hm2.1
          have HC3 : Hid (∀ i u, ([.int .i64 ps[j].1.fSeverity, .string ps[j].1.fPath, .iface 199 (.pointer (some ⟨ps[j].2, 0, none⟩))] : List Value)[i]? = some u → wr.cell? ((ad3.add (j * 3)).add i) = some u) := hx3
          have HZ := Lib.hid (And.intro (And.intro z1 z2) hm3)
          have HTS : Hid (strs ((ps.take (j + 1)).map fun p => textF p.1) = strs ((ps.take j).map fun p => textF p.1) ++ [.string (textF ps[j].1)]) := by
            show _ = _
            rw [List.take_succ_eq_append_getElem hjl, List.map_append]
            simp only [strs, List.map_append, List.map_cons, List.map_nil]
          clear hm0 hm1 hm2 z1 z2 hm3 hx3
          go_wp2_with (first
            | ((with_reducible refine at_dst (N := 39) rfl ?_); refine ev_loadR rfl 143 _ rfl _ rfl [.int .i64 (ps[j].1.fSeverity), .string (ps[j].1.fPath), .iface 199 (.pointer (some ⟨ps[j].2, 0, none⟩))] (HC3.out) _ Try.underlying143 rfl tsz143 ?_)
            | ((with_reducible refine at_dst (N := 10) rfl ?_); refine ev_alloc rfl 143 rfl _ _ tz143 ?_; intro g10 w25 hg hB hb
               have n_g5_g10 : g5 ≠ g10 := by have := HG2.out.lt; omega
               have low_g10 := Nat.le_trans HB2.out.size hg
               have nr_owm_g10 := own_fresh HM2.out hg
               have ot_w25 := Lib.hid (own_below HT.out hb)
               have owb_w25 := Lib.hid (own_below HO2.out hb)
               have g5_w25 := Lib.hid (HG2.out.below hb)
               have owm_w25 := Lib.hid (own_below HM2.out hb)
               have er_w25 := Lib.hid (HE2.out.below hb)
               have B_w25 := Lib.hid (below_trans HB2.out hb)
               have g10_w25 : Hid (Blk w25 g10 143 #[.int .i64 0, .string ⟨#[]⟩, .nilIface]) := hB
               clear hB hb)
            | (refine ev_store rfl 143 _ _ rfl g10 _ _ rfl rfl 143 g10_w25.out tsz143 rfl rfl ?_; intro w26 hB hg hz
               have ot_w26 := Lib.hid (own_grown ot_w25.out hg (own_ne ot_w25.out g10_w25.out (by decide)))
               have owb_w26 := Lib.hid (own_grown owb_w25.out hg (own_ne owb_w25.out g10_w25.out (by decide)))
               have g5_w26 := Lib.hid (g5_w25.out.grown hg n_g5_g10)
               have owm_w26 := Lib.hid (own_grown owm_w25.out hg nr_owm_g10)
               have er_w26 := Lib.hid (er_w25.out.grown g10_w25.out (by decide) hg)
               have B_w26 := Lib.hid (below_grown B_w25.out hg B_w25.out.size low_g10)
               have g10_w26 : Hid (Blk w26 g10 143 #[.int .i64 (ps[j].1.fSeverity), .string (ps[j].1.fPath), .iface 199 (.pointer (some ⟨ps[j].2, 0, none⟩))]) := hB
               clear hB hg hz)
            | ((with_reducible refine at_dst (N := 41) rfl ?_); refine ev_loadB rfl 143 _ rfl g10 rfl 143 _ g10_w26.out _ Try.underlying143 rfl tsz143 ?_)
            | (go_at_call 86; (with_reducible refine (msgErr_any ps[j].1.fSeverity ps[j].1.fPath ps[j].1.fError ps[j].2 _ HZ.out.2.1 HZ.out.2.2 HZ.out.1.1 HZ.out.1.2 (er_w26.out.get (List.getElem_mem hjl))).mono ?_); rintro e w27 ⟨rfl, hb⟩
               have ot_w27 := Lib.hid (own_below ot_w26.out hb)
               have owb_w27 := Lib.hid (own_below owb_w26.out hb)
               have g5_w27 := Lib.hid (g5_w26.out.below hb)
               have owm_w27 := Lib.hid (own_below owm_w26.out hb)
               have er_w27 := Lib.hid (er_w26.out.below hb)
               have g10_w27 := Lib.hid (g10_w26.out.below hb)
               have B_w27 := Lib.hid (below_trans B_w26.out hb)
               clear hb)
            | ((with_reducible refine at_dst (N := 43) rfl ?_); refine ev_bs rfl 22 9 1 _ rfl #[.string (msgF (sevT ps[j].1.fSeverity) ps[j].1.fPath ps[j].1.fError)] (by go_simp) ?_; intro g43 w28 hg hB hb
               have n_g5_g43 : g5 ≠ g43 := by have := g5_w27.out.lt; omega
               have n_g10_g43 : g10 ≠ g43 := by have := g10_w27.out.lt; omega
               have low_g43 := Nat.le_trans B_w27.out.size hg
               have nr_owm_g43 := own_fresh owm_w27.out hg
               have ot_w28 := Lib.hid (own_below ot_w27.out hb)
               have owb_w28 := Lib.hid (own_below owb_w27.out hb)
               have g5_w28 := Lib.hid (g5_w27.out.below hb)
               have owm_w28 := Lib.hid (own_below owm_w27.out hb)
               have er_w28 := Lib.hid (er_w27.out.below hb)
               have g10_w28 := Lib.hid (g10_w27.out.below hb)
               have B_w28 := Lib.hid (below_trans B_w27.out hb)
               have g43_w28 : Hid (Blk w28 g43 9 #[.string (msgF (sevT ps[j].1.fSeverity) ps[j].1.fPath ps[j].1.fError)]) := hB
               clear hB hb)
            | ((with_reducible refine at_dst (N := 44) rfl ?_); refine ev_app rfl _ _ 22 9 rfl Try.underlying22 _ 1 _ tin9 rfl (by omega) w.heap.size _ _ _ rfl ot_w28.out _ 1 1 [.string (msgF (sevT ps[j].1.fSeverity) ps[j].1.fPath ps[j].1.fError)] rfl (g43_w28.out.sl (by simp)) rfl (by simp [Value.oneCell']) (by omega) (by omega) B_w28.out.size ?_; intro v44_w29 w29 ho1 hg1 hat1
               have owb_w29 := Lib.hid (own_row owb_w28.out hg1 (own_apart owb_w28.out ot_w28.out (by decide)))
               have g5_w29 := Lib.hid (g5_w28.out.row hg1 (own_ne ot_w28.out g5_w28.out (by decide)))
               have owm_w29 := Lib.hid (own_row owm_w28.out hg1 (own_apart owm_w28.out ot_w28.out (by decide)))
               have er_w29 := Lib.hid (er_w28.out.row ot_w28.out (by decide) hg1)
               have g10_w29 := Lib.hid (g10_w28.out.row hg1 (own_ne ot_w28.out g10_w28.out (by decide)))
               have B_w29 := Lib.hid (below_row B_w28.out hg1 B_w28.out.size (own_ge ot_w28.out))
               have ot_w29 := Lib.hid ho1
               clear ho1 hg1 hat1))
          refine ⟨⟨j + 1, by omega, by go_num, by show World.ownsRow _ _ _ _ _ _ _; rw [HTS.out]; exact ot_w29.out, owb_w29, g5_w29, owm_w29, er_w29, B_w29⟩, ?_⟩
          simp [intOf]; omega
        · obtain rfl : j = ps.length := by omega
          rw [List.take_length] at HT
          have hle : (xs.filter badF).length = ps.length := by rw [← HPS.out, List.length_map]
          have hte : strs ((xs.filter badF).map textF) = strs (ps.map fun p => textF p.1) := by rw [← HPS.out, List.map_map]; rfl
          have HLE := Lib.hid hle
          have HTE := Lib.hid hte
          clear hle hte
          have q0 : wr.cell? ⟨g5, 1, none⟩ = some (.int .i64 hh) := HG2.out.cell 1
          go_upto_region 15 with fail
          go_region
          go_wp2_with fail
          (try simp only [Exit.inBlock, Exit.then])
          refine bodyPost_ret (v := .tuple #[u2, u3, .int .i64 hh]) (results3 Try.results39 rfl rfl rfl) rfl ?_
          rw [← HHI.out]
          exact ⟨_, _, rfl, HO2.out, by rw [HLE.out, HTE.out]; exact HT.out, HB2.out.drew⟩
end Go.Proofs.Ytdgblfldbikneaa
