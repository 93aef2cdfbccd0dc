/- FnHlLint: the walk. -/
import Derived.Test.YtdgblfldbikneaaL3
import Derived.Test.YtdgblfldbikneaaFz
import Derived.Test.YtdgblfldbikneaaQ1
namespace Go.Proofs.Ytdgblfldbikneaa
open Go.RowKit Go.Lib
set_option linter.unusedVariables false
set_option linter.unusedSimpArgs false
theorem fits37_is (A : Option Addr) (c : Nat) (xs : List Ty65) (b : Bool) (w : World) (h : Rows w A 4 (xs.map Ty65.cells)) (hok : ∀ x ∈ xs, x.ok w) (hb : fits37 xs = b) :
    Calls Try.prog 37 #[.slice A xs.length c] w fun e w' => e = .returned (.bool b) ∧ Below w.heap.size w w' := by
  rw [← hb]; exact fits37_any A c xs w h hok
theorem hlShort2_is (g : Nat) (a b : ByteArray) (r : Bool) (w : World) (h : Blk w g 9 #[.string a, .string b]) (hr : (shortS a && shortS b) = r) :
    Calls Try.prog 38 #[.slice (some ⟨g, 0, none⟩) 2 2] w fun e w' => e = .returned (.bool r) ∧ w = w' := by
  have h2 : Sl w (some ⟨g, 0, none⟩) (strs [a, b]) := h.sl (by simp)
  have h3 := hlShort_any (some ⟨g, 0, none⟩) 2 [a, b] w h2
  have e : shortB [a, b] = r := by rw [← hr]; simp [shortB]
  rw [e] at h3
  exact h3
theorem short_size {s : ByteArray} (h : shortS s = true) : s.size ≤ 100 := by
  rw [shortS, Bool.and_eq_true, decide_eq_true_eq] at h
  exact h.1
theorem hlSame_is (A : Option Addr) (n c : Nat) (B : Option Addr) (d : Nat) (xs : List ByteArray) (w : World) (hn : xs.length = n) (h : Sl w A (strs xs)) (h2 : Sl w B (strs xs)) :
    Calls Try.prog 40 #[.slice A n c, .slice B n d] w fun e w' => e = .returned (.bool true) ∧ Below w.heap.size w w' := by
  subst hn
  have h3 := hlSame_any A c xs B d xs w h h2
  simpa using h3
theorem ev_max {P : Program} {ops : Array Oper} {Q : Exit → Act → World → Prop} {rest : List Oper} {o : Oper} {act : Act} {w : World} (hgd : o.guard = none) (x y : Operand) (ats : Array TypeId) (ho : o.op = .call { callee := .builtin .max, args := #[x, y], argTypes := ats }) (a b : Int) (hx : act.eval x = .int .i64 a) (hy : act.eval y = .int .i64 b)
    (h : wpList P ops Q rest (act.put o.dst (.int .i64 (if a < b then b else a))) w) : wpList P ops Q (o :: rest) act w := by
  refine ev_run hgd (w1 := w) (v := .int .i64 (if a < b then b else a)) ?_ h
  unfold execOp
  simp only [ho, resolve, invoke, builtin, Sem.run_bind, Sem.run_pure, Result.andThen_ok, List.map_toArray, List.map_cons, List.map_nil, hx, hy, Builtin.max_, List.foldlM_cons, List.foldlM_nil, Builtin.max2, gt_iff_lt]
set_option maxRecDepth 100000 in
set_option maxHeartbeats 16000000 in
theorem fnHlLint_walk (A : Option Addr) (c : Nat) (xs : List Ty65) (w : World) (h : Rows w A 4 (xs.map Ty65.cells)) (_hcap : xs.length ≤ c) (hok : ∀ x ∈ xs, x.ok w) :
    Calls Try.prog 10 #[.slice A xs.length c] w fun e w' => e = .returned (.bool true) ∧ Below w.heap.size w w' := by
  have hl : xs.length ≤ 9223372036854775807 := by simpa using h.1
  have H := Lib.hid h
  have HX := Lib.hid hok
  clear h hok
  cases hf1 : fits37 xs
  · skip
    go_enter Try.func10, Try.ntmps10
    go_wp2_with (first
      | (go_at_call 37; (with_reducible refine (fits37_is A c xs false _ H.out HX.out hf1).mono ?_); rintro e w1 ⟨rfl, hb⟩
         have B_w1 := Lib.hid (below_trans (Below.refl _ _) hb)
         clear hb))
    go_ret
    exact ⟨rfl, B_w1.out⟩
  · by_cases h30 : 30 < xs.length
    · have d30 : (30 : Int) < (xs.length : Int) := by omega
      go_enter Try.func10, Try.ntmps10
      go_wp2_with (first
        | (go_at_call 37; (with_reducible refine (fits37_is A c xs true _ H.out HX.out hf1).mono ?_); rintro e w1 ⟨rfl, hb⟩
           have B_w1 := Lib.hid (below_trans (Below.refl _ _) hb)
           clear hb))
      go_ret
      exact ⟨rfl, B_w1.out⟩
    · have d30 : ¬ (30 : Int) < (xs.length : Int) := by omega
      have hn : xs.length ≤ 30 := by omega
      clear h30
      go_enter Try.func10, Try.ntmps10
      go_wp2_with (first
        | (go_at_call 37; (with_reducible refine (fits37_is A c xs true _ H.out HX.out hf1).mono ?_); rintro e w1 ⟨rfl, hb⟩
           have B_w1 := Lib.hid (below_trans (Below.refl _ _) hb)
           clear hb)
        | ((with_reducible refine at_dst (N := 21) rfl ?_); refine ev_bs rfl 22 9 4 _ rfl #[.string ⟨#[85, 78, 75, 78, 79, 87, 78]⟩, .string ⟨#[73, 78, 70, 79]⟩, .string ⟨#[87, 65, 82, 78, 73, 78, 71]⟩, .string ⟨#[69, 82, 82, 79, 82]⟩] (by go_simp) ?_; intro g21 w2 hg hB hb
           have low_g21 := Nat.le_trans B_w1.out.size hg
           have B_w2 := Lib.hid (below_trans B_w1.out hb)
           have g21_w2 : Hid (Blk w2 g21 9 #[.string ⟨#[85, 78, 75, 78, 79, 87, 78]⟩, .string ⟨#[73, 78, 70, 79]⟩, .string ⟨#[87, 65, 82, 78, 73, 78, 71]⟩, .string ⟨#[69, 82, 82, 79, 82]⟩]) := hB
           clear hB hb))
      go_wp2_with fail
      go_loopw [4, 5, 6, 24] (fun v4 v5 v6 i wr => ∃ k : Nat, ∃ hh : Int, k ≤ xs.length ∧ i = .int .i64 k ∧ v6 = .int .i64 hh ∧ v5.ownBlock ≠ some g21 ∧ Hid (hh = highF (xs.take k)) ∧ Hid (wr.ownsRow w.heap.size 4 1 v4 k ((xs.take k).map fun x => Value.bool (okF x))) ∧ Hid (wr.ownsRow w.heap.size 9 1 v5 ((xs.take k).filter badF).length (strs (((xs.take k).filter badF).map textF))) ∧ Hid (Blk wr g21 9 #[.string ⟨#[85, 78, 75, 78, 79, 87, 78]⟩, .string ⟨#[73, 78, 70, 79]⟩, .string ⟨#[87, 65, 82, 78, 73, 78, 71]⟩, .string ⟨#[69, 82, 82, 79, 82]⟩]) ∧ Hid (∀ j, ∀ h : j < xs.length, j < k → xs[j].fPath.size ≤ 100 ∧ xs[j].fError.size ≤ 100) ∧ Hid (Below w.heap.size w wr)) (fun _ _ _ i _ => xs.length - (intOf i).toNat)
      case atStart => exact ⟨0, 0, Nat.zero_le _, rfl, rfl, (by simp [Value.ownBlock]), rfl, own_nil _ _ _ _, own_nil _ _ _ _, g21_w2, (fun j _ h => by omega), B_w2⟩
      case round =>
        clear d30
        obtain ⟨k, hh, hk, rfl, rfl, nr_o5_g21, HHI, HO4, HO5, HG, HSZ, HB⟩ := hrel
        by_cases hlt : k < xs.length
        · obtain ⟨ad, rfl, hx⟩ := (H.out.below HB.out).at_ (j := k) (row := xs[k].cells) (by simp [hlt])
          have HC := Lib.hid hx
          clear hx
          have HBS := Lib.hid (bad_snoc hlt)
          have HHS := Lib.hid (high_snoc hlt)
          have HOS := Lib.hid (oks_snoc hlt)
          cases hsh : (shortS xs[k].fPath && shortS xs[k].fError)
          · clear HBS HHS HOS
            go_wp2_with (first
              | ((with_reducible refine at_dst (N := 27) rfl ?_); refine ev_loadR rfl 65 _ rfl _ rfl [.int .i64 (xs[k].fSeverity), .string (xs[k].fPath), .bool (xs[k].fIs), .string (xs[k].fError)] (HC.out) _ Try.underlying65 rfl tsz65 ?_)
              | ((with_reducible refine at_dst (N := 8) rfl ?_); refine ev_alloc rfl 65 rfl _ _ tz65 ?_; intro g8 w3 hg hB hb
                 have n_g21_g8 : g21 ≠ g8 := by have := HG.out.lt; omega
                 have low_g8 := Nat.le_trans HB.out.size hg
                 have nr_o5_g8 := own_fresh HO5.out hg
                 have o4_w3 := Lib.hid (own_below HO4.out hb)
                 have o5_w3 := Lib.hid (own_below HO5.out hb)
                 have g21_w3 := Lib.hid (HG.out.below hb)
                 have B_w3 := Lib.hid (below_trans HB.out hb)
                 have g8_w3 : Hid (Blk w3 g8 65 #[.int .i64 0, .string ⟨#[]⟩, .bool false, .string ⟨#[]⟩]) := hB
                 clear hB hb)
              | (refine ev_store rfl 65 _ _ rfl g8 _ _ rfl rfl 65 g8_w3.out tsz65 rfl rfl ?_; intro w4 hB hg hz
                 have o4_w4 := Lib.hid (own_grown o4_w3.out hg (own_ne o4_w3.out g8_w3.out (by decide)))
                 have o5_w4 := Lib.hid (own_grown o5_w3.out hg nr_o5_g8)
                 have g21_w4 := Lib.hid (g21_w3.out.grown hg n_g21_g8)
                 have B_w4 := Lib.hid (below_grown B_w3.out hg B_w3.out.size low_g8)
                 have g8_w4 : Hid (Blk w4 g8 65 #[.int .i64 (xs[k].fSeverity), .string (xs[k].fPath), .bool (xs[k].fIs), .string (xs[k].fError)]) := hB
                 clear hB hg hz)
              | ((with_reducible refine at_dst (N := 29) rfl ?_); refine ev_ld rfl 9 _ rfl ⟨g8, 1, none⟩ rfl (.string (xs[k].fPath)) (g8_w4.out.cell 1) _ Try.underlying9 rfl ?_)
              | ((with_reducible refine at_dst (N := 31) rfl ?_); refine ev_ld rfl 9 _ rfl ⟨g8, 3, none⟩ rfl (.string (xs[k].fError)) (g8_w4.out.cell 3) _ Try.underlying9 rfl ?_)
              | ((with_reducible refine at_dst (N := 32) rfl ?_); refine ev_bs rfl 22 9 2 _ rfl #[.string (xs[k].fPath), .string (xs[k].fError)] (by go_simp) ?_; intro g32 w5 hg hB hb
                 have n_g21_g32 : g21 ≠ g32 := by have := g21_w4.out.lt; omega
                 have n_g8_g32 : g8 ≠ g32 := by have := g8_w4.out.lt; omega
                 have low_g32 := Nat.le_trans B_w4.out.size hg
                 have nr_o5_g32 := own_fresh o5_w4.out hg
                 have o4_w5 := Lib.hid (own_below o4_w4.out hb)
                 have o5_w5 := Lib.hid (own_below o5_w4.out hb)
                 have g21_w5 := Lib.hid (g21_w4.out.below hb)
                 have g8_w5 := Lib.hid (g8_w4.out.below hb)
                 have B_w5 := Lib.hid (below_trans B_w4.out hb)
                 have g32_w5 : Hid (Blk w5 g32 9 #[.string (xs[k].fPath), .string (xs[k].fError)]) := hB
                 clear hB hb)
              | (go_at_call 38; (with_reducible refine (hlShort2_is g32 xs[k].fPath xs[k].fError false _ g32_w5.out hsh).mono ?_); rintro e wq ⟨rfl, rfl⟩))
            go_ret
            exact ⟨rfl, B_w5.out⟩
          · have hz1 : xs[k].fPath.size ≤ 100 := short_size (by rw [Bool.and_eq_true] at hsh; exact hsh.1)
            have hz2 : xs[k].fError.size ≤ 100 := short_size (by rw [Bool.and_eq_true] at hsh; exact hsh.2)
            have HSZ2 : Hid (∀ j, ∀ h : j < xs.length, j < k + 1 → xs[j].fPath.size ≤ 100 ∧ xs[j].fError.size ≤ 100) := fun j hj h2 => by
              by_cases e : j = k
              · subst e; exact ⟨hz1, hz2⟩
              · exact HSZ.out j hj (by omega)
            have hcs : xs[k].fSeverity < 0 ∨ 3 < xs[k].fSeverity ∨ (xs[k].fIs = false ∧ 0 ≤ xs[k].fSeverity ∧ xs[k].fSeverity ≤ 3) ∨ (xs[k].fIs = true ∧ xs[k].fSeverity = 0) ∨ (xs[k].fIs = true ∧ xs[k].fSeverity = 1) ∨ (xs[k].fIs = true ∧ xs[k].fSeverity = 2) ∨ (xs[k].fIs = true ∧ xs[k].fSeverity = 3) := by
              cases xs[k].fIs <;> simp <;> omega
            rcases hcs with hsv | hsv | ⟨hi, hsv, hsv2⟩ | ⟨hi, hsv⟩ | ⟨hi, hsv⟩ | ⟨hi, hsv⟩ | ⟨hi, hsv⟩
            · have hso : sevOk xs[k] = false := by simp [sevOk]; omega
              have hbf : badF xs[k] = false := by rw [badF, hso]; rfl
              have hof : okF xs[k] = false := by rw [okF, hso]; rfl
              rw [hbf] at HBS HHS
              rw [hof] at HOS
              have e1 : ¬ (0 ≤ xs[k].fSeverity) := by omega
              clear hso hbf hof
              go_wp2_with (first
                | ((with_reducible refine at_dst (N := 27) rfl ?_); refine ev_loadR rfl 65 _ rfl _ rfl [.int .i64 (xs[k].fSeverity), .string (xs[k].fPath), .bool (xs[k].fIs), .string (xs[k].fError)] (HC.out) _ Try.underlying65 rfl tsz65 ?_)
                | ((with_reducible refine at_dst (N := 8) rfl ?_); refine ev_alloc rfl 65 rfl _ _ tz65 ?_; intro g8 w7 hg hB hb
                   have n_g21_g8 : g21 ≠ g8 := by have := HG.out.lt; omega
                   have low_g8 := Nat.le_trans HB.out.size hg
                   have nr_o5_g8 := own_fresh HO5.out hg
                   have o4_w7 := Lib.hid (own_below HO4.out hb)
                   have o5_w7 := Lib.hid (own_below HO5.out hb)
                   have g21_w7 := Lib.hid (HG.out.below hb)
                   have B_w7 := Lib.hid (below_trans HB.out hb)
                   have g8_w7 : Hid (Blk w7 g8 65 #[.int .i64 0, .string ⟨#[]⟩, .bool false, .string ⟨#[]⟩]) := hB
                   clear hB hb)
                | (refine ev_store rfl 65 _ _ rfl g8 _ _ rfl rfl 65 g8_w7.out tsz65 rfl rfl ?_; intro w8 hB hg hz
                   have o4_w8 := Lib.hid (own_grown o4_w7.out hg (own_ne o4_w7.out g8_w7.out (by decide)))
                   have o5_w8 := Lib.hid (own_grown o5_w7.out hg nr_o5_g8)
                   have g21_w8 := Lib.hid (g21_w7.out.grown hg n_g21_g8)
                   have B_w8 := Lib.hid (below_grown B_w7.out hg B_w7.out.size low_g8)
                   have g8_w8 : Hid (Blk w8 g8 65 #[.int .i64 (xs[k].fSeverity), .string (xs[k].fPath), .bool (xs[k].fIs), .string (xs[k].fError)]) := hB
                   clear hB hg hz)
                | ((with_reducible refine at_dst (N := 29) rfl ?_); refine ev_ld rfl 9 _ rfl ⟨g8, 1, none⟩ rfl (.string (xs[k].fPath)) (g8_w8.out.cell 1) _ Try.underlying9 rfl ?_)
                | ((with_reducible refine at_dst (N := 31) rfl ?_); refine ev_ld rfl 9 _ rfl ⟨g8, 3, none⟩ rfl (.string (xs[k].fError)) (g8_w8.out.cell 3) _ Try.underlying9 rfl ?_)
                | ((with_reducible refine at_dst (N := 32) rfl ?_); refine ev_bs rfl 22 9 2 _ rfl #[.string (xs[k].fPath), .string (xs[k].fError)] (by go_simp) ?_; intro g32 w9 hg hB hb
                   have n_g21_g32 : g21 ≠ g32 := by have := g21_w8.out.lt; omega
                   have n_g8_g32 : g8 ≠ g32 := by have := g8_w8.out.lt; omega
                   have low_g32 := Nat.le_trans B_w8.out.size hg
                   have nr_o5_g32 := own_fresh o5_w8.out hg
                   have o4_w9 := Lib.hid (own_below o4_w8.out hb)
                   have o5_w9 := Lib.hid (own_below o5_w8.out hb)
                   have g21_w9 := Lib.hid (g21_w8.out.below hb)
                   have g8_w9 := Lib.hid (g8_w8.out.below hb)
                   have B_w9 := Lib.hid (below_trans B_w8.out hb)
                   have g32_w9 : Hid (Blk w9 g32 9 #[.string (xs[k].fPath), .string (xs[k].fError)]) := hB
                   clear hB hb)
                | (go_at_call 38; (with_reducible refine (hlShort2_is g32 xs[k].fPath xs[k].fError true _ g32_w9.out hsh).mono ?_); rintro e wq ⟨rfl, rfl⟩)
                | ((with_reducible refine at_dst (N := 36) rfl ?_); refine ev_ld rfl 3 _ rfl ⟨g8, 0, none⟩ rfl (.int .i64 (xs[k].fSeverity)) (g8_w9.out.cell 0) _ Try.underlying3 rfl ?_)
                | ((with_reducible refine at_dst (N := 50) rfl ?_); refine ev_bs rfl 46 4 1 _ rfl #[.bool false] (by go_simp) ?_; intro g50 w11 hg hB hb
                   have n_g21_g50 : g21 ≠ g50 := by have := g21_w9.out.lt; omega
                   have n_g8_g50 : g8 ≠ g50 := by have := g8_w9.out.lt; omega
                   have n_g32_g50 : g32 ≠ g50 := by have := g32_w9.out.lt; omega
                   have low_g50 := Nat.le_trans B_w9.out.size hg
                   have nr_o5_g50 := own_fresh o5_w9.out hg
                   have o4_w11 := Lib.hid (own_below o4_w9.out hb)
                   have o5_w11 := Lib.hid (own_below o5_w9.out hb)
                   have g21_w11 := Lib.hid (g21_w9.out.below hb)
                   have g8_w11 := Lib.hid (g8_w9.out.below hb)
                   have g32_w11 := Lib.hid (g32_w9.out.below hb)
                   have B_w11 := Lib.hid (below_trans B_w9.out hb)
                   have g50_w11 : Hid (Blk w11 g50 4 #[.bool false]) := hB
                   clear hB hb)
                | ((with_reducible refine at_dst (N := 51) rfl ?_); refine ev_app rfl _ _ 46 4 rfl Try.underlying46 _ 1 _ tin4 rfl (by omega) w.heap.size _ _ _ rfl o4_w11.out _ 1 1 [.bool false] rfl (g50_w11.out.sl (by simp)) rfl (by simp [Value.oneCell']) (by omega) (by omega) B_w11.out.size ?_; intro v51_w12 w12 ho1 hg1 hat1
                   have o5_w12 := Lib.hid (own_row o5_w11.out hg1 (own_apart o5_w11.out o4_w11.out (by decide)))
                   have g21_w12 := Lib.hid (g21_w11.out.row hg1 (own_ne o4_w11.out g21_w11.out (by decide)))
                   have g8_w12 := Lib.hid (g8_w11.out.row hg1 (own_ne o4_w11.out g8_w11.out (by decide)))
                   have g32_w12 := Lib.hid (g32_w11.out.row hg1 (own_ne o4_w11.out g32_w11.out (by decide)))
                   have B_w12 := Lib.hid (below_row B_w11.out hg1 B_w11.out.size (own_ge o4_w11.out))
                   have o4_w12 := Lib.hid ho1
                   clear ho1 hg1 hat1))
              refine ⟨⟨k + 1, hh, by omega, by go_num, rfl, nr_o5_g21, by show _ = _; rw [HHS.out, ← HHI.out]; (try rfl), by show World.ownsRow _ _ _ _ _ _ _; rw [HOS.out]; exact o4_w12.out, by show World.ownsRow _ _ _ _ _ _ _; rw [HBS.out]; simpa using o5_w12.out, g21_w12, HSZ2, B_w12⟩, ?_⟩
              simp [intOf]; omega
            · have hso : sevOk xs[k] = false := by simp [sevOk]; omega
              have hbf : badF xs[k] = false := by rw [badF, hso]; rfl
              have hof : okF xs[k] = false := by rw [okF, hso]; rfl
              rw [hbf] at HBS HHS
              rw [hof] at HOS
              have e1 : 0 ≤ xs[k].fSeverity := by omega
              have e2 : ¬ (xs[k].fSeverity ≤ 3) := by omega
              clear hso hbf hof
              go_wp2_with (first
                | ((with_reducible refine at_dst (N := 27) rfl ?_); refine ev_loadR rfl 65 _ rfl _ rfl [.int .i64 (xs[k].fSeverity), .string (xs[k].fPath), .bool (xs[k].fIs), .string (xs[k].fError)] (HC.out) _ Try.underlying65 rfl tsz65 ?_)
                | ((with_reducible refine at_dst (N := 8) rfl ?_); refine ev_alloc rfl 65 rfl _ _ tz65 ?_; intro g8 w13 hg hB hb
                   have n_g21_g8 : g21 ≠ g8 := by have := HG.out.lt; omega
                   have low_g8 := Nat.le_trans HB.out.size hg
                   have nr_o5_g8 := own_fresh HO5.out hg
                   have o4_w13 := Lib.hid (own_below HO4.out hb)
                   have o5_w13 := Lib.hid (own_below HO5.out hb)
                   have g21_w13 := Lib.hid (HG.out.below hb)
                   have B_w13 := Lib.hid (below_trans HB.out hb)
                   have g8_w13 : Hid (Blk w13 g8 65 #[.int .i64 0, .string ⟨#[]⟩, .bool false, .string ⟨#[]⟩]) := hB
                   clear hB hb)
                | (refine ev_store rfl 65 _ _ rfl g8 _ _ rfl rfl 65 g8_w13.out tsz65 rfl rfl ?_; intro w14 hB hg hz
                   have o4_w14 := Lib.hid (own_grown o4_w13.out hg (own_ne o4_w13.out g8_w13.out (by decide)))
                   have o5_w14 := Lib.hid (own_grown o5_w13.out hg nr_o5_g8)
                   have g21_w14 := Lib.hid (g21_w13.out.grown hg n_g21_g8)
                   have B_w14 := Lib.hid (below_grown B_w13.out hg B_w13.out.size low_g8)
                   have g8_w14 : Hid (Blk w14 g8 65 #[.int .i64 (xs[k].fSeverity), .string (xs[k].fPath), .bool (xs[k].fIs), .string (xs[k].fError)]) := hB
                   clear hB hg hz)
                | ((with_reducible refine at_dst (N := 29) rfl ?_); refine ev_ld rfl 9 _ rfl ⟨g8, 1, none⟩ rfl (.string (xs[k].fPath)) (g8_w14.out.cell 1) _ Try.underlying9 rfl ?_)
                | ((with_reducible refine at_dst (N := 31) rfl ?_); refine ev_ld rfl 9 _ rfl ⟨g8, 3, none⟩ rfl (.string (xs[k].fError)) (g8_w14.out.cell 3) _ Try.underlying9 rfl ?_)
                | ((with_reducible refine at_dst (N := 32) rfl ?_); refine ev_bs rfl 22 9 2 _ rfl #[.string (xs[k].fPath), .string (xs[k].fError)] (by go_simp) ?_; intro g32 w15 hg hB hb
                   have n_g21_g32 : g21 ≠ g32 := by have := g21_w14.out.lt; omega
                   have n_g8_g32 : g8 ≠ g32 := by have := g8_w14.out.lt; omega
                   have low_g32 := Nat.le_trans B_w14.out.size hg
                   have nr_o5_g32 := own_fresh o5_w14.out hg
                   have o4_w15 := Lib.hid (own_below o4_w14.out hb)
                   have o5_w15 := Lib.hid (own_below o5_w14.out hb)
                   have g21_w15 := Lib.hid (g21_w14.out.below hb)
                   have g8_w15 := Lib.hid (g8_w14.out.below hb)
                   have B_w15 := Lib.hid (below_trans B_w14.out hb)
                   have g32_w15 : Hid (Blk w15 g32 9 #[.string (xs[k].fPath), .string (xs[k].fError)]) := hB
                   clear hB hb)
                | (go_at_call 38; (with_reducible refine (hlShort2_is g32 xs[k].fPath xs[k].fError true _ g32_w15.out hsh).mono ?_); rintro e wq ⟨rfl, rfl⟩)
                | ((with_reducible refine at_dst (N := 36) rfl ?_); refine ev_ld rfl 3 _ rfl ⟨g8, 0, none⟩ rfl (.int .i64 (xs[k].fSeverity)) (g8_w15.out.cell 0) _ Try.underlying3 rfl ?_)
                | ((with_reducible refine at_dst (N := 40) rfl ?_); refine wl_guard rfl ?_; refine ev_ld rfl 3 _ rfl ⟨g8, 0, none⟩ rfl (.int .i64 (xs[k].fSeverity)) (g8_w15.out.cell 0) _ Try.underlying3 rfl ?_)
                | ((with_reducible refine at_dst (N := 50) rfl ?_); refine ev_bs rfl 46 4 1 _ rfl #[.bool false] (by go_simp) ?_; intro g50 w17 hg hB hb
                   have n_g21_g50 : g21 ≠ g50 := by have := g21_w15.out.lt; omega
                   have n_g8_g50 : g8 ≠ g50 := by have := g8_w15.out.lt; omega
                   have n_g32_g50 : g32 ≠ g50 := by have := g32_w15.out.lt; omega
                   have low_g50 := Nat.le_trans B_w15.out.size hg
                   have nr_o5_g50 := own_fresh o5_w15.out hg
                   have o4_w17 := Lib.hid (own_below o4_w15.out hb)
                   have o5_w17 := Lib.hid (own_below o5_w15.out hb)
                   have g21_w17 := Lib.hid (g21_w15.out.below hb)
                   have g8_w17 := Lib.hid (g8_w15.out.below hb)
                   have g32_w17 := Lib.hid (g32_w15.out.below hb)
                   have B_w17 := Lib.hid (below_trans B_w15.out hb)
                   have g50_w17 : Hid (Blk w17 g50 4 #[.bool false]) := hB
                   clear hB hb)
                | ((with_reducible refine at_dst (N := 51) rfl ?_); refine ev_app rfl _ _ 46 4 rfl Try.underlying46 _ 1 _ tin4 rfl (by omega) w.heap.size _ _ _ rfl o4_w17.out _ 1 1 [.bool false] rfl (g50_w17.out.sl (by simp)) rfl (by simp [Value.oneCell']) (by omega) (by omega) B_w17.out.size ?_; intro v51_w18 w18 ho1 hg1 hat1
                   have o5_w18 := Lib.hid (own_row o5_w17.out hg1 (own_apart o5_w17.out o4_w17.out (by decide)))
                   have g21_w18 := Lib.hid (g21_w17.out.row hg1 (own_ne o4_w17.out g21_w17.out (by decide)))
                   have g8_w18 := Lib.hid (g8_w17.out.row hg1 (own_ne o4_w17.out g8_w17.out (by decide)))
                   have g32_w18 := Lib.hid (g32_w17.out.row hg1 (own_ne o4_w17.out g32_w17.out (by decide)))
                   have B_w18 := Lib.hid (below_row B_w17.out hg1 B_w17.out.size (own_ge o4_w17.out))
                   have o4_w18 := Lib.hid ho1
                   clear ho1 hg1 hat1))
              refine ⟨⟨k + 1, hh, by omega, by go_num, rfl, nr_o5_g21, by show _ = _; rw [HHS.out, ← HHI.out]; (try rfl), by show World.ownsRow _ _ _ _ _ _ _; rw [HOS.out]; exact o4_w18.out, by show World.ownsRow _ _ _ _ _ _ _; rw [HBS.out]; simpa using o5_w18.out, g21_w18, HSZ2, B_w18⟩, ?_⟩
              simp [intOf]; omega
            · have hso : sevOk xs[k] = true := by simp [sevOk]; omega
              have hbf : badF xs[k] = false := by rw [badF, hso, hi]; rfl
              have hof : okF xs[k] = true := by rw [okF, hso, hi]; rfl
              rw [hbf] at HBS HHS
              rw [hof] at HOS
              have HC2 : Hid (∀ i u, ([.int .i64 (xs[k].fSeverity), .string (xs[k].fPath), .bool false, .string (xs[k].fError)] : List Value)[i]? = some u → wr.cell? ((ad.add (k * 4)).add i) = some u) := by
                have h0 := HC.out
                rw [show xs[k].cells = [.int .i64 (xs[k].fSeverity), .string (xs[k].fPath), .bool false, .string (xs[k].fError)] by rw [Ty65.cells, hi]] at h0
                exact h0
              clear hso hbf hof hi
              go_wp2_with (first
                | ((with_reducible refine at_dst (N := 27) rfl ?_); refine ev_loadR rfl 65 _ rfl _ rfl [.int .i64 (xs[k].fSeverity), .string (xs[k].fPath), .bool false, .string (xs[k].fError)] (HC2.out) _ Try.underlying65 rfl tsz65 ?_)
                | ((with_reducible refine at_dst (N := 8) rfl ?_); refine ev_alloc rfl 65 rfl _ _ tz65 ?_; intro g8 w19 hg hB hb
                   have n_g21_g8 : g21 ≠ g8 := by have := HG.out.lt; omega
                   have low_g8 := Nat.le_trans HB.out.size hg
                   have nr_o5_g8 := own_fresh HO5.out hg
                   have o4_w19 := Lib.hid (own_below HO4.out hb)
                   have o5_w19 := Lib.hid (own_below HO5.out hb)
                   have g21_w19 := Lib.hid (HG.out.below hb)
                   have B_w19 := Lib.hid (below_trans HB.out hb)
                   have g8_w19 : Hid (Blk w19 g8 65 #[.int .i64 0, .string ⟨#[]⟩, .bool false, .string ⟨#[]⟩]) := hB
                   clear hB hb)
                | (refine ev_store rfl 65 _ _ rfl g8 _ _ rfl rfl 65 g8_w19.out tsz65 rfl rfl ?_; intro w20 hB hg hz
                   have o4_w20 := Lib.hid (own_grown o4_w19.out hg (own_ne o4_w19.out g8_w19.out (by decide)))
                   have o5_w20 := Lib.hid (own_grown o5_w19.out hg nr_o5_g8)
                   have g21_w20 := Lib.hid (g21_w19.out.grown hg n_g21_g8)
                   have B_w20 := Lib.hid (below_grown B_w19.out hg B_w19.out.size low_g8)
                   have g8_w20 : Hid (Blk w20 g8 65 #[.int .i64 (xs[k].fSeverity), .string (xs[k].fPath), .bool false, .string (xs[k].fError)]) := hB
                   clear hB hg hz)
                | ((with_reducible refine at_dst (N := 29) rfl ?_); refine ev_ld rfl 9 _ rfl ⟨g8, 1, none⟩ rfl (.string (xs[k].fPath)) (g8_w20.out.cell 1) _ Try.underlying9 rfl ?_)
                | ((with_reducible refine at_dst (N := 31) rfl ?_); refine ev_ld rfl 9 _ rfl ⟨g8, 3, none⟩ rfl (.string (xs[k].fError)) (g8_w20.out.cell 3) _ Try.underlying9 rfl ?_)
                | ((with_reducible refine at_dst (N := 32) rfl ?_); refine ev_bs rfl 22 9 2 _ rfl #[.string (xs[k].fPath), .string (xs[k].fError)] (by go_simp) ?_; intro g32 w21 hg hB hb
                   have n_g21_g32 : g21 ≠ g32 := by have := g21_w20.out.lt; omega
                   have n_g8_g32 : g8 ≠ g32 := by have := g8_w20.out.lt; omega
                   have low_g32 := Nat.le_trans B_w20.out.size hg
                   have nr_o5_g32 := own_fresh o5_w20.out hg
                   have o4_w21 := Lib.hid (own_below o4_w20.out hb)
                   have o5_w21 := Lib.hid (own_below o5_w20.out hb)
                   have g21_w21 := Lib.hid (g21_w20.out.below hb)
                   have g8_w21 := Lib.hid (g8_w20.out.below hb)
                   have B_w21 := Lib.hid (below_trans B_w20.out hb)
                   have g32_w21 : Hid (Blk w21 g32 9 #[.string (xs[k].fPath), .string (xs[k].fError)]) := hB
                   clear hB hb)
                | (go_at_call 38; (with_reducible refine (hlShort2_is g32 xs[k].fPath xs[k].fError true _ g32_w21.out hsh).mono ?_); rintro e wq ⟨rfl, rfl⟩)
                | ((with_reducible refine at_dst (N := 36) rfl ?_); refine ev_ld rfl 3 _ rfl ⟨g8, 0, none⟩ rfl (.int .i64 (xs[k].fSeverity)) (g8_w21.out.cell 0) _ Try.underlying3 rfl ?_)
                | ((with_reducible refine at_dst (N := 40) rfl ?_); refine wl_guard rfl ?_; refine ev_ld rfl 3 _ rfl ⟨g8, 0, none⟩ rfl (.int .i64 (xs[k].fSeverity)) (g8_w21.out.cell 0) _ Try.underlying3 rfl ?_)
                | ((with_reducible refine at_dst (N := 47) rfl ?_); refine wl_guard rfl ?_; refine ev_ld rfl 4 _ rfl ⟨g8, 2, none⟩ rfl (.bool false) (g8_w21.out.cell 2) _ Try.underlying4 rfl ?_)
                | ((with_reducible refine at_dst (N := 50) rfl ?_); refine ev_bs rfl 46 4 1 _ rfl #[.bool true] (by go_simp) ?_; intro g50 w23 hg hB hb
                   have n_g21_g50 : g21 ≠ g50 := by have := g21_w21.out.lt; omega
                   have n_g8_g50 : g8 ≠ g50 := by have := g8_w21.out.lt; omega
                   have n_g32_g50 : g32 ≠ g50 := by have := g32_w21.out.lt; omega
                   have low_g50 := Nat.le_trans B_w21.out.size hg
                   have nr_o5_g50 := own_fresh o5_w21.out hg
                   have o4_w23 := Lib.hid (own_below o4_w21.out hb)
                   have o5_w23 := Lib.hid (own_below o5_w21.out hb)
                   have g21_w23 := Lib.hid (g21_w21.out.below hb)
                   have g8_w23 := Lib.hid (g8_w21.out.below hb)
                   have g32_w23 := Lib.hid (g32_w21.out.below hb)
                   have B_w23 := Lib.hid (below_trans B_w21.out hb)
                   have g50_w23 : Hid (Blk w23 g50 4 #[.bool true]) := hB
                   clear hB hb)
                | ((with_reducible refine at_dst (N := 51) rfl ?_); refine ev_app rfl _ _ 46 4 rfl Try.underlying46 _ 1 _ tin4 rfl (by omega) w.heap.size _ _ _ rfl o4_w23.out _ 1 1 [.bool true] rfl (g50_w23.out.sl (by simp)) rfl (by simp [Value.oneCell']) (by omega) (by omega) B_w23.out.size ?_; intro v51_w24 w24 ho1 hg1 hat1
                   have o5_w24 := Lib.hid (own_row o5_w23.out hg1 (own_apart o5_w23.out o4_w23.out (by decide)))
                   have g21_w24 := Lib.hid (g21_w23.out.row hg1 (own_ne o4_w23.out g21_w23.out (by decide)))
                   have g8_w24 := Lib.hid (g8_w23.out.row hg1 (own_ne o4_w23.out g8_w23.out (by decide)))
                   have g32_w24 := Lib.hid (g32_w23.out.row hg1 (own_ne o4_w23.out g32_w23.out (by decide)))
                   have B_w24 := Lib.hid (below_row B_w23.out hg1 B_w23.out.size (own_ge o4_w23.out))
                   have o4_w24 := Lib.hid ho1
                   clear ho1 hg1 hat1)
                | ((with_reducible refine at_dst (N := 55) rfl ?_); refine wl_guard rfl ?_; refine ev_ld rfl 4 _ rfl ⟨g8, 2, none⟩ rfl (.bool false) (g8_w24.out.cell 2) _ Try.underlying4 rfl ?_))
              refine ⟨⟨k + 1, hh, by omega, by go_num, rfl, nr_o5_g21, by show _ = _; rw [HHS.out, ← HHI.out]; (try rfl), by show World.ownsRow _ _ _ _ _ _ _; rw [HOS.out]; exact o4_w24.out, by show World.ownsRow _ _ _ _ _ _ _; rw [HBS.out]; simpa using o5_w24.out, g21_w24, HSZ2, B_w24⟩, ?_⟩
              simp [intOf]; omega
            · have hso : sevOk xs[k] = true := by simp [sevOk, hsv]
              have hbf : badF xs[k] = true := by rw [badF, hso, hi]; rfl
              have hof : okF xs[k] = false := by rw [okF, hso, hi]; rfl
              rw [hbf] at HBS HHS
              rw [hof] at HOS
              have HC2 : Hid (∀ i u, ([.int .i64 0, .string (xs[k].fPath), .bool true, .string (xs[k].fError)] : List Value)[i]? = some u → wr.cell? ((ad.add (k * 4)).add i) = some u) := by
                have h0 := HC.out
                rw [show xs[k].cells = [.int .i64 0, .string (xs[k].fPath), .bool true, .string (xs[k].fError)] by rw [Ty65.cells, hi, hsv]] at h0
                exact h0
              have htx : textF xs[k] = msgF ⟨#[85, 78, 75, 78, 79, 87, 78]⟩ xs[k].fPath xs[k].fError := by rw [textF, hsv]; rfl
              have HT5 : Hid (strs ((((xs.take (k + 1)).filter badF)).map textF) = strs (((xs.take k).filter badF).map textF) ++ [.string (msgF ⟨#[85, 78, 75, 78, 79, 87, 78]⟩ xs[k].fPath xs[k].fError)]) := by
                show _ = _
                rw [HBS.out, if_pos rfl, List.map_append, List.map_cons, htx]
                simp only [strs, List.map_append, List.map_cons, List.map_nil]
              have HL5 : Hid (((xs.take (k + 1)).filter badF).length = ((xs.take k).filter badF).length + 1) := by
                show _ = _
                rw [HBS.out, if_pos rfl, List.length_append]; rfl
              rw [hsv] at HHS
              have hfl : ((xs.take k).filter badF).length ≤ k := by
                have h1 := List.length_filter_le badF (xs.take k)
                have h2 := List.length_take_le k xs
                omega
              clear htx
              clear hso hbf hof hi hsv
              go_upto_region 17 with (first
                | ((with_reducible refine at_dst (N := 27) rfl ?_); refine ev_loadR rfl 65 _ rfl _ rfl [.int .i64 0, .string (xs[k].fPath), .bool true, .string (xs[k].fError)] (HC2.out) _ Try.underlying65 rfl tsz65 ?_)
                | ((with_reducible refine at_dst (N := 8) rfl ?_); refine ev_alloc rfl 65 rfl _ _ tz65 ?_; intro g8 w25 hg hB hb
                   have n_g21_g8 : g21 ≠ g8 := by have := HG.out.lt; omega
                   have low_g8 := Nat.le_trans HB.out.size hg
                   have nr_o5_g8 := own_fresh HO5.out hg
                   have o4_w25 := Lib.hid (own_below HO4.out hb)
                   have o5_w25 := Lib.hid (own_below HO5.out hb)
                   have g21_w25 := Lib.hid (HG.out.below hb)
                   have B_w25 := Lib.hid (below_trans HB.out hb)
                   have g8_w25 : Hid (Blk w25 g8 65 #[.int .i64 0, .string ⟨#[]⟩, .bool false, .string ⟨#[]⟩]) := hB
                   clear hB hb)
                | (refine ev_store rfl 65 _ _ rfl g8 _ _ rfl rfl 65 g8_w25.out tsz65 rfl rfl ?_; intro w26 hB hg hz
                   have o4_w26 := Lib.hid (own_grown o4_w25.out hg (own_ne o4_w25.out g8_w25.out (by decide)))
                   have o5_w26 := Lib.hid (own_grown o5_w25.out hg nr_o5_g8)
                   have g21_w26 := Lib.hid (g21_w25.out.grown hg n_g21_g8)
                   have B_w26 := Lib.hid (below_grown B_w25.out hg B_w25.out.size low_g8)
                   have g8_w26 : Hid (Blk w26 g8 65 #[.int .i64 0, .string (xs[k].fPath), .bool true, .string (xs[k].fError)]) := hB
                   clear hB hg hz)
                | ((with_reducible refine at_dst (N := 29) rfl ?_); refine ev_ld rfl 9 _ rfl ⟨g8, 1, none⟩ rfl (.string (xs[k].fPath)) (g8_w26.out.cell 1) _ Try.underlying9 rfl ?_)
                | ((with_reducible refine at_dst (N := 31) rfl ?_); refine ev_ld rfl 9 _ rfl ⟨g8, 3, none⟩ rfl (.string (xs[k].fError)) (g8_w26.out.cell 3) _ Try.underlying9 rfl ?_)
                | ((with_reducible refine at_dst (N := 32) rfl ?_); refine ev_bs rfl 22 9 2 _ rfl #[.string (xs[k].fPath), .string (xs[k].fError)] (by go_simp) ?_; intro g32 w27 hg hB hb
                   have n_g21_g32 : g21 ≠ g32 := by have := g21_w26.out.lt; omega
                   have n_g8_g32 : g8 ≠ g32 := by have := g8_w26.out.lt; omega
                   have low_g32 := Nat.le_trans B_w26.out.size hg
                   have nr_o5_g32 := own_fresh o5_w26.out hg
                   have o4_w27 := Lib.hid (own_below o4_w26.out hb)
                   have o5_w27 := Lib.hid (own_below o5_w26.out hb)
                   have g21_w27 := Lib.hid (g21_w26.out.below hb)
                   have g8_w27 := Lib.hid (g8_w26.out.below hb)
                   have B_w27 := Lib.hid (below_trans B_w26.out hb)
                   have g32_w27 : Hid (Blk w27 g32 9 #[.string (xs[k].fPath), .string (xs[k].fError)]) := hB
                   clear hB hb)
                | (go_at_call 38; (with_reducible refine (hlShort2_is g32 xs[k].fPath xs[k].fError true _ g32_w27.out hsh).mono ?_); rintro e wq ⟨rfl, rfl⟩)
                | ((with_reducible refine at_dst (N := 36) rfl ?_); refine ev_ld rfl 3 _ rfl ⟨g8, 0, none⟩ rfl (.int .i64 0) (g8_w27.out.cell 0) _ Try.underlying3 rfl ?_)
                | ((with_reducible refine at_dst (N := 40) rfl ?_); refine wl_guard rfl ?_; refine ev_ld rfl 3 _ rfl ⟨g8, 0, none⟩ rfl (.int .i64 0) (g8_w27.out.cell 0) _ Try.underlying3 rfl ?_)
                | ((with_reducible refine at_dst (N := 47) rfl ?_); refine wl_guard rfl ?_; refine ev_ld rfl 4 _ rfl ⟨g8, 2, none⟩ rfl (.bool true) (g8_w27.out.cell 2) _ Try.underlying4 rfl ?_)
                | ((with_reducible refine at_dst (N := 50) rfl ?_); refine ev_bs rfl 46 4 1 _ rfl #[.bool false] (by go_simp) ?_; intro g50 w29 hg hB hb
                   have n_g21_g50 : g21 ≠ g50 := by have := g21_w27.out.lt; omega
                   have n_g8_g50 : g8 ≠ g50 := by have := g8_w27.out.lt; omega
                   have n_g32_g50 : g32 ≠ g50 := by have := g32_w27.out.lt; omega
                   have low_g50 := Nat.le_trans B_w27.out.size hg
                   have nr_o5_g50 := own_fresh o5_w27.out hg
                   have o4_w29 := Lib.hid (own_below o4_w27.out hb)
                   have o5_w29 := Lib.hid (own_below o5_w27.out hb)
                   have g21_w29 := Lib.hid (g21_w27.out.below hb)
                   have g8_w29 := Lib.hid (g8_w27.out.below hb)
                   have g32_w29 := Lib.hid (g32_w27.out.below hb)
                   have B_w29 := Lib.hid (below_trans B_w27.out hb)
                   have g50_w29 : Hid (Blk w29 g50 4 #[.bool false]) := hB
                   clear hB hb)
                | ((with_reducible refine at_dst (N := 51) rfl ?_); refine ev_app rfl _ _ 46 4 rfl Try.underlying46 _ 1 _ tin4 rfl (by omega) w.heap.size _ _ _ rfl o4_w29.out _ 1 1 [.bool false] rfl (g50_w29.out.sl (by simp)) rfl (by simp [Value.oneCell']) (by omega) (by omega) B_w29.out.size ?_; intro v51_w30 w30 ho1 hg1 hat1
                   have o5_w30 := Lib.hid (own_row o5_w29.out hg1 (own_apart o5_w29.out o4_w29.out (by decide)))
                   have g21_w30 := Lib.hid (g21_w29.out.row hg1 (own_ne o4_w29.out g21_w29.out (by decide)))
                   have g8_w30 := Lib.hid (g8_w29.out.row hg1 (own_ne o4_w29.out g8_w29.out (by decide)))
                   have g32_w30 := Lib.hid (g32_w29.out.row hg1 (own_ne o4_w29.out g32_w29.out (by decide)))
                   have B_w30 := Lib.hid (below_row B_w29.out hg1 B_w29.out.size (own_ge o4_w29.out))
                   have o4_w30 := Lib.hid ho1
                   clear ho1 hg1 hat1)
                | ((with_reducible refine at_dst (N := 55) rfl ?_); refine wl_guard rfl ?_; refine ev_ld rfl 4 _ rfl ⟨g8, 2, none⟩ rfl (.bool true) (g8_w30.out.cell 2) _ Try.underlying4 rfl ?_))
              refine wp_region_grow [some [], some [], some [], some [(2, 59)], some [(1, 58), (3, 60)], some [(4, 61)], some [(5, 62)], some [(6, 63)], some [], some [(8, 65)], some [(7, 64), (9, 66)], some [(10, 67)], some [], some [(12, 69)], some [(11, 68), (13, 70)], some [(14, 71)], none, none]
                  [fun vv _ => vv = u5,
                   fun vv _ => vv = .slice (some ⟨g21, 0, none⟩) 4 4,
                   fun vv _ => vv = .pointer (some ⟨g8, 0, none⟩),
                   fun vv _ => vv = .int .i64 0,
                   fun vv _ => vv = .pointer (some ⟨g21, 0, none⟩),
                   fun vv _ => vv = .string ⟨#[85, 78, 75, 78, 79, 87, 78]⟩,
                   fun vv _ => vv = .string (⟨#[91]⟩ ++ ⟨#[85, 78, 75, 78, 79, 87, 78]⟩),
                   fun vv _ => vv = .string (⟨#[91]⟩ ++ ⟨#[85, 78, 75, 78, 79, 87, 78]⟩ ++ ⟨#[93, 32]⟩),
                   fun vv _ => vv = .pointer (some ⟨g8, 1, none⟩),
                   fun vv _ => vv = .string (xs[k].fPath),
                   fun vv _ => vv = .string (⟨#[91]⟩ ++ ⟨#[85, 78, 75, 78, 79, 87, 78]⟩ ++ ⟨#[93, 32]⟩ ++ xs[k].fPath),
                   fun vv _ => vv = .string (⟨#[91]⟩ ++ ⟨#[85, 78, 75, 78, 79, 87, 78]⟩ ++ ⟨#[93, 32]⟩ ++ xs[k].fPath ++ ⟨#[58, 32]⟩),
                   fun vv _ => vv = .pointer (some ⟨g8, 3, none⟩),
                   fun vv _ => vv = .string (xs[k].fError),
                   fun vv _ => vv = .string (msgF ⟨#[85, 78, 75, 78, 79, 87, 78]⟩ xs[k].fPath xs[k].fError),
                   fun v w' => ∃ g, v = .slice (some ⟨g, 0, none⟩) 1 1 ∧ w30.heap.size ≤ g ∧ Blk w' g 9 #[.string (msgF ⟨#[85, 78, 75, 78, 79, 87, 78]⟩ xs[k].fPath xs[k].fError)],
                   fun _ _ => True,
                   fun _ _ => True] 115 (by kernel_rfl) rfl rfl (by kernel_rfl) ?_ ?_ ?_
              · intro p hp
                simp only [List.mem_cons, List.not_mem_nil, or_false] at hp
                rcases hp with rfl | rfl | rfl | rfl | rfl | rfl | rfl | rfl | rfl | rfl | rfl | rfl | rfl | rfl | rfl | rfl | rfl | rfl
                · exact stab_eq _
                · exact stab_eq _
                · exact stab_eq _
                · exact stab_eq _
                · exact stab_eq _
                · exact stab_eq _
                · exact stab_eq _
                · exact stab_eq _
                · exact stab_eq _
                · exact stab_eq _
                · exact stab_eq _
                · exact stab_eq _
                · exact stab_eq _
                · exact stab_eq _
                · exact stab_eq _
                · exact stab_blk (F := fun g => .slice (some ⟨g, 0, none⟩) 1 1)
                · exact stab_true
                · exact stab_true
              · simp only [oblGo, obl1, withDeps, oblK, postAt, List.getD_cons_zero, List.getD_cons_succ, forall_eq]
                refine ⟨?_, ?_, ?_, ?_, ?_, ?_, ?_, ?_, ?_, ?_, ?_, ?_, ?_, ?_, ?_, ?_, trivial⟩
                · intro wg hg
                  go_simp
                · intro wg hg
                  go_simp
                · intro wg hg
                  go_simp
                · intro wg hg
                  exact gr_ld 3 _ rfl ⟨g8, 0, none⟩ rfl (.int .i64 0) ((g8_w30.out.below hg).cell 0) _ Try.underlying3 rfl rfl
                · intro wg hg
                  go_simp
                · intro wg hg
                  exact gr_ld 9 _ rfl ⟨g21, 0, none⟩ rfl (.string ⟨#[85, 78, 75, 78, 79, 87, 78]⟩) ((g21_w30.out.below hg).cell 0) _ Try.underlying9 rfl rfl
                · intro wg hg
                  go_simp
                  first | done | (rw [if_neg (by (try simp only [ByteArray.size_append] at *); omega)]; go_simp)
                · intro wg hg
                  go_simp
                  first | done | (rw [if_neg (by (try simp only [ByteArray.size_append] at *); omega)]; go_simp)
                · intro wg hg
                  go_simp
                · intro wg hg
                  exact gr_ld 9 _ rfl ⟨g8, 1, none⟩ rfl (.string (xs[k].fPath)) ((g8_w30.out.below hg).cell 1) _ Try.underlying9 rfl rfl
                · intro wg hg
                  go_simp
                  first | done | (rw [if_neg (by (try simp only [ByteArray.size_append] at *); omega)]; go_simp)
                · intro wg hg
                  go_simp
                  first | done | (rw [if_neg (by (try simp only [ByteArray.size_append] at *); omega)]; go_simp)
                · intro wg hg
                  go_simp
                · intro wg hg
                  exact gr_ld 9 _ rfl ⟨g8, 3, none⟩ rfl (.string (xs[k].fError)) ((g8_w30.out.below hg).cell 3) _ Try.underlying9 rfl rfl
                · intro wg hg
                  go_simp
                  first | done | rfl | (rw [if_neg (by (try simp only [ByteArray.size_append] at *); omega)]; (try go_simp); (try rfl))
                · intro wg hg
                  exact gr_bs 9 1 #[.string (msgF ⟨#[85, 78, 75, 78, 79, 87, 78]⟩ xs[k].fPath xs[k].fError)] (by go_simp) fun g w1 hg1 hB hb => ⟨g, rfl, Nat.le_trans hg.bel.size hg1, hB⟩
              simp only [headDs, withDeps, postAt, List.getD_cons_zero, List.getD_cons_succ, forall_eq, tailOps]
              intro w31 hgr
              rintro _ ⟨g72, rfl, lo_g72, hB_g72⟩
              simp only [Act.put, List.setIfInBounds_toArray, List.set_cons_succ, List.set_cons_zero]
              have n_g21_g72 : g21 ≠ g72 := by have := g21_w30.out.lt; omega
              have n_g8_g72 : g8 ≠ g72 := by have := g8_w30.out.lt; omega
              have n_g32_g72 : g32 ≠ g72 := by have := g32_w30.out.lt; omega
              have low_g72 := Nat.le_trans B_w30.out.size lo_g72
              have o4_w31 := Lib.hid (own_below o4_w30.out (show Below _ _ _ from hgr))
              have o5_w31 := Lib.hid (own_below o5_w30.out (show Below _ _ _ from hgr))
              have g21_w31 := Lib.hid (g21_w30.out.below (show Below _ _ _ from hgr))
              have g8_w31 := Lib.hid (g8_w30.out.below (show Below _ _ _ from hgr))
              have g32_w31 := Lib.hid (g32_w30.out.below (show Below _ _ _ from hgr))
              have B_w31 := Lib.hid (below_trans B_w30.out (show Below _ _ _ from hgr))
              have g72_w31 : Hid (Blk w31 g72 9 #[.string (msgF ⟨#[85, 78, 75, 78, 79, 87, 78]⟩ xs[k].fPath xs[k].fError)]) := hB_g72
              clear hB_g72 lo_g72
              clear hgr
              go_wp2_with (first
                | ((with_reducible refine at_dst (N := 73) rfl ?_); refine ev_app rfl _ _ 22 9 rfl Try.underlying22 _ 1 _ tin9 rfl (by omega) w.heap.size _ _ _ rfl o5_w31.out _ 1 1 [.string (msgF ⟨#[85, 78, 75, 78, 79, 87, 78]⟩ xs[k].fPath xs[k].fError)] rfl (g72_w31.out.sl (by simp)) rfl (by simp [Value.oneCell']) (by omega) (by omega) B_w31.out.size ?_; intro v73_w32 w32 ho1 hg1 hat1
                   have o4_w32 := Lib.hid (own_row o4_w31.out hg1 (own_apart o4_w31.out o5_w31.out (by decide)))
                   have g21_w32 := Lib.hid (g21_w31.out.row hg1 nr_o5_g21)
                   have g8_w32 := Lib.hid (g8_w31.out.row hg1 nr_o5_g8)
                   have g32_w32 := Lib.hid (g32_w31.out.row hg1 nr_o5_g32)
                   have B_w32 := Lib.hid (below_row B_w31.out hg1 B_w31.out.size (own_ge o5_w31.out))
                   have o5_w32 := Lib.hid ho1
                   have nr_o5_g21 : (v73_w32 : Value).ownBlock ≠ some g21 := fun e0 => by rcases hat1 with e1 | e1; exact nr_o5_g21 (e1 ▸ e0); (rw [e1] at e0; injection e0 with e0; have := g21_w31.out.lt; omega)
                   clear ho1 hg1 hat1)
                | ((with_reducible refine at_dst (N := 76) rfl ?_); refine ev_ld rfl 3 _ rfl ⟨g8, 0, none⟩ rfl (.int .i64 0) (g8_w32.out.cell 0) _ Try.underlying3 rfl ?_)
                | ((with_reducible refine at_dst (N := 77) rfl ?_); refine ev_max rfl _ _ _ rfl hh (0) rfl rfl ?_))
              refine ⟨⟨k + 1, _, by omega, by go_num, rfl, nr_o5_g21, by show _ = _; rw [HHS.out, ← HHI.out]; (try rfl), by show World.ownsRow _ _ _ _ _ _ _; rw [HOS.out]; exact o4_w32.out, by show World.ownsRow _ _ _ _ _ _ _; rw [HT5.out, HL5.out]; exact o5_w32.out, g21_w32, HSZ2, B_w32⟩, ?_⟩
              simp [intOf]; omega
            · have hso : sevOk xs[k] = true := by simp [sevOk, hsv]
              have hbf : badF xs[k] = true := by rw [badF, hso, hi]; rfl
              have hof : okF xs[k] = false := by rw [okF, hso, hi]; rfl
              rw [hbf] at HBS HHS
              rw [hof] at HOS
              have HC2 : Hid (∀ i u, ([.int .i64 1, .string (xs[k].fPath), .bool true, .string (xs[k].fError)] : List Value)[i]? = some u → wr.cell? ((ad.add (k * 4)).add i) = some u) := by
                have h0 := HC.out
                rw [show xs[k].cells = [.int .i64 1, .string (xs[k].fPath), .bool true, .string (xs[k].fError)] by rw [Ty65.cells, hi, hsv]] at h0
                exact h0
              have htx : textF xs[k] = msgF ⟨#[73, 78, 70, 79]⟩ xs[k].fPath xs[k].fError := by rw [textF, hsv]; rfl
              have HT5 : Hid (strs ((((xs.take (k + 1)).filter badF)).map textF) = strs (((xs.take k).filter badF).map textF) ++ [.string (msgF ⟨#[73, 78, 70, 79]⟩ xs[k].fPath xs[k].fError)]) := by
                show _ = _
                rw [HBS.out, if_pos rfl, List.map_append, List.map_cons, htx]
                simp only [strs, List.map_append, List.map_cons, List.map_nil]
              have HL5 : Hid (((xs.take (k + 1)).filter badF).length = ((xs.take k).filter badF).length + 1) := by
                show _ = _
                rw [HBS.out, if_pos rfl, List.length_append]; rfl
              rw [hsv] at HHS
              have hfl : ((xs.take k).filter badF).length ≤ k := by
                have h1 := List.length_filter_le badF (xs.take k)
                have h2 := List.length_take_le k xs
                omega
              clear htx
              clear hso hbf hof hi hsv
              go_upto_region 17 with (first
                | ((with_reducible refine at_dst (N := 27) rfl ?_); refine ev_loadR rfl 65 _ rfl _ rfl [.int .i64 1, .string (xs[k].fPath), .bool true, .string (xs[k].fError)] (HC2.out) _ Try.underlying65 rfl tsz65 ?_)
                | ((with_reducible refine at_dst (N := 8) rfl ?_); refine ev_alloc rfl 65 rfl _ _ tz65 ?_; intro g8 w34 hg hB hb
                   have n_g21_g8 : g21 ≠ g8 := by have := HG.out.lt; omega
                   have low_g8 := Nat.le_trans HB.out.size hg
                   have nr_o5_g8 := own_fresh HO5.out hg
                   have o4_w34 := Lib.hid (own_below HO4.out hb)
                   have o5_w34 := Lib.hid (own_below HO5.out hb)
                   have g21_w34 := Lib.hid (HG.out.below hb)
                   have B_w34 := Lib.hid (below_trans HB.out hb)
                   have g8_w34 : Hid (Blk w34 g8 65 #[.int .i64 0, .string ⟨#[]⟩, .bool false, .string ⟨#[]⟩]) := hB
                   clear hB hb)
                | (refine ev_store rfl 65 _ _ rfl g8 _ _ rfl rfl 65 g8_w34.out tsz65 rfl rfl ?_; intro w35 hB hg hz
                   have o4_w35 := Lib.hid (own_grown o4_w34.out hg (own_ne o4_w34.out g8_w34.out (by decide)))
                   have o5_w35 := Lib.hid (own_grown o5_w34.out hg nr_o5_g8)
                   have g21_w35 := Lib.hid (g21_w34.out.grown hg n_g21_g8)
                   have B_w35 := Lib.hid (below_grown B_w34.out hg B_w34.out.size low_g8)
                   have g8_w35 : Hid (Blk w35 g8 65 #[.int .i64 1, .string (xs[k].fPath), .bool true, .string (xs[k].fError)]) := hB
                   clear hB hg hz)
                | ((with_reducible refine at_dst (N := 29) rfl ?_); refine ev_ld rfl 9 _ rfl ⟨g8, 1, none⟩ rfl (.string (xs[k].fPath)) (g8_w35.out.cell 1) _ Try.underlying9 rfl ?_)
                | ((with_reducible refine at_dst (N := 31) rfl ?_); refine ev_ld rfl 9 _ rfl ⟨g8, 3, none⟩ rfl (.string (xs[k].fError)) (g8_w35.out.cell 3) _ Try.underlying9 rfl ?_)
                | ((with_reducible refine at_dst (N := 32) rfl ?_); refine ev_bs rfl 22 9 2 _ rfl #[.string (xs[k].fPath), .string (xs[k].fError)] (by go_simp) ?_; intro g32 w36 hg hB hb
                   have n_g21_g32 : g21 ≠ g32 := by have := g21_w35.out.lt; omega
                   have n_g8_g32 : g8 ≠ g32 := by have := g8_w35.out.lt; omega
                   have low_g32 := Nat.le_trans B_w35.out.size hg
                   have nr_o5_g32 := own_fresh o5_w35.out hg
                   have o4_w36 := Lib.hid (own_below o4_w35.out hb)
                   have o5_w36 := Lib.hid (own_below o5_w35.out hb)
                   have g21_w36 := Lib.hid (g21_w35.out.below hb)
                   have g8_w36 := Lib.hid (g8_w35.out.below hb)
                   have B_w36 := Lib.hid (below_trans B_w35.out hb)
                   have g32_w36 : Hid (Blk w36 g32 9 #[.string (xs[k].fPath), .string (xs[k].fError)]) := hB
                   clear hB hb)
                | (go_at_call 38; (with_reducible refine (hlShort2_is g32 xs[k].fPath xs[k].fError true _ g32_w36.out hsh).mono ?_); rintro e wq ⟨rfl, rfl⟩)
                | ((with_reducible refine at_dst (N := 36) rfl ?_); refine ev_ld rfl 3 _ rfl ⟨g8, 0, none⟩ rfl (.int .i64 1) (g8_w36.out.cell 0) _ Try.underlying3 rfl ?_)
                | ((with_reducible refine at_dst (N := 40) rfl ?_); refine wl_guard rfl ?_; refine ev_ld rfl 3 _ rfl ⟨g8, 0, none⟩ rfl (.int .i64 1) (g8_w36.out.cell 0) _ Try.underlying3 rfl ?_)
                | ((with_reducible refine at_dst (N := 47) rfl ?_); refine wl_guard rfl ?_; refine ev_ld rfl 4 _ rfl ⟨g8, 2, none⟩ rfl (.bool true) (g8_w36.out.cell 2) _ Try.underlying4 rfl ?_)
                | ((with_reducible refine at_dst (N := 50) rfl ?_); refine ev_bs rfl 46 4 1 _ rfl #[.bool false] (by go_simp) ?_; intro g50 w38 hg hB hb
                   have n_g21_g50 : g21 ≠ g50 := by have := g21_w36.out.lt; omega
                   have n_g8_g50 : g8 ≠ g50 := by have := g8_w36.out.lt; omega
                   have n_g32_g50 : g32 ≠ g50 := by have := g32_w36.out.lt; omega
                   have low_g50 := Nat.le_trans B_w36.out.size hg
                   have nr_o5_g50 := own_fresh o5_w36.out hg
                   have o4_w38 := Lib.hid (own_below o4_w36.out hb)
                   have o5_w38 := Lib.hid (own_below o5_w36.out hb)
                   have g21_w38 := Lib.hid (g21_w36.out.below hb)
                   have g8_w38 := Lib.hid (g8_w36.out.below hb)
                   have g32_w38 := Lib.hid (g32_w36.out.below hb)
                   have B_w38 := Lib.hid (below_trans B_w36.out hb)
                   have g50_w38 : Hid (Blk w38 g50 4 #[.bool false]) := hB
                   clear hB hb)
                | ((with_reducible refine at_dst (N := 51) rfl ?_); refine ev_app rfl _ _ 46 4 rfl Try.underlying46 _ 1 _ tin4 rfl (by omega) w.heap.size _ _ _ rfl o4_w38.out _ 1 1 [.bool false] rfl (g50_w38.out.sl (by simp)) rfl (by simp [Value.oneCell']) (by omega) (by omega) B_w38.out.size ?_; intro v51_w39 w39 ho1 hg1 hat1
                   have o5_w39 := Lib.hid (own_row o5_w38.out hg1 (own_apart o5_w38.out o4_w38.out (by decide)))
                   have g21_w39 := Lib.hid (g21_w38.out.row hg1 (own_ne o4_w38.out g21_w38.out (by decide)))
                   have g8_w39 := Lib.hid (g8_w38.out.row hg1 (own_ne o4_w38.out g8_w38.out (by decide)))
                   have g32_w39 := Lib.hid (g32_w38.out.row hg1 (own_ne o4_w38.out g32_w38.out (by decide)))
                   have B_w39 := Lib.hid (below_row B_w38.out hg1 B_w38.out.size (own_ge o4_w38.out))
                   have o4_w39 := Lib.hid ho1
                   clear ho1 hg1 hat1)
                | ((with_reducible refine at_dst (N := 55) rfl ?_); refine wl_guard rfl ?_; refine ev_ld rfl 4 _ rfl ⟨g8, 2, none⟩ rfl (.bool true) (g8_w39.out.cell 2) _ Try.underlying4 rfl ?_))
              refine wp_region_grow [some [], some [], some [], some [(2, 59)], some [(1, 58), (3, 60)], some [(4, 61)], some [(5, 62)], some [(6, 63)], some [], some [(8, 65)], some [(7, 64), (9, 66)], some [(10, 67)], some [], some [(12, 69)], some [(11, 68), (13, 70)], some [(14, 71)], none, none]
                  [fun vv _ => vv = u5,
                   fun vv _ => vv = .slice (some ⟨g21, 0, none⟩) 4 4,
                   fun vv _ => vv = .pointer (some ⟨g8, 0, none⟩),
                   fun vv _ => vv = .int .i64 1,
                   fun vv _ => vv = .pointer (some ⟨g21, 1, none⟩),
                   fun vv _ => vv = .string ⟨#[73, 78, 70, 79]⟩,
                   fun vv _ => vv = .string (⟨#[91]⟩ ++ ⟨#[73, 78, 70, 79]⟩),
                   fun vv _ => vv = .string (⟨#[91]⟩ ++ ⟨#[73, 78, 70, 79]⟩ ++ ⟨#[93, 32]⟩),
                   fun vv _ => vv = .pointer (some ⟨g8, 1, none⟩),
                   fun vv _ => vv = .string (xs[k].fPath),
                   fun vv _ => vv = .string (⟨#[91]⟩ ++ ⟨#[73, 78, 70, 79]⟩ ++ ⟨#[93, 32]⟩ ++ xs[k].fPath),
                   fun vv _ => vv = .string (⟨#[91]⟩ ++ ⟨#[73, 78, 70, 79]⟩ ++ ⟨#[93, 32]⟩ ++ xs[k].fPath ++ ⟨#[58, 32]⟩),
                   fun vv _ => vv = .pointer (some ⟨g8, 3, none⟩),
                   fun vv _ => vv = .string (xs[k].fError),
                   fun vv _ => vv = .string (msgF ⟨#[73, 78, 70, 79]⟩ xs[k].fPath xs[k].fError),
                   fun v w' => ∃ g, v = .slice (some ⟨g, 0, none⟩) 1 1 ∧ w39.heap.size ≤ g ∧ Blk w' g 9 #[.string (msgF ⟨#[73, 78, 70, 79]⟩ xs[k].fPath xs[k].fError)],
                   fun _ _ => True,
                   fun _ _ => True] 115 (by kernel_rfl) rfl rfl (by kernel_rfl) ?_ ?_ ?_
              · intro p hp
                simp only [List.mem_cons, List.not_mem_nil, or_false] at hp
                rcases hp with rfl | rfl | rfl | rfl | rfl | rfl | rfl | rfl | rfl | rfl | rfl | rfl | rfl | rfl | rfl | rfl | rfl | rfl
                · exact stab_eq _
                · exact stab_eq _
                · exact stab_eq _
                · exact stab_eq _
                · exact stab_eq _
                · exact stab_eq _
                · exact stab_eq _
                · exact stab_eq _
                · exact stab_eq _
                · exact stab_eq _
                · exact stab_eq _
                · exact stab_eq _
                · exact stab_eq _
                · exact stab_eq _
                · exact stab_eq _
                · exact stab_blk (F := fun g => .slice (some ⟨g, 0, none⟩) 1 1)
                · exact stab_true
                · exact stab_true
              · simp only [oblGo, obl1, withDeps, oblK, postAt, List.getD_cons_zero, List.getD_cons_succ, forall_eq]
                refine ⟨?_, ?_, ?_, ?_, ?_, ?_, ?_, ?_, ?_, ?_, ?_, ?_, ?_, ?_, ?_, ?_, trivial⟩
                · intro wg hg
                  go_simp
                · intro wg hg
                  go_simp
                · intro wg hg
                  go_simp
                · intro wg hg
                  exact gr_ld 3 _ rfl ⟨g8, 0, none⟩ rfl (.int .i64 1) ((g8_w39.out.below hg).cell 0) _ Try.underlying3 rfl rfl
                · intro wg hg
                  go_simp
                · intro wg hg
                  exact gr_ld 9 _ rfl ⟨g21, 1, none⟩ rfl (.string ⟨#[73, 78, 70, 79]⟩) ((g21_w39.out.below hg).cell 1) _ Try.underlying9 rfl rfl
                · intro wg hg
                  go_simp
                  first | done | (rw [if_neg (by (try simp only [ByteArray.size_append] at *); omega)]; go_simp)
                · intro wg hg
                  go_simp
                  first | done | (rw [if_neg (by (try simp only [ByteArray.size_append] at *); omega)]; go_simp)
                · intro wg hg
                  go_simp
                · intro wg hg
                  exact gr_ld 9 _ rfl ⟨g8, 1, none⟩ rfl (.string (xs[k].fPath)) ((g8_w39.out.below hg).cell 1) _ Try.underlying9 rfl rfl
                · intro wg hg
                  go_simp
                  first | done | (rw [if_neg (by (try simp only [ByteArray.size_append] at *); omega)]; go_simp)
                · intro wg hg
                  go_simp
                  first | done | (rw [if_neg (by (try simp only [ByteArray.size_append] at *); omega)]; go_simp)
                · intro wg hg
                  go_simp
                · intro wg hg
                  exact gr_ld 9 _ rfl ⟨g8, 3, none⟩ rfl (.string (xs[k].fError)) ((g8_w39.out.below hg).cell 3) _ Try.underlying9 rfl rfl
                · intro wg hg
                  go_simp
                  first | done | rfl | (rw [if_neg (by (try simp only [ByteArray.size_append] at *); omega)]; (try go_simp); (try rfl))
                · intro wg hg
                  exact gr_bs 9 1 #[.string (msgF ⟨#[73, 78, 70, 79]⟩ xs[k].fPath xs[k].fError)] (by go_simp) fun g w1 hg1 hB hb => ⟨g, rfl, Nat.le_trans hg.bel.size hg1, hB⟩
              simp only [headDs, withDeps, postAt, List.getD_cons_zero, List.getD_cons_succ, forall_eq, tailOps]
              intro w40 hgr
              rintro _ ⟨g72, rfl, lo_g72, hB_g72⟩
              simp only [Act.put, List.setIfInBounds_toArray, List.set_cons_succ, List.set_cons_zero]
              have n_g21_g72 : g21 ≠ g72 := by have := g21_w39.out.lt; omega
              have n_g8_g72 : g8 ≠ g72 := by have := g8_w39.out.lt; omega
              have n_g32_g72 : g32 ≠ g72 := by have := g32_w39.out.lt; omega
              have low_g72 := Nat.le_trans B_w39.out.size lo_g72
              have o4_w40 := Lib.hid (own_below o4_w39.out (show Below _ _ _ from hgr))
              have o5_w40 := Lib.hid (own_below o5_w39.out (show Below _ _ _ from hgr))
              have g21_w40 := Lib.hid (g21_w39.out.below (show Below _ _ _ from hgr))
              have g8_w40 := Lib.hid (g8_w39.out.below (show Below _ _ _ from hgr))
              have g32_w40 := Lib.hid (g32_w39.out.below (show Below _ _ _ from hgr))
              have B_w40 := Lib.hid (below_trans B_w39.out (show Below _ _ _ from hgr))
              have g72_w40 : Hid (Blk w40 g72 9 #[.string (msgF ⟨#[73, 78, 70, 79]⟩ xs[k].fPath xs[k].fError)]) := hB_g72
              clear hB_g72 lo_g72
              clear hgr
              go_wp2_with (first
                | ((with_reducible refine at_dst (N := 73) rfl ?_); refine ev_app rfl _ _ 22 9 rfl Try.underlying22 _ 1 _ tin9 rfl (by omega) w.heap.size _ _ _ rfl o5_w40.out _ 1 1 [.string (msgF ⟨#[73, 78, 70, 79]⟩ xs[k].fPath xs[k].fError)] rfl (g72_w40.out.sl (by simp)) rfl (by simp [Value.oneCell']) (by omega) (by omega) B_w40.out.size ?_; intro v73_w41 w41 ho1 hg1 hat1
                   have o4_w41 := Lib.hid (own_row o4_w40.out hg1 (own_apart o4_w40.out o5_w40.out (by decide)))
                   have g21_w41 := Lib.hid (g21_w40.out.row hg1 nr_o5_g21)
                   have g8_w41 := Lib.hid (g8_w40.out.row hg1 nr_o5_g8)
                   have g32_w41 := Lib.hid (g32_w40.out.row hg1 nr_o5_g32)
                   have B_w41 := Lib.hid (below_row B_w40.out hg1 B_w40.out.size (own_ge o5_w40.out))
                   have o5_w41 := Lib.hid ho1
                   have nr_o5_g21 : (v73_w41 : Value).ownBlock ≠ some g21 := fun e0 => by rcases hat1 with e1 | e1; exact nr_o5_g21 (e1 ▸ e0); (rw [e1] at e0; injection e0 with e0; have := g21_w40.out.lt; omega)
                   clear ho1 hg1 hat1)
                | ((with_reducible refine at_dst (N := 76) rfl ?_); refine ev_ld rfl 3 _ rfl ⟨g8, 0, none⟩ rfl (.int .i64 1) (g8_w41.out.cell 0) _ Try.underlying3 rfl ?_)
                | ((with_reducible refine at_dst (N := 77) rfl ?_); refine ev_max rfl _ _ _ rfl hh (1) rfl rfl ?_))
              refine ⟨⟨k + 1, _, by omega, by go_num, rfl, nr_o5_g21, by show _ = _; rw [HHS.out, ← HHI.out]; (try rfl), by show World.ownsRow _ _ _ _ _ _ _; rw [HOS.out]; exact o4_w41.out, by show World.ownsRow _ _ _ _ _ _ _; rw [HT5.out, HL5.out]; exact o5_w41.out, g21_w41, HSZ2, B_w41⟩, ?_⟩
              simp [intOf]; omega
            · have hso : sevOk xs[k] = true := by simp [sevOk, hsv]
              have hbf : badF xs[k] = true := by rw [badF, hso, hi]; rfl
              have hof : okF xs[k] = false := by rw [okF, hso, hi]; rfl
              rw [hbf] at HBS HHS
              rw [hof] at HOS
              have HC2 : Hid (∀ i u, ([.int .i64 2, .string (xs[k].fPath), .bool true, .string (xs[k].fError)] : List Value)[i]? = some u → wr.cell? ((ad.add (k * 4)).add i) = some u) := by
                have h0 := HC.out
                rw [show xs[k].cells = [.int .i64 2, .string (xs[k].fPath), .bool true, .string (xs[k].fError)] by rw [Ty65.cells, hi, hsv]] at h0
                exact h0
              have htx : textF xs[k] = msgF ⟨#[87, 65, 82, 78, 73, 78, 71]⟩ xs[k].fPath xs[k].fError := by rw [textF, hsv]; rfl
              have HT5 : Hid (strs ((((xs.take (k + 1)).filter badF)).map textF) = strs (((xs.take k).filter badF).map textF) ++ [.string (msgF ⟨#[87, 65, 82, 78, 73, 78, 71]⟩ xs[k].fPath xs[k].fError)]) := by
                show _ = _
                rw [HBS.out, if_pos rfl, List.map_append, List.map_cons, htx]
                simp only [strs, List.map_append, List.map_cons, List.map_nil]
              have HL5 : Hid (((xs.take (k + 1)).filter badF).length = ((xs.take k).filter badF).length + 1) := by
                show _ = _
                rw [HBS.out, if_pos rfl, List.length_append]; rfl
              rw [hsv] at HHS
              have hfl : ((xs.take k).filter badF).length ≤ k := by
                have h1 := List.length_filter_le badF (xs.take k)
                have h2 := List.length_take_le k xs
                omega
              clear htx
              clear hso hbf hof hi hsv
              go_upto_region 17 with (first
                | ((with_reducible refine at_dst (N := 27) rfl ?_); refine ev_loadR rfl 65 _ rfl _ rfl [.int .i64 2, .string (xs[k].fPath), .bool true, .string (xs[k].fError)] (HC2.out) _ Try.underlying65 rfl tsz65 ?_)
                | ((with_reducible refine at_dst (N := 8) rfl ?_); refine ev_alloc rfl 65 rfl _ _ tz65 ?_; intro g8 w43 hg hB hb
                   have n_g21_g8 : g21 ≠ g8 := by have := HG.out.lt; omega
                   have low_g8 := Nat.le_trans HB.out.size hg
                   have nr_o5_g8 := own_fresh HO5.out hg
                   have o4_w43 := Lib.hid (own_below HO4.out hb)
                   have o5_w43 := Lib.hid (own_below HO5.out hb)
                   have g21_w43 := Lib.hid (HG.out.below hb)
                   have B_w43 := Lib.hid (below_trans HB.out hb)
                   have g8_w43 : Hid (Blk w43 g8 65 #[.int .i64 0, .string ⟨#[]⟩, .bool false, .string ⟨#[]⟩]) := hB
                   clear hB hb)
                | (refine ev_store rfl 65 _ _ rfl g8 _ _ rfl rfl 65 g8_w43.out tsz65 rfl rfl ?_; intro w44 hB hg hz
                   have o4_w44 := Lib.hid (own_grown o4_w43.out hg (own_ne o4_w43.out g8_w43.out (by decide)))
                   have o5_w44 := Lib.hid (own_grown o5_w43.out hg nr_o5_g8)
                   have g21_w44 := Lib.hid (g21_w43.out.grown hg n_g21_g8)
                   have B_w44 := Lib.hid (below_grown B_w43.out hg B_w43.out.size low_g8)
                   have g8_w44 : Hid (Blk w44 g8 65 #[.int .i64 2, .string (xs[k].fPath), .bool true, .string (xs[k].fError)]) := hB
                   clear hB hg hz)
                | ((with_reducible refine at_dst (N := 29) rfl ?_); refine ev_ld rfl 9 _ rfl ⟨g8, 1, none⟩ rfl (.string (xs[k].fPath)) (g8_w44.out.cell 1) _ Try.underlying9 rfl ?_)
                | ((with_reducible refine at_dst (N := 31) rfl ?_); refine ev_ld rfl 9 _ rfl ⟨g8, 3, none⟩ rfl (.string (xs[k].fError)) (g8_w44.out.cell 3) _ Try.underlying9 rfl ?_)
                | ((with_reducible refine at_dst (N := 32) rfl ?_); refine ev_bs rfl 22 9 2 _ rfl #[.string (xs[k].fPath), .string (xs[k].fError)] (by go_simp) ?_; intro g32 w45 hg hB hb
                   have n_g21_g32 : g21 ≠ g32 := by have := g21_w44.out.lt; omega
                   have n_g8_g32 : g8 ≠ g32 := by have := g8_w44.out.lt; omega
                   have low_g32 := Nat.le_trans B_w44.out.size hg
                   have nr_o5_g32 := own_fresh o5_w44.out hg
                   have o4_w45 := Lib.hid (own_below o4_w44.out hb)
                   have o5_w45 := Lib.hid (own_below o5_w44.out hb)
                   have g21_w45 := Lib.hid (g21_w44.out.below hb)
                   have g8_w45 := Lib.hid (g8_w44.out.below hb)
                   have B_w45 := Lib.hid (below_trans B_w44.out hb)
                   have g32_w45 : Hid (Blk w45 g32 9 #[.string (xs[k].fPath), .string (xs[k].fError)]) := hB
                   clear hB hb)
                | (go_at_call 38; (with_reducible refine (hlShort2_is g32 xs[k].fPath xs[k].fError true _ g32_w45.out hsh).mono ?_); rintro e wq ⟨rfl, rfl⟩)
                | ((with_reducible refine at_dst (N := 36) rfl ?_); refine ev_ld rfl 3 _ rfl ⟨g8, 0, none⟩ rfl (.int .i64 2) (g8_w45.out.cell 0) _ Try.underlying3 rfl ?_)
                | ((with_reducible refine at_dst (N := 40) rfl ?_); refine wl_guard rfl ?_; refine ev_ld rfl 3 _ rfl ⟨g8, 0, none⟩ rfl (.int .i64 2) (g8_w45.out.cell 0) _ Try.underlying3 rfl ?_)
                | ((with_reducible refine at_dst (N := 47) rfl ?_); refine wl_guard rfl ?_; refine ev_ld rfl 4 _ rfl ⟨g8, 2, none⟩ rfl (.bool true) (g8_w45.out.cell 2) _ Try.underlying4 rfl ?_)
                | ((with_reducible refine at_dst (N := 50) rfl ?_); refine ev_bs rfl 46 4 1 _ rfl #[.bool false] (by go_simp) ?_; intro g50 w47 hg hB hb
                   have n_g21_g50 : g21 ≠ g50 := by have := g21_w45.out.lt; omega
                   have n_g8_g50 : g8 ≠ g50 := by have := g8_w45.out.lt; omega
                   have n_g32_g50 : g32 ≠ g50 := by have := g32_w45.out.lt; omega
                   have low_g50 := Nat.le_trans B_w45.out.size hg
                   have nr_o5_g50 := own_fresh o5_w45.out hg
                   have o4_w47 := Lib.hid (own_below o4_w45.out hb)
                   have o5_w47 := Lib.hid (own_below o5_w45.out hb)
                   have g21_w47 := Lib.hid (g21_w45.out.below hb)
                   have g8_w47 := Lib.hid (g8_w45.out.below hb)
                   have g32_w47 := Lib.hid (g32_w45.out.below hb)
                   have B_w47 := Lib.hid (below_trans B_w45.out hb)
                   have g50_w47 : Hid (Blk w47 g50 4 #[.bool false]) := hB
                   clear hB hb)
                | ((with_reducible refine at_dst (N := 51) rfl ?_); refine ev_app rfl _ _ 46 4 rfl Try.underlying46 _ 1 _ tin4 rfl (by omega) w.heap.size _ _ _ rfl o4_w47.out _ 1 1 [.bool false] rfl (g50_w47.out.sl (by simp)) rfl (by simp [Value.oneCell']) (by omega) (by omega) B_w47.out.size ?_; intro v51_w48 w48 ho1 hg1 hat1
                   have o5_w48 := Lib.hid (own_row o5_w47.out hg1 (own_apart o5_w47.out o4_w47.out (by decide)))
                   have g21_w48 := Lib.hid (g21_w47.out.row hg1 (own_ne o4_w47.out g21_w47.out (by decide)))
                   have g8_w48 := Lib.hid (g8_w47.out.row hg1 (own_ne o4_w47.out g8_w47.out (by decide)))
                   have g32_w48 := Lib.hid (g32_w47.out.row hg1 (own_ne o4_w47.out g32_w47.out (by decide)))
                   have B_w48 := Lib.hid (below_row B_w47.out hg1 B_w47.out.size (own_ge o4_w47.out))
                   have o4_w48 := Lib.hid ho1
                   clear ho1 hg1 hat1)
                | ((with_reducible refine at_dst (N := 55) rfl ?_); refine wl_guard rfl ?_; refine ev_ld rfl 4 _ rfl ⟨g8, 2, none⟩ rfl (.bool true) (g8_w48.out.cell 2) _ Try.underlying4 rfl ?_))
              refine wp_region_grow [some [], some [], some [], some [(2, 59)], some [(1, 58), (3, 60)], some [(4, 61)], some [(5, 62)], some [(6, 63)], some [], some [(8, 65)], some [(7, 64), (9, 66)], some [(10, 67)], some [], some [(12, 69)], some [(11, 68), (13, 70)], some [(14, 71)], none, none]
                  [fun vv _ => vv = u5,
                   fun vv _ => vv = .slice (some ⟨g21, 0, none⟩) 4 4,
                   fun vv _ => vv = .pointer (some ⟨g8, 0, none⟩),
                   fun vv _ => vv = .int .i64 2,
                   fun vv _ => vv = .pointer (some ⟨g21, 2, none⟩),
                   fun vv _ => vv = .string ⟨#[87, 65, 82, 78, 73, 78, 71]⟩,
                   fun vv _ => vv = .string (⟨#[91]⟩ ++ ⟨#[87, 65, 82, 78, 73, 78, 71]⟩),
                   fun vv _ => vv = .string (⟨#[91]⟩ ++ ⟨#[87, 65, 82, 78, 73, 78, 71]⟩ ++ ⟨#[93, 32]⟩),
                   fun vv _ => vv = .pointer (some ⟨g8, 1, none⟩),
                   fun vv _ => vv = .string (xs[k].fPath),
                   fun vv _ => vv = .string (⟨#[91]⟩ ++ ⟨#[87, 65, 82, 78, 73, 78, 71]⟩ ++ ⟨#[93, 32]⟩ ++ xs[k].fPath),
                   fun vv _ => vv = .string (⟨#[91]⟩ ++ ⟨#[87, 65, 82, 78, 73, 78, 71]⟩ ++ ⟨#[93, 32]⟩ ++ xs[k].fPath ++ ⟨#[58, 32]⟩),
                   fun vv _ => vv = .pointer (some ⟨g8, 3, none⟩),
                   fun vv _ => vv = .string (xs[k].fError),
                   fun vv _ => vv = .string (msgF ⟨#[87, 65, 82, 78, 73, 78, 71]⟩ xs[k].fPath xs[k].fError),
                   fun v w' => ∃ g, v = .slice (some ⟨g, 0, none⟩) 1 1 ∧ w48.heap.size ≤ g ∧ Blk w' g 9 #[.string (msgF ⟨#[87, 65, 82, 78, 73, 78, 71]⟩ xs[k].fPath xs[k].fError)],
                   fun _ _ => True,
                   fun _ _ => True] 115 (by kernel_rfl) rfl rfl (by kernel_rfl) ?_ ?_ ?_
              · intro p hp
                simp only [List.mem_cons, List.not_mem_nil, or_false] at hp
                rcases hp with rfl | rfl | rfl | rfl | rfl | rfl | rfl | rfl | rfl | rfl | rfl | rfl | rfl | rfl | rfl | rfl | rfl | rfl
                · exact stab_eq _
                · exact stab_eq _
                · exact stab_eq _
                · exact stab_eq _
                · exact stab_eq _
                · exact stab_eq _
                · exact stab_eq _
                · exact stab_eq _
                · exact stab_eq _
                · exact stab_eq _
                · exact stab_eq _
                · exact stab_eq _
                · exact stab_eq _
                · exact stab_eq _
                · exact stab_eq _
                · exact stab_blk (F := fun g => .slice (some ⟨g, 0, none⟩) 1 1)
                · exact stab_true
                · exact stab_true
              · simp only [oblGo, obl1, withDeps, oblK, postAt, List.getD_cons_zero, List.getD_cons_succ, forall_eq]
                refine ⟨?_, ?_, ?_, ?_, ?_, ?_, ?_, ?_, ?_, ?_, ?_, ?_, ?_, ?_, ?_, ?_, trivial⟩
                · intro wg hg
                  go_simp
                · intro wg hg
                  go_simp
                · intro wg hg
                  go_simp
                · intro wg hg
                  exact gr_ld 3 _ rfl ⟨g8, 0, none⟩ rfl (.int .i64 2) ((g8_w48.out.below hg).cell 0) _ Try.underlying3 rfl rfl
                · intro wg hg
                  go_simp
                · intro wg hg
                  exact gr_ld 9 _ rfl ⟨g21, 2, none⟩ rfl (.string ⟨#[87, 65, 82, 78, 73, 78, 71]⟩) ((g21_w48.out.below hg).cell 2) _ Try.underlying9 rfl rfl
                · intro wg hg
                  go_simp
                  first | done | (rw [if_neg (by (try simp only [ByteArray.size_append] at *); omega)]; go_simp)
                · intro wg hg
                  go_simp
                  first | done | (rw [if_neg (by (try simp only [ByteArray.size_append] at *); omega)]; go_simp)
                · intro wg hg
                  go_simp
                · intro wg hg
                  exact gr_ld 9 _ rfl ⟨g8, 1, none⟩ rfl (.string (xs[k].fPath)) ((g8_w48.out.below hg).cell 1) _ Try.underlying9 rfl rfl
                · intro wg hg
                  go_simp
                  first | done | (rw [if_neg (by (try simp only [ByteArray.size_append] at *); omega)]; go_simp)
                · intro wg hg
                  go_simp
                  first | done | (rw [if_neg (by (try simp only [ByteArray.size_append] at *); omega)]; go_simp)
                · intro wg hg
                  go_simp
                · intro wg hg
                  exact gr_ld 9 _ rfl ⟨g8, 3, none⟩ rfl (.string (xs[k].fError)) ((g8_w48.out.below hg).cell 3) _ Try.underlying9 rfl rfl
                · intro wg hg
                  go_simp
                  first | done | rfl | (rw [if_neg (by (try simp only [ByteArray.size_append] at *); omega)]; (try go_simp); (try rfl))
                · intro wg hg
                  exact gr_bs 9 1 #[.string (msgF ⟨#[87, 65, 82, 78, 73, 78, 71]⟩ xs[k].fPath xs[k].fError)] (by go_simp) fun g w1 hg1 hB hb => ⟨g, rfl, Nat.le_trans hg.bel.size hg1, hB⟩
              simp only [headDs, withDeps, postAt, List.getD_cons_zero, List.getD_cons_succ, forall_eq, tailOps]
              intro w49 hgr
              rintro _ ⟨g72, rfl, lo_g72, hB_g72⟩
              simp only [Act.put, List.setIfInBounds_toArray, List.set_cons_succ, List.set_cons_zero]
              have n_g21_g72 : g21 ≠ g72 := by have := g21_w48.out.lt; omega
              have n_g8_g72 : g8 ≠ g72 := by have := g8_w48.out.lt; omega
              have n_g32_g72 : g32 ≠ g72 := by have := g32_w48.out.lt; omega
              have low_g72 := Nat.le_trans B_w48.out.size lo_g72
              have o4_w49 := Lib.hid (own_below o4_w48.out (show Below _ _ _ from hgr))
              have o5_w49 := Lib.hid (own_below o5_w48.out (show Below _ _ _ from hgr))
              have g21_w49 := Lib.hid (g21_w48.out.below (show Below _ _ _ from hgr))
              have g8_w49 := Lib.hid (g8_w48.out.below (show Below _ _ _ from hgr))
              have g32_w49 := Lib.hid (g32_w48.out.below (show Below _ _ _ from hgr))
              have B_w49 := Lib.hid (below_trans B_w48.out (show Below _ _ _ from hgr))
              have g72_w49 : Hid (Blk w49 g72 9 #[.string (msgF ⟨#[87, 65, 82, 78, 73, 78, 71]⟩ xs[k].fPath xs[k].fError)]) := hB_g72
              clear hB_g72 lo_g72
              clear hgr
              go_wp2_with (first
                | ((with_reducible refine at_dst (N := 73) rfl ?_); refine ev_app rfl _ _ 22 9 rfl Try.underlying22 _ 1 _ tin9 rfl (by omega) w.heap.size _ _ _ rfl o5_w49.out _ 1 1 [.string (msgF ⟨#[87, 65, 82, 78, 73, 78, 71]⟩ xs[k].fPath xs[k].fError)] rfl (g72_w49.out.sl (by simp)) rfl (by simp [Value.oneCell']) (by omega) (by omega) B_w49.out.size ?_; intro v73_w50 w50 ho1 hg1 hat1
                   have o4_w50 := Lib.hid (own_row o4_w49.out hg1 (own_apart o4_w49.out o5_w49.out (by decide)))
                   have g21_w50 := Lib.hid (g21_w49.out.row hg1 nr_o5_g21)
                   have g8_w50 := Lib.hid (g8_w49.out.row hg1 nr_o5_g8)
                   have g32_w50 := Lib.hid (g32_w49.out.row hg1 nr_o5_g32)
                   have B_w50 := Lib.hid (below_row B_w49.out hg1 B_w49.out.size (own_ge o5_w49.out))
                   have o5_w50 := Lib.hid ho1
                   have nr_o5_g21 : (v73_w50 : Value).ownBlock ≠ some g21 := fun e0 => by rcases hat1 with e1 | e1; exact nr_o5_g21 (e1 ▸ e0); (rw [e1] at e0; injection e0 with e0; have := g21_w49.out.lt; omega)
                   clear ho1 hg1 hat1)
                | ((with_reducible refine at_dst (N := 76) rfl ?_); refine ev_ld rfl 3 _ rfl ⟨g8, 0, none⟩ rfl (.int .i64 2) (g8_w50.out.cell 0) _ Try.underlying3 rfl ?_)
                | ((with_reducible refine at_dst (N := 77) rfl ?_); refine ev_max rfl _ _ _ rfl hh (2) rfl rfl ?_))
              refine ⟨⟨k + 1, _, by omega, by go_num, rfl, nr_o5_g21, by show _ = _; rw [HHS.out, ← HHI.out]; (try rfl), by show World.ownsRow _ _ _ _ _ _ _; rw [HOS.out]; exact o4_w50.out, by show World.ownsRow _ _ _ _ _ _ _; rw [HT5.out, HL5.out]; exact o5_w50.out, g21_w50, HSZ2, B_w50⟩, ?_⟩
              simp [intOf]; omega
            · have hso : sevOk xs[k] = true := by simp [sevOk, hsv]
              have hbf : badF xs[k] = true := by rw [badF, hso, hi]; rfl
              have hof : okF xs[k] = false := by rw [okF, hso, hi]; rfl
              rw [hbf] at HBS HHS
              rw [hof] at HOS
              have HC2 : Hid (∀ i u, ([.int .i64 3, .string (xs[k].fPath), .bool true, .string (xs[k].fError)] : List Value)[i]? = some u → wr.cell? ((ad.add (k * 4)).add i) = some u) := by
                have h0 := HC.out
                rw [show xs[k].cells = [.int .i64 3, .string (xs[k].fPath), .bool true, .string (xs[k].fError)] by rw [Ty65.cells, hi, hsv]] at h0
                exact h0
              have htx : textF xs[k] = msgF ⟨#[69, 82, 82, 79, 82]⟩ xs[k].fPath xs[k].fError := by rw [textF, hsv]; rfl
              have HT5 : Hid (strs ((((xs.take (k + 1)).filter badF)).map textF) = strs (((xs.take k).filter badF).map textF) ++ [.string (msgF ⟨#[69, 82, 82, 79, 82]⟩ xs[k].fPath xs[k].fError)]) := by
                show _ = _
                rw [HBS.out, if_pos rfl, List.map_append, List.map_cons, htx]
                simp only [strs, List.map_append, List.map_cons, List.map_nil]
              have HL5 : Hid (((xs.take (k + 1)).filter badF).length = ((xs.take k).filter badF).length + 1) := by
                show _ = _
                rw [HBS.out, if_pos rfl, List.length_append]; rfl
              rw [hsv] at HHS
              have hfl : ((xs.take k).filter badF).length ≤ k := by
                have h1 := List.length_filter_le badF (xs.take k)
                have h2 := List.length_take_le k xs
                omega
              clear htx
              clear hso hbf hof hi hsv
              go_upto_region 17 with (first
                | ((with_reducible refine at_dst (N := 27) rfl ?_); refine ev_loadR rfl 65 _ rfl _ rfl [.int .i64 3, .string (xs[k].fPath), .bool true, .string (xs[k].fError)] (HC2.out) _ Try.underlying65 rfl tsz65 ?_)
                | ((with_reducible refine at_dst (N := 8) rfl ?_); refine ev_alloc rfl 65 rfl _ _ tz65 ?_; intro g8 w52 hg hB hb
                   have n_g21_g8 : g21 ≠ g8 := by have := HG.out.lt; omega
                   have low_g8 := Nat.le_trans HB.out.size hg
                   have nr_o5_g8 := own_fresh HO5.out hg
                   have o4_w52 := Lib.hid (own_below HO4.out hb)
                   have o5_w52 := Lib.hid (own_below HO5.out hb)
                   have g21_w52 := Lib.hid (HG.out.below hb)
                   have B_w52 := Lib.hid (below_trans HB.out hb)
                   have g8_w52 : Hid (Blk w52 g8 65 #[.int .i64 0, .string ⟨#[]⟩, .bool false, .string ⟨#[]⟩]) := hB
                   clear hB hb)
                | (refine ev_store rfl 65 _ _ rfl g8 _ _ rfl rfl 65 g8_w52.out tsz65 rfl rfl ?_; intro w53 hB hg hz
                   have o4_w53 := Lib.hid (own_grown o4_w52.out hg (own_ne o4_w52.out g8_w52.out (by decide)))
                   have o5_w53 := Lib.hid (own_grown o5_w52.out hg nr_o5_g8)
                   have g21_w53 := Lib.hid (g21_w52.out.grown hg n_g21_g8)
                   have B_w53 := Lib.hid (below_grown B_w52.out hg B_w52.out.size low_g8)
                   have g8_w53 : Hid (Blk w53 g8 65 #[.int .i64 3, .string (xs[k].fPath), .bool true, .string (xs[k].fError)]) := hB
                   clear hB hg hz)
                | ((with_reducible refine at_dst (N := 29) rfl ?_); refine ev_ld rfl 9 _ rfl ⟨g8, 1, none⟩ rfl (.string (xs[k].fPath)) (g8_w53.out.cell 1) _ Try.underlying9 rfl ?_)
                | ((with_reducible refine at_dst (N := 31) rfl ?_); refine ev_ld rfl 9 _ rfl ⟨g8, 3, none⟩ rfl (.string (xs[k].fError)) (g8_w53.out.cell 3) _ Try.underlying9 rfl ?_)
                | ((with_reducible refine at_dst (N := 32) rfl ?_); refine ev_bs rfl 22 9 2 _ rfl #[.string (xs[k].fPath), .string (xs[k].fError)] (by go_simp) ?_; intro g32 w54 hg hB hb
                   have n_g21_g32 : g21 ≠ g32 := by have := g21_w53.out.lt; omega
                   have n_g8_g32 : g8 ≠ g32 := by have := g8_w53.out.lt; omega
                   have low_g32 := Nat.le_trans B_w53.out.size hg
                   have nr_o5_g32 := own_fresh o5_w53.out hg
                   have o4_w54 := Lib.hid (own_below o4_w53.out hb)
                   have o5_w54 := Lib.hid (own_below o5_w53.out hb)
                   have g21_w54 := Lib.hid (g21_w53.out.below hb)
                   have g8_w54 := Lib.hid (g8_w53.out.below hb)
                   have B_w54 := Lib.hid (below_trans B_w53.out hb)
                   have g32_w54 : Hid (Blk w54 g32 9 #[.string (xs[k].fPath), .string (xs[k].fError)]) := hB
                   clear hB hb)
                | (go_at_call 38; (with_reducible refine (hlShort2_is g32 xs[k].fPath xs[k].fError true _ g32_w54.out hsh).mono ?_); rintro e wq ⟨rfl, rfl⟩)
                | ((with_reducible refine at_dst (N := 36) rfl ?_); refine ev_ld rfl 3 _ rfl ⟨g8, 0, none⟩ rfl (.int .i64 3) (g8_w54.out.cell 0) _ Try.underlying3 rfl ?_)
                | ((with_reducible refine at_dst (N := 40) rfl ?_); refine wl_guard rfl ?_; refine ev_ld rfl 3 _ rfl ⟨g8, 0, none⟩ rfl (.int .i64 3) (g8_w54.out.cell 0) _ Try.underlying3 rfl ?_)
                | ((with_reducible refine at_dst (N := 47) rfl ?_); refine wl_guard rfl ?_; refine ev_ld rfl 4 _ rfl ⟨g8, 2, none⟩ rfl (.bool true) (g8_w54.out.cell 2) _ Try.underlying4 rfl ?_)
                | ((with_reducible refine at_dst (N := 50) rfl ?_); refine ev_bs rfl 46 4 1 _ rfl #[.bool false] (by go_simp) ?_; intro g50 w56 hg hB hb
                   have n_g21_g50 : g21 ≠ g50 := by have := g21_w54.out.lt; omega
                   have n_g8_g50 : g8 ≠ g50 := by have := g8_w54.out.lt; omega
                   have n_g32_g50 : g32 ≠ g50 := by have := g32_w54.out.lt; omega
                   have low_g50 := Nat.le_trans B_w54.out.size hg
                   have nr_o5_g50 := own_fresh o5_w54.out hg
                   have o4_w56 := Lib.hid (own_below o4_w54.out hb)
                   have o5_w56 := Lib.hid (own_below o5_w54.out hb)
                   have g21_w56 := Lib.hid (g21_w54.out.below hb)
                   have g8_w56 := Lib.hid (g8_w54.out.below hb)
                   have g32_w56 := Lib.hid (g32_w54.out.below hb)
                   have B_w56 := Lib.hid (below_trans B_w54.out hb)
                   have g50_w56 : Hid (Blk w56 g50 4 #[.bool false]) := hB
                   clear hB hb)
                | ((with_reducible refine at_dst (N := 51) rfl ?_); refine ev_app rfl _ _ 46 4 rfl Try.underlying46 _ 1 _ tin4 rfl (by omega) w.heap.size _ _ _ rfl o4_w56.out _ 1 1 [.bool false] rfl (g50_w56.out.sl (by simp)) rfl (by simp [Value.oneCell']) (by omega) (by omega) B_w56.out.size ?_; intro v51_w57 w57 ho1 hg1 hat1
                   have o5_w57 := Lib.hid (own_row o5_w56.out hg1 (own_apart o5_w56.out o4_w56.out (by decide)))
                   have g21_w57 := Lib.hid (g21_w56.out.row hg1 (own_ne o4_w56.out g21_w56.out (by decide)))
                   have g8_w57 := Lib.hid (g8_w56.out.row hg1 (own_ne o4_w56.out g8_w56.out (by decide)))
                   have g32_w57 := Lib.hid (g32_w56.out.row hg1 (own_ne o4_w56.out g32_w56.out (by decide)))
                   have B_w57 := Lib.hid (below_row B_w56.out hg1 B_w56.out.size (own_ge o4_w56.out))
                   have o4_w57 := Lib.hid ho1
                   clear ho1 hg1 hat1)
                | ((with_reducible refine at_dst (N := 55) rfl ?_); refine wl_guard rfl ?_; refine ev_ld rfl 4 _ rfl ⟨g8, 2, none⟩ rfl (.bool true) (g8_w57.out.cell 2) _ Try.underlying4 rfl ?_))
              refine wp_region_grow [some [], some [], some [], some [(2, 59)], some [(1, 58), (3, 60)], some [(4, 61)], some [(5, 62)], some [(6, 63)], some [], some [(8, 65)], some [(7, 64), (9, 66)], some [(10, 67)], some [], some [(12, 69)], some [(11, 68), (13, 70)], some [(14, 71)], none, none]
                  [fun vv _ => vv = u5,
                   fun vv _ => vv = .slice (some ⟨g21, 0, none⟩) 4 4,
                   fun vv _ => vv = .pointer (some ⟨g8, 0, none⟩),
                   fun vv _ => vv = .int .i64 3,
                   fun vv _ => vv = .pointer (some ⟨g21, 3, none⟩),
                   fun vv _ => vv = .string ⟨#[69, 82, 82, 79, 82]⟩,
                   fun vv _ => vv = .string (⟨#[91]⟩ ++ ⟨#[69, 82, 82, 79, 82]⟩),
                   fun vv _ => vv = .string (⟨#[91]⟩ ++ ⟨#[69, 82, 82, 79, 82]⟩ ++ ⟨#[93, 32]⟩),
                   fun vv _ => vv = .pointer (some ⟨g8, 1, none⟩),
                   fun vv _ => vv = .string (xs[k].fPath),
                   fun vv _ => vv = .string (⟨#[91]⟩ ++ ⟨#[69, 82, 82, 79, 82]⟩ ++ ⟨#[93, 32]⟩ ++ xs[k].fPath),
                   fun vv _ => vv = .string (⟨#[91]⟩ ++ ⟨#[69, 82, 82, 79, 82]⟩ ++ ⟨#[93, 32]⟩ ++ xs[k].fPath ++ ⟨#[58, 32]⟩),
                   fun vv _ => vv = .pointer (some ⟨g8, 3, none⟩),
                   fun vv _ => vv = .string (xs[k].fError),
                   fun vv _ => vv = .string (msgF ⟨#[69, 82, 82, 79, 82]⟩ xs[k].fPath xs[k].fError),
                   fun v w' => ∃ g, v = .slice (some ⟨g, 0, none⟩) 1 1 ∧ w57.heap.size ≤ g ∧ Blk w' g 9 #[.string (msgF ⟨#[69, 82, 82, 79, 82]⟩ xs[k].fPath xs[k].fError)],
                   fun _ _ => True,
                   fun _ _ => True] 115 (by kernel_rfl) rfl rfl (by kernel_rfl) ?_ ?_ ?_
              · intro p hp
                simp only [List.mem_cons, List.not_mem_nil, or_false] at hp
                rcases hp with rfl | rfl | rfl | rfl | rfl | rfl | rfl | rfl | rfl | rfl | rfl | rfl | rfl | rfl | rfl | rfl | rfl | rfl
                · exact stab_eq _
                · exact stab_eq _
                · exact stab_eq _
                · exact stab_eq _
                · exact stab_eq _
                · exact stab_eq _
                · exact stab_eq _
                · exact stab_eq _
                · exact stab_eq _
                · exact stab_eq _
                · exact stab_eq _
                · exact stab_eq _
                · exact stab_eq _
                · exact stab_eq _
                · exact stab_eq _
                · exact stab_blk (F := fun g => .slice (some ⟨g, 0, none⟩) 1 1)
                · exact stab_true
                · exact stab_true
              · simp only [oblGo, obl1, withDeps, oblK, postAt, List.getD_cons_zero, List.getD_cons_succ, forall_eq]
                refine ⟨?_, ?_, ?_, ?_, ?_, ?_, ?_, ?_, ?_, ?_, ?_, ?_, ?_, ?_, ?_, ?_, trivial⟩
                · intro wg hg
                  go_simp
                · intro wg hg
                  go_simp
                · intro wg hg
                  go_simp
                · intro wg hg
                  exact gr_ld 3 _ rfl ⟨g8, 0, none⟩ rfl (.int .i64 3) ((g8_w57.out.below hg).cell 0) _ Try.underlying3 rfl rfl
                · intro wg hg
                  go_simp
                · intro wg hg
                  exact gr_ld 9 _ rfl ⟨g21, 3, none⟩ rfl (.string ⟨#[69, 82, 82, 79, 82]⟩) ((g21_w57.out.below hg).cell 3) _ Try.underlying9 rfl rfl
                · intro wg hg
                  go_simp
                  first | done | (rw [if_neg (by (try simp only [ByteArray.size_append] at *); omega)]; go_simp)
                · intro wg hg
                  go_simp
                  first | done | (rw [if_neg (by (try simp only [ByteArray.size_append] at *); omega)]; go_simp)
                · intro wg hg
                  go_simp
                · intro wg hg
                  exact gr_ld 9 _ rfl ⟨g8, 1, none⟩ rfl (.string (xs[k].fPath)) ((g8_w57.out.below hg).cell 1) _ Try.underlying9 rfl rfl
                · intro wg hg
                  go_simp
                  first | done | (rw [if_neg (by (try simp only [ByteArray.size_append] at *); omega)]; go_simp)
                · intro wg hg
                  go_simp
                  first | done | (rw [if_neg (by (try simp only [ByteArray.size_append] at *); omega)]; go_simp)
                · intro wg hg
                  go_simp
                · intro wg hg
                  exact gr_ld 9 _ rfl ⟨g8, 3, none⟩ rfl (.string (xs[k].fError)) ((g8_w57.out.below hg).cell 3) _ Try.underlying9 rfl rfl
                · intro wg hg
                  go_simp
                  first | done | rfl | (rw [if_neg (by (try simp only [ByteArray.size_append] at *); omega)]; (try go_simp); (try rfl))
                · intro wg hg
                  exact gr_bs 9 1 #[.string (msgF ⟨#[69, 82, 82, 79, 82]⟩ xs[k].fPath xs[k].fError)] (by go_simp) fun g w1 hg1 hB hb => ⟨g, rfl, Nat.le_trans hg.bel.size hg1, hB⟩
              simp only [headDs, withDeps, postAt, List.getD_cons_zero, List.getD_cons_succ, forall_eq, tailOps]
              intro w58 hgr
              rintro _ ⟨g72, rfl, lo_g72, hB_g72⟩
              simp only [Act.put, List.setIfInBounds_toArray, List.set_cons_succ, List.set_cons_zero]
              have n_g21_g72 : g21 ≠ g72 := by have := g21_w57.out.lt; omega
              have n_g8_g72 : g8 ≠ g72 := by have := g8_w57.out.lt; omega
              have n_g32_g72 : g32 ≠ g72 := by have := g32_w57.out.lt; omega
              have low_g72 := Nat.le_trans B_w57.out.size lo_g72
              have o4_w58 := Lib.hid (own_below o4_w57.out (show Below _ _ _ from hgr))
              have o5_w58 := Lib.hid (own_below o5_w57.out (show Below _ _ _ from hgr))
              have g21_w58 := Lib.hid (g21_w57.out.below (show Below _ _ _ from hgr))
              have g8_w58 := Lib.hid (g8_w57.out.below (show Below _ _ _ from hgr))
              have g32_w58 := Lib.hid (g32_w57.out.below (show Below _ _ _ from hgr))
              have B_w58 := Lib.hid (below_trans B_w57.out (show Below _ _ _ from hgr))
              have g72_w58 : Hid (Blk w58 g72 9 #[.string (msgF ⟨#[69, 82, 82, 79, 82]⟩ xs[k].fPath xs[k].fError)]) := hB_g72
              clear hB_g72 lo_g72
              clear hgr
              go_wp2_with (first
                | ((with_reducible refine at_dst (N := 73) rfl ?_); refine ev_app rfl _ _ 22 9 rfl Try.underlying22 _ 1 _ tin9 rfl (by omega) w.heap.size _ _ _ rfl o5_w58.out _ 1 1 [.string (msgF ⟨#[69, 82, 82, 79, 82]⟩ xs[k].fPath xs[k].fError)] rfl (g72_w58.out.sl (by simp)) rfl (by simp [Value.oneCell']) (by omega) (by omega) B_w58.out.size ?_; intro v73_w59 w59 ho1 hg1 hat1
                   have o4_w59 := Lib.hid (own_row o4_w58.out hg1 (own_apart o4_w58.out o5_w58.out (by decide)))
                   have g21_w59 := Lib.hid (g21_w58.out.row hg1 nr_o5_g21)
                   have g8_w59 := Lib.hid (g8_w58.out.row hg1 nr_o5_g8)
                   have g32_w59 := Lib.hid (g32_w58.out.row hg1 nr_o5_g32)
                   have B_w59 := Lib.hid (below_row B_w58.out hg1 B_w58.out.size (own_ge o5_w58.out))
                   have o5_w59 := Lib.hid ho1
                   have nr_o5_g21 : (v73_w59 : Value).ownBlock ≠ some g21 := fun e0 => by rcases hat1 with e1 | e1; exact nr_o5_g21 (e1 ▸ e0); (rw [e1] at e0; injection e0 with e0; have := g21_w58.out.lt; omega)
                   clear ho1 hg1 hat1)
                | ((with_reducible refine at_dst (N := 76) rfl ?_); refine ev_ld rfl 3 _ rfl ⟨g8, 0, none⟩ rfl (.int .i64 3) (g8_w59.out.cell 0) _ Try.underlying3 rfl ?_)
                | ((with_reducible refine at_dst (N := 77) rfl ?_); refine ev_max rfl _ _ _ rfl hh (3) rfl rfl ?_))
              refine ⟨⟨k + 1, _, by omega, by go_num, rfl, nr_o5_g21, by show _ = _; rw [HHS.out, ← HHI.out]; (try rfl), by show World.ownsRow _ _ _ _ _ _ _; rw [HOS.out]; exact o4_w59.out, by show World.ownsRow _ _ _ _ _ _ _; rw [HT5.out, HL5.out]; exact o5_w59.out, g21_w59, HSZ2, B_w59⟩, ?_⟩
              simp [intOf]; omega
        · obtain rfl : k = xs.length := by omega
          rw [List.take_length] at HHI HO4 HO5
          have hhe := HHI.out
          subst hhe
          clear HHI hlt
          have HSZ3 : Hid (∀ x ∈ xs, x.fPath.size ≤ 1000000 ∧ x.fError.size ≤ 1000000) := fun x hx => by
            obtain ⟨j, hj, rfl⟩ := List.mem_iff_getElem.1 hx
            have := HSZ.out j hj hj
            exact ⟨by omega, by omega⟩
          obtain ⟨A4, c4, rfl, _⟩ := own_form HO4.out
          obtain ⟨A5, c5, rfl, _⟩ := own_form HO5.out
          have hfl : (xs.filter badF).length ≤ xs.length := List.length_filter_le _ _
          go_wp2_with (first
            | (go_at_call 39; (with_reducible refine (lint_any A c xs _ (H.out.below HB.out) HSZ3.out (by omega)).mono ?_); rintro e w61 ⟨vo, vt, rfl, ho10, ho11, hb⟩
               have o4_w61 := Lib.hid (own_below HO4.out hb)
               have o5_w61 := Lib.hid (own_below HO5.out hb)
               have B_w61 := Lib.hid (below_trans HB.out hb)
               obtain ⟨A10, c10, rfl, _⟩ := own_form ho10
               obtain ⟨A11, c11, rfl, _⟩ := own_form ho11
               have HO10 := Lib.hid ho10
               have HO11 := Lib.hid ho11
               clear ho10 ho11
               clear hb))
          go_loop [92] (fun i => ∃ j : Nat, j ≤ xs.length ∧ i = .int .i64 j) (fun i => xs.length - (intOf i).toNat)
          case atStart => exact ⟨0, Nat.zero_le _, rfl⟩
          case round =>
            obtain ⟨j, hj, rfl⟩ := hrel
            by_cases hjl : j < xs.length
            · obtain ⟨ad4, rfl, hx4⟩ := (own_sl1 o4_w61.out (by omega)).at_ (j := j) (u := .bool (okF xs[j])) (by simp [hjl])
              obtain ⟨ad10, rfl, hx10⟩ := (own_sl1 HO10.out (by omega)).at_ (j := j) (u := .bool (okF xs[j])) (by simp [hjl])
              have b0 : (0 : Int) ≤ (j : Int) := by omega
              have b1 : (j : Int) < (xs.length : Int) := by omega
              have b3 : ((j : Int)).toNat = j := by omega
              go_wp2_with fail
              go_round
              case rel => exact ⟨j + 1, by omega, by go_num⟩
              case measure => simp [intOf]; omega
            · obtain rfl : j = xs.length := by omega
              go_wp2_with (first
                | (go_at_call 40; (with_reducible refine (hlSame_is A11 _ c11 A5 c5 ((xs.filter badF).map textF) _ (List.length_map _) (own_sl1 HO11.out (by omega)) (own_sl1 o5_w61.out (by omega))).mono ?_); rintro e w62 ⟨rfl, hb⟩
                   have o4_w62 := Lib.hid (own_below o4_w61.out hb)
                   have o5_w62 := Lib.hid (own_below o5_w61.out hb)
                   have o10_w62 := Lib.hid (own_below HO10.out hb)
                   have o11_w62 := Lib.hid (own_below HO11.out hb)
                   have B_w62 := Lib.hid (below_trans B_w61.out hb)
                   clear hb)
                | (go_at_call 36; (with_reducible refine (hlLives_any _).mono ?_); rintro e w63 ⟨rfl, hb⟩
                   have o4_w63 := Lib.hid (own_below o4_w62.out hb)
                   have o5_w63 := Lib.hid (own_below o5_w62.out hb)
                   have o10_w63 := Lib.hid (own_below o10_w62.out hb)
                   have o11_w63 := Lib.hid (own_below o11_w62.out hb)
                   have B_w63 := Lib.hid (below_trans B_w62.out hb)
                   clear hb))
              go_ret
              exact ⟨rfl, B_w63.out⟩
end Go.Proofs.Ytdgblfldbikneaa
