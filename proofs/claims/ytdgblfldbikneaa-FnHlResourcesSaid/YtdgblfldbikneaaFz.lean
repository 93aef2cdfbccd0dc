/- Contracts of size checks, printed by fits.py. -/
import Derived.Test.YtdgblfldbikneaaP5
import Derived.Test.YtdgblfldbikneaaMs
import Derived.Test.YtdgblfldbikneaaTy
namespace Go.Proofs.Ytdgblfldbikneaa
open Go.RowKit Go.Lib
set_option linter.unusedVariables false
def fits20 (x : Ty35) : Bool := decide (x.fName.size ≤ 2147483647) && decide (x.fEmail.size ≤ 2147483647) && decide (x.fURL.size ≤ 2147483647)
theorem fits20_any (x : Ty35) (w : World) (hx : x.ok w) : Calls Try.prog 20 #[.agg #[.bool x.fNil, .string x.fName, .string x.fEmail, .string x.fURL]] w fun e w' => e = .returned (.bool (fits20 x)) ∧ Below w.heap.size w w' := by
  obtain ⟨xNil, xName, xEmail, xURL⟩ := x
  obtain ⟨oName, oEmail, oURL⟩ := hx
  have HoName := Lib.hid oName
  have HoEmail := Lib.hid oEmail
  have HoURL := Lib.hid oURL
  clear oName oEmail oURL
  cases t0 : (decide (xName.size ≤ 2147483647))
  · have HF := Lib.hid (show fits20 ⟨xNil, xName, xEmail, xURL⟩ = false by simp [fits20, t0])
    have u0 : 2147483647 < xName.size := by simpa using t0
    clear t0
    go_enter Try.func20, Try.ntmps20
    go_wp2_with (first
      | ((with_reducible refine at_dst (N := 1) rfl ?_); refine ev_box rfl 35 _ rfl _ rfl ?_; intro g w1 hg hB hb
         have q1 : w1.cell? ⟨g, 1, none⟩ = some (.string xName) := hB.cell 1
         have q2 : w1.cell? ⟨g, 2, none⟩ = some (.string xEmail) := hB.cell 2
         have q3 : w1.cell? ⟨g, 3, none⟩ = some (.string xURL) := hB.cell 3))
    go_ret
    exact ⟨ret_bool HF.out.symm, hb⟩
  have u0 : xName.size ≤ 2147483647 := by simpa using t0
  have T0 := Lib.hid t0
  clear t0
  cases t1 : (decide (xEmail.size ≤ 2147483647))
  · have HF := Lib.hid (show fits20 ⟨xNil, xName, xEmail, xURL⟩ = false by simp [fits20, t1])
    have u1 : 2147483647 < xEmail.size := by simpa using t1
    clear t1
    go_enter Try.func20, Try.ntmps20
    go_wp2_with (first
      | ((with_reducible refine at_dst (N := 1) rfl ?_); refine ev_box rfl 35 _ rfl _ rfl ?_; intro g w1 hg hB hb
         have q1 : w1.cell? ⟨g, 1, none⟩ = some (.string xName) := hB.cell 1
         have q2 : w1.cell? ⟨g, 2, none⟩ = some (.string xEmail) := hB.cell 2
         have q3 : w1.cell? ⟨g, 3, none⟩ = some (.string xURL) := hB.cell 3))
    go_ret
    exact ⟨ret_bool HF.out.symm, hb⟩
  have u1 : xEmail.size ≤ 2147483647 := by simpa using t1
  have T1 := Lib.hid t1
  clear t1
  cases t2 : (decide (xURL.size ≤ 2147483647))
  · have HF := Lib.hid (show fits20 ⟨xNil, xName, xEmail, xURL⟩ = false by simp [fits20, t2])
    have u2 : 2147483647 < xURL.size := by simpa using t2
    clear t2
    go_enter Try.func20, Try.ntmps20
    go_wp2_with (first
      | ((with_reducible refine at_dst (N := 1) rfl ?_); refine ev_box rfl 35 _ rfl _ rfl ?_; intro g w1 hg hB hb
         have q1 : w1.cell? ⟨g, 1, none⟩ = some (.string xName) := hB.cell 1
         have q2 : w1.cell? ⟨g, 2, none⟩ = some (.string xEmail) := hB.cell 2
         have q3 : w1.cell? ⟨g, 3, none⟩ = some (.string xURL) := hB.cell 3))
    go_ret
    exact ⟨ret_bool HF.out.symm, hb⟩
  have u2 : xURL.size ≤ 2147483647 := by simpa using t2
  have T2 := Lib.hid t2
  clear t2
  have HF := Lib.hid (show fits20 ⟨xNil, xName, xEmail, xURL⟩ = true by simp only [fits20, T0.out, T1.out, T2.out, Bool.and_self])
  go_enter Try.func20, Try.ntmps20
  go_wp2_with (first
    | ((with_reducible refine at_dst (N := 1) rfl ?_); refine ev_box rfl 35 _ rfl _ rfl ?_; intro g w1 hg hB hb
       have q1 : w1.cell? ⟨g, 1, none⟩ = some (.string xName) := hB.cell 1
       have q2 : w1.cell? ⟨g, 2, none⟩ = some (.string xEmail) := hB.cell 2
       have q3 : w1.cell? ⟨g, 3, none⟩ = some (.string xURL) := hB.cell 3))
  go_ret
  exact ⟨ret_bool HF.out.symm, hb⟩
theorem Ty35.ok.below {x : Ty35} {w w' : World} (h : x.ok w) (hb : Below w.heap.size w w') : x.ok w' := by
  obtain ⟨h0, h1, h2⟩ := h
  exact ⟨h0, h1, h2⟩
def fits44 (x : Ty79) : Bool := decide (x.fName.size ≤ 2147483647) && decide (x.fVersion.size ≤ 2147483647) && decide (x.fRepository.size ≤ 2147483647) && decide (x.fCondition.size ≤ 2147483647) && fits3 x.fTags && decide (x.fAlias.size ≤ 2147483647)
theorem fits44_any (x : Ty79) (w : World) (hx : x.ok w) : Calls Try.prog 44 #[.agg #[.bool x.fNil, .string x.fName, .string x.fVersion, .string x.fRepository, .string x.fCondition, .slice x.fTags_a x.fTags.length x.fTags_c, .string x.fAlias]] w fun e w' => e = .returned (.bool (fits44 x)) ∧ Below w.heap.size w w' := by
  obtain ⟨xNil, xName, xVersion, xRepository, xCondition, xTags_a, xTags_c, xTags, xAlias⟩ := x
  obtain ⟨oName, oVersion, oRepository, oCondition, oTags, oAlias⟩ := hx
  have HoName := Lib.hid oName
  have HoVersion := Lib.hid oVersion
  have HoRepository := Lib.hid oRepository
  have HoCondition := Lib.hid oCondition
  have HoTags := Lib.hid oTags
  have HoAlias := Lib.hid oAlias
  clear oName oVersion oRepository oCondition oTags oAlias
  cases t0 : (decide (xName.size ≤ 2147483647))
  · have HF := Lib.hid (show fits44 ⟨xNil, xName, xVersion, xRepository, xCondition, xTags_a, xTags_c, xTags, xAlias⟩ = false by simp [fits44, t0])
    have u0 : 2147483647 < xName.size := by simpa using t0
    clear t0
    go_enter Try.func44, Try.ntmps44
    go_wp2_with (first
      | ((with_reducible refine at_dst (N := 1) rfl ?_); refine ev_box rfl 79 _ rfl _ rfl ?_; intro g w1 hg hB hb
         have q1 : w1.cell? ⟨g, 1, none⟩ = some (.string xName) := hB.cell 1
         have q2 : w1.cell? ⟨g, 2, none⟩ = some (.string xVersion) := hB.cell 2
         have q3 : w1.cell? ⟨g, 3, none⟩ = some (.string xRepository) := hB.cell 3
         have q4 : w1.cell? ⟨g, 4, none⟩ = some (.string xCondition) := hB.cell 4
         have q5 : w1.cell? ⟨g, 5, none⟩ = some (.slice xTags_a xTags.length xTags_c) := hB.cell 5
         have q6 : w1.cell? ⟨g, 6, none⟩ = some (.string xAlias) := hB.cell 6))
    go_ret
    exact ⟨ret_bool HF.out.symm, hb⟩
  have u0 : xName.size ≤ 2147483647 := by simpa using t0
  have T0 := Lib.hid t0
  clear t0
  cases t1 : (decide (xVersion.size ≤ 2147483647))
  · have HF := Lib.hid (show fits44 ⟨xNil, xName, xVersion, xRepository, xCondition, xTags_a, xTags_c, xTags, xAlias⟩ = false by simp [fits44, t1])
    have u1 : 2147483647 < xVersion.size := by simpa using t1
    clear t1
    go_enter Try.func44, Try.ntmps44
    go_wp2_with (first
      | ((with_reducible refine at_dst (N := 1) rfl ?_); refine ev_box rfl 79 _ rfl _ rfl ?_; intro g w1 hg hB hb
         have q1 : w1.cell? ⟨g, 1, none⟩ = some (.string xName) := hB.cell 1
         have q2 : w1.cell? ⟨g, 2, none⟩ = some (.string xVersion) := hB.cell 2
         have q3 : w1.cell? ⟨g, 3, none⟩ = some (.string xRepository) := hB.cell 3
         have q4 : w1.cell? ⟨g, 4, none⟩ = some (.string xCondition) := hB.cell 4
         have q5 : w1.cell? ⟨g, 5, none⟩ = some (.slice xTags_a xTags.length xTags_c) := hB.cell 5
         have q6 : w1.cell? ⟨g, 6, none⟩ = some (.string xAlias) := hB.cell 6))
    go_ret
    exact ⟨ret_bool HF.out.symm, hb⟩
  have u1 : xVersion.size ≤ 2147483647 := by simpa using t1
  have T1 := Lib.hid t1
  clear t1
  cases t2 : (decide (xRepository.size ≤ 2147483647))
  · have HF := Lib.hid (show fits44 ⟨xNil, xName, xVersion, xRepository, xCondition, xTags_a, xTags_c, xTags, xAlias⟩ = false by simp [fits44, t2])
    have u2 : 2147483647 < xRepository.size := by simpa using t2
    clear t2
    go_enter Try.func44, Try.ntmps44
    go_wp2_with (first
      | ((with_reducible refine at_dst (N := 1) rfl ?_); refine ev_box rfl 79 _ rfl _ rfl ?_; intro g w1 hg hB hb
         have q1 : w1.cell? ⟨g, 1, none⟩ = some (.string xName) := hB.cell 1
         have q2 : w1.cell? ⟨g, 2, none⟩ = some (.string xVersion) := hB.cell 2
         have q3 : w1.cell? ⟨g, 3, none⟩ = some (.string xRepository) := hB.cell 3
         have q4 : w1.cell? ⟨g, 4, none⟩ = some (.string xCondition) := hB.cell 4
         have q5 : w1.cell? ⟨g, 5, none⟩ = some (.slice xTags_a xTags.length xTags_c) := hB.cell 5
         have q6 : w1.cell? ⟨g, 6, none⟩ = some (.string xAlias) := hB.cell 6))
    go_ret
    exact ⟨ret_bool HF.out.symm, hb⟩
  have u2 : xRepository.size ≤ 2147483647 := by simpa using t2
  have T2 := Lib.hid t2
  clear t2
  cases t3 : (decide (xCondition.size ≤ 2147483647))
  · have HF := Lib.hid (show fits44 ⟨xNil, xName, xVersion, xRepository, xCondition, xTags_a, xTags_c, xTags, xAlias⟩ = false by simp [fits44, t3])
    have u3 : 2147483647 < xCondition.size := by simpa using t3
    clear t3
    go_enter Try.func44, Try.ntmps44
    go_wp2_with (first
      | ((with_reducible refine at_dst (N := 1) rfl ?_); refine ev_box rfl 79 _ rfl _ rfl ?_; intro g w1 hg hB hb
         have q1 : w1.cell? ⟨g, 1, none⟩ = some (.string xName) := hB.cell 1
         have q2 : w1.cell? ⟨g, 2, none⟩ = some (.string xVersion) := hB.cell 2
         have q3 : w1.cell? ⟨g, 3, none⟩ = some (.string xRepository) := hB.cell 3
         have q4 : w1.cell? ⟨g, 4, none⟩ = some (.string xCondition) := hB.cell 4
         have q5 : w1.cell? ⟨g, 5, none⟩ = some (.slice xTags_a xTags.length xTags_c) := hB.cell 5
         have q6 : w1.cell? ⟨g, 6, none⟩ = some (.string xAlias) := hB.cell 6))
    go_ret
    exact ⟨ret_bool HF.out.symm, hb⟩
  have u3 : xCondition.size ≤ 2147483647 := by simpa using t3
  have T3 := Lib.hid t3
  clear t3
  cases t4 : (fits3 xTags)
  · have HF := Lib.hid (show fits44 ⟨xNil, xName, xVersion, xRepository, xCondition, xTags_a, xTags_c, xTags, xAlias⟩ = false by simp [fits44, t4])
    have T4 := Lib.hid t4
    clear t4
    go_enter Try.func44, Try.ntmps44
    go_wp2_with (first
      | ((with_reducible refine at_dst (N := 1) rfl ?_); refine ev_box rfl 79 _ rfl _ rfl ?_; intro g w1 hg hB hb
         have q1 : w1.cell? ⟨g, 1, none⟩ = some (.string xName) := hB.cell 1
         have q2 : w1.cell? ⟨g, 2, none⟩ = some (.string xVersion) := hB.cell 2
         have q3 : w1.cell? ⟨g, 3, none⟩ = some (.string xRepository) := hB.cell 3
         have q4 : w1.cell? ⟨g, 4, none⟩ = some (.string xCondition) := hB.cell 4
         have q5 : w1.cell? ⟨g, 5, none⟩ = some (.slice xTags_a xTags.length xTags_c) := hB.cell 5
         have q6 : w1.cell? ⟨g, 6, none⟩ = some (.string xAlias) := hB.cell 6)
      | (go_at_call 18; (with_reducible refine (zzFits3_any xTags_a xTags_c xTags _ (HoTags.out.1.below hb)).mono ?_); rintro e w' ⟨rfl, rfl⟩; rw [T4.out]))
    go_ret
    exact ⟨ret_bool HF.out.symm, hb⟩
  have T4 := Lib.hid t4
  clear t4
  cases t5 : (decide (xAlias.size ≤ 2147483647))
  · have HF := Lib.hid (show fits44 ⟨xNil, xName, xVersion, xRepository, xCondition, xTags_a, xTags_c, xTags, xAlias⟩ = false by simp [fits44, t5])
    have u5 : 2147483647 < xAlias.size := by simpa using t5
    clear t5
    go_enter Try.func44, Try.ntmps44
    go_wp2_with (first
      | ((with_reducible refine at_dst (N := 1) rfl ?_); refine ev_box rfl 79 _ rfl _ rfl ?_; intro g w1 hg hB hb
         have q1 : w1.cell? ⟨g, 1, none⟩ = some (.string xName) := hB.cell 1
         have q2 : w1.cell? ⟨g, 2, none⟩ = some (.string xVersion) := hB.cell 2
         have q3 : w1.cell? ⟨g, 3, none⟩ = some (.string xRepository) := hB.cell 3
         have q4 : w1.cell? ⟨g, 4, none⟩ = some (.string xCondition) := hB.cell 4
         have q5 : w1.cell? ⟨g, 5, none⟩ = some (.slice xTags_a xTags.length xTags_c) := hB.cell 5
         have q6 : w1.cell? ⟨g, 6, none⟩ = some (.string xAlias) := hB.cell 6)
      | (go_at_call 18; (with_reducible refine (zzFits3_any xTags_a xTags_c xTags _ (HoTags.out.1.below hb)).mono ?_); rintro e w' ⟨rfl, rfl⟩; rw [T4.out]))
    go_ret
    exact ⟨ret_bool HF.out.symm, hb⟩
  have u5 : xAlias.size ≤ 2147483647 := by simpa using t5
  have T5 := Lib.hid t5
  clear t5
  have HF := Lib.hid (show fits44 ⟨xNil, xName, xVersion, xRepository, xCondition, xTags_a, xTags_c, xTags, xAlias⟩ = true by simp only [fits44, T0.out, T1.out, T2.out, T3.out, T4.out, T5.out, Bool.and_self])
  go_enter Try.func44, Try.ntmps44
  go_wp2_with (first
    | ((with_reducible refine at_dst (N := 1) rfl ?_); refine ev_box rfl 79 _ rfl _ rfl ?_; intro g w1 hg hB hb
       have q1 : w1.cell? ⟨g, 1, none⟩ = some (.string xName) := hB.cell 1
       have q2 : w1.cell? ⟨g, 2, none⟩ = some (.string xVersion) := hB.cell 2
       have q3 : w1.cell? ⟨g, 3, none⟩ = some (.string xRepository) := hB.cell 3
       have q4 : w1.cell? ⟨g, 4, none⟩ = some (.string xCondition) := hB.cell 4
       have q5 : w1.cell? ⟨g, 5, none⟩ = some (.slice xTags_a xTags.length xTags_c) := hB.cell 5
       have q6 : w1.cell? ⟨g, 6, none⟩ = some (.string xAlias) := hB.cell 6)
    | (go_at_call 18; (with_reducible refine (zzFits3_any xTags_a xTags_c xTags _ (HoTags.out.1.below hb)).mono ?_); rintro e w' ⟨rfl, rfl⟩; rw [T4.out]))
  go_ret
  exact ⟨ret_bool HF.out.symm, hb⟩
theorem Ty79.ok.below {x : Ty79} {w w' : World} (h : x.ok w) (hb : Below w.heap.size w w') : x.ok w' := by
  obtain ⟨h0, h1, h2, h3, h4, h5⟩ := h
  exact ⟨h0, h1, h2, h3, ⟨h4.1.below hb, h4.2⟩, h5⟩
def fits83 (x : Ty65) : Bool := decide (x.fPath.size ≤ 2147483647) && decide (x.fError.size ≤ 2147483647)
theorem fits83_any (x : Ty65) (w : World) (hx : x.ok w) : Calls Try.prog 83 #[.agg #[.int .i64 x.fSeverity, .string x.fPath, .bool x.fIs, .string x.fError]] w fun e w' => e = .returned (.bool (fits83 x)) ∧ Below w.heap.size w w' := by
  obtain ⟨xSeverity, xPath, xIs, xError⟩ := x
  obtain ⟨oSeverity, oPath, oError⟩ := hx
  have HoSeverity := Lib.hid oSeverity
  have HoPath := Lib.hid oPath
  have HoError := Lib.hid oError
  clear oSeverity oPath oError
  cases t0 : (decide (xPath.size ≤ 2147483647))
  · have HF := Lib.hid (show fits83 ⟨xSeverity, xPath, xIs, xError⟩ = false by simp [fits83, t0])
    have u0 : 2147483647 < xPath.size := by simpa using t0
    clear t0
    go_enter Try.func83, Try.ntmps83
    go_wp2_with (first
      | ((with_reducible refine at_dst (N := 1) rfl ?_); refine ev_box rfl 65 _ rfl _ rfl ?_; intro g w1 hg hB hb
         have q1 : w1.cell? ⟨g, 1, none⟩ = some (.string xPath) := hB.cell 1
         have q3 : w1.cell? ⟨g, 3, none⟩ = some (.string xError) := hB.cell 3))
    go_ret
    exact ⟨ret_bool HF.out.symm, hb⟩
  have u0 : xPath.size ≤ 2147483647 := by simpa using t0
  have T0 := Lib.hid t0
  clear t0
  cases t1 : (decide (xError.size ≤ 2147483647))
  · have HF := Lib.hid (show fits83 ⟨xSeverity, xPath, xIs, xError⟩ = false by simp [fits83, t1])
    have u1 : 2147483647 < xError.size := by simpa using t1
    clear t1
    go_enter Try.func83, Try.ntmps83
    go_wp2_with (first
      | ((with_reducible refine at_dst (N := 1) rfl ?_); refine ev_box rfl 65 _ rfl _ rfl ?_; intro g w1 hg hB hb
         have q1 : w1.cell? ⟨g, 1, none⟩ = some (.string xPath) := hB.cell 1
         have q3 : w1.cell? ⟨g, 3, none⟩ = some (.string xError) := hB.cell 3))
    go_ret
    exact ⟨ret_bool HF.out.symm, hb⟩
  have u1 : xError.size ≤ 2147483647 := by simpa using t1
  have T1 := Lib.hid t1
  clear t1
  have HF := Lib.hid (show fits83 ⟨xSeverity, xPath, xIs, xError⟩ = true by simp only [fits83, T0.out, T1.out, Bool.and_self])
  go_enter Try.func83, Try.ntmps83
  go_wp2_with (first
    | ((with_reducible refine at_dst (N := 1) rfl ?_); refine ev_box rfl 65 _ rfl _ rfl ?_; intro g w1 hg hB hb
       have q1 : w1.cell? ⟨g, 1, none⟩ = some (.string xPath) := hB.cell 1
       have q3 : w1.cell? ⟨g, 3, none⟩ = some (.string xError) := hB.cell 3))
  go_ret
  exact ⟨ret_bool HF.out.symm, hb⟩
theorem Ty65.ok.below {x : Ty65} {w w' : World} (h : x.ok w) (hb : Below w.heap.size w w') : x.ok w' := by
  obtain ⟨h0, h1, h2⟩ := h
  exact ⟨h0, h1, h2⟩
def fits37 (xs : List Ty65) : Bool := decide (xs.length ≤ 2147483647) && xs.all fits83
theorem sz65 : (Try.prog.info? 65).map (·.size) = some 4 := by kernel_rfl
theorem zero65 : (Try.prog.info? 65).map (fun i => (i.zero, i.size)) = some (some (.agg #[.int .i64 0, .string ByteArray.empty, .bool false, .string ByteArray.empty]), 4) := by kernel_rfl
theorem rows65 {w : World} {A : Option Addr} {xs : List Ty65} (h : Rows w A 4 (xs.map Ty65.cells)) {k : Nat} (hk : k < xs.length) :
    ∃ ad, A = some ad ∧ ∀ i u, [Value.int .i64 xs[k].fSeverity, .string xs[k].fPath, .bool xs[k].fIs, .string xs[k].fError][i]? = some u → w.cell? ((ad.add (k * 4)).add i) = some u :=
  h.at_ (j := k) (row := xs[k].cells) (by simp [hk])
set_option maxRecDepth 100000 in
theorem fits37_any (A : Option Addr) (c : Nat) (xs : List Ty65) (w : World) (h : Rows w A 4 (xs.map Ty65.cells)) (hok : ∀ x ∈ xs, x.ok w) :
    Calls Try.prog 37 #[.slice A xs.length c] w fun e w' => e = .returned (.bool (fits37 xs)) ∧ Below w.heap.size w w' := by
  have hl : xs.length ≤ 9223372036854775807 := by simpa using h.1
  have H := Lib.hid h
  have HK := Lib.hid hok
  clear h hok
  by_cases hbig : 2147483647 < xs.length
  · have hf : fits37 xs = false := by simp [fits37]; omega
    have HF := Lib.hid hf
    clear hf H
    go_enter Try.func37, Try.ntmps37
    go_wp2
    go_ret
    exact ⟨ret_bool HF.out.symm, Below.refl _ _⟩
  · have hle : xs.length ≤ 2147483647 := by omega
    clear hbig
    go_enter Try.func37, Try.ntmps37
    go_wp2
    go_loopw [10] (fun i wr => ∃ k : Nat, k ≤ xs.length ∧ i = .int .i64 k ∧ Hid (∀ j, ∀ hj : j < xs.length, j < k → fits83 xs[j] = true) ∧ Hid (Below w.heap.size w wr)) (fun i _ => xs.length - (intOf i).toNat)
    case atStart => exact ⟨0, Nat.zero_le _, rfl, fun j _ h0 => by omega, Below.refl _ _⟩
    case round =>
      obtain ⟨k, hk, rfl, HA, HB⟩ := hrel
      by_cases hlt : k < xs.length
      · obtain ⟨ad, rfl, hx⟩ := rows65 (H.out.below HB.out) hlt
        have HX := Lib.hid hx
        clear hx
        cases hf9 : fits83 xs[k]
        · have hc := fun W (hW : (xs[k]'hlt).ok W) => fits83_any (xs[k]'hlt) W hW
          rw [hf9] at hc
          have HC := Lib.hid hc
          have HF := Lib.hid (show fits37 xs = false by unfold fits37; rw [all_no hlt hf9, Bool.and_false])
          clear hc hf9
          go_wp2_with (first
            | ((with_reducible refine at_dst (N := 13) rfl ?_); refine ev_loadR rfl 65 _ rfl _ rfl _ HX.out _ Try.underlying65 rfl sz65 ?_)
            | ((with_reducible refine at_dst (N := 4) rfl ?_); refine ev_alloc rfl 65 rfl _ _ zero65 ?_; intro g w1 hg hB hb; have G1 := Lib.hid hB; have B1 := Lib.hid (below_trans HB.out hb); have hgb := Nat.le_trans HB.out.size hg; clear hB hb hg)
            | (refine ev_store rfl 65 _ _ rfl g _ _ rfl rfl 65 G1.out sz65 rfl rfl ?_; intro w2 hB2 hg2 hz2; have G2 := Lib.hid hB2; have B2 := Lib.hid (below_grown B1.out hg2 B1.out.size hgb); clear hB2 hg2 hz2)
            | ((with_reducible refine at_dst (N := 14) rfl ?_); refine ev_loadB rfl 65 _ rfl g rfl 65 _ G2.out _ Try.underlying65 rfl sz65 ?_)
            | (go_at_call 83; (with_reducible refine (HC.out _ ((HK.out xs[k] (List.getElem_mem hlt)).below B2.out)).mono ?_); rintro e w3 ⟨rfl, hb3⟩))
          go_ret
          exact ⟨ret_bool HF.out.symm, below_trans B2.out hb3⟩
        · have hc := fun W (hW : (xs[k]'hlt).ok W) => fits83_any (xs[k]'hlt) W hW
          rw [hf9] at hc
          have HC := Lib.hid hc
          have HA2 : Hid (∀ j, ∀ hj : j < xs.length, j < k + 1 → fits83 xs[j] = true) := fun j hj hjk => by
            by_cases e : j = k
            · subst e; exact hf9
            · exact HA.out j hj (by omega)
          clear hc hf9 HA
          go_wp2_with (first
            | ((with_reducible refine at_dst (N := 13) rfl ?_); refine ev_loadR rfl 65 _ rfl _ rfl _ HX.out _ Try.underlying65 rfl sz65 ?_)
            | ((with_reducible refine at_dst (N := 4) rfl ?_); refine ev_alloc rfl 65 rfl _ _ zero65 ?_; intro g w1 hg hB hb; have G1 := Lib.hid hB; have B1 := Lib.hid (below_trans HB.out hb); have hgb := Nat.le_trans HB.out.size hg; clear hB hb hg)
            | (refine ev_store rfl 65 _ _ rfl g _ _ rfl rfl 65 G1.out sz65 rfl rfl ?_; intro w2 hB2 hg2 hz2; have G2 := Lib.hid hB2; have B2 := Lib.hid (below_grown B1.out hg2 B1.out.size hgb); clear hB2 hg2 hz2)
            | ((with_reducible refine at_dst (N := 14) rfl ?_); refine ev_loadB rfl 65 _ rfl g rfl 65 _ G2.out _ Try.underlying65 rfl sz65 ?_)
            | (go_at_call 83; (with_reducible refine (HC.out _ ((HK.out xs[k] (List.getElem_mem hlt)).below B2.out)).mono ?_); rintro e w3 ⟨rfl, hb3⟩))
          go_roundw
          case rel => exact ⟨k + 1, by omega, by go_num, HA2, below_trans B2.out hb3⟩
          case measure => simp [intOf]; omega
      · have hf : fits37 xs = true := by
          unfold fits37
          rw [all_yes (p := fits83) (fun j hj => HA.out j hj (by omega)), Bool.and_true]
          simpa using hle
        have HF := Lib.hid hf
        clear hf H HA
        go_wp2
        go_ret
        exact ⟨ret_bool HF.out.symm, HB.out⟩
def fits54 (x : Ty92) : Bool := decide (x.fName.size ≤ 2147483647) && decide (x.fNamespace.size ≤ 2147483647) && decide (x.fKind.size ≤ 2147483647) && decide (x.fGroup.size ≤ 2147483647)
theorem fits54_any (x : Ty92) (w : World) (hx : x.ok w) : Calls Try.prog 54 #[.agg #[.string x.fName, .string x.fNamespace, .string x.fKind, .string x.fGroup]] w fun e w' => e = .returned (.bool (fits54 x)) ∧ Below w.heap.size w w' := by
  obtain ⟨xName, xNamespace, xKind, xGroup⟩ := x
  obtain ⟨oName, oNamespace, oKind, oGroup⟩ := hx
  have HoName := Lib.hid oName
  have HoNamespace := Lib.hid oNamespace
  have HoKind := Lib.hid oKind
  have HoGroup := Lib.hid oGroup
  clear oName oNamespace oKind oGroup
  cases t0 : (decide (xName.size ≤ 2147483647))
  · have HF := Lib.hid (show fits54 ⟨xName, xNamespace, xKind, xGroup⟩ = false by simp [fits54, t0])
    have u0 : 2147483647 < xName.size := by simpa using t0
    clear t0
    go_enter Try.func54, Try.ntmps54
    go_wp2_with (first
      | ((with_reducible refine at_dst (N := 1) rfl ?_); refine ev_box rfl 92 _ rfl _ rfl ?_; intro g w1 hg hB hb
         have q0 : w1.cell? ⟨g, 0, none⟩ = some (.string xName) := hB.cell 0
         have q1 : w1.cell? ⟨g, 1, none⟩ = some (.string xNamespace) := hB.cell 1
         have q2 : w1.cell? ⟨g, 2, none⟩ = some (.string xKind) := hB.cell 2
         have q3 : w1.cell? ⟨g, 3, none⟩ = some (.string xGroup) := hB.cell 3))
    go_ret
    exact ⟨ret_bool HF.out.symm, hb⟩
  have u0 : xName.size ≤ 2147483647 := by simpa using t0
  have T0 := Lib.hid t0
  clear t0
  cases t1 : (decide (xNamespace.size ≤ 2147483647))
  · have HF := Lib.hid (show fits54 ⟨xName, xNamespace, xKind, xGroup⟩ = false by simp [fits54, t1])
    have u1 : 2147483647 < xNamespace.size := by simpa using t1
    clear t1
    go_enter Try.func54, Try.ntmps54
    go_wp2_with (first
      | ((with_reducible refine at_dst (N := 1) rfl ?_); refine ev_box rfl 92 _ rfl _ rfl ?_; intro g w1 hg hB hb
         have q0 : w1.cell? ⟨g, 0, none⟩ = some (.string xName) := hB.cell 0
         have q1 : w1.cell? ⟨g, 1, none⟩ = some (.string xNamespace) := hB.cell 1
         have q2 : w1.cell? ⟨g, 2, none⟩ = some (.string xKind) := hB.cell 2
         have q3 : w1.cell? ⟨g, 3, none⟩ = some (.string xGroup) := hB.cell 3))
    go_ret
    exact ⟨ret_bool HF.out.symm, hb⟩
  have u1 : xNamespace.size ≤ 2147483647 := by simpa using t1
  have T1 := Lib.hid t1
  clear t1
  cases t2 : (decide (xKind.size ≤ 2147483647))
  · have HF := Lib.hid (show fits54 ⟨xName, xNamespace, xKind, xGroup⟩ = false by simp [fits54, t2])
    have u2 : 2147483647 < xKind.size := by simpa using t2
    clear t2
    go_enter Try.func54, Try.ntmps54
    go_wp2_with (first
      | ((with_reducible refine at_dst (N := 1) rfl ?_); refine ev_box rfl 92 _ rfl _ rfl ?_; intro g w1 hg hB hb
         have q0 : w1.cell? ⟨g, 0, none⟩ = some (.string xName) := hB.cell 0
         have q1 : w1.cell? ⟨g, 1, none⟩ = some (.string xNamespace) := hB.cell 1
         have q2 : w1.cell? ⟨g, 2, none⟩ = some (.string xKind) := hB.cell 2
         have q3 : w1.cell? ⟨g, 3, none⟩ = some (.string xGroup) := hB.cell 3))
    go_ret
    exact ⟨ret_bool HF.out.symm, hb⟩
  have u2 : xKind.size ≤ 2147483647 := by simpa using t2
  have T2 := Lib.hid t2
  clear t2
  cases t3 : (decide (xGroup.size ≤ 2147483647))
  · have HF := Lib.hid (show fits54 ⟨xName, xNamespace, xKind, xGroup⟩ = false by simp [fits54, t3])
    have u3 : 2147483647 < xGroup.size := by simpa using t3
    clear t3
    go_enter Try.func54, Try.ntmps54
    go_wp2_with (first
      | ((with_reducible refine at_dst (N := 1) rfl ?_); refine ev_box rfl 92 _ rfl _ rfl ?_; intro g w1 hg hB hb
         have q0 : w1.cell? ⟨g, 0, none⟩ = some (.string xName) := hB.cell 0
         have q1 : w1.cell? ⟨g, 1, none⟩ = some (.string xNamespace) := hB.cell 1
         have q2 : w1.cell? ⟨g, 2, none⟩ = some (.string xKind) := hB.cell 2
         have q3 : w1.cell? ⟨g, 3, none⟩ = some (.string xGroup) := hB.cell 3))
    go_ret
    exact ⟨ret_bool HF.out.symm, hb⟩
  have u3 : xGroup.size ≤ 2147483647 := by simpa using t3
  have T3 := Lib.hid t3
  clear t3
  have HF := Lib.hid (show fits54 ⟨xName, xNamespace, xKind, xGroup⟩ = true by simp only [fits54, T0.out, T1.out, T2.out, T3.out, Bool.and_self])
  go_enter Try.func54, Try.ntmps54
  go_wp2_with (first
    | ((with_reducible refine at_dst (N := 1) rfl ?_); refine ev_box rfl 92 _ rfl _ rfl ?_; intro g w1 hg hB hb
       have q0 : w1.cell? ⟨g, 0, none⟩ = some (.string xName) := hB.cell 0
       have q1 : w1.cell? ⟨g, 1, none⟩ = some (.string xNamespace) := hB.cell 1
       have q2 : w1.cell? ⟨g, 2, none⟩ = some (.string xKind) := hB.cell 2
       have q3 : w1.cell? ⟨g, 3, none⟩ = some (.string xGroup) := hB.cell 3))
  go_ret
  exact ⟨ret_bool HF.out.symm, hb⟩
theorem Ty92.ok.below {x : Ty92} {w w' : World} (h : x.ok w) (hb : Below w.heap.size w w') : x.ok w' := by
  obtain ⟨h0, h1, h2, h3⟩ := h
  exact ⟨h0, h1, h2, h3⟩
def fits53 (xs : List Ty92) : Bool := decide (xs.length ≤ 2147483647) && xs.all fits54
theorem sz92 : (Try.prog.info? 92).map (·.size) = some 4 := by kernel_rfl
theorem zero92 : (Try.prog.info? 92).map (fun i => (i.zero, i.size)) = some (some (.agg #[.string ByteArray.empty, .string ByteArray.empty, .string ByteArray.empty, .string ByteArray.empty]), 4) := by kernel_rfl
theorem rows92 {w : World} {A : Option Addr} {xs : List Ty92} (h : Rows w A 4 (xs.map Ty92.cells)) {k : Nat} (hk : k < xs.length) :
    ∃ ad, A = some ad ∧ ∀ i u, [Value.string xs[k].fName, .string xs[k].fNamespace, .string xs[k].fKind, .string xs[k].fGroup][i]? = some u → w.cell? ((ad.add (k * 4)).add i) = some u :=
  h.at_ (j := k) (row := xs[k].cells) (by simp [hk])
set_option maxRecDepth 100000 in
theorem fits53_any (A : Option Addr) (c : Nat) (xs : List Ty92) (w : World) (h : Rows w A 4 (xs.map Ty92.cells)) (hok : ∀ x ∈ xs, x.ok w) :
    Calls Try.prog 53 #[.slice A xs.length c] w fun e w' => e = .returned (.bool (fits53 xs)) ∧ Below w.heap.size w w' := by
  have hl : xs.length ≤ 9223372036854775807 := by simpa using h.1
  have H := Lib.hid h
  have HK := Lib.hid hok
  clear h hok
  by_cases hbig : 2147483647 < xs.length
  · have hf : fits53 xs = false := by simp [fits53]; omega
    have HF := Lib.hid hf
    clear hf H
    go_enter Try.func53, Try.ntmps53
    go_wp2
    go_ret
    exact ⟨ret_bool HF.out.symm, Below.refl _ _⟩
  · have hle : xs.length ≤ 2147483647 := by omega
    clear hbig
    go_enter Try.func53, Try.ntmps53
    go_wp2
    go_loopw [10] (fun i wr => ∃ k : Nat, k ≤ xs.length ∧ i = .int .i64 k ∧ Hid (∀ j, ∀ hj : j < xs.length, j < k → fits54 xs[j] = true) ∧ Hid (Below w.heap.size w wr)) (fun i _ => xs.length - (intOf i).toNat)
    case atStart => exact ⟨0, Nat.zero_le _, rfl, fun j _ h0 => by omega, Below.refl _ _⟩
    case round =>
      obtain ⟨k, hk, rfl, HA, HB⟩ := hrel
      by_cases hlt : k < xs.length
      · obtain ⟨ad, rfl, hx⟩ := rows92 (H.out.below HB.out) hlt
        have HX := Lib.hid hx
        clear hx
        cases hf9 : fits54 xs[k]
        · have hc := fun W (hW : (xs[k]'hlt).ok W) => fits54_any (xs[k]'hlt) W hW
          rw [hf9] at hc
          have HC := Lib.hid hc
          have HF := Lib.hid (show fits53 xs = false by unfold fits53; rw [all_no hlt hf9, Bool.and_false])
          clear hc hf9
          go_wp2_with (first
            | ((with_reducible refine at_dst (N := 13) rfl ?_); refine ev_loadR rfl 92 _ rfl _ rfl _ HX.out _ Try.underlying92 rfl sz92 ?_)
            | ((with_reducible refine at_dst (N := 4) rfl ?_); refine ev_alloc rfl 92 rfl _ _ zero92 ?_; intro g w1 hg hB hb; have G1 := Lib.hid hB; have B1 := Lib.hid (below_trans HB.out hb); have hgb := Nat.le_trans HB.out.size hg; clear hB hb hg)
            | (refine ev_store rfl 92 _ _ rfl g _ _ rfl rfl 92 G1.out sz92 rfl rfl ?_; intro w2 hB2 hg2 hz2; have G2 := Lib.hid hB2; have B2 := Lib.hid (below_grown B1.out hg2 B1.out.size hgb); clear hB2 hg2 hz2)
            | ((with_reducible refine at_dst (N := 14) rfl ?_); refine ev_loadB rfl 92 _ rfl g rfl 92 _ G2.out _ Try.underlying92 rfl sz92 ?_)
            | (go_at_call 54; (with_reducible refine (HC.out _ ((HK.out xs[k] (List.getElem_mem hlt)).below B2.out)).mono ?_); rintro e w3 ⟨rfl, hb3⟩))
          go_ret
          exact ⟨ret_bool HF.out.symm, below_trans B2.out hb3⟩
        · have hc := fun W (hW : (xs[k]'hlt).ok W) => fits54_any (xs[k]'hlt) W hW
          rw [hf9] at hc
          have HC := Lib.hid hc
          have HA2 : Hid (∀ j, ∀ hj : j < xs.length, j < k + 1 → fits54 xs[j] = true) := fun j hj hjk => by
            by_cases e : j = k
            · subst e; exact hf9
            · exact HA.out j hj (by omega)
          clear hc hf9 HA
          go_wp2_with (first
            | ((with_reducible refine at_dst (N := 13) rfl ?_); refine ev_loadR rfl 92 _ rfl _ rfl _ HX.out _ Try.underlying92 rfl sz92 ?_)
            | ((with_reducible refine at_dst (N := 4) rfl ?_); refine ev_alloc rfl 92 rfl _ _ zero92 ?_; intro g w1 hg hB hb; have G1 := Lib.hid hB; have B1 := Lib.hid (below_trans HB.out hb); have hgb := Nat.le_trans HB.out.size hg; clear hB hb hg)
            | (refine ev_store rfl 92 _ _ rfl g _ _ rfl rfl 92 G1.out sz92 rfl rfl ?_; intro w2 hB2 hg2 hz2; have G2 := Lib.hid hB2; have B2 := Lib.hid (below_grown B1.out hg2 B1.out.size hgb); clear hB2 hg2 hz2)
            | ((with_reducible refine at_dst (N := 14) rfl ?_); refine ev_loadB rfl 92 _ rfl g rfl 92 _ G2.out _ Try.underlying92 rfl sz92 ?_)
            | (go_at_call 54; (with_reducible refine (HC.out _ ((HK.out xs[k] (List.getElem_mem hlt)).below B2.out)).mono ?_); rintro e w3 ⟨rfl, hb3⟩))
          go_roundw
          case rel => exact ⟨k + 1, by omega, by go_num, HA2, below_trans B2.out hb3⟩
          case measure => simp [intOf]; omega
      · have hf : fits53 xs = true := by
          unfold fits53
          rw [all_yes (p := fits54) (fun j hj => HA.out j hj (by omega)), Bool.and_true]
          simpa using hle
        have HF := Lib.hid hf
        clear hf H HA
        go_wp2
        go_ret
        exact ⟨ret_bool HF.out.symm, HB.out⟩
def fits73 (x : Ty53) : Bool := decide (x.fName.size ≤ 2147483647) && decide (x.fNamespace.size ≤ 2147483647) && decide (x.fStatus.size ≤ 2147483647)
theorem fits73_any (x : Ty53) (w : World) (hx : x.ok w) : Calls Try.prog 73 #[.agg #[.string x.fName, .string x.fNamespace, .string x.fStatus, .int .i64 x.fVersion, .int .i64 x.fAt]] w fun e w' => e = .returned (.bool (fits73 x)) ∧ Below w.heap.size w w' := by
  obtain ⟨xName, xNamespace, xStatus, xVersion, xAt⟩ := x
  obtain ⟨oName, oNamespace, oStatus, oVersion, oAt⟩ := hx
  have HoName := Lib.hid oName
  have HoNamespace := Lib.hid oNamespace
  have HoStatus := Lib.hid oStatus
  have HoVersion := Lib.hid oVersion
  have HoAt := Lib.hid oAt
  clear oName oNamespace oStatus oVersion oAt
  cases t0 : (decide (xName.size ≤ 2147483647))
  · have HF := Lib.hid (show fits73 ⟨xName, xNamespace, xStatus, xVersion, xAt⟩ = false by simp [fits73, t0])
    have u0 : 2147483647 < xName.size := by simpa using t0
    clear t0
    go_enter Try.func73, Try.ntmps73
    go_wp2_with (first
      | ((with_reducible refine at_dst (N := 1) rfl ?_); refine ev_box rfl 53 _ rfl _ rfl ?_; intro g w1 hg hB hb
         have q0 : w1.cell? ⟨g, 0, none⟩ = some (.string xName) := hB.cell 0
         have q1 : w1.cell? ⟨g, 1, none⟩ = some (.string xNamespace) := hB.cell 1
         have q2 : w1.cell? ⟨g, 2, none⟩ = some (.string xStatus) := hB.cell 2))
    go_ret
    exact ⟨ret_bool HF.out.symm, hb⟩
  have u0 : xName.size ≤ 2147483647 := by simpa using t0
  have T0 := Lib.hid t0
  clear t0
  cases t1 : (decide (xNamespace.size ≤ 2147483647))
  · have HF := Lib.hid (show fits73 ⟨xName, xNamespace, xStatus, xVersion, xAt⟩ = false by simp [fits73, t1])
    have u1 : 2147483647 < xNamespace.size := by simpa using t1
    clear t1
    go_enter Try.func73, Try.ntmps73
    go_wp2_with (first
      | ((with_reducible refine at_dst (N := 1) rfl ?_); refine ev_box rfl 53 _ rfl _ rfl ?_; intro g w1 hg hB hb
         have q0 : w1.cell? ⟨g, 0, none⟩ = some (.string xName) := hB.cell 0
         have q1 : w1.cell? ⟨g, 1, none⟩ = some (.string xNamespace) := hB.cell 1
         have q2 : w1.cell? ⟨g, 2, none⟩ = some (.string xStatus) := hB.cell 2))
    go_ret
    exact ⟨ret_bool HF.out.symm, hb⟩
  have u1 : xNamespace.size ≤ 2147483647 := by simpa using t1
  have T1 := Lib.hid t1
  clear t1
  cases t2 : (decide (xStatus.size ≤ 2147483647))
  · have HF := Lib.hid (show fits73 ⟨xName, xNamespace, xStatus, xVersion, xAt⟩ = false by simp [fits73, t2])
    have u2 : 2147483647 < xStatus.size := by simpa using t2
    clear t2
    go_enter Try.func73, Try.ntmps73
    go_wp2_with (first
      | ((with_reducible refine at_dst (N := 1) rfl ?_); refine ev_box rfl 53 _ rfl _ rfl ?_; intro g w1 hg hB hb
         have q0 : w1.cell? ⟨g, 0, none⟩ = some (.string xName) := hB.cell 0
         have q1 : w1.cell? ⟨g, 1, none⟩ = some (.string xNamespace) := hB.cell 1
         have q2 : w1.cell? ⟨g, 2, none⟩ = some (.string xStatus) := hB.cell 2))
    go_ret
    exact ⟨ret_bool HF.out.symm, hb⟩
  have u2 : xStatus.size ≤ 2147483647 := by simpa using t2
  have T2 := Lib.hid t2
  clear t2
  have HF := Lib.hid (show fits73 ⟨xName, xNamespace, xStatus, xVersion, xAt⟩ = true by simp only [fits73, T0.out, T1.out, T2.out, Bool.and_self])
  go_enter Try.func73, Try.ntmps73
  go_wp2_with (first
    | ((with_reducible refine at_dst (N := 1) rfl ?_); refine ev_box rfl 53 _ rfl _ rfl ?_; intro g w1 hg hB hb
       have q0 : w1.cell? ⟨g, 0, none⟩ = some (.string xName) := hB.cell 0
       have q1 : w1.cell? ⟨g, 1, none⟩ = some (.string xNamespace) := hB.cell 1
       have q2 : w1.cell? ⟨g, 2, none⟩ = some (.string xStatus) := hB.cell 2))
  go_ret
  exact ⟨ret_bool HF.out.symm, hb⟩
theorem Ty53.ok.below {x : Ty53} {w w' : World} (h : x.ok w) (hb : Below w.heap.size w w') : x.ok w' := by
  obtain ⟨h0, h1, h2, h3, h4⟩ := h
  exact ⟨h0, h1, h2, h3, h4⟩
def fits29 (xs : List Ty53) : Bool := decide (xs.length ≤ 2147483647) && xs.all fits73
theorem sz53 : (Try.prog.info? 53).map (·.size) = some 5 := by kernel_rfl
theorem zero53 : (Try.prog.info? 53).map (fun i => (i.zero, i.size)) = some (some (.agg #[.string ByteArray.empty, .string ByteArray.empty, .string ByteArray.empty, .int .i64 0, .int .i64 0]), 5) := by kernel_rfl
theorem rows53 {w : World} {A : Option Addr} {xs : List Ty53} (h : Rows w A 5 (xs.map Ty53.cells)) {k : Nat} (hk : k < xs.length) :
    ∃ ad, A = some ad ∧ ∀ i u, [Value.string xs[k].fName, .string xs[k].fNamespace, .string xs[k].fStatus, .int .i64 xs[k].fVersion, .int .i64 xs[k].fAt][i]? = some u → w.cell? ((ad.add (k * 5)).add i) = some u :=
  h.at_ (j := k) (row := xs[k].cells) (by simp [hk])
set_option maxRecDepth 100000 in
theorem fits29_any (A : Option Addr) (c : Nat) (xs : List Ty53) (w : World) (h : Rows w A 5 (xs.map Ty53.cells)) (hok : ∀ x ∈ xs, x.ok w) :
    Calls Try.prog 29 #[.slice A xs.length c] w fun e w' => e = .returned (.bool (fits29 xs)) ∧ Below w.heap.size w w' := by
  have hl : xs.length ≤ 9223372036854775807 := by simpa using h.1
  have H := Lib.hid h
  have HK := Lib.hid hok
  clear h hok
  by_cases hbig : 2147483647 < xs.length
  · have hf : fits29 xs = false := by simp [fits29]; omega
    have HF := Lib.hid hf
    clear hf H
    go_enter Try.func29, Try.ntmps29
    go_wp2
    go_ret
    exact ⟨ret_bool HF.out.symm, Below.refl _ _⟩
  · have hle : xs.length ≤ 2147483647 := by omega
    clear hbig
    go_enter Try.func29, Try.ntmps29
    go_wp2
    go_loopw [10] (fun i wr => ∃ k : Nat, k ≤ xs.length ∧ i = .int .i64 k ∧ Hid (∀ j, ∀ hj : j < xs.length, j < k → fits73 xs[j] = true) ∧ Hid (Below w.heap.size w wr)) (fun i _ => xs.length - (intOf i).toNat)
    case atStart => exact ⟨0, Nat.zero_le _, rfl, fun j _ h0 => by omega, Below.refl _ _⟩
    case round =>
      obtain ⟨k, hk, rfl, HA, HB⟩ := hrel
      by_cases hlt : k < xs.length
      · obtain ⟨ad, rfl, hx⟩ := rows53 (H.out.below HB.out) hlt
        have HX := Lib.hid hx
        clear hx
        cases hf9 : fits73 xs[k]
        · have hc := fun W (hW : (xs[k]'hlt).ok W) => fits73_any (xs[k]'hlt) W hW
          rw [hf9] at hc
          have HC := Lib.hid hc
          have HF := Lib.hid (show fits29 xs = false by unfold fits29; rw [all_no hlt hf9, Bool.and_false])
          clear hc hf9
          go_wp2_with (first
            | ((with_reducible refine at_dst (N := 13) rfl ?_); refine ev_loadR rfl 53 _ rfl _ rfl _ HX.out _ Try.underlying53 rfl sz53 ?_)
            | ((with_reducible refine at_dst (N := 4) rfl ?_); refine ev_alloc rfl 53 rfl _ _ zero53 ?_; intro g w1 hg hB hb; have G1 := Lib.hid hB; have B1 := Lib.hid (below_trans HB.out hb); have hgb := Nat.le_trans HB.out.size hg; clear hB hb hg)
            | (refine ev_store rfl 53 _ _ rfl g _ _ rfl rfl 53 G1.out sz53 rfl rfl ?_; intro w2 hB2 hg2 hz2; have G2 := Lib.hid hB2; have B2 := Lib.hid (below_grown B1.out hg2 B1.out.size hgb); clear hB2 hg2 hz2)
            | ((with_reducible refine at_dst (N := 14) rfl ?_); refine ev_loadB rfl 53 _ rfl g rfl 53 _ G2.out _ Try.underlying53 rfl sz53 ?_)
            | (go_at_call 73; (with_reducible refine (HC.out _ ((HK.out xs[k] (List.getElem_mem hlt)).below B2.out)).mono ?_); rintro e w3 ⟨rfl, hb3⟩))
          go_ret
          exact ⟨ret_bool HF.out.symm, below_trans B2.out hb3⟩
        · have hc := fun W (hW : (xs[k]'hlt).ok W) => fits73_any (xs[k]'hlt) W hW
          rw [hf9] at hc
          have HC := Lib.hid hc
          have HA2 : Hid (∀ j, ∀ hj : j < xs.length, j < k + 1 → fits73 xs[j] = true) := fun j hj hjk => by
            by_cases e : j = k
            · subst e; exact hf9
            · exact HA.out j hj (by omega)
          clear hc hf9 HA
          go_wp2_with (first
            | ((with_reducible refine at_dst (N := 13) rfl ?_); refine ev_loadR rfl 53 _ rfl _ rfl _ HX.out _ Try.underlying53 rfl sz53 ?_)
            | ((with_reducible refine at_dst (N := 4) rfl ?_); refine ev_alloc rfl 53 rfl _ _ zero53 ?_; intro g w1 hg hB hb; have G1 := Lib.hid hB; have B1 := Lib.hid (below_trans HB.out hb); have hgb := Nat.le_trans HB.out.size hg; clear hB hb hg)
            | (refine ev_store rfl 53 _ _ rfl g _ _ rfl rfl 53 G1.out sz53 rfl rfl ?_; intro w2 hB2 hg2 hz2; have G2 := Lib.hid hB2; have B2 := Lib.hid (below_grown B1.out hg2 B1.out.size hgb); clear hB2 hg2 hz2)
            | ((with_reducible refine at_dst (N := 14) rfl ?_); refine ev_loadB rfl 53 _ rfl g rfl 53 _ G2.out _ Try.underlying53 rfl sz53 ?_)
            | (go_at_call 73; (with_reducible refine (HC.out _ ((HK.out xs[k] (List.getElem_mem hlt)).below B2.out)).mono ?_); rintro e w3 ⟨rfl, hb3⟩))
          go_roundw
          case rel => exact ⟨k + 1, by omega, by go_num, HA2, below_trans B2.out hb3⟩
          case measure => simp [intOf]; omega
      · have hf : fits29 xs = true := by
          unfold fits29
          rw [all_yes (p := fits73) (fun j hj => HA.out j hj (by omega)), Bool.and_true]
          simpa using hle
        have HF := Lib.hid hf
        clear hf H HA
        go_wp2
        go_ret
        exact ⟨ret_bool HF.out.symm, HB.out⟩
def fits87 (x : Ty73) : Bool := decide (x.fName.size ≤ 2147483647) && decide (x.fData.size ≤ 2147483647)
theorem fits87_any (x : Ty73) (w : World) (hx : x.ok w) : Calls Try.prog 87 #[.agg #[.string x.fName, .string x.fData]] w fun e w' => e = .returned (.bool (fits87 x)) ∧ Below w.heap.size w w' := by
  obtain ⟨xName, xData⟩ := x
  obtain ⟨oName, oData⟩ := hx
  have HoName := Lib.hid oName
  have HoData := Lib.hid oData
  clear oName oData
  cases t0 : (decide (xName.size ≤ 2147483647))
  · have HF := Lib.hid (show fits87 ⟨xName, xData⟩ = false by simp [fits87, t0])
    have u0 : 2147483647 < xName.size := by simpa using t0
    clear t0
    go_enter Try.func87, Try.ntmps87
    go_wp2_with (first
      | ((with_reducible refine at_dst (N := 1) rfl ?_); refine ev_box rfl 73 _ rfl _ rfl ?_; intro g w1 hg hB hb
         have q0 : w1.cell? ⟨g, 0, none⟩ = some (.string xName) := hB.cell 0
         have q1 : w1.cell? ⟨g, 1, none⟩ = some (.string xData) := hB.cell 1))
    go_ret
    exact ⟨ret_bool HF.out.symm, hb⟩
  have u0 : xName.size ≤ 2147483647 := by simpa using t0
  have T0 := Lib.hid t0
  clear t0
  cases t1 : (decide (xData.size ≤ 2147483647))
  · have HF := Lib.hid (show fits87 ⟨xName, xData⟩ = false by simp [fits87, t1])
    have u1 : 2147483647 < xData.size := by simpa using t1
    clear t1
    go_enter Try.func87, Try.ntmps87
    go_wp2_with (first
      | ((with_reducible refine at_dst (N := 1) rfl ?_); refine ev_box rfl 73 _ rfl _ rfl ?_; intro g w1 hg hB hb
         have q0 : w1.cell? ⟨g, 0, none⟩ = some (.string xName) := hB.cell 0
         have q1 : w1.cell? ⟨g, 1, none⟩ = some (.string xData) := hB.cell 1))
    go_ret
    exact ⟨ret_bool HF.out.symm, hb⟩
  have u1 : xData.size ≤ 2147483647 := by simpa using t1
  have T1 := Lib.hid t1
  clear t1
  have HF := Lib.hid (show fits87 ⟨xName, xData⟩ = true by simp only [fits87, T0.out, T1.out, Bool.and_self])
  go_enter Try.func87, Try.ntmps87
  go_wp2_with (first
    | ((with_reducible refine at_dst (N := 1) rfl ?_); refine ev_box rfl 73 _ rfl _ rfl ?_; intro g w1 hg hB hb
       have q0 : w1.cell? ⟨g, 0, none⟩ = some (.string xName) := hB.cell 0
       have q1 : w1.cell? ⟨g, 1, none⟩ = some (.string xData) := hB.cell 1))
  go_ret
  exact ⟨ret_bool HF.out.symm, hb⟩
theorem Ty73.ok.below {x : Ty73} {w w' : World} (h : x.ok w) (hb : Below w.heap.size w w') : x.ok w' := by
  obtain ⟨h0, h1⟩ := h
  exact ⟨h0, h1⟩
def fits41 (xs : List Ty73) : Bool := decide (xs.length ≤ 2147483647) && xs.all fits87
theorem sz73 : (Try.prog.info? 73).map (·.size) = some 2 := by kernel_rfl
theorem zero73 : (Try.prog.info? 73).map (fun i => (i.zero, i.size)) = some (some (.agg #[.string ByteArray.empty, .string ByteArray.empty]), 2) := by kernel_rfl
theorem rows73 {w : World} {A : Option Addr} {xs : List Ty73} (h : Rows w A 2 (xs.map Ty73.cells)) {k : Nat} (hk : k < xs.length) :
    ∃ ad, A = some ad ∧ ∀ i u, [Value.string xs[k].fName, .string xs[k].fData][i]? = some u → w.cell? ((ad.add (k * 2)).add i) = some u :=
  h.at_ (j := k) (row := xs[k].cells) (by simp [hk])
set_option maxRecDepth 100000 in
theorem fits41_any (A : Option Addr) (c : Nat) (xs : List Ty73) (w : World) (h : Rows w A 2 (xs.map Ty73.cells)) (hok : ∀ x ∈ xs, x.ok w) :
    Calls Try.prog 41 #[.slice A xs.length c] w fun e w' => e = .returned (.bool (fits41 xs)) ∧ Below w.heap.size w w' := by
  have hl : xs.length ≤ 9223372036854775807 := by simpa using h.1
  have H := Lib.hid h
  have HK := Lib.hid hok
  clear h hok
  by_cases hbig : 2147483647 < xs.length
  · have hf : fits41 xs = false := by simp [fits41]; omega
    have HF := Lib.hid hf
    clear hf H
    go_enter Try.func41, Try.ntmps41
    go_wp2
    go_ret
    exact ⟨ret_bool HF.out.symm, Below.refl _ _⟩
  · have hle : xs.length ≤ 2147483647 := by omega
    clear hbig
    go_enter Try.func41, Try.ntmps41
    go_wp2
    go_loopw [10] (fun i wr => ∃ k : Nat, k ≤ xs.length ∧ i = .int .i64 k ∧ Hid (∀ j, ∀ hj : j < xs.length, j < k → fits87 xs[j] = true) ∧ Hid (Below w.heap.size w wr)) (fun i _ => xs.length - (intOf i).toNat)
    case atStart => exact ⟨0, Nat.zero_le _, rfl, fun j _ h0 => by omega, Below.refl _ _⟩
    case round =>
      obtain ⟨k, hk, rfl, HA, HB⟩ := hrel
      by_cases hlt : k < xs.length
      · obtain ⟨ad, rfl, hx⟩ := rows73 (H.out.below HB.out) hlt
        have HX := Lib.hid hx
        clear hx
        cases hf9 : fits87 xs[k]
        · have hc := fun W (hW : (xs[k]'hlt).ok W) => fits87_any (xs[k]'hlt) W hW
          rw [hf9] at hc
          have HC := Lib.hid hc
          have HF := Lib.hid (show fits41 xs = false by unfold fits41; rw [all_no hlt hf9, Bool.and_false])
          clear hc hf9
          go_wp2_with (first
            | ((with_reducible refine at_dst (N := 13) rfl ?_); refine ev_loadR rfl 73 _ rfl _ rfl _ HX.out _ Try.underlying73 rfl sz73 ?_)
            | ((with_reducible refine at_dst (N := 4) rfl ?_); refine ev_alloc rfl 73 rfl _ _ zero73 ?_; intro g w1 hg hB hb; have G1 := Lib.hid hB; have B1 := Lib.hid (below_trans HB.out hb); have hgb := Nat.le_trans HB.out.size hg; clear hB hb hg)
            | (refine ev_store rfl 73 _ _ rfl g _ _ rfl rfl 73 G1.out sz73 rfl rfl ?_; intro w2 hB2 hg2 hz2; have G2 := Lib.hid hB2; have B2 := Lib.hid (below_grown B1.out hg2 B1.out.size hgb); clear hB2 hg2 hz2)
            | ((with_reducible refine at_dst (N := 14) rfl ?_); refine ev_loadB rfl 73 _ rfl g rfl 73 _ G2.out _ Try.underlying73 rfl sz73 ?_)
            | (go_at_call 87; (with_reducible refine (HC.out _ ((HK.out xs[k] (List.getElem_mem hlt)).below B2.out)).mono ?_); rintro e w3 ⟨rfl, hb3⟩))
          go_ret
          exact ⟨ret_bool HF.out.symm, below_trans B2.out hb3⟩
        · have hc := fun W (hW : (xs[k]'hlt).ok W) => fits87_any (xs[k]'hlt) W hW
          rw [hf9] at hc
          have HC := Lib.hid hc
          have HA2 : Hid (∀ j, ∀ hj : j < xs.length, j < k + 1 → fits87 xs[j] = true) := fun j hj hjk => by
            by_cases e : j = k
            · subst e; exact hf9
            · exact HA.out j hj (by omega)
          clear hc hf9 HA
          go_wp2_with (first
            | ((with_reducible refine at_dst (N := 13) rfl ?_); refine ev_loadR rfl 73 _ rfl _ rfl _ HX.out _ Try.underlying73 rfl sz73 ?_)
            | ((with_reducible refine at_dst (N := 4) rfl ?_); refine ev_alloc rfl 73 rfl _ _ zero73 ?_; intro g w1 hg hB hb; have G1 := Lib.hid hB; have B1 := Lib.hid (below_trans HB.out hb); have hgb := Nat.le_trans HB.out.size hg; clear hB hb hg)
            | (refine ev_store rfl 73 _ _ rfl g _ _ rfl rfl 73 G1.out sz73 rfl rfl ?_; intro w2 hB2 hg2 hz2; have G2 := Lib.hid hB2; have B2 := Lib.hid (below_grown B1.out hg2 B1.out.size hgb); clear hB2 hg2 hz2)
            | ((with_reducible refine at_dst (N := 14) rfl ?_); refine ev_loadB rfl 73 _ rfl g rfl 73 _ G2.out _ Try.underlying73 rfl sz73 ?_)
            | (go_at_call 87; (with_reducible refine (HC.out _ ((HK.out xs[k] (List.getElem_mem hlt)).below B2.out)).mono ?_); rintro e w3 ⟨rfl, hb3⟩))
          go_roundw
          case rel => exact ⟨k + 1, by omega, by go_num, HA2, below_trans B2.out hb3⟩
          case measure => simp [intOf]; omega
      · have hf : fits41 xs = true := by
          unfold fits41
          rw [all_yes (p := fits87) (fun j hj => HA.out j hj (by omega)), Bool.and_true]
          simpa using hle
        have HF := Lib.hid hf
        clear hf H HA
        go_wp2
        go_ret
        exact ⟨ret_bool HF.out.symm, HB.out⟩
end Go.Proofs.Ytdgblfldbikneaa
