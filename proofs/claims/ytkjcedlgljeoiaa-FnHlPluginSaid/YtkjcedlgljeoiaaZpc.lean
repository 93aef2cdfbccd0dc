/- Texts Pn2, Zi, Sd, Zj, Zk, Pn3, Pn4, N0, N1, N2, laid together. -/
import Derived.WalkKit
import Derived.WalkLawsBesides
import Derived.WalkSpells
import Derived.Lib.Hide
import Derived.Deep.RegionWith
import Derived.Deep.DeepCutAuto
import Derived.Deep.QuietTactic
import Derived.BigQuiet
import Derived.Laws.OwnMore
import Derived.Deep.LoopGhost
import Derived.KernelRfl
import Derived.Deep.WholeRow
import Derived.StillTail
import Derived.SliceStrings
import Derived.Deep.Slices
import Derived.Deep.Fields
import Derived.ChangeSame
import Derived.Deep.MidRow
import Derived.Maps.AppendAt
import Derived.Lib.AppendStr
import Derived.Lib.ConvBytes
import Derived.Laws.BytesArg
import Derived.Deep.RegionLaw
import Derived.OwnWalk
import Derived.Maps.OwnSet
import Derived.Maps.OwnOps
import Derived.ArgAppend
import Derived.Defers
import Derived.Recover
import Derived.Laws.Pointers
import Derived.Laws.StructEq
import Derived.IntWalk
import Derived.Test.YtkjcedlgljeoiaaProg
import Derived.Test.YtkjcedlgljeoiaaZpb
/- spec.HlCommand; plugin.getPlatformCommand. -/
namespace Go.Proofs.Ytkjcedlgljeoiaa
open Go.RowKit Go.Lib
set_option linter.unusedVariables false
set_option linter.unusedSimpArgs false
abbrev fe (a b : ByteArray) : Bool := (lowF a).toList == (lowF b).toList
abbrev nb (a : ByteArray) : Bool := a.toList == (⟨#[]⟩ : ByteArray).toList
def exB (os arch : ByteArray) (c : Ty110) : Bool := fe c.fOS os && fe c.fArch arch
def pk (os : ByteArray) (st : Nat × Ty110) (c : Ty110) : Nat × Ty110 := if fe c.fOS os && nb c.fArch && decide ((st.1 : Int) < 2) then (2, c) else if nb c.fOS && nb c.fArch && ((st.1 : Int) == 0) then (1, c) else st
def zeroC : Ty110 := ⟨⟨#[]⟩, ⟨#[]⟩, ⟨#[]⟩, none, 0, []⟩
def pickS (os : ByteArray) (cs : List Ty110) : Nat × Ty110 := cs.foldl (pk os) (0, zeroC)
def pickF (os arch : ByteArray) (cs : List Ty110) : Option Ty110 := match cs.find? (exB os arch) with | some c => some c | none => if 0 < (pickS os cs).1 then some (pickS os cs).2 else none
theorem pickS_take {os : ByteArray} {cs : List Ty110} {k : Nat} (h : k < cs.length) : pickS os (cs.take (k + 1)) = pk os (pickS os (cs.take k)) cs[k] := by
  unfold pickS
  rw [List.take_succ_eq_append_getElem h, List.foldl_append]; rfl
theorem pick_hit {os arch : ByteArray} {cs : List Ty110} {k : Nat} (h : k < cs.length) (hno : ∀ j, ∀ hj : j < cs.length, j < k → exB os arch cs[j] = false) (he : exB os arch cs[k] = true) : pickF os arch cs = some cs[k] := by
  have : cs.find? (exB os arch) = some cs[k] := by
    rw [List.find?_eq_some_iff_getElem]
    exact ⟨he, k, h, rfl, fun j hj => by rw [hno j (by omega) hj]; rfl⟩
  unfold pickF; rw [this]
theorem pick_end {os arch : ByteArray} {cs : List Ty110} {k : Nat} (h : cs.length ≤ k) (hno : ∀ j, ∀ hj : j < cs.length, j < k → exB os arch cs[j] = false) : pickF os arch cs = if 0 < (pickS os cs).1 then some (pickS os cs).2 else none := by
  have : cs.find? (exB os arch) = none := by
    rw [List.find?_eq_none]
    intro x hx
    obtain ⟨j, hj, rfl⟩ := List.mem_iff_getElem.1 hx
    rw [hno j hj (by omega)]; simp
  unfold pickF; rw [this]
theorem ex_no {os arch : ByteArray} {c : Ty110} (h : fe c.fOS os = false ∨ fe c.fArch arch = false) : exB os arch c = false := by
  unfold exB; rcases h with h | h <;> rw [h] <;> simp
theorem ex_yes {os arch : ByteArray} {c : Ty110} (h : fe c.fOS os = true) (h2 : fe c.fArch arch = true) : exB os arch c = true := by
  unfold exB; rw [h, h2]; rfl
set_option maxRecDepth 100000 in
set_option maxHeartbeats 20000000 in
theorem hlCommand_any (os : ByteArray) (arch : ByteArray) (A : Option Addr) (d : Nat) (cs : List Ty110) (R : Ctx) (L : List SA) (w : World) (S : Sp R w (L)) (h0 : Rf R L fun w => Rows w (A) 4 (cs.map Ty110.cells)) (hcz : ∀ x ∈ cs, x.fOS.size ≤ 4000000000 ∧ x.fArch.size ≤ 4000000000) :
    Calls Try.prog 57 #[.string os, .string arch, .slice (A) (cs.length) (d)] w fun e w' => ∃ c : Ty110, ∃ b : Bool, e = .returned (.tuple #[.agg #[.string c.fOS, .string c.fArch, .string c.fCommand, .slice c.fArgs_a c.fArgs.length c.fArgs_c], .bool b]) ∧ Sp R w' (L) ∧ (pickF os arch cs = if b then some c else none) := by
  have hl_cs : cs.length ≤ 9223372036854775807 := by have := (h0 _ S).1; simpa [strs, ptrs] using this
  refine fw_enter (fn := Try.f57) rfl rfl 63 rfl (Nat.le_of_ble_eq_true rfl) ?_
  intro a0 F0
  refine wp_seq_k fun K1 hK1 => ?_
  refine wp_region_lit ?_
  refine op_s F0 (s_newp F0 110 #[.string ⟨#[]⟩, .string ⟨#[]⟩, .string ⟨#[]⟩, .slice none 0 0] (by kernel_rfl) (by kernel_rfl) (by kernel_rfl) S) rfl rfl rfl ?_
  rintro _ _ w3 ⟨g1, rfl, rfl⟩ S3 a3 F3
  refine op_p F3 (.bool false) (by kernel_rfl) rfl rfl rfl (by kernel_rfl) rfl ?_; intro a4 F4
  refine wpList_nil ?_
  refine hK1 _ _ ?_; clear hK1 K1
  refine wp_seq_k fun K5 hK5 => ?_
  refine wp_region_lit ?_
  refine op_s F4 (s_newp F4 110 #[.string ⟨#[]⟩, .string ⟨#[]⟩, .string ⟨#[]⟩, .slice none 0 0] (by kernel_rfl) (by kernel_rfl) (by kernel_rfl) S3) rfl rfl rfl ?_
  rintro _ _ w7 ⟨g5, rfl, rfl⟩ S7 a7 F7
  refine wpList_nil ?_
  refine hK5 _ _ ?_; clear hK5 K5
  refine wp_seq_k fun K8 hK8 => ?_
  refine wp_region_lit ?_
  refine op_p F7 (.int .i64 0) (by kernel_rfl) rfl rfl rfl (by kernel_rfl) rfl ?_; intro a9 F9
  refine wpList_nil ?_
  refine hK8 _ _ ?_; clear hK8 K8
  refine wp_seq_k fun K10 hK10 => ?_
  refine wp_seq_k fun K11 hK11 => ?_
  refine wp_region_lit ?_
  refine op_p F9 (.slice (A) (cs.length) (d)) (by kernel_rfl) rfl rfl rfl (by kernel_rfl) rfl ?_; intro a12 F12
  refine op_p F12 (.int .i64 (↑cs.length)) (by kernel_rfl) rfl rfl rfl (by kernel_rfl) rfl ?_; intro a13 F13
  refine op_p F13 (.int .i64 0) (by kernel_rfl) rfl rfl rfl (by kernel_rfl) rfl ?_; intro a14 F14
  refine wpList_nil ?_
  refine hK11 _ _ ?_; clear hK11 K11
  refine wp_block ?_
  refine fw_loop (fun m a' w' => ∃ n : Nat, ∃ c : Ty110, ∃ k : Nat, cs.length - k = m ∧ Fr 63 [] a' [(0, .string os), (1, .string arch), (2, .slice (A) (cs.length) (d)), (6, .pointer (some ⟨g1, 0, none⟩)), (7, .bool false), (8, .pointer (some ⟨g5, 0, none⟩)), (9, .int .i64 (↑n)), (12, .slice (A) (cs.length) (d)), (13, .int .i64 (↑cs.length)), (14, .int .i64 (↑k))] ∧ Sp R w' (SA.blk g1 110 #[.string zeroC.fOS, .string zeroC.fArch, .string zeroC.fCommand, .slice zeroC.fArgs_a zeroC.fArgs.length zeroC.fArgs_c] :: SA.blk g5 110 #[.string c.fOS, .string c.fArch, .string c.fCommand, .slice c.fArgs_a c.fArgs.length c.fArgs_c] :: L) ∧ (k ≤ cs.length) ∧ (n ≤ 2) ∧ (pickS os (cs.take k) = (n, c)) ∧ (∀ j, ∀ hj : j < cs.length, j < k → exB os arch cs[j] = false)) _ ⟨0, zeroC, 0, rfl, (F14.k 0 (by kernel_rfl) (F14.k 1 (by kernel_rfl) (F14.k 2 (by kernel_rfl) (F14.k 6 (by kernel_rfl) (F14.k 7 (by kernel_rfl) (F14.k 8 (by kernel_rfl) (F14.k 9 (by kernel_rfl) (F14.k 12 (by kernel_rfl) (F14.k 13 (by kernel_rfl) (F14.k 14 (by kernel_rfl) F14.nil)))))))))), S7.p1, (by first | omega | (with_reducible assumption) | (simp; done)), (by first | omega | (with_reducible assumption) | (simp; done)), rfl, (fun j _ hj => absurd hj (Nat.not_lt_zero _))⟩ ?_
  rintro m15 a15 w15 ⟨n, c, k, hm15, F15, S15, hk, hn2, hs, hno⟩ K15 hK15
  by_cases hlt_k : k < cs.length
  · have hc_k : decide ((↑k : Int) < ↑cs.length) = true := by first | (simp; done) | (simp; omega)
    have hck := hcz _ (List.getElem_mem hlt_k)
    have hckO : cs[k].fOS.size ≤ 4000000000 := hck.1
    have hckA : cs[k].fArch.size ≤ 4000000000 := hck.2
    obtain ⟨ad16, hA16⟩ := (h0 _ S15.drop.drop).addr (by simp; omega)
    refine wp_seq_k fun K17 hK17 => ?_
    refine wp_region_lit ?_
    refine op_p F15 (.bool (decide ((↑k : Int) < ↑cs.length))) (by kernel_rfl) rfl rfl rfl (by kernel_rfl) rfl ?_; intro a18 F18
    have F19 := F18.sb 15 (by kernel_rfl) hc_k
    refine wpList_nil ?_
    refine hK17 _ _ ?_; clear hK17 K17
    refine wp_seq_k fun K20 hK20 => ?_
    refine wp_cond_true (F19.ev (by kernel_rfl)) ?_
    refine wp_skip ?_
    refine hK20 _ _ ?_; clear hK20 K20
    refine wp_seq_k fun K21 hK21 => ?_
    refine wp_block ?_
    refine wp_seq_k fun K22 hK22 => ?_
    refine wp_region_lit ?_
    refine op_r (v := .pointer (some (ad16.add (k * 4)))) F19 (r_ix rfl Try.underlying105 4 (by kernel_rfl) (F19.ev (v := .slice (A) (cs.length) (d)) (by kernel_rfl)) hA16 (F19.ev (v := .int .i64 (↑k)) (by kernel_rfl)) k (by first | rfl | omega | simp) (by first | omega | (simp; done) | (simp; omega)) (rfl)) rfl rfl rfl ?_; intro a23 F23
    refine op_r (v := .agg #[.string cs[k].fOS, .string cs[k].fArch, .string cs[k].fCommand, .slice cs[k].fArgs_a cs[k].fArgs.length cs[k].fArgs_c]) F23 (r_ldR rfl (F23.ev (v := .pointer (some (ad16.add (k * 4)))) (by kernel_rfl)) (cs := [.string cs[k].fOS, .string cs[k].fArch, .string cs[k].fCommand, .slice cs[k].fArgs_a cs[k].fArgs.length cs[k].fArgs_c]) ((h0 _ S15.drop.drop).elA hA16 (j := k) (row := cs[k].cells) (by rw [List.getElem?_map, List.getElem?_eq_getElem hlt_k]; rfl)) Try.underlying110 rfl (by kernel_rfl) (v := #[.string cs[k].fOS, .string cs[k].fArch, .string cs[k].fCommand, .slice cs[k].fArgs_a cs[k].fArgs.length cs[k].fArgs_c]) (by kernel_rfl)) rfl rfl rfl ?_; intro a24 F24
    refine op_s F24 (s_newp F24 110 #[.string ⟨#[]⟩, .string ⟨#[]⟩, .string ⟨#[]⟩, .slice none 0 0] (by kernel_rfl) (by kernel_rfl) (by kernel_rfl) S15) rfl rfl rfl ?_
    rintro _ _ w26 ⟨g24, rfl, rfl⟩ S26 a26 F26
    refine op_s0 F26 (s_stb rfl (F26.ev (v := .pointer (some ⟨g24, 0, none⟩)) (by kernel_rfl)) (F26.ev (v := .agg #[.string cs[k].fOS, .string cs[k].fArch, .string cs[k].fCommand, .slice cs[k].fArgs_a cs[k].fArgs.length cs[k].fArgs_c]) (by kernel_rfl)) S26 (by kernel_rfl) rfl (by kernel_rfl)) rfl rfl ?_
    rintro _ _ w27 rfl S27 F27
    refine wpList_nil ?_
    refine hK22 _ _ ?_; clear hK22 K22
    refine wp_block ?_
    refine wp_seq_k fun K28 hK28 => ?_
    refine wp_region_lit ?_
    refine op_p F27 (.pointer (some ⟨g24, 0, none⟩)) (by kernel_rfl) rfl rfl rfl (by kernel_rfl) rfl ?_; intro a29 F29
    refine op_r (v := .string cs[k].fOS) F29 (r_ld rfl (F29.ev (v := .pointer (some ⟨g24, 0, none⟩)) (by kernel_rfl)) (v := .string cs[k].fOS) ((S27.bk 0 rfl).cell 0) Try.underlying9 rfl) rfl rfl rfl ?_; intro a30 F30
    refine op_p F30 (.string os) (by kernel_rfl) rfl rfl rfl (by kernel_rfl) rfl ?_; intro a31 F31
    refine op_c F31 (f := 112) (args := #[.string cs[k].fOS, .string os]) (by kernel_rfl) (by kernel_rfl) rfl (hlFold_any cs[k].fOS os _ _ _ S27 (by first | omega | (simp; done) | (simp; omega))) rfl rfl rfl ?_
    rintro _ w32 ⟨rfl, S32⟩
    refine ⟨_, rfl, ?_⟩
    intro a33 F33
    refine op_p F33 (.bool ((lowF cs[k].fOS).toList == (lowF os).toList)) (by kernel_rfl) rfl rfl rfl (by kernel_rfl) rfl ?_; intro a34 F34
    rcases btf ((lowF cs[k].fOS).toList == (lowF os).toList) with hc35 | hc35
    · have F36 := F34.sb 22 (by kernel_rfl) hc35
      have F37 := F36.sb 23 (by kernel_rfl) hc35
      refine op_want F37 (by kernel_rfl) rfl ?_
      refine op_p F37 (.pointer (some ⟨g24, 1, none⟩)) (by kernel_rfl) rfl rfl rfl (by kernel_rfl) rfl ?_; intro a38 F38
      refine op_want F38 (by kernel_rfl) rfl ?_
      refine op_r (v := .string cs[k].fArch) F38 (r_ld rfl (F38.ev (v := .pointer (some ⟨g24, 1, none⟩)) (by kernel_rfl)) (v := .string cs[k].fArch) ((S32.bk 0 rfl).cell 1) Try.underlying9 rfl) rfl rfl rfl ?_; intro a39 F39
      refine op_want F39 (by kernel_rfl) rfl ?_
      refine op_p F39 (.string arch) (by kernel_rfl) rfl rfl rfl (by kernel_rfl) rfl ?_; intro a40 F40
      refine op_want F40 (by kernel_rfl) rfl ?_
      refine op_c F40 (f := 112) (args := #[.string cs[k].fArch, .string arch]) (by kernel_rfl) (by kernel_rfl) rfl (hlFold_any cs[k].fArch arch _ _ _ S32 (by first | omega | (simp; done) | (simp; omega))) rfl rfl rfl ?_
      rintro _ w41 ⟨rfl, S41⟩
      refine ⟨_, rfl, ?_⟩
      intro a42 F42
      refine op_p F42 (.bool ((lowF cs[k].fArch).toList == (lowF arch).toList)) (by kernel_rfl) rfl rfl rfl (by kernel_rfl) rfl ?_; intro a43 F43
      refine op_p F43 (.bool ((lowF cs[k].fArch).toList == (lowF arch).toList)) (by kernel_rfl) rfl rfl rfl (by kernel_rfl) rfl ?_; intro a44 F44
      refine wpList_nil ?_
      refine hK28 _ _ ?_; clear hK28 K28
      rcases btf ((lowF cs[k].fArch).toList == (lowF arch).toList) with hc45 | hc45
      · have F46 := F44.sb 27 (by kernel_rfl) hc45
        have F47 := F46.sb 28 (by kernel_rfl) hc45
        have F48 := F47.sb 18 (by kernel_rfl) hc45
        refine wp_cond_true (F48.ev (by kernel_rfl)) ?_
        refine wp_seq_k fun K49 hK49 => ?_
        refine wp_region_lit ?_
        refine op_r (v := .agg #[.string cs[k].fOS, .string cs[k].fArch, .string cs[k].fCommand, .slice cs[k].fArgs_a cs[k].fArgs.length cs[k].fArgs_c]) F48 (r_ldm rfl (F48.ev (v := .pointer (some ⟨g24, 0, none⟩)) (by kernel_rfl)) (S41.bk 0 rfl) 4 (by kernel_rfl) Try.underlying110 rfl (by kernel_rfl) (v := #[.string cs[k].fOS, .string cs[k].fArch, .string cs[k].fCommand, .slice cs[k].fArgs_a cs[k].fArgs.length cs[k].fArgs_c]) (by kernel_rfl)) rfl rfl rfl ?_; intro a50 F50
        refine op_s0 F50 (s_stb rfl (F50.ev (v := .pointer (some ⟨g1, 0, none⟩)) (by kernel_rfl)) (F50.ev (v := .agg #[.string cs[k].fOS, .string cs[k].fArch, .string cs[k].fCommand, .slice cs[k].fArgs_a cs[k].fArgs.length cs[k].fArgs_c]) (by kernel_rfl)) S41.p1 (by kernel_rfl) rfl (by kernel_rfl)) rfl rfl ?_
        rintro _ _ w51 rfl S51 F51
        refine op_p F51 (.bool true) (by kernel_rfl) rfl rfl rfl (by kernel_rfl) rfl ?_; intro a52 F52
        refine wpList_nil ?_
        refine hK49 _ _ ?_; clear hK49 K49
        refine wp_ret ?_
        refine ret_in ?_
        refine ret_in ?_
        refine ret_then ?_
        refine ret_then ?_
        refine ret_in ?_
        refine ret_then ?_
        refine (F52.resC (results2 Try.results57 (F52.rvc (p := ⟨g1, 0, none⟩) (by kernel_rfl) (ld_mid (S51.bk 0 rfl) 4 (by kernel_rfl) Try.underlying110 rfl (by kernel_rfl) (v := #[.string cs[k].fOS, .string cs[k].fArch, .string cs[k].fCommand, .slice cs[k].fArgs_a cs[k].fArgs.length cs[k].fArgs_c]) (by kernel_rfl))) (F52.rvt (v := .bool true) (by kernel_rfl))) ?_).1
        exact ⟨cs[k], true, rfl, S51.drop.drop.drop, (pick_hit hlt_k hno (ex_yes hc35 hc45))⟩
      · have F53 := F44.sb 27 (by kernel_rfl) hc45
        have F54 := F53.sb 28 (by kernel_rfl) hc45
        have F55 := F54.sb 18 (by kernel_rfl) hc45
        refine wp_cond_false (F55.ev (by kernel_rfl)) ?_
        refine wp_seq_k fun K56 hK56 => ?_
        refine wp_region_lit ?_
        refine op_p F55 (.pointer (some ⟨g24, 0, none⟩)) (by kernel_rfl) rfl rfl rfl (by kernel_rfl) rfl ?_; intro a57 F57
        refine op_r (v := .string cs[k].fOS) F57 (r_ld rfl (F57.ev (v := .pointer (some ⟨g24, 0, none⟩)) (by kernel_rfl)) (v := .string cs[k].fOS) ((S41.bk 0 rfl).cell 0) Try.underlying9 rfl) rfl rfl rfl ?_; intro a58 F58
        refine op_p F58 (.string os) (by kernel_rfl) rfl rfl rfl (by kernel_rfl) rfl ?_; intro a59 F59
        refine op_c F59 (f := 112) (args := #[.string cs[k].fOS, .string os]) (by kernel_rfl) (by kernel_rfl) rfl (hlFold_any cs[k].fOS os _ _ _ S41 (by first | omega | (simp; done) | (simp; omega))) rfl rfl rfl ?_
        rintro _ w60 ⟨rfl, S60⟩
        refine ⟨_, rfl, ?_⟩
        intro a61 F61
        have F62 := F61.sb 34 (by kernel_rfl) hc35
        refine op_p F62 (.bool true) (by kernel_rfl) rfl rfl rfl (by kernel_rfl) rfl ?_; intro a63 F63
        refine op_want F63 (by kernel_rfl) rfl ?_
        refine op_p F63 (.pointer (some ⟨g24, 1, none⟩)) (by kernel_rfl) rfl rfl rfl (by kernel_rfl) rfl ?_; intro a64 F64
        refine op_want F64 (by kernel_rfl) rfl ?_
        refine op_r (v := .string cs[k].fArch) F64 (r_ld rfl (F64.ev (v := .pointer (some ⟨g24, 1, none⟩)) (by kernel_rfl)) (v := .string cs[k].fArch) ((S60.bk 0 rfl).cell 1) Try.underlying9 rfl) rfl rfl rfl ?_; intro a65 F65
        refine op_want F65 (by kernel_rfl) rfl ?_
        refine op_p F65 (.bool (cs[k].fArch.toList == (⟨#[]⟩ : ByteArray).toList)) (by kernel_rfl) rfl rfl rfl (by kernel_rfl) rfl ?_; intro a66 F66
        refine op_p F66 (.bool (cs[k].fArch.toList == (⟨#[]⟩ : ByteArray).toList)) (by kernel_rfl) rfl rfl rfl (by kernel_rfl) rfl ?_; intro a67 F67
        refine op_p F67 (.bool (cs[k].fArch.toList == (⟨#[]⟩ : ByteArray).toList)) (by kernel_rfl) rfl rfl rfl (by kernel_rfl) rfl ?_; intro a68 F68
        rcases btf (cs[k].fArch.toList == (⟨#[]⟩ : ByteArray).toList) with hc69 | hc69
        · have F70 := F68.sb 38 (by kernel_rfl) hc69
          have F71 := F70.sb 39 (by kernel_rfl) hc69
          have F72 := F71.sb 40 (by kernel_rfl) hc69
          refine op_want F72 (by kernel_rfl) rfl ?_
          refine op_p F72 (.int .i64 (↑n)) (by kernel_rfl) rfl rfl rfl (by kernel_rfl) rfl ?_; intro a73 F73
          refine op_want F73 (by kernel_rfl) rfl ?_
          refine op_p F73 (.bool (decide ((↑n : Int) < 2))) (by kernel_rfl) rfl rfl rfl (by kernel_rfl) rfl ?_; intro a74 F74
          refine op_p F74 (.bool (decide ((↑n : Int) < 2))) (by kernel_rfl) rfl rfl rfl (by kernel_rfl) rfl ?_; intro a75 F75
          refine op_p F75 (.bool (decide ((↑n : Int) < 2))) (by kernel_rfl) rfl rfl rfl (by kernel_rfl) rfl ?_; intro a76 F76
          refine wpList_nil ?_
          refine hK56 _ _ ?_; clear hK56 K56
          rcases btf (decide ((↑n : Int) < 2)) with hc77 | hc77
          · have hc77p := of_decide_eq_true hc77
            have F78 := F76.sb 42 (by kernel_rfl) hc77
            have F79 := F78.sb 43 (by kernel_rfl) hc77
            have F80 := F79.sb 30 (by kernel_rfl) hc77
            refine wp_cond_true (F80.ev (by kernel_rfl)) ?_
            refine wp_region_lit ?_
            refine op_r (v := .agg #[.string cs[k].fOS, .string cs[k].fArch, .string cs[k].fCommand, .slice cs[k].fArgs_a cs[k].fArgs.length cs[k].fArgs_c]) F80 (r_ldm rfl (F80.ev (v := .pointer (some ⟨g24, 0, none⟩)) (by kernel_rfl)) (S60.bk 0 rfl) 4 (by kernel_rfl) Try.underlying110 rfl (by kernel_rfl) (v := #[.string cs[k].fOS, .string cs[k].fArch, .string cs[k].fCommand, .slice cs[k].fArgs_a cs[k].fArgs.length cs[k].fArgs_c]) (by kernel_rfl)) rfl rfl rfl ?_; intro a81 F81
            refine op_s0 F81 (s_stb rfl (F81.ev (v := .pointer (some ⟨g5, 0, none⟩)) (by kernel_rfl)) (F81.ev (v := .agg #[.string cs[k].fOS, .string cs[k].fArch, .string cs[k].fCommand, .slice cs[k].fArgs_a cs[k].fArgs.length cs[k].fArgs_c]) (by kernel_rfl)) S60.p2 (by kernel_rfl) rfl (by kernel_rfl)) rfl rfl ?_
            rintro _ _ w82 rfl S82 F82
            refine op_p F82 (.int .i64 2) (by kernel_rfl) rfl rfl rfl (by kernel_rfl) rfl ?_; intro a83 F83
            refine wpList_nil ?_
            refine hK21 _ _ ?_; clear hK21 K21
            refine wp_region_lit ?_
            refine op_r (v := .int .i64 (↑(k + 1))) F83 (r_add (z := ↑(k + 1)) rfl (F83.ev (v := .int .i64 (↑k)) (by kernel_rfl)) (F83.ev (v := .int .i64 1) (by kernel_rfl)) (wr64 (by omega) (by omega) (by omega))) rfl rfl rfl ?_; intro a84 F84
            refine op_p F84 (.int .i64 (↑(k + 1))) (by kernel_rfl) rfl rfl rfl (by kernel_rfl) rfl ?_; intro a85 F85
            refine wpList_nil ?_
            exact hK15 _ _ _ (by first | omega | (simp; omega)) ⟨2, cs[k], k + 1, rfl, (F85.k 0 (by kernel_rfl) (F85.k 1 (by kernel_rfl) (F85.k 2 (by kernel_rfl) (F85.k 6 (by kernel_rfl) (F85.k 7 (by kernel_rfl) (F85.k 8 (by kernel_rfl) (F85.k 9 (by kernel_rfl) (F85.k 12 (by kernel_rfl) (F85.k 13 (by kernel_rfl) (F85.k 14 (by kernel_rfl) F85.nil)))))))))), S82.p1.drop.p1, (by first | omega | (with_reducible assumption) | (simp; done)), (by first | omega | (with_reducible assumption) | (simp; done)), (by rw [pickS_take hlt_k, hs]; simp only [pk, fe, nb, hc35, hc45, hc69, hc77, Bool.and_true, Bool.true_and, Bool.and_false, Bool.false_and, Bool.false_eq_true, if_true, if_false]), (fun j hj h => (Nat.lt_succ_iff_lt_or_eq.1 h).elim (hno j hj) (fun e => by subst e; exact ex_no (Or.inr hc45)))⟩
          · have hc77p := of_decide_eq_false hc77
            have F86 := F76.sb 42 (by kernel_rfl) hc77
            have F87 := F86.sb 43 (by kernel_rfl) hc77
            have F88 := F87.sb 30 (by kernel_rfl) hc77
            refine wp_cond_false (F88.ev (by kernel_rfl)) ?_
            refine wp_seq_k fun K89 hK89 => ?_
            refine wp_region_lit ?_
            refine op_p F88 (.pointer (some ⟨g24, 0, none⟩)) (by kernel_rfl) rfl rfl rfl (by kernel_rfl) rfl ?_; intro a90 F90
            refine op_r (v := .string cs[k].fOS) F90 (r_ld rfl (F90.ev (v := .pointer (some ⟨g24, 0, none⟩)) (by kernel_rfl)) (v := .string cs[k].fOS) ((S60.bk 0 rfl).cell 0) Try.underlying9 rfl) rfl rfl rfl ?_; intro a91 F91
            refine op_p F91 (.bool (cs[k].fOS.toList == (⟨#[]⟩ : ByteArray).toList)) (by kernel_rfl) rfl rfl rfl (by kernel_rfl) rfl ?_; intro a92 F92
            refine op_p F92 (.bool (cs[k].fOS.toList == (⟨#[]⟩ : ByteArray).toList)) (by kernel_rfl) rfl rfl rfl (by kernel_rfl) rfl ?_; intro a93 F93
            rcases btf (cs[k].fOS.toList == (⟨#[]⟩ : ByteArray).toList) with hc94 | hc94
            · have F95 := F93.sb 48 (by kernel_rfl) hc94
              have F96 := F95.sb 49 (by kernel_rfl) hc94
              refine op_want F96 (by kernel_rfl) rfl ?_
              refine op_p F96 (.pointer (some ⟨g24, 1, none⟩)) (by kernel_rfl) rfl rfl rfl (by kernel_rfl) rfl ?_; intro a97 F97
              refine op_want F97 (by kernel_rfl) rfl ?_
              refine op_r (v := .string cs[k].fArch) F97 (r_ld rfl (F97.ev (v := .pointer (some ⟨g24, 1, none⟩)) (by kernel_rfl)) (v := .string cs[k].fArch) ((S60.bk 0 rfl).cell 1) Try.underlying9 rfl) rfl rfl rfl ?_; intro a98 F98
              refine op_want F98 (by kernel_rfl) rfl ?_
              refine op_p F98 (.bool (cs[k].fArch.toList == (⟨#[]⟩ : ByteArray).toList)) (by kernel_rfl) rfl rfl rfl (by kernel_rfl) rfl ?_; intro a99 F99
              have F100 := F99.sb 52 (by kernel_rfl) hc69
              refine op_p F100 (.bool true) (by kernel_rfl) rfl rfl rfl (by kernel_rfl) rfl ?_; intro a101 F101
              refine op_p F101 (.bool true) (by kernel_rfl) rfl rfl rfl (by kernel_rfl) rfl ?_; intro a102 F102
              refine op_want F102 (by kernel_rfl) rfl ?_
              refine op_p F102 (.int .i64 (↑n)) (by kernel_rfl) rfl rfl rfl (by kernel_rfl) rfl ?_; intro a103 F103
              refine op_want F103 (by kernel_rfl) rfl ?_
              refine op_p F103 (.bool ((↑n : Int) == 0)) (by kernel_rfl) rfl rfl rfl (by kernel_rfl) rfl ?_; intro a104 F104
              refine op_p F104 (.bool ((↑n : Int) == 0)) (by kernel_rfl) rfl rfl rfl (by kernel_rfl) rfl ?_; intro a105 F105
              refine op_p F105 (.bool ((↑n : Int) == 0)) (by kernel_rfl) rfl rfl rfl (by kernel_rfl) rfl ?_; intro a106 F106
              refine wpList_nil ?_
              refine hK89 _ _ ?_; clear hK89 K89
              rcases btf ((↑n : Int) == 0) with hc107 | hc107
              · have hc107p := eq_of_beq hc107
                have F108 := F106.sb 56 (by kernel_rfl) hc107
                have F109 := F108.sb 57 (by kernel_rfl) hc107
                have F110 := F109.sb 45 (by kernel_rfl) hc107
                refine wp_cond_true (F110.ev (by kernel_rfl)) ?_
                refine wp_region_lit ?_
                refine op_r (v := .agg #[.string cs[k].fOS, .string cs[k].fArch, .string cs[k].fCommand, .slice cs[k].fArgs_a cs[k].fArgs.length cs[k].fArgs_c]) F110 (r_ldm rfl (F110.ev (v := .pointer (some ⟨g24, 0, none⟩)) (by kernel_rfl)) (S60.bk 0 rfl) 4 (by kernel_rfl) Try.underlying110 rfl (by kernel_rfl) (v := #[.string cs[k].fOS, .string cs[k].fArch, .string cs[k].fCommand, .slice cs[k].fArgs_a cs[k].fArgs.length cs[k].fArgs_c]) (by kernel_rfl)) rfl rfl rfl ?_; intro a111 F111
                refine op_s0 F111 (s_stb rfl (F111.ev (v := .pointer (some ⟨g5, 0, none⟩)) (by kernel_rfl)) (F111.ev (v := .agg #[.string cs[k].fOS, .string cs[k].fArch, .string cs[k].fCommand, .slice cs[k].fArgs_a cs[k].fArgs.length cs[k].fArgs_c]) (by kernel_rfl)) S60.p2 (by kernel_rfl) rfl (by kernel_rfl)) rfl rfl ?_
                rintro _ _ w112 rfl S112 F112
                refine op_p F112 (.int .i64 1) (by kernel_rfl) rfl rfl rfl (by kernel_rfl) rfl ?_; intro a113 F113
                refine wpList_nil ?_
                refine hK21 _ _ ?_; clear hK21 K21
                refine wp_region_lit ?_
                refine op_r (v := .int .i64 (↑(k + 1))) F113 (r_add (z := ↑(k + 1)) rfl (F113.ev (v := .int .i64 (↑k)) (by kernel_rfl)) (F113.ev (v := .int .i64 1) (by kernel_rfl)) (wr64 (by omega) (by omega) (by omega))) rfl rfl rfl ?_; intro a114 F114
                refine op_p F114 (.int .i64 (↑(k + 1))) (by kernel_rfl) rfl rfl rfl (by kernel_rfl) rfl ?_; intro a115 F115
                refine wpList_nil ?_
                exact hK15 _ _ _ (by first | omega | (simp; omega)) ⟨1, cs[k], k + 1, rfl, (F115.k 0 (by kernel_rfl) (F115.k 1 (by kernel_rfl) (F115.k 2 (by kernel_rfl) (F115.k 6 (by kernel_rfl) (F115.k 7 (by kernel_rfl) (F115.k 8 (by kernel_rfl) (F115.k 9 (by kernel_rfl) (F115.k 12 (by kernel_rfl) (F115.k 13 (by kernel_rfl) (F115.k 14 (by kernel_rfl) F115.nil)))))))))), S112.p1.drop.p1, (by first | omega | (with_reducible assumption) | (simp; done)), (by first | omega | (with_reducible assumption) | (simp; done)), (by rw [pickS_take hlt_k, hs]; simp only [pk, fe, nb, hc35, hc45, hc69, hc77, hc94, hc107, Bool.and_true, Bool.true_and, Bool.and_false, Bool.false_and, Bool.false_eq_true, if_true, if_false]), (fun j hj h => (Nat.lt_succ_iff_lt_or_eq.1 h).elim (hno j hj) (fun e => by subst e; exact ex_no (Or.inr hc45)))⟩
              · have hc107p := ne_of_beq_false hc107
                have F116 := F106.sb 56 (by kernel_rfl) hc107
                have F117 := F116.sb 57 (by kernel_rfl) hc107
                have F118 := F117.sb 45 (by kernel_rfl) hc107
                refine wp_cond_false (F118.ev (by kernel_rfl)) ?_
                refine wp_skip ?_
                refine hK21 _ _ ?_; clear hK21 K21
                refine wp_region_lit ?_
                refine op_r (v := .int .i64 (↑(k + 1))) F118 (r_add (z := ↑(k + 1)) rfl (F118.ev (v := .int .i64 (↑k)) (by kernel_rfl)) (F118.ev (v := .int .i64 1) (by kernel_rfl)) (wr64 (by omega) (by omega) (by omega))) rfl rfl rfl ?_; intro a119 F119
                refine op_p F119 (.int .i64 (↑(k + 1))) (by kernel_rfl) rfl rfl rfl (by kernel_rfl) rfl ?_; intro a120 F120
                refine wpList_nil ?_
                exact hK15 _ _ _ (by first | omega | (simp; omega)) ⟨n, c, k + 1, rfl, (F120.k 0 (by kernel_rfl) (F120.k 1 (by kernel_rfl) (F120.k 2 (by kernel_rfl) (F120.k 6 (by kernel_rfl) (F120.k 7 (by kernel_rfl) (F120.k 8 (by kernel_rfl) (F120.k 9 (by kernel_rfl) (F120.k 12 (by kernel_rfl) (F120.k 13 (by kernel_rfl) (F120.k 14 (by kernel_rfl) F120.nil)))))))))), S60.drop.p1.p1, (by first | omega | (with_reducible assumption) | (simp; done)), (by first | omega | (with_reducible assumption) | (simp; done)), (by rw [pickS_take hlt_k, hs]; simp only [pk, fe, nb, hc35, hc45, hc69, hc77, hc94, hc107, Bool.and_true, Bool.true_and, Bool.and_false, Bool.false_and, Bool.false_eq_true, if_true, if_false]), (fun j hj h => (Nat.lt_succ_iff_lt_or_eq.1 h).elim (hno j hj) (fun e => by subst e; exact ex_no (Or.inr hc45)))⟩
            · have F121 := F93.sb 48 (by kernel_rfl) hc94
              have F122 := F121.sb 49 (by kernel_rfl) hc94
              refine op_skip F122 (by kernel_rfl) rfl rfl rfl ?_; intro a123 F123
              refine op_skip F123 (by kernel_rfl) rfl rfl rfl ?_; intro a124 F124
              refine op_skip F124 (by kernel_rfl) rfl rfl rfl ?_; intro a125 F125
              refine op_p F125 (.bool false) (by kernel_rfl) rfl rfl rfl (by kernel_rfl) rfl ?_; intro a126 F126
              refine op_p F126 (.bool false) (by kernel_rfl) rfl rfl rfl (by kernel_rfl) rfl ?_; intro a127 F127
              refine op_skip F127 (by kernel_rfl) rfl rfl rfl ?_; intro a128 F128
              refine op_skip F128 (by kernel_rfl) rfl rfl rfl ?_; intro a129 F129
              refine op_p F129 (.bool false) (by kernel_rfl) rfl rfl rfl (by kernel_rfl) rfl ?_; intro a130 F130
              refine op_p F130 (.bool false) (by kernel_rfl) rfl rfl rfl (by kernel_rfl) rfl ?_; intro a131 F131
              refine wpList_nil ?_
              refine hK89 _ _ ?_; clear hK89 K89
              refine wp_cond_false (F131.ev (by kernel_rfl)) ?_
              refine wp_skip ?_
              refine hK21 _ _ ?_; clear hK21 K21
              refine wp_region_lit ?_
              refine op_r (v := .int .i64 (↑(k + 1))) F131 (r_add (z := ↑(k + 1)) rfl (F131.ev (v := .int .i64 (↑k)) (by kernel_rfl)) (F131.ev (v := .int .i64 1) (by kernel_rfl)) (wr64 (by omega) (by omega) (by omega))) rfl rfl rfl ?_; intro a132 F132
              refine op_p F132 (.int .i64 (↑(k + 1))) (by kernel_rfl) rfl rfl rfl (by kernel_rfl) rfl ?_; intro a133 F133
              refine wpList_nil ?_
              exact hK15 _ _ _ (by first | omega | (simp; omega)) ⟨n, c, k + 1, rfl, (F133.k 0 (by kernel_rfl) (F133.k 1 (by kernel_rfl) (F133.k 2 (by kernel_rfl) (F133.k 6 (by kernel_rfl) (F133.k 7 (by kernel_rfl) (F133.k 8 (by kernel_rfl) (F133.k 9 (by kernel_rfl) (F133.k 12 (by kernel_rfl) (F133.k 13 (by kernel_rfl) (F133.k 14 (by kernel_rfl) F133.nil)))))))))), S60.drop.p1.p1, (by first | omega | (with_reducible assumption) | (simp; done)), (by first | omega | (with_reducible assumption) | (simp; done)), (by rw [pickS_take hlt_k, hs]; simp only [pk, fe, nb, hc35, hc45, hc69, hc77, hc94, Bool.and_true, Bool.true_and, Bool.and_false, Bool.false_and, Bool.false_eq_true, if_true, if_false]), (fun j hj h => (Nat.lt_succ_iff_lt_or_eq.1 h).elim (hno j hj) (fun e => by subst e; exact ex_no (Or.inr hc45)))⟩
        · have F134 := F68.sb 38 (by kernel_rfl) hc69
          have F135 := F134.sb 39 (by kernel_rfl) hc69
          have F136 := F135.sb 40 (by kernel_rfl) hc69
          refine op_skip F136 (by kernel_rfl) rfl rfl rfl ?_; intro a137 F137
          refine op_skip F137 (by kernel_rfl) rfl rfl rfl ?_; intro a138 F138
          refine op_p F138 (.bool false) (by kernel_rfl) rfl rfl rfl (by kernel_rfl) rfl ?_; intro a139 F139
          refine op_p F139 (.bool false) (by kernel_rfl) rfl rfl rfl (by kernel_rfl) rfl ?_; intro a140 F140
          refine wpList_nil ?_
          refine hK56 _ _ ?_; clear hK56 K56
          refine wp_cond_false (F140.ev (by kernel_rfl)) ?_
          refine wp_seq_k fun K141 hK141 => ?_
          refine wp_region_lit ?_
          refine op_p F140 (.pointer (some ⟨g24, 0, none⟩)) (by kernel_rfl) rfl rfl rfl (by kernel_rfl) rfl ?_; intro a142 F142
          refine op_r (v := .string cs[k].fOS) F142 (r_ld rfl (F142.ev (v := .pointer (some ⟨g24, 0, none⟩)) (by kernel_rfl)) (v := .string cs[k].fOS) ((S60.bk 0 rfl).cell 0) Try.underlying9 rfl) rfl rfl rfl ?_; intro a143 F143
          refine op_p F143 (.bool (cs[k].fOS.toList == (⟨#[]⟩ : ByteArray).toList)) (by kernel_rfl) rfl rfl rfl (by kernel_rfl) rfl ?_; intro a144 F144
          refine op_p F144 (.bool (cs[k].fOS.toList == (⟨#[]⟩ : ByteArray).toList)) (by kernel_rfl) rfl rfl rfl (by kernel_rfl) rfl ?_; intro a145 F145
          rcases btf (cs[k].fOS.toList == (⟨#[]⟩ : ByteArray).toList) with hc146 | hc146
          · have F147 := F145.sb 48 (by kernel_rfl) hc146
            have F148 := F147.sb 49 (by kernel_rfl) hc146
            refine op_want F148 (by kernel_rfl) rfl ?_
            refine op_p F148 (.pointer (some ⟨g24, 1, none⟩)) (by kernel_rfl) rfl rfl rfl (by kernel_rfl) rfl ?_; intro a149 F149
            refine op_want F149 (by kernel_rfl) rfl ?_
            refine op_r (v := .string cs[k].fArch) F149 (r_ld rfl (F149.ev (v := .pointer (some ⟨g24, 1, none⟩)) (by kernel_rfl)) (v := .string cs[k].fArch) ((S60.bk 0 rfl).cell 1) Try.underlying9 rfl) rfl rfl rfl ?_; intro a150 F150
            refine op_want F150 (by kernel_rfl) rfl ?_
            refine op_p F150 (.bool (cs[k].fArch.toList == (⟨#[]⟩ : ByteArray).toList)) (by kernel_rfl) rfl rfl rfl (by kernel_rfl) rfl ?_; intro a151 F151
            have F152 := F151.sb 52 (by kernel_rfl) hc69
            refine op_p F152 (.bool false) (by kernel_rfl) rfl rfl rfl (by kernel_rfl) rfl ?_; intro a153 F153
            refine op_p F153 (.bool false) (by kernel_rfl) rfl rfl rfl (by kernel_rfl) rfl ?_; intro a154 F154
            refine op_skip F154 (by kernel_rfl) rfl rfl rfl ?_; intro a155 F155
            refine op_skip F155 (by kernel_rfl) rfl rfl rfl ?_; intro a156 F156
            refine op_p F156 (.bool false) (by kernel_rfl) rfl rfl rfl (by kernel_rfl) rfl ?_; intro a157 F157
            refine op_p F157 (.bool false) (by kernel_rfl) rfl rfl rfl (by kernel_rfl) rfl ?_; intro a158 F158
            refine wpList_nil ?_
            refine hK141 _ _ ?_; clear hK141 K141
            refine wp_cond_false (F158.ev (by kernel_rfl)) ?_
            refine wp_skip ?_
            refine hK21 _ _ ?_; clear hK21 K21
            refine wp_region_lit ?_
            refine op_r (v := .int .i64 (↑(k + 1))) F158 (r_add (z := ↑(k + 1)) rfl (F158.ev (v := .int .i64 (↑k)) (by kernel_rfl)) (F158.ev (v := .int .i64 1) (by kernel_rfl)) (wr64 (by omega) (by omega) (by omega))) rfl rfl rfl ?_; intro a159 F159
            refine op_p F159 (.int .i64 (↑(k + 1))) (by kernel_rfl) rfl rfl rfl (by kernel_rfl) rfl ?_; intro a160 F160
            refine wpList_nil ?_
            exact hK15 _ _ _ (by first | omega | (simp; omega)) ⟨n, c, k + 1, rfl, (F160.k 0 (by kernel_rfl) (F160.k 1 (by kernel_rfl) (F160.k 2 (by kernel_rfl) (F160.k 6 (by kernel_rfl) (F160.k 7 (by kernel_rfl) (F160.k 8 (by kernel_rfl) (F160.k 9 (by kernel_rfl) (F160.k 12 (by kernel_rfl) (F160.k 13 (by kernel_rfl) (F160.k 14 (by kernel_rfl) F160.nil)))))))))), S60.drop.p1.p1, (by first | omega | (with_reducible assumption) | (simp; done)), (by first | omega | (with_reducible assumption) | (simp; done)), (by rw [pickS_take hlt_k, hs]; simp only [pk, fe, nb, hc35, hc45, hc69, hc146, Bool.and_true, Bool.true_and, Bool.and_false, Bool.false_and, Bool.false_eq_true, if_true, if_false]), (fun j hj h => (Nat.lt_succ_iff_lt_or_eq.1 h).elim (hno j hj) (fun e => by subst e; exact ex_no (Or.inr hc45)))⟩
          · have F161 := F145.sb 48 (by kernel_rfl) hc146
            have F162 := F161.sb 49 (by kernel_rfl) hc146
            refine op_skip F162 (by kernel_rfl) rfl rfl rfl ?_; intro a163 F163
            refine op_skip F163 (by kernel_rfl) rfl rfl rfl ?_; intro a164 F164
            refine op_skip F164 (by kernel_rfl) rfl rfl rfl ?_; intro a165 F165
            refine op_p F165 (.bool false) (by kernel_rfl) rfl rfl rfl (by kernel_rfl) rfl ?_; intro a166 F166
            refine op_p F166 (.bool false) (by kernel_rfl) rfl rfl rfl (by kernel_rfl) rfl ?_; intro a167 F167
            refine op_skip F167 (by kernel_rfl) rfl rfl rfl ?_; intro a168 F168
            refine op_skip F168 (by kernel_rfl) rfl rfl rfl ?_; intro a169 F169
            refine op_p F169 (.bool false) (by kernel_rfl) rfl rfl rfl (by kernel_rfl) rfl ?_; intro a170 F170
            refine op_p F170 (.bool false) (by kernel_rfl) rfl rfl rfl (by kernel_rfl) rfl ?_; intro a171 F171
            refine wpList_nil ?_
            refine hK141 _ _ ?_; clear hK141 K141
            refine wp_cond_false (F171.ev (by kernel_rfl)) ?_
            refine wp_skip ?_
            refine hK21 _ _ ?_; clear hK21 K21
            refine wp_region_lit ?_
            refine op_r (v := .int .i64 (↑(k + 1))) F171 (r_add (z := ↑(k + 1)) rfl (F171.ev (v := .int .i64 (↑k)) (by kernel_rfl)) (F171.ev (v := .int .i64 1) (by kernel_rfl)) (wr64 (by omega) (by omega) (by omega))) rfl rfl rfl ?_; intro a172 F172
            refine op_p F172 (.int .i64 (↑(k + 1))) (by kernel_rfl) rfl rfl rfl (by kernel_rfl) rfl ?_; intro a173 F173
            refine wpList_nil ?_
            exact hK15 _ _ _ (by first | omega | (simp; omega)) ⟨n, c, k + 1, rfl, (F173.k 0 (by kernel_rfl) (F173.k 1 (by kernel_rfl) (F173.k 2 (by kernel_rfl) (F173.k 6 (by kernel_rfl) (F173.k 7 (by kernel_rfl) (F173.k 8 (by kernel_rfl) (F173.k 9 (by kernel_rfl) (F173.k 12 (by kernel_rfl) (F173.k 13 (by kernel_rfl) (F173.k 14 (by kernel_rfl) F173.nil)))))))))), S60.drop.p1.p1, (by first | omega | (with_reducible assumption) | (simp; done)), (by first | omega | (with_reducible assumption) | (simp; done)), (by rw [pickS_take hlt_k, hs]; simp only [pk, fe, nb, hc35, hc45, hc69, hc146, Bool.and_true, Bool.true_and, Bool.and_false, Bool.false_and, Bool.false_eq_true, if_true, if_false]), (fun j hj h => (Nat.lt_succ_iff_lt_or_eq.1 h).elim (hno j hj) (fun e => by subst e; exact ex_no (Or.inr hc45)))⟩
    · have F174 := F34.sb 22 (by kernel_rfl) hc35
      have F175 := F174.sb 23 (by kernel_rfl) hc35
      refine op_skip F175 (by kernel_rfl) rfl rfl rfl ?_; intro a176 F176
      refine op_skip F176 (by kernel_rfl) rfl rfl rfl ?_; intro a177 F177
      refine op_skip F177 (by kernel_rfl) rfl rfl rfl ?_; intro a178 F178
      refine op_skip F178 (by kernel_rfl) rfl rfl rfl ?_; intro a179 F179
      refine op_p F179 (.bool false) (by kernel_rfl) rfl rfl rfl (by kernel_rfl) rfl ?_; intro a180 F180
      refine op_p F180 (.bool false) (by kernel_rfl) rfl rfl rfl (by kernel_rfl) rfl ?_; intro a181 F181
      refine wpList_nil ?_
      refine hK28 _ _ ?_; clear hK28 K28
      refine wp_cond_false (F181.ev (by kernel_rfl)) ?_
      refine wp_seq_k fun K182 hK182 => ?_
      refine wp_region_lit ?_
      refine op_p F181 (.pointer (some ⟨g24, 0, none⟩)) (by kernel_rfl) rfl rfl rfl (by kernel_rfl) rfl ?_; intro a183 F183
      refine op_r (v := .string cs[k].fOS) F183 (r_ld rfl (F183.ev (v := .pointer (some ⟨g24, 0, none⟩)) (by kernel_rfl)) (v := .string cs[k].fOS) ((S32.bk 0 rfl).cell 0) Try.underlying9 rfl) rfl rfl rfl ?_; intro a184 F184
      refine op_p F184 (.string os) (by kernel_rfl) rfl rfl rfl (by kernel_rfl) rfl ?_; intro a185 F185
      refine op_c F185 (f := 112) (args := #[.string cs[k].fOS, .string os]) (by kernel_rfl) (by kernel_rfl) rfl (hlFold_any cs[k].fOS os _ _ _ S32 (by first | omega | (simp; done) | (simp; omega))) rfl rfl rfl ?_
      rintro _ w186 ⟨rfl, S186⟩
      refine ⟨_, rfl, ?_⟩
      intro a187 F187
      have F188 := F187.sb 34 (by kernel_rfl) hc35
      refine op_p F188 (.bool false) (by kernel_rfl) rfl rfl rfl (by kernel_rfl) rfl ?_; intro a189 F189
      refine op_skip F189 (by kernel_rfl) rfl rfl rfl ?_; intro a190 F190
      refine op_skip F190 (by kernel_rfl) rfl rfl rfl ?_; intro a191 F191
      refine op_skip F191 (by kernel_rfl) rfl rfl rfl ?_; intro a192 F192
      refine op_p F192 (.bool false) (by kernel_rfl) rfl rfl rfl (by kernel_rfl) rfl ?_; intro a193 F193
      refine op_p F193 (.bool false) (by kernel_rfl) rfl rfl rfl (by kernel_rfl) rfl ?_; intro a194 F194
      refine op_skip F194 (by kernel_rfl) rfl rfl rfl ?_; intro a195 F195
      refine op_skip F195 (by kernel_rfl) rfl rfl rfl ?_; intro a196 F196
      refine op_p F196 (.bool false) (by kernel_rfl) rfl rfl rfl (by kernel_rfl) rfl ?_; intro a197 F197
      refine op_p F197 (.bool false) (by kernel_rfl) rfl rfl rfl (by kernel_rfl) rfl ?_; intro a198 F198
      refine wpList_nil ?_
      refine hK182 _ _ ?_; clear hK182 K182
      refine wp_cond_false (F198.ev (by kernel_rfl)) ?_
      refine wp_seq_k fun K199 hK199 => ?_
      refine wp_region_lit ?_
      refine op_p F198 (.pointer (some ⟨g24, 0, none⟩)) (by kernel_rfl) rfl rfl rfl (by kernel_rfl) rfl ?_; intro a200 F200
      refine op_r (v := .string cs[k].fOS) F200 (r_ld rfl (F200.ev (v := .pointer (some ⟨g24, 0, none⟩)) (by kernel_rfl)) (v := .string cs[k].fOS) ((S186.bk 0 rfl).cell 0) Try.underlying9 rfl) rfl rfl rfl ?_; intro a201 F201
      refine op_p F201 (.bool (cs[k].fOS.toList == (⟨#[]⟩ : ByteArray).toList)) (by kernel_rfl) rfl rfl rfl (by kernel_rfl) rfl ?_; intro a202 F202
      refine op_p F202 (.bool (cs[k].fOS.toList == (⟨#[]⟩ : ByteArray).toList)) (by kernel_rfl) rfl rfl rfl (by kernel_rfl) rfl ?_; intro a203 F203
      rcases btf (cs[k].fOS.toList == (⟨#[]⟩ : ByteArray).toList) with hc204 | hc204
      · have F205 := F203.sb 48 (by kernel_rfl) hc204
        have F206 := F205.sb 49 (by kernel_rfl) hc204
        refine op_want F206 (by kernel_rfl) rfl ?_
        refine op_p F206 (.pointer (some ⟨g24, 1, none⟩)) (by kernel_rfl) rfl rfl rfl (by kernel_rfl) rfl ?_; intro a207 F207
        refine op_want F207 (by kernel_rfl) rfl ?_
        refine op_r (v := .string cs[k].fArch) F207 (r_ld rfl (F207.ev (v := .pointer (some ⟨g24, 1, none⟩)) (by kernel_rfl)) (v := .string cs[k].fArch) ((S186.bk 0 rfl).cell 1) Try.underlying9 rfl) rfl rfl rfl ?_; intro a208 F208
        refine op_want F208 (by kernel_rfl) rfl ?_
        refine op_p F208 (.bool (cs[k].fArch.toList == (⟨#[]⟩ : ByteArray).toList)) (by kernel_rfl) rfl rfl rfl (by kernel_rfl) rfl ?_; intro a209 F209
        refine op_p F209 (.bool (cs[k].fArch.toList == (⟨#[]⟩ : ByteArray).toList)) (by kernel_rfl) rfl rfl rfl (by kernel_rfl) rfl ?_; intro a210 F210
        refine op_p F210 (.bool (cs[k].fArch.toList == (⟨#[]⟩ : ByteArray).toList)) (by kernel_rfl) rfl rfl rfl (by kernel_rfl) rfl ?_; intro a211 F211
        rcases btf (cs[k].fArch.toList == (⟨#[]⟩ : ByteArray).toList) with hc212 | hc212
        · have F213 := F211.sb 52 (by kernel_rfl) hc212
          have F214 := F213.sb 53 (by kernel_rfl) hc212
          have F215 := F214.sb 54 (by kernel_rfl) hc212
          refine op_want F215 (by kernel_rfl) rfl ?_
          refine op_p F215 (.int .i64 (↑n)) (by kernel_rfl) rfl rfl rfl (by kernel_rfl) rfl ?_; intro a216 F216
          refine op_want F216 (by kernel_rfl) rfl ?_
          refine op_p F216 (.bool ((↑n : Int) == 0)) (by kernel_rfl) rfl rfl rfl (by kernel_rfl) rfl ?_; intro a217 F217
          refine op_p F217 (.bool ((↑n : Int) == 0)) (by kernel_rfl) rfl rfl rfl (by kernel_rfl) rfl ?_; intro a218 F218
          refine op_p F218 (.bool ((↑n : Int) == 0)) (by kernel_rfl) rfl rfl rfl (by kernel_rfl) rfl ?_; intro a219 F219
          refine wpList_nil ?_
          refine hK199 _ _ ?_; clear hK199 K199
          rcases btf ((↑n : Int) == 0) with hc220 | hc220
          · have hc220p := eq_of_beq hc220
            have F221 := F219.sb 56 (by kernel_rfl) hc220
            have F222 := F221.sb 57 (by kernel_rfl) hc220
            have F223 := F222.sb 45 (by kernel_rfl) hc220
            refine wp_cond_true (F223.ev (by kernel_rfl)) ?_
            refine wp_region_lit ?_
            refine op_r (v := .agg #[.string cs[k].fOS, .string cs[k].fArch, .string cs[k].fCommand, .slice cs[k].fArgs_a cs[k].fArgs.length cs[k].fArgs_c]) F223 (r_ldm rfl (F223.ev (v := .pointer (some ⟨g24, 0, none⟩)) (by kernel_rfl)) (S186.bk 0 rfl) 4 (by kernel_rfl) Try.underlying110 rfl (by kernel_rfl) (v := #[.string cs[k].fOS, .string cs[k].fArch, .string cs[k].fCommand, .slice cs[k].fArgs_a cs[k].fArgs.length cs[k].fArgs_c]) (by kernel_rfl)) rfl rfl rfl ?_; intro a224 F224
            refine op_s0 F224 (s_stb rfl (F224.ev (v := .pointer (some ⟨g5, 0, none⟩)) (by kernel_rfl)) (F224.ev (v := .agg #[.string cs[k].fOS, .string cs[k].fArch, .string cs[k].fCommand, .slice cs[k].fArgs_a cs[k].fArgs.length cs[k].fArgs_c]) (by kernel_rfl)) S186.p2 (by kernel_rfl) rfl (by kernel_rfl)) rfl rfl ?_
            rintro _ _ w225 rfl S225 F225
            refine op_p F225 (.int .i64 1) (by kernel_rfl) rfl rfl rfl (by kernel_rfl) rfl ?_; intro a226 F226
            refine wpList_nil ?_
            refine hK21 _ _ ?_; clear hK21 K21
            refine wp_region_lit ?_
            refine op_r (v := .int .i64 (↑(k + 1))) F226 (r_add (z := ↑(k + 1)) rfl (F226.ev (v := .int .i64 (↑k)) (by kernel_rfl)) (F226.ev (v := .int .i64 1) (by kernel_rfl)) (wr64 (by omega) (by omega) (by omega))) rfl rfl rfl ?_; intro a227 F227
            refine op_p F227 (.int .i64 (↑(k + 1))) (by kernel_rfl) rfl rfl rfl (by kernel_rfl) rfl ?_; intro a228 F228
            refine wpList_nil ?_
            exact hK15 _ _ _ (by first | omega | (simp; omega)) ⟨1, cs[k], k + 1, rfl, (F228.k 0 (by kernel_rfl) (F228.k 1 (by kernel_rfl) (F228.k 2 (by kernel_rfl) (F228.k 6 (by kernel_rfl) (F228.k 7 (by kernel_rfl) (F228.k 8 (by kernel_rfl) (F228.k 9 (by kernel_rfl) (F228.k 12 (by kernel_rfl) (F228.k 13 (by kernel_rfl) (F228.k 14 (by kernel_rfl) F228.nil)))))))))), S225.p1.drop.p1, (by first | omega | (with_reducible assumption) | (simp; done)), (by first | omega | (with_reducible assumption) | (simp; done)), (by rw [pickS_take hlt_k, hs]; simp only [pk, fe, nb, hc35, hc204, hc212, hc220, Bool.and_true, Bool.true_and, Bool.and_false, Bool.false_and, Bool.false_eq_true, if_true, if_false]), (fun j hj h => (Nat.lt_succ_iff_lt_or_eq.1 h).elim (hno j hj) (fun e => by subst e; exact ex_no (Or.inl hc35)))⟩
          · have hc220p := ne_of_beq_false hc220
            have F229 := F219.sb 56 (by kernel_rfl) hc220
            have F230 := F229.sb 57 (by kernel_rfl) hc220
            have F231 := F230.sb 45 (by kernel_rfl) hc220
            refine wp_cond_false (F231.ev (by kernel_rfl)) ?_
            refine wp_skip ?_
            refine hK21 _ _ ?_; clear hK21 K21
            refine wp_region_lit ?_
            refine op_r (v := .int .i64 (↑(k + 1))) F231 (r_add (z := ↑(k + 1)) rfl (F231.ev (v := .int .i64 (↑k)) (by kernel_rfl)) (F231.ev (v := .int .i64 1) (by kernel_rfl)) (wr64 (by omega) (by omega) (by omega))) rfl rfl rfl ?_; intro a232 F232
            refine op_p F232 (.int .i64 (↑(k + 1))) (by kernel_rfl) rfl rfl rfl (by kernel_rfl) rfl ?_; intro a233 F233
            refine wpList_nil ?_
            exact hK15 _ _ _ (by first | omega | (simp; omega)) ⟨n, c, k + 1, rfl, (F233.k 0 (by kernel_rfl) (F233.k 1 (by kernel_rfl) (F233.k 2 (by kernel_rfl) (F233.k 6 (by kernel_rfl) (F233.k 7 (by kernel_rfl) (F233.k 8 (by kernel_rfl) (F233.k 9 (by kernel_rfl) (F233.k 12 (by kernel_rfl) (F233.k 13 (by kernel_rfl) (F233.k 14 (by kernel_rfl) F233.nil)))))))))), S186.drop.p1.p1, (by first | omega | (with_reducible assumption) | (simp; done)), (by first | omega | (with_reducible assumption) | (simp; done)), (by rw [pickS_take hlt_k, hs]; simp only [pk, fe, nb, hc35, hc204, hc212, hc220, Bool.and_true, Bool.true_and, Bool.and_false, Bool.false_and, Bool.false_eq_true, if_true, if_false]), (fun j hj h => (Nat.lt_succ_iff_lt_or_eq.1 h).elim (hno j hj) (fun e => by subst e; exact ex_no (Or.inl hc35)))⟩
        · have F234 := F211.sb 52 (by kernel_rfl) hc212
          have F235 := F234.sb 53 (by kernel_rfl) hc212
          have F236 := F235.sb 54 (by kernel_rfl) hc212
          refine op_skip F236 (by kernel_rfl) rfl rfl rfl ?_; intro a237 F237
          refine op_skip F237 (by kernel_rfl) rfl rfl rfl ?_; intro a238 F238
          refine op_p F238 (.bool false) (by kernel_rfl) rfl rfl rfl (by kernel_rfl) rfl ?_; intro a239 F239
          refine op_p F239 (.bool false) (by kernel_rfl) rfl rfl rfl (by kernel_rfl) rfl ?_; intro a240 F240
          refine wpList_nil ?_
          refine hK199 _ _ ?_; clear hK199 K199
          refine wp_cond_false (F240.ev (by kernel_rfl)) ?_
          refine wp_skip ?_
          refine hK21 _ _ ?_; clear hK21 K21
          refine wp_region_lit ?_
          refine op_r (v := .int .i64 (↑(k + 1))) F240 (r_add (z := ↑(k + 1)) rfl (F240.ev (v := .int .i64 (↑k)) (by kernel_rfl)) (F240.ev (v := .int .i64 1) (by kernel_rfl)) (wr64 (by omega) (by omega) (by omega))) rfl rfl rfl ?_; intro a241 F241
          refine op_p F241 (.int .i64 (↑(k + 1))) (by kernel_rfl) rfl rfl rfl (by kernel_rfl) rfl ?_; intro a242 F242
          refine wpList_nil ?_
          exact hK15 _ _ _ (by first | omega | (simp; omega)) ⟨n, c, k + 1, rfl, (F242.k 0 (by kernel_rfl) (F242.k 1 (by kernel_rfl) (F242.k 2 (by kernel_rfl) (F242.k 6 (by kernel_rfl) (F242.k 7 (by kernel_rfl) (F242.k 8 (by kernel_rfl) (F242.k 9 (by kernel_rfl) (F242.k 12 (by kernel_rfl) (F242.k 13 (by kernel_rfl) (F242.k 14 (by kernel_rfl) F242.nil)))))))))), S186.drop.p1.p1, (by first | omega | (with_reducible assumption) | (simp; done)), (by first | omega | (with_reducible assumption) | (simp; done)), (by rw [pickS_take hlt_k, hs]; simp only [pk, fe, nb, hc35, hc204, hc212, Bool.and_true, Bool.true_and, Bool.and_false, Bool.false_and, Bool.false_eq_true, if_true, if_false]), (fun j hj h => (Nat.lt_succ_iff_lt_or_eq.1 h).elim (hno j hj) (fun e => by subst e; exact ex_no (Or.inl hc35)))⟩
      · have F243 := F203.sb 48 (by kernel_rfl) hc204
        have F244 := F243.sb 49 (by kernel_rfl) hc204
        refine op_skip F244 (by kernel_rfl) rfl rfl rfl ?_; intro a245 F245
        refine op_skip F245 (by kernel_rfl) rfl rfl rfl ?_; intro a246 F246
        refine op_skip F246 (by kernel_rfl) rfl rfl rfl ?_; intro a247 F247
        refine op_p F247 (.bool false) (by kernel_rfl) rfl rfl rfl (by kernel_rfl) rfl ?_; intro a248 F248
        refine op_p F248 (.bool false) (by kernel_rfl) rfl rfl rfl (by kernel_rfl) rfl ?_; intro a249 F249
        refine op_skip F249 (by kernel_rfl) rfl rfl rfl ?_; intro a250 F250
        refine op_skip F250 (by kernel_rfl) rfl rfl rfl ?_; intro a251 F251
        refine op_p F251 (.bool false) (by kernel_rfl) rfl rfl rfl (by kernel_rfl) rfl ?_; intro a252 F252
        refine op_p F252 (.bool false) (by kernel_rfl) rfl rfl rfl (by kernel_rfl) rfl ?_; intro a253 F253
        refine wpList_nil ?_
        refine hK199 _ _ ?_; clear hK199 K199
        refine wp_cond_false (F253.ev (by kernel_rfl)) ?_
        refine wp_skip ?_
        refine hK21 _ _ ?_; clear hK21 K21
        refine wp_region_lit ?_
        refine op_r (v := .int .i64 (↑(k + 1))) F253 (r_add (z := ↑(k + 1)) rfl (F253.ev (v := .int .i64 (↑k)) (by kernel_rfl)) (F253.ev (v := .int .i64 1) (by kernel_rfl)) (wr64 (by omega) (by omega) (by omega))) rfl rfl rfl ?_; intro a254 F254
        refine op_p F254 (.int .i64 (↑(k + 1))) (by kernel_rfl) rfl rfl rfl (by kernel_rfl) rfl ?_; intro a255 F255
        refine wpList_nil ?_
        exact hK15 _ _ _ (by first | omega | (simp; omega)) ⟨n, c, k + 1, rfl, (F255.k 0 (by kernel_rfl) (F255.k 1 (by kernel_rfl) (F255.k 2 (by kernel_rfl) (F255.k 6 (by kernel_rfl) (F255.k 7 (by kernel_rfl) (F255.k 8 (by kernel_rfl) (F255.k 9 (by kernel_rfl) (F255.k 12 (by kernel_rfl) (F255.k 13 (by kernel_rfl) (F255.k 14 (by kernel_rfl) F255.nil)))))))))), S186.drop.p1.p1, (by first | omega | (with_reducible assumption) | (simp; done)), (by first | omega | (with_reducible assumption) | (simp; done)), (by rw [pickS_take hlt_k, hs]; simp only [pk, fe, nb, hc35, hc204, Bool.and_true, Bool.true_and, Bool.and_false, Bool.false_and, Bool.false_eq_true, if_true, if_false]), (fun j hj h => (Nat.lt_succ_iff_lt_or_eq.1 h).elim (hno j hj) (fun e => by subst e; exact ex_no (Or.inl hc35)))⟩
  · have hc_k : decide ((↑k : Int) < ↑cs.length) = false := by first | (simp; done) | (simp; omega)
    have hst : pickS os cs = (n, c) := by rw [List.take_of_length_le (by omega)] at hs; exact hs
    refine wp_seq_k fun K256 hK256 => ?_
    refine wp_region_lit ?_
    refine op_p F15 (.bool (decide ((↑k : Int) < ↑cs.length))) (by kernel_rfl) rfl rfl rfl (by kernel_rfl) rfl ?_; intro a257 F257
    have F258 := F257.sb 15 (by kernel_rfl) hc_k
    refine wpList_nil ?_
    refine hK256 _ _ ?_; clear hK256 K256
    refine wp_seq_k fun K259 hK259 => ?_
    refine wp_cond_false (F258.ev (by kernel_rfl)) ?_
    refine wp_exit ?_
    refine ex_then ?_; clear hK259 K259
    refine ex_then ?_
    refine ex_in ?_
    refine hK10 _ _ ?_; clear hK10 K10
    refine wp_seq_k fun K260 hK260 => ?_
    refine wp_region_lit ?_
    refine op_r (v := .agg #[.string c.fOS, .string c.fArch, .string c.fCommand, .slice c.fArgs_a c.fArgs.length c.fArgs_c]) F258 (r_ldm rfl (F258.ev (v := .pointer (some ⟨g5, 0, none⟩)) (by kernel_rfl)) (S15.bk 1 rfl) 4 (by kernel_rfl) Try.underlying110 rfl (by kernel_rfl) (v := #[.string c.fOS, .string c.fArch, .string c.fCommand, .slice c.fArgs_a c.fArgs.length c.fArgs_c]) (by kernel_rfl)) rfl rfl rfl ?_; intro a261 F261
    refine op_p F261 (.int .i64 (↑n)) (by kernel_rfl) rfl rfl rfl (by kernel_rfl) rfl ?_; intro a262 F262
    refine op_p F262 (.bool (decide ((0 : Int) < ↑n))) (by kernel_rfl) rfl rfl rfl (by kernel_rfl) rfl ?_; intro a263 F263
    refine op_s0 F263 (s_stb rfl (F263.ev (v := .pointer (some ⟨g1, 0, none⟩)) (by kernel_rfl)) (F263.ev (v := .agg #[.string c.fOS, .string c.fArch, .string c.fCommand, .slice c.fArgs_a c.fArgs.length c.fArgs_c]) (by kernel_rfl)) S15 (by kernel_rfl) rfl (by kernel_rfl)) rfl rfl ?_
    rintro _ _ w264 rfl S264 F264
    refine op_p F264 (.bool (decide ((0 : Int) < ↑n))) (by kernel_rfl) rfl rfl rfl (by kernel_rfl) rfl ?_; intro a265 F265
    refine wpList_nil ?_
    refine hK260 _ _ ?_; clear hK260 K260
    refine wp_ret ?_
    refine (F265.resC (results2 Try.results57 (F265.rvc (p := ⟨g1, 0, none⟩) (by kernel_rfl) (ld_mid (S264.bk 0 rfl) 4 (by kernel_rfl) Try.underlying110 rfl (by kernel_rfl) (v := #[.string c.fOS, .string c.fArch, .string c.fCommand, .slice c.fArgs_a c.fArgs.length c.fArgs_c]) (by kernel_rfl))) (F265.rvt (v := .bool (decide ((0 : Int) < ↑n))) (by kernel_rfl))) ?_).1
    exact ⟨c, decide ((0 : Int) < ↑n), rfl, S264.drop.drop, (by rw [pick_end (by omega) hno, hst]; by_cases h0 : 0 < n <;> simp [h0])⟩
end Go.Proofs.Ytkjcedlgljeoiaa

/- Lists of parts, one for each pair of a value and a datum; rows that may be nobody's; elements of rows that are written. -/
namespace Go.Proofs.Ytkjcedlgljeoiaa
open Go.RowKit

namespace SA
/-- A row of elements; nobody's where there are none. -/
def own0 (v : Value) (e : TypeId) (sz n : Nat) (l : List Value) : SA :=
  ⟨fun w F => l.length = n * sz ∧ (∃ A c, v = .slice A n c) ∧ ((w.ownsRow 0 e sz v n l ∧ ∀ k, F k ↔ v.ownBlock = some k) ∨ (n = 0 ∧ ∀ k, ¬ F k)),
   fun ⟨h0, h1, h2⟩ hk => ⟨h0, h1, h2.imp (fun h => ⟨own_stab h.1 fun k e => hk k ((h.2 k).2 e), h.2⟩) id⟩,
   fun ⟨_, _, h⟩ k hk => h.elim (fun h => own_lt h.1 k ((h.2 k).1 hk)) (fun h => absurd hk (h.2 k))⟩
def zips {α : Type} (f : Value → α → SA) : List Value → List α → SA
  | v :: vs, x :: xs => star (f v x) (zips f vs xs)
  | [], [] => emp
  | _, _ => pure False
end SA
section
variable {R : Ctx} {w w' : World} {A B : SA} {L : List SA} {α : Type} {f : Value → α → SA} {v : Value} {x : α} {vs vs1 vs2 : List Value} {xs xs1 xs2 : List α}
end
section
variable {n : Nat} {D : List Deferred} {a : Act} {E E' : List (Nat × Value)} {P : Program} {w : World} {R : Ctx} {L : List SA}
variable {ops : Array Oper} {rest : List Oper} {o : Oper} {Q : Exit → Act → World → Prop}
theorem own_slN {e : TypeId} {sz n c : Nat} {A : Option Addr} {l : List Value} (h : w.ownsRow 0 e sz (.slice A n c) n l) (hn : n * sz ≤ 9223372036854775807) : Sl w A l := by
  refine ⟨by rw [h.1]; exact hn, fun hp => ?_⟩
  rcases h.2 with ⟨h1, h2⟩ | ⟨g, cap, cur, h1, _⟩
  · rw [h.1, h2, Nat.zero_mul] at hp; omega
  · injection h1 with h3
    subst h3
    exact ⟨_, rfl, h.cells rfl⟩
theorem sAt_pre {P : Program} {p q : SPost} (h : sAt P R L o a w p) (hpq : ∀ v A w', p v A → Sp R w' (A :: L) → ∃ B, q v B ∧ Sp R w' (B :: L)) : sAt P R L o a w q := by
  unfold sAt at *
  generalize (execOp a.eval o).run P w = r at *
  cases r with
  | ok nx w' =>
    cases nx <;> simp only [sUpon] at h ⊢
    case value u => obtain ⟨A, h1, h2⟩ := h; exact hpq _ _ _ h1 h2
    case skip => obtain ⟨A, h1, h2⟩ := h; exact hpq _ _ _ h1 h2
    case enter f args => exact h.mono fun e w'' ⟨v, A, he, h1, h2⟩ => by obtain ⟨B, h3, h4⟩ := hpq _ _ _ h1 h2; exact ⟨v, B, he, h3, h4⟩
  | halt x w' => simp only [sUpon] at h
end
end Go.Proofs.Ytkjcedlgljeoiaa

/- A region that draws its order, over parts of memory; what an operation leaves may hang on the values of those ahead of it. -/
namespace Go.Proofs.Ytkjcedlgljeoiaa
open Go.RowKit

abbrev DPost := List Value → SPost
def spD (ps : List (SA × DPost)) (k : Nat) : SA × DPost := ps.getD k (SA.emp, fun _ _ A => A = SA.emp)
def dsD (sp : List (Option (List (Nat × Tmp)))) (k : Nat) : List (Nat × Tmp) := ((sp[k]?).join).getD []
def envA (ds : List (Nat × Tmp)) (a : Act) : List Value := ds.map fun jd => a.tmps.getD jd.2 undef
/-- et: pairs (k, j): the k-th operation takes over what the j-th one leaves. -/
abbrev Eat := List (Nat × Nat)
def eatsB (et : Eat) (k j : Nat) : Bool := et.any fun e => Nat.beq e.1 k && Nat.beq e.2 j
def eatenB (et : Eat) (j : Nat) : Bool := et.any fun e => Nat.beq e.2 j
def depsD (sp : List (Option (List (Nat × Tmp)))) (et : Eat) (k : Nat) (ps : List (SA × DPost)) (L : List SA) (K : Act → List SA → Prop) : List (Nat × Tmp) → Act → List SA → Prop
  | [], a, acc => K a acc
  | (j, d) :: js, a, acc => ∀ v A, (spD ps j).2 (envA (dsD sp j) a) v A → cond (eatsB et k j) (depsD sp et k ps L K js (a.put (some d) v) (A :: acc)) (cond (eatenB et j) (depsD sp et k ps L K js (a.put (some d) v) acc) (A ∈ L → depsD sp et k ps L K js (a.put (some d) v) acc))
theorem depsD_nil {sp : List (Option (List (Nat × Tmp)))} {et : Eat} {k : Nat} {ps : List (SA × DPost)} {L : List SA} {K : Act → List SA → Prop} {a : Act} {acc : List SA} (h : K a acc) : depsD sp et k ps L K [] a acc := h
def obl1D (P : Program) (R : Ctx) (L0 : List SA) (ops : Array Oper) (sp : List (Option (List (Nat × Tmp)))) (et : Eat) (k : Nat) (ps : List (SA × DPost)) (a0 : Act) (ds : List (Nat × Tmp)) (o : Oper) (q : SA × DPost) : Prop :=
  ∀ w M, depsD sp et k ps (M ++ L0) (fun a acc => Sp R w (acc ++ (q.1 :: (M ++ L0))) → oblS P R (M ++ L0) ops o a w q.1 (q.2 (envA ds a))) ds a0 []
/-- What is owed for each of the operations of the head. -/
def oblGoD (P : Program) (R : Ctx) (L0 : List SA) (ops : Array Oper) (sp0 : List (Option (List (Nat × Tmp)))) (et : Eat) (ps : List (SA × DPost)) (a0 : Act) : List Oper → List (Option (List (Nat × Tmp))) → Nat → Prop
  | o :: l, some ds :: s, k => obl1D P R L0 ops sp0 et k ps a0 ds o (spD ps k) ∧ oblGoD P R L0 ops sp0 et ps a0 l s (k + 1)
  | _ :: l, none :: s, k => oblGoD P R L0 ops sp0 et ps a0 l s (k + 1)
  | _, _, _ => True
/-- Behind the head. -/
def endD (et : Eat) (ps : List (SA × DPost)) (K : Act → List SA → Prop) : List Oper → List (Option (List (Nat × Tmp))) → Nat → Act → List SA → Prop
  | o :: l, some ds :: s, k, a, acc => ∀ v A, (spD ps k).2 (envA ds a) v A → endD et ps K l s (k + 1) (a.put o.dst v) (cond (eatenB et k) SA.emp A :: acc)
  | _ :: l, none :: s, k, a, acc => endD et ps K l s (k + 1) a acc
  | _, _, _, a, acc => K a acc
def preD (ps : List (SA × DPost)) : List Oper → List (Option (List (Nat × Tmp))) → Nat → List SA
  | _ :: l, some _ :: s, k => (spD ps k).1 :: preD ps l s (k + 1)
  | _ :: l, none :: s, k => preD ps l s (k + 1)
  | _, _, _ => []
def chkD (sp : List (Option (List (Nat × Tmp)))) : List (Nat × Tmp) → List (Nat × Tmp) → Bool
  | _, [] => true
  | pre, jd :: js => (dsD sp jd.1).all (fun q => pre.contains q) && pre.all (fun q => q.1 != jd.1) && chkD sp (jd :: pre) js
def headBD (md : Region.Mode) (ops : Array Oper) (sp : List (Option (List (Nat × Tmp)))) (N k : Nat) : Bool :=
  match ops[k]?, (sp[k]?).join with
  | some o, some ds =>
    (match o.dst with | some d => decide (d < N) | none => true) &&
    ds.all (fun jd => (Region.waitsFor md ops k jd.1 || ds.any (fun q => decide (jd.1 < q.1) && Region.waitsFor md ops q.1 jd.1)) && decide (jd.1 < k) && (dstOf ops jd.1 == some jd.2) && ((sp[jd.1]?).join).isSome) &&
    (o.looksAt ops).all (fun t => (headIx sp ops.size).all fun j => dstOf ops j != some t || ds.contains (j, t)) &&
    o.after.all (fun e => !Region.binds md e || (decide (e.on < k) && ((sp[e.on]?).join).isSome)) &&
    (headIx sp ops.size).all (fun j => j == k || (match o.dst with | some d => dstOf ops j != some d | none => true)) && chkD sp [] ds
  | _, _ => false
def etB (sp : List (Option (List (Nat × Tmp)))) (et : Eat) : Bool := et.all fun e => (dsD sp e.1).any (fun q => q.1 == e.2) && et.all fun f => (f.1 == e.1) == (f.2 == e.2)
def grBD (md : Region.Mode) (ops : Array Oper) (sp : List (Option (List (Nat × Tmp)))) (N : Nat) : Bool :=
  Region.noSelect ops && (headIx sp ops.size).all (headBD md ops sp N) && chainI md ops (tailIx sp ops.size) &&
  (match tailIx sp ops.size with | [] => true | t :: _ => underB md ops (headIx sp ops.size).reverse [t]) &&
  seqI md ops (tailIx sp ops.size) ((Array.range ops.size).map fun k => ((sp[k]?).join).isSome)

section
variable {P : Program} {ops : Array Oper} {md : Region.Mode} {sp : List (Option (List (Nat × Tmp)))} {et : Eat} {ps : List (SA × DPost)} {R : Ctx} {L0 : List SA}
theorem eatsB_iff {k j : Nat} : eatsB et k j = true ↔ (k, j) ∈ et := by
  unfold eatsB
  rw [List.any_eq_true]
  constructor
  · rintro ⟨e, he, h⟩
    simp only [Bool.and_eq_true] at h
    have h1 := Nat.eq_of_beq_eq_true h.1
    have h2 := Nat.eq_of_beq_eq_true h.2
    rw [← h1, ← h2]; exact he
  · intro h
    exact ⟨_, h, by simp⟩
theorem eatenB_iff {j : Nat} : eatenB et j = true ↔ ∃ k, (k, j) ∈ et := by
  unfold eatenB
  rw [List.any_eq_true]
  constructor
  · rintro ⟨e, he, h⟩
    have h2 := Nat.eq_of_beq_eq_true h
    exact ⟨e.1, by rw [← h2]; exact he⟩
  · rintro ⟨k, h⟩
    exact ⟨_, h, by simp⟩
theorem etB_uniq (h : etB sp et = true) {k k' j j' : Nat} (h1 : (k, j) ∈ et) (h2 : (k', j') ∈ et) : k' = k ↔ j' = j := by
  unfold etB at h
  have := List.all_eq_true.1 h _ h1
  simp only [Bool.and_eq_true] at this
  have := List.all_eq_true.1 this.2 _ h2
  simp only [beq_iff_eq] at this
  constructor
  · intro e
    have h3 : (k' == k) = true := by simp [e]
    rw [h3] at this
    exact eq_of_beq this.symm
  · intro e
    have h3 : (j' == j) = true := by simp [e]
    rw [h3] at this
    exact eq_of_beq this
theorem etB_ds (h : etB sp et = true) {k j : Nat} (h1 : (k, j) ∈ et) : ∃ q ∈ dsD sp k, q.1 = j := by
  unfold etB at h
  have := List.all_eq_true.1 h _ h1
  simp only [Bool.and_eq_true] at this
  obtain ⟨q, hq, e⟩ := List.any_eq_true.1 this.1
  exact ⟨q, hq, eq_of_beq e⟩
theorem chkD_nodup : ∀ {ds pre : List (Nat × Tmp)}, chkD sp pre ds = true → (ds.map (·.1)).Nodup ∧ ∀ q ∈ pre, ∀ r ∈ ds, q.1 ≠ r.1
  | [], _, _ => ⟨List.nodup_nil, fun _ _ _ h => (by cases h)⟩
  | jd :: js, pre, h => by
    simp only [chkD, Bool.and_eq_true] at h
    obtain ⟨⟨_, h2⟩, h3⟩ := h
    obtain ⟨i1, i2⟩ := chkD_nodup h3
    refine ⟨List.nodup_cons.2 ⟨fun hm => ?_, i1⟩, fun q hq r hr => ?_⟩
    · obtain ⟨r, hr, e⟩ := List.mem_map.1 hm
      exact i2 jd (by simp) r hr e.symm
    · rcases List.mem_cons.1 hr with rfl | hr
      · have := List.all_eq_true.1 h2 q hq
        simpa using this
      · exact i2 q (by simp [hq]) r hr
theorem filt_one (p : Nat → Bool) (hp : ∀ i j, p i = true → p j = true → i = j) : ∀ (ds : List (Nat × Tmp)), (ds.map (·.1)).Nodup → ds.filter (fun q => p q.1) = [] ∨ ∃ q ∈ ds, p q.1 = true ∧ ds.filter (fun q => p q.1) = [q]
  | [], _ => .inl rfl
  | q :: ds, h => by
    have hn := List.nodup_cons.1 h
    rcases filt_one p hp ds hn.2 with h1 | ⟨r, h1, h2, h3⟩
    · by_cases hq : p q.1 = true
      · exact .inr ⟨q, by simp, hq, by rw [List.filter_cons, if_pos hq, h1]⟩
      · exact .inl (by rw [List.filter_cons, if_neg hq, h1])
    · have hq : ¬ p q.1 = true := fun hq => hn.1 (by show q.1 ∈ ds.map (·.1); rw [hp _ _ hq h2]; exact List.mem_map.2 ⟨r, h1, rfl⟩)
      exact .inr ⟨r, by simp [h1], h2, by rw [List.filter_cons, if_neg hq, h3]⟩
theorem envA_eq {ds : List (Nat × Tmp)} {a b : Act} (h : ∀ q ∈ ds, a.tmps.getD q.2 undef = b.tmps.getD q.2 undef) : envA ds a = envA ds b := List.map_congr_left h
theorem put_same {a0 a : Act} {d : Nat} (hs : a0.tmps.size = a.tmps.size) : (a0.put (some d) (a.tmps.getD d undef)).tmps.getD d undef = a.tmps.getD d undef := by
  rw [put_getD]
  by_cases hl : d < a0.tmps.size
  · rw [if_pos ⟨rfl, hl⟩]
  · rw [if_neg (by simp [hl])]
    have : ¬ d < a.tmps.size := by omega
    simp [hl, this]
theorem depsD_at {L : List SA} {k : Nat} {pool : Nat → SA} {K : Act → List SA → Prop} : ∀ (ds pre : List (Nat × Tmp)) (a0 a : Act) (acc : List SA), a0.tmps.size = a.tmps.size → (∀ q ∈ pre, a0.tmps.getD q.2 undef = a.tmps.getD q.2 undef) → chkD sp pre ds = true →
    (∀ jd ∈ ds, ∃ A, (spD ps jd.1).2 (envA (dsD sp jd.1) a) (a.tmps.getD jd.2 undef) A ∧ (eatsB et k jd.1 = true → A = pool jd.1) ∧ (eatenB et jd.1 = false → A ∈ L)) → depsD sp et k ps L K ds a0 acc →
    ∃ a', K a' ((ds.filter fun q => eatsB et k q.1).reverse.map (fun q => pool q.1) ++ acc) ∧ a'.tmps.size = a.tmps.size ∧ a'.defers = a0.defers ∧ ∀ t, a'.tmps.getD t undef = if t ∈ ds.map (·.2) then a.tmps.getD t undef else a0.tmps.getD t undef
  | [], _, a0, a, acc, hs, _, _, _, h => ⟨a0, h, hs, rfl, fun t => by simp⟩
  | (j, d) :: js, pre, a0, a, acc, hs, hpre, hc, hp, h => by
    obtain ⟨A, hA1, hA2, hA3⟩ := hp (j, d) (by simp)
    simp only [chkD, Bool.and_eq_true] at hc
    have he : envA (dsD sp j) a0 = envA (dsD sp j) a := envA_eq fun q hq => hpre q (by simpa using List.all_eq_true.1 hc.1.1 q hq)
    have h1 := h (a.tmps.getD d undef) A (by rw [he]; exact hA1)
    have h1' : depsD sp et k ps L K js (a0.put (some d) (a.tmps.getD d undef)) (if eatsB et k j = true then pool j :: acc else acc) := by
      cases e1 : eatsB et k j with
      | true => rw [e1] at h1; rw [if_pos rfl, ← hA2 e1]; exact h1
      | false =>
        rw [e1] at h1
        rw [if_neg (by simp)]
        cases e2 : eatenB et j with
        | true => rw [e2] at h1; exact h1
        | false => rw [e2] at h1; exact h1 (hA3 e2)
    obtain ⟨a', hK, h2, h3, h4⟩ := depsD_at js ((j, d) :: pre) (a0.put (some d) (a.tmps.getD d undef)) a _ (by rw [put_size]; exact hs) (fun q hq => by
      rcases List.mem_cons.1 hq with rfl | hq
      · exact put_same hs
      · by_cases e : q.2 = d
        · rw [e]; exact put_same hs
        · rw [put_getD, if_neg (fun h => e h.1)]; exact hpre q hq) hc.2 (fun jd hjd => hp jd (by simp [hjd])) h1'
    refine ⟨a', ?_, h2, by rw [h3, put_dfs], fun t => ?_⟩
    · rw [List.filter_cons]
      by_cases e1 : eatsB et k j = true
      · rw [if_pos e1] at hK
        rw [if_pos e1]
        simpa using hK
      · rw [if_neg e1] at hK
        rw [if_neg e1]
        exact hK
    rw [h4 t]
    by_cases ht : t ∈ js.map (·.2)
    · rw [if_pos ht, if_pos (by simp only [List.map_cons, List.mem_cons]; exact .inr ht)]
    · rw [if_neg ht]
      by_cases hd : t = d
      · subst hd
        rw [if_pos (by simp : t ∈ ((j, t) :: js).map (·.2))]
        exact put_same hs
      · rw [put_getD, if_neg (by simp [hd]), if_neg (by simp only [List.map_cons, List.mem_cons]; exact fun hh => hh.elim hd ht)]

/-- What stands between two operations. pool: the part of each operation of the head, as it is now. -/
structure DInv (ops : Array Oper) (md : Region.Mode) (sp : List (Option (List (Nat × Tmp)))) (et : Eat) (ps : List (SA × DPost)) (R : Ctx) (L0 : List SA) (a0 : Act) (pool : Nat → SA) (listed : Array Bool) (a : Act) (w : World) : Prop where
  size : listed.size = ops.size
  closed : ∀ j oj, ops[j]? = some oj → listed.getD j false = true → ∀ e ∈ oj.after, Region.binds md e = true → listed.getD e.on false = true
  tail : ∀ t, ((sp[t]?).join).isSome = false → t < ops.size → listed.getD t true = false
  sep : Sp R w ((headIx sp ops.size).map pool ++ L0)
  tmps : a.tmps.size = a0.tmps.size
  dfs : a.defers = a0.defers
  same : ∀ t, (∀ j, j < ops.size → ((sp[j]?).join).isSome = true → listed.getD j false = true → dstOf ops j ≠ some t) → a.tmps.getD t undef = a0.tmps.getD t undef
  pre : ∀ j, j < ops.size → ((sp[j]?).join).isSome = true → listed.getD j false = false → pool j = (spD ps j).1
  post : ∀ j, j < ops.size → ((sp[j]?).join).isSome = true → listed.getD j false = true → ∃ v A, (spD ps j).2 (envA (dsD sp j) a) v A ∧ (pool j = A ∨ (pool j = SA.emp ∧ ∃ k, (k, j) ∈ et ∧ listed.getD k false = true)) ∧ ∀ d, dstOf ops j = some d → a.tmps.getD d undef = v
  gone : ∀ k j, (k, j) ∈ et → listed.getD k false = true → pool j = SA.emp

theorem oblGoD_at {a0 : Act} : ∀ (l : List Oper) (s : List (Option (List (Nat × Tmp)))) (k : Nat), oblGoD P R L0 ops sp et ps a0 l s k →
    ∀ j o ds, l[j]? = some o → (s[j]?).join = some ds → obl1D P R L0 ops sp et (k + j) ps a0 ds o (spD ps (k + j))
  | [], _, _, _, j, o, ds, h, _ => by simp at h
  | o :: l, [], _, _, j, _, ds, _, h => by simp at h
  | o :: l, none :: s, k, H, j, o', ds, h1, h2 => by
    cases j with
    | zero => simp at h2
    | succ j =>
      have := oblGoD_at l s (k + 1) H j o' ds (by simpa using h1) (by simpa using h2)
      rwa [Nat.add_assoc, Nat.add_comm 1 j] at this
  | o :: l, some d :: s, k, H, j, o', ds, h1, h2 => by
    cases j with
    | zero =>
      simp at h1 h2
      subst h1; subst h2
      exact H.1
    | succ j =>
      have := oblGoD_at l s (k + 1) H.2 j o' ds (by simpa using h1) (by simpa using h2)
      rwa [Nat.add_assoc, Nat.add_comm 1 j] at this

open Classical in
/-- The end of the head, at the values that there are. -/
theorem endD_at {K : Act → List SA → Prop} {pool : Nat → SA} (a : Act) : ∀ (l : List Oper) (s : List (Option (List (Nat × Tmp)))) (k : Nat) (a0 : Act) (acc : List SA) (T : Nat → Prop), a0.tmps.size = a.tmps.size →
    (∀ t, T t → a0.tmps.getD t undef = a.tmps.getD t undef) →
    (∀ (j : Nat) (ds : List (Nat × Tmp)), (s[j]?).join = some ds → ∀ q ∈ ds, T q.2 ∨ ∃ (i : Nat) (o : Oper), i < j ∧ l[i]? = some o ∧ ((s[i]?).join).isSome = true ∧ o.dst = some q.2) →
    (∀ (j : Nat) (ds : List (Nat × Tmp)), (s[j]?).join = some ds → ∀ o : Oper, l[j]? = some o → ∃ v A, (spD ps (k + j)).2 (envA ds a) v A ∧ cond (eatenB et (k + j)) SA.emp A = pool (k + j) ∧ ∀ d, o.dst = some d → a.tmps.getD d undef = v) → endD et ps K l s k a0 acc →
    ∃ a' acc', K a' acc' ∧ acc'.Perm (((List.range' k l.length).filter fun i => ((s[i - k]?).join).isSome).map pool ++ acc) ∧ a'.tmps.size = a.tmps.size ∧ a'.defers = a0.defers ∧
      ∀ t, a'.tmps.getD t undef = if (∃ (j : Nat) (o : Oper), l[j]? = some o ∧ ((s[j]?).join).isSome = true ∧ o.dst = some t) then a.tmps.getD t undef else a0.tmps.getD t undef
  | [], s, k, a0, acc, T, hs, _, _, _, h => ⟨a0, acc, by cases s <;> exact h, by simp, hs, rfl, fun t => by simp⟩
  | o :: l, [], k, a0, acc, T, hs, _, _, _, h => ⟨a0, acc, h, by rw [List.filter_eq_nil_iff.2 (by simp)]; exact List.Perm.refl _, hs, rfl, fun t => by simp⟩
  | o :: l, none :: s, k, a0, acc, T, hs, hT, hds, hp, h => by
    obtain ⟨a', acc', h1, h2, h3, h4, h5⟩ := endD_at a l s (k + 1) a0 acc T hs hT (fun j ds hj q hq => by
      refine (hds (j + 1) ds (by simpa using hj) q hq).imp id fun ⟨i, o', e1, e2, e3, e4⟩ => ?_
      cases i with
      | zero => simp at e3
      | succ i => exact ⟨i, o', by omega, by simpa using e2, by simpa using e3, e4⟩) (fun j ds hj o' ho => by
      have := hp (j + 1) ds (by simpa using hj) o' (by simpa using ho)
      rwa [show k + (j + 1) = k + 1 + j by omega] at this) h
    refine ⟨a', acc', h1, ?_, h3, h4, fun t => ?_⟩
    · rw [List.length_cons, List.range'_succ, List.filter_cons]
      simp only [Nat.sub_self, List.getElem?_cons_zero, Option.join_some, Option.isSome_none, Bool.false_eq_true, if_false]
      have hf : ((List.range' (k + 1) l.length).filter fun i => (((none :: s)[i - k]?).join).isSome) = (List.range' (k + 1) l.length).filter fun i => ((s[i - (k + 1)]?).join).isSome := by
        refine List.filter_congr fun i hi => ?_
        have hle : k + 1 ≤ i := by have := List.mem_range'.1 hi; omega
        rw [show i - k = (i - (k + 1)) + 1 by omega, List.getElem?_cons_succ]
      rw [hf]; exact h2
    · rw [h5 t]
      congr 1
      refine propext ⟨fun ⟨j, o', e1, e2, e3⟩ => ⟨j + 1, o', by simpa using e1, by simpa using e2, e3⟩, fun ⟨j, o', e1, e2, e3⟩ => ?_⟩
      cases j with
      | zero => simp at e2
      | succ j => exact ⟨j, o', by simpa using e1, by simpa using e2, e3⟩
  | o :: l, some ds :: s, k, a0, acc, T, hs, hT, hds, hp, h => by
    obtain ⟨v, A, hv1, hv3, hv2⟩ := hp 0 ds (by simp) o (by simp)
    rw [Nat.add_zero] at hv1 hv3
    have he : envA ds a0 = envA ds a := envA_eq fun q hq => by
      rcases hds 0 ds (by simp) q hq with h | ⟨i, _, h, _⟩
      · exact hT _ h
      · omega
    have hput : ∀ t, (T t ∨ o.dst = some t) → (a0.put o.dst v).tmps.getD t undef = a.tmps.getD t undef := fun t ht => by
      cases hd : o.dst with
      | none => rw [hd] at ht; exact hT t (ht.resolve_right (by simp))
      | some d =>
        rw [put_getD]
        by_cases e : t = d
        · subst e
          by_cases hl : t < a0.tmps.size
          · rw [if_pos ⟨rfl, hl⟩, hv2 t hd]
          · rw [if_neg (fun h => hl h.2)]
            have : ¬ t < a.tmps.size := by omega
            simp [hl, this]
        · rw [if_neg (fun h => e h.1)]
          exact hT t (ht.resolve_right (by rw [hd]; intro h; injection h with h; exact e h.symm))
    obtain ⟨a', acc', h1, h2, h3, h4, h5⟩ := endD_at a l s (k + 1) (a0.put o.dst v) (pool k :: acc) (fun t => T t ∨ o.dst = some t) (by rw [put_size]; exact hs) hput (fun j ds' hj q hq => by
      rcases hds (j + 1) ds' (by simpa using hj) q hq with h | ⟨i, o', e1, e2, e3, e4⟩
      · exact .inl (.inl h)
      · cases i with
        | zero => simp at e2; subst e2; exact .inl (.inr e4)
        | succ i => exact .inr ⟨i, o', by omega, by simpa using e2, by simpa using e3, e4⟩) (fun j ds' hj o' ho => by
      have := hp (j + 1) ds' (by simpa using hj) o' (by simpa using ho)
      rwa [show k + (j + 1) = k + 1 + j by omega] at this) (by have := h v A (by rw [he]; exact hv1); rw [hv3] at this; exact this)
    refine ⟨a', acc', h1, ?_, h3, by rw [h4, put_dfs], fun t => ?_⟩
    · rw [List.length_cons, List.range'_succ, List.filter_cons]
      simp only [Nat.sub_self, List.getElem?_cons_zero, Option.join_some, Option.isSome_some, if_true, List.map_cons, List.cons_append]
      have hf : ((List.range' (k + 1) l.length).filter fun i => (((some ds :: s)[i - k]?).join).isSome) = (List.range' (k + 1) l.length).filter fun i => ((s[i - (k + 1)]?).join).isSome := by
        refine List.filter_congr fun i hi => ?_
        have hle : k + 1 ≤ i := by have := List.mem_range'.1 hi; omega
        rw [show i - k = (i - (k + 1)) + 1 by omega, List.getElem?_cons_succ]
      rw [hf]
      exact h2.trans List.perm_middle
    · rw [h5 t]
      by_cases h6 : ∃ (j : Nat) (o' : Oper), l[j]? = some o' ∧ ((s[j]?).join).isSome = true ∧ o'.dst = some t
      · rw [if_pos h6]
        obtain ⟨j, o', e1, e2, e3⟩ := h6
        rw [if_pos ⟨j + 1, o', by simpa using e1, by simpa using e2, e3⟩]
      · rw [if_neg h6]
        by_cases hd : o.dst = some t
        · have hex : ∃ (j : Nat) (o' : Oper), (o :: l)[j]? = some o' ∧ (((some ds :: s)[j]?).join).isSome = true ∧ o'.dst = some t := ⟨0, o, by simp, by simp, hd⟩
          rw [if_pos hex, hput t (.inr hd)]
        · rw [if_neg]
          · cases hdd : o.dst with
            | none => rfl
            | some d => rw [put_getD, if_neg (fun h => hd (by rw [hdd, h.1]))]
          · rintro ⟨j, o', e1, e2, e3⟩
            cases j with
            | zero => simp at e1; subst e1; exact hd e3
            | succ j => exact h6 ⟨j, o', by simpa using e1, by simpa using e2, e3⟩

theorem preD_eq : ∀ (l : List Oper) (s : List (Option (List (Nat × Tmp)))) (k : Nat), l.length = s.length → preD ps l s k = ((List.range' k l.length).filter fun i => ((s[i - k]?).join).isSome).map fun j => (spD ps j).1
  | [], [], k, _ => by simp [preD]
  | o :: l, x :: s, k, hl => by
    have ih := preD_eq l s (k + 1) (by simpa using hl)
    have hf : ((List.range' (k + 1) l.length).filter fun i => (((x :: s)[i - k]?).join).isSome) = (List.range' (k + 1) l.length).filter fun i => ((s[i - (k + 1)]?).join).isSome := by
      refine List.filter_congr fun i hi => ?_
      have hle : k + 1 ≤ i := by have := List.mem_range'.1 hi; omega
      rw [show i - k = (i - (k + 1)) + 1 by omega, List.getElem?_cons_succ]
    rw [List.length_cons, List.range'_succ, List.filter_cons, hf]
    cases x with
    | none => simp only [Nat.sub_self, List.getElem?_cons_zero, Option.join_some, Option.isSome_none, Bool.false_eq_true, if_false, preD]; exact ih
    | some ds => simp only [Nat.sub_self, List.getElem?_cons_zero, Option.join_some, Option.isSome_some, if_true, preD, List.map_cons]; rw [ih]

theorem wpAny_sepD {Q : Exit → Act → World → Prop} {l : List Oper} {a0 : Act} {N : Nat} (hN : a0.tmps.size = N) (hl : l.toArray = ops) (hsp : l.length = sp.length)
    (hB : grBD md ops sp N = true) (hE : etB sp et = true) (hob : oblGoD P R L0 ops sp et ps a0 l sp 0)
    (hend : endD et ps (fun a acc => ∀ w', Sp R w' (acc ++ L0) → wpList P ops Q (tailOps l sp) a w') l sp 0 a0 []) :
    ∀ (m : Nat) (pool : Nat → SA) (listed : Array Bool) (a : Act) (w : World), DInv ops md sp et ps R L0 a0 pool listed a w →
      ((headIx sp ops.size).filter fun i => !listed.getD i true).length = m → wpAny P md ops Q (m + (tailIx sp ops.size).length) listed a w := by
  subst hl
  have hsize : l.toArray.size = l.length := by simp
  simp only [grBD, Bool.and_eq_true] at hB
  obtain ⟨⟨⟨⟨hsel, hhd⟩, hch⟩, hun⟩, hsq⟩ := hB
  have hHB : ∀ k o ds, l[k]? = some o → (sp[k]?).join = some ds → headBD md l.toArray sp N k = true := fun k o ds hk hs =>
    List.all_eq_true.1 hhd k (mem_headIx.2 ⟨by rw [hsize]; exact (List.getElem?_eq_some_iff.1 hk).1, by rw [hs]; rfl⟩)
  have hD : ∀ k o ds, l[k]? = some o → (sp[k]?).join = some ds →
      (∀ d, o.dst = some d → d < N) ∧ (∀ jd ∈ ds, (Region.waitsFor md l.toArray k jd.1 = true ∨ ∃ q ∈ ds, jd.1 < q.1 ∧ Region.waitsFor md l.toArray q.1 jd.1 = true) ∧ dstOf l.toArray jd.1 = some jd.2 ∧ ((sp[jd.1]?).join).isSome = true ∧ jd.1 < k) ∧
      (∀ t ∈ o.looksAt l.toArray, ∀ j, j < l.length → ((sp[j]?).join).isSome = true → dstOf l.toArray j = some t → (j, t) ∈ ds) ∧
      (∀ e ∈ o.after, Region.binds md e = true → e.on < k ∧ ((sp[e.on]?).join).isSome = true) ∧
      (∀ j, j < l.length → ((sp[j]?).join).isSome = true → j ≠ k → ∀ d, o.dst = some d → dstOf l.toArray j ≠ some d) ∧ chkD sp [] ds = true := by
    intro k o ds hk hs
    have h := hHB k o ds hk hs
    have hk' : l.toArray[k]? = some o := by simpa using hk
    simp only [headBD, hk', hs, Bool.and_eq_true] at h
    obtain ⟨⟨⟨⟨⟨h1, h2⟩, h3⟩, h4⟩, h5⟩, h6⟩ := h
    refine ⟨fun d hd => ?_, fun jd hjd => ?_, fun t ht j hj hjs hjd => ?_, fun e he hb => ?_, fun j hj hjs hjk d hd => ?_, h6⟩
    · rw [hd] at h1; simpa using h1
    · have := List.all_eq_true.1 h2 jd hjd
      simp only [Bool.and_eq_true, beq_iff_eq, Bool.or_eq_true, decide_eq_true_eq] at this
      refine ⟨this.1.1.1.imp id fun h => ?_, this.1.2, this.2, this.1.1.2⟩
      obtain ⟨q, hq, hq2⟩ := List.any_eq_true.1 h
      simp only [Bool.and_eq_true, decide_eq_true_eq] at hq2
      exact ⟨q, hq, hq2⟩
    · have := List.all_eq_true.1 (List.all_eq_true.1 h3 t ht) j (mem_headIx.2 ⟨by rw [hsize]; exact hj, hjs⟩)
      simp only [hjd, bne_self_eq_false, Bool.false_or] at this
      simpa using this
    · obtain ⟨i, hi, hie⟩ := Array.getElem_of_mem he
      have := Array.all_eq_true.1 h4 i hi
      rw [hie] at this
      simp only [hb, Bool.not_true, Bool.false_or, Bool.and_eq_true, decide_eq_true_eq] at this
      exact this
    · have := List.all_eq_true.1 h5 j (mem_headIx.2 ⟨by rw [hsize]; exact hj, hjs⟩)
      rw [hd] at this
      simp only [Bool.or_eq_true, beq_iff_eq, bne_iff_ne, ne_eq] at this
      exact this.resolve_left hjk
  have hcl : ∀ (listed : Array Bool), (∀ j oj, l.toArray[j]? = some oj → listed.getD j false = true → ∀ e ∈ oj.after, Region.binds md e = true → listed.getD e.on false = true) → ∀ (k : Nat) (o : Oper) (ds : List (Nat × Tmp)), l[k]? = some o → (sp[k]?).join = some ds →
      (∀ e ∈ o.after, Region.binds md e = true → listed.getD e.on false = true) → ∀ jd ∈ ds, listed.getD jd.1 false = true := by
    intro listed hclo k o ds hk hs hkall
    obtain ⟨_, hd2, _⟩ := hD k o ds hk hs
    have hok : l.toArray[k]? = some o := by simpa using hk
    have main : ∀ m, ∀ jd ∈ ds, k ≤ m + jd.1 → listed.getD jd.1 false = true := by
      intro m
      induction m with
      | zero => intro jd hjd hm; have := (hd2 jd hjd).2.2.2; omega
      | succ m ihm =>
        intro jd hjd hm
        rcases (hd2 jd hjd).1 with h | ⟨q, hq, h1, h2⟩
        · obtain ⟨o', ho', e, he, hb, hon⟩ := Region.waitsFor_spec h
          have : o' = o := Option.some.inj (ho'.symm.trans hok)
          subst this
          rw [← hon]; exact hkall e he hb
        · have hql := ihm q hq (by omega)
          obtain ⟨o', ho', e, he, hb, hon⟩ := Region.waitsFor_spec h2
          have := hclo q.1 o' ho' hql e he hb
          rwa [hon] at this
    exact fun jd hjd => main k jd hjd (by omega)
  have hdsD : ∀ (k : Nat) (ds : List (Nat × Tmp)), (sp[k]?).join = some ds → dsD sp k = ds := fun k ds h => by unfold dsD; rw [h]; rfl
  have hselS := Region.noSelect_spec hsel
  have hnd0 : (headIx sp l.toArray.size).Nodup := List.nodup_range.filter _
  intro m
  induction m with
  | zero =>
    intro pool listed a w inv hm
    have hall : ∀ i, i < l.length → ((sp[i]?).join).isSome = true → listed.getD i false = true := fun i hi hs => by
      have h0 := List.filter_eq_nil_iff.1 (List.eq_nil_of_length_eq_zero hm) i (mem_headIx.2 ⟨by rw [hsize]; exact hi, hs⟩)
      have hlt : i < listed.size := by rw [inv.size, hsize]; exact hi
      simp [hlt] at h0 ⊢
      exact h0
    rw [Nat.zero_add]
    have hmask : listed = (Array.range l.toArray.size).map fun k => ((sp[k]?).join).isSome := by
      refine Array.ext (by simp [inv.size]) fun i h1 h2 => ?_
      have hi : i < l.length := by rw [inv.size, hsize] at h1; exact h1
      cases hs : ((sp[i]?).join).isSome with
      | true =>
        have := hall i hi hs
        simp [h1] at this
        simp [hs, this]
      | false =>
        have := inv.tail i hs (by rw [hsize]; exact hi)
        simp [h1] at this
        simp [hs, this]
    obtain ⟨a', acc', hK, hperm, hz, hdf, ht⟩ := endD_at (pool := pool) a l sp 0 a0 [] (fun _ => False) inv.tmps.symm (fun _ h => h.elim) (fun j ds hj q hq => by
      have hjl : j < l.length := by
        rw [hsp]
        rcases Nat.lt_or_ge j sp.length with h | h
        · exact h
        · rw [List.getElem?_eq_none h] at hj; cases hj
      obtain ⟨_, h2, _⟩ := hD j l[j] ds (List.getElem?_eq_getElem hjl) hj
      obtain ⟨_, h3, h4, h5⟩ := h2 q hq
      unfold dstOf at h3
      obtain ⟨o', e1, e2⟩ := Option.bind_eq_some_iff.1 h3
      exact .inr ⟨q.1, o', h5, by simpa using e1, h4, e2⟩) (fun j ds hj o ho => by
      have hjl : j < l.length := (List.getElem?_eq_some_iff.1 ho).1
      have hjs : ((sp[j]?).join).isSome = true := by rw [hj]; rfl
      obtain ⟨v, A, h1, h3, h2⟩ := inv.post j (by rw [hsize]; exact hjl) hjs (hall j hjl hjs)
      rw [Nat.zero_add]
      rw [hdsD j ds hj] at h1
      by_cases hee : eatenB et j = true
      · obtain ⟨ke, hke⟩ := eatenB_iff.1 hee
        have hkl : ke < l.length ∧ ((sp[ke]?).join).isSome = true := by
          obtain ⟨q, hq, _⟩ := etB_ds hE hke
          unfold dsD at hq
          cases hsk : (sp[ke]?).join with
          | none => rw [hsk] at hq; cases hq
          | some dd =>
            refine ⟨?_, rfl⟩
            rw [hsp]
            rcases Nat.lt_or_ge ke sp.length with h | h
            · exact h
            · rw [List.getElem?_eq_none h] at hsk; cases hsk
        have hem : pool j = SA.emp := inv.gone ke j hke (hall ke hkl.1 hkl.2)
        exact ⟨v, A, h1, by rw [hee, hem]; rfl, fun d hd => h2 d (by simp [dstOf, ho, hd])⟩
      · have hef : eatenB et j = false := by simpa using hee
        refine ⟨v, A, h1, ?_, fun d hd => h2 d (by simp [dstOf, ho, hd])⟩
        rw [hef]
        rcases h3 with h3 | ⟨_, kk, hkk, _⟩
        · exact h3.symm
        · exact absurd (eatenB_iff.2 ⟨kk, hkk⟩) (by rw [hef]; simp)) hend
    have : a' = a := act_ext hz (by rw [hdf, inv.dfs]) fun t => by
      rw [ht t]
      by_cases hm2 : ∃ (j : Nat) (o : Oper), l[j]? = some o ∧ ((sp[j]?).join).isSome = true ∧ o.dst = some t
      · rw [if_pos hm2]
      · rw [if_neg hm2]
        refine (inv.same t fun j hj hs _ hd => hm2 ?_).symm
        rw [hsize] at hj
        have hlj : l[j]? = some l[j] := List.getElem?_eq_getElem hj
        exact ⟨j, l[j], hlj, hs, by simpa [dstOf, hlj] using hd⟩
    subst this
    refine wpAny_tail (tailIx sp l.toArray.size) (tailOps l sp) listed a' w ?_ (by rw [hmask]; exact hsq) (hK w ?_)
    · have := tailOps_eq (ops := l.toArray) l sp 0 hsp (fun j => by simp)
      rw [← this]
      simp [tailIx, List.range_eq_range']
    · refine Sp.perm ((List.Perm.append_right L0 (hperm.trans ?_)).symm) inv.sep
      simp [headIx, List.range_eq_range']
  | succ m ih =>
    intro pool listed a w inv hm
    obtain ⟨i0, hi0⟩ : ∃ i, i ∈ (headIx sp l.toArray.size).filter fun i => !listed.getD i true := by
      cases hL : (headIx sp l.toArray.size).filter fun i => !listed.getD i true with
      | nil => rw [hL] at hm; cases hm
      | cons x xs => exact ⟨x, by simp⟩
    have hmem : ∀ i, i ∈ ((headIx sp l.toArray.size).filter fun i => !listed.getD i true) ↔ i < l.length ∧ ((sp[i]?).join).isSome = true ∧ listed.getD i true = false := fun i => by
      rw [List.mem_filter, mem_headIx, hsize]; simp [and_assoc]
    have hready : Region.ready md l.toArray listed ≠ [] := by
      have hmin : ∀ d i, i ≤ d → i < l.length ∧ ((sp[i]?).join).isSome = true ∧ listed.getD i true = false → Region.ready md l.toArray listed ≠ [] := by
        intro d
        induction d with
        | zero =>
          intro i hid hi
          have hoi : l[i]? = some l[i] := List.getElem?_eq_getElem hi.1
          obtain ⟨ds, hds⟩ := Option.isSome_iff_exists.1 hi.2.1
          have hd := hD i l[i] ds hoi hds
          have : i ∈ Region.ready md l.toArray listed := mem_ready.2 ⟨hi.2.2, l[i], by simp, fun e he hb => by
            have := (hd.2.2.2.1 e he hb).1; omega⟩
          intro h; rw [h] at this; cases this
        | succ d ihd =>
          intro i hid hi
          have hoi : l[i]? = some l[i] := List.getElem?_eq_getElem hi.1
          obtain ⟨ds, hds⟩ := Option.isSome_iff_exists.1 hi.2.1
          have hd := hD i l[i] ds hoi hds
          by_cases hex : ∃ e ∈ (l[i]).after, Region.binds md e = true ∧ listed.getD e.on false = false
          · obtain ⟨e, he, hb, hun⟩ := hex
            have h4 := hd.2.2.2.1 e he hb
            have hlt : e.on < listed.size := by rw [inv.size, hsize]; have := hi.1; omega
            exact ihd e.on (by omega) ⟨by have := hi.1; omega, h4.2, getD_in hlt hun⟩
          · have : i ∈ Region.ready md l.toArray listed := mem_ready.2 ⟨hi.2.2, l[i], by simp, fun e he hb => by
              cases hc : listed.getD e.on false with
              | true => rfl
              | false => exact absurd ⟨e, he, hb, hc⟩ hex⟩
            intro h; rw [h] at this; cases this
      exact hmin i0 i0 (Nat.le_refl _) ((hmem i0).1 hi0)
    rw [show m + 1 + (tailIx sp l.toArray.size).length = (m + (tailIx sp l.toArray.size).length) + 1 by omega]
    refine ⟨fun h => absurd h hready, fun k hk => ?_⟩
    obtain ⟨hkun, ok, hok, hkall⟩ := mem_ready.1 hk
    have hokl : l[k]? = some ok := by simpa using hok
    have hkl : k < l.length := (List.getElem?_eq_some_iff.1 hokl).1
    have hkh : ((sp[k]?).join).isSome = true := by
      cases hc : ((sp[k]?).join).isSome with
      | true => rfl
      | false =>
        exfalso
        have hkt : k ∈ tailIx sp l.toArray.size := mem_tailIx.2 ⟨by rw [hsize]; exact hkl, hc⟩
        have tl_un : ∀ t ∈ tailIx sp l.toArray.size, listed.getD t true = false := fun t ht => by
          have := mem_tailIx.1 ht; exact inv.tail t this.2 this.1
        have hfirst : ∀ (T : List Nat), (∀ t ∈ T, listed.getD t true = false) → chainI md l.toArray T = true → k ∈ T → ∃ t T', T = t :: T' ∧ k = t := by
          intro T
          induction T with
          | nil => intro _ _ h; cases h
          | cons t T ihT =>
            intro hu hc hkT
            rcases List.mem_cons.1 hkT with rfl | hkT
            · exact ⟨k, T, rfl, rfl⟩
            · exfalso
              cases T with
              | nil => cases hkT
              | cons t2 T2 =>
                simp only [chainI, Bool.and_eq_true] at hc
                obtain ⟨t3, T3, he, hk3⟩ := ihT (fun t ht => hu t (by simp [ht])) hc.2 hkT
                injection he with he1 he2
                subst he1
                subst hk3
                obtain ⟨o', ho', e, he, hb, hon⟩ := Region.waitsFor_spec hc.1
                have : o' = ok := Option.some.inj (ho'.symm.trans hok)
                subst this
                have h2 := hkall e he hb
                rw [hon, getD_both (hu t (by simp))] at h2
                cases h2
        obtain ⟨t, T', hT, rfl⟩ := hfirst _ tl_un hch hkt
        rw [hT] at hun
        simp only at hun
        have hli := (hmem i0).1 hi0
        have := under_listed (md := md) (ops := l.toArray) (t := k) (listed := listed) inv.closed (fun ot hot e he hb => by
          have : ot = ok := Option.some.inj (hot.symm.trans hok)
          subst this
          exact hkall e he hb) _ [k] (fun j hj => .inl (by simpa using hj)) hun i0 (by
            rw [List.mem_reverse]; exact mem_headIx.2 ⟨by rw [hsize]; exact hli.1, hli.2.1⟩)
        rw [getD_both hli.2.2] at this
        cases this
    obtain ⟨ds, hds⟩ := Option.isSome_iff_exists.1 hkh
    obtain ⟨hd1, hd2, hd3, hd4, hd5, hd6⟩ := hD k ok ds hokl hds
    have hdl : ∀ jd ∈ ds, listed.getD jd.1 false = true := hcl listed inv.closed k ok ds hokl hds hkall
    have hjl : ∀ jd ∈ ds, jd.1 < l.length := fun jd hjd => by
      have := hdl jd hjd
      rcases Nat.lt_or_ge jd.1 listed.size with h' | h'
      · rw [inv.size, hsize] at h'; exact h'
      · simp [Array.getElem?_eq_none h'] at this
    have hkH : k ∈ headIx sp l.toArray.size := mem_headIx.2 ⟨by rw [hsize]; exact hkl, hkh⟩
    have hkin : k < listed.size := by rw [inv.size, hsize]; exact hkl
    have hkf : listed.getD k false = false := by simpa [hkin] using hkun
    have hjk : ∀ jd ∈ ds, jd.1 ≠ k := fun jd hjd e => by
      have := hdl jd hjd
      rw [e, hkf] at this
      cases this
    -- the part of k in front
    have hS := inv.sep.perm (perm_at (L0 := L0) (f := pool) hkH)
    rw [inv.pre k (by rw [hsize]; exact hkl) hkh hkf] at hS
    have hndk : ((headIx sp l.toArray.size).erase k).Nodup := hnd0.erase k
    have heat1 : ∀ i j, eatsB et k i = true → eatsB et k j = true → i = j := fun i j h1 h2 => ((etB_uniq hE (eatsB_iff.1 h2) (eatsB_iff.1 h1)).1 rfl)
    have hdsk : dsD sp k = ds := hdsD k ds hds
    have hmemk : ∀ jd ∈ ds, jd.1 ∈ (headIx sp l.toArray.size).erase k := fun jd hjd => (List.Nodup.mem_erase_iff hnd0).2 ⟨hjk jd hjd, mem_headIx.2 ⟨by rw [hsize]; exact hjl jd hjd, (hd2 jd hjd).2.2.1⟩⟩
    have hM : (((headIx sp l.toArray.size).erase k).map pool).Perm ((ds.filter fun q => eatsB et k q.1).reverse.map (fun q => pool q.1) ++ (((headIx sp l.toArray.size).erase k).filter fun j => !eatsB et k j).map pool) := by
      rcases filt_one (eatsB et k) heat1 ds (chkD_nodup hd6).1 with h1 | ⟨q, h1, h2, h3⟩
      · rw [h1]
        have : (((headIx sp l.toArray.size).erase k).filter fun j => !eatsB et k j) = (headIx sp l.toArray.size).erase k := by
          refine List.filter_eq_self.2 fun j hj => ?_
          cases hc : eatsB et k j with
          | false => rfl
          | true =>
            obtain ⟨r, hr, e⟩ := etB_ds hE (eatsB_iff.1 hc)
            rw [hdsk] at hr
            have : r ∈ ds.filter fun q => eatsB et k q.1 := List.mem_filter.2 ⟨hr, by rw [e]; exact hc⟩
            rw [h1] at this; cases this
        rw [this]; exact List.Perm.refl _
      · rw [h3]
        have : (((headIx sp l.toArray.size).erase k).filter fun j => !eatsB et k j) = ((headIx sp l.toArray.size).erase k).erase q.1 := by
          rw [List.Nodup.erase_eq_filter hndk]
          refine List.filter_congr fun j hj => ?_
          by_cases e : j = q.1
          · subst e; simp [h2]
          · have h4 : eatsB et k j = false := by
              cases hc : eatsB et k j with
              | false => rfl
              | true => exact absurd (heat1 _ _ hc h2) e
            rw [h4]; simp [e]
        rw [this]
        exact (List.perm_cons_erase (hmemk q h1)).map pool
    have hSM : Sp R w ((ds.filter fun q => eatsB et k q.1).reverse.map (fun q => pool q.1) ++ ((spD ps k).1 :: ((((headIx sp l.toArray.size).erase k).filter fun j => !eatsB et k j).map pool ++ L0))) := by
      refine Sp.perm ?_ hS
      refine ((hM.append_right L0).cons _).trans ?_
      rw [List.append_assoc]
      exact List.perm_middle.symm
    have hob1 := oblGoD_at l sp 0 hob k ok ds hokl hds w ((((headIx sp l.toArray.size).erase k).filter fun j => !eatsB et k j).map pool)
    rw [Nat.zero_add] at hob1
    obtain ⟨a', hK0, hz, hdf, ht⟩ := depsD_at (pool := pool) ds [] a0 a [] inv.tmps.symm (fun _ h => (by cases h)) hd6 (fun jd hjd => by
      obtain ⟨v, A, h1, h3, h2⟩ := inv.post jd.1 (by rw [hsize]; exact hjl jd hjd) (hd2 jd hjd).2.2.1 (hdl jd hjd)
      rw [h2 jd.2 (hd2 jd hjd).2.1]
      refine ⟨A, h1, fun he => ?_, fun he => ?_⟩
      · rcases h3 with h3 | ⟨_, kk, hkk, hkkl⟩
        · exact h3.symm
        · have : kk = k := (etB_uniq hE (eatsB_iff.1 he) hkk).2 rfl
          rw [this, hkf] at hkkl; cases hkkl
      · rcases h3 with h3 | ⟨_, kk, hkk, _⟩
        · rw [← h3]
          refine List.mem_append_left _ (List.mem_map.2 ⟨jd.1, List.mem_filter.2 ⟨hmemk jd hjd, ?_⟩, rfl⟩)
          cases hc : eatsB et k jd.1 with
          | false => rfl
          | true => exact absurd (eatenB_iff.2 ⟨k, eatsB_iff.1 hc⟩) (by rw [he]; simp)
        · exact absurd (eatenB_iff.2 ⟨kk, hkk⟩) (by rw [he]; simp)) hob1
    have hK := hK0 (by rw [List.append_nil]; exact hSM)
    have hlook : ∀ t ∈ ok.looksAt l.toArray, a'.tmps.getD t undef = a.tmps.getD t undef := fun t htl => by
      rw [ht t]
      by_cases hm2 : t ∈ ds.map (·.2)
      · rw [if_pos hm2]
      · rw [if_neg hm2]
        refine (inv.same t fun j hj hs _ hd => hm2 ?_).symm
        rw [hsize] at hj
        exact List.mem_map.2 ⟨(j, t), hd3 t htl j hj hs hd, rfl⟩
    have hea : envA ds a' = envA ds a := envA_eq fun q hq => by rw [ht q.2, if_pos (List.mem_map.2 ⟨q, hq, rfl⟩)]
    have hex := exec_same (ops := l.toArray) (o := ok) (fun cs b => hselS k ok cs b hok) hlook
    have hwa := wanted_same (ops := l.toArray) (o := ok) hz hlook
    have hnext : ∀ v A w', (spD ps k).2 (envA ds a) v A → Sp R w' (A :: ((((headIx sp l.toArray.size).erase k).filter fun j => !eatsB et k j).map pool ++ L0)) → wpAny P md l.toArray Q (m + (tailIx sp l.toArray.size).length) (listed.setIfInBounds k true) (a.put ok.dst v) w' := by
      intro v A w' hp hS'
      have hput : ∀ t, (∀ d, ok.dst = some d → t ≠ d) → (a.put ok.dst v).tmps.getD t undef = a.tmps.getD t undef := fun t h => by
        cases hdst : ok.dst with
        | none => rfl
        | some d => rw [put_getD, if_neg (fun h2 => h d hdst h2.1)]
      have henv : ∀ (j : Nat) (oj : Oper) (dj : List (Nat × Tmp)), l[j]? = some oj → (sp[j]?).join = some dj → (∀ q ∈ dj, q.1 ≠ k) → envA dj (a.put ok.dst v) = envA dj a := fun j oj dj h1 h2 h3 => envA_eq fun q hq => hput _ fun d hd e => by
        obtain ⟨_, g2, _⟩ := hD j oj dj h1 h2
        obtain ⟨_, g3, g4, _⟩ := g2 q hq
        have hq1 : q.1 < l.length := by
          unfold dstOf at g3
          obtain ⟨o', e1, _⟩ := Option.bind_eq_some_iff.1 g3
          have := (Array.getElem?_eq_some_iff.1 e1).1
          simpa using this
        exact hd5 q.1 hq1 g4 (h3 q hq) d hd (by rw [g3, e])
      have hset : ∀ j, (listed.setIfInBounds k true).getD j false = true → j = k ∨ listed.getD j false = true := fun j hj => by
        by_cases e : k = j
        · exact .inl e.symm
        · rw [getD_set_ne false e] at hj; exact .inr hj
      refine ih (fun j => if j = k then A else if eatsB et k j = true then SA.emp else pool j) _ _ _ ⟨by simp [inv.size], fun j oj hj hlj e he hb => ?_, fun t ht1 ht2 => ?_, ?_, by rw [put_size]; exact inv.tmps, by rw [put_dfs]; exact inv.dfs, fun t htn => ?_, fun j hj hs hlj => ?_, fun j hj hs hlj => ?_, fun kk j hkj hkl2 => ?_⟩ ?_
      · rcases hset j hlj with rfl | hlj
        · have : oj = ok := Option.some.inj (hj.symm.trans hok)
          subst this
          exact getD_set_true (hkall e he hb)
        · exact getD_set_true (inv.closed j oj hj hlj e he hb)
      · have htk : k ≠ t := fun e => by subst e; rw [hkh] at ht1; cases ht1
        rw [getD_set_ne true htk]; exact inv.tail t ht1 ht2
      · refine Sp.perm (perm_at (L0 := L0) (f := fun j => if j = k then A else if eatsB et k j = true then SA.emp else pool j) hkH).symm ?_
        rw [map_off hnd0 (f := fun j => if j = k then A else if eatsB et k j = true then SA.emp else pool j) (g := fun j => if eatsB et k j = true then SA.emp else pool j) (fun j hj => if_neg hj), if_pos rfl]
        have hfm : (((headIx sp l.toArray.size).erase k).filter fun j => !eatsB et k j).map pool = (((headIx sp l.toArray.size).erase k).filter fun j => !eatsB et k j).map fun j => if eatsB et k j = true then SA.emp else pool j := List.map_congr_left fun j hj => by
          have := (List.mem_filter.1 hj).2
          rw [if_neg (by simpa using this)]
        rw [hfm] at hS'
        by_cases hex : ∃ j ∈ (headIx sp l.toArray.size).erase k, eatsB et k j = true
        · obtain ⟨j0, hj0, he0⟩ := hex
          have : (((headIx sp l.toArray.size).erase k).filter fun j => !eatsB et k j) = ((headIx sp l.toArray.size).erase k).erase j0 := by
            rw [List.Nodup.erase_eq_filter hndk]
            refine List.filter_congr fun j hj => ?_
            by_cases e : j = j0
            · subst e; simp [he0]
            · have h4 : eatsB et k j = false := by
                cases hc : eatsB et k j with
                | false => rfl
                | true => exact absurd (heat1 _ _ hc he0) e
              rw [h4]; simp [e]
          rw [this] at hS'
          have hSe := hS'.emp.swap
          refine Sp.perm ?_ hSe
          refine List.Perm.cons _ ?_
          have hp := ((List.perm_cons_erase hj0).map fun j => if eatsB et k j = true then SA.emp else pool j).append_right L0
          simp only [List.map_cons, if_pos he0] at hp
          exact hp.symm
        · have : (((headIx sp l.toArray.size).erase k).filter fun j => !eatsB et k j) = (headIx sp l.toArray.size).erase k := List.filter_eq_self.2 fun j hj => by
            cases hc : eatsB et k j with
            | false => rfl
            | true => exact absurd ⟨j, hj, hc⟩ hex
          rw [this] at hS'
          exact hS'
      · have h1 : a.tmps.getD t undef = a0.tmps.getD t undef := inv.same t fun j hj hs hlj => htn j hj hs (getD_set_true hlj)
        have h2 := htn k (by rw [hsize]; exact hkl) hkh (by simp [hkin])
        cases hdst : ok.dst with
        | none => exact h1
        | some d =>
          rw [put_getD, if_neg (by rintro ⟨e, _⟩; subst e; exact h2 (by simp [dstOf, hokl, hdst]))]
          exact h1
      · have hjk : j ≠ k := fun e => by subst e; simp [hkin] at hlj
        have hne : ¬ eatsB et k j = true := fun he => by
          obtain ⟨q, hq, e⟩ := etB_ds hE (eatsB_iff.1 he)
          rw [hdsk] at hq
          have := hdl q hq
          rw [e] at this
          rw [getD_set_ne false (fun e => hjk e.symm), this] at hlj; cases hlj
        rw [if_neg hjk, if_neg hne]
        exact inv.pre j hj hs (by rwa [getD_set_ne false (fun e => hjk e.symm)] at hlj)
      · rcases Decidable.em (j = k) with rfl | hjk
        · refine ⟨v, A, ?_, .inl (if_pos rfl), fun d hd => ?_⟩
          · rw [hdsD j ds hds, henv j ok ds hokl hds (fun q hq e => by have := (hd2 q hq).2.2.2; omega)]; exact hp
          · have hdst : ok.dst = some d := by simpa [dstOf, hokl] using hd
            rw [hdst, put_getD, if_pos ⟨rfl, by rw [inv.tmps, hN]; exact hd1 d hdst⟩]
        · have hlj' : listed.getD j false = true := (hset j hlj).resolve_left hjk
          obtain ⟨u, B, h1, h3, h2⟩ := inv.post j hj hs hlj'
          obtain ⟨dj, hdj⟩ := Option.isSome_iff_exists.1 hs
          rw [hsize] at hj
          have hoj : l[j]? = some l[j] := List.getElem?_eq_getElem hj
          have hqs := hcl listed inv.closed j l[j] dj hoj hdj (inv.closed j l[j] (by simp) hlj')
          refine ⟨u, B, ?_, ?_, fun d hd => ?_⟩
          · rw [hdsD j dj hdj, henv j l[j] dj hoj hdj (fun q hq e => by
              have := hqs q hq
              rw [e, hkf] at this; cases this)]
            rw [hdsD j dj hdj] at h1
            exact h1
          · rw [if_neg hjk]
            by_cases he : eatsB et k j = true
            · rw [if_pos he]; exact .inr ⟨rfl, k, eatsB_iff.1 he, by simp [hkin]⟩
            · rw [if_neg he]
              refine h3.imp id fun ⟨e1, kk, e2, e3⟩ => ⟨e1, kk, e2, getD_set_true e3⟩
          · rw [hput d fun dk hdst e => hd5 j hj hs hjk dk hdst (by rw [← e]; exact hd)]
            exact h2 d hd
      · by_cases hjk : j = k
        · subst hjk
          exfalso
          obtain ⟨q, hq, e⟩ := etB_ds hE hkj
          have hkk : listed.getD kk false = true ∨ kk = j := (hset kk hkl2).symm
          rcases hkk with hkk | hkk
          · have hkd : ∃ dk, (sp[kk]?).join = some dk := by
              unfold dsD at hq
              cases hc : (sp[kk]?).join with
              | none => rw [hc] at hq; cases hq
              | some dk => exact ⟨dk, rfl⟩
            obtain ⟨dk, hdk⟩ := hkd
            rw [hdsD kk dk hdk] at hq
            have hkl3 : kk < l.length := by
              rw [hsp]
              rcases Nat.lt_or_ge kk sp.length with h | h
              · exact h
              · rw [List.getElem?_eq_none h] at hdk; cases hdk
            have := hcl listed inv.closed kk l[kk] dk (List.getElem?_eq_getElem hkl3) hdk (inv.closed kk l[kk] (by simp) hkk) q hq
            rw [e, hkf] at this; cases this
          · rw [hkk, hdsk] at hq
            exact hjk q hq e
        · rw [if_neg hjk]
          by_cases he : eatsB et k j = true
          · rw [if_pos he]
          · rw [if_neg he]
            have hkk : kk ≠ k := fun e => he (eatsB_iff.2 (by rw [← e]; exact hkj))
            exact inv.gone kk j hkj ((hset kk hkl2).resolve_left hkk)
      · have hkL : k ∈ (headIx sp l.toArray.size).filter fun i => !listed.getD i true := (hmem k).2 ⟨hkl, hkh, hkun⟩
        have hnd : ((headIx sp l.toArray.size).filter fun i => !listed.getD i true).Nodup := hnd0.filter _
        have he : ((headIx sp l.toArray.size).filter fun i => !(listed.setIfInBounds k true).getD i true) = ((headIx sp l.toArray.size).filter fun i => !listed.getD i true).filter fun i => i != k := by
          rw [List.filter_filter]
          refine List.filter_congr fun i hi => ?_
          by_cases e : k = i
          · subst e; simp [hkin]
          · rw [getD_set_ne true e]
            have : (i != k) = true := by simp; exact fun h => e h.symm
            rw [this, Bool.true_and]
        rw [he, ← List.Nodup.erase_eq_filter hnd, List.length_erase_of_mem hkL, hm]
        rfl
    unfold wpOp
    simp only [hok]
    have hKk : oblS P R ((((headIx sp l.toArray.size).erase k).filter fun j => !eatsB et k j).map pool ++ L0) l.toArray ok a' w (spD ps k).1 ((spD ps k).2 (envA ds a)) := by rw [← hea]; exact hK
    unfold oblS at hKk
    cases hg : ok.guard with
    | none =>
      rw [hg] at hKk
      rw [if_pos (by simp [Region.wanted, hg])]
      have : sAt P R ((((headIx sp l.toArray.size).erase k).filter fun j => !eatsB et k j).map pool ++ L0) ok a w ((spD ps k).2 (envA ds a)) := by unfold sAt at *; rw [← hex]; exact hKk
      exact .inl (wp_of_sAt this hnext)
    | some g =>
      rw [hg] at hKk
      simp only [hwa] at hKk
      by_cases hw : Region.wanted ok (yielded l.toArray a.tmps) = true
      · rw [if_pos hw] at hKk ⊢
        have : sAt P R ((((headIx sp l.toArray.size).erase k).filter fun j => !eatsB et k j).map pool ++ L0) ok a w ((spD ps k).2 (envA ds a)) := by unfold sAt at *; rw [← hex]; exact hKk
        exact .inl (wp_of_sAt this hnext)
      · rw [if_neg hw] at hKk ⊢
        exact hnext _ _ _ hKk (Sp.dropM hSM)

/-- **A region that draws its order, over parts.** -/
theorem wp_region_sepD {id : Nat} {Q : Exit → Act → World → Prop} {a0 : Act} {w0 : World} {l : List Oper} (sp : List (Option (List (Nat × Tmp)))) (ps : List (SA × DPost)) (N : Nat) (et : Eat) (hm : P.follows .mixedOrders = true)
    (hN : a0.tmps.size = N) (hsp : l.length = sp.length) (hB : grBD .any l.toArray sp N = true) (hE : etB sp et = true) (hS : Sp R w0 (preD ps l sp 0 ++ L0)) (hob : oblGoD P R L0 l.toArray sp et ps a0 l sp 0)
    (hend : endD et ps (fun a acc => ∀ w', Sp R w' (acc ++ L0) → wpList P l.toArray Q (tailOps l sp) a w') l sp 0 a0 []) : (Code.region id l.toArray true).wp P Q a0 w0 := by
  refine wp_region_any hm ?_
  have H := wpAny_sepD (Q := Q) (md := .any) hN rfl hsp hB hE hob hend _ (fun j => (spD ps j).1) (Array.replicate l.toArray.size false) a0 { w0 with drawn := w0.drawn + 1 }
    ⟨by simp, fun j oj _ hl => (by rw [getD_replicate_false] at hl; cases hl), fun t _ ht => getD_in (by simpa using ht) (getD_replicate_false _ _), ?_, rfl, rfl, fun _ _ => rfl, fun _ _ _ _ => rfl, fun j _ _ hl => (by rw [getD_replicate_false] at hl; cases hl), fun k _ _ hl => (by rw [getD_replicate_false] at hl; cases hl)⟩ rfl
  · have hlen : ((headIx sp l.toArray.size).filter fun i => !(Array.replicate l.toArray.size false).getD i true).length + (tailIx sp l.toArray.size).length = l.toArray.size := by
      have h1 : ((headIx sp l.toArray.size).filter fun i => !(Array.replicate l.toArray.size false).getD i true) = headIx sp l.toArray.size := by
        refine List.filter_eq_self.2 fun i hi => ?_
        have hi' := (mem_headIx.1 hi).1
        simp at hi' ⊢
        simp [hi']
      rw [h1]
      unfold headIx tailIx
      simp only [← Option.not_isSome]
      have := List.length_eq_countP_add_countP (fun k => ((sp[k]?).join).isSome) (l := List.range l.toArray.size)
      rw [List.countP_eq_length_filter, List.countP_eq_length_filter, List.length_range] at this
      have e : (List.filter (fun k => !((sp[k]?).join).isSome) (List.range l.toArray.size)) = List.filter (fun k => decide ¬((sp[k]?).join).isSome = true) (List.range l.toArray.size) := List.filter_congr fun k _ => by cases ((sp[k]?).join).isSome <;> rfl
      rw [e]
      exact this.symm
    rw [hlen] at H
    exact H
  · have e : (headIx sp l.toArray.size).map (fun j => (spD ps j).1) = preD ps l sp 0 := by
      rw [preD_eq l sp 0 hsp]
      simp [headIx, List.range_eq_range']
    rw [e]
    exact hS.below (Gr.drew w0)

theorem Fr.env1 {n : Nat} {D : List Deferred} {a : Act} {E : List (Nat × Value)} (F : Fr n D a E) (ds : List (Nat × Tmp)) (i : Nat) {v : Value} (h : (ds[i]?).bind (fun q => look E q.2) = some v) : (envA ds a).getD i undef = v := by
  obtain ⟨q, h1, h2⟩ := Option.bind_eq_some_iff.1 h
  unfold envA
  rw [List.getD_eq_getElem?_getD, List.getElem?_map, h1]
  exact F.get _ _ h2
/-- 'store' of what is there already. -/
theorem s_st_same {P : Program} {R : Ctx} {L : List SA} {o : Oper} {a : Act} {w : World} {ty : TypeId} {x y : Operand} (ho : o.op = .store ty x y) {g i : Nat} {old : Array Value} (hx : a.eval x = .pointer (some ⟨g, i, none⟩)) {u : Value} (hy : a.eval y = u) {t : TypeId} (hb : Blk w g t old) (S : Sp R w (SA.emp :: L))
    (hi : (P.info? ty).map (·.size) = some 1) (hs : Nat.ble old.size i = false) (h1 : u.oneCell' = true) (hc : u.cells = #[u]) (hcs : old.setIfInBounds i u = old) : sAt P R L o a w (fun _ A => A = SA.emp) := by
  unfold sAt execOp
  simp only [ho, hx, hy, Instr.storeAt, Instr.sureAddr, Sem.run_bind, Sem.run_pure, Result.andThen_ok, store_run (P := P) hb hi (nble hs) h1 hc]
  refine ⟨_, rfl, S.below ⟨rfl, rfl, rfl, by simp [World.setCell], fun k _ => ?_⟩⟩
  by_cases e : k = g
  · subst e
    have h := hb.set_ i u
    rw [hcs] at h
    exact h.trans hb.symm
  · exact Below.heap_setCell w ⟨g, i, none⟩ _ k e
theorem sAt_mono {P : Program} {R : Ctx} {L : List SA} {o : Oper} {a : Act} {w : World} {p q : SPost} (h : sAt P R L o a w p) (hpq : ∀ v A, p v A → q v A) : sAt P R L o a w q := sAt_pre h fun v A w' hp S => ⟨A, hpq v A hp, S⟩
end
end Go.Proofs.Ytkjcedlgljeoiaa

/- append to a row that is read on. -/
namespace Go.Proofs.Ytkjcedlgljeoiaa
open Go.RowKit
theorem Sl.block {w w' : World} {A : Option Addr} {cs : List Value} (h : Sl w A cs) (hk : ∀ ad, A = some ad → w'.heap[ad.block]? = w.heap[ad.block]?) : Sl w' A cs :=
  ⟨h.1, fun hn => by
    obtain ⟨ad, e, hc⟩ := h.2 hn
    refine ⟨ad, e, fun j u hu => ?_⟩
    have hcell := hc j u hu
    have : w'.heap[(ad.add j).block]? = w.heap[(ad.add j).block]? := by rw [cblock_of_add]; exact hk ad e
    rw [World.cell?_of_block this]
    exact hcell⟩
namespace SA
/-- Two slices that are read; they may share memory. -/
def two (A : Option Addr) (l : List Value) (A' : Option Addr) (l' : List Value) : SA :=
  ⟨fun w F => Sl w A l ∧ Sl w A' l' ∧ (∀ ad, A = some ad → F ad.block) ∧ (∀ ad, A' = some ad → F ad.block) ∧ ∀ k, F k → k < w.heap.size,
   fun ⟨h1, h2, h3, h4, h5⟩ hk => ⟨h1.block fun ad e => hk _ (h3 ad e), h2.block fun ad e => hk _ (h4 ad e), h3, h4, fun k hf => by
    have := hk k hf
    have h6 := h5 k hf
    rw [Array.getElem?_eq_getElem h6] at this
    exact heap_lt2 this⟩,
   fun h k hk => h.2.2.2.2 k hk⟩
end SA
section
variable {n : Nat} {D : List Deferred} {a : Act} {E E' : List (Nat × Value)} {P : Program} {w : World} {R : Ctx} {L : List SA}
variable {ops : Array Oper} {rest : List Oper} {o : Oper} {Q : Exit → Act → World → Prop}
theorem Sp.tw1 (i : Nat) {A A' : Option Addr} {l l' : List Value} (S : Sp R w L) (hm : L[i]? = some (SA.two A l A' l')) : Sl w A l := let ⟨_, h, _⟩ := S.mem (List.mem_of_getElem? hm); h
theorem Sp.tw2 (i : Nat) {A A' : Option Addr} {l l' : List Value} (S : Sp R w L) (hm : L[i]? = some (SA.two A l A' l')) : Sl w A' l' := let ⟨_, _, h, _⟩ := S.mem (List.mem_of_getElem? hm); h
theorem s_app2 {s x : Operand} {t e : TypeId} (ho : o.op = .call { callee := .builtin .append, args := #[s, x], argTypes := #[t, t] }) (ht : P.underlying t = some (.slice e)) {z : Value} (bytes : Nat) (hi : (P.info? e).map (fun i => (i.zero, i.size, i.bytes)) = some (some z, 1, bytes))
    (hz : z.cells.size = 1) {A : Option Addr} {n c : Nat} {cs : List Value} (hs : a.eval s = .slice A n c) (S : Sp R w (SA.own (.slice A n c) e 1 n cs :: L)) {B : Option Addr} {c2 : Nat} (u : Value) (hx : a.eval x = .slice B 1 c2) (hr : Sl w B [u])
    (h1 : u.oneCell' = true) (hbytes : (n + 1) * bytes ≤ 140737488355328) (h63 : n + 1 ≤ 140737488355328) :
    sAt P R L o a w (fun v' Q => ∃ A' c', v' = .slice A' (n + 1) c' ∧ Q = SA.two A cs A' (cs ++ [u])) := by
  obtain ⟨i0, hi0, hzz⟩ := Option.map_eq_some_iff.1 hi
  simp only [Prod.mk.injEq] at hzz
  obtain ⟨hz0, hz1, hz2⟩ := hzz
  obtain ⟨ad, rfl, hc⟩ := hr.2 (by simp)
  have hown := S.ow 0 rfl
  have key : ∃ A' c' w', (Builtin.append_ #[t, t] o.type #[.slice A n c, .slice (some ad) 1 c2]).run P w = .ok (.slice A' (n + 1) c') w' ∧ w'.ownsRow 0 e 1 (.slice A' (n + 1) c') (n + 1) (cs ++ [u]) ∧ Sl w' A cs ∧
      w.grownBy w' (Value.ownBlock (.slice A n c)) ∧ (∀ k, Value.ownBlock (.slice A' (n + 1) c') = some k → Value.ownBlock (.slice A n c) = some k ∨ w.heap.size ≤ k) := by
    have hlen : (cs ++ [u]).length = (n + 1) * 1 := by rw [List.length_append, hown.1]; simp
    rcases hown.2 with ⟨h2, rfl⟩ | ⟨g, cap, cur, h2, hb0, hg, hnc, hcm, hcs, htake⟩
    · injection h2 with e1 _ e3
      subst e1; subst e3
      have hcs : cs = [] := List.eq_nil_of_length_eq_zero (by simpa using hown.1)
      subst hcs
      obtain ⟨v', w', q1, q2, q3, _, q5⟩ := run_append_own_at (P := P) w 0 t o.type e i0 z 1 bytes ht hi0 hz0 hz1 hz2 hz (by decide) _ 0 [] hown ad 1 c2 [u] rfl hc (by simpa using h1) (by simp only [maxLen]; omega) hbytes (Nat.zero_le _)
      obtain ⟨A', c', rfl, _⟩ := own_form q2
      refine ⟨A', c', w', q1, q2, Sl.nil, q3, fun k hk => ?_⟩
      rcases q5 with q5 | q5
      · rw [q5] at hk; exact .inl hk
      · rw [q5] at hk; injection hk with hk; exact .inr (by omega)
    · injection h2 with e1 _ e3
      subst e1; subst e3
      by_cases hroom : n + 1 ≤ c
      · have hfit : n * i0.size + [u].length ≤ cur.size := by rw [hz1, hcs]; simp; omega
        have hr := run_append_room (P := P) w t o.type e i0 ht hi0 g n c cur hg ad 1 c2 [u] (by rw [hz1]; rfl) hc (by simpa using h1) hroom hfit
        rw [hz1] at hr hfit
        have hnew : (w.setRow g (cur.toList.take (n * 1) ++ [u] ++ cur.toList.drop (n * 1 + [u].length)).toArray).ownsRow 0 e 1 (.slice (some ⟨g, 0, none⟩) (n + 1) c) (n + 1) (cs ++ [u]) := by
          refine ⟨hlen, .inr ⟨g, c, _, rfl, hb0, setRow_heap w g cur _ e _ hg, hroom, hcm, ?_, ?_⟩⟩
          · simp only [List.size_toArray, List.length_append, List.length_take, List.length_drop, Array.length_toList]
            omega
          · rw [htake, ← hlen]
            exact List.take_left
        refine ⟨_, _, _, hr, hnew, ?_, ⟨rfl, rfl, rfl, by simp, fun k _ hk => setRow_other w g k _ (fun e => hk (by simp [Value.ownBlock, e]))⟩, fun k hk => .inl hk⟩
        have h3 := own_slN (own_take hnew (Nat.le_succ n)) (by omega)
        rw [List.take_left' (by rw [hown.1])] at h3
        exact h3
      · obtain ⟨v', w', q1, q2, q3⟩ := run_append_arg_grows (P := P) w t o.type e i0 z 1 bytes ht hi0 hz0 hz1 hz2 hz (by decide) ⟨g, 0, none⟩ n c cs hown.1 (hown.cells (g := g) rfl) ad 1 c2 [u] rfl hc (by omega) (by simp only [maxLen]; omega) hbytes
        obtain ⟨A', c', rfl, _⟩ := own_form q2
        refine ⟨A', c', w', q1, own_mono q2 (Nat.zero_le _), ?_, ⟨q3.os, q3.tape, q3.output, q3.size, fun k hk _ => q3.block k hk (by simp)⟩, fun k hk => .inr (own_ge q2 k hk)⟩
        exact (own_slN hown (by omega)).block fun ad e => q3.block _ (by injection e with e; subst e; exact heap_lt2 hg) (by simp)
  obtain ⟨A', c', w', q1, q2, q3, q4, q5⟩ := key
  have hrun : (execOp a.eval o).run P w = .ok (.value (.slice A' (n + 1) c')) w' := by
    unfold execOp
    simp only [ho, resolve, invoke, builtin, Sem.run_bind, Sem.run_pure, Result.andThen_ok, List.map_toArray, List.map_cons, List.map_nil, hs, hx, q1]
  unfold sAt
  rw [hrun]
  refine ⟨_, ⟨A', c', rfl, rfl⟩, S.upd q4.os q4.tape q4.output fun F hF => ⟨fun k => Value.ownBlock (.slice A n c) = some k ∨ Value.ownBlock (.slice A' (n + 1) c') = some k, ⟨q3, own_slN q2 (by omega), fun ad e => .inl (by subst e; rfl), fun ad e => .inr (by subst e; rfl), fun k hk => ?_⟩, fun k hk => ?_, fun k hl hk => q4.block k hl fun e => hk ((hF.2 k).2 e.symm)⟩⟩
  · rcases hk with hk | hk
    · exact Nat.lt_of_lt_of_le (own_lt hown k hk) q4.size
    · exact own_lt q2 k hk
  · rcases hk with hk | hk
    · exact .inl ((hF.2 k).2 hk)
    · exact (q5 k hk).imp (fun h => (hF.2 k).2 h) id
end
end Go.Proofs.Ytkjcedlgljeoiaa

/- Short forms of steps. -/
namespace Go.Proofs.Ytkjcedlgljeoiaa
open Go.RowKit
section
variable {n : Nat} {D : List Deferred} {a : Act} {E E' : List (Nat × Value)} {P : Program} {w : World} {R : Ctx} {L : List SA}
variable {ops : Array Oper} {rest : List Oper} {o : Oper} {Q : Exit → Act → World → Prop}
theorem op_q (F : Fr n D a E) {d : Nat} (v : Value) (h : ∀ a', Fr n D a' ((d, v) :: E) → wpList P ops Q rest a' w) (hd : o.dst = some d := by rfl) (hn : Nat.ble n d = false := by rfl) (hgd : o.guard = none := by rfl) (hs : isSelect o.op = false := by rfl)
    (hk : knownL E o.op.operands.toList = true := by kernel_rfl) (hrun : (execOp (valE E) o).run P w = .ok (.value v) w := by kernel_rfl) : wpList P ops Q (o :: rest) a w := op_p F v hrun hgd hd hn hk hs h
theorem op_rq (F : Fr n D a E) {d : Nat} {v : Value} (hrun : (execOp a.eval o).run P w = .ok (.value v) w) (h : ∀ a', Fr n D a' ((d, v) :: E) → wpList P ops Q rest a' w) (hgd : o.guard = none := by rfl) (hd : o.dst = some d := by rfl) (hn : Nat.ble n d = false := by rfl) :
    wpList P ops Q (o :: rest) a w := op_r F hrun hgd hd hn h
theorem Fr.e (F : Fr n D a E) {x : Operand} (v : Value) (h : val E x = some v := by kernel_rfl) : a.eval x = v := F.ev h
theorem Fr.kk (F : Fr n D a E) (t : Nat) {v : Value} (G : Fr n D a E') (h : look E t = some v := by kernel_rfl) : Fr n D a ((t, v) :: E') := F.k t h G
theorem op_sq (F : Fr n D a E) {d : Nat} {p : SPost} (hs : sAt P R L o a w p) (h : ∀ v A w', p v A → Sp R w' (A :: L) → ∀ a', Fr n D a' ((d, v) :: E) → wpList P ops Q rest a' w') (hgd : o.guard = none := by rfl) (hd : o.dst = some d := by rfl) (hn : Nat.ble n d = false := by rfl) :
    wpList P ops Q (o :: rest) a w := op_s F hs hgd hd hn h
theorem op_sq0 (F : Fr n D a E) {p : SPost} (hs : sAt P R L o a w p) (h : ∀ v A w', p v A → Sp R w' (A :: L) → Fr n D a E → wpList P ops Q rest a w') (hgd : o.guard = none := by rfl) (hd : o.dst = none := by rfl) : wpList P ops Q (o :: rest) a w := op_s0 F hs hgd hd h
theorem op_wq (F : Fr n D a E) (h : wpList P ops Q ({ o with guard := none } :: rest) a w) (hg : guardIs ops E o = some true := by kernel_rfl) (hn : (match (ops[(o.guard.map (·.1)).getD 0]?).bind (·.dst) with | some t => Nat.ble n t | none => false) = false := by rfl) : wpList P ops Q (o :: rest) a w := op_want F hg hn h
theorem op_kq (F : Fr n D a E) {d : Nat} (h : ∀ a', Fr n D a' ((d, undef) :: E) → wpList P ops Q rest a' w) (hg : guardIs ops E o = some false := by kernel_rfl) (hn : (match (ops[(o.guard.map (·.1)).getD 0]?).bind (·.dst) with | some t => Nat.ble n t | none => false) = false := by rfl)
    (hd : o.dst = some d := by rfl) (hn2 : Nat.ble n d = false := by rfl) : wpList P ops Q (o :: rest) a w := op_skip F hg hn hd hn2 h
theorem op_cq (F : Fr n D a E) {d : Nat} {f : FuncId} {args : Array Value} {Φ : Ending → World → Prop} (hc : Calls P f args w Φ) (h : ∀ e w', Φ e w' → ∃ v, e = .returned v ∧ ∀ a', Fr n D a' ((d, v) :: E) → wpList P ops Q rest a' w')
    (hex : (execOp (valE E) o).run P w = .ok (.enter f args) w := by kernel_rfl) (hk : knownL E o.op.operands.toList = true := by kernel_rfl) (hs : isSelect o.op = false := by rfl) (hgd : o.guard = none := by rfl) (hd : o.dst = some d := by rfl) (hn : Nat.ble n d = false := by rfl) :
    wpList P ops Q (o :: rest) a w := op_c F hex hk hs hc hgd hd hn h
end
end Go.Proofs.Ytkjcedlgljeoiaa

/- plugin.getPlatformCommand. -/
namespace Go.Proofs.Ytkjcedlgljeoiaa
open Go.RowKit Go.Lib
set_option linter.unusedVariables false
set_option linter.unusedSimpArgs false
theorem split32_any (s : ByteArray) (ps : List ByteArray) (w : World) (hs : s.size ≤ 1000000) (hps : ps = splitF ⟨#[32]⟩ (s.size + 1) s) :
    Calls Try.prog 202 #[.string s, .string ⟨#[32]⟩] w fun e w' => ∃ (A : Option Addr) (c : Nat), e = .returned (.slice A ps.length c) ∧ w'.ownsRow w.heap.size 9 1 (.slice A ps.length c) ps.length (strs ps) ∧ Below w.heap.size w w' := by
  subst hps
  refine (split_any s ⟨#[32]⟩ w (by decide) (by show _ + 1 ≤ _; omega)).mono fun e w' ⟨v, he, ho, hb⟩ => ?_
  obtain ⟨A, c, rfl, _⟩ := own_form ho
  exact ⟨A, c, he, ho, hb⟩
def partsF (c : Ty110) : List ByteArray := splitF ⟨#[32]⟩ (c.fCommand.size + 1) c.fCommand
theorem nb_z {a : ByteArray} (h : a.size = 0) : nb a = true := by
  have : a = ⟨#[]⟩ := bytes_nil h
  subst this; exact beq_self_eq_true _
theorem nb_n {a : ByteArray} (h : 0 < a.size) : nb a = false := by
  apply Bool.eq_false_iff.2
  intro e
  have e := eq_of_beq e
  rw [Go.ByteArray.toList_eq, Go.ByteArray.toList_eq] at e
  have e : a = ⟨#[]⟩ := ByteArray.ext (Array.toList_inj.1 e)
  subst e; exact absurd h (by decide)
theorem fe_z {a os : ByteArray} (h : a.size = 0) (ho : 0 < os.size) : fe a os = false := low_sz (by omega)
theorem pk_skip {os : ByteArray} {st : Nat × Ty110} {c : Ty110} (h : (0 < c.fOS.size ∧ fe c.fOS os = false) ∨ 0 < c.fArch.size) : pk os st c = st := by
  unfold pk
  rcases h with ⟨h1, h2⟩ | h
  · simp only [h2, nb_n h1, Bool.false_and, Bool.false_eq_true, if_false]
  · simp only [nb_n h, Bool.false_and, Bool.and_false, Bool.false_eq_true, if_false]
theorem pk_two {os : ByteArray} {n : Nat} {b c : Ty110} (h1 : fe c.fOS os = true) (hz : c.fArch.size = 0) (h : n < 2) : pk os (n, b) c = (2, c) := by
  unfold pk
  have h3 : decide ((n : Int) < 2) = true := by simp; omega
  simp only [h1, nb_z hz, h3, Bool.and_true, if_true]
theorem pk_full {os : ByteArray} {n : Nat} {b c : Ty110} (h : n = 2) : pk os (n, b) c = (n, b) := by
  unfold pk
  subst h
  have h3 : decide (((2 : Nat) : Int) < 2) = false := by decide
  have h4 : (((2 : Nat) : Int) == 0) = false := by decide
  simp only [h3, h4, Bool.and_false, Bool.false_eq_true, if_false]
theorem pk_one {os : ByteArray} {n : Nat} {b c : Ty110} (ho : 0 < os.size) (h1 : c.fOS.size = 0) (hz : c.fArch.size = 0) (h : n = 0) : pk os (n, b) c = (1, c) := by
  unfold pk
  subst h
  have h4 : (((0 : Nat) : Int) == 0) = true := by decide
  simp only [fe_z h1 ho, nb_z h1, nb_z hz, h4, Bool.false_and, Bool.and_true, Bool.false_eq_true, if_false, if_true]
theorem pk_had {os : ByteArray} {n : Nat} {b c : Ty110} (ho : 0 < os.size) (h1 : c.fOS.size = 0) (h : 0 < n) : pk os (n, b) c = (n, b) := by
  unfold pk
  have h4 : ((n : Int) == 0) = false := by simp; omega
  simp only [fe_z h1 ho, h4, Bool.false_and, Bool.and_false, Bool.false_eq_true, if_false]
set_option maxRecDepth 100000 in
set_option maxHeartbeats 20000000 in
theorem getCmd_any (os : ByteArray) (arch : ByteArray) (gb : Nat) (A : Option Addr) (d : Nat) (cs : List Ty110) (R : Ctx) (L : List SA) (w : World) (S : Sp R w (L)) (h0 : Rf R L fun w => Rows w (A) 4 (cs.map Ty110.cells)) (hos : 0 < os.size) (hoz : os.size ≤ 1000000 ∧ arch.size ≤ 1000000) (hoa : ∀ j, bt0 os j ≤ 127) (haa : ∀ j, bt0 arch j ≤ 127) (hcz : ∀ x ∈ cs, x.fOS.size ≤ 1000000 ∧ x.fArch.size ≤ 1000000 ∧ x.fCommand.size ≤ 1000000) (hca : ∀ x ∈ cs, (∀ j, bt0 x.fOS j ≤ 127) ∧ (∀ j, bt0 x.fArch j ≤ 127)) :
    Calls Try.prog 199 #[.agg #[.string os, .string arch, .func (.func 110) #[] #[.pointer (some ⟨gb, 0, none⟩)]], .slice (A) (cs.length) (d)] w fun e w' => ∃ c : Ty110, ∃ ps : List ByteArray, ∃ Ab : Option Addr, ∃ cb : Nat, e = .returned (.tuple #[.slice Ab ps.length cb, .slice c.fArgs_a c.fArgs.length c.fArgs_c]) ∧ Sp R w' (SA.own (.slice Ab ps.length cb) 9 1 ps.length (strs ps) :: L) ∧ ((pickF os arch cs = some c ∧ ps = partsF c) ∨ (pickF os arch cs = none ∧ ps = [])) := by
  have hl_cs : cs.length ≤ 9223372036854775807 := by have := (h0 _ S).1; simpa [strs, ptrs] using this
  refine fw_enter (fn := Try.f199) rfl rfl 88 rfl (Nat.le_of_ble_eq_true rfl) ?_
  intro a0 F0
  refine wp_seq_k fun K1 hK1 => ?_
  refine wp_region_lit ?_
  refine op_sq F0 (s_newp F0 185 #[.string os, .string arch, .func (.func 110) #[] #[.pointer (some ⟨gb, 0, none⟩)]] (by kernel_rfl) (by kernel_rfl) (by kernel_rfl) S) ?_
  rintro _ _ w3 ⟨g1, rfl, rfl⟩ S3 a3 F3
  refine op_q F3 (.slice none 0 0) ?_; intro a4 F4
  refine op_q F4 (.slice none 0 0) ?_; intro a5 F5
  refine wpList_nil ?_
  refine hK1 _ _ ?_; clear hK1 K1
  refine wp_seq_k fun K6 hK6 => ?_
  refine wp_region_lit ?_
  refine op_q F5 (.slice none 0 0) ?_; intro a7 F7
  refine op_q F7 (.slice none 0 0) ?_; intro a8 F8
  refine wpList_nil ?_
  refine hK6 _ _ ?_; clear hK6 K6
  refine wp_seq_k fun K9 hK9 => ?_
  refine wp_region_lit ?_
  refine op_q F8 (.bool false) ?_; intro a10 F10
  refine wpList_nil ?_
  refine hK9 _ _ ?_; clear hK9 K9
  refine wp_seq_k fun K11 hK11 => ?_
  refine wp_region_lit ?_
  refine op_q F10 (.bool false) ?_; intro a12 F12
  refine wpList_nil ?_
  refine hK11 _ _ ?_; clear hK11 K11
  refine wp_seq_k fun K13 hK13 => ?_
  refine wp_region_lit ?_
  refine op_q F12 (.func (.func 197) #[] #[]) ?_; intro a14 F14
  refine wpList_nil ?_
  refine hK13 _ _ ?_; clear hK13 K13
  refine wp_seq_k fun K15 hK15 => ?_
  refine wp_seq_k fun K16 hK16 => ?_
  refine wp_region_lit ?_
  refine op_q F14 (.slice (A) (cs.length) (d)) ?_; intro a17 F17
  refine op_q F17 (.int .i64 (↑cs.length)) ?_; intro a18 F18
  refine op_q F18 (.int .i64 0) ?_; intro a19 F19
  refine wpList_nil ?_
  refine hK16 _ _ ?_; clear hK16 K16
  refine wp_block ?_
  refine fw_loop (fun m a' w' => ∃ Ab : Option Addr, ∃ cb : Nat, ∃ ps : List ByteArray, ∃ c : Ty110, ∃ n : Nat, ∃ b8 : Bool, ∃ b9 : Bool, ∃ k : Nat, cs.length - k = m ∧ Fr 88 [] a' [(2, .pointer (some ⟨g1, 0, none⟩)), (6, .slice Ab ps.length cb), (7, .slice c.fArgs_a c.fArgs.length c.fArgs_c), (8, .bool b8), (9, .bool b9), (10, .func (.func 197) #[] #[]), (13, .slice (A) (cs.length) (d)), (14, .int .i64 (↑cs.length)), (15, .int .i64 (↑k))] ∧ Sp R w' (SA.own (.slice Ab ps.length cb) 9 1 ps.length (strs ps) :: SA.blk g1 185 #[.string os, .string arch, .func (.func 110) #[] #[.pointer (some ⟨gb, 0, none⟩)]] :: L) ∧ (k ≤ cs.length) ∧ (n ≤ 2) ∧ (pickS os (cs.take k) = (n, c)) ∧ (∀ j, ∀ hj : j < cs.length, j < k → exB os arch cs[j] = false) ∧ (b8 = decide (0 < n)) ∧ (b9 = decide (n = 2)) ∧ (ps = if 0 < n then partsF c else [])) _ ⟨none, 0, [], zeroC, 0, false, false, 0, rfl, (F19.kk 2 (F19.kk 6 (F19.kk 7 (F19.kk 8 (F19.kk 9 (F19.kk 10 (F19.kk 13 (F19.kk 14 (F19.kk 15 F19.nil))))))))), (Sp.nilown S3), (by first | omega | (with_reducible assumption) | (simp; done)), (by first | omega | (with_reducible assumption) | (simp; done)), rfl, (fun j _ hj => absurd hj (Nat.not_lt_zero _)), rfl, rfl, rfl⟩ ?_
  rintro m20 a20 w20 ⟨Ab, cb, ps, c, n, b8, b9, k, hm20, F20, S20, hk, hn2, hs, hno, hb8, hb9, hps⟩ K20 hK20
  by_cases hlt_k : k < cs.length
  · have hc_k : decide ((↑k : Int) < ↑cs.length) = true := by first | (simp; done) | (simp; omega)
    have hck := hcz _ (List.getElem_mem hlt_k)
    have hckO : cs[k].fOS.size ≤ 1000000 := hck.1
    have hckA : cs[k].fArch.size ≤ 1000000 := hck.2.1
    have hckC : cs[k].fCommand.size ≤ 1000000 := hck.2.2
    have hca1 := (hca _ (List.getElem_mem hlt_k)).1
    have hca2 := (hca _ (List.getElem_mem hlt_k)).2
    have hoz1 := hoz.1
    have hoz2 := hoz.2
    obtain ⟨ad21, hA21⟩ := (h0 _ S20.drop.drop).addr (by simp; omega)
    refine wp_seq_k fun K22 hK22 => ?_
    refine wp_region_lit ?_
    refine op_q F20 (.bool (decide ((↑k : Int) < ↑cs.length))) ?_; intro a23 F23
    have F24 := F23.sb 16 (by kernel_rfl) hc_k
    refine wpList_nil ?_
    refine hK22 _ _ ?_; clear hK22 K22
    refine wp_seq_k fun K25 hK25 => ?_
    refine wp_cond_true (F24.ev (by kernel_rfl)) ?_
    refine wp_skip ?_
    refine hK25 _ _ ?_; clear hK25 K25
    refine wp_seq_k fun K26 hK26 => ?_
    refine wp_block ?_
    refine wp_seq_k fun K27 hK27 => ?_
    refine wp_region_lit ?_
    refine op_rq (v := .pointer (some (ad21.add (k * 4)))) F24 (r_ix rfl Try.underlying187 4 (by kernel_rfl) (F24.e (.slice (A) (cs.length) (d))) hA21 (F24.e (.int .i64 (↑k))) k (by first | rfl | omega | simp) (by first | omega | (simp; done) | (simp; omega)) (rfl)) ?_; intro a28 F28
    refine op_rq (v := .agg #[.string cs[k].fOS, .string cs[k].fArch, .string cs[k].fCommand, .slice cs[k].fArgs_a cs[k].fArgs.length cs[k].fArgs_c]) F28 (r_ldR rfl (F28.e (.pointer (some (ad21.add (k * 4))))) (cs := [.string cs[k].fOS, .string cs[k].fArch, .string cs[k].fCommand, .slice cs[k].fArgs_a cs[k].fArgs.length cs[k].fArgs_c]) ((h0 _ S20.drop.drop).elA hA21 (j := k) (row := cs[k].cells) (by rw [List.getElem?_map, List.getElem?_eq_getElem hlt_k]; rfl)) Try.underlying191 rfl (by kernel_rfl) (v := #[.string cs[k].fOS, .string cs[k].fArch, .string cs[k].fCommand, .slice cs[k].fArgs_a cs[k].fArgs.length cs[k].fArgs_c]) (by kernel_rfl)) ?_; intro a29 F29
    refine op_sq F29 (s_newp F29 191 #[.string ⟨#[]⟩, .string ⟨#[]⟩, .string ⟨#[]⟩, .slice none 0 0] (by kernel_rfl) (by kernel_rfl) (by kernel_rfl) S20) ?_
    rintro _ _ w31 ⟨g29, rfl, rfl⟩ S31 a31 F31
    refine op_sq0 F31 (s_stb rfl (F31.e (.pointer (some ⟨g29, 0, none⟩))) (F31.e (.agg #[.string cs[k].fOS, .string cs[k].fArch, .string cs[k].fCommand, .slice cs[k].fArgs_a cs[k].fArgs.length cs[k].fArgs_c])) S31 (by kernel_rfl) rfl (by kernel_rfl)) ?_
    rintro _ _ w32 rfl S32 F32
    refine wpList_nil ?_
    refine hK27 _ _ ?_; clear hK27 K27
    refine wp_seq_k fun K33 hK33 => ?_
    refine wp_seq_k fun K34 hK34 => ?_
    refine wp_region_lit ?_
    refine op_q F32 (.func (.func 197) #[] #[]) ?_; intro a35 F35
    refine op_q F35 (.pointer (some ⟨g29, 0, none⟩)) ?_; intro a36 F36
    refine op_rq (v := .string cs[k].fOS) F36 (r_ld rfl (F36.e (.pointer (some ⟨g29, 0, none⟩))) (v := .string cs[k].fOS) ((S32.bk 0 rfl).cell 0) Try.underlying9 rfl) ?_; intro a37 F37
    refine op_q F37 (.pointer (some ⟨g1, 0, none⟩)) ?_; intro a38 F38
    refine op_rq (v := .string os) F38 (r_ld rfl (F38.e (.pointer (some ⟨g1, 0, none⟩))) (v := .string os) ((S32.bk 2 rfl).cell 0) Try.underlying9 rfl) ?_; intro a39 F39
    refine op_cq F39 (f := 197) (args := #[.string cs[k].fOS, .string os]) (equalFold_any cs[k].fOS os _ _ _ S32 (by first | omega | (simp; done) | (simp; omega)) (by first | omega | (simp; done) | (simp; omega)) (by first | exact hoa | exact haa | exact hca1 | exact hca2) (by first | exact hoa | exact haa | exact hca1 | exact hca2)) ?_
    rintro _ w40 ⟨rfl, S40⟩
    refine ⟨_, rfl, ?_⟩
    intro a41 F41
    refine op_q F41 (.bool ((lowF cs[k].fOS).toList == (lowF os).toList)) ?_; intro a42 F42
    rcases btf ((lowF cs[k].fOS).toList == (lowF os).toList) with hc43 | hc43
    · have F44 := F42.sb 24 (by kernel_rfl) hc43
      have F45 := F44.sb 25 (by kernel_rfl) hc43
      refine op_wq F45 ?_
      refine op_q F45 (.func (.func 197) #[] #[]) ?_; intro a46 F46
      refine op_wq F46 ?_
      refine op_q F46 (.pointer (some ⟨g29, 1, none⟩)) ?_; intro a47 F47
      refine op_wq F47 ?_
      refine op_rq (v := .string cs[k].fArch) F47 (r_ld rfl (F47.e (.pointer (some ⟨g29, 1, none⟩))) (v := .string cs[k].fArch) ((S40.bk 0 rfl).cell 1) Try.underlying9 rfl) ?_; intro a48 F48
      refine op_wq F48 ?_
      refine op_q F48 (.pointer (some ⟨g1, 1, none⟩)) ?_; intro a49 F49
      refine op_wq F49 ?_
      refine op_rq (v := .string arch) F49 (r_ld rfl (F49.e (.pointer (some ⟨g1, 1, none⟩))) (v := .string arch) ((S40.bk 2 rfl).cell 1) Try.underlying9 rfl) ?_; intro a50 F50
      refine op_wq F50 ?_
      refine op_cq F50 (f := 197) (args := #[.string cs[k].fArch, .string arch]) (equalFold_any cs[k].fArch arch _ _ _ S40 (by first | omega | (simp; done) | (simp; omega)) (by first | omega | (simp; done) | (simp; omega)) (by first | exact hoa | exact haa | exact hca1 | exact hca2) (by first | exact hoa | exact haa | exact hca1 | exact hca2)) ?_
      rintro _ w51 ⟨rfl, S51⟩
      refine ⟨_, rfl, ?_⟩
      intro a52 F52
      refine op_q F52 (.bool ((lowF cs[k].fArch).toList == (lowF arch).toList)) ?_; intro a53 F53
      refine wpList_nil ?_
      refine hK34 _ _ ?_; clear hK34 K34
      rcases btf ((lowF cs[k].fArch).toList == (lowF arch).toList) with hc54 | hc54
      · have F55 := F53.sb 31 (by kernel_rfl) hc54
        have F56 := F55.sb 32 (by kernel_rfl) hc54
        refine wp_cond_true (F56.ev (by kernel_rfl)) ?_
        refine wp_seq_k fun K57 hK57 => ?_
        refine wp_region_sepD (L0 := SA.blk g29 191 #[.string cs[k].fOS, .string cs[k].fArch, .string cs[k].fCommand, .slice cs[k].fArgs_a cs[k].fArgs.length cs[k].fArgs_c] :: SA.own (.slice Ab ps.length cb) 9 1 ps.length (strs ps) :: SA.blk g1 185 #[.string os, .string arch, .func (.func 110) #[] #[.pointer (some ⟨gb, 0, none⟩)]] :: L) [some [], some [(0, 33)], some [(0, 33), (1, 34)], some [], some [(3, 36)], some [(0, 33), (1, 34), (2, 35)], some [(3, 36), (4, 37)]] [(SA.emp, fun _ v A => v = .pointer (some ⟨g29, 2, none⟩) ∧ A = SA.emp), (SA.emp, fun _ v A => v = .string cs[k].fCommand ∧ A = SA.emp), (SA.emp, fun _ v A => ∃ A81 : Option Addr, ∃ c81 : Nat, v = .slice A81 ((partsF cs[k]).length) c81 ∧ A = SA.own (.slice A81 (partsF cs[k]).length c81) 9 1 ((partsF cs[k]).length) (strs (partsF cs[k]))), (SA.emp, fun _ v A => v = .pointer (some ⟨g29, 3, none⟩) ∧ A = SA.emp), (SA.emp, fun _ v A => v = .slice cs[k].fArgs_a cs[k].fArgs.length cs[k].fArgs_c ∧ A = SA.emp), (SA.emp, fun us v A => ∃ A81x : Option Addr, ∃ c81x : Nat, (us.getD 2 undef) = .slice A81x ((partsF cs[k]).length) c81x ∧ v = .slice A81x ((partsF cs[k]).length) c81x ∧ A = SA.emp), (SA.emp, fun _ v A => v = .slice cs[k].fArgs_a cs[k].fArgs.length cs[k].fArgs_c ∧ A = SA.emp)] 88 [] rfl F56.size rfl (by kernel_rfl) (by kernel_rfl) S51.emp.emp.emp.emp.emp.emp.emp.p1.p2.p3.p4.p5.p6 ?_ ?_
        · refine ⟨?_, ?_, ?_, ?_, ?_, ?_, ?_, trivial⟩
          · intro w75 M75
            refine depsD_nil ?_
            intro S75
            refine obl_of (by rfl) ?_
            exact s_p F56 (v := .pointer (some ⟨g29, 2, none⟩)) (by kernel_rfl) (by kernel_rfl) (by kernel_rfl) S75
          · intro w76 M76
            rintro _ _ ⟨rfl, rfl⟩ hA77
            have F77 := F56.put (d := 33) (v := .pointer (some ⟨g29, 2, none⟩)) (by decide)
            refine depsD_nil ?_
            intro S76
            refine obl_of (by rfl) ?_
            exact s_r (v := .string cs[k].fCommand) (r_ld rfl (F77.e (.pointer (some ⟨g29, 2, none⟩))) (v := .string cs[k].fCommand) (((Sp.dropM S76.drop).bk 0 rfl).cell 2) Try.underlying9 rfl) S76
          · intro w78 M78
            rintro _ _ ⟨rfl, rfl⟩ hA79
            have F79 := F56.put (d := 33) (v := .pointer (some ⟨g29, 2, none⟩)) (by decide)
            rintro _ _ ⟨rfl, rfl⟩ hA80
            have F80 := F79.put (d := 34) (v := .string cs[k].fCommand) (by decide)
            refine depsD_nil ?_
            intro S78
            refine obl_of (by rfl) ?_
            refine s_c F80 (f := 202) (args := #[.string cs[k].fCommand, .string ⟨#[32]⟩]) (by kernel_rfl) (by kernel_rfl) (by kernel_rfl) (split32_any cs[k].fCommand (partsF cs[k]) _ (by first | omega | (simp; done) | (simp; omega)) rfl) ?_
            rintro _ _ ⟨A81, c81, rfl, hp0_81, hb_81⟩
            exact ⟨_, _, rfl, ⟨A81, c81, rfl, rfl⟩, S78.drop.newown hb_81 hp0_81⟩
          · intro w82 M82
            refine depsD_nil ?_
            intro S82
            refine obl_of (by rfl) ?_
            exact s_p F56 (v := .pointer (some ⟨g29, 3, none⟩)) (by kernel_rfl) (by kernel_rfl) (by kernel_rfl) S82
          · intro w83 M83
            rintro _ _ ⟨rfl, rfl⟩ hA84
            have F84 := F56.put (d := 36) (v := .pointer (some ⟨g29, 3, none⟩)) (by decide)
            refine depsD_nil ?_
            intro S83
            refine obl_of (by rfl) ?_
            exact s_r (v := .slice cs[k].fArgs_a cs[k].fArgs.length cs[k].fArgs_c) (r_ld rfl (F84.e (.pointer (some ⟨g29, 3, none⟩))) (v := .slice cs[k].fArgs_a cs[k].fArgs.length cs[k].fArgs_c) (((Sp.dropM S83.drop).bk 0 rfl).cell 3) Try.underlying22 rfl) S83
          · intro w85 M85
            rintro _ _ ⟨rfl, rfl⟩ hA86
            have F86 := F56.put (d := 33) (v := .pointer (some ⟨g29, 2, none⟩)) (by decide)
            rintro _ _ ⟨rfl, rfl⟩ hA87
            have F87 := F86.put (d := 34) (v := .string cs[k].fCommand) (by decide)
            rintro _ _ ⟨A81, c81, rfl, rfl⟩ hA88
            have F88 := F87.put (d := 35) (v := .slice A81 ((partsF cs[k]).length) c81) (by decide)
            refine depsD_nil ?_
            intro S85
            refine obl_of (by rfl) ?_
            exact sAt_mono (s_p F88 (v := .slice A81 ((partsF cs[k]).length) c81) (by kernel_rfl) (by kernel_rfl) (by kernel_rfl) S85) fun _ _ ⟨e1, e2⟩ => ⟨A81, c81, (F88.env1 _ 2 (by kernel_rfl)), e1, e2⟩
          · intro w89 M89
            rintro _ _ ⟨rfl, rfl⟩ hA90
            have F90 := F56.put (d := 36) (v := .pointer (some ⟨g29, 3, none⟩)) (by decide)
            rintro _ _ ⟨rfl, rfl⟩ hA91
            have F91 := F90.put (d := 37) (v := .slice cs[k].fArgs_a cs[k].fArgs.length cs[k].fArgs_c) (by decide)
            refine depsD_nil ?_
            intro S89
            refine obl_of (by rfl) ?_
            exact s_p F91 (v := .slice cs[k].fArgs_a cs[k].fArgs.length cs[k].fArgs_c) (by kernel_rfl) (by kernel_rfl) (by kernel_rfl) S89
        · rintro _ _ ⟨rfl, rfl⟩
          have F93 := F56.put (d := 33) (v := .pointer (some ⟨g29, 2, none⟩)) (by decide)
          rintro _ _ ⟨rfl, rfl⟩
          have F94 := F93.put (d := 34) (v := .string cs[k].fCommand) (by decide)
          rintro _ _ ⟨A81, c81, rfl, rfl⟩
          have F95 := F94.put (d := 35) (v := .slice A81 ((partsF cs[k]).length) c81) (by decide)
          rintro _ _ ⟨rfl, rfl⟩
          have F96 := F95.put (d := 36) (v := .pointer (some ⟨g29, 3, none⟩)) (by decide)
          rintro _ _ ⟨rfl, rfl⟩
          have F97 := F96.put (d := 37) (v := .slice cs[k].fArgs_a cs[k].fArgs.length cs[k].fArgs_c) (by decide)
          rintro _ _ ⟨A81x, c81x, e5_2, rfl, rfl⟩
          have e5_2 := (F97.env1 [(0, 33), (1, 34), (2, 35)] 2 (v := .slice A81 ((partsF cs[k]).length) c81) (by kernel_rfl)).symm.trans e5_2
          obtain ⟨rfl, rfl⟩ : A81 = A81x ∧ c81 = c81x := by cases e5_2; exact ⟨rfl, rfl⟩
          clear e5_2
          have F98 := F97.put (d := 4) (v := .slice A81 ((partsF cs[k]).length) c81) (by decide)
          rintro _ _ ⟨rfl, rfl⟩
          have F99 := F98.put (d := 5) (v := .slice cs[k].fArgs_a cs[k].fArgs.length cs[k].fArgs_c) (by decide)
          intro w92 S92
          have S100 := S92.drop
          have S101 := S100.drop
          have S102 := S101.drop
          have S103 := S102.drop
          have S104 := S103.p1.drop
          have S105 := S104.p1.drop
          refine wpList_nil ?_
          refine hK57 _ _ ?_; clear hK57 K57
          refine wp_ret ?_
          refine ret_then ?_
          refine ret_in ?_
          refine ret_then ?_
          refine ret_then ?_
          refine ret_in ?_
          refine ret_then ?_
          refine (F99.res2 rfl (v := .slice A81 ((partsF cs[k]).length) c81) (by kernel_rfl) (v2 := .slice cs[k].fArgs_a cs[k].fArgs.length cs[k].fArgs_c) (by kernel_rfl) ?_).1
          exact ⟨cs[k], partsF cs[k], A81, c81, rfl, S105.p1.drop.p1.drop.p1.drop, (Or.inl ⟨pick_hit hlt_k hno (ex_yes hc43 hc54), rfl⟩)⟩
      · have F106 := F53.sb 31 (by kernel_rfl) hc54
        have F107 := F106.sb 32 (by kernel_rfl) hc54
        refine wp_cond_false (F107.ev (by kernel_rfl)) ?_
        refine wp_skip ?_
        refine hK33 _ _ ?_; clear hK33 K33
        refine wp_seq_k fun K108 hK108 => ?_
        refine wp_seq_k fun K109 hK109 => ?_
        refine wp_region_lit ?_
        refine op_q F107 (.pointer (some ⟨g29, 0, none⟩)) ?_; intro a110 F110
        refine op_rq (v := .string cs[k].fOS) F110 (r_ld rfl (F110.e (.pointer (some ⟨g29, 0, none⟩))) (v := .string cs[k].fOS) ((S51.bk 0 rfl).cell 0) Try.underlying9 rfl) ?_; intro a111 F111
        refine op_q F111 (.int .i64 (↑cs[k].fOS.size)) ?_; intro a112 F112
        refine op_q F112 (.bool (decide ((0 : Int) < ↑cs[k].fOS.size))) ?_; intro a113 F113
        refine op_q F113 (.bool (decide ((0 : Int) < ↑cs[k].fOS.size))) ?_; intro a114 F114
        rcases btf (decide ((0 : Int) < ↑cs[k].fOS.size)) with hc115 | hc115
        · have hc115p := of_decide_eq_true hc115
          have F116 := F114.sb 41 (by kernel_rfl) hc115
          have F117 := F116.sb 42 (by kernel_rfl) hc115
          refine op_wq F117 ?_
          refine op_q F117 (.func (.func 197) #[] #[]) ?_; intro a118 F118
          refine op_wq F118 ?_
          refine op_q F118 (.pointer (some ⟨g29, 0, none⟩)) ?_; intro a119 F119
          refine op_wq F119 ?_
          refine op_rq (v := .string cs[k].fOS) F119 (r_ld rfl (F119.e (.pointer (some ⟨g29, 0, none⟩))) (v := .string cs[k].fOS) ((S51.bk 0 rfl).cell 0) Try.underlying9 rfl) ?_; intro a120 F120
          refine op_wq F120 ?_
          refine op_q F120 (.pointer (some ⟨g1, 0, none⟩)) ?_; intro a121 F121
          refine op_wq F121 ?_
          refine op_rq (v := .string os) F121 (r_ld rfl (F121.e (.pointer (some ⟨g1, 0, none⟩))) (v := .string os) ((S51.bk 2 rfl).cell 0) Try.underlying9 rfl) ?_; intro a122 F122
          refine op_wq F122 ?_
          refine op_cq F122 (f := 197) (args := #[.string cs[k].fOS, .string os]) (equalFold_any cs[k].fOS os _ _ _ S51 (by first | omega | (simp; done) | (simp; omega)) (by first | omega | (simp; done) | (simp; omega)) (by first | exact hoa | exact haa | exact hca1 | exact hca2) (by first | exact hoa | exact haa | exact hca1 | exact hca2)) ?_
          rintro _ w123 ⟨rfl, S123⟩
          refine ⟨_, rfl, ?_⟩
          intro a124 F124
          have F125 := F124.sb 48 (by kernel_rfl) hc43
          refine op_wq F125 ?_
          refine op_q F125 (.bool false) ?_; intro a126 F126
          refine op_q F126 (.bool false) ?_; intro a127 F127
          refine op_q F127 (.bool false) ?_; intro a128 F128
          refine op_wq F128 ?_
          refine op_q F128 (.pointer (some ⟨g29, 1, none⟩)) ?_; intro a129 F129
          refine op_wq F129 ?_
          refine op_rq (v := .string cs[k].fArch) F129 (r_ld rfl (F129.e (.pointer (some ⟨g29, 1, none⟩))) (v := .string cs[k].fArch) ((S123.bk 0 rfl).cell 1) Try.underlying9 rfl) ?_; intro a130 F130
          refine op_wq F130 ?_
          refine op_q F130 (.int .i64 (↑cs[k].fArch.size)) ?_; intro a131 F131
          refine op_wq F131 ?_
          refine op_q F131 (.bool (decide ((0 : Int) < ↑cs[k].fArch.size))) ?_; intro a132 F132
          refine op_q F132 (.bool (decide ((0 : Int) < ↑cs[k].fArch.size))) ?_; intro a133 F133
          refine wpList_nil ?_
          refine hK109 _ _ ?_; clear hK109 K109
          rcases btf (decide ((0 : Int) < ↑cs[k].fArch.size)) with hc134 | hc134
          · have hc134p := of_decide_eq_true hc134
            have F135 := F133.sb 55 (by kernel_rfl) hc134
            have F136 := F135.sb 56 (by kernel_rfl) hc134
            refine wp_cond_true (F136.ev (by kernel_rfl)) ?_
            refine wp_exit ?_
            refine ex_then ?_; clear hK108 K108
            refine ex_in ?_
            refine hK26 _ _ ?_; clear hK26 K26
            refine wp_region_lit ?_
            refine op_rq (v := .int .i64 (↑(k + 1))) F136 (r_add (z := ↑(k + 1)) rfl (F136.e (.int .i64 (↑k))) (F136.e (.int .i64 1)) (wr64 (by omega) (by omega) (by omega))) ?_; intro a137 F137
            refine op_q F137 (.int .i64 (↑(k + 1))) ?_; intro a138 F138
            refine wpList_nil ?_
            exact hK20 _ _ _ (by first | omega | (simp; omega)) ⟨Ab, cb, ps, c, n, b8, b9, k + 1, rfl, (F138.kk 2 (F138.kk 6 (F138.kk 7 (F138.kk 8 (F138.kk 9 (F138.kk 10 (F138.kk 13 (F138.kk 14 (F138.kk 15 F138.nil))))))))), S123.drop.p1.p1, (by first | omega | (with_reducible assumption) | (simp; done)), (by first | omega | (with_reducible assumption) | (simp; done)), (by rw [pickS_take hlt_k, hs]; first | exact pk_skip (Or.inr (by omega)) | exact pk_skip (Or.inl ⟨by omega, hc43⟩) | exact pk_full (by omega) | exact pk_had hos (by omega) (by omega)), (fun j hj h => (Nat.lt_succ_iff_lt_or_eq.1 h).elim (hno j hj) (fun e => by subst e; exact ex_no (Or.inr hc54))), (by first | (symm; apply decide_eq_true; omega) | (symm; apply decide_eq_false; omega) | (with_reducible assumption) | rfl), (by first | (symm; apply decide_eq_true; omega) | (symm; apply decide_eq_false; omega) | (with_reducible assumption) | rfl), (by first | omega | (with_reducible assumption) | (simp; done))⟩
          · have hc134p := of_decide_eq_false hc134
            have F139 := F133.sb 55 (by kernel_rfl) hc134
            have F140 := F139.sb 56 (by kernel_rfl) hc134
            refine wp_cond_false (F140.ev (by kernel_rfl)) ?_
            refine wp_skip ?_
            refine hK108 _ _ ?_; clear hK108 K108
            refine wp_seq_k fun K141 hK141 => ?_
            refine wp_region_lit ?_
            refine op_q F140 (.bool b9) ?_; intro a142 F142
            refine op_q F142 (.bool (!(b9))) ?_; intro a143 F143
            refine op_q F143 (.bool (!(b9))) ?_; intro a144 F144
            rcases btf (b9) with hc145 | hc145
            · have hb9n : n = 2 := by rw [hb9] at hc145; simpa using hc145
              have hb8t : b8 = true := by rw [hb8, hb9n]; rfl
              have F146 := F144.sb 9 (by kernel_rfl) hc145
              have F147 := F146.sb 57 (by kernel_rfl) hc145
              have F148 := F147.sb 58 (by kernel_rfl) (show (!(b9)) = false by rw [hc145]; rfl)
              have F149 := F148.sb 59 (by kernel_rfl) (show (!(b9)) = false by rw [hc145]; rfl)
              refine op_kq F149 ?_; intro a150 F150
              refine op_kq F150 ?_; intro a151 F151
              refine op_kq F151 ?_; intro a152 F152
              refine op_kq F152 ?_; intro a153 F153
              refine op_q F153 (.bool false) ?_; intro a154 F154
              refine op_q F154 (.bool false) ?_; intro a155 F155
              refine op_kq F155 ?_; intro a156 F156
              refine op_kq F156 ?_; intro a157 F157
              refine op_kq F157 ?_; intro a158 F158
              refine op_kq F158 ?_; intro a159 F159
              refine op_kq F159 ?_; intro a160 F160
              refine op_kq F160 ?_; intro a161 F161
              refine op_q F161 (.bool false) ?_; intro a162 F162
              refine wpList_nil ?_
              refine hK141 _ _ ?_; clear hK141 K141
              refine wp_cond_false (F162.ev (by kernel_rfl)) ?_
              refine wp_seq_k fun K163 hK163 => ?_
              refine wp_region_lit ?_
              refine op_q F162 (.bool b8) ?_; intro a164 F164
              refine op_q F164 (.bool (!(b8))) ?_; intro a165 F165
              refine wpList_nil ?_
              refine hK163 _ _ ?_; clear hK163 K163
              rcases btf (b8) with hc166 | hc166
              · have hb8n : 0 < n := by rw [hb8] at hc166; have := of_decide_eq_true hc166; omega
                have F167 := F165.sb 8 (by kernel_rfl) hc166
                have F168 := F167.sb 78 (by kernel_rfl) hc166
                have F169 := F168.sb 79 (by kernel_rfl) (show (!(b8)) = false by rw [hc166]; rfl)
                refine wp_cond_false (F169.ev (by kernel_rfl)) ?_
                refine wp_skip ?_
                refine hK26 _ _ ?_; clear hK26 K26
                refine wp_region_lit ?_
                refine op_rq (v := .int .i64 (↑(k + 1))) F169 (r_add (z := ↑(k + 1)) rfl (F169.e (.int .i64 (↑k))) (F169.e (.int .i64 1)) (wr64 (by omega) (by omega) (by omega))) ?_; intro a170 F170
                refine op_q F170 (.int .i64 (↑(k + 1))) ?_; intro a171 F171
                refine wpList_nil ?_
                exact hK20 _ _ _ (by first | omega | (simp; omega)) ⟨Ab, cb, ps, c, n, true, true, k + 1, rfl, (F171.kk 2 (F171.kk 6 (F171.kk 7 (F171.k 8 (by rw [hc166]; kernel_rfl) (F171.k 9 (by rw [hc145]; kernel_rfl) (F171.kk 10 (F171.kk 13 (F171.kk 14 (F171.kk 15 F171.nil))))))))), S123.drop.p1.p1, (by first | omega | (with_reducible assumption) | (simp; done)), (by first | omega | (with_reducible assumption) | (simp; done)), (by rw [pickS_take hlt_k, hs]; first | exact pk_skip (Or.inr (by omega)) | exact pk_skip (Or.inl ⟨by omega, hc43⟩) | exact pk_full (by omega) | exact pk_had hos (by omega) (by omega)), (fun j hj h => (Nat.lt_succ_iff_lt_or_eq.1 h).elim (hno j hj) (fun e => by subst e; exact ex_no (Or.inr hc54))), (by first | (symm; apply decide_eq_true; omega) | (symm; apply decide_eq_false; omega) | (with_reducible assumption) | rfl), (by first | (symm; apply decide_eq_true; omega) | (symm; apply decide_eq_false; omega) | (with_reducible assumption) | rfl), (by first | omega | (with_reducible assumption) | (simp; done))⟩
              · have hb8n : n = 0 := by rw [hb8] at hc166; have := of_decide_eq_false hc166; omega
                omega
            · have hb9n : n ≠ 2 := by rw [hb9] at hc145; simpa using hc145
              have F172 := F144.sb 9 (by kernel_rfl) hc145
              have F173 := F172.sb 57 (by kernel_rfl) hc145
              have F174 := F173.sb 58 (by kernel_rfl) (show (!(b9)) = true by rw [hc145]; rfl)
              have F175 := F174.sb 59 (by kernel_rfl) (show (!(b9)) = true by rw [hc145]; rfl)
              refine op_wq F175 ?_
              refine op_q F175 (.pointer (some ⟨g29, 0, none⟩)) ?_; intro a176 F176
              refine op_wq F176 ?_
              refine op_rq (v := .string cs[k].fOS) F176 (r_ld rfl (F176.e (.pointer (some ⟨g29, 0, none⟩))) (v := .string cs[k].fOS) ((S123.bk 0 rfl).cell 0) Try.underlying9 rfl) ?_; intro a177 F177
              refine op_wq F177 ?_
              refine op_q F177 (.int .i64 (↑cs[k].fOS.size)) ?_; intro a178 F178
              refine op_wq F178 ?_
              refine op_q F178 (.bool (decide ((0 : Int) < ↑cs[k].fOS.size))) ?_; intro a179 F179
              have F180 := F179.sb 63 (by kernel_rfl) hc115
              refine op_q F180 (.bool true) ?_; intro a181 F181
              refine op_q F181 (.bool true) ?_; intro a182 F182
              refine op_wq F182 ?_
              refine op_q F182 (.func (.func 197) #[] #[]) ?_; intro a183 F183
              refine op_wq F183 ?_
              refine op_q F183 (.pointer (some ⟨g29, 0, none⟩)) ?_; intro a184 F184
              refine op_wq F184 ?_
              refine op_rq (v := .string cs[k].fOS) F184 (r_ld rfl (F184.e (.pointer (some ⟨g29, 0, none⟩))) (v := .string cs[k].fOS) ((S123.bk 0 rfl).cell 0) Try.underlying9 rfl) ?_; intro a185 F185
              refine op_wq F185 ?_
              refine op_q F185 (.pointer (some ⟨g1, 0, none⟩)) ?_; intro a186 F186
              refine op_wq F186 ?_
              refine op_rq (v := .string os) F186 (r_ld rfl (F186.e (.pointer (some ⟨g1, 0, none⟩))) (v := .string os) ((S123.bk 2 rfl).cell 0) Try.underlying9 rfl) ?_; intro a187 F187
              refine op_wq F187 ?_
              refine op_cq F187 (f := 197) (args := #[.string cs[k].fOS, .string os]) (equalFold_any cs[k].fOS os _ _ _ S123 (by first | omega | (simp; done) | (simp; omega)) (by first | omega | (simp; done) | (simp; omega)) (by first | exact hoa | exact haa | exact hca1 | exact hca2) (by first | exact hoa | exact haa | exact hca1 | exact hca2)) ?_
              rintro _ w188 ⟨rfl, S188⟩
              refine ⟨_, rfl, ?_⟩
              intro a189 F189
              have F190 := F189.sb 71 (by kernel_rfl) hc43
              refine op_q F190 (.bool true) ?_; intro a191 F191
              refine wpList_nil ?_
              refine hK141 _ _ ?_; clear hK141 K141
              refine wp_cond_true (F191.ev (by kernel_rfl)) ?_
              refine wp_seq_k fun K192 hK192 => ?_
              refine wp_region_lit ?_
              refine op_q F191 (.pointer (some ⟨g29, 2, none⟩)) ?_; intro a193 F193
              refine op_rq (v := .string cs[k].fCommand) F193 (r_ld rfl (F193.e (.pointer (some ⟨g29, 2, none⟩))) (v := .string cs[k].fCommand) ((S188.bk 0 rfl).cell 2) Try.underlying9 rfl) ?_; intro a194 F194
              refine op_cq F194 (f := 202) (args := #[.string cs[k].fCommand, .string ⟨#[32]⟩]) (split32_any cs[k].fCommand (partsF cs[k]) _ (by first | omega | (simp; done) | (simp; omega)) rfl) ?_
              rintro _ w195 ⟨A195, c195, rfl, hp0_195, hb_195⟩
              refine ⟨_, rfl, ?_⟩
              intro a196 F196
              have S195 := S188.newown hb_195 hp0_195
              refine op_q F196 (.slice A195 ((partsF cs[k]).length) c195) ?_; intro a197 F197
              refine wpList_nil ?_
              refine hK192 _ _ ?_; clear hK192 K192
              refine wp_seq_k fun K198 hK198 => ?_
              refine wp_region_lit ?_
              refine op_q F197 (.pointer (some ⟨g29, 3, none⟩)) ?_; intro a199 F199
              refine op_rq (v := .slice cs[k].fArgs_a cs[k].fArgs.length cs[k].fArgs_c) F199 (r_ld rfl (F199.e (.pointer (some ⟨g29, 3, none⟩))) (v := .slice cs[k].fArgs_a cs[k].fArgs.length cs[k].fArgs_c) ((S195.bk 1 rfl).cell 3) Try.underlying22 rfl) ?_; intro a200 F200
              refine op_q F200 (.slice cs[k].fArgs_a cs[k].fArgs.length cs[k].fArgs_c) ?_; intro a201 F201
              refine wpList_nil ?_
              refine hK198 _ _ ?_; clear hK198 K198
              refine wp_seq_k fun K202 hK202 => ?_
              refine wp_region_lit ?_
              refine op_q F201 (.bool true) ?_; intro a203 F203
              refine wpList_nil ?_
              refine hK202 _ _ ?_; clear hK202 K202
              refine wp_region_lit ?_
              refine op_q F203 (.bool true) ?_; intro a204 F204
              refine wpList_nil ?_
              refine hK26 _ _ ?_; clear hK26 K26
              refine wp_region_lit ?_
              refine op_rq (v := .int .i64 (↑(k + 1))) F204 (r_add (z := ↑(k + 1)) rfl (F204.e (.int .i64 (↑k))) (F204.e (.int .i64 1)) (wr64 (by omega) (by omega) (by omega))) ?_; intro a205 F205
              refine op_q F205 (.int .i64 (↑(k + 1))) ?_; intro a206 F206
              refine wpList_nil ?_
              exact hK20 _ _ _ (by first | omega | (simp; omega)) ⟨A195, c195, partsF cs[k], cs[k], 2, true, true, k + 1, rfl, (F206.kk 2 (F206.kk 6 (F206.kk 7 (F206.kk 8 (F206.k 9 (by rw [hc145]; kernel_rfl) (F206.kk 10 (F206.kk 13 (F206.kk 14 (F206.kk 15 F206.nil))))))))), S195.p1.drop.p1.drop.p1.p1, (by first | omega | (with_reducible assumption) | (simp; done)), (by first | omega | (with_reducible assumption) | (simp; done)), (by rw [pickS_take hlt_k, hs]; exact pk_two hc43 (by omega) (by omega)), (fun j hj h => (Nat.lt_succ_iff_lt_or_eq.1 h).elim (hno j hj) (fun e => by subst e; exact ex_no (Or.inr hc54))), (by first | (symm; apply decide_eq_true; omega) | (symm; apply decide_eq_false; omega) | (with_reducible assumption) | rfl), (by first | (symm; apply decide_eq_true; omega) | (symm; apply decide_eq_false; omega) | (with_reducible assumption) | rfl), (if_pos (by omega)).symm⟩
        · have hc115p := of_decide_eq_false hc115
          have F207 := F114.sb 41 (by kernel_rfl) hc115
          have F208 := F207.sb 42 (by kernel_rfl) hc115
          refine op_kq F208 ?_; intro a209 F209
          refine op_kq F209 ?_; intro a210 F210
          refine op_kq F210 ?_; intro a211 F211
          refine op_kq F211 ?_; intro a212 F212
          refine op_kq F212 ?_; intro a213 F213
          refine op_kq F213 ?_; intro a214 F214
          refine op_kq F214 ?_; intro a215 F215
          refine op_q F215 (.bool false) ?_; intro a216 F216
          refine op_q F216 (.bool false) ?_; intro a217 F217
          refine op_wq F217 ?_
          refine op_q F217 (.pointer (some ⟨g29, 1, none⟩)) ?_; intro a218 F218
          refine op_wq F218 ?_
          refine op_rq (v := .string cs[k].fArch) F218 (r_ld rfl (F218.e (.pointer (some ⟨g29, 1, none⟩))) (v := .string cs[k].fArch) ((S51.bk 0 rfl).cell 1) Try.underlying9 rfl) ?_; intro a219 F219
          refine op_wq F219 ?_
          refine op_q F219 (.int .i64 (↑cs[k].fArch.size)) ?_; intro a220 F220
          refine op_wq F220 ?_
          refine op_q F220 (.bool (decide ((0 : Int) < ↑cs[k].fArch.size))) ?_; intro a221 F221
          refine op_q F221 (.bool (decide ((0 : Int) < ↑cs[k].fArch.size))) ?_; intro a222 F222
          refine wpList_nil ?_
          refine hK109 _ _ ?_; clear hK109 K109
          rcases btf (decide ((0 : Int) < ↑cs[k].fArch.size)) with hc223 | hc223
          · have hc223p := of_decide_eq_true hc223
            have F224 := F222.sb 55 (by kernel_rfl) hc223
            have F225 := F224.sb 56 (by kernel_rfl) hc223
            refine wp_cond_true (F225.ev (by kernel_rfl)) ?_
            refine wp_exit ?_
            refine ex_then ?_; clear hK108 K108
            refine ex_in ?_
            refine hK26 _ _ ?_; clear hK26 K26
            refine wp_region_lit ?_
            refine op_rq (v := .int .i64 (↑(k + 1))) F225 (r_add (z := ↑(k + 1)) rfl (F225.e (.int .i64 (↑k))) (F225.e (.int .i64 1)) (wr64 (by omega) (by omega) (by omega))) ?_; intro a226 F226
            refine op_q F226 (.int .i64 (↑(k + 1))) ?_; intro a227 F227
            refine wpList_nil ?_
            exact hK20 _ _ _ (by first | omega | (simp; omega)) ⟨Ab, cb, ps, c, n, b8, b9, k + 1, rfl, (F227.kk 2 (F227.kk 6 (F227.kk 7 (F227.kk 8 (F227.kk 9 (F227.kk 10 (F227.kk 13 (F227.kk 14 (F227.kk 15 F227.nil))))))))), S51.drop.p1.p1, (by first | omega | (with_reducible assumption) | (simp; done)), (by first | omega | (with_reducible assumption) | (simp; done)), (by rw [pickS_take hlt_k, hs]; first | exact pk_skip (Or.inr (by omega)) | exact pk_skip (Or.inl ⟨by omega, hc43⟩) | exact pk_full (by omega) | exact pk_had hos (by omega) (by omega)), (fun j hj h => (Nat.lt_succ_iff_lt_or_eq.1 h).elim (hno j hj) (fun e => by subst e; exact ex_no (Or.inr hc54))), (by first | (symm; apply decide_eq_true; omega) | (symm; apply decide_eq_false; omega) | (with_reducible assumption) | rfl), (by first | (symm; apply decide_eq_true; omega) | (symm; apply decide_eq_false; omega) | (with_reducible assumption) | rfl), (by first | omega | (with_reducible assumption) | (simp; done))⟩
          · have hc223p := of_decide_eq_false hc223
            have F228 := F222.sb 55 (by kernel_rfl) hc223
            have F229 := F228.sb 56 (by kernel_rfl) hc223
            refine wp_cond_false (F229.ev (by kernel_rfl)) ?_
            refine wp_skip ?_
            refine hK108 _ _ ?_; clear hK108 K108
            refine wp_seq_k fun K230 hK230 => ?_
            refine wp_region_lit ?_
            refine op_q F229 (.bool b9) ?_; intro a231 F231
            refine op_q F231 (.bool (!(b9))) ?_; intro a232 F232
            refine op_q F232 (.bool (!(b9))) ?_; intro a233 F233
            rcases btf (b9) with hc234 | hc234
            · have hb9n : n = 2 := by rw [hb9] at hc234; simpa using hc234
              have hb8t : b8 = true := by rw [hb8, hb9n]; rfl
              have F235 := F233.sb 9 (by kernel_rfl) hc234
              have F236 := F235.sb 57 (by kernel_rfl) hc234
              have F237 := F236.sb 58 (by kernel_rfl) (show (!(b9)) = false by rw [hc234]; rfl)
              have F238 := F237.sb 59 (by kernel_rfl) (show (!(b9)) = false by rw [hc234]; rfl)
              refine op_kq F238 ?_; intro a239 F239
              refine op_kq F239 ?_; intro a240 F240
              refine op_kq F240 ?_; intro a241 F241
              refine op_kq F241 ?_; intro a242 F242
              refine op_q F242 (.bool false) ?_; intro a243 F243
              refine op_q F243 (.bool false) ?_; intro a244 F244
              refine op_kq F244 ?_; intro a245 F245
              refine op_kq F245 ?_; intro a246 F246
              refine op_kq F246 ?_; intro a247 F247
              refine op_kq F247 ?_; intro a248 F248
              refine op_kq F248 ?_; intro a249 F249
              refine op_kq F249 ?_; intro a250 F250
              refine op_q F250 (.bool false) ?_; intro a251 F251
              refine wpList_nil ?_
              refine hK230 _ _ ?_; clear hK230 K230
              refine wp_cond_false (F251.ev (by kernel_rfl)) ?_
              refine wp_seq_k fun K252 hK252 => ?_
              refine wp_region_lit ?_
              refine op_q F251 (.bool b8) ?_; intro a253 F253
              refine op_q F253 (.bool (!(b8))) ?_; intro a254 F254
              refine wpList_nil ?_
              refine hK252 _ _ ?_; clear hK252 K252
              rcases btf (b8) with hc255 | hc255
              · have hb8n : 0 < n := by rw [hb8] at hc255; have := of_decide_eq_true hc255; omega
                have F256 := F254.sb 8 (by kernel_rfl) hc255
                have F257 := F256.sb 78 (by kernel_rfl) hc255
                have F258 := F257.sb 79 (by kernel_rfl) (show (!(b8)) = false by rw [hc255]; rfl)
                refine wp_cond_false (F258.ev (by kernel_rfl)) ?_
                refine wp_skip ?_
                refine hK26 _ _ ?_; clear hK26 K26
                refine wp_region_lit ?_
                refine op_rq (v := .int .i64 (↑(k + 1))) F258 (r_add (z := ↑(k + 1)) rfl (F258.e (.int .i64 (↑k))) (F258.e (.int .i64 1)) (wr64 (by omega) (by omega) (by omega))) ?_; intro a259 F259
                refine op_q F259 (.int .i64 (↑(k + 1))) ?_; intro a260 F260
                refine wpList_nil ?_
                exact hK20 _ _ _ (by first | omega | (simp; omega)) ⟨Ab, cb, ps, c, n, true, true, k + 1, rfl, (F260.kk 2 (F260.kk 6 (F260.kk 7 (F260.k 8 (by rw [hc255]; kernel_rfl) (F260.k 9 (by rw [hc234]; kernel_rfl) (F260.kk 10 (F260.kk 13 (F260.kk 14 (F260.kk 15 F260.nil))))))))), S51.drop.p1.p1, (by first | omega | (with_reducible assumption) | (simp; done)), (by first | omega | (with_reducible assumption) | (simp; done)), (by rw [pickS_take hlt_k, hs]; first | exact pk_skip (Or.inr (by omega)) | exact pk_skip (Or.inl ⟨by omega, hc43⟩) | exact pk_full (by omega) | exact pk_had hos (by omega) (by omega)), (fun j hj h => (Nat.lt_succ_iff_lt_or_eq.1 h).elim (hno j hj) (fun e => by subst e; exact ex_no (Or.inr hc54))), (by first | (symm; apply decide_eq_true; omega) | (symm; apply decide_eq_false; omega) | (with_reducible assumption) | rfl), (by first | (symm; apply decide_eq_true; omega) | (symm; apply decide_eq_false; omega) | (with_reducible assumption) | rfl), (by first | omega | (with_reducible assumption) | (simp; done))⟩
              · have hb8n : n = 0 := by rw [hb8] at hc255; have := of_decide_eq_false hc255; omega
                omega
            · have hb9n : n ≠ 2 := by rw [hb9] at hc234; simpa using hc234
              have F261 := F233.sb 9 (by kernel_rfl) hc234
              have F262 := F261.sb 57 (by kernel_rfl) hc234
              have F263 := F262.sb 58 (by kernel_rfl) (show (!(b9)) = true by rw [hc234]; rfl)
              have F264 := F263.sb 59 (by kernel_rfl) (show (!(b9)) = true by rw [hc234]; rfl)
              refine op_wq F264 ?_
              refine op_q F264 (.pointer (some ⟨g29, 0, none⟩)) ?_; intro a265 F265
              refine op_wq F265 ?_
              refine op_rq (v := .string cs[k].fOS) F265 (r_ld rfl (F265.e (.pointer (some ⟨g29, 0, none⟩))) (v := .string cs[k].fOS) ((S51.bk 0 rfl).cell 0) Try.underlying9 rfl) ?_; intro a266 F266
              refine op_wq F266 ?_
              refine op_q F266 (.int .i64 (↑cs[k].fOS.size)) ?_; intro a267 F267
              refine op_wq F267 ?_
              refine op_q F267 (.bool (decide ((0 : Int) < ↑cs[k].fOS.size))) ?_; intro a268 F268
              have F269 := F268.sb 63 (by kernel_rfl) hc115
              refine op_q F269 (.bool false) ?_; intro a270 F270
              refine op_q F270 (.bool false) ?_; intro a271 F271
              refine op_kq F271 ?_; intro a272 F272
              refine op_kq F272 ?_; intro a273 F273
              refine op_kq F273 ?_; intro a274 F274
              refine op_kq F274 ?_; intro a275 F275
              refine op_kq F275 ?_; intro a276 F276
              refine op_kq F276 ?_; intro a277 F277
              refine op_q F277 (.bool false) ?_; intro a278 F278
              refine wpList_nil ?_
              refine hK230 _ _ ?_; clear hK230 K230
              refine wp_cond_false (F278.ev (by kernel_rfl)) ?_
              refine wp_seq_k fun K279 hK279 => ?_
              refine wp_region_lit ?_
              refine op_q F278 (.bool b8) ?_; intro a280 F280
              refine op_q F280 (.bool (!(b8))) ?_; intro a281 F281
              refine wpList_nil ?_
              refine hK279 _ _ ?_; clear hK279 K279
              rcases btf (b8) with hc282 | hc282
              · have hb8n : 0 < n := by rw [hb8] at hc282; have := of_decide_eq_true hc282; omega
                have F283 := F281.sb 8 (by kernel_rfl) hc282
                have F284 := F283.sb 78 (by kernel_rfl) hc282
                have F285 := F284.sb 79 (by kernel_rfl) (show (!(b8)) = false by rw [hc282]; rfl)
                refine wp_cond_false (F285.ev (by kernel_rfl)) ?_
                refine wp_skip ?_
                refine hK26 _ _ ?_; clear hK26 K26
                refine wp_region_lit ?_
                refine op_rq (v := .int .i64 (↑(k + 1))) F285 (r_add (z := ↑(k + 1)) rfl (F285.e (.int .i64 (↑k))) (F285.e (.int .i64 1)) (wr64 (by omega) (by omega) (by omega))) ?_; intro a286 F286
                refine op_q F286 (.int .i64 (↑(k + 1))) ?_; intro a287 F287
                refine wpList_nil ?_
                exact hK20 _ _ _ (by first | omega | (simp; omega)) ⟨Ab, cb, ps, c, n, true, false, k + 1, rfl, (F287.kk 2 (F287.kk 6 (F287.kk 7 (F287.k 8 (by rw [hc282]; kernel_rfl) (F287.k 9 (by rw [hc234]; kernel_rfl) (F287.kk 10 (F287.kk 13 (F287.kk 14 (F287.kk 15 F287.nil))))))))), S51.drop.p1.p1, (by first | omega | (with_reducible assumption) | (simp; done)), (by first | omega | (with_reducible assumption) | (simp; done)), (by rw [pickS_take hlt_k, hs]; first | exact pk_skip (Or.inr (by omega)) | exact pk_skip (Or.inl ⟨by omega, hc43⟩) | exact pk_full (by omega) | exact pk_had hos (by omega) (by omega)), (fun j hj h => (Nat.lt_succ_iff_lt_or_eq.1 h).elim (hno j hj) (fun e => by subst e; exact ex_no (Or.inr hc54))), (by first | (symm; apply decide_eq_true; omega) | (symm; apply decide_eq_false; omega) | (with_reducible assumption) | rfl), (by first | (symm; apply decide_eq_true; omega) | (symm; apply decide_eq_false; omega) | (with_reducible assumption) | rfl), (by first | omega | (with_reducible assumption) | (simp; done))⟩
              · have hb8n : n = 0 := by rw [hb8] at hc282; have := of_decide_eq_false hc282; omega
                have F288 := F281.sb 8 (by kernel_rfl) hc282
                have F289 := F288.sb 78 (by kernel_rfl) hc282
                have F290 := F289.sb 79 (by kernel_rfl) (show (!(b8)) = true by rw [hc282]; rfl)
                refine wp_cond_true (F290.ev (by kernel_rfl)) ?_
                refine wp_seq_k fun K291 hK291 => ?_
                refine wp_region_lit ?_
                refine op_q F290 (.pointer (some ⟨g29, 2, none⟩)) ?_; intro a292 F292
                refine op_rq (v := .string cs[k].fCommand) F292 (r_ld rfl (F292.e (.pointer (some ⟨g29, 2, none⟩))) (v := .string cs[k].fCommand) ((S51.bk 0 rfl).cell 2) Try.underlying9 rfl) ?_; intro a293 F293
                refine op_cq F293 (f := 202) (args := #[.string cs[k].fCommand, .string ⟨#[32]⟩]) (split32_any cs[k].fCommand (partsF cs[k]) _ (by first | omega | (simp; done) | (simp; omega)) rfl) ?_
                rintro _ w294 ⟨A294, c294, rfl, hp0_294, hb_294⟩
                refine ⟨_, rfl, ?_⟩
                intro a295 F295
                have S294 := S51.newown hb_294 hp0_294
                refine op_q F295 (.slice A294 ((partsF cs[k]).length) c294) ?_; intro a296 F296
                refine wpList_nil ?_
                refine hK291 _ _ ?_; clear hK291 K291
                refine wp_seq_k fun K297 hK297 => ?_
                refine wp_region_lit ?_
                refine op_q F296 (.pointer (some ⟨g29, 3, none⟩)) ?_; intro a298 F298
                refine op_rq (v := .slice cs[k].fArgs_a cs[k].fArgs.length cs[k].fArgs_c) F298 (r_ld rfl (F298.e (.pointer (some ⟨g29, 3, none⟩))) (v := .slice cs[k].fArgs_a cs[k].fArgs.length cs[k].fArgs_c) ((S294.bk 1 rfl).cell 3) Try.underlying22 rfl) ?_; intro a299 F299
                refine op_q F299 (.slice cs[k].fArgs_a cs[k].fArgs.length cs[k].fArgs_c) ?_; intro a300 F300
                refine wpList_nil ?_
                refine hK297 _ _ ?_; clear hK297 K297
                refine wp_region_lit ?_
                refine op_q F300 (.bool true) ?_; intro a301 F301
                refine wpList_nil ?_
                refine hK26 _ _ ?_; clear hK26 K26
                refine wp_region_lit ?_
                refine op_rq (v := .int .i64 (↑(k + 1))) F301 (r_add (z := ↑(k + 1)) rfl (F301.e (.int .i64 (↑k))) (F301.e (.int .i64 1)) (wr64 (by omega) (by omega) (by omega))) ?_; intro a302 F302
                refine op_q F302 (.int .i64 (↑(k + 1))) ?_; intro a303 F303
                refine wpList_nil ?_
                exact hK20 _ _ _ (by first | omega | (simp; omega)) ⟨A294, c294, partsF cs[k], cs[k], 1, true, false, k + 1, rfl, (F303.kk 2 (F303.kk 6 (F303.kk 7 (F303.k 8 (by rw [hc282]; kernel_rfl) (F303.k 9 (by rw [hc234]; kernel_rfl) (F303.kk 10 (F303.kk 13 (F303.kk 14 (F303.kk 15 F303.nil))))))))), S294.p1.drop.p1.drop.p1.p1, (by first | omega | (with_reducible assumption) | (simp; done)), (by first | omega | (with_reducible assumption) | (simp; done)), (by rw [pickS_take hlt_k, hs]; exact pk_one hos (by omega) (by omega) (by omega)), (fun j hj h => (Nat.lt_succ_iff_lt_or_eq.1 h).elim (hno j hj) (fun e => by subst e; exact ex_no (Or.inr hc54))), (by first | (symm; apply decide_eq_true; omega) | (symm; apply decide_eq_false; omega) | (with_reducible assumption) | rfl), (by first | (symm; apply decide_eq_true; omega) | (symm; apply decide_eq_false; omega) | (with_reducible assumption) | rfl), (if_pos (by omega)).symm⟩
    · have F304 := F42.sb 24 (by kernel_rfl) hc43
      have F305 := F304.sb 25 (by kernel_rfl) hc43
      refine op_kq F305 ?_; intro a306 F306
      refine op_kq F306 ?_; intro a307 F307
      refine op_kq F307 ?_; intro a308 F308
      refine op_kq F308 ?_; intro a309 F309
      refine op_kq F309 ?_; intro a310 F310
      refine op_kq F310 ?_; intro a311 F311
      refine op_q F311 (.bool false) ?_; intro a312 F312
      refine wpList_nil ?_
      refine hK34 _ _ ?_; clear hK34 K34
      refine wp_cond_false (F312.ev (by kernel_rfl)) ?_
      refine wp_skip ?_
      refine hK33 _ _ ?_; clear hK33 K33
      refine wp_seq_k fun K313 hK313 => ?_
      refine wp_seq_k fun K314 hK314 => ?_
      refine wp_region_lit ?_
      refine op_q F312 (.pointer (some ⟨g29, 0, none⟩)) ?_; intro a315 F315
      refine op_rq (v := .string cs[k].fOS) F315 (r_ld rfl (F315.e (.pointer (some ⟨g29, 0, none⟩))) (v := .string cs[k].fOS) ((S40.bk 0 rfl).cell 0) Try.underlying9 rfl) ?_; intro a316 F316
      refine op_q F316 (.int .i64 (↑cs[k].fOS.size)) ?_; intro a317 F317
      refine op_q F317 (.bool (decide ((0 : Int) < ↑cs[k].fOS.size))) ?_; intro a318 F318
      refine op_q F318 (.bool (decide ((0 : Int) < ↑cs[k].fOS.size))) ?_; intro a319 F319
      rcases btf (decide ((0 : Int) < ↑cs[k].fOS.size)) with hc320 | hc320
      · have hc320p := of_decide_eq_true hc320
        have F321 := F319.sb 41 (by kernel_rfl) hc320
        have F322 := F321.sb 42 (by kernel_rfl) hc320
        refine op_wq F322 ?_
        refine op_q F322 (.func (.func 197) #[] #[]) ?_; intro a323 F323
        refine op_wq F323 ?_
        refine op_q F323 (.pointer (some ⟨g29, 0, none⟩)) ?_; intro a324 F324
        refine op_wq F324 ?_
        refine op_rq (v := .string cs[k].fOS) F324 (r_ld rfl (F324.e (.pointer (some ⟨g29, 0, none⟩))) (v := .string cs[k].fOS) ((S40.bk 0 rfl).cell 0) Try.underlying9 rfl) ?_; intro a325 F325
        refine op_wq F325 ?_
        refine op_q F325 (.pointer (some ⟨g1, 0, none⟩)) ?_; intro a326 F326
        refine op_wq F326 ?_
        refine op_rq (v := .string os) F326 (r_ld rfl (F326.e (.pointer (some ⟨g1, 0, none⟩))) (v := .string os) ((S40.bk 2 rfl).cell 0) Try.underlying9 rfl) ?_; intro a327 F327
        refine op_wq F327 ?_
        refine op_cq F327 (f := 197) (args := #[.string cs[k].fOS, .string os]) (equalFold_any cs[k].fOS os _ _ _ S40 (by first | omega | (simp; done) | (simp; omega)) (by first | omega | (simp; done) | (simp; omega)) (by first | exact hoa | exact haa | exact hca1 | exact hca2) (by first | exact hoa | exact haa | exact hca1 | exact hca2)) ?_
        rintro _ w328 ⟨rfl, S328⟩
        refine ⟨_, rfl, ?_⟩
        intro a329 F329
        have F330 := F329.sb 48 (by kernel_rfl) hc43
        refine op_wq F330 ?_
        refine op_q F330 (.bool true) ?_; intro a331 F331
        refine op_q F331 (.bool true) ?_; intro a332 F332
        refine op_q F332 (.bool true) ?_; intro a333 F333
        refine op_kq F333 ?_; intro a334 F334
        refine op_kq F334 ?_; intro a335 F335
        refine op_kq F335 ?_; intro a336 F336
        refine op_kq F336 ?_; intro a337 F337
        refine op_q F337 (.bool true) ?_; intro a338 F338
        refine wpList_nil ?_
        refine hK314 _ _ ?_; clear hK314 K314
        refine wp_cond_true (F338.ev (by kernel_rfl)) ?_
        refine wp_exit ?_
        refine ex_then ?_; clear hK313 K313
        refine ex_in ?_
        refine hK26 _ _ ?_; clear hK26 K26
        refine wp_region_lit ?_
        refine op_rq (v := .int .i64 (↑(k + 1))) F338 (r_add (z := ↑(k + 1)) rfl (F338.e (.int .i64 (↑k))) (F338.e (.int .i64 1)) (wr64 (by omega) (by omega) (by omega))) ?_; intro a339 F339
        refine op_q F339 (.int .i64 (↑(k + 1))) ?_; intro a340 F340
        refine wpList_nil ?_
        exact hK20 _ _ _ (by first | omega | (simp; omega)) ⟨Ab, cb, ps, c, n, b8, b9, k + 1, rfl, (F340.kk 2 (F340.kk 6 (F340.kk 7 (F340.kk 8 (F340.kk 9 (F340.kk 10 (F340.kk 13 (F340.kk 14 (F340.kk 15 F340.nil))))))))), S328.drop.p1.p1, (by first | omega | (with_reducible assumption) | (simp; done)), (by first | omega | (with_reducible assumption) | (simp; done)), (by rw [pickS_take hlt_k, hs]; first | exact pk_skip (Or.inr (by omega)) | exact pk_skip (Or.inl ⟨by omega, hc43⟩) | exact pk_full (by omega) | exact pk_had hos (by omega) (by omega)), (fun j hj h => (Nat.lt_succ_iff_lt_or_eq.1 h).elim (hno j hj) (fun e => by subst e; exact ex_no (Or.inl hc43))), (by first | (symm; apply decide_eq_true; omega) | (symm; apply decide_eq_false; omega) | (with_reducible assumption) | rfl), (by first | (symm; apply decide_eq_true; omega) | (symm; apply decide_eq_false; omega) | (with_reducible assumption) | rfl), (by first | omega | (with_reducible assumption) | (simp; done))⟩
      · have hc320p := of_decide_eq_false hc320
        have F341 := F319.sb 41 (by kernel_rfl) hc320
        have F342 := F341.sb 42 (by kernel_rfl) hc320
        refine op_kq F342 ?_; intro a343 F343
        refine op_kq F343 ?_; intro a344 F344
        refine op_kq F344 ?_; intro a345 F345
        refine op_kq F345 ?_; intro a346 F346
        refine op_kq F346 ?_; intro a347 F347
        refine op_kq F347 ?_; intro a348 F348
        refine op_kq F348 ?_; intro a349 F349
        refine op_q F349 (.bool false) ?_; intro a350 F350
        refine op_q F350 (.bool false) ?_; intro a351 F351
        refine op_wq F351 ?_
        refine op_q F351 (.pointer (some ⟨g29, 1, none⟩)) ?_; intro a352 F352
        refine op_wq F352 ?_
        refine op_rq (v := .string cs[k].fArch) F352 (r_ld rfl (F352.e (.pointer (some ⟨g29, 1, none⟩))) (v := .string cs[k].fArch) ((S40.bk 0 rfl).cell 1) Try.underlying9 rfl) ?_; intro a353 F353
        refine op_wq F353 ?_
        refine op_q F353 (.int .i64 (↑cs[k].fArch.size)) ?_; intro a354 F354
        refine op_wq F354 ?_
        refine op_q F354 (.bool (decide ((0 : Int) < ↑cs[k].fArch.size))) ?_; intro a355 F355
        refine op_q F355 (.bool (decide ((0 : Int) < ↑cs[k].fArch.size))) ?_; intro a356 F356
        refine wpList_nil ?_
        refine hK314 _ _ ?_; clear hK314 K314
        rcases btf (decide ((0 : Int) < ↑cs[k].fArch.size)) with hc357 | hc357
        · have hc357p := of_decide_eq_true hc357
          have F358 := F356.sb 55 (by kernel_rfl) hc357
          have F359 := F358.sb 56 (by kernel_rfl) hc357
          refine wp_cond_true (F359.ev (by kernel_rfl)) ?_
          refine wp_exit ?_
          refine ex_then ?_; clear hK313 K313
          refine ex_in ?_
          refine hK26 _ _ ?_; clear hK26 K26
          refine wp_region_lit ?_
          refine op_rq (v := .int .i64 (↑(k + 1))) F359 (r_add (z := ↑(k + 1)) rfl (F359.e (.int .i64 (↑k))) (F359.e (.int .i64 1)) (wr64 (by omega) (by omega) (by omega))) ?_; intro a360 F360
          refine op_q F360 (.int .i64 (↑(k + 1))) ?_; intro a361 F361
          refine wpList_nil ?_
          exact hK20 _ _ _ (by first | omega | (simp; omega)) ⟨Ab, cb, ps, c, n, b8, b9, k + 1, rfl, (F361.kk 2 (F361.kk 6 (F361.kk 7 (F361.kk 8 (F361.kk 9 (F361.kk 10 (F361.kk 13 (F361.kk 14 (F361.kk 15 F361.nil))))))))), S40.drop.p1.p1, (by first | omega | (with_reducible assumption) | (simp; done)), (by first | omega | (with_reducible assumption) | (simp; done)), (by rw [pickS_take hlt_k, hs]; first | exact pk_skip (Or.inr (by omega)) | exact pk_skip (Or.inl ⟨by omega, hc43⟩) | exact pk_full (by omega) | exact pk_had hos (by omega) (by omega)), (fun j hj h => (Nat.lt_succ_iff_lt_or_eq.1 h).elim (hno j hj) (fun e => by subst e; exact ex_no (Or.inl hc43))), (by first | (symm; apply decide_eq_true; omega) | (symm; apply decide_eq_false; omega) | (with_reducible assumption) | rfl), (by first | (symm; apply decide_eq_true; omega) | (symm; apply decide_eq_false; omega) | (with_reducible assumption) | rfl), (by first | omega | (with_reducible assumption) | (simp; done))⟩
        · have hc357p := of_decide_eq_false hc357
          have F362 := F356.sb 55 (by kernel_rfl) hc357
          have F363 := F362.sb 56 (by kernel_rfl) hc357
          refine wp_cond_false (F363.ev (by kernel_rfl)) ?_
          refine wp_skip ?_
          refine hK313 _ _ ?_; clear hK313 K313
          refine wp_seq_k fun K364 hK364 => ?_
          refine wp_region_lit ?_
          refine op_q F363 (.bool b9) ?_; intro a365 F365
          refine op_q F365 (.bool (!(b9))) ?_; intro a366 F366
          refine op_q F366 (.bool (!(b9))) ?_; intro a367 F367
          rcases btf (b9) with hc368 | hc368
          · have hb9n : n = 2 := by rw [hb9] at hc368; simpa using hc368
            have hb8t : b8 = true := by rw [hb8, hb9n]; rfl
            have F369 := F367.sb 9 (by kernel_rfl) hc368
            have F370 := F369.sb 57 (by kernel_rfl) hc368
            have F371 := F370.sb 58 (by kernel_rfl) (show (!(b9)) = false by rw [hc368]; rfl)
            have F372 := F371.sb 59 (by kernel_rfl) (show (!(b9)) = false by rw [hc368]; rfl)
            refine op_kq F372 ?_; intro a373 F373
            refine op_kq F373 ?_; intro a374 F374
            refine op_kq F374 ?_; intro a375 F375
            refine op_kq F375 ?_; intro a376 F376
            refine op_q F376 (.bool false) ?_; intro a377 F377
            refine op_q F377 (.bool false) ?_; intro a378 F378
            refine op_kq F378 ?_; intro a379 F379
            refine op_kq F379 ?_; intro a380 F380
            refine op_kq F380 ?_; intro a381 F381
            refine op_kq F381 ?_; intro a382 F382
            refine op_kq F382 ?_; intro a383 F383
            refine op_kq F383 ?_; intro a384 F384
            refine op_q F384 (.bool false) ?_; intro a385 F385
            refine wpList_nil ?_
            refine hK364 _ _ ?_; clear hK364 K364
            refine wp_cond_false (F385.ev (by kernel_rfl)) ?_
            refine wp_seq_k fun K386 hK386 => ?_
            refine wp_region_lit ?_
            refine op_q F385 (.bool b8) ?_; intro a387 F387
            refine op_q F387 (.bool (!(b8))) ?_; intro a388 F388
            refine wpList_nil ?_
            refine hK386 _ _ ?_; clear hK386 K386
            rcases btf (b8) with hc389 | hc389
            · have hb8n : 0 < n := by rw [hb8] at hc389; have := of_decide_eq_true hc389; omega
              have F390 := F388.sb 8 (by kernel_rfl) hc389
              have F391 := F390.sb 78 (by kernel_rfl) hc389
              have F392 := F391.sb 79 (by kernel_rfl) (show (!(b8)) = false by rw [hc389]; rfl)
              refine wp_cond_false (F392.ev (by kernel_rfl)) ?_
              refine wp_skip ?_
              refine hK26 _ _ ?_; clear hK26 K26
              refine wp_region_lit ?_
              refine op_rq (v := .int .i64 (↑(k + 1))) F392 (r_add (z := ↑(k + 1)) rfl (F392.e (.int .i64 (↑k))) (F392.e (.int .i64 1)) (wr64 (by omega) (by omega) (by omega))) ?_; intro a393 F393
              refine op_q F393 (.int .i64 (↑(k + 1))) ?_; intro a394 F394
              refine wpList_nil ?_
              exact hK20 _ _ _ (by first | omega | (simp; omega)) ⟨Ab, cb, ps, c, n, true, true, k + 1, rfl, (F394.kk 2 (F394.kk 6 (F394.kk 7 (F394.k 8 (by rw [hc389]; kernel_rfl) (F394.k 9 (by rw [hc368]; kernel_rfl) (F394.kk 10 (F394.kk 13 (F394.kk 14 (F394.kk 15 F394.nil))))))))), S40.drop.p1.p1, (by first | omega | (with_reducible assumption) | (simp; done)), (by first | omega | (with_reducible assumption) | (simp; done)), (by rw [pickS_take hlt_k, hs]; first | exact pk_skip (Or.inr (by omega)) | exact pk_skip (Or.inl ⟨by omega, hc43⟩) | exact pk_full (by omega) | exact pk_had hos (by omega) (by omega)), (fun j hj h => (Nat.lt_succ_iff_lt_or_eq.1 h).elim (hno j hj) (fun e => by subst e; exact ex_no (Or.inl hc43))), (by first | (symm; apply decide_eq_true; omega) | (symm; apply decide_eq_false; omega) | (with_reducible assumption) | rfl), (by first | (symm; apply decide_eq_true; omega) | (symm; apply decide_eq_false; omega) | (with_reducible assumption) | rfl), (by first | omega | (with_reducible assumption) | (simp; done))⟩
            · have hb8n : n = 0 := by rw [hb8] at hc389; have := of_decide_eq_false hc389; omega
              omega
          · have hb9n : n ≠ 2 := by rw [hb9] at hc368; simpa using hc368
            have F395 := F367.sb 9 (by kernel_rfl) hc368
            have F396 := F395.sb 57 (by kernel_rfl) hc368
            have F397 := F396.sb 58 (by kernel_rfl) (show (!(b9)) = true by rw [hc368]; rfl)
            have F398 := F397.sb 59 (by kernel_rfl) (show (!(b9)) = true by rw [hc368]; rfl)
            refine op_wq F398 ?_
            refine op_q F398 (.pointer (some ⟨g29, 0, none⟩)) ?_; intro a399 F399
            refine op_wq F399 ?_
            refine op_rq (v := .string cs[k].fOS) F399 (r_ld rfl (F399.e (.pointer (some ⟨g29, 0, none⟩))) (v := .string cs[k].fOS) ((S40.bk 0 rfl).cell 0) Try.underlying9 rfl) ?_; intro a400 F400
            refine op_wq F400 ?_
            refine op_q F400 (.int .i64 (↑cs[k].fOS.size)) ?_; intro a401 F401
            refine op_wq F401 ?_
            refine op_q F401 (.bool (decide ((0 : Int) < ↑cs[k].fOS.size))) ?_; intro a402 F402
            have F403 := F402.sb 63 (by kernel_rfl) hc320
            refine op_q F403 (.bool false) ?_; intro a404 F404
            refine op_q F404 (.bool false) ?_; intro a405 F405
            refine op_kq F405 ?_; intro a406 F406
            refine op_kq F406 ?_; intro a407 F407
            refine op_kq F407 ?_; intro a408 F408
            refine op_kq F408 ?_; intro a409 F409
            refine op_kq F409 ?_; intro a410 F410
            refine op_kq F410 ?_; intro a411 F411
            refine op_q F411 (.bool false) ?_; intro a412 F412
            refine wpList_nil ?_
            refine hK364 _ _ ?_; clear hK364 K364
            refine wp_cond_false (F412.ev (by kernel_rfl)) ?_
            refine wp_seq_k fun K413 hK413 => ?_
            refine wp_region_lit ?_
            refine op_q F412 (.bool b8) ?_; intro a414 F414
            refine op_q F414 (.bool (!(b8))) ?_; intro a415 F415
            refine wpList_nil ?_
            refine hK413 _ _ ?_; clear hK413 K413
            rcases btf (b8) with hc416 | hc416
            · have hb8n : 0 < n := by rw [hb8] at hc416; have := of_decide_eq_true hc416; omega
              have F417 := F415.sb 8 (by kernel_rfl) hc416
              have F418 := F417.sb 78 (by kernel_rfl) hc416
              have F419 := F418.sb 79 (by kernel_rfl) (show (!(b8)) = false by rw [hc416]; rfl)
              refine wp_cond_false (F419.ev (by kernel_rfl)) ?_
              refine wp_skip ?_
              refine hK26 _ _ ?_; clear hK26 K26
              refine wp_region_lit ?_
              refine op_rq (v := .int .i64 (↑(k + 1))) F419 (r_add (z := ↑(k + 1)) rfl (F419.e (.int .i64 (↑k))) (F419.e (.int .i64 1)) (wr64 (by omega) (by omega) (by omega))) ?_; intro a420 F420
              refine op_q F420 (.int .i64 (↑(k + 1))) ?_; intro a421 F421
              refine wpList_nil ?_
              exact hK20 _ _ _ (by first | omega | (simp; omega)) ⟨Ab, cb, ps, c, n, true, false, k + 1, rfl, (F421.kk 2 (F421.kk 6 (F421.kk 7 (F421.k 8 (by rw [hc416]; kernel_rfl) (F421.k 9 (by rw [hc368]; kernel_rfl) (F421.kk 10 (F421.kk 13 (F421.kk 14 (F421.kk 15 F421.nil))))))))), S40.drop.p1.p1, (by first | omega | (with_reducible assumption) | (simp; done)), (by first | omega | (with_reducible assumption) | (simp; done)), (by rw [pickS_take hlt_k, hs]; first | exact pk_skip (Or.inr (by omega)) | exact pk_skip (Or.inl ⟨by omega, hc43⟩) | exact pk_full (by omega) | exact pk_had hos (by omega) (by omega)), (fun j hj h => (Nat.lt_succ_iff_lt_or_eq.1 h).elim (hno j hj) (fun e => by subst e; exact ex_no (Or.inl hc43))), (by first | (symm; apply decide_eq_true; omega) | (symm; apply decide_eq_false; omega) | (with_reducible assumption) | rfl), (by first | (symm; apply decide_eq_true; omega) | (symm; apply decide_eq_false; omega) | (with_reducible assumption) | rfl), (by first | omega | (with_reducible assumption) | (simp; done))⟩
            · have hb8n : n = 0 := by rw [hb8] at hc416; have := of_decide_eq_false hc416; omega
              have F422 := F415.sb 8 (by kernel_rfl) hc416
              have F423 := F422.sb 78 (by kernel_rfl) hc416
              have F424 := F423.sb 79 (by kernel_rfl) (show (!(b8)) = true by rw [hc416]; rfl)
              refine wp_cond_true (F424.ev (by kernel_rfl)) ?_
              refine wp_seq_k fun K425 hK425 => ?_
              refine wp_region_lit ?_
              refine op_q F424 (.pointer (some ⟨g29, 2, none⟩)) ?_; intro a426 F426
              refine op_rq (v := .string cs[k].fCommand) F426 (r_ld rfl (F426.e (.pointer (some ⟨g29, 2, none⟩))) (v := .string cs[k].fCommand) ((S40.bk 0 rfl).cell 2) Try.underlying9 rfl) ?_; intro a427 F427
              refine op_cq F427 (f := 202) (args := #[.string cs[k].fCommand, .string ⟨#[32]⟩]) (split32_any cs[k].fCommand (partsF cs[k]) _ (by first | omega | (simp; done) | (simp; omega)) rfl) ?_
              rintro _ w428 ⟨A428, c428, rfl, hp0_428, hb_428⟩
              refine ⟨_, rfl, ?_⟩
              intro a429 F429
              have S428 := S40.newown hb_428 hp0_428
              refine op_q F429 (.slice A428 ((partsF cs[k]).length) c428) ?_; intro a430 F430
              refine wpList_nil ?_
              refine hK425 _ _ ?_; clear hK425 K425
              refine wp_seq_k fun K431 hK431 => ?_
              refine wp_region_lit ?_
              refine op_q F430 (.pointer (some ⟨g29, 3, none⟩)) ?_; intro a432 F432
              refine op_rq (v := .slice cs[k].fArgs_a cs[k].fArgs.length cs[k].fArgs_c) F432 (r_ld rfl (F432.e (.pointer (some ⟨g29, 3, none⟩))) (v := .slice cs[k].fArgs_a cs[k].fArgs.length cs[k].fArgs_c) ((S428.bk 1 rfl).cell 3) Try.underlying22 rfl) ?_; intro a433 F433
              refine op_q F433 (.slice cs[k].fArgs_a cs[k].fArgs.length cs[k].fArgs_c) ?_; intro a434 F434
              refine wpList_nil ?_
              refine hK431 _ _ ?_; clear hK431 K431
              refine wp_region_lit ?_
              refine op_q F434 (.bool true) ?_; intro a435 F435
              refine wpList_nil ?_
              refine hK26 _ _ ?_; clear hK26 K26
              refine wp_region_lit ?_
              refine op_rq (v := .int .i64 (↑(k + 1))) F435 (r_add (z := ↑(k + 1)) rfl (F435.e (.int .i64 (↑k))) (F435.e (.int .i64 1)) (wr64 (by omega) (by omega) (by omega))) ?_; intro a436 F436
              refine op_q F436 (.int .i64 (↑(k + 1))) ?_; intro a437 F437
              refine wpList_nil ?_
              exact hK20 _ _ _ (by first | omega | (simp; omega)) ⟨A428, c428, partsF cs[k], cs[k], 1, true, false, k + 1, rfl, (F437.kk 2 (F437.kk 6 (F437.kk 7 (F437.k 8 (by rw [hc416]; kernel_rfl) (F437.k 9 (by rw [hc368]; kernel_rfl) (F437.kk 10 (F437.kk 13 (F437.kk 14 (F437.kk 15 F437.nil))))))))), S428.p1.drop.p1.drop.p1.p1, (by first | omega | (with_reducible assumption) | (simp; done)), (by first | omega | (with_reducible assumption) | (simp; done)), (by rw [pickS_take hlt_k, hs]; exact pk_one hos (by omega) (by omega) (by omega)), (fun j hj h => (Nat.lt_succ_iff_lt_or_eq.1 h).elim (hno j hj) (fun e => by subst e; exact ex_no (Or.inl hc43))), (by first | (symm; apply decide_eq_true; omega) | (symm; apply decide_eq_false; omega) | (with_reducible assumption) | rfl), (by first | (symm; apply decide_eq_true; omega) | (symm; apply decide_eq_false; omega) | (with_reducible assumption) | rfl), (if_pos (by omega)).symm⟩
  · have hc_k : decide ((↑k : Int) < ↑cs.length) = false := by first | (simp; done) | (simp; omega)
    have hst : pickS os cs = (n, c) := by rw [List.take_of_length_le (by omega)] at hs; exact hs
    refine wp_seq_k fun K438 hK438 => ?_
    refine wp_region_lit ?_
    refine op_q F20 (.bool (decide ((↑k : Int) < ↑cs.length))) ?_; intro a439 F439
    have F440 := F439.sb 16 (by kernel_rfl) hc_k
    refine wpList_nil ?_
    refine hK438 _ _ ?_; clear hK438 K438
    refine wp_seq_k fun K441 hK441 => ?_
    refine wp_cond_false (F440.ev (by kernel_rfl)) ?_
    refine wp_exit ?_
    refine ex_then ?_; clear hK441 K441
    refine ex_then ?_
    refine ex_in ?_
    refine hK15 _ _ ?_; clear hK15 K15
    refine wp_seq_k fun K442 hK442 => ?_
    refine wp_region_lit ?_
    refine op_q F440 (.slice Ab ps.length cb) ?_; intro a443 F443
    refine op_q F443 (.slice c.fArgs_a c.fArgs.length c.fArgs_c) ?_; intro a444 F444
    refine op_q F444 (.slice Ab ps.length cb) ?_; intro a445 F445
    refine op_q F445 (.slice c.fArgs_a c.fArgs.length c.fArgs_c) ?_; intro a446 F446
    refine wpList_nil ?_
    refine hK442 _ _ ?_; clear hK442 K442
    refine wp_ret ?_
    refine (F446.res2 rfl (v := .slice Ab ps.length cb) (by kernel_rfl) (v2 := .slice c.fArgs_a c.fArgs.length c.fArgs_c) (by kernel_rfl) ?_).1
    exact ⟨c, ps, Ab, cb, rfl, S20.p1.drop, (by rw [pick_end (by omega) hno, hst, hps]; by_cases h0 : 0 < n <;> simp [h0])⟩
end Go.Proofs.Ytkjcedlgljeoiaa

/- plugin.PrepareCommands, in two cases. -/
namespace Go.Proofs.Ytkjcedlgljeoiaa
open Go.RowKit Go.Lib
set_option linter.unusedVariables false
set_option linter.unusedSimpArgs false
abbrev exs (xs : List Ty108) (l : List ByteArray) : List ByteArray := l.map fun s => exF xs s 0
theorem own_sub1 {w : World} {e : TypeId} {A : Option Addr} {m c p : Nat} {l : List ByteArray} (h : w.ownsRow 0 e 1 (.slice A m c) m (strs l)) (hp : p ≤ m) (hm : m ≤ 9223372036854775807) : Sl w (subA A p 1 c) (strs (l.drop p)) := by
  have hc := own_cap' h
  have h1 := own_sl1 h hm
  have hl : (strs l).length = m * 1 := h.1
  by_cases h2 : p = m
  · have e1 : strs (l.drop p) = [] := by simp [strs] at hl ⊢; omega
    rw [e1]; exact Sl.nil
  · have e1 : subA A p 1 c = A.map (·.add (p * 1)) := by unfold subA; rw [if_neg (by omega)]
    rw [e1, Nat.mul_one]
    obtain ⟨ad, rfl, hc⟩ := h1.2 (by omega)
    refine ⟨by simp [strs] at hl ⊢; omega, fun _ => ⟨ad.add p, rfl, fun j u hu => ?_⟩⟩
    rw [cadd_of_add]
    apply hc
    rw [strs, List.getElem?_map, List.getElem?_drop] at hu
    rw [strs, List.getElem?_map]
    exact hu
theorem getCmd_some (os : ByteArray) (arch : ByteArray) (gb : Nat) (A : Option Addr) (d : Nat) (cs : List Ty110) (c : Ty110) (ps : List ByteArray) (R : Ctx) (L : List SA) (w : World) (S : Sp R w L) (h0 : Rf R L fun w => Rows w A 4 (cs.map Ty110.cells)) (hos : 0 < os.size) (hoz : os.size ≤ 1000000 ∧ arch.size ≤ 1000000) (hoa : ∀ j, bt0 os j ≤ 127) (haa : ∀ j, bt0 arch j ≤ 127)
    (hcz : ∀ x ∈ cs, x.fOS.size ≤ 1000000 ∧ x.fArch.size ≤ 1000000 ∧ x.fCommand.size ≤ 1000000) (hca : ∀ x ∈ cs, (∀ j, bt0 x.fOS j ≤ 127) ∧ (∀ j, bt0 x.fArch j ≤ 127)) (hpk : pickF os arch cs = some c) (hps : partsF c = ps) :
    Calls Try.prog 199 #[.agg #[.string os, .string arch, .func (.func 110) #[] #[.pointer (some ⟨gb, 0, none⟩)]], .slice A cs.length d] w fun e w' => ∃ Ab : Option Addr, ∃ cb : Nat, e = .returned (.tuple #[.slice Ab ps.length cb, .slice c.fArgs_a c.fArgs.length c.fArgs_c]) ∧ Sp R w' (SA.own (.slice Ab ps.length cb) 9 1 ps.length (strs ps) :: L) := by
  refine (getCmd_any os arch gb A d cs R L w S h0 hos hoz hoa haa hcz hca).mono fun e w' ⟨c', ps', Ab, cb, he, hS, hp⟩ => ?_
  rcases hp with ⟨h1, h2⟩ | ⟨h1, _⟩
  · rw [hpk] at h1; injection h1 with h1; subst h1; subst hps; subst h2; exact ⟨Ab, cb, he, hS⟩
  · rw [hpk] at h1; cases h1
theorem getCmd_none (os : ByteArray) (arch : ByteArray) (gb : Nat) (A : Option Addr) (d : Nat) (cs : List Ty110) (R : Ctx) (L : List SA) (w : World) (S : Sp R w L) (h0 : Rf R L fun w => Rows w A 4 (cs.map Ty110.cells)) (hos : 0 < os.size) (hoz : os.size ≤ 1000000 ∧ arch.size ≤ 1000000) (hoa : ∀ j, bt0 os j ≤ 127) (haa : ∀ j, bt0 arch j ≤ 127)
    (hcz : ∀ x ∈ cs, x.fOS.size ≤ 1000000 ∧ x.fArch.size ≤ 1000000 ∧ x.fCommand.size ≤ 1000000) (hca : ∀ x ∈ cs, (∀ j, bt0 x.fOS j ≤ 127) ∧ (∀ j, bt0 x.fArch j ≤ 127)) (hpk : pickF os arch cs = none) :
    Calls Try.prog 199 #[.agg #[.string os, .string arch, .func (.func 110) #[] #[.pointer (some ⟨gb, 0, none⟩)]], .slice A cs.length d] w fun e w' => ∃ c : Ty110, ∃ Ab : Option Addr, ∃ cb : Nat, e = .returned (.tuple #[.slice Ab 0 cb, .slice c.fArgs_a c.fArgs.length c.fArgs_c]) ∧ Sp R w' L := by
  refine (getCmd_any os arch gb A d cs R L w S h0 hos hoz hoa haa hcz hca).mono fun e w' ⟨c', ps', Ab, cb, he, hS, hp⟩ => ?_
  rcases hp with ⟨h1, _⟩ | ⟨_, h2⟩
  · rw [hpk] at h1; cases h1
  · subst h2; exact ⟨c', Ab, cb, he, hS.drop⟩
set_option maxRecDepth 100000 in
set_option maxHeartbeats 20000000 in
theorem errNew_sp (s : ByteArray) (R : Ctx) (L : List SA) (w : World) (S : Sp R w (L))   :
    Calls Try.prog 173 #[.string s] w fun e w' => ∃ ge : Nat, e = .returned (.iface 279 (.pointer (some ⟨ge, 0, none⟩))) ∧ Sp R w' (SA.blk ge 281 #[.string (s)] :: L) := by
  refine fw_enter (fn := Try.f173) rfl rfl 7 rfl (Nat.le_of_ble_eq_true rfl) ?_
  intro a0 F0
  refine wp_seq_k fun K1 hK1 => ?_
  refine wp_region_lit ?_
  refine op_q F0 (.nilIface) ?_; intro a2 F2
  refine wpList_nil ?_
  refine hK1 _ _ ?_; clear hK1 K1
  refine wp_seq_k fun K3 hK3 => ?_
  refine wp_region_lit ?_
  refine op_q F2 (.string s) ?_; intro a4 F4
  refine op_q F4 (.agg #[.string s]) ?_; intro a5 F5
  refine op_sq F5 (s_newp F5 281 #[.string s] (by kernel_rfl) (by kernel_rfl) (by kernel_rfl) S) ?_
  rintro _ _ w7 ⟨g5, rfl, rfl⟩ S7 a7 F7
  refine op_q F7 (.iface 279 (.pointer (some ⟨g5, 0, none⟩))) ?_; intro a8 F8
  refine op_q F8 (.iface 279 (.pointer (some ⟨g5, 0, none⟩))) ?_; intro a9 F9
  refine wpList_nil ?_
  refine hK3 _ _ ?_; clear hK3 K3
  refine wp_ret ?_
  refine (F9.res1 rfl (v := .iface 279 (.pointer (some ⟨g5, 0, none⟩))) (by kernel_rfl) ?_).1
  exact ⟨g5, rfl, S7⟩
set_option maxRecDepth 100000 in
set_option maxHeartbeats 20000000 in
theorem prepCmds_some (os : ByteArray) (arch : ByteArray) (gb : Nat) (A : Option Addr) (d : Nat) (cs : List Ty110) (E : Option Addr) (ce : Nat) (xs : List Ty108) (B : Option Addr) (db : Nat) (extra : List ByteArray) (c : Ty110) (p0 : ByteArray) (ps : List ByteArray) (R : Ctx) (L : List SA) (w : World) (S : Sp R w (L)) (h0 : Rf R L fun w => Rows w (A) 4 (cs.map Ty110.cells)) (h1 : Rf R L fun w => Rows w (E) 2 (xs.map Ty108.cells)) (h2 : Rf R L fun w => Blk w (gb) 40 #[.slice (E) (xs.length) (ce)]) (h3 : Rf R L fun w => Sl w (c.fArgs_a) (strs c.fArgs)) (h4 : Rf R L fun w => Sl w (B) (strs extra)) (hos : 0 < os.size) (hoz : os.size ≤ 1000000 ∧ arch.size ≤ 1000000) (hoa : ∀ j, bt0 os j ≤ 127) (haa : ∀ j, bt0 arch j ≤ 127) (hcz : ∀ x ∈ cs, x.fOS.size ≤ 1000000 ∧ x.fArch.size ≤ 1000000 ∧ x.fCommand.size ≤ 1000000) (hca : ∀ x ∈ cs, (∀ j, bt0 x.fOS j ≤ 127) ∧ (∀ j, bt0 x.fArch j ≤ 127)) (hM : ∀ x ∈ xs, x.fText.size ≤ 2147483647) (hpk : pickF os arch cs = some c) (hps : partsF c = p0 :: ps) (h00 : 0 < p0.size) (hpz : ∀ s ∈ p0 :: ps, s.size ≤ 1000) (haz : ∀ s ∈ c.fArgs, s.size ≤ 1000) (hn : ps.length ≤ 10000 ∧ c.fArgs.length ≤ 10000 ∧ extra.length ≤ 10000) :
    Calls Try.prog 174 #[.agg #[.string os, .string arch, .func (.func 110) #[] #[.pointer (some ⟨gb, 0, none⟩)]], .slice (A) (cs.length) (d), .bool true, .slice (B) (extra.length) (db)] w fun e w' => ∃ Ar : Option Addr, ∃ cr : Nat, ∃ rs : List ByteArray, e = .returned (.tuple #[.string (exF xs p0 0), .slice Ar rs.length cr, .nilIface]) ∧ Sp R w' (SA.own (.slice Ar rs.length cr) 9 1 rs.length (strs rs) :: L) ∧ (rs = exs xs (ps ++ c.fArgs) ++ extra) := by
  have hl_cs : cs.length ≤ 9223372036854775807 := by have := (h0 _ S).1; simpa [strs, ptrs] using this
  have hl_xs : xs.length ≤ 9223372036854775807 := by have := (h1 _ S).1; simpa [strs, ptrs] using this
  have hl_extra : extra.length ≤ 9223372036854775807 := by have := (h4 _ S).1; simpa [strs, ptrs] using this
  obtain ⟨hn1, hn2, hn3⟩ := hn
  have hp0z : p0.size ≤ 1000 := hpz _ (List.mem_cons_self ..)
  refine fw_enter (fn := Try.f174) rfl rfl 92 rfl (Nat.le_of_ble_eq_true rfl) ?_
  intro a0 F0
  refine wp_seq_k fun K1 hK1 => ?_
  refine wp_region_lit ?_
  refine op_sq F0 (s_newp F0 185 #[.string os, .string arch, .func (.func 110) #[] #[.pointer (some ⟨gb, 0, none⟩)]] (by kernel_rfl) (by kernel_rfl) (by kernel_rfl) S) ?_
  rintro _ _ w3 ⟨g1, rfl, rfl⟩ S3 a3 F3
  refine op_q F3 (.string ⟨#[]⟩) ?_; intro a4 F4
  refine op_q F4 (.slice none 0 0) ?_; intro a5 F5
  refine op_q F5 (.nilIface) ?_; intro a6 F6
  refine wpList_nil ?_
  refine hK1 _ _ ?_; clear hK1 K1
  refine wp_seq_k fun K7 hK7 => ?_
  refine wp_region_lit ?_
  refine op_rq (v := .agg #[.string os, .string arch, .func (.func 110) #[] #[.pointer (some ⟨gb, 0, none⟩)]]) F6 (r_ldm rfl (F6.e (.pointer (some ⟨g1, 0, none⟩))) (S3.bk 0 rfl) 3 (by kernel_rfl) Try.underlying185 rfl (by kernel_rfl) (v := #[.string os, .string arch, .func (.func 110) #[] #[.pointer (some ⟨gb, 0, none⟩)]]) (by kernel_rfl)) ?_; intro a8 F8
  refine op_q F8 (.slice (A) (cs.length) (d)) ?_; intro a9 F9
  refine op_cq F9 (f := 199) (args := #[.agg #[.string os, .string arch, .func (.func 110) #[] #[.pointer (some ⟨gb, 0, none⟩)]], .slice (A) (cs.length) (d)]) (getCmd_some os arch gb A d cs c (p0 :: ps) _ _ _ S3 (fun w S => h0 w S.drop) (by first | omega | (simp; done) | (simp; omega)) (by first | omega | (simp; done) | (simp; omega)) (by first | exact hoa) (by first | exact haa) hcz hca hpk hps) ?_
  rintro _ w10 ⟨Ab10, cb10, rfl, S10⟩
  refine ⟨_, rfl, ?_⟩
  intro a11 F11
  refine op_q F11 (.tuple #[.slice Ab10 ((p0 :: ps).length) cb10, .slice (c.fArgs_a) (c.fArgs.length) (c.fArgs_c)]) ?_; intro a12 F12
  refine op_q F12 (.slice Ab10 ((p0 :: ps).length) cb10) ?_; intro a13 F13
  refine op_q F13 (.slice (c.fArgs_a) (c.fArgs.length) (c.fArgs_c)) ?_; intro a14 F14
  refine op_q F14 (.slice Ab10 ((p0 :: ps).length) cb10) ?_; intro a15 F15
  refine op_q F15 (.slice (c.fArgs_a) (c.fArgs.length) (c.fArgs_c)) ?_; intro a16 F16
  refine wpList_nil ?_
  refine hK7 _ _ ?_; clear hK7 K7
  refine wp_seq_k fun K17 hK17 => ?_
  refine wp_seq_k fun K18 hK18 => ?_
  refine wp_region_lit ?_
  refine op_q F16 (.slice Ab10 ((p0 :: ps).length) cb10) ?_; intro a19 F19
  refine op_q F19 (.int .i64 (↑((p0 :: ps).length))) ?_; intro a20 F20
  refine op_q F20 (.bool ((↑((p0 :: ps).length) : Int) == 0)) ?_; intro a21 F21
  refine op_q F21 (.bool ((↑((p0 :: ps).length) : Int) == 0)) ?_; intro a22 F22
  have hc23 : ((↑((p0 :: ps).length) : Int) == 0) = false := (by simp; omega)
  have F24 := F22.sb 27 (by kernel_rfl) hc23
  have F25 := F24.sb 28 (by kernel_rfl) hc23
  refine op_wq F25 ?_
  refine op_q F25 (.slice Ab10 ((p0 :: ps).length) cb10) ?_; intro a26 F26
  refine op_wq F26 ?_
  obtain ⟨ad27, hA27⟩ := (own_sl1 (S10.ow 0 rfl) (by first | omega | (simp; omega))).addr (by simp [strs])
  refine op_rq (v := .pointer (some ad27)) F26 (r_ix rfl Try.underlying22 1 (by kernel_rfl) (F26.e (.slice Ab10 ((p0 :: ps).length) cb10)) hA27 (F26.e (.int .i64 0)) 0 (by first | rfl | omega | simp) (by first | omega | (simp; done) | (simp; omega)) (by simp only [Nat.zero_mul, add0])) ?_; intro a28 F28
  refine op_wq F28 ?_
  refine op_rq (v := .string p0) F28 (r_ld rfl (F28.e (.pointer (some ad27))) (v := .string p0) ((own_sl1 (S10.ow 0 rfl) (by first | omega | (simp; omega))).elA hA27 (j := 0) rfl) Try.underlying9 rfl) ?_; intro a29 F29
  refine op_wq F29 ?_
  refine op_q F29 (.bool (p0.toList == (⟨#[]⟩ : ByteArray).toList)) ?_; intro a30 F30
  refine op_q F30 (.bool (p0.toList == (⟨#[]⟩ : ByteArray).toList)) ?_; intro a31 F31
  refine wpList_nil ?_
  refine hK18 _ _ ?_; clear hK18 K18
  have hc32 : (p0.toList == (⟨#[]⟩ : ByteArray).toList) = false := (nb_n h00)
  have F33 := F31.sb 32 (by kernel_rfl) hc32
  have F34 := F33.sb 33 (by kernel_rfl) hc32
  refine wp_cond_false (F34.ev (by kernel_rfl)) ?_
  refine wp_skip ?_
  refine hK17 _ _ ?_; clear hK17 K17
  refine wp_seq_k fun K35 hK35 => ?_
  refine wp_region_sepD (L0 := SA.own (.slice Ab10 (p0 :: ps).length cb10) 9 1 ((p0 :: ps).length) (strs (p0 :: ps)) :: SA.blk g1 185 #[.string os, .string arch, .func (.func 110) #[] #[.pointer (some ⟨gb, 0, none⟩)]] :: L) [some [], some [(0, 35)], some [(0, 35), (1, 36)], some [], some [(3, 38)], some [(0, 35), (1, 36), (2, 37), (3, 38), (4, 39)], some [(0, 35), (1, 36), (2, 37), (3, 38), (4, 39), (5, 40)]] [(SA.emp, fun _ v A => v = .slice Ab10 ((p0 :: ps).length) cb10 ∧ A = SA.emp), (SA.emp, fun _ v A => v = .pointer (some ad27) ∧ A = SA.emp), (SA.emp, fun _ v A => v = .string p0 ∧ A = SA.emp), (SA.emp, fun _ v A => v = .pointer (some ⟨g1, 2, none⟩) ∧ A = SA.emp), (SA.emp, fun _ v A => v = .func (.func 110) #[] #[.pointer (some ⟨gb, 0, none⟩)] ∧ A = SA.emp), (SA.emp, fun _ v A => v = .string (exF xs p0 0) ∧ A = SA.emp), (SA.emp, fun _ v A => v = .string (exF xs p0 0) ∧ A = SA.emp)] 92 [] rfl F34.size rfl (by kernel_rfl) (by kernel_rfl) S10.emp.emp.emp.emp.emp.emp.emp.p1.p2.p3.p4.p5.p6 ?_ ?_
  · refine ⟨?_, ?_, ?_, ?_, ?_, ?_, ?_, trivial⟩
    · intro w59 M59
      refine depsD_nil ?_
      intro S59
      refine obl_of (by rfl) ?_
      exact s_p F34 (v := .slice Ab10 ((p0 :: ps).length) cb10) (by kernel_rfl) (by kernel_rfl) (by kernel_rfl) S59
    · intro w60 M60
      rintro _ _ ⟨rfl, rfl⟩ hA61
      have F61 := F34.put (d := 35) (v := .slice Ab10 ((p0 :: ps).length) cb10) (by decide)
      refine depsD_nil ?_
      intro S60
      refine obl_of (by rfl) ?_
      exact s_r (v := .pointer (some ad27)) (r_ix rfl Try.underlying22 1 (by kernel_rfl) (F61.e (.slice Ab10 ((p0 :: ps).length) cb10)) hA27 (F61.e (.int .i64 0)) 0 (by first | rfl | omega | simp) (by first | omega | (simp; done) | (simp; omega)) (by simp only [Nat.zero_mul, add0])) S60
    · intro w62 M62
      rintro _ _ ⟨rfl, rfl⟩ hA63
      have F63 := F34.put (d := 35) (v := .slice Ab10 ((p0 :: ps).length) cb10) (by decide)
      rintro _ _ ⟨rfl, rfl⟩ hA64
      have F64 := F63.put (d := 36) (v := .pointer (some ad27)) (by decide)
      refine depsD_nil ?_
      intro S62
      refine obl_of (by rfl) ?_
      exact s_r (v := .string p0) (r_ld rfl (F64.e (.pointer (some ad27))) (v := .string p0) ((own_sl1 ((Sp.dropM S62.drop).ow 0 rfl) (by first | omega | (simp; omega))).elA hA27 (j := 0) rfl) Try.underlying9 rfl) S62
    · intro w65 M65
      refine depsD_nil ?_
      intro S65
      refine obl_of (by rfl) ?_
      exact s_p F34 (v := .pointer (some ⟨g1, 2, none⟩)) (by kernel_rfl) (by kernel_rfl) (by kernel_rfl) S65
    · intro w66 M66
      rintro _ _ ⟨rfl, rfl⟩ hA67
      have F67 := F34.put (d := 38) (v := .pointer (some ⟨g1, 2, none⟩)) (by decide)
      refine depsD_nil ?_
      intro S66
      refine obl_of (by rfl) ?_
      exact s_r (v := .func (.func 110) #[] #[.pointer (some ⟨gb, 0, none⟩)]) (r_ld rfl (F67.e (.pointer (some ⟨g1, 2, none⟩))) (v := .func (.func 110) #[] #[.pointer (some ⟨gb, 0, none⟩)]) (((Sp.dropM S66.drop).bk 1 rfl).cell 2) Try.underlying67 rfl) S66
    · intro w68 M68
      rintro _ _ ⟨rfl, rfl⟩ hA69
      have F69 := F34.put (d := 35) (v := .slice Ab10 ((p0 :: ps).length) cb10) (by decide)
      rintro _ _ ⟨rfl, rfl⟩ hA70
      have F70 := F69.put (d := 36) (v := .pointer (some ad27)) (by decide)
      rintro _ _ ⟨rfl, rfl⟩ hA71
      have F71 := F70.put (d := 37) (v := .string p0) (by decide)
      rintro _ _ ⟨rfl, rfl⟩ hA72
      have F72 := F71.put (d := 38) (v := .pointer (some ⟨g1, 2, none⟩)) (by decide)
      rintro _ _ ⟨rfl, rfl⟩ hA73
      have F73 := F72.put (d := 39) (v := .func (.func 110) #[] #[.pointer (some ⟨gb, 0, none⟩)]) (by decide)
      refine depsD_nil ?_
      intro S68
      refine obl_of (by rfl) ?_
      refine s_c F73 (f := 69) (args := #[.string p0, .func (.func 110) #[] #[.pointer (some ⟨gb, 0, none⟩)]]) (by kernel_rfl) (by kernel_rfl) (by kernel_rfl) (expand110_any E _ xs p0 gb _ _ _ S68.drop (fun w S => h1 w (Sp.dropM S).drop.drop) (fun w S => h2 w (Sp.dropM S).drop.drop) (by first | omega | (simp; done) | (simp; omega)) hM) ?_
      rintro _ _ ⟨rfl, S74⟩
      exact ⟨_, _, rfl, ⟨rfl, rfl⟩, S74.emp⟩
    · intro w75 M75
      rintro _ _ ⟨rfl, rfl⟩ hA76
      have F76 := F34.put (d := 35) (v := .slice Ab10 ((p0 :: ps).length) cb10) (by decide)
      rintro _ _ ⟨rfl, rfl⟩ hA77
      have F77 := F76.put (d := 36) (v := .pointer (some ad27)) (by decide)
      rintro _ _ ⟨rfl, rfl⟩ hA78
      have F78 := F77.put (d := 37) (v := .string p0) (by decide)
      rintro _ _ ⟨rfl, rfl⟩ hA79
      have F79 := F78.put (d := 38) (v := .pointer (some ⟨g1, 2, none⟩)) (by decide)
      rintro _ _ ⟨rfl, rfl⟩ hA80
      have F80 := F79.put (d := 39) (v := .func (.func 110) #[] #[.pointer (some ⟨gb, 0, none⟩)]) (by decide)
      rintro _ _ ⟨rfl, rfl⟩ hA81
      have F81 := F80.put (d := 40) (v := .string (exF xs p0 0)) (by decide)
      refine depsD_nil ?_
      intro S75
      refine obl_of (by rfl) ?_
      exact s_p F81 (v := .string (exF xs p0 0)) (by kernel_rfl) (by kernel_rfl) (by kernel_rfl) S75
  · rintro _ _ ⟨rfl, rfl⟩
    have F83 := F34.put (d := 35) (v := .slice Ab10 ((p0 :: ps).length) cb10) (by decide)
    rintro _ _ ⟨rfl, rfl⟩
    have F84 := F83.put (d := 36) (v := .pointer (some ad27)) (by decide)
    rintro _ _ ⟨rfl, rfl⟩
    have F85 := F84.put (d := 37) (v := .string p0) (by decide)
    rintro _ _ ⟨rfl, rfl⟩
    have F86 := F85.put (d := 38) (v := .pointer (some ⟨g1, 2, none⟩)) (by decide)
    rintro _ _ ⟨rfl, rfl⟩
    have F87 := F86.put (d := 39) (v := .func (.func 110) #[] #[.pointer (some ⟨gb, 0, none⟩)]) (by decide)
    rintro _ _ ⟨rfl, rfl⟩
    have F88 := F87.put (d := 40) (v := .string (exF xs p0 0)) (by decide)
    rintro _ _ ⟨rfl, rfl⟩
    have F89 := F88.put (d := 13) (v := .string (exF xs p0 0)) (by decide)
    intro w82 S82
    have S90 := S82.drop
    have S91 := S90.drop
    have S92 := S91.drop
    have S93 := S92.drop
    have S94 := S93.drop
    have S95 := S94.drop
    have S96 := S95.drop
    refine wpList_nil ?_
    refine hK35 _ _ ?_; clear hK35 K35
    refine wp_seq_k fun K97 hK97 => ?_
    refine wp_region_lit ?_
    refine op_sq F89 (s_news F89 9 #[] 0 (by kernel_rfl) (by kernel_rfl) (by kernel_rfl) S96) ?_
    rintro _ _ w99 ⟨g97, rfl, rfl⟩ S99 a99 F99
    refine op_q F99 (.slice (some ⟨g97, 0, none⟩) 0 0) ?_; intro a100 F100
    refine wpList_nil ?_
    refine hK97 _ _ ?_; clear hK97 K97
    have S101 := Sp.ofblk (sz := 1) (m := 0) (l := []) S99 rfl (by omega) rfl
    refine fw_cut (fun a' w' => ∃ Ab : Option Addr, ∃ cb : Nat, ∃ bs : List ByteArray, Fr 92 [] a' [(2, .bool true), (3, .slice (B) (extra.length) (db)), (4, .pointer (some ⟨g1, 0, none⟩)), (8, .string ⟨#[]⟩), (9, .slice none 0 0), (10, .nilIface), (12, .slice (c.fArgs_a) (c.fArgs.length) (c.fArgs_c)), (13, .string (exF xs p0 0)), (14, .slice Ab bs.length cb)] ∧ Sp R w' (SA.own (.slice Ab10 (p0 :: ps).length cb10) 9 1 ((p0 :: ps).length) (strs (p0 :: ps)) :: SA.own (.slice Ab bs.length cb) 9 1 bs.length (strs bs) :: SA.blk g1 185 #[.string os, .string arch, .func (.func 110) #[] #[.pointer (some ⟨gb, 0, none⟩)]] :: L) ∧ (bs = exs xs ps)) ?_ ?_
    · intro K102 hK102
      refine wp_seq_k fun K103 hK103 => ?_
      refine wp_region_lit ?_
      refine op_q F100 (.slice Ab10 ((p0 :: ps).length) cb10) ?_; intro a104 F104
      refine op_q F104 (.int .i64 (↑((p0 :: ps).length))) ?_; intro a105 F105
      refine op_q F105 (.bool (decide ((1 : Int) < ↑((p0 :: ps).length)))) ?_; intro a106 F106
      refine wpList_nil ?_
      refine hK103 _ _ ?_; clear hK103 K103
      rcases btf (decide ((1 : Int) < ↑((p0 :: ps).length))) with hc107 | hc107
      · have hc107p := of_decide_eq_true hc107
        have F108 := F106.sb 44 (by kernel_rfl) hc107
        refine wp_cond_true (F108.ev (by kernel_rfl)) ?_
        refine wp_seq_k fun K109 hK109 => ?_
        refine wp_region_lit ?_
        refine op_q F108 (.slice Ab10 ((p0 :: ps).length) cb10) ?_; intro a110 F110
        refine op_rq (v := .slice (subA Ab10 1 1 cb10) ps.length (cb10 - 1)) F110 (r_slcl rfl Try.underlying22 1 (by kernel_rfl) (F110.e (.slice Ab10 ((p0 :: ps).length) cb10)) (F110.e (.int .i64 1)) 1 rfl (by show 1 ≤ (p0 :: ps).length; simp)) ?_; intro a111 F111
        refine op_q F111 (.int .i64 (↑ps.length)) ?_; intro a112 F112
        refine op_q F112 (.int .i64 0) ?_; intro a113 F113
        refine wpList_nil ?_
        refine hK109 _ _ ?_; clear hK109 K109
        refine wp_block ?_
        refine fw_loop (fun m a' w' => ∃ Ab : Option Addr, ∃ cb : Nat, ∃ bs : List ByteArray, ∃ k : Nat, ps.length - k = m ∧ Fr 92 [] a' [(2, .bool true), (3, .slice (B) (extra.length) (db)), (4, .pointer (some ⟨g1, 0, none⟩)), (8, .string ⟨#[]⟩), (9, .slice none 0 0), (10, .nilIface), (12, .slice (c.fArgs_a) (c.fArgs.length) (c.fArgs_c)), (13, .string (exF xs p0 0)), (14, .slice Ab bs.length cb), (46, .slice (subA Ab10 1 1 cb10) ps.length (cb10 - 1)), (47, .int .i64 (↑ps.length)), (48, .int .i64 (↑k))] ∧ Sp R w' (SA.own (.slice Ab10 (p0 :: ps).length cb10) 9 1 ((p0 :: ps).length) (strs (p0 :: ps)) :: SA.own (.slice Ab bs.length cb) 9 1 bs.length (strs bs) :: SA.blk g1 185 #[.string os, .string arch, .func (.func 110) #[] #[.pointer (some ⟨gb, 0, none⟩)]] :: L) ∧ (k ≤ ps.length) ∧ (bs = exs xs (ps.take k)) ∧ (bs.length = k)) _ ⟨some ⟨g97, 0, none⟩, 0, [], 0, rfl, (F113.kk 2 (F113.kk 3 (F113.kk 4 (F113.kk 8 (F113.kk 9 (F113.kk 10 (F113.kk 12 (F113.kk 13 (F113.kk 14 (F113.kk 46 (F113.kk 47 (F113.kk 48 F113.nil)))))))))))), S101.p2.p1.p2, (by first | omega | (with_reducible assumption) | (simp; done)), rfl, rfl⟩ ?_
        rintro m114 a114 w114 ⟨Ab, cb, bs, k, hm114, F114, S114, hk, hbs, hbl⟩ K114 hK114
        by_cases hlt_k : k < ps.length
        · have hc_k : decide ((↑k : Int) < ↑ps.length) = true := by first | (simp; done) | (simp; omega)
          obtain ⟨ad115, hA115⟩ := (own_sub1 (p := 1) (l := p0 :: ps) (S114.ow 0 rfl) (by simp) (by simp; omega)).addr (by simp [strs]; omega)
          have hpk_ : ps[k].size ≤ 1000 := hpz _ (List.mem_cons_of_mem _ (List.getElem_mem hlt_k))
          refine wp_seq_k fun K116 hK116 => ?_
          refine wp_region_lit ?_
          refine op_q F114 (.bool (decide ((↑k : Int) < ↑ps.length))) ?_; intro a117 F117
          have F118 := F117.sb 49 (by kernel_rfl) hc_k
          refine wpList_nil ?_
          refine hK116 _ _ ?_; clear hK116 K116
          refine wp_seq_k fun K119 hK119 => ?_
          refine wp_cond_true (F118.ev (by kernel_rfl)) ?_
          refine wp_skip ?_
          refine hK119 _ _ ?_; clear hK119 K119
          refine wp_seq_k fun K120 hK120 => ?_
          refine wp_block ?_
          refine wp_seq_k fun K121 hK121 => ?_
          refine wp_region_lit ?_
          refine op_rq (v := .pointer (some (ad115.add k))) F118 (r_ix rfl Try.underlying22 1 (by kernel_rfl) (F118.e (.slice (subA Ab10 1 1 cb10) ps.length (cb10 - 1))) hA115 (F118.e (.int .i64 (↑k))) k (by first | rfl | omega | simp) (by first | omega | (simp; done) | (simp; omega)) (by simp only [Nat.mul_one])) ?_; intro a122 F122
          refine op_rq (v := .string ps[k]) F122 (r_ld rfl (F122.e (.pointer (some (ad115.add k)))) (v := .string ps[k]) ((own_sub1 (p := 1) (l := p0 :: ps) (S114.ow 0 rfl) (by simp) (by simp; omega)).elA hA115 (j := k) (by simp [strs, List.getElem?_eq_getElem hlt_k])) Try.underlying9 rfl) ?_; intro a123 F123
          refine op_q F123 (.string ps[k]) ?_; intro a124 F124
          refine wpList_nil ?_
          refine hK121 _ _ ?_; clear hK121 K121
          refine wp_seq_k fun K125 hK125 => ?_
          refine wp_region_lit ?_
          refine op_q F124 (.bool true) ?_; intro a126 F126
          refine wpList_nil ?_
          refine hK125 _ _ ?_; clear hK125 K125
          refine wp_cond_true (F126.ev (by kernel_rfl)) ?_
          refine wp_region_lit ?_
          refine op_q F126 (.slice Ab bs.length cb) ?_; intro a127 F127
          refine op_q F127 (.string ps[k]) ?_; intro a128 F128
          refine op_q F128 (.pointer (some ⟨g1, 2, none⟩)) ?_; intro a129 F129
          refine op_rq (v := .func (.func 110) #[] #[.pointer (some ⟨gb, 0, none⟩)]) F129 (r_ld rfl (F129.e (.pointer (some ⟨g1, 2, none⟩))) (v := .func (.func 110) #[] #[.pointer (some ⟨gb, 0, none⟩)]) ((S114.bk 2 rfl).cell 2) Try.underlying67 rfl) ?_; intro a130 F130
          refine op_cq F130 (f := 69) (args := #[.string ps[k], .func (.func 110) #[] #[.pointer (some ⟨gb, 0, none⟩)]]) (expand110_any E _ xs ps[k] gb _ _ _ S114 (fun w S => h1 w S.drop.drop.drop) (fun w S => h2 w S.drop.drop.drop) (by first | omega | (simp; done) | (simp; omega)) hM) ?_
          rintro _ w131 ⟨rfl, S131⟩
          refine ⟨_, rfl, ?_⟩
          intro a132 F132
          refine op_sq F132 (s_news F132 9 #[.string (exF xs ps[k] 0)] 1 (by kernel_rfl) (by kernel_rfl) (by kernel_rfl) S131) ?_
          rintro _ _ w134 ⟨g132, rfl, rfl⟩ S134 a134 F134
          refine op_sq F134 (s_app rfl Try.underlying22 1 _ tin9 rfl rfl (F134.e (.slice Ab bs.length cb)) S134.p2 ([Value.string (exF xs ps[k] 0)]) (F134.e (.slice (some ⟨g132, 0, none⟩) 1 1)) ((S134.bk 0 rfl).sl (by simp)) rfl (by simp [Value.oneCell']) (by omega) (by omega) (n' := (bs ++ [exF xs ps[k] 0]).length) (by first | (simp; done) | (simp; omega)) (cs' := strs (bs ++ [exF xs ps[k] 0])) (by simp [strs])) ?_
          rintro _ _ w136 ⟨A135, c135, rfl, rfl⟩ S136 a136 F136
          refine op_q F136 (.slice A135 ((bs ++ [exF xs ps[k] 0]).length) c135) ?_; intro a137 F137
          refine wpList_nil ?_
          refine hK120 _ _ ?_; clear hK120 K120
          refine wp_region_lit ?_
          refine op_rq (v := .int .i64 (↑(k + 1))) F137 (r_add (z := ↑(k + 1)) rfl (F137.e (.int .i64 (↑k))) (F137.e (.int .i64 1)) (wr64 (by omega) (by omega) (by omega))) ?_; intro a138 F138
          refine op_q F138 (.int .i64 (↑(k + 1))) ?_; intro a139 F139
          refine wpList_nil ?_
          exact hK114 _ _ _ (by first | omega | (simp; omega)) ⟨A135, c135, bs ++ [exF xs ps[k] 0], k + 1, rfl, (F139.kk 2 (F139.kk 3 (F139.kk 4 (F139.kk 8 (F139.kk 9 (F139.kk 10 (F139.kk 12 (F139.kk 13 (F139.kk 14 (F139.kk 46 (F139.kk 47 (F139.kk 48 F139.nil)))))))))))), S136.p1.drop.p2.p1.p2, (by first | omega | (with_reducible assumption) | (simp; done)), (by rw [hbs, List.take_succ_eq_append_getElem hlt_k]; simp only [exs, List.map_append, List.map_cons, List.map_nil]), (by simp [hbl])⟩
        · have hc_k : decide ((↑k : Int) < ↑ps.length) = false := by first | (simp; done) | (simp; omega)
          have hbe : bs = exs xs ps := by rw [List.take_of_length_le (by omega)] at hbs; exact hbs
          refine wp_seq_k fun K140 hK140 => ?_
          refine wp_region_lit ?_
          refine op_q F114 (.bool (decide ((↑k : Int) < ↑ps.length))) ?_; intro a141 F141
          have F142 := F141.sb 49 (by kernel_rfl) hc_k
          refine wpList_nil ?_
          refine hK140 _ _ ?_; clear hK140 K140
          refine wp_seq_k fun K143 hK143 => ?_
          refine wp_cond_false (F142.ev (by kernel_rfl)) ?_
          refine wp_exit ?_
          refine ex_then ?_; clear hK143 K143
          refine ex_then ?_
          refine ex_in ?_
          exact hK102 _ _ ⟨Ab, cb, bs, (F142.kk 2 (F142.kk 3 (F142.kk 4 (F142.kk 8 (F142.kk 9 (F142.kk 10 (F142.kk 12 (F142.kk 13 (F142.kk 14 F142.nil))))))))), S114.p2.p2.p2, hbe⟩
      · have hc107p := of_decide_eq_false hc107
        have F144 := F106.sb 44 (by kernel_rfl) hc107
        refine wp_cond_false (F144.ev (by kernel_rfl)) ?_
        refine wp_skip ?_
        exact hK102 _ _ ⟨some ⟨g97, 0, none⟩, 0, [], (F144.kk 2 (F144.kk 3 (F144.kk 4 (F144.kk 8 (F144.kk 9 (F144.kk 10 (F144.kk 12 (F144.kk 13 (F144.kk 14 F144.nil))))))))), S101.p2.p1.p2, (by have : ps = [] := List.eq_nil_of_length_eq_zero (by have e : (p0 :: ps).length = ps.length + 1 := rfl; omega); subst this; rfl)⟩
    · rintro a145 w145 ⟨Ab, cb, bs, F145, S145, hb1⟩
      refine wp_seq_k fun K146 hK146 => ?_
      refine wp_seq_k fun K147 hK147 => ?_
      refine wp_region_lit ?_
      refine op_q F145 (.slice (c.fArgs_a) (c.fArgs.length) (c.fArgs_c)) ?_; intro a148 F148
      refine op_q F148 (.int .i64 (↑c.fArgs.length)) ?_; intro a149 F149
      refine op_q F149 (.int .i64 0) ?_; intro a150 F150
      refine wpList_nil ?_
      refine hK147 _ _ ?_; clear hK147 K147
      refine wp_block ?_
      refine fw_loop (fun m a' w' => ∃ Ac : Option Addr, ∃ cc : Nat, ∃ es : List ByteArray, ∃ k : Nat, c.fArgs.length - k = m ∧ Fr 92 [] a' [(2, .bool true), (3, .slice (B) (extra.length) (db)), (4, .pointer (some ⟨g1, 0, none⟩)), (8, .string ⟨#[]⟩), (9, .slice none 0 0), (10, .nilIface), (13, .string (exF xs p0 0)), (14, .slice Ac es.length cc), (65, .slice (c.fArgs_a) (c.fArgs.length) (c.fArgs_c)), (66, .int .i64 (↑c.fArgs.length)), (67, .int .i64 (↑k))] ∧ Sp R w' (SA.own (.slice Ac es.length cc) 9 1 es.length (strs es) :: SA.blk g1 185 #[.string os, .string arch, .func (.func 110) #[] #[.pointer (some ⟨gb, 0, none⟩)]] :: L) ∧ (k ≤ c.fArgs.length) ∧ (es = exs xs (ps ++ c.fArgs.take k)) ∧ (es.length = ps.length + k)) _ ⟨Ab, cb, bs, 0, rfl, (F150.kk 2 (F150.kk 3 (F150.kk 4 (F150.kk 8 (F150.kk 9 (F150.kk 10 (F150.kk 13 (F150.kk 14 (F150.kk 65 (F150.kk 66 (F150.kk 67 F150.nil))))))))))), S145.drop.p1.p1, (by first | omega | (with_reducible assumption) | (simp; done)), (by rw [hb1]; simp), (by rw [hb1]; simp)⟩ ?_
      rintro m151 a151 w151 ⟨Ac, cc, es, k, hm151, F151, S151, hk, hes, hel⟩ K151 hK151
      by_cases hlt_k : k < c.fArgs.length
      · have hc_k : decide ((↑k : Int) < ↑c.fArgs.length) = true := by first | (simp; done) | (simp; omega)
        obtain ⟨ad152, hA152⟩ := (h3 _ S151.drop.drop).addr (by simp [strs]; omega)
        have hak_ : c.fArgs[k].size ≤ 1000 := haz _ (List.getElem_mem hlt_k)
        refine wp_seq_k fun K153 hK153 => ?_
        refine wp_region_lit ?_
        refine op_q F151 (.bool (decide ((↑k : Int) < ↑c.fArgs.length))) ?_; intro a154 F154
        have F155 := F154.sb 68 (by kernel_rfl) hc_k
        refine wpList_nil ?_
        refine hK153 _ _ ?_; clear hK153 K153
        refine wp_seq_k fun K156 hK156 => ?_
        refine wp_cond_true (F155.ev (by kernel_rfl)) ?_
        refine wp_skip ?_
        refine hK156 _ _ ?_; clear hK156 K156
        refine wp_seq_k fun K157 hK157 => ?_
        refine wp_block ?_
        refine wp_seq_k fun K158 hK158 => ?_
        refine wp_region_lit ?_
        refine op_rq (v := .pointer (some (ad152.add k))) F155 (r_ix rfl Try.underlying22 1 (by kernel_rfl) (F155.e (.slice (c.fArgs_a) (c.fArgs.length) (c.fArgs_c))) hA152 (F155.e (.int .i64 (↑k))) k (by first | rfl | omega | simp) (by first | omega | (simp; done) | (simp; omega)) (by simp only [Nat.mul_one])) ?_; intro a159 F159
        refine op_rq (v := .string c.fArgs[k]) F159 (r_ld rfl (F159.e (.pointer (some (ad152.add k)))) (v := .string c.fArgs[k]) ((h3 _ S151.drop.drop).elA hA152 (j := k) (by simp [strs, List.getElem?_eq_getElem hlt_k])) Try.underlying9 rfl) ?_; intro a160 F160
        refine op_q F160 (.string c.fArgs[k]) ?_; intro a161 F161
        refine wpList_nil ?_
        refine hK158 _ _ ?_; clear hK158 K158
        refine wp_seq_k fun K162 hK162 => ?_
        refine wp_region_lit ?_
        refine op_q F161 (.bool true) ?_; intro a163 F163
        refine wpList_nil ?_
        refine hK162 _ _ ?_; clear hK162 K162
        refine wp_cond_true (F163.ev (by kernel_rfl)) ?_
        refine wp_region_lit ?_
        refine op_q F163 (.slice Ac es.length cc) ?_; intro a164 F164
        refine op_q F164 (.string c.fArgs[k]) ?_; intro a165 F165
        refine op_q F165 (.pointer (some ⟨g1, 2, none⟩)) ?_; intro a166 F166
        refine op_rq (v := .func (.func 110) #[] #[.pointer (some ⟨gb, 0, none⟩)]) F166 (r_ld rfl (F166.e (.pointer (some ⟨g1, 2, none⟩))) (v := .func (.func 110) #[] #[.pointer (some ⟨gb, 0, none⟩)]) ((S151.bk 1 rfl).cell 2) Try.underlying67 rfl) ?_; intro a167 F167
        refine op_cq F167 (f := 69) (args := #[.string c.fArgs[k], .func (.func 110) #[] #[.pointer (some ⟨gb, 0, none⟩)]]) (expand110_any E _ xs c.fArgs[k] gb _ _ _ S151 (fun w S => h1 w S.drop.drop) (fun w S => h2 w S.drop.drop) (by first | omega | (simp; done) | (simp; omega)) hM) ?_
        rintro _ w168 ⟨rfl, S168⟩
        refine ⟨_, rfl, ?_⟩
        intro a169 F169
        refine op_sq F169 (s_news F169 9 #[.string (exF xs c.fArgs[k] 0)] 1 (by kernel_rfl) (by kernel_rfl) (by kernel_rfl) S168) ?_
        rintro _ _ w171 ⟨g169, rfl, rfl⟩ S171 a171 F171
        refine op_sq F171 (s_app rfl Try.underlying22 1 _ tin9 rfl rfl (F171.e (.slice Ac es.length cc)) S171.p1 ([Value.string (exF xs c.fArgs[k] 0)]) (F171.e (.slice (some ⟨g169, 0, none⟩) 1 1)) ((S171.bk 0 rfl).sl (by simp)) rfl (by simp [Value.oneCell']) (by omega) (by omega) (n' := (es ++ [exF xs c.fArgs[k] 0]).length) (by first | (simp; done) | (simp; omega)) (cs' := strs (es ++ [exF xs c.fArgs[k] 0])) (by simp [strs])) ?_
        rintro _ _ w173 ⟨A172, c172, rfl, rfl⟩ S173 a173 F173
        refine op_q F173 (.slice A172 ((es ++ [exF xs c.fArgs[k] 0]).length) c172) ?_; intro a174 F174
        refine wpList_nil ?_
        refine hK157 _ _ ?_; clear hK157 K157
        refine wp_region_lit ?_
        refine op_rq (v := .int .i64 (↑(k + 1))) F174 (r_add (z := ↑(k + 1)) rfl (F174.e (.int .i64 (↑k))) (F174.e (.int .i64 1)) (wr64 (by omega) (by omega) (by omega))) ?_; intro a175 F175
        refine op_q F175 (.int .i64 (↑(k + 1))) ?_; intro a176 F176
        refine wpList_nil ?_
        exact hK151 _ _ _ (by first | omega | (simp; omega)) ⟨A172, c172, es ++ [exF xs c.fArgs[k] 0], k + 1, rfl, (F176.kk 2 (F176.kk 3 (F176.kk 4 (F176.kk 8 (F176.kk 9 (F176.kk 10 (F176.kk 13 (F176.kk 14 (F176.kk 65 (F176.kk 66 (F176.kk 67 F176.nil))))))))))), S173.p1.drop.p1.p1, (by first | omega | (with_reducible assumption) | (simp; done)), (by rw [hes, List.take_succ_eq_append_getElem hlt_k]; simp only [exs, List.map_append, List.append_assoc, List.map_cons, List.map_nil]), (by simp [hel]; omega)⟩
      · have hc_k : decide ((↑k : Int) < ↑c.fArgs.length) = false := by first | (simp; done) | (simp; omega)
        have hee : es = exs xs (ps ++ c.fArgs) := by rw [List.take_of_length_le (by omega)] at hes; exact hes
        refine wp_seq_k fun K177 hK177 => ?_
        refine wp_region_lit ?_
        refine op_q F151 (.bool (decide ((↑k : Int) < ↑c.fArgs.length))) ?_; intro a178 F178
        have F179 := F178.sb 68 (by kernel_rfl) hc_k
        refine wpList_nil ?_
        refine hK177 _ _ ?_; clear hK177 K177
        refine wp_seq_k fun K180 hK180 => ?_
        refine wp_cond_false (F179.ev (by kernel_rfl)) ?_
        refine wp_exit ?_
        refine ex_then ?_; clear hK180 K180
        refine ex_then ?_
        refine ex_in ?_
        refine hK146 _ _ ?_; clear hK146 K146
        refine wp_seq_k fun K181 hK181 => ?_
        refine wp_seq_k fun K182 hK182 => ?_
        refine wp_region_lit ?_
        refine op_q F179 (.slice (B) (extra.length) (db)) ?_; intro a183 F183
        refine op_q F183 (.int .i64 (↑extra.length)) ?_; intro a184 F184
        refine op_q F184 (.bool (decide ((0 : Int) < ↑extra.length))) ?_; intro a185 F185
        refine wpList_nil ?_
        refine hK182 _ _ ?_; clear hK182 K182
        rcases btf (decide ((0 : Int) < ↑extra.length)) with hc186 | hc186
        · have hc186p := of_decide_eq_true hc186
          have F187 := F185.sb 86 (by kernel_rfl) hc186
          refine wp_cond_true (F187.ev (by kernel_rfl)) ?_
          refine wp_region_lit ?_
          refine op_q F187 (.slice Ac es.length cc) ?_; intro a188 F188
          refine op_q F188 (.slice (B) (extra.length) (db)) ?_; intro a189 F189
          refine op_sq F189 (s_app rfl Try.underlying22 1 _ tin9 rfl rfl (F189.e (.slice Ac es.length cc)) S151 (strs extra) (F189.e (.slice (B) (extra.length) (db))) (h4 _ S151.drop.drop) (by first | (simp [strs, ptrs]; done) | (simp [strs, ptrs]; omega)) (by intro u hu; obtain ⟨x, _, rfl⟩ := List.mem_map.1 hu; rfl) (by omega) (by omega) (n' := (es ++ extra).length) (by first | (simp; done) | (simp; omega)) (cs' := strs (es ++ extra)) (by simp [strs])) ?_
          rintro _ _ w191 ⟨A190, c190, rfl, rfl⟩ S191 a191 F191
          refine op_q F191 (.slice A190 ((es ++ extra).length) c190) ?_; intro a192 F192
          refine wpList_nil ?_
          refine hK181 _ _ ?_; clear hK181 K181
          refine wp_seq_k fun K193 hK193 => ?_
          refine wp_region_lit ?_
          refine op_q F192 (.string (exF xs p0 0)) ?_; intro a194 F194
          refine op_q F194 (.slice A190 ((es ++ extra).length) c190) ?_; intro a195 F195
          refine op_q F195 (.string (exF xs p0 0)) ?_; intro a196 F196
          refine op_q F196 (.slice A190 ((es ++ extra).length) c190) ?_; intro a197 F197
          refine op_q F197 (.nilIface) ?_; intro a198 F198
          refine wpList_nil ?_
          refine hK193 _ _ ?_; clear hK193 K193
          refine wp_ret ?_
          refine (F198.res3 rfl (v := .string (exF xs p0 0)) (by kernel_rfl) (v2 := .slice A190 ((es ++ extra).length) c190) (by kernel_rfl) (v3 := .nilIface) (by kernel_rfl) ?_).1
          exact ⟨A190, c190, es ++ extra, rfl, S191.p1.drop, (by rw [hee])⟩
        · have hc186p := of_decide_eq_false hc186
          have F199 := F185.sb 86 (by kernel_rfl) hc186
          refine wp_cond_false (F199.ev (by kernel_rfl)) ?_
          refine wp_skip ?_
          refine hK181 _ _ ?_; clear hK181 K181
          refine wp_seq_k fun K200 hK200 => ?_
          refine wp_region_lit ?_
          refine op_q F199 (.string (exF xs p0 0)) ?_; intro a201 F201
          refine op_q F201 (.slice Ac es.length cc) ?_; intro a202 F202
          refine op_q F202 (.string (exF xs p0 0)) ?_; intro a203 F203
          refine op_q F203 (.slice Ac es.length cc) ?_; intro a204 F204
          refine op_q F204 (.nilIface) ?_; intro a205 F205
          refine wpList_nil ?_
          refine hK200 _ _ ?_; clear hK200 K200
          refine wp_ret ?_
          refine (F205.res3 rfl (v := .string (exF xs p0 0)) (by kernel_rfl) (v2 := .slice Ac es.length cc) (by kernel_rfl) (v3 := .nilIface) (by kernel_rfl) ?_).1
          exact ⟨Ac, cc, es, rfl, S151.p1.drop, (by have he0 : extra = [] := List.eq_nil_of_length_eq_zero (by omega); rw [hee, he0, List.append_nil])⟩
set_option maxRecDepth 100000 in
set_option maxHeartbeats 20000000 in
theorem prepCmds_none (os : ByteArray) (arch : ByteArray) (gb : Nat) (A : Option Addr) (d : Nat) (cs : List Ty110) (E : Option Addr) (ce : Nat) (xs : List Ty108) (B : Option Addr) (db : Nat) (extra : List ByteArray) (R : Ctx) (L : List SA) (w : World) (S : Sp R w (L)) (h0 : Rf R L fun w => Rows w (A) 4 (cs.map Ty110.cells)) (hos : 0 < os.size) (hoz : os.size ≤ 1000000 ∧ arch.size ≤ 1000000) (hoa : ∀ j, bt0 os j ≤ 127) (haa : ∀ j, bt0 arch j ≤ 127) (hcz : ∀ x ∈ cs, x.fOS.size ≤ 1000000 ∧ x.fArch.size ≤ 1000000 ∧ x.fCommand.size ≤ 1000000) (hca : ∀ x ∈ cs, (∀ j, bt0 x.fOS j ≤ 127) ∧ (∀ j, bt0 x.fArch j ≤ 127)) (hpk : pickF os arch cs = none) :
    Calls Try.prog 174 #[.agg #[.string os, .string arch, .func (.func 110) #[] #[.pointer (some ⟨gb, 0, none⟩)]], .slice (A) (cs.length) (d), .bool true, .slice (B) (extra.length) (db)] w fun e w' => ∃ ge : Nat, e = .returned (.tuple #[.string ⟨#[]⟩, .slice none 0 0, .iface 279 (.pointer (some ⟨ge, 0, none⟩))]) ∧ Sp R w' (L) := by
  have hl_cs : cs.length ≤ 9223372036854775807 := by have := (h0 _ S).1; simpa [strs, ptrs] using this
  refine fw_enter (fn := Try.f174) rfl rfl 92 rfl (Nat.le_of_ble_eq_true rfl) ?_
  intro a0 F0
  refine wp_seq_k fun K1 hK1 => ?_
  refine wp_region_lit ?_
  refine op_sq F0 (s_newp F0 185 #[.string os, .string arch, .func (.func 110) #[] #[.pointer (some ⟨gb, 0, none⟩)]] (by kernel_rfl) (by kernel_rfl) (by kernel_rfl) S) ?_
  rintro _ _ w3 ⟨g1, rfl, rfl⟩ S3 a3 F3
  refine op_q F3 (.string ⟨#[]⟩) ?_; intro a4 F4
  refine op_q F4 (.slice none 0 0) ?_; intro a5 F5
  refine op_q F5 (.nilIface) ?_; intro a6 F6
  refine wpList_nil ?_
  refine hK1 _ _ ?_; clear hK1 K1
  refine wp_seq_k fun K7 hK7 => ?_
  refine wp_region_lit ?_
  refine op_rq (v := .agg #[.string os, .string arch, .func (.func 110) #[] #[.pointer (some ⟨gb, 0, none⟩)]]) F6 (r_ldm rfl (F6.e (.pointer (some ⟨g1, 0, none⟩))) (S3.bk 0 rfl) 3 (by kernel_rfl) Try.underlying185 rfl (by kernel_rfl) (v := #[.string os, .string arch, .func (.func 110) #[] #[.pointer (some ⟨gb, 0, none⟩)]]) (by kernel_rfl)) ?_; intro a8 F8
  refine op_q F8 (.slice (A) (cs.length) (d)) ?_; intro a9 F9
  refine op_cq F9 (f := 199) (args := #[.agg #[.string os, .string arch, .func (.func 110) #[] #[.pointer (some ⟨gb, 0, none⟩)]], .slice (A) (cs.length) (d)]) (getCmd_none os arch gb A d cs _ _ _ S3 (fun w S => h0 w S.drop) (by first | omega | (simp; done) | (simp; omega)) (by first | omega | (simp; done) | (simp; omega)) (by first | exact hoa) (by first | exact haa) hcz hca hpk) ?_
  rintro _ w10 ⟨c10, Ab10, cb10, rfl, S10⟩
  refine ⟨_, rfl, ?_⟩
  intro a11 F11
  refine op_q F11 (.tuple #[.slice Ab10 0 cb10, .slice c10.fArgs_a c10.fArgs.length c10.fArgs_c]) ?_; intro a12 F12
  refine op_q F12 (.slice Ab10 0 cb10) ?_; intro a13 F13
  refine op_q F13 (.slice c10.fArgs_a c10.fArgs.length c10.fArgs_c) ?_; intro a14 F14
  refine op_q F14 (.slice Ab10 0 cb10) ?_; intro a15 F15
  refine op_q F15 (.slice c10.fArgs_a c10.fArgs.length c10.fArgs_c) ?_; intro a16 F16
  refine wpList_nil ?_
  refine hK7 _ _ ?_; clear hK7 K7
  refine wp_seq_k fun K17 hK17 => ?_
  refine wp_seq_k fun K18 hK18 => ?_
  refine wp_region_lit ?_
  refine op_q F16 (.slice Ab10 0 cb10) ?_; intro a19 F19
  refine op_q F19 (.int .i64 0) ?_; intro a20 F20
  refine op_q F20 (.bool true) ?_; intro a21 F21
  refine op_q F21 (.bool true) ?_; intro a22 F22
  refine op_kq F22 ?_; intro a23 F23
  refine op_kq F23 ?_; intro a24 F24
  refine op_kq F24 ?_; intro a25 F25
  refine op_kq F25 ?_; intro a26 F26
  refine op_q F26 (.bool true) ?_; intro a27 F27
  refine wpList_nil ?_
  refine hK18 _ _ ?_; clear hK18 K18
  refine wp_cond_true (F27.ev (by kernel_rfl)) ?_
  refine wp_seq_k fun K28 hK28 => ?_
  refine wp_region_lit ?_
  refine op_cq F27 (f := 173) (args := #[.string ⟨#[110, 111, 32, 112, 108, 117, 103, 105, 110, 32, 99, 111, 109, 109, 97, 110, 100, 32, 105, 115, 32, 97, 112, 112, 108, 105, 99, 97, 98, 108, 101]⟩]) (errNew_sp ⟨#[110, 111, 32, 112, 108, 117, 103, 105, 110, 32, 99, 111, 109, 109, 97, 110, 100, 32, 105, 115, 32, 97, 112, 112, 108, 105, 99, 97, 98, 108, 101]⟩ _ _ _ S10 ) ?_
  rintro _ w29 ⟨ge29, rfl, S29⟩
  refine ⟨_, rfl, ?_⟩
  intro a30 F30
  refine op_q F30 (.string ⟨#[]⟩) ?_; intro a31 F31
  refine op_q F31 (.slice none 0 0) ?_; intro a32 F32
  refine op_q F32 (.iface 279 (.pointer (some ⟨ge29, 0, none⟩))) ?_; intro a33 F33
  refine wpList_nil ?_
  refine hK28 _ _ ?_; clear hK28 K28
  refine wp_ret ?_
  refine ret_then ?_
  refine (F33.res3 rfl (v := .string ⟨#[]⟩) (by kernel_rfl) (v2 := .slice none 0 0) (by kernel_rfl) (v3 := .iface 279 (.pointer (some ⟨ge29, 0, none⟩))) (by kernel_rfl) ?_).1
  exact ⟨ge29, rfl, S29.drop.drop⟩
end Go.Proofs.Ytkjcedlgljeoiaa

/- Contracts: plain.IsSpace, plain.Sanitize, sanitizeString, ChClean: white made blanks, what is not printed taken out. -/
namespace Go.Proofs.Ytkjcedlgljeoiaa
open Go.RowKit Go.Lib

def isSp (r : Int) : Bool := (decide (9 ≤ r) && decide (r ≤ 13)) || r == 32

def cleanB (c : UInt8) : Option UInt8 := if 9 ≤ c.toNat ∧ c.toNat ≤ 13 then some 32 else if 32 ≤ c.toNat ∧ c.toNat < 127 then some c else none
def cleanL (s : ByteArray) (k : Nat) : List UInt8 := (s.data.toList.take k).filterMap cleanB
def cleanF (s : ByteArray) : ByteArray := ⟨(s.data.toList.filterMap cleanB).toArray⟩
def u8s (l : List UInt8) : List Value := l.map fun c => .int .u8 c.toNat

/-- All bytes are below 128. -/
def asciiB (s : ByteArray) : Prop := ∀ j, ∀ h : j < s.size, s[j].toNat ≤ 127

end Go.Proofs.Ytkjcedlgljeoiaa

/- Contracts: validatePluginData, ZzValidate; PluginValid with its deferred closure. -/
namespace Go.Proofs.Ytkjcedlgljeoiaa
open Go.RowKit Go.Lib


abbrev pmCells (n u : ByteArray) : Array Value := #[.string n, .string u, .slice none 0 0, .string ⟨#[]⟩, .bool false]
abbrev lowDash : ByteArray := ⟨#[95, 45]⟩
end Go.Proofs.Ytkjcedlgljeoiaa

/- Contract: PluginValid with its deferred closure. -/
namespace Go.Proofs.Ytkjcedlgljeoiaa
open Go.RowKit Go.Lib

theorem Blk.drew {w : World} {g : Nat} {t : TypeId} {c : Array Value} (h : Blk w g t c) : Blk w.drew g t c := h
end Go.Proofs.Ytkjcedlgljeoiaa

