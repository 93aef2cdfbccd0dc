/- Texts Pn5, X7, Q2, laid together. -/
import Derived.WalkKit
import Derived.WalkLawsBesides
import Derived.WalkSpells
import Derived.Lib.Hide
import Derived.Deep.RegionWith
import Derived.Deep.DeepCutAuto
import Derived.Deep.QuietTactic
import Derived.BigQuiet
import Derived.Laws.OwnMore
import Derived.Deep.LoopGhost
import Derived.KernelRfl
import Derived.Deep.WholeRow
import Derived.StillTail
import Derived.SliceStrings
import Derived.Deep.Slices
import Derived.Deep.Fields
import Derived.ChangeSame
import Derived.Deep.MidRow
import Derived.Maps.AppendAt
import Derived.Lib.AppendStr
import Derived.Lib.ConvBytes
import Derived.Laws.BytesArg
import Derived.Deep.RegionLaw
import Derived.OwnWalk
import Derived.Maps.OwnSet
import Derived.Maps.OwnOps
import Derived.ArgAppend
import Derived.Defers
import Derived.Recover
import Derived.Laws.Pointers
import Derived.Laws.StructEq
import Derived.IntWalk
import Derived.Test.YtkjcedlgljeoiaaProg
import Derived.Test.YtkjcedlgljeoiaaZpc
/- plugin.Plugin.PrepareCommand, impl.PluginCommand, in two cases. -/
namespace Go.Proofs.Ytkjcedlgljeoiaa
open Go.RowKit Go.Lib
set_option linter.unusedVariables false
set_option linter.unusedSimpArgs false
theorem catch109 (x0 x1 x2 : Nat) (w : World) :
    CallsD Try.prog 109 #[.pointer (some ⟨x0, 0, none⟩), .pointer (some ⟨x1, 0, none⟩), .pointer (some ⟨x2, 0, none⟩)] .returning w fun e u' w' => e = .returned (.tuple #[]) ∧ u' = .returning ∧ w' = w := by
  refine callsD_of_wpS Try.func109 rfl fun c₀ cs hu => ?_
  apply wpS_seq
  apply wpS_region
  simp [wpOpsS, go_sem, recoverD, hu, Try.ntmps109, Exit.thenS]
  refine wpS_cond (t := false) (by simp [Act.eval, Array.replicate]) ?_
  simp only [Bool.false_eq_true, if_false]
  refine wpS_of_wp (wp_skip ?_)
  cases c₀
  simp_all [bodyPostS, results, Try.results109]
set_option maxRecDepth 100000 in
set_option maxHeartbeats 20000000 in
theorem prepCmd_some (os : ByteArray) (arch : ByteArray) (gb : Nat) (A : Option Addr) (d : Nat) (cs : List Ty110) (E : Option Addr) (ce : Nat) (xs : List Ty108) (B : Option Addr) (db : Nat) (extra : List ByteArray) (gp : Nat) (gm : Nat) (command : ByteArray) (ig : Bool) (c : Ty110) (p0 : ByteArray) (ps : List ByteArray) (R : Ctx) (L : List SA) (w : World) (S : Sp R w (L)) (h0 : Rf R L fun w => Rows w (A) 4 (cs.map Ty110.cells)) (h1 : Rf R L fun w => Rows w (E) 2 (xs.map Ty108.cells)) (h2 : Rf R L fun w => Blk w (gb) 40 #[.slice (E) (xs.length) (ce)]) (h3 : Rf R L fun w => Sl w (c.fArgs_a) (strs c.fArgs)) (h4 : Rf R L fun w => Sl w (B) (strs extra)) (h5 : Rf R L fun w => Blk w (gp) 195 #[.pointer (some ⟨gm, 0, none⟩), .string ⟨#[]⟩]) (h6 : Rf R L fun w => Blk w (gm) 189 #[.string ⟨#[]⟩, .string ⟨#[]⟩, .slice (A) (cs.length) (d), .string (command), .bool (ig)]) (hos : 0 < os.size) (hoz : os.size ≤ 1000000 ∧ arch.size ≤ 1000000) (hoa : ∀ j, bt0 os j ≤ 127) (haa : ∀ j, bt0 arch j ≤ 127) (hcz : ∀ x ∈ cs, x.fOS.size ≤ 1000000 ∧ x.fArch.size ≤ 1000000 ∧ x.fCommand.size ≤ 1000000) (hca : ∀ x ∈ cs, (∀ j, bt0 x.fOS j ≤ 127) ∧ (∀ j, bt0 x.fArch j ≤ 127)) (hM : ∀ x ∈ xs, x.fText.size ≤ 2147483647) (hcl : 0 < cs.length) (hpk : pickF os arch cs = some c) (hps : partsF c = p0 :: ps) (h00 : 0 < p0.size) (hpz : ∀ s ∈ p0 :: ps, s.size ≤ 1000) (haz : ∀ s ∈ c.fArgs, s.size ≤ 1000) (hn : ps.length ≤ 10000 ∧ c.fArgs.length ≤ 10000 ∧ extra.length ≤ 10000) :
    Calls Try.prog 111 #[.pointer (some ⟨gp, 0, none⟩), .agg #[.string os, .string arch, .func (.func 110) #[] #[.pointer (some ⟨gb, 0, none⟩)]], .slice (B) (extra.length) (db)] w fun e w' => ∃ Ar : Option Addr, ∃ cr : Nat, ∃ rs : List ByteArray, e = .returned (.tuple #[.string (exF xs p0 0), .slice Ar rs.length cr, .nilIface]) ∧ Sp R w' (SA.own (.slice Ar rs.length cr) 9 1 rs.length (strs rs) :: L) ∧ (rs = exs xs (ps ++ c.fArgs) ++ (if ig then [] else extra)) := by
  have hl_cs : cs.length ≤ 9223372036854775807 := by have := (h0 _ S).1; simpa [strs, ptrs] using this
  have hl_xs : xs.length ≤ 9223372036854775807 := by have := (h1 _ S).1; simpa [strs, ptrs] using this
  have hl_extra : extra.length ≤ 9223372036854775807 := by have := (h4 _ S).1; simpa [strs, ptrs] using this
  obtain ⟨hn1, hn2, hn3⟩ := hn
  refine fw_enter (fn := Try.f111) rfl rfl 57 rfl (Nat.le_of_ble_eq_true rfl) ?_
  intro a0 F0
  refine wp_seq_k fun K1 hK1 => ?_
  refine wp_region_lit ?_
  refine op_sq F0 (s_newp F0 185 #[.string os, .string arch, .func (.func 110) #[] #[.pointer (some ⟨gb, 0, none⟩)]] (by kernel_rfl) (by kernel_rfl) (by kernel_rfl) S) ?_
  rintro _ _ w3 ⟨g1, rfl, rfl⟩ S3 a3 F3
  refine op_q F3 (.string ⟨#[]⟩) ?_; intro a4 F4
  refine op_q F4 (.slice none 0 0) ?_; intro a5 F5
  refine op_q F5 (.nilIface) ?_; intro a6 F6
  refine wpList_nil ?_
  refine hK1 _ _ ?_; clear hK1 K1
  refine wp_seq_k fun K7 hK7 => ?_
  refine wp_region_lit ?_
  refine op_q F6 (.slice none 0 0) ?_; intro a8 F8
  refine wpList_nil ?_
  refine hK7 _ _ ?_; clear hK7 K7
  refine wp_seq_k fun K9 hK9 => ?_
  refine wp_seq_k fun K10 hK10 => ?_
  refine wp_region_lit ?_
  refine op_q F8 (.pointer (some ⟨gp, 0, none⟩)) ?_; intro a11 F11
  refine op_q F11 (.pointer (some ⟨gp, 0, none⟩)) ?_; intro a12 F12
  refine op_q F12 (.pointer (some ⟨gp, 0, none⟩)) ?_; intro a13 F13
  refine op_rq (v := .pointer (some ⟨gm, 0, none⟩)) F13 (r_ld rfl (F13.e (.pointer (some ⟨gp, 0, none⟩))) (v := .pointer (some ⟨gm, 0, none⟩)) ((h5 _ S3.drop).cell 0) Try.underlying186 rfl) ?_; intro a14 F14
  refine op_q F14 (.pointer (some ⟨gm, 0, none⟩)) ?_; intro a15 F15
  refine op_q F15 (.pointer (some ⟨gm, 4, none⟩)) ?_; intro a16 F16
  refine op_rq (v := .bool ig) F16 (r_ld rfl (F16.e (.pointer (some ⟨gm, 4, none⟩))) (v := .bool ig) ((h6 _ S3.drop).cell 4) Try.underlying4 rfl) ?_; intro a17 F17
  refine op_q F17 (.bool (!(ig))) ?_; intro a18 F18
  refine wpList_nil ?_
  refine hK10 _ _ ?_; clear hK10 K10
  rcases btf (ig) with hc19 | hc19
  · have F20 := F18.sb 17 (by kernel_rfl) hc19
    have F21 := F20.sb 18 (by kernel_rfl) (show (!(ig)) = false by rw [hc19]; rfl)
    refine wp_cond_false (F21.ev (by kernel_rfl)) ?_
    refine wp_skip ?_
    refine hK9 _ _ ?_; clear hK9 K9
    refine wp_seq_k fun K22 hK22 => ?_
    refine wp_region_lit ?_
    refine op_q F21 (.pointer (some ⟨gp, 0, none⟩)) ?_; intro a23 F23
    refine op_q F23 (.pointer (some ⟨gp, 0, none⟩)) ?_; intro a24 F24
    refine op_q F24 (.pointer (some ⟨gp, 0, none⟩)) ?_; intro a25 F25
    refine op_rq (v := .pointer (some ⟨gm, 0, none⟩)) F25 (r_ld rfl (F25.e (.pointer (some ⟨gp, 0, none⟩))) (v := .pointer (some ⟨gm, 0, none⟩)) ((h5 _ S3.drop).cell 0) Try.underlying186 rfl) ?_; intro a26 F26
    refine op_q F26 (.pointer (some ⟨gm, 0, none⟩)) ?_; intro a27 F27
    refine op_q F27 (.pointer (some ⟨gm, 2, none⟩)) ?_; intro a28 F28
    refine op_rq (v := .slice (A) (cs.length) (d)) F28 (r_ld rfl (F28.e (.pointer (some ⟨gm, 2, none⟩))) (v := .slice (A) (cs.length) (d)) ((h6 _ S3.drop).cell 2) Try.underlying187 rfl) ?_; intro a29 F29
    refine op_q F29 (.slice (A) (cs.length) (d)) ?_; intro a30 F30
    refine wpList_nil ?_
    refine hK22 _ _ ?_; clear hK22 K22
    refine wp_seq_k fun K31 hK31 => ?_
    refine wp_seq_k fun K32 hK32 => ?_
    refine wp_region_lit ?_
    refine op_q F30 (.slice (A) (cs.length) (d)) ?_; intro a33 F33
    refine op_q F33 (.int .i64 (↑cs.length)) ?_; intro a34 F34
    refine op_q F34 (.bool ((↑cs.length : Int) == 0)) ?_; intro a35 F35
    refine op_q F35 (.bool ((↑cs.length : Int) == 0)) ?_; intro a36 F36
    have hc37 : ((↑cs.length : Int) == 0) = false := (beq_eq_false_iff_ne.2 (by omega))
    have F38 := F36.sb 29 (by kernel_rfl) hc37
    have F39 := F38.sb 30 (by kernel_rfl) hc37
    refine op_kq F39 ?_; intro a40 F40
    refine op_kq F40 ?_; intro a41 F41
    refine op_kq F41 ?_; intro a42 F42
    refine op_kq F42 ?_; intro a43 F43
    refine op_kq F43 ?_; intro a44 F44
    refine op_kq F44 ?_; intro a45 F45
    refine op_kq F45 ?_; intro a46 F46
    refine op_kq F46 ?_; intro a47 F47
    refine op_kq F47 ?_; intro a48 F48
    refine op_q F48 (.bool false) ?_; intro a49 F49
    refine wpList_nil ?_
    refine hK32 _ _ ?_; clear hK32 K32
    refine wp_cond_false (F49.ev (by kernel_rfl)) ?_
    refine wp_skip ?_
    refine hK31 _ _ ?_; clear hK31 K31
    refine wp_seq_k fun K50 hK50 => ?_
    refine wp_region_lit ?_
    refine op_rq (v := .agg #[.string os, .string arch, .func (.func 110) #[] #[.pointer (some ⟨gb, 0, none⟩)]]) F49 (r_ldm rfl (F49.e (.pointer (some ⟨g1, 0, none⟩))) (S3.bk 0 rfl) 3 (by kernel_rfl) Try.underlying185 rfl (by kernel_rfl) (v := #[.string os, .string arch, .func (.func 110) #[] #[.pointer (some ⟨gb, 0, none⟩)]]) (by kernel_rfl)) ?_; intro a51 F51
    refine op_q F51 (.slice (A) (cs.length) (d)) ?_; intro a52 F52
    refine op_q F52 (.slice none 0 0) ?_; intro a53 F53
    refine op_cq F53 (f := 174) (args := #[.agg #[.string os, .string arch, .func (.func 110) #[] #[.pointer (some ⟨gb, 0, none⟩)]], .slice (A) (cs.length) (d), .bool true, .slice none 0 0]) (prepCmds_some os arch gb A d cs E _ xs none 0 ([]) c p0 ps _ _ _ S3 (fun w S => h0 w S.drop) (fun w S => h1 w S.drop) (fun w S => h2 w S.drop) (fun w S => h3 w S.drop) (fun w S => Sl.nil) (by first | omega | (simp; done) | (simp; omega)) (by first | omega | (simp; done) | (simp; omega)) (by first | exact hoa) (by first | exact haa) hcz hca hM hpk hps h00 hpz haz (by refine ⟨by omega, by omega, ?_⟩; first | omega | simp)) ?_
    rintro _ w54 ⟨Ar54, cr54, rs54, rfl, S54, hp0_54⟩
    refine ⟨_, rfl, ?_⟩
    intro a55 F55
    refine op_q F55 (.string (exF xs p0 0)) ?_; intro a56 F56
    refine op_q F56 (.slice Ar54 rs54.length cr54) ?_; intro a57 F57
    refine op_q F57 (.nilIface) ?_; intro a58 F58
    refine op_q F58 (.string (exF xs p0 0)) ?_; intro a59 F59
    refine op_q F59 (.slice Ar54 rs54.length cr54) ?_; intro a60 F60
    refine op_q F60 (.nilIface) ?_; intro a61 F61
    refine wpList_nil ?_
    refine hK50 _ _ ?_; clear hK50 K50
    refine wp_ret ?_
    refine (F61.res3 rfl (v := .string (exF xs p0 0)) (by kernel_rfl) (v2 := .slice Ar54 rs54.length cr54) (by kernel_rfl) (v3 := .nilIface) (by kernel_rfl) ?_).1
    exact ⟨Ar54, cr54, rs54, rfl, S54.p1.drop, (by rw [hp0_54]; simp [hc19])⟩
  · have F62 := F18.sb 17 (by kernel_rfl) hc19
    have F63 := F62.sb 18 (by kernel_rfl) (show (!(ig)) = true by rw [hc19]; rfl)
    refine wp_cond_true (F63.ev (by kernel_rfl)) ?_
    refine wp_region_lit ?_
    refine op_q F63 (.slice (B) (extra.length) (db)) ?_; intro a64 F64
    refine op_q F64 (.slice (B) (extra.length) (db)) ?_; intro a65 F65
    refine wpList_nil ?_
    refine hK9 _ _ ?_; clear hK9 K9
    refine wp_seq_k fun K66 hK66 => ?_
    refine wp_region_lit ?_
    refine op_q F65 (.pointer (some ⟨gp, 0, none⟩)) ?_; intro a67 F67
    refine op_q F67 (.pointer (some ⟨gp, 0, none⟩)) ?_; intro a68 F68
    refine op_q F68 (.pointer (some ⟨gp, 0, none⟩)) ?_; intro a69 F69
    refine op_rq (v := .pointer (some ⟨gm, 0, none⟩)) F69 (r_ld rfl (F69.e (.pointer (some ⟨gp, 0, none⟩))) (v := .pointer (some ⟨gm, 0, none⟩)) ((h5 _ S3.drop).cell 0) Try.underlying186 rfl) ?_; intro a70 F70
    refine op_q F70 (.pointer (some ⟨gm, 0, none⟩)) ?_; intro a71 F71
    refine op_q F71 (.pointer (some ⟨gm, 2, none⟩)) ?_; intro a72 F72
    refine op_rq (v := .slice (A) (cs.length) (d)) F72 (r_ld rfl (F72.e (.pointer (some ⟨gm, 2, none⟩))) (v := .slice (A) (cs.length) (d)) ((h6 _ S3.drop).cell 2) Try.underlying187 rfl) ?_; intro a73 F73
    refine op_q F73 (.slice (A) (cs.length) (d)) ?_; intro a74 F74
    refine wpList_nil ?_
    refine hK66 _ _ ?_; clear hK66 K66
    refine wp_seq_k fun K75 hK75 => ?_
    refine wp_seq_k fun K76 hK76 => ?_
    refine wp_region_lit ?_
    refine op_q F74 (.slice (A) (cs.length) (d)) ?_; intro a77 F77
    refine op_q F77 (.int .i64 (↑cs.length)) ?_; intro a78 F78
    refine op_q F78 (.bool ((↑cs.length : Int) == 0)) ?_; intro a79 F79
    refine op_q F79 (.bool ((↑cs.length : Int) == 0)) ?_; intro a80 F80
    have hc81 : ((↑cs.length : Int) == 0) = false := (beq_eq_false_iff_ne.2 (by omega))
    have F82 := F80.sb 29 (by kernel_rfl) hc81
    have F83 := F82.sb 30 (by kernel_rfl) hc81
    refine op_kq F83 ?_; intro a84 F84
    refine op_kq F84 ?_; intro a85 F85
    refine op_kq F85 ?_; intro a86 F86
    refine op_kq F86 ?_; intro a87 F87
    refine op_kq F87 ?_; intro a88 F88
    refine op_kq F88 ?_; intro a89 F89
    refine op_kq F89 ?_; intro a90 F90
    refine op_kq F90 ?_; intro a91 F91
    refine op_kq F91 ?_; intro a92 F92
    refine op_q F92 (.bool false) ?_; intro a93 F93
    refine wpList_nil ?_
    refine hK76 _ _ ?_; clear hK76 K76
    refine wp_cond_false (F93.ev (by kernel_rfl)) ?_
    refine wp_skip ?_
    refine hK75 _ _ ?_; clear hK75 K75
    refine wp_seq_k fun K94 hK94 => ?_
    refine wp_region_lit ?_
    refine op_rq (v := .agg #[.string os, .string arch, .func (.func 110) #[] #[.pointer (some ⟨gb, 0, none⟩)]]) F93 (r_ldm rfl (F93.e (.pointer (some ⟨g1, 0, none⟩))) (S3.bk 0 rfl) 3 (by kernel_rfl) Try.underlying185 rfl (by kernel_rfl) (v := #[.string os, .string arch, .func (.func 110) #[] #[.pointer (some ⟨gb, 0, none⟩)]]) (by kernel_rfl)) ?_; intro a95 F95
    refine op_q F95 (.slice (A) (cs.length) (d)) ?_; intro a96 F96
    refine op_q F96 (.slice (B) (extra.length) (db)) ?_; intro a97 F97
    refine op_cq F97 (f := 174) (args := #[.agg #[.string os, .string arch, .func (.func 110) #[] #[.pointer (some ⟨gb, 0, none⟩)]], .slice (A) (cs.length) (d), .bool true, .slice (B) (extra.length) (db)]) (prepCmds_some os arch gb A d cs E _ xs B db extra c p0 ps _ _ _ S3 (fun w S => h0 w S.drop) (fun w S => h1 w S.drop) (fun w S => h2 w S.drop) (fun w S => h3 w S.drop) (fun w S => h4 w S.drop) (by first | omega | (simp; done) | (simp; omega)) (by first | omega | (simp; done) | (simp; omega)) (by first | exact hoa) (by first | exact haa) hcz hca hM hpk hps h00 hpz haz (by refine ⟨by omega, by omega, ?_⟩; first | omega | simp)) ?_
    rintro _ w98 ⟨Ar98, cr98, rs98, rfl, S98, hp0_98⟩
    refine ⟨_, rfl, ?_⟩
    intro a99 F99
    refine op_q F99 (.string (exF xs p0 0)) ?_; intro a100 F100
    refine op_q F100 (.slice Ar98 rs98.length cr98) ?_; intro a101 F101
    refine op_q F101 (.nilIface) ?_; intro a102 F102
    refine op_q F102 (.string (exF xs p0 0)) ?_; intro a103 F103
    refine op_q F103 (.slice Ar98 rs98.length cr98) ?_; intro a104 F104
    refine op_q F104 (.nilIface) ?_; intro a105 F105
    refine wpList_nil ?_
    refine hK94 _ _ ?_; clear hK94 K94
    refine wp_ret ?_
    refine (F105.res3 rfl (v := .string (exF xs p0 0)) (by kernel_rfl) (v2 := .slice Ar98 rs98.length cr98) (by kernel_rfl) (v3 := .nilIface) (by kernel_rfl) ?_).1
    exact ⟨Ar98, cr98, rs98, rfl, S98.p1.drop, (by rw [hp0_98]; simp [hc19])⟩
set_option maxRecDepth 100000 in
set_option maxHeartbeats 20000000 in
theorem prepCmd_none (os : ByteArray) (arch : ByteArray) (gb : Nat) (A : Option Addr) (d : Nat) (cs : List Ty110) (E : Option Addr) (ce : Nat) (xs : List Ty108) (B : Option Addr) (db : Nat) (extra : List ByteArray) (gp : Nat) (gm : Nat) (command : ByteArray) (ig : Bool) (R : Ctx) (L : List SA) (w : World) (S : Sp R w (L)) (h0 : Rf R L fun w => Rows w (A) 4 (cs.map Ty110.cells)) (h1 : Rf R L fun w => Blk w (gp) 195 #[.pointer (some ⟨gm, 0, none⟩), .string ⟨#[]⟩]) (h2 : Rf R L fun w => Blk w (gm) 189 #[.string ⟨#[]⟩, .string ⟨#[]⟩, .slice (A) (cs.length) (d), .string (command), .bool (ig)]) (hos : 0 < os.size) (hoz : os.size ≤ 1000000 ∧ arch.size ≤ 1000000) (hoa : ∀ j, bt0 os j ≤ 127) (haa : ∀ j, bt0 arch j ≤ 127) (hcz : ∀ x ∈ cs, x.fOS.size ≤ 1000000 ∧ x.fArch.size ≤ 1000000 ∧ x.fCommand.size ≤ 1000000) (hca : ∀ x ∈ cs, (∀ j, bt0 x.fOS j ≤ 127) ∧ (∀ j, bt0 x.fArch j ≤ 127)) (hcl : 0 < cs.length) (hpk : pickF os arch cs = none) :
    Calls Try.prog 111 #[.pointer (some ⟨gp, 0, none⟩), .agg #[.string os, .string arch, .func (.func 110) #[] #[.pointer (some ⟨gb, 0, none⟩)]], .slice (B) (extra.length) (db)] w fun e w' => ∃ ge : Nat, e = .returned (.tuple #[.string ⟨#[]⟩, .slice none 0 0, .iface 279 (.pointer (some ⟨ge, 0, none⟩))]) ∧ Sp R w' (L) := by
  have hl_cs : cs.length ≤ 9223372036854775807 := by have := (h0 _ S).1; simpa [strs, ptrs] using this
  refine fw_enter (fn := Try.f111) rfl rfl 57 rfl (Nat.le_of_ble_eq_true rfl) ?_
  intro a0 F0
  refine wp_seq_k fun K1 hK1 => ?_
  refine wp_region_lit ?_
  refine op_sq F0 (s_newp F0 185 #[.string os, .string arch, .func (.func 110) #[] #[.pointer (some ⟨gb, 0, none⟩)]] (by kernel_rfl) (by kernel_rfl) (by kernel_rfl) S) ?_
  rintro _ _ w3 ⟨g1, rfl, rfl⟩ S3 a3 F3
  refine op_q F3 (.string ⟨#[]⟩) ?_; intro a4 F4
  refine op_q F4 (.slice none 0 0) ?_; intro a5 F5
  refine op_q F5 (.nilIface) ?_; intro a6 F6
  refine wpList_nil ?_
  refine hK1 _ _ ?_; clear hK1 K1
  refine wp_seq_k fun K7 hK7 => ?_
  refine wp_region_lit ?_
  refine op_q F6 (.slice none 0 0) ?_; intro a8 F8
  refine wpList_nil ?_
  refine hK7 _ _ ?_; clear hK7 K7
  refine wp_seq_k fun K9 hK9 => ?_
  refine wp_seq_k fun K10 hK10 => ?_
  refine wp_region_lit ?_
  refine op_q F8 (.pointer (some ⟨gp, 0, none⟩)) ?_; intro a11 F11
  refine op_q F11 (.pointer (some ⟨gp, 0, none⟩)) ?_; intro a12 F12
  refine op_q F12 (.pointer (some ⟨gp, 0, none⟩)) ?_; intro a13 F13
  refine op_rq (v := .pointer (some ⟨gm, 0, none⟩)) F13 (r_ld rfl (F13.e (.pointer (some ⟨gp, 0, none⟩))) (v := .pointer (some ⟨gm, 0, none⟩)) ((h1 _ S3.drop).cell 0) Try.underlying186 rfl) ?_; intro a14 F14
  refine op_q F14 (.pointer (some ⟨gm, 0, none⟩)) ?_; intro a15 F15
  refine op_q F15 (.pointer (some ⟨gm, 4, none⟩)) ?_; intro a16 F16
  refine op_rq (v := .bool ig) F16 (r_ld rfl (F16.e (.pointer (some ⟨gm, 4, none⟩))) (v := .bool ig) ((h2 _ S3.drop).cell 4) Try.underlying4 rfl) ?_; intro a17 F17
  refine op_q F17 (.bool (!(ig))) ?_; intro a18 F18
  refine wpList_nil ?_
  refine hK10 _ _ ?_; clear hK10 K10
  rcases btf (ig) with hc19 | hc19
  · have F20 := F18.sb 17 (by kernel_rfl) hc19
    have F21 := F20.sb 18 (by kernel_rfl) (show (!(ig)) = false by rw [hc19]; rfl)
    refine wp_cond_false (F21.ev (by kernel_rfl)) ?_
    refine wp_skip ?_
    refine hK9 _ _ ?_; clear hK9 K9
    refine wp_seq_k fun K22 hK22 => ?_
    refine wp_region_lit ?_
    refine op_q F21 (.pointer (some ⟨gp, 0, none⟩)) ?_; intro a23 F23
    refine op_q F23 (.pointer (some ⟨gp, 0, none⟩)) ?_; intro a24 F24
    refine op_q F24 (.pointer (some ⟨gp, 0, none⟩)) ?_; intro a25 F25
    refine op_rq (v := .pointer (some ⟨gm, 0, none⟩)) F25 (r_ld rfl (F25.e (.pointer (some ⟨gp, 0, none⟩))) (v := .pointer (some ⟨gm, 0, none⟩)) ((h1 _ S3.drop).cell 0) Try.underlying186 rfl) ?_; intro a26 F26
    refine op_q F26 (.pointer (some ⟨gm, 0, none⟩)) ?_; intro a27 F27
    refine op_q F27 (.pointer (some ⟨gm, 2, none⟩)) ?_; intro a28 F28
    refine op_rq (v := .slice (A) (cs.length) (d)) F28 (r_ld rfl (F28.e (.pointer (some ⟨gm, 2, none⟩))) (v := .slice (A) (cs.length) (d)) ((h2 _ S3.drop).cell 2) Try.underlying187 rfl) ?_; intro a29 F29
    refine op_q F29 (.slice (A) (cs.length) (d)) ?_; intro a30 F30
    refine wpList_nil ?_
    refine hK22 _ _ ?_; clear hK22 K22
    refine wp_seq_k fun K31 hK31 => ?_
    refine wp_seq_k fun K32 hK32 => ?_
    refine wp_region_lit ?_
    refine op_q F30 (.slice (A) (cs.length) (d)) ?_; intro a33 F33
    refine op_q F33 (.int .i64 (↑cs.length)) ?_; intro a34 F34
    refine op_q F34 (.bool ((↑cs.length : Int) == 0)) ?_; intro a35 F35
    refine op_q F35 (.bool ((↑cs.length : Int) == 0)) ?_; intro a36 F36
    have hc37 : ((↑cs.length : Int) == 0) = false := (beq_eq_false_iff_ne.2 (by omega))
    have F38 := F36.sb 29 (by kernel_rfl) hc37
    have F39 := F38.sb 30 (by kernel_rfl) hc37
    refine op_kq F39 ?_; intro a40 F40
    refine op_kq F40 ?_; intro a41 F41
    refine op_kq F41 ?_; intro a42 F42
    refine op_kq F42 ?_; intro a43 F43
    refine op_kq F43 ?_; intro a44 F44
    refine op_kq F44 ?_; intro a45 F45
    refine op_kq F45 ?_; intro a46 F46
    refine op_kq F46 ?_; intro a47 F47
    refine op_kq F47 ?_; intro a48 F48
    refine op_q F48 (.bool false) ?_; intro a49 F49
    refine wpList_nil ?_
    refine hK32 _ _ ?_; clear hK32 K32
    refine wp_cond_false (F49.ev (by kernel_rfl)) ?_
    refine wp_skip ?_
    refine hK31 _ _ ?_; clear hK31 K31
    refine wp_seq_k fun K50 hK50 => ?_
    refine wp_region_lit ?_
    refine op_rq (v := .agg #[.string os, .string arch, .func (.func 110) #[] #[.pointer (some ⟨gb, 0, none⟩)]]) F49 (r_ldm rfl (F49.e (.pointer (some ⟨g1, 0, none⟩))) (S3.bk 0 rfl) 3 (by kernel_rfl) Try.underlying185 rfl (by kernel_rfl) (v := #[.string os, .string arch, .func (.func 110) #[] #[.pointer (some ⟨gb, 0, none⟩)]]) (by kernel_rfl)) ?_; intro a51 F51
    refine op_q F51 (.slice (A) (cs.length) (d)) ?_; intro a52 F52
    refine op_q F52 (.slice none 0 0) ?_; intro a53 F53
    refine op_cq F53 (f := 174) (args := #[.agg #[.string os, .string arch, .func (.func 110) #[] #[.pointer (some ⟨gb, 0, none⟩)]], .slice (A) (cs.length) (d), .bool true, .slice none 0 0]) (prepCmds_none os arch gb A d cs none 0 ([]) none 0 ([]) _ _ _ S3 (fun w S => h0 w S.drop) (by first | omega | (simp; done) | (simp; omega)) (by first | omega | (simp; done) | (simp; omega)) (by first | exact hoa) (by first | exact haa) hcz hca hpk) ?_
    rintro _ w54 ⟨ge54, rfl, S54⟩
    refine ⟨_, rfl, ?_⟩
    intro a55 F55
    refine op_q F55 (.string ⟨#[]⟩) ?_; intro a56 F56
    refine op_q F56 (.slice none 0 0) ?_; intro a57 F57
    refine op_q F57 (.iface 279 (.pointer (some ⟨ge54, 0, none⟩))) ?_; intro a58 F58
    refine op_q F58 (.string ⟨#[]⟩) ?_; intro a59 F59
    refine op_q F59 (.slice none 0 0) ?_; intro a60 F60
    refine op_q F60 (.iface 279 (.pointer (some ⟨ge54, 0, none⟩))) ?_; intro a61 F61
    refine wpList_nil ?_
    refine hK50 _ _ ?_; clear hK50 K50
    refine wp_ret ?_
    refine (F61.res3 rfl (v := .string ⟨#[]⟩) (by kernel_rfl) (v2 := .slice none 0 0) (by kernel_rfl) (v3 := .iface 279 (.pointer (some ⟨ge54, 0, none⟩))) (by kernel_rfl) ?_).1
    exact ⟨ge54, rfl, S54.drop⟩
  · have F62 := F18.sb 17 (by kernel_rfl) hc19
    have F63 := F62.sb 18 (by kernel_rfl) (show (!(ig)) = true by rw [hc19]; rfl)
    refine wp_cond_true (F63.ev (by kernel_rfl)) ?_
    refine wp_region_lit ?_
    refine op_q F63 (.slice (B) (extra.length) (db)) ?_; intro a64 F64
    refine op_q F64 (.slice (B) (extra.length) (db)) ?_; intro a65 F65
    refine wpList_nil ?_
    refine hK9 _ _ ?_; clear hK9 K9
    refine wp_seq_k fun K66 hK66 => ?_
    refine wp_region_lit ?_
    refine op_q F65 (.pointer (some ⟨gp, 0, none⟩)) ?_; intro a67 F67
    refine op_q F67 (.pointer (some ⟨gp, 0, none⟩)) ?_; intro a68 F68
    refine op_q F68 (.pointer (some ⟨gp, 0, none⟩)) ?_; intro a69 F69
    refine op_rq (v := .pointer (some ⟨gm, 0, none⟩)) F69 (r_ld rfl (F69.e (.pointer (some ⟨gp, 0, none⟩))) (v := .pointer (some ⟨gm, 0, none⟩)) ((h1 _ S3.drop).cell 0) Try.underlying186 rfl) ?_; intro a70 F70
    refine op_q F70 (.pointer (some ⟨gm, 0, none⟩)) ?_; intro a71 F71
    refine op_q F71 (.pointer (some ⟨gm, 2, none⟩)) ?_; intro a72 F72
    refine op_rq (v := .slice (A) (cs.length) (d)) F72 (r_ld rfl (F72.e (.pointer (some ⟨gm, 2, none⟩))) (v := .slice (A) (cs.length) (d)) ((h2 _ S3.drop).cell 2) Try.underlying187 rfl) ?_; intro a73 F73
    refine op_q F73 (.slice (A) (cs.length) (d)) ?_; intro a74 F74
    refine wpList_nil ?_
    refine hK66 _ _ ?_; clear hK66 K66
    refine wp_seq_k fun K75 hK75 => ?_
    refine wp_seq_k fun K76 hK76 => ?_
    refine wp_region_lit ?_
    refine op_q F74 (.slice (A) (cs.length) (d)) ?_; intro a77 F77
    refine op_q F77 (.int .i64 (↑cs.length)) ?_; intro a78 F78
    refine op_q F78 (.bool ((↑cs.length : Int) == 0)) ?_; intro a79 F79
    refine op_q F79 (.bool ((↑cs.length : Int) == 0)) ?_; intro a80 F80
    have hc81 : ((↑cs.length : Int) == 0) = false := (beq_eq_false_iff_ne.2 (by omega))
    have F82 := F80.sb 29 (by kernel_rfl) hc81
    have F83 := F82.sb 30 (by kernel_rfl) hc81
    refine op_kq F83 ?_; intro a84 F84
    refine op_kq F84 ?_; intro a85 F85
    refine op_kq F85 ?_; intro a86 F86
    refine op_kq F86 ?_; intro a87 F87
    refine op_kq F87 ?_; intro a88 F88
    refine op_kq F88 ?_; intro a89 F89
    refine op_kq F89 ?_; intro a90 F90
    refine op_kq F90 ?_; intro a91 F91
    refine op_kq F91 ?_; intro a92 F92
    refine op_q F92 (.bool false) ?_; intro a93 F93
    refine wpList_nil ?_
    refine hK76 _ _ ?_; clear hK76 K76
    refine wp_cond_false (F93.ev (by kernel_rfl)) ?_
    refine wp_skip ?_
    refine hK75 _ _ ?_; clear hK75 K75
    refine wp_seq_k fun K94 hK94 => ?_
    refine wp_region_lit ?_
    refine op_rq (v := .agg #[.string os, .string arch, .func (.func 110) #[] #[.pointer (some ⟨gb, 0, none⟩)]]) F93 (r_ldm rfl (F93.e (.pointer (some ⟨g1, 0, none⟩))) (S3.bk 0 rfl) 3 (by kernel_rfl) Try.underlying185 rfl (by kernel_rfl) (v := #[.string os, .string arch, .func (.func 110) #[] #[.pointer (some ⟨gb, 0, none⟩)]]) (by kernel_rfl)) ?_; intro a95 F95
    refine op_q F95 (.slice (A) (cs.length) (d)) ?_; intro a96 F96
    refine op_q F96 (.slice (B) (extra.length) (db)) ?_; intro a97 F97
    refine op_cq F97 (f := 174) (args := #[.agg #[.string os, .string arch, .func (.func 110) #[] #[.pointer (some ⟨gb, 0, none⟩)]], .slice (A) (cs.length) (d), .bool true, .slice (B) (extra.length) (db)]) (prepCmds_none os arch gb A d cs none 0 ([]) B db extra _ _ _ S3 (fun w S => h0 w S.drop) (by first | omega | (simp; done) | (simp; omega)) (by first | omega | (simp; done) | (simp; omega)) (by first | exact hoa) (by first | exact haa) hcz hca hpk) ?_
    rintro _ w98 ⟨ge98, rfl, S98⟩
    refine ⟨_, rfl, ?_⟩
    intro a99 F99
    refine op_q F99 (.string ⟨#[]⟩) ?_; intro a100 F100
    refine op_q F100 (.slice none 0 0) ?_; intro a101 F101
    refine op_q F101 (.iface 279 (.pointer (some ⟨ge98, 0, none⟩))) ?_; intro a102 F102
    refine op_q F102 (.string ⟨#[]⟩) ?_; intro a103 F103
    refine op_q F103 (.slice none 0 0) ?_; intro a104 F104
    refine op_q F104 (.iface 279 (.pointer (some ⟨ge98, 0, none⟩))) ?_; intro a105 F105
    refine wpList_nil ?_
    refine hK94 _ _ ?_; clear hK94 K94
    refine wp_ret ?_
    refine (F105.res3 rfl (v := .string ⟨#[]⟩) (by kernel_rfl) (v2 := .slice none 0 0) (by kernel_rfl) (v3 := .iface 279 (.pointer (some ⟨ge98, 0, none⟩))) (by kernel_rfl) ?_).1
    exact ⟨ge98, rfl, S98.drop⟩
set_option maxRecDepth 100000 in
set_option maxHeartbeats 20000000 in
theorem plugCmd_some (os : ByteArray) (arch : ByteArray) (E : Option Addr) (ce : Nat) (xs : List Ty108) (A : Option Addr) (d : Nat) (cs : List Ty110) (command : ByteArray) (ig : Bool) (B : Option Addr) (db : Nat) (extra : List ByteArray) (c : Ty110) (p0 : ByteArray) (ps : List ByteArray) (R : Ctx) (L : List SA) (w : World) (S : Sp R w (L)) (h0 : Rf R L fun w => Rows w (E) 2 (xs.map Ty108.cells)) (h1 : Rf R L fun w => Rows w (A) 4 (cs.map Ty110.cells)) (h2 : Rf R L fun w => Sl w (B) (strs extra)) (h3 : Rf R L fun w => Sl w (c.fArgs_a) (strs c.fArgs)) (hos : 0 < os.size) (hoz : os.size ≤ 1000000 ∧ arch.size ≤ 1000000) (hoa : ∀ j, bt0 os j ≤ 127) (haa : ∀ j, bt0 arch j ≤ 127) (hcz : ∀ x ∈ cs, x.fOS.size ≤ 1000000 ∧ x.fArch.size ≤ 1000000 ∧ x.fCommand.size ≤ 1000000) (hca : ∀ x ∈ cs, (∀ j, bt0 x.fOS j ≤ 127) ∧ (∀ j, bt0 x.fArch j ≤ 127)) (hM : ∀ x ∈ xs, x.fText.size ≤ 2147483647) (hcl : 0 < cs.length) (hcb : cs.length ≤ 10000) (hpk : pickF os arch cs = some c) (hps : partsF c = p0 :: ps) (h00 : 0 < p0.size) (hpz : ∀ s ∈ p0 :: ps, s.size ≤ 1000) (haz : ∀ s ∈ c.fArgs, s.size ≤ 1000) (hn : ps.length ≤ 10000 ∧ c.fArgs.length ≤ 10000 ∧ extra.length ≤ 10000) :
    Calls Try.prog 56 #[.string os, .string arch, .slice (E) (xs.length) (ce), .slice (A) (cs.length) (d), .string command, .bool ig, .slice (B) (extra.length) (db)] w fun e w' => ∃ Ar : Option Addr, ∃ cr : Nat, ∃ rs : List ByteArray, e = .returned (.tuple #[.string (exF xs p0 0), .slice Ar rs.length cr, .int .i64 0]) ∧ Sp R w' (SA.own (.slice Ar rs.length cr) 9 1 rs.length (strs rs) :: L) ∧ (rs = exs xs (ps ++ c.fArgs) ++ (if ig then [] else extra)) := by
  have hl_xs : xs.length ≤ 9223372036854775807 := by have := (h0 _ S).1; simpa [strs, ptrs] using this
  have hl_cs : cs.length ≤ 9223372036854775807 := by have := (h1 _ S).1; simpa [strs, ptrs] using this
  have hl_extra : extra.length ≤ 9223372036854775807 := by have := (h2 _ S).1; simpa [strs, ptrs] using this
  have hcl := hcl
  refine fw_enterD (fn := Try.f56) rfl rfl 70 rfl (Nat.le_of_ble_eq_true rfl) ?_
  intro a0 F0
  refine wp_seq_k fun K1 hK1 => ?_
  refine wp_region_lit ?_
  refine op_sq F0 (s_newp F0 40 #[.slice (E) (xs.length) (ce)] (by kernel_rfl) (by kernel_rfl) (by kernel_rfl) S) ?_
  rintro _ _ w3 ⟨g1, rfl, rfl⟩ S3 a3 F3
  refine op_sq F3 (s_newp F3 9 #[.string ⟨#[]⟩] (by kernel_rfl) (by kernel_rfl) (by kernel_rfl) S3) ?_
  rintro _ _ w5 ⟨g3, rfl, rfl⟩ S5 a5 F5
  refine op_sq F5 (s_newp F5 22 #[.slice none 0 0] (by kernel_rfl) (by kernel_rfl) (by kernel_rfl) S5) ?_
  rintro _ _ w7 ⟨g5, rfl, rfl⟩ S7 a7 F7
  refine op_sq F7 (s_newp F7 3 #[.int .i64 0] (by kernel_rfl) (by kernel_rfl) (by kernel_rfl) S7) ?_
  rintro _ _ w9 ⟨g7, rfl, rfl⟩ S9 a9 F9
  refine wpList_nil ?_
  refine hK1 _ _ ?_; clear hK1 K1
  refine wp_seq_k fun K10 hK10 => ?_
  refine wp_region_lit ?_
  refine op_q F9 (.func (.func 109) #[] #[.pointer (some ⟨g3, 0, none⟩), .pointer (some ⟨g5, 0, none⟩), .pointer (some ⟨g7, 0, none⟩)]) ?_; intro a11 F11
  refine op_defer F11 ({ target := .fn (.func 109) #[.pointer (some ⟨g3, 0, none⟩), .pointer (some ⟨g5, 0, none⟩), .pointer (some ⟨g7, 0, none⟩)], args := #[] }) (by kernel_rfl) (by kernel_rfl) rfl rfl rfl ?_; intro a12 F12
  refine wpList_nil ?_
  refine hK10 _ _ ?_; clear hK10 K10
  refine wp_seq_k fun K13 hK13 => ?_
  refine wp_region_lit ?_
  refine op_q F12 (.string os) ?_; intro a14 F14
  refine op_q F14 (.string arch) ?_; intro a15 F15
  refine op_q F15 (.func (.func 110) #[] #[.pointer (some ⟨g1, 0, none⟩)]) ?_; intro a16 F16
  refine op_q F16 (.agg #[.string os, .string arch, .func (.func 110) #[] #[.pointer (some ⟨g1, 0, none⟩)]]) ?_; intro a17 F17
  refine op_sq F17 (s_newp F17 185 #[.string ⟨#[]⟩, .string ⟨#[]⟩, .nilFunc] (by kernel_rfl) (by kernel_rfl) (by kernel_rfl) S9) ?_
  rintro _ _ w19 ⟨g17, rfl, rfl⟩ S19 a19 F19
  refine op_sq0 F19 (s_stb rfl (F19.e (.pointer (some ⟨g17, 0, none⟩))) (F19.e (.agg #[.string os, .string arch, .func (.func 110) #[] #[.pointer (some ⟨g1, 0, none⟩)]])) S19 (by kernel_rfl) rfl (by kernel_rfl)) ?_
  rintro _ _ w20 rfl S20 F20
  refine wpList_nil ?_
  refine hK13 _ _ ?_; clear hK13 K13
  refine wp_seq_k fun K21 hK21 => ?_
  refine wp_region_lit ?_
  refine op_q F20 (.string command) ?_; intro a22 F22
  refine op_q F22 (.bool ig) ?_; intro a23 F23
  refine op_q F23 (.agg #[.string ⟨#[]⟩, .string ⟨#[]⟩, .slice none 0 0, .string command, .bool ig]) ?_; intro a24 F24
  refine op_sq F24 (s_newp F24 189 #[.string ⟨#[]⟩, .string ⟨#[]⟩, .slice none 0 0, .string command, .bool ig] (by kernel_rfl) (by kernel_rfl) (by kernel_rfl) S20) ?_
  rintro _ _ w26 ⟨g24, rfl, rfl⟩ S26 a26 F26
  refine op_q F26 (.pointer (some ⟨g24, 0, none⟩)) ?_; intro a27 F27
  refine wpList_nil ?_
  refine hK21 _ _ ?_; clear hK21 K21
  refine wp_seq_k fun K28 hK28 => ?_
  refine wp_seq_k fun K29 hK29 => ?_
  refine wp_region_lit ?_
  refine op_q F27 (.slice (A) (cs.length) (d)) ?_; intro a30 F30
  refine op_q F30 (.int .i64 (↑cs.length)) ?_; intro a31 F31
  refine op_q F31 (.int .i64 0) ?_; intro a32 F32
  refine wpList_nil ?_
  refine hK29 _ _ ?_; clear hK29 K29
  refine wp_block ?_
  have S33 := Sp.nilown (e := 191) (sz := 4) S26
  refine fw_loop (fun m a' w' => ∃ Ap : Option Addr, ∃ cp : Nat, ∃ k : Nat, cs.length - k = m ∧ Fr 70 [{ target := .fn (.func 109) #[.pointer (some ⟨g3, 0, none⟩), .pointer (some ⟨g5, 0, none⟩), .pointer (some ⟨g7, 0, none⟩)], args := #[] }] a' [(6, .slice (B) (extra.length) (db)), (14, .pointer (some ⟨g3, 0, none⟩)), (15, .pointer (some ⟨g5, 0, none⟩)), (16, .pointer (some ⟨g7, 0, none⟩)), (17, .pointer (some ⟨g17, 0, none⟩)), (18, .pointer (some ⟨g24, 0, none⟩)), (31, .slice (A) (cs.length) (d)), (32, .int .i64 (↑cs.length)), (33, .int .i64 (↑k))] ∧ Sp R w' (SA.blk g17 185 #[.string os, .string arch, .func (.func 110) #[] #[.pointer (some ⟨g1, 0, none⟩)]] :: SA.blk g7 3 #[.int .i64 0] :: SA.blk g5 22 #[.slice none 0 0] :: SA.blk g3 9 #[.string ⟨#[]⟩] :: SA.blk g1 40 #[.slice (E) (xs.length) (ce)] :: SA.blk g24 189 #[.string ⟨#[]⟩, .string ⟨#[]⟩, .slice Ap k cp, .string command, .bool ig] :: SA.own (.slice Ap k cp) 191 4 k (flatC Ty110.cells (cs.take k)) :: L) ∧ (k ≤ cs.length)) _ ⟨none, 0, 0, rfl, (F32.kk 6 (F32.kk 14 (F32.kk 15 (F32.kk 16 (F32.kk 17 (F32.kk 18 (F32.kk 31 (F32.kk 32 (F32.kk 33 F32.nil))))))))), S33.p1.p6.p6.p6.p6.p6, (by first | omega | (with_reducible assumption) | (simp; done))⟩ ?_
  rintro m34 a34 w34 ⟨Ap, cp, k, hm34, F34, S34, hk⟩ K34 hK34
  by_cases hlt_k : k < cs.length
  · have hc_k : decide ((↑k : Int) < ↑cs.length) = true := by first | (simp; done) | (simp; omega)
    obtain ⟨ad35, hA35⟩ := (h1 _ S34.drop.drop.drop.drop.drop.drop.drop).addr (by simp; omega)
    refine wp_seq_k fun K36 hK36 => ?_
    refine wp_region_lit ?_
    refine op_q F34 (.bool (decide ((↑k : Int) < ↑cs.length))) ?_; intro a37 F37
    have F38 := F37.sb 34 (by kernel_rfl) hc_k
    refine wpList_nil ?_
    refine hK36 _ _ ?_; clear hK36 K36
    refine wp_seq_k fun K39 hK39 => ?_
    refine wp_cond_true (F38.ev (by kernel_rfl)) ?_
    refine wp_skip ?_
    refine hK39 _ _ ?_; clear hK39 K39
    refine wp_seq_k fun K40 hK40 => ?_
    refine wp_block ?_
    refine wp_seq_k fun K41 hK41 => ?_
    refine wp_region_lit ?_
    refine op_rq (v := .pointer (some (ad35.add (k * 4)))) F38 (r_ix rfl Try.underlying105 4 (by kernel_rfl) (F38.e (.slice (A) (cs.length) (d))) hA35 (F38.e (.int .i64 (↑k))) k (by first | rfl | omega | simp) (by first | omega | (simp; done) | (simp; omega)) (rfl)) ?_; intro a42 F42
    refine op_rq (v := .agg #[.string cs[k].fOS, .string cs[k].fArch, .string cs[k].fCommand, .slice cs[k].fArgs_a cs[k].fArgs.length cs[k].fArgs_c]) F42 (r_ldR rfl (F42.e (.pointer (some (ad35.add (k * 4))))) (cs := [.string cs[k].fOS, .string cs[k].fArch, .string cs[k].fCommand, .slice cs[k].fArgs_a cs[k].fArgs.length cs[k].fArgs_c]) ((h1 _ S34.drop.drop.drop.drop.drop.drop.drop).elA hA35 (j := k) (row := cs[k].cells) (by rw [List.getElem?_map, List.getElem?_eq_getElem hlt_k]; rfl)) Try.underlying110 rfl (by kernel_rfl) (v := #[.string cs[k].fOS, .string cs[k].fArch, .string cs[k].fCommand, .slice cs[k].fArgs_a cs[k].fArgs.length cs[k].fArgs_c]) (by kernel_rfl)) ?_; intro a43 F43
    refine op_sq F43 (s_newp F43 110 #[.string ⟨#[]⟩, .string ⟨#[]⟩, .string ⟨#[]⟩, .slice none 0 0] (by kernel_rfl) (by kernel_rfl) (by kernel_rfl) S34) ?_
    rintro _ _ w45 ⟨g43, rfl, rfl⟩ S45 a45 F45
    refine op_sq0 F45 (s_stb rfl (F45.e (.pointer (some ⟨g43, 0, none⟩))) (F45.e (.agg #[.string cs[k].fOS, .string cs[k].fArch, .string cs[k].fCommand, .slice cs[k].fArgs_a cs[k].fArgs.length cs[k].fArgs_c])) S45 (by kernel_rfl) rfl (by kernel_rfl)) ?_
    rintro _ _ w46 rfl S46 F46
    refine wpList_nil ?_
    refine hK41 _ _ ?_; clear hK41 K41
    refine wp_region_sepD (L0 := SA.blk g43 110 #[.string cs[k].fOS, .string cs[k].fArch, .string cs[k].fCommand, .slice cs[k].fArgs_a cs[k].fArgs.length cs[k].fArgs_c] :: SA.blk g17 185 #[.string os, .string arch, .func (.func 110) #[] #[.pointer (some ⟨g1, 0, none⟩)]] :: SA.blk g7 3 #[.int .i64 0] :: SA.blk g5 22 #[.slice none 0 0] :: SA.blk g3 9 #[.string ⟨#[]⟩] :: SA.blk g1 40 #[.slice (E) (xs.length) (ce)] :: SA.blk g24 189 #[.string ⟨#[]⟩, .string ⟨#[]⟩, .slice Ap k cp, .string command, .bool ig] :: L) [some [], some [], some [(1, 38)], some [(1, 38), (2, 39)], some [(1, 38), (2, 39), (3, 40)], some [], some [(5, 42)], some [], some [(7, 44)], some [], some [(9, 46)], some [], some [(11, 48)], some [(5, 42), (6, 43), (7, 44), (8, 45), (9, 46), (10, 47), (11, 48), (12, 49)], some [(5, 42), (6, 43), (7, 44), (8, 45), (9, 46), (10, 47), (11, 48), (12, 49), (13, 50)], some [(1, 38), (2, 39), (3, 40), (4, 41), (5, 42), (6, 43), (7, 44), (8, 45), (9, 46), (10, 47), (11, 48), (12, 49), (13, 50), (14, 51)], some [(0, 37)], some [(0, 37), (16, 53)], none] [(SA.emp, fun _ v A => v = .pointer (some ⟨g24, 0, none⟩) ∧ A = SA.emp), (SA.emp, fun _ v A => v = .pointer (some ⟨g24, 0, none⟩) ∧ A = SA.emp), (SA.emp, fun _ v A => v = .pointer (some ⟨g24, 0, none⟩) ∧ A = SA.emp), (SA.emp, fun _ v A => v = .pointer (some ⟨g24, 2, none⟩) ∧ A = SA.emp), (SA.emp, fun _ v A => v = .slice Ap k cp ∧ A = SA.emp), (SA.emp, fun _ v A => v = .pointer (some ⟨g43, 0, none⟩) ∧ A = SA.emp), (SA.emp, fun _ v A => v = .string cs[k].fOS ∧ A = SA.emp), (SA.emp, fun _ v A => v = .pointer (some ⟨g43, 1, none⟩) ∧ A = SA.emp), (SA.emp, fun _ v A => v = .string cs[k].fArch ∧ A = SA.emp), (SA.emp, fun _ v A => v = .pointer (some ⟨g43, 2, none⟩) ∧ A = SA.emp), (SA.emp, fun _ v A => v = .string cs[k].fCommand ∧ A = SA.emp), (SA.emp, fun _ v A => v = .pointer (some ⟨g43, 3, none⟩) ∧ A = SA.emp), (SA.emp, fun _ v A => v = .slice cs[k].fArgs_a cs[k].fArgs.length cs[k].fArgs_c ∧ A = SA.emp), (SA.emp, fun _ v A => v = .agg #[.string cs[k].fOS, .string cs[k].fArch, .string cs[k].fCommand, .slice cs[k].fArgs_a cs[k].fArgs.length cs[k].fArgs_c] ∧ A = SA.emp), (SA.emp, fun _ v A => ∃ g151 : Nat, v = .slice (some ⟨g151, 0, none⟩) 1 1 ∧ A = SA.blk g151 191 #[.string cs[k].fOS, .string cs[k].fArch, .string cs[k].fCommand, .slice cs[k].fArgs_a cs[k].fArgs.length cs[k].fArgs_c]), (SA.own (.slice Ap k cp) 191 4 k (flatC Ty110.cells (cs.take k)), fun _ v A => ∃ A167 : Option Addr, ∃ c167 : Nat, v = .slice A167 (k + 1) c167 ∧ A = SA.own (.slice A167 (k + 1) c167) 191 4 (k + 1) (flatC Ty110.cells (cs.take (k + 1)))), (SA.emp, fun _ v A => v = .pointer (some ⟨g24, 0, none⟩) ∧ A = SA.emp), (SA.emp, fun _ v A => v = .pointer (some ⟨g24, 2, none⟩) ∧ A = SA.emp), (SA.emp, fun _ _ A => A = SA.emp)] 70 [] rfl F46.size rfl (by kernel_rfl) (by kernel_rfl) S46.p7.emp.emp.emp.emp.emp.emp.emp.emp.emp.emp.emp.emp.emp.emp.emp.emp.emp.p1.p17.p3.p4.p5.p6.p7.p8.p9.p10.p11.p12.p13.p14.p15.p16.p17 ?_ ?_
    · refine ⟨?_, ?_, ?_, ?_, ?_, ?_, ?_, ?_, ?_, ?_, ?_, ?_, ?_, ?_, ?_, ?_, ?_, ?_, trivial⟩
      · intro w110 M110
        refine depsD_nil ?_
        intro S110
        refine obl_of (by rfl) ?_
        exact s_p F46 (v := .pointer (some ⟨g24, 0, none⟩)) (by kernel_rfl) (by kernel_rfl) (by kernel_rfl) S110
      · intro w111 M111
        refine depsD_nil ?_
        intro S111
        refine obl_of (by rfl) ?_
        exact s_p F46 (v := .pointer (some ⟨g24, 0, none⟩)) (by kernel_rfl) (by kernel_rfl) (by kernel_rfl) S111
      · intro w112 M112
        rintro _ _ ⟨rfl, rfl⟩ hA113
        have F113 := F46.put (d := 38) (v := .pointer (some ⟨g24, 0, none⟩)) (by decide)
        refine depsD_nil ?_
        intro S112
        refine obl_of (by rfl) ?_
        exact s_p F113 (v := .pointer (some ⟨g24, 0, none⟩)) (by kernel_rfl) (by kernel_rfl) (by kernel_rfl) S112
      · intro w114 M114
        rintro _ _ ⟨rfl, rfl⟩ hA115
        have F115 := F46.put (d := 38) (v := .pointer (some ⟨g24, 0, none⟩)) (by decide)
        rintro _ _ ⟨rfl, rfl⟩ hA116
        have F116 := F115.put (d := 39) (v := .pointer (some ⟨g24, 0, none⟩)) (by decide)
        refine depsD_nil ?_
        intro S114
        refine obl_of (by rfl) ?_
        exact s_p F116 (v := .pointer (some ⟨g24, 2, none⟩)) (by kernel_rfl) (by kernel_rfl) (by kernel_rfl) S114
      · intro w117 M117
        rintro _ _ ⟨rfl, rfl⟩ hA118
        have F118 := F46.put (d := 38) (v := .pointer (some ⟨g24, 0, none⟩)) (by decide)
        rintro _ _ ⟨rfl, rfl⟩ hA119
        have F119 := F118.put (d := 39) (v := .pointer (some ⟨g24, 0, none⟩)) (by decide)
        rintro _ _ ⟨rfl, rfl⟩ hA120
        have F120 := F119.put (d := 40) (v := .pointer (some ⟨g24, 2, none⟩)) (by decide)
        refine depsD_nil ?_
        intro S117
        refine obl_of (by rfl) ?_
        exact s_r (v := .slice Ap k cp) (r_ld rfl (F120.e (.pointer (some ⟨g24, 2, none⟩))) (v := .slice Ap k cp) (((Sp.dropM S117.drop).bk 6 rfl).cell 2) Try.underlying187 rfl) S117
      · intro w121 M121
        refine depsD_nil ?_
        intro S121
        refine obl_of (by rfl) ?_
        exact s_p F46 (v := .pointer (some ⟨g43, 0, none⟩)) (by kernel_rfl) (by kernel_rfl) (by kernel_rfl) S121
      · intro w122 M122
        rintro _ _ ⟨rfl, rfl⟩ hA123
        have F123 := F46.put (d := 42) (v := .pointer (some ⟨g43, 0, none⟩)) (by decide)
        refine depsD_nil ?_
        intro S122
        refine obl_of (by rfl) ?_
        exact s_r (v := .string cs[k].fOS) (r_ld rfl (F123.e (.pointer (some ⟨g43, 0, none⟩))) (v := .string cs[k].fOS) (((Sp.dropM S122.drop).bk 0 rfl).cell 0) Try.underlying9 rfl) S122
      · intro w124 M124
        refine depsD_nil ?_
        intro S124
        refine obl_of (by rfl) ?_
        exact s_p F46 (v := .pointer (some ⟨g43, 1, none⟩)) (by kernel_rfl) (by kernel_rfl) (by kernel_rfl) S124
      · intro w125 M125
        rintro _ _ ⟨rfl, rfl⟩ hA126
        have F126 := F46.put (d := 44) (v := .pointer (some ⟨g43, 1, none⟩)) (by decide)
        refine depsD_nil ?_
        intro S125
        refine obl_of (by rfl) ?_
        exact s_r (v := .string cs[k].fArch) (r_ld rfl (F126.e (.pointer (some ⟨g43, 1, none⟩))) (v := .string cs[k].fArch) (((Sp.dropM S125.drop).bk 0 rfl).cell 1) Try.underlying9 rfl) S125
      · intro w127 M127
        refine depsD_nil ?_
        intro S127
        refine obl_of (by rfl) ?_
        exact s_p F46 (v := .pointer (some ⟨g43, 2, none⟩)) (by kernel_rfl) (by kernel_rfl) (by kernel_rfl) S127
      · intro w128 M128
        rintro _ _ ⟨rfl, rfl⟩ hA129
        have F129 := F46.put (d := 46) (v := .pointer (some ⟨g43, 2, none⟩)) (by decide)
        refine depsD_nil ?_
        intro S128
        refine obl_of (by rfl) ?_
        exact s_r (v := .string cs[k].fCommand) (r_ld rfl (F129.e (.pointer (some ⟨g43, 2, none⟩))) (v := .string cs[k].fCommand) (((Sp.dropM S128.drop).bk 0 rfl).cell 2) Try.underlying9 rfl) S128
      · intro w130 M130
        refine depsD_nil ?_
        intro S130
        refine obl_of (by rfl) ?_
        exact s_p F46 (v := .pointer (some ⟨g43, 3, none⟩)) (by kernel_rfl) (by kernel_rfl) (by kernel_rfl) S130
      · intro w131 M131
        rintro _ _ ⟨rfl, rfl⟩ hA132
        have F132 := F46.put (d := 48) (v := .pointer (some ⟨g43, 3, none⟩)) (by decide)
        refine depsD_nil ?_
        intro S131
        refine obl_of (by rfl) ?_
        exact s_r (v := .slice cs[k].fArgs_a cs[k].fArgs.length cs[k].fArgs_c) (r_ld rfl (F132.e (.pointer (some ⟨g43, 3, none⟩))) (v := .slice cs[k].fArgs_a cs[k].fArgs.length cs[k].fArgs_c) (((Sp.dropM S131.drop).bk 0 rfl).cell 3) Try.underlying22 rfl) S131
      · intro w133 M133
        rintro _ _ ⟨rfl, rfl⟩ hA134
        have F134 := F46.put (d := 42) (v := .pointer (some ⟨g43, 0, none⟩)) (by decide)
        rintro _ _ ⟨rfl, rfl⟩ hA135
        have F135 := F134.put (d := 43) (v := .string cs[k].fOS) (by decide)
        rintro _ _ ⟨rfl, rfl⟩ hA136
        have F136 := F135.put (d := 44) (v := .pointer (some ⟨g43, 1, none⟩)) (by decide)
        rintro _ _ ⟨rfl, rfl⟩ hA137
        have F137 := F136.put (d := 45) (v := .string cs[k].fArch) (by decide)
        rintro _ _ ⟨rfl, rfl⟩ hA138
        have F138 := F137.put (d := 46) (v := .pointer (some ⟨g43, 2, none⟩)) (by decide)
        rintro _ _ ⟨rfl, rfl⟩ hA139
        have F139 := F138.put (d := 47) (v := .string cs[k].fCommand) (by decide)
        rintro _ _ ⟨rfl, rfl⟩ hA140
        have F140 := F139.put (d := 48) (v := .pointer (some ⟨g43, 3, none⟩)) (by decide)
        rintro _ _ ⟨rfl, rfl⟩ hA141
        have F141 := F140.put (d := 49) (v := .slice cs[k].fArgs_a cs[k].fArgs.length cs[k].fArgs_c) (by decide)
        refine depsD_nil ?_
        intro S133
        refine obl_of (by rfl) ?_
        exact s_p F141 (v := .agg #[.string cs[k].fOS, .string cs[k].fArch, .string cs[k].fCommand, .slice cs[k].fArgs_a cs[k].fArgs.length cs[k].fArgs_c]) (by kernel_rfl) (by kernel_rfl) (by kernel_rfl) S133
      · intro w142 M142
        rintro _ _ ⟨rfl, rfl⟩ hA143
        have F143 := F46.put (d := 42) (v := .pointer (some ⟨g43, 0, none⟩)) (by decide)
        rintro _ _ ⟨rfl, rfl⟩ hA144
        have F144 := F143.put (d := 43) (v := .string cs[k].fOS) (by decide)
        rintro _ _ ⟨rfl, rfl⟩ hA145
        have F145 := F144.put (d := 44) (v := .pointer (some ⟨g43, 1, none⟩)) (by decide)
        rintro _ _ ⟨rfl, rfl⟩ hA146
        have F146 := F145.put (d := 45) (v := .string cs[k].fArch) (by decide)
        rintro _ _ ⟨rfl, rfl⟩ hA147
        have F147 := F146.put (d := 46) (v := .pointer (some ⟨g43, 2, none⟩)) (by decide)
        rintro _ _ ⟨rfl, rfl⟩ hA148
        have F148 := F147.put (d := 47) (v := .string cs[k].fCommand) (by decide)
        rintro _ _ ⟨rfl, rfl⟩ hA149
        have F149 := F148.put (d := 48) (v := .pointer (some ⟨g43, 3, none⟩)) (by decide)
        rintro _ _ ⟨rfl, rfl⟩ hA150
        have F150 := F149.put (d := 49) (v := .slice cs[k].fArgs_a cs[k].fArgs.length cs[k].fArgs_c) (by decide)
        rintro _ _ ⟨rfl, rfl⟩ hA151
        have F151 := F150.put (d := 50) (v := .agg #[.string cs[k].fOS, .string cs[k].fArch, .string cs[k].fCommand, .slice cs[k].fArgs_a cs[k].fArgs.length cs[k].fArgs_c]) (by decide)
        refine depsD_nil ?_
        intro S142
        refine obl_of (by rfl) ?_
        exact s_news F151 191 #[.string cs[k].fOS, .string cs[k].fArch, .string cs[k].fCommand, .slice cs[k].fArgs_a cs[k].fArgs.length cs[k].fArgs_c] 1 (by kernel_rfl) (by kernel_rfl) (by kernel_rfl) S142.drop
      · intro w152 M152
        rintro _ _ ⟨rfl, rfl⟩ hA153
        have F153 := F46.put (d := 38) (v := .pointer (some ⟨g24, 0, none⟩)) (by decide)
        rintro _ _ ⟨rfl, rfl⟩ hA154
        have F154 := F153.put (d := 39) (v := .pointer (some ⟨g24, 0, none⟩)) (by decide)
        rintro _ _ ⟨rfl, rfl⟩ hA155
        have F155 := F154.put (d := 40) (v := .pointer (some ⟨g24, 2, none⟩)) (by decide)
        rintro _ _ ⟨rfl, rfl⟩ hA156
        have F156 := F155.put (d := 41) (v := .slice Ap k cp) (by decide)
        rintro _ _ ⟨rfl, rfl⟩ hA157
        have F157 := F156.put (d := 42) (v := .pointer (some ⟨g43, 0, none⟩)) (by decide)
        rintro _ _ ⟨rfl, rfl⟩ hA158
        have F158 := F157.put (d := 43) (v := .string cs[k].fOS) (by decide)
        rintro _ _ ⟨rfl, rfl⟩ hA159
        have F159 := F158.put (d := 44) (v := .pointer (some ⟨g43, 1, none⟩)) (by decide)
        rintro _ _ ⟨rfl, rfl⟩ hA160
        have F160 := F159.put (d := 45) (v := .string cs[k].fArch) (by decide)
        rintro _ _ ⟨rfl, rfl⟩ hA161
        have F161 := F160.put (d := 46) (v := .pointer (some ⟨g43, 2, none⟩)) (by decide)
        rintro _ _ ⟨rfl, rfl⟩ hA162
        have F162 := F161.put (d := 47) (v := .string cs[k].fCommand) (by decide)
        rintro _ _ ⟨rfl, rfl⟩ hA163
        have F163 := F162.put (d := 48) (v := .pointer (some ⟨g43, 3, none⟩)) (by decide)
        rintro _ _ ⟨rfl, rfl⟩ hA164
        have F164 := F163.put (d := 49) (v := .slice cs[k].fArgs_a cs[k].fArgs.length cs[k].fArgs_c) (by decide)
        rintro _ _ ⟨rfl, rfl⟩ hA165
        have F165 := F164.put (d := 50) (v := .agg #[.string cs[k].fOS, .string cs[k].fArch, .string cs[k].fCommand, .slice cs[k].fArgs_a cs[k].fArgs.length cs[k].fArgs_c]) (by decide)
        rintro _ _ ⟨g151, rfl, rfl⟩ hA166
        have F166 := F165.put (d := 51) (v := .slice (some ⟨g151, 0, none⟩) 1 1) (by decide)
        refine depsD_nil ?_
        intro S152
        refine obl_of (by rfl) ?_
        exact s_app rfl Try.underlying187 4 _ tin191 rfl rfl (F166.e (.slice Ap k cp)) S152 ([Value.string cs[k].fOS, .string cs[k].fArch, .string cs[k].fCommand, .slice cs[k].fArgs_a cs[k].fArgs.length cs[k].fArgs_c]) (F166.e (.slice (some ⟨g151, 0, none⟩) 1 1)) ((Sp.bkm S152.drop hA166).sl (by simp)) rfl (by simp [Value.oneCell']) (by omega) (by omega) (n' := k + 1) (by omega) (cs' := flatC Ty110.cells (cs.take (k + 1))) (by rw [List.take_succ_eq_append_getElem hlt_k, flatC_snoc]; rfl)
      · intro w168 M168
        rintro _ _ ⟨rfl, rfl⟩ hA169
        have F169 := F46.put (d := 37) (v := .pointer (some ⟨g24, 0, none⟩)) (by decide)
        refine depsD_nil ?_
        intro S168
        refine obl_of (by rfl) ?_
        exact s_p F169 (v := .pointer (some ⟨g24, 0, none⟩)) (by kernel_rfl) (by kernel_rfl) (by kernel_rfl) S168
      · intro w170 M170
        rintro _ _ ⟨rfl, rfl⟩ hA171
        have F171 := F46.put (d := 37) (v := .pointer (some ⟨g24, 0, none⟩)) (by decide)
        rintro _ _ ⟨rfl, rfl⟩ hA172
        have F172 := F171.put (d := 53) (v := .pointer (some ⟨g24, 0, none⟩)) (by decide)
        refine depsD_nil ?_
        intro S170
        refine obl_of (by rfl) ?_
        exact s_p F172 (v := .pointer (some ⟨g24, 2, none⟩)) (by kernel_rfl) (by kernel_rfl) (by kernel_rfl) S170
    · rintro _ _ ⟨rfl, rfl⟩
      have F174 := F46.put (d := 37) (v := .pointer (some ⟨g24, 0, none⟩)) (by decide)
      rintro _ _ ⟨rfl, rfl⟩
      have F175 := F174.put (d := 38) (v := .pointer (some ⟨g24, 0, none⟩)) (by decide)
      rintro _ _ ⟨rfl, rfl⟩
      have F176 := F175.put (d := 39) (v := .pointer (some ⟨g24, 0, none⟩)) (by decide)
      rintro _ _ ⟨rfl, rfl⟩
      have F177 := F176.put (d := 40) (v := .pointer (some ⟨g24, 2, none⟩)) (by decide)
      rintro _ _ ⟨rfl, rfl⟩
      have F178 := F177.put (d := 41) (v := .slice Ap k cp) (by decide)
      rintro _ _ ⟨rfl, rfl⟩
      have F179 := F178.put (d := 42) (v := .pointer (some ⟨g43, 0, none⟩)) (by decide)
      rintro _ _ ⟨rfl, rfl⟩
      have F180 := F179.put (d := 43) (v := .string cs[k].fOS) (by decide)
      rintro _ _ ⟨rfl, rfl⟩
      have F181 := F180.put (d := 44) (v := .pointer (some ⟨g43, 1, none⟩)) (by decide)
      rintro _ _ ⟨rfl, rfl⟩
      have F182 := F181.put (d := 45) (v := .string cs[k].fArch) (by decide)
      rintro _ _ ⟨rfl, rfl⟩
      have F183 := F182.put (d := 46) (v := .pointer (some ⟨g43, 2, none⟩)) (by decide)
      rintro _ _ ⟨rfl, rfl⟩
      have F184 := F183.put (d := 47) (v := .string cs[k].fCommand) (by decide)
      rintro _ _ ⟨rfl, rfl⟩
      have F185 := F184.put (d := 48) (v := .pointer (some ⟨g43, 3, none⟩)) (by decide)
      rintro _ _ ⟨rfl, rfl⟩
      have F186 := F185.put (d := 49) (v := .slice cs[k].fArgs_a cs[k].fArgs.length cs[k].fArgs_c) (by decide)
      rintro _ _ ⟨rfl, rfl⟩
      have F187 := F186.put (d := 50) (v := .agg #[.string cs[k].fOS, .string cs[k].fArch, .string cs[k].fCommand, .slice cs[k].fArgs_a cs[k].fArgs.length cs[k].fArgs_c]) (by decide)
      rintro _ _ ⟨g151, rfl, rfl⟩
      have F188 := F187.put (d := 51) (v := .slice (some ⟨g151, 0, none⟩) 1 1) (by decide)
      rintro _ _ ⟨A167, c167, rfl, rfl⟩
      have F189 := F188.put (d := 52) (v := .slice A167 (k + 1) c167) (by decide)
      rintro _ _ ⟨rfl, rfl⟩
      have F190 := F189.put (d := 53) (v := .pointer (some ⟨g24, 0, none⟩)) (by decide)
      rintro _ _ ⟨rfl, rfl⟩
      have F191 := F190.put (d := 54) (v := .pointer (some ⟨g24, 2, none⟩)) (by decide)
      intro w173 S173
      have S192 := S173.drop
      have S193 := S192.drop
      have S194 := S193.p2.drop
      have S195 := S194.p2.drop
      have S196 := S195.p2.drop
      have S197 := S196.p2.drop
      have S198 := S197.p2.drop
      have S199 := S198.p2.drop
      have S200 := S199.p2.drop
      have S201 := S200.p2.drop
      have S202 := S201.p2.drop
      have S203 := S202.p2.drop
      have S204 := S203.p2.drop
      have S205 := S204.p2.drop
      have S206 := S205.p2.drop
      have S207 := S206.p2.drop
      refine op_sq0 F191 (s_st rfl (F191.e (.pointer (some ⟨g24, 2, none⟩))) (F191.e (.slice A167 (k + 1) c167)) S207.p8 (by kernel_rfl) rfl rfl rfl (cs := #[.string ⟨#[]⟩, .string ⟨#[]⟩, .slice A167 (k + 1) c167, .string command, .bool ig]) (by kernel_rfl)) ?_
      rintro _ _ w208 rfl S208 F208
      refine wpList_nil ?_
      refine hK40 _ _ ?_; clear hK40 K40
      refine wp_region_lit ?_
      refine op_rq (v := .int .i64 (↑(k + 1))) F208 (r_add (z := ↑(k + 1)) rfl (F208.e (.int .i64 (↑k))) (F208.e (.int .i64 1)) (wr64 (by omega) (by omega) (by omega))) ?_; intro a209 F209
      refine op_q F209 (.int .i64 (↑(k + 1))) ?_; intro a210 F210
      refine wpList_nil ?_
      exact hK34 _ _ _ (by first | omega | (simp; omega)) ⟨A167, c167, k + 1, rfl, (F210.kk 6 (F210.kk 14 (F210.kk 15 (F210.kk 16 (F210.kk 17 (F210.kk 18 (F210.kk 31 (F210.kk 32 (F210.kk 33 F210.nil))))))))), S208.p2.drop.p2.drop.p1.p1.p6.p6.p6.p6.p6, (by first | omega | (with_reducible assumption) | (simp; done))⟩
  · have hc_k : decide ((↑k : Int) < ↑cs.length) = false := by first | (simp; done) | (simp; omega)
    obtain rfl : k = cs.length := by omega
    rw [List.take_length] at S34
    refine wp_seq_k fun K211 hK211 => ?_
    refine wp_region_lit ?_
    refine op_q F34 (.bool (decide ((↑cs.length : Int) < ↑cs.length))) ?_; intro a212 F212
    have F213 := F212.sb 34 (by kernel_rfl) hc_k
    refine wpList_nil ?_
    refine hK211 _ _ ?_; clear hK211 K211
    refine wp_seq_k fun K214 hK214 => ?_
    refine wp_cond_false (F213.ev (by kernel_rfl)) ?_
    refine wp_exit ?_
    refine ex_then ?_; clear hK214 K214
    refine ex_then ?_
    refine ex_in ?_
    refine hK28 _ _ ?_; clear hK28 K28
    refine wp_seq_k fun K215 hK215 => ?_
    refine wp_region_lit ?_
    refine op_q F213 (.pointer (some ⟨g24, 0, none⟩)) ?_; intro a216 F216
    refine op_q F216 (.agg #[.pointer (some ⟨g24, 0, none⟩), .string ⟨#[]⟩]) ?_; intro a217 F217
    refine op_sq F217 (s_newp F217 195 #[.pointer (some ⟨g24, 0, none⟩), .string ⟨#[]⟩] (by kernel_rfl) (by kernel_rfl) (by kernel_rfl) S34) ?_
    rintro _ _ w219 ⟨g217, rfl, rfl⟩ S219 a219 F219
    refine op_rq (v := .agg #[.string os, .string arch, .func (.func 110) #[] #[.pointer (some ⟨g1, 0, none⟩)]]) F219 (r_ldm rfl (F219.e (.pointer (some ⟨g17, 0, none⟩))) (S219.bk 1 rfl) 3 (by kernel_rfl) Try.underlying185 rfl (by kernel_rfl) (v := #[.string os, .string arch, .func (.func 110) #[] #[.pointer (some ⟨g1, 0, none⟩)]]) (by kernel_rfl)) ?_; intro a220 F220
    refine op_q F220 (.slice (B) (extra.length) (db)) ?_; intro a221 F221
    refine op_cq F221 (f := 111) (args := #[.pointer (some ⟨g217, 0, none⟩), .agg #[.string os, .string arch, .func (.func 110) #[] #[.pointer (some ⟨g1, 0, none⟩)]], .slice (B) (extra.length) (db)]) (prepCmd_some os arch g1 Ap cp cs E ce xs B db extra g217 g24 command ig c p0 ps _ _ _ S219 (fun w S => own_rowsT1 (S.ow 7 rfl) (by first | rfl | (simp; done) | omega) (by decide) (fun x => x.len) (by first | omega | (simp; omega))) (fun w S => h0 w S.drop.drop.drop.drop.drop.drop.drop.drop) (fun w S => S.bk 5 rfl) (fun w S => h3 w S.drop.drop.drop.drop.drop.drop.drop.drop) (fun w S => h2 w S.drop.drop.drop.drop.drop.drop.drop.drop) (fun w S => S.bk 0 rfl) (fun w S => S.bk 6 rfl) (by first | omega | (simp; done) | (simp; omega)) (by first | omega | (simp; done) | (simp; omega)) (by first | exact hoa) (by first | exact haa) hcz hca hM (by first | omega | (simp; done) | (simp; omega)) hpk hps h00 hpz haz (by refine ⟨by omega, by omega, ?_⟩; first | omega | simp)) ?_
    rintro _ w222 ⟨Ar222, cr222, rs222, rfl, S222, hp0_222⟩
    refine ⟨_, rfl, ?_⟩
    intro a223 F223
    refine op_q F223 (.tuple #[.string (exF xs p0 0), .slice Ar222 rs222.length cr222, .nilIface]) ?_; intro a224 F224
    refine op_q F224 (.string (exF xs p0 0)) ?_; intro a225 F225
    refine op_q F225 (.slice Ar222 rs222.length cr222) ?_; intro a226 F226
    refine op_q F226 (.nilIface) ?_; intro a227 F227
    refine op_sq0 F227 (s_st rfl (F227.e (.pointer (some ⟨g3, 0, none⟩))) (F227.e (.string (exF xs p0 0))) S222.p5 (by kernel_rfl) rfl rfl rfl (cs := #[.string (exF xs p0 0)]) (by kernel_rfl)) ?_
    rintro _ _ w228 rfl S228 F228
    refine op_sq0 F228 (s_st rfl (F228.e (.pointer (some ⟨g5, 0, none⟩))) (F228.e (.slice Ar222 rs222.length cr222)) S228.p5 (by kernel_rfl) rfl rfl rfl (cs := #[.slice Ar222 rs222.length cr222]) (by kernel_rfl)) ?_
    rintro _ _ w229 rfl S229 F229
    refine op_q F229 (.nilIface) ?_; intro a230 F230
    refine wpList_nil ?_
    refine hK215 _ _ ?_; clear hK215 K215
    refine wp_seq_k fun K231 hK231 => ?_
    refine wp_seq_k fun K232 hK232 => ?_
    refine wp_region_lit ?_
    refine op_q F230 (.nilIface) ?_; intro a233 F233
    refine op_q F233 (.bool false) ?_; intro a234 F234
    refine wpList_nil ?_
    refine hK232 _ _ ?_; clear hK232 K232
    refine wp_cond_false (F234.ev (by kernel_rfl)) ?_
    refine wp_skip ?_
    refine hK231 _ _ ?_; clear hK231 K231
    refine wp_seq_k fun K235 hK235 => ?_
    refine wp_region_sepD (L0 := SA.blk g5 22 #[.slice Ar222 rs222.length cr222] :: SA.blk g3 9 #[.string (exF xs p0 0)] :: SA.own (.slice Ar222 rs222.length cr222) 9 1 rs222.length (strs rs222) :: SA.blk g217 195 #[.pointer (some ⟨g24, 0, none⟩), .string ⟨#[]⟩] :: SA.blk g17 185 #[.string os, .string arch, .func (.func 110) #[] #[.pointer (some ⟨g1, 0, none⟩)]] :: SA.blk g7 3 #[.int .i64 0] :: SA.blk g1 40 #[.slice (E) (xs.length) (ce)] :: SA.blk g24 189 #[.string ⟨#[]⟩, .string ⟨#[]⟩, .slice Ap cs.length cp, .string command, .bool ig] :: SA.own (.slice Ap cs.length cp) 191 4 cs.length (flatC Ty110.cells cs) :: L) [some [], some [], some [(0, 68)], some [(1, 69)], some []] [(SA.emp, fun _ v A => v = .string (exF xs p0 0) ∧ A = SA.emp), (SA.emp, fun _ v A => v = .slice Ar222 rs222.length cr222 ∧ A = SA.emp), (SA.emp, fun _ _ A => A = SA.emp), (SA.emp, fun _ _ A => A = SA.emp), (SA.emp, fun _ _ A => A = SA.emp)] 70 [] rfl F234.size rfl (by kernel_rfl) (by kernel_rfl) S229.emp.emp.emp.emp.emp.p1.p2.p3.p4 ?_ ?_
    · refine ⟨?_, ?_, ?_, ?_, ?_, trivial⟩
      · intro w243 M243
        refine depsD_nil ?_
        intro S243
        refine obl_of (by rfl) ?_
        exact s_r (v := .string (exF xs p0 0)) (r_ld rfl (F234.e (.pointer (some ⟨g3, 0, none⟩))) (v := .string (exF xs p0 0)) (((Sp.dropM S243.drop).bk 1 rfl).cell 0) Try.underlying9 rfl) S243
      · intro w244 M244
        refine depsD_nil ?_
        intro S244
        refine obl_of (by rfl) ?_
        exact s_r (v := .slice Ar222 rs222.length cr222) (r_ld rfl (F234.e (.pointer (some ⟨g5, 0, none⟩))) (v := .slice Ar222 rs222.length cr222) (((Sp.dropM S244.drop).bk 0 rfl).cell 0) Try.underlying22 rfl) S244
      · intro w245 M245
        rintro _ _ ⟨rfl, rfl⟩ hA246
        have F246 := F234.put (d := 68) (v := .string (exF xs p0 0)) (by decide)
        refine depsD_nil ?_
        intro S245
        refine obl_of (by rfl) ?_
        exact s_st_same rfl (F246.e (.pointer (some ⟨g3, 0, none⟩))) (F246.e (.string (exF xs p0 0))) ((Sp.dropM S245.drop).bk 1 rfl) S245 (by kernel_rfl) rfl rfl rfl (by kernel_rfl)
      · intro w247 M247
        rintro _ _ ⟨rfl, rfl⟩ hA248
        have F248 := F234.put (d := 69) (v := .slice Ar222 rs222.length cr222) (by decide)
        refine depsD_nil ?_
        intro S247
        refine obl_of (by rfl) ?_
        exact s_st_same rfl (F248.e (.pointer (some ⟨g5, 0, none⟩))) (F248.e (.slice Ar222 rs222.length cr222)) ((Sp.dropM S247.drop).bk 0 rfl) S247 (by kernel_rfl) rfl rfl rfl (by kernel_rfl)
      · intro w249 M249
        refine depsD_nil ?_
        intro S249
        refine obl_of (by rfl) ?_
        exact s_st_same rfl (F234.e (.pointer (some ⟨g7, 0, none⟩))) (F234.e (.int .i64 0)) ((Sp.dropM S249.drop).bk 5 rfl) S249 (by kernel_rfl) rfl rfl rfl (by kernel_rfl)
    · rintro _ _ ⟨rfl, rfl⟩
      have F251 := F234.put (d := 68) (v := .string (exF xs p0 0)) (by decide)
      rintro _ _ ⟨rfl, rfl⟩
      have F252 := F251.put (d := 69) (v := .slice Ar222 rs222.length cr222) (by decide)
      rintro _ _ rfl
      rintro _ _ rfl
      rintro _ _ rfl
      intro w250 S250
      have S256 := S250.drop
      have S257 := S256.drop
      have S258 := S257.drop
      have S259 := S258.drop
      have S260 := S259.drop
      refine wpList_nil ?_
      refine hK235 _ _ ?_; clear hK235 K235
      refine wp_ret ?_
      refine (F252.leaveD (f := 109) (args := #[.pointer (some ⟨g3, 0, none⟩), .pointer (some ⟨g5, 0, none⟩), .pointer (some ⟨g7, 0, none⟩)]) (by simp [go_sem]) (catch109 g3 g5 g7 _) (results3 Try.results56 (F252.rvc (p := ⟨g3, 0, none⟩) (by kernel_rfl) (load_one _ _ _ (.string (exF xs p0 0)) ((S260.bk 1 rfl).cell 0) _ Try.underlying9 rfl)) (F252.rvc (p := ⟨g5, 0, none⟩) (by kernel_rfl) (load_one _ _ _ (.slice Ar222 rs222.length cr222) ((S260.bk 0 rfl).cell 0) _ Try.underlying22 rfl)) (F252.rvc (p := ⟨g7, 0, none⟩) (by kernel_rfl) (load_one _ _ _ (.int .i64 0) ((S260.bk 5 rfl).cell 0) _ Try.underlying3 rfl))) ?_).1
      exact ⟨Ar222, cr222, rs222, rfl, S260.drop.drop.p1.drop.p1.drop.p1.drop.p1.drop.p1.drop.p1.drop, hp0_222⟩
set_option maxRecDepth 100000 in
set_option maxHeartbeats 20000000 in
theorem plugCmd_none (os : ByteArray) (arch : ByteArray) (E : Option Addr) (ce : Nat) (xs : List Ty108) (A : Option Addr) (d : Nat) (cs : List Ty110) (command : ByteArray) (ig : Bool) (B : Option Addr) (db : Nat) (extra : List ByteArray) (R : Ctx) (L : List SA) (w : World) (S : Sp R w (L)) (h0 : Rf R L fun w => Rows w (E) 2 (xs.map Ty108.cells)) (h1 : Rf R L fun w => Rows w (A) 4 (cs.map Ty110.cells)) (h2 : Rf R L fun w => Sl w (B) (strs extra)) (hos : 0 < os.size) (hoz : os.size ≤ 1000000 ∧ arch.size ≤ 1000000) (hoa : ∀ j, bt0 os j ≤ 127) (haa : ∀ j, bt0 arch j ≤ 127) (hcz : ∀ x ∈ cs, x.fOS.size ≤ 1000000 ∧ x.fArch.size ≤ 1000000 ∧ x.fCommand.size ≤ 1000000) (hca : ∀ x ∈ cs, (∀ j, bt0 x.fOS j ≤ 127) ∧ (∀ j, bt0 x.fArch j ≤ 127)) (hcl : 0 < cs.length) (hcb : cs.length ≤ 10000) (hpk : pickF os arch cs = none) :
    Calls Try.prog 56 #[.string os, .string arch, .slice (E) (xs.length) (ce), .slice (A) (cs.length) (d), .string command, .bool ig, .slice (B) (extra.length) (db)] w fun e w' => e = .returned (.tuple #[.string ⟨#[]⟩, .slice none 0 0, .int .i64 1]) ∧ Sp R w' (L) := by
  have hl_xs : xs.length ≤ 9223372036854775807 := by have := (h0 _ S).1; simpa [strs, ptrs] using this
  have hl_cs : cs.length ≤ 9223372036854775807 := by have := (h1 _ S).1; simpa [strs, ptrs] using this
  have hl_extra : extra.length ≤ 9223372036854775807 := by have := (h2 _ S).1; simpa [strs, ptrs] using this
  refine fw_enterD (fn := Try.f56) rfl rfl 70 rfl (Nat.le_of_ble_eq_true rfl) ?_
  intro a0 F0
  refine wp_seq_k fun K1 hK1 => ?_
  refine wp_region_lit ?_
  refine op_sq F0 (s_newp F0 40 #[.slice (E) (xs.length) (ce)] (by kernel_rfl) (by kernel_rfl) (by kernel_rfl) S) ?_
  rintro _ _ w3 ⟨g1, rfl, rfl⟩ S3 a3 F3
  refine op_sq F3 (s_newp F3 9 #[.string ⟨#[]⟩] (by kernel_rfl) (by kernel_rfl) (by kernel_rfl) S3) ?_
  rintro _ _ w5 ⟨g3, rfl, rfl⟩ S5 a5 F5
  refine op_sq F5 (s_newp F5 22 #[.slice none 0 0] (by kernel_rfl) (by kernel_rfl) (by kernel_rfl) S5) ?_
  rintro _ _ w7 ⟨g5, rfl, rfl⟩ S7 a7 F7
  refine op_sq F7 (s_newp F7 3 #[.int .i64 0] (by kernel_rfl) (by kernel_rfl) (by kernel_rfl) S7) ?_
  rintro _ _ w9 ⟨g7, rfl, rfl⟩ S9 a9 F9
  refine wpList_nil ?_
  refine hK1 _ _ ?_; clear hK1 K1
  refine wp_seq_k fun K10 hK10 => ?_
  refine wp_region_lit ?_
  refine op_q F9 (.func (.func 109) #[] #[.pointer (some ⟨g3, 0, none⟩), .pointer (some ⟨g5, 0, none⟩), .pointer (some ⟨g7, 0, none⟩)]) ?_; intro a11 F11
  refine op_defer F11 ({ target := .fn (.func 109) #[.pointer (some ⟨g3, 0, none⟩), .pointer (some ⟨g5, 0, none⟩), .pointer (some ⟨g7, 0, none⟩)], args := #[] }) (by kernel_rfl) (by kernel_rfl) rfl rfl rfl ?_; intro a12 F12
  refine wpList_nil ?_
  refine hK10 _ _ ?_; clear hK10 K10
  refine wp_seq_k fun K13 hK13 => ?_
  refine wp_region_lit ?_
  refine op_q F12 (.string os) ?_; intro a14 F14
  refine op_q F14 (.string arch) ?_; intro a15 F15
  refine op_q F15 (.func (.func 110) #[] #[.pointer (some ⟨g1, 0, none⟩)]) ?_; intro a16 F16
  refine op_q F16 (.agg #[.string os, .string arch, .func (.func 110) #[] #[.pointer (some ⟨g1, 0, none⟩)]]) ?_; intro a17 F17
  refine op_sq F17 (s_newp F17 185 #[.string ⟨#[]⟩, .string ⟨#[]⟩, .nilFunc] (by kernel_rfl) (by kernel_rfl) (by kernel_rfl) S9) ?_
  rintro _ _ w19 ⟨g17, rfl, rfl⟩ S19 a19 F19
  refine op_sq0 F19 (s_stb rfl (F19.e (.pointer (some ⟨g17, 0, none⟩))) (F19.e (.agg #[.string os, .string arch, .func (.func 110) #[] #[.pointer (some ⟨g1, 0, none⟩)]])) S19 (by kernel_rfl) rfl (by kernel_rfl)) ?_
  rintro _ _ w20 rfl S20 F20
  refine wpList_nil ?_
  refine hK13 _ _ ?_; clear hK13 K13
  refine wp_seq_k fun K21 hK21 => ?_
  refine wp_region_lit ?_
  refine op_q F20 (.string command) ?_; intro a22 F22
  refine op_q F22 (.bool ig) ?_; intro a23 F23
  refine op_q F23 (.agg #[.string ⟨#[]⟩, .string ⟨#[]⟩, .slice none 0 0, .string command, .bool ig]) ?_; intro a24 F24
  refine op_sq F24 (s_newp F24 189 #[.string ⟨#[]⟩, .string ⟨#[]⟩, .slice none 0 0, .string command, .bool ig] (by kernel_rfl) (by kernel_rfl) (by kernel_rfl) S20) ?_
  rintro _ _ w26 ⟨g24, rfl, rfl⟩ S26 a26 F26
  refine op_q F26 (.pointer (some ⟨g24, 0, none⟩)) ?_; intro a27 F27
  refine wpList_nil ?_
  refine hK21 _ _ ?_; clear hK21 K21
  refine wp_seq_k fun K28 hK28 => ?_
  refine wp_seq_k fun K29 hK29 => ?_
  refine wp_region_lit ?_
  refine op_q F27 (.slice (A) (cs.length) (d)) ?_; intro a30 F30
  refine op_q F30 (.int .i64 (↑cs.length)) ?_; intro a31 F31
  refine op_q F31 (.int .i64 0) ?_; intro a32 F32
  refine wpList_nil ?_
  refine hK29 _ _ ?_; clear hK29 K29
  refine wp_block ?_
  have S33 := Sp.nilown (e := 191) (sz := 4) S26
  refine fw_loop (fun m a' w' => ∃ Ap : Option Addr, ∃ cp : Nat, ∃ k : Nat, cs.length - k = m ∧ Fr 70 [{ target := .fn (.func 109) #[.pointer (some ⟨g3, 0, none⟩), .pointer (some ⟨g5, 0, none⟩), .pointer (some ⟨g7, 0, none⟩)], args := #[] }] a' [(6, .slice (B) (extra.length) (db)), (14, .pointer (some ⟨g3, 0, none⟩)), (15, .pointer (some ⟨g5, 0, none⟩)), (16, .pointer (some ⟨g7, 0, none⟩)), (17, .pointer (some ⟨g17, 0, none⟩)), (18, .pointer (some ⟨g24, 0, none⟩)), (31, .slice (A) (cs.length) (d)), (32, .int .i64 (↑cs.length)), (33, .int .i64 (↑k))] ∧ Sp R w' (SA.blk g17 185 #[.string os, .string arch, .func (.func 110) #[] #[.pointer (some ⟨g1, 0, none⟩)]] :: SA.blk g7 3 #[.int .i64 0] :: SA.blk g5 22 #[.slice none 0 0] :: SA.blk g3 9 #[.string ⟨#[]⟩] :: SA.blk g1 40 #[.slice (E) (xs.length) (ce)] :: SA.blk g24 189 #[.string ⟨#[]⟩, .string ⟨#[]⟩, .slice Ap k cp, .string command, .bool ig] :: SA.own (.slice Ap k cp) 191 4 k (flatC Ty110.cells (cs.take k)) :: L) ∧ (k ≤ cs.length)) _ ⟨none, 0, 0, rfl, (F32.kk 6 (F32.kk 14 (F32.kk 15 (F32.kk 16 (F32.kk 17 (F32.kk 18 (F32.kk 31 (F32.kk 32 (F32.kk 33 F32.nil))))))))), S33.p1.p6.p6.p6.p6.p6, (by first | omega | (with_reducible assumption) | (simp; done))⟩ ?_
  rintro m34 a34 w34 ⟨Ap, cp, k, hm34, F34, S34, hk⟩ K34 hK34
  by_cases hlt_k : k < cs.length
  · have hc_k : decide ((↑k : Int) < ↑cs.length) = true := by first | (simp; done) | (simp; omega)
    obtain ⟨ad35, hA35⟩ := (h1 _ S34.drop.drop.drop.drop.drop.drop.drop).addr (by simp; omega)
    refine wp_seq_k fun K36 hK36 => ?_
    refine wp_region_lit ?_
    refine op_q F34 (.bool (decide ((↑k : Int) < ↑cs.length))) ?_; intro a37 F37
    have F38 := F37.sb 34 (by kernel_rfl) hc_k
    refine wpList_nil ?_
    refine hK36 _ _ ?_; clear hK36 K36
    refine wp_seq_k fun K39 hK39 => ?_
    refine wp_cond_true (F38.ev (by kernel_rfl)) ?_
    refine wp_skip ?_
    refine hK39 _ _ ?_; clear hK39 K39
    refine wp_seq_k fun K40 hK40 => ?_
    refine wp_block ?_
    refine wp_seq_k fun K41 hK41 => ?_
    refine wp_region_lit ?_
    refine op_rq (v := .pointer (some (ad35.add (k * 4)))) F38 (r_ix rfl Try.underlying105 4 (by kernel_rfl) (F38.e (.slice (A) (cs.length) (d))) hA35 (F38.e (.int .i64 (↑k))) k (by first | rfl | omega | simp) (by first | omega | (simp; done) | (simp; omega)) (rfl)) ?_; intro a42 F42
    refine op_rq (v := .agg #[.string cs[k].fOS, .string cs[k].fArch, .string cs[k].fCommand, .slice cs[k].fArgs_a cs[k].fArgs.length cs[k].fArgs_c]) F42 (r_ldR rfl (F42.e (.pointer (some (ad35.add (k * 4))))) (cs := [.string cs[k].fOS, .string cs[k].fArch, .string cs[k].fCommand, .slice cs[k].fArgs_a cs[k].fArgs.length cs[k].fArgs_c]) ((h1 _ S34.drop.drop.drop.drop.drop.drop.drop).elA hA35 (j := k) (row := cs[k].cells) (by rw [List.getElem?_map, List.getElem?_eq_getElem hlt_k]; rfl)) Try.underlying110 rfl (by kernel_rfl) (v := #[.string cs[k].fOS, .string cs[k].fArch, .string cs[k].fCommand, .slice cs[k].fArgs_a cs[k].fArgs.length cs[k].fArgs_c]) (by kernel_rfl)) ?_; intro a43 F43
    refine op_sq F43 (s_newp F43 110 #[.string ⟨#[]⟩, .string ⟨#[]⟩, .string ⟨#[]⟩, .slice none 0 0] (by kernel_rfl) (by kernel_rfl) (by kernel_rfl) S34) ?_
    rintro _ _ w45 ⟨g43, rfl, rfl⟩ S45 a45 F45
    refine op_sq0 F45 (s_stb rfl (F45.e (.pointer (some ⟨g43, 0, none⟩))) (F45.e (.agg #[.string cs[k].fOS, .string cs[k].fArch, .string cs[k].fCommand, .slice cs[k].fArgs_a cs[k].fArgs.length cs[k].fArgs_c])) S45 (by kernel_rfl) rfl (by kernel_rfl)) ?_
    rintro _ _ w46 rfl S46 F46
    refine wpList_nil ?_
    refine hK41 _ _ ?_; clear hK41 K41
    refine wp_region_sepD (L0 := SA.blk g43 110 #[.string cs[k].fOS, .string cs[k].fArch, .string cs[k].fCommand, .slice cs[k].fArgs_a cs[k].fArgs.length cs[k].fArgs_c] :: SA.blk g17 185 #[.string os, .string arch, .func (.func 110) #[] #[.pointer (some ⟨g1, 0, none⟩)]] :: SA.blk g7 3 #[.int .i64 0] :: SA.blk g5 22 #[.slice none 0 0] :: SA.blk g3 9 #[.string ⟨#[]⟩] :: SA.blk g1 40 #[.slice (E) (xs.length) (ce)] :: SA.blk g24 189 #[.string ⟨#[]⟩, .string ⟨#[]⟩, .slice Ap k cp, .string command, .bool ig] :: L) [some [], some [], some [(1, 38)], some [(1, 38), (2, 39)], some [(1, 38), (2, 39), (3, 40)], some [], some [(5, 42)], some [], some [(7, 44)], some [], some [(9, 46)], some [], some [(11, 48)], some [(5, 42), (6, 43), (7, 44), (8, 45), (9, 46), (10, 47), (11, 48), (12, 49)], some [(5, 42), (6, 43), (7, 44), (8, 45), (9, 46), (10, 47), (11, 48), (12, 49), (13, 50)], some [(1, 38), (2, 39), (3, 40), (4, 41), (5, 42), (6, 43), (7, 44), (8, 45), (9, 46), (10, 47), (11, 48), (12, 49), (13, 50), (14, 51)], some [(0, 37)], some [(0, 37), (16, 53)], none] [(SA.emp, fun _ v A => v = .pointer (some ⟨g24, 0, none⟩) ∧ A = SA.emp), (SA.emp, fun _ v A => v = .pointer (some ⟨g24, 0, none⟩) ∧ A = SA.emp), (SA.emp, fun _ v A => v = .pointer (some ⟨g24, 0, none⟩) ∧ A = SA.emp), (SA.emp, fun _ v A => v = .pointer (some ⟨g24, 2, none⟩) ∧ A = SA.emp), (SA.emp, fun _ v A => v = .slice Ap k cp ∧ A = SA.emp), (SA.emp, fun _ v A => v = .pointer (some ⟨g43, 0, none⟩) ∧ A = SA.emp), (SA.emp, fun _ v A => v = .string cs[k].fOS ∧ A = SA.emp), (SA.emp, fun _ v A => v = .pointer (some ⟨g43, 1, none⟩) ∧ A = SA.emp), (SA.emp, fun _ v A => v = .string cs[k].fArch ∧ A = SA.emp), (SA.emp, fun _ v A => v = .pointer (some ⟨g43, 2, none⟩) ∧ A = SA.emp), (SA.emp, fun _ v A => v = .string cs[k].fCommand ∧ A = SA.emp), (SA.emp, fun _ v A => v = .pointer (some ⟨g43, 3, none⟩) ∧ A = SA.emp), (SA.emp, fun _ v A => v = .slice cs[k].fArgs_a cs[k].fArgs.length cs[k].fArgs_c ∧ A = SA.emp), (SA.emp, fun _ v A => v = .agg #[.string cs[k].fOS, .string cs[k].fArch, .string cs[k].fCommand, .slice cs[k].fArgs_a cs[k].fArgs.length cs[k].fArgs_c] ∧ A = SA.emp), (SA.emp, fun _ v A => ∃ g151 : Nat, v = .slice (some ⟨g151, 0, none⟩) 1 1 ∧ A = SA.blk g151 191 #[.string cs[k].fOS, .string cs[k].fArch, .string cs[k].fCommand, .slice cs[k].fArgs_a cs[k].fArgs.length cs[k].fArgs_c]), (SA.own (.slice Ap k cp) 191 4 k (flatC Ty110.cells (cs.take k)), fun _ v A => ∃ A167 : Option Addr, ∃ c167 : Nat, v = .slice A167 (k + 1) c167 ∧ A = SA.own (.slice A167 (k + 1) c167) 191 4 (k + 1) (flatC Ty110.cells (cs.take (k + 1)))), (SA.emp, fun _ v A => v = .pointer (some ⟨g24, 0, none⟩) ∧ A = SA.emp), (SA.emp, fun _ v A => v = .pointer (some ⟨g24, 2, none⟩) ∧ A = SA.emp), (SA.emp, fun _ _ A => A = SA.emp)] 70 [] rfl F46.size rfl (by kernel_rfl) (by kernel_rfl) S46.p7.emp.emp.emp.emp.emp.emp.emp.emp.emp.emp.emp.emp.emp.emp.emp.emp.emp.p1.p17.p3.p4.p5.p6.p7.p8.p9.p10.p11.p12.p13.p14.p15.p16.p17 ?_ ?_
    · refine ⟨?_, ?_, ?_, ?_, ?_, ?_, ?_, ?_, ?_, ?_, ?_, ?_, ?_, ?_, ?_, ?_, ?_, ?_, trivial⟩
      · intro w110 M110
        refine depsD_nil ?_
        intro S110
        refine obl_of (by rfl) ?_
        exact s_p F46 (v := .pointer (some ⟨g24, 0, none⟩)) (by kernel_rfl) (by kernel_rfl) (by kernel_rfl) S110
      · intro w111 M111
        refine depsD_nil ?_
        intro S111
        refine obl_of (by rfl) ?_
        exact s_p F46 (v := .pointer (some ⟨g24, 0, none⟩)) (by kernel_rfl) (by kernel_rfl) (by kernel_rfl) S111
      · intro w112 M112
        rintro _ _ ⟨rfl, rfl⟩ hA113
        have F113 := F46.put (d := 38) (v := .pointer (some ⟨g24, 0, none⟩)) (by decide)
        refine depsD_nil ?_
        intro S112
        refine obl_of (by rfl) ?_
        exact s_p F113 (v := .pointer (some ⟨g24, 0, none⟩)) (by kernel_rfl) (by kernel_rfl) (by kernel_rfl) S112
      · intro w114 M114
        rintro _ _ ⟨rfl, rfl⟩ hA115
        have F115 := F46.put (d := 38) (v := .pointer (some ⟨g24, 0, none⟩)) (by decide)
        rintro _ _ ⟨rfl, rfl⟩ hA116
        have F116 := F115.put (d := 39) (v := .pointer (some ⟨g24, 0, none⟩)) (by decide)
        refine depsD_nil ?_
        intro S114
        refine obl_of (by rfl) ?_
        exact s_p F116 (v := .pointer (some ⟨g24, 2, none⟩)) (by kernel_rfl) (by kernel_rfl) (by kernel_rfl) S114
      · intro w117 M117
        rintro _ _ ⟨rfl, rfl⟩ hA118
        have F118 := F46.put (d := 38) (v := .pointer (some ⟨g24, 0, none⟩)) (by decide)
        rintro _ _ ⟨rfl, rfl⟩ hA119
        have F119 := F118.put (d := 39) (v := .pointer (some ⟨g24, 0, none⟩)) (by decide)
        rintro _ _ ⟨rfl, rfl⟩ hA120
        have F120 := F119.put (d := 40) (v := .pointer (some ⟨g24, 2, none⟩)) (by decide)
        refine depsD_nil ?_
        intro S117
        refine obl_of (by rfl) ?_
        exact s_r (v := .slice Ap k cp) (r_ld rfl (F120.e (.pointer (some ⟨g24, 2, none⟩))) (v := .slice Ap k cp) (((Sp.dropM S117.drop).bk 6 rfl).cell 2) Try.underlying187 rfl) S117
      · intro w121 M121
        refine depsD_nil ?_
        intro S121
        refine obl_of (by rfl) ?_
        exact s_p F46 (v := .pointer (some ⟨g43, 0, none⟩)) (by kernel_rfl) (by kernel_rfl) (by kernel_rfl) S121
      · intro w122 M122
        rintro _ _ ⟨rfl, rfl⟩ hA123
        have F123 := F46.put (d := 42) (v := .pointer (some ⟨g43, 0, none⟩)) (by decide)
        refine depsD_nil ?_
        intro S122
        refine obl_of (by rfl) ?_
        exact s_r (v := .string cs[k].fOS) (r_ld rfl (F123.e (.pointer (some ⟨g43, 0, none⟩))) (v := .string cs[k].fOS) (((Sp.dropM S122.drop).bk 0 rfl).cell 0) Try.underlying9 rfl) S122
      · intro w124 M124
        refine depsD_nil ?_
        intro S124
        refine obl_of (by rfl) ?_
        exact s_p F46 (v := .pointer (some ⟨g43, 1, none⟩)) (by kernel_rfl) (by kernel_rfl) (by kernel_rfl) S124
      · intro w125 M125
        rintro _ _ ⟨rfl, rfl⟩ hA126
        have F126 := F46.put (d := 44) (v := .pointer (some ⟨g43, 1, none⟩)) (by decide)
        refine depsD_nil ?_
        intro S125
        refine obl_of (by rfl) ?_
        exact s_r (v := .string cs[k].fArch) (r_ld rfl (F126.e (.pointer (some ⟨g43, 1, none⟩))) (v := .string cs[k].fArch) (((Sp.dropM S125.drop).bk 0 rfl).cell 1) Try.underlying9 rfl) S125
      · intro w127 M127
        refine depsD_nil ?_
        intro S127
        refine obl_of (by rfl) ?_
        exact s_p F46 (v := .pointer (some ⟨g43, 2, none⟩)) (by kernel_rfl) (by kernel_rfl) (by kernel_rfl) S127
      · intro w128 M128
        rintro _ _ ⟨rfl, rfl⟩ hA129
        have F129 := F46.put (d := 46) (v := .pointer (some ⟨g43, 2, none⟩)) (by decide)
        refine depsD_nil ?_
        intro S128
        refine obl_of (by rfl) ?_
        exact s_r (v := .string cs[k].fCommand) (r_ld rfl (F129.e (.pointer (some ⟨g43, 2, none⟩))) (v := .string cs[k].fCommand) (((Sp.dropM S128.drop).bk 0 rfl).cell 2) Try.underlying9 rfl) S128
      · intro w130 M130
        refine depsD_nil ?_
        intro S130
        refine obl_of (by rfl) ?_
        exact s_p F46 (v := .pointer (some ⟨g43, 3, none⟩)) (by kernel_rfl) (by kernel_rfl) (by kernel_rfl) S130
      · intro w131 M131
        rintro _ _ ⟨rfl, rfl⟩ hA132
        have F132 := F46.put (d := 48) (v := .pointer (some ⟨g43, 3, none⟩)) (by decide)
        refine depsD_nil ?_
        intro S131
        refine obl_of (by rfl) ?_
        exact s_r (v := .slice cs[k].fArgs_a cs[k].fArgs.length cs[k].fArgs_c) (r_ld rfl (F132.e (.pointer (some ⟨g43, 3, none⟩))) (v := .slice cs[k].fArgs_a cs[k].fArgs.length cs[k].fArgs_c) (((Sp.dropM S131.drop).bk 0 rfl).cell 3) Try.underlying22 rfl) S131
      · intro w133 M133
        rintro _ _ ⟨rfl, rfl⟩ hA134
        have F134 := F46.put (d := 42) (v := .pointer (some ⟨g43, 0, none⟩)) (by decide)
        rintro _ _ ⟨rfl, rfl⟩ hA135
        have F135 := F134.put (d := 43) (v := .string cs[k].fOS) (by decide)
        rintro _ _ ⟨rfl, rfl⟩ hA136
        have F136 := F135.put (d := 44) (v := .pointer (some ⟨g43, 1, none⟩)) (by decide)
        rintro _ _ ⟨rfl, rfl⟩ hA137
        have F137 := F136.put (d := 45) (v := .string cs[k].fArch) (by decide)
        rintro _ _ ⟨rfl, rfl⟩ hA138
        have F138 := F137.put (d := 46) (v := .pointer (some ⟨g43, 2, none⟩)) (by decide)
        rintro _ _ ⟨rfl, rfl⟩ hA139
        have F139 := F138.put (d := 47) (v := .string cs[k].fCommand) (by decide)
        rintro _ _ ⟨rfl, rfl⟩ hA140
        have F140 := F139.put (d := 48) (v := .pointer (some ⟨g43, 3, none⟩)) (by decide)
        rintro _ _ ⟨rfl, rfl⟩ hA141
        have F141 := F140.put (d := 49) (v := .slice cs[k].fArgs_a cs[k].fArgs.length cs[k].fArgs_c) (by decide)
        refine depsD_nil ?_
        intro S133
        refine obl_of (by rfl) ?_
        exact s_p F141 (v := .agg #[.string cs[k].fOS, .string cs[k].fArch, .string cs[k].fCommand, .slice cs[k].fArgs_a cs[k].fArgs.length cs[k].fArgs_c]) (by kernel_rfl) (by kernel_rfl) (by kernel_rfl) S133
      · intro w142 M142
        rintro _ _ ⟨rfl, rfl⟩ hA143
        have F143 := F46.put (d := 42) (v := .pointer (some ⟨g43, 0, none⟩)) (by decide)
        rintro _ _ ⟨rfl, rfl⟩ hA144
        have F144 := F143.put (d := 43) (v := .string cs[k].fOS) (by decide)
        rintro _ _ ⟨rfl, rfl⟩ hA145
        have F145 := F144.put (d := 44) (v := .pointer (some ⟨g43, 1, none⟩)) (by decide)
        rintro _ _ ⟨rfl, rfl⟩ hA146
        have F146 := F145.put (d := 45) (v := .string cs[k].fArch) (by decide)
        rintro _ _ ⟨rfl, rfl⟩ hA147
        have F147 := F146.put (d := 46) (v := .pointer (some ⟨g43, 2, none⟩)) (by decide)
        rintro _ _ ⟨rfl, rfl⟩ hA148
        have F148 := F147.put (d := 47) (v := .string cs[k].fCommand) (by decide)
        rintro _ _ ⟨rfl, rfl⟩ hA149
        have F149 := F148.put (d := 48) (v := .pointer (some ⟨g43, 3, none⟩)) (by decide)
        rintro _ _ ⟨rfl, rfl⟩ hA150
        have F150 := F149.put (d := 49) (v := .slice cs[k].fArgs_a cs[k].fArgs.length cs[k].fArgs_c) (by decide)
        rintro _ _ ⟨rfl, rfl⟩ hA151
        have F151 := F150.put (d := 50) (v := .agg #[.string cs[k].fOS, .string cs[k].fArch, .string cs[k].fCommand, .slice cs[k].fArgs_a cs[k].fArgs.length cs[k].fArgs_c]) (by decide)
        refine depsD_nil ?_
        intro S142
        refine obl_of (by rfl) ?_
        exact s_news F151 191 #[.string cs[k].fOS, .string cs[k].fArch, .string cs[k].fCommand, .slice cs[k].fArgs_a cs[k].fArgs.length cs[k].fArgs_c] 1 (by kernel_rfl) (by kernel_rfl) (by kernel_rfl) S142.drop
      · intro w152 M152
        rintro _ _ ⟨rfl, rfl⟩ hA153
        have F153 := F46.put (d := 38) (v := .pointer (some ⟨g24, 0, none⟩)) (by decide)
        rintro _ _ ⟨rfl, rfl⟩ hA154
        have F154 := F153.put (d := 39) (v := .pointer (some ⟨g24, 0, none⟩)) (by decide)
        rintro _ _ ⟨rfl, rfl⟩ hA155
        have F155 := F154.put (d := 40) (v := .pointer (some ⟨g24, 2, none⟩)) (by decide)
        rintro _ _ ⟨rfl, rfl⟩ hA156
        have F156 := F155.put (d := 41) (v := .slice Ap k cp) (by decide)
        rintro _ _ ⟨rfl, rfl⟩ hA157
        have F157 := F156.put (d := 42) (v := .pointer (some ⟨g43, 0, none⟩)) (by decide)
        rintro _ _ ⟨rfl, rfl⟩ hA158
        have F158 := F157.put (d := 43) (v := .string cs[k].fOS) (by decide)
        rintro _ _ ⟨rfl, rfl⟩ hA159
        have F159 := F158.put (d := 44) (v := .pointer (some ⟨g43, 1, none⟩)) (by decide)
        rintro _ _ ⟨rfl, rfl⟩ hA160
        have F160 := F159.put (d := 45) (v := .string cs[k].fArch) (by decide)
        rintro _ _ ⟨rfl, rfl⟩ hA161
        have F161 := F160.put (d := 46) (v := .pointer (some ⟨g43, 2, none⟩)) (by decide)
        rintro _ _ ⟨rfl, rfl⟩ hA162
        have F162 := F161.put (d := 47) (v := .string cs[k].fCommand) (by decide)
        rintro _ _ ⟨rfl, rfl⟩ hA163
        have F163 := F162.put (d := 48) (v := .pointer (some ⟨g43, 3, none⟩)) (by decide)
        rintro _ _ ⟨rfl, rfl⟩ hA164
        have F164 := F163.put (d := 49) (v := .slice cs[k].fArgs_a cs[k].fArgs.length cs[k].fArgs_c) (by decide)
        rintro _ _ ⟨rfl, rfl⟩ hA165
        have F165 := F164.put (d := 50) (v := .agg #[.string cs[k].fOS, .string cs[k].fArch, .string cs[k].fCommand, .slice cs[k].fArgs_a cs[k].fArgs.length cs[k].fArgs_c]) (by decide)
        rintro _ _ ⟨g151, rfl, rfl⟩ hA166
        have F166 := F165.put (d := 51) (v := .slice (some ⟨g151, 0, none⟩) 1 1) (by decide)
        refine depsD_nil ?_
        intro S152
        refine obl_of (by rfl) ?_
        exact s_app rfl Try.underlying187 4 _ tin191 rfl rfl (F166.e (.slice Ap k cp)) S152 ([Value.string cs[k].fOS, .string cs[k].fArch, .string cs[k].fCommand, .slice cs[k].fArgs_a cs[k].fArgs.length cs[k].fArgs_c]) (F166.e (.slice (some ⟨g151, 0, none⟩) 1 1)) ((Sp.bkm S152.drop hA166).sl (by simp)) rfl (by simp [Value.oneCell']) (by omega) (by omega) (n' := k + 1) (by omega) (cs' := flatC Ty110.cells (cs.take (k + 1))) (by rw [List.take_succ_eq_append_getElem hlt_k, flatC_snoc]; rfl)
      · intro w168 M168
        rintro _ _ ⟨rfl, rfl⟩ hA169
        have F169 := F46.put (d := 37) (v := .pointer (some ⟨g24, 0, none⟩)) (by decide)
        refine depsD_nil ?_
        intro S168
        refine obl_of (by rfl) ?_
        exact s_p F169 (v := .pointer (some ⟨g24, 0, none⟩)) (by kernel_rfl) (by kernel_rfl) (by kernel_rfl) S168
      · intro w170 M170
        rintro _ _ ⟨rfl, rfl⟩ hA171
        have F171 := F46.put (d := 37) (v := .pointer (some ⟨g24, 0, none⟩)) (by decide)
        rintro _ _ ⟨rfl, rfl⟩ hA172
        have F172 := F171.put (d := 53) (v := .pointer (some ⟨g24, 0, none⟩)) (by decide)
        refine depsD_nil ?_
        intro S170
        refine obl_of (by rfl) ?_
        exact s_p F172 (v := .pointer (some ⟨g24, 2, none⟩)) (by kernel_rfl) (by kernel_rfl) (by kernel_rfl) S170
    · rintro _ _ ⟨rfl, rfl⟩
      have F174 := F46.put (d := 37) (v := .pointer (some ⟨g24, 0, none⟩)) (by decide)
      rintro _ _ ⟨rfl, rfl⟩
      have F175 := F174.put (d := 38) (v := .pointer (some ⟨g24, 0, none⟩)) (by decide)
      rintro _ _ ⟨rfl, rfl⟩
      have F176 := F175.put (d := 39) (v := .pointer (some ⟨g24, 0, none⟩)) (by decide)
      rintro _ _ ⟨rfl, rfl⟩
      have F177 := F176.put (d := 40) (v := .pointer (some ⟨g24, 2, none⟩)) (by decide)
      rintro _ _ ⟨rfl, rfl⟩
      have F178 := F177.put (d := 41) (v := .slice Ap k cp) (by decide)
      rintro _ _ ⟨rfl, rfl⟩
      have F179 := F178.put (d := 42) (v := .pointer (some ⟨g43, 0, none⟩)) (by decide)
      rintro _ _ ⟨rfl, rfl⟩
      have F180 := F179.put (d := 43) (v := .string cs[k].fOS) (by decide)
      rintro _ _ ⟨rfl, rfl⟩
      have F181 := F180.put (d := 44) (v := .pointer (some ⟨g43, 1, none⟩)) (by decide)
      rintro _ _ ⟨rfl, rfl⟩
      have F182 := F181.put (d := 45) (v := .string cs[k].fArch) (by decide)
      rintro _ _ ⟨rfl, rfl⟩
      have F183 := F182.put (d := 46) (v := .pointer (some ⟨g43, 2, none⟩)) (by decide)
      rintro _ _ ⟨rfl, rfl⟩
      have F184 := F183.put (d := 47) (v := .string cs[k].fCommand) (by decide)
      rintro _ _ ⟨rfl, rfl⟩
      have F185 := F184.put (d := 48) (v := .pointer (some ⟨g43, 3, none⟩)) (by decide)
      rintro _ _ ⟨rfl, rfl⟩
      have F186 := F185.put (d := 49) (v := .slice cs[k].fArgs_a cs[k].fArgs.length cs[k].fArgs_c) (by decide)
      rintro _ _ ⟨rfl, rfl⟩
      have F187 := F186.put (d := 50) (v := .agg #[.string cs[k].fOS, .string cs[k].fArch, .string cs[k].fCommand, .slice cs[k].fArgs_a cs[k].fArgs.length cs[k].fArgs_c]) (by decide)
      rintro _ _ ⟨g151, rfl, rfl⟩
      have F188 := F187.put (d := 51) (v := .slice (some ⟨g151, 0, none⟩) 1 1) (by decide)
      rintro _ _ ⟨A167, c167, rfl, rfl⟩
      have F189 := F188.put (d := 52) (v := .slice A167 (k + 1) c167) (by decide)
      rintro _ _ ⟨rfl, rfl⟩
      have F190 := F189.put (d := 53) (v := .pointer (some ⟨g24, 0, none⟩)) (by decide)
      rintro _ _ ⟨rfl, rfl⟩
      have F191 := F190.put (d := 54) (v := .pointer (some ⟨g24, 2, none⟩)) (by decide)
      intro w173 S173
      have S192 := S173.drop
      have S193 := S192.drop
      have S194 := S193.p2.drop
      have S195 := S194.p2.drop
      have S196 := S195.p2.drop
      have S197 := S196.p2.drop
      have S198 := S197.p2.drop
      have S199 := S198.p2.drop
      have S200 := S199.p2.drop
      have S201 := S200.p2.drop
      have S202 := S201.p2.drop
      have S203 := S202.p2.drop
      have S204 := S203.p2.drop
      have S205 := S204.p2.drop
      have S206 := S205.p2.drop
      have S207 := S206.p2.drop
      refine op_sq0 F191 (s_st rfl (F191.e (.pointer (some ⟨g24, 2, none⟩))) (F191.e (.slice A167 (k + 1) c167)) S207.p8 (by kernel_rfl) rfl rfl rfl (cs := #[.string ⟨#[]⟩, .string ⟨#[]⟩, .slice A167 (k + 1) c167, .string command, .bool ig]) (by kernel_rfl)) ?_
      rintro _ _ w208 rfl S208 F208
      refine wpList_nil ?_
      refine hK40 _ _ ?_; clear hK40 K40
      refine wp_region_lit ?_
      refine op_rq (v := .int .i64 (↑(k + 1))) F208 (r_add (z := ↑(k + 1)) rfl (F208.e (.int .i64 (↑k))) (F208.e (.int .i64 1)) (wr64 (by omega) (by omega) (by omega))) ?_; intro a209 F209
      refine op_q F209 (.int .i64 (↑(k + 1))) ?_; intro a210 F210
      refine wpList_nil ?_
      exact hK34 _ _ _ (by first | omega | (simp; omega)) ⟨A167, c167, k + 1, rfl, (F210.kk 6 (F210.kk 14 (F210.kk 15 (F210.kk 16 (F210.kk 17 (F210.kk 18 (F210.kk 31 (F210.kk 32 (F210.kk 33 F210.nil))))))))), S208.p2.drop.p2.drop.p1.p1.p6.p6.p6.p6.p6, (by first | omega | (with_reducible assumption) | (simp; done))⟩
  · have hc_k : decide ((↑k : Int) < ↑cs.length) = false := by first | (simp; done) | (simp; omega)
    obtain rfl : k = cs.length := by omega
    rw [List.take_length] at S34
    refine wp_seq_k fun K211 hK211 => ?_
    refine wp_region_lit ?_
    refine op_q F34 (.bool (decide ((↑cs.length : Int) < ↑cs.length))) ?_; intro a212 F212
    have F213 := F212.sb 34 (by kernel_rfl) hc_k
    refine wpList_nil ?_
    refine hK211 _ _ ?_; clear hK211 K211
    refine wp_seq_k fun K214 hK214 => ?_
    refine wp_cond_false (F213.ev (by kernel_rfl)) ?_
    refine wp_exit ?_
    refine ex_then ?_; clear hK214 K214
    refine ex_then ?_
    refine ex_in ?_
    refine hK28 _ _ ?_; clear hK28 K28
    refine wp_seq_k fun K215 hK215 => ?_
    refine wp_region_lit ?_
    refine op_q F213 (.pointer (some ⟨g24, 0, none⟩)) ?_; intro a216 F216
    refine op_q F216 (.agg #[.pointer (some ⟨g24, 0, none⟩), .string ⟨#[]⟩]) ?_; intro a217 F217
    refine op_sq F217 (s_newp F217 195 #[.pointer (some ⟨g24, 0, none⟩), .string ⟨#[]⟩] (by kernel_rfl) (by kernel_rfl) (by kernel_rfl) S34) ?_
    rintro _ _ w219 ⟨g217, rfl, rfl⟩ S219 a219 F219
    refine op_rq (v := .agg #[.string os, .string arch, .func (.func 110) #[] #[.pointer (some ⟨g1, 0, none⟩)]]) F219 (r_ldm rfl (F219.e (.pointer (some ⟨g17, 0, none⟩))) (S219.bk 1 rfl) 3 (by kernel_rfl) Try.underlying185 rfl (by kernel_rfl) (v := #[.string os, .string arch, .func (.func 110) #[] #[.pointer (some ⟨g1, 0, none⟩)]]) (by kernel_rfl)) ?_; intro a220 F220
    refine op_q F220 (.slice (B) (extra.length) (db)) ?_; intro a221 F221
    refine op_cq F221 (f := 111) (args := #[.pointer (some ⟨g217, 0, none⟩), .agg #[.string os, .string arch, .func (.func 110) #[] #[.pointer (some ⟨g1, 0, none⟩)]], .slice (B) (extra.length) (db)]) (prepCmd_none os arch g1 Ap cp cs none 0 ([]) B db extra g217 g24 command ig _ _ _ S219 (fun w S => own_rowsT1 (S.ow 7 rfl) (by first | rfl | (simp; done) | omega) (by decide) (fun x => x.len) (by first | omega | (simp; omega))) (fun w S => S.bk 0 rfl) (fun w S => S.bk 6 rfl) (by first | omega | (simp; done) | (simp; omega)) (by first | omega | (simp; done) | (simp; omega)) (by first | exact hoa) (by first | exact haa) hcz hca (by first | omega | (simp; done) | (simp; omega)) hpk) ?_
    rintro _ w222 ⟨ge222, rfl, S222⟩
    refine ⟨_, rfl, ?_⟩
    intro a223 F223
    refine op_q F223 (.tuple #[.string ⟨#[]⟩, .slice none 0 0, .iface 279 (.pointer (some ⟨ge222, 0, none⟩))]) ?_; intro a224 F224
    refine op_q F224 (.string ⟨#[]⟩) ?_; intro a225 F225
    refine op_q F225 (.slice none 0 0) ?_; intro a226 F226
    refine op_q F226 (.iface 279 (.pointer (some ⟨ge222, 0, none⟩))) ?_; intro a227 F227
    refine op_sq0 F227 (s_st rfl (F227.e (.pointer (some ⟨g3, 0, none⟩))) (F227.e (.string ⟨#[]⟩)) S222.p4 (by kernel_rfl) rfl rfl rfl (cs := #[.string ⟨#[]⟩]) (by kernel_rfl)) ?_
    rintro _ _ w228 rfl S228 F228
    refine op_sq0 F228 (s_st rfl (F228.e (.pointer (some ⟨g5, 0, none⟩))) (F228.e (.slice none 0 0)) S228.p4 (by kernel_rfl) rfl rfl rfl (cs := #[.slice none 0 0]) (by kernel_rfl)) ?_
    rintro _ _ w229 rfl S229 F229
    refine op_q F229 (.iface 279 (.pointer (some ⟨ge222, 0, none⟩))) ?_; intro a230 F230
    refine wpList_nil ?_
    refine hK215 _ _ ?_; clear hK215 K215
    refine wp_seq_k fun K231 hK231 => ?_
    refine wp_seq_k fun K232 hK232 => ?_
    refine wp_region_lit ?_
    refine op_q F230 (.iface 279 (.pointer (some ⟨ge222, 0, none⟩))) ?_; intro a233 F233
    refine op_q F233 (.bool true) ?_; intro a234 F234
    refine wpList_nil ?_
    refine hK232 _ _ ?_; clear hK232 K232
    refine wp_cond_true (F234.ev (by kernel_rfl)) ?_
    refine wp_seq_k fun K235 hK235 => ?_
    refine wp_region_lit ?_
    refine op_sq0 F234 (s_st rfl (F234.e (.pointer (some ⟨g3, 0, none⟩))) (F234.e (.string ⟨#[]⟩)) S229.p1 (by kernel_rfl) rfl rfl rfl (cs := #[.string ⟨#[]⟩]) (by kernel_rfl)) ?_
    rintro _ _ w236 rfl S236 F236
    refine op_sq0 F236 (s_st rfl (F236.e (.pointer (some ⟨g5, 0, none⟩))) (F236.e (.slice none 0 0)) S236.p1 (by kernel_rfl) rfl rfl rfl (cs := #[.slice none 0 0]) (by kernel_rfl)) ?_
    rintro _ _ w237 rfl S237 F237
    refine op_sq0 F237 (s_st rfl (F237.e (.pointer (some ⟨g7, 0, none⟩))) (F237.e (.int .i64 1)) S237.p4 (by kernel_rfl) rfl rfl rfl (cs := #[.int .i64 1]) (by kernel_rfl)) ?_
    rintro _ _ w238 rfl S238 F238
    refine wpList_nil ?_
    refine hK235 _ _ ?_; clear hK235 K235
    refine wp_ret ?_
    refine ret_then ?_
    refine (F238.leaveD (f := 109) (args := #[.pointer (some ⟨g3, 0, none⟩), .pointer (some ⟨g5, 0, none⟩), .pointer (some ⟨g7, 0, none⟩)]) (by simp [go_sem]) (catch109 g3 g5 g7 _) (results3 Try.results56 (F238.rvc (p := ⟨g3, 0, none⟩) (by kernel_rfl) (load_one _ _ _ (.string ⟨#[]⟩) ((S238.bk 2 rfl).cell 0) _ Try.underlying9 rfl)) (F238.rvc (p := ⟨g5, 0, none⟩) (by kernel_rfl) (load_one _ _ _ (.slice none 0 0) ((S238.bk 1 rfl).cell 0) _ Try.underlying22 rfl)) (F238.rvc (p := ⟨g7, 0, none⟩) (by kernel_rfl) (load_one _ _ _ (.int .i64 1) ((S238.bk 0 rfl).cell 0) _ Try.underlying3 rfl))) ?_).1
    exact ⟨rfl, S238.drop.drop.drop.drop.drop.drop.drop.drop⟩
end Go.Proofs.Ytkjcedlgljeoiaa

/- spec.HlExpanded, by the quick walk. -/
namespace Go.Proofs.Ytkjcedlgljeoiaa
open Go.RowKit Go.Lib
set_option linter.unusedVariables false
set_option linter.unusedSimpArgs false
theorem und_hit {xs : List Ty108} {s : ByteArray} {q : Nat} (hu : undF xs s = undF (xs.take q) s) (h1 : 1 ≤ q) (h : q - 1 < xs.length) (e : (xs[q - 1].fKey.toList == s.toList) = true) : undF xs s = xs[q - 1].fText := by
  rw [hu]
  have h2 := undF_take (xs := xs) (s := s) h
  rw [show q - 1 + 1 = q by omega] at h2
  rw [h2, if_pos e]
theorem und_miss {xs : List Ty108} {s : ByteArray} {q : Nat} (hu : undF xs s = undF (xs.take q) s) (h1 : 1 ≤ q) (h : q - 1 < xs.length) (e : (xs[q - 1].fKey.toList == s.toList) = false) : undF xs s = undF (xs.take (q - 1)) s := by
  rw [hu]
  have h2 := undF_take (xs := xs) (s := s) h
  rw [show q - 1 + 1 = q by omega] at h2
  rw [h2, if_neg (by rw [e]; simp)]
theorem exd_var {xs : List Ty108} {s b b2 : ByteArray} {j n : Nat} (h : j + 1 < s.size) (e : s[j].toNat = 36) (hn : n = (vrF s j).2) (he : b ++ exF xs s j = exF xs s 0) (hb : b2 = b ++ pcF xs (vrF s j)) : b2 ++ exF xs s (j + n + 1) = exF xs s 0 := by
  subst hb; subst hn
  rw [← he, exF_var h e, show j + 1 + (vrF s j).2 = j + (vrF s j).2 + 1 by omega]
  simp only [ByteArray.append_assoc]
theorem exd_one {xs : List Ty108} {s b : ByteArray} {j : Nat} (h : j < s.size) (hn : s[j].toNat ≠ 36 ∨ j + 1 = s.size) (he : b ++ exF xs s j = exF xs s 0) : b ++ s.extract j (j + 1) ++ exF xs s (j + 1) = exF xs s 0 := by
  rw [← he, exF_one h hn]
  simp only [ByteArray.append_assoc]
set_option maxRecDepth 100000 in
set_option maxHeartbeats 20000000 in
theorem hlExpanded_any (A : Option Addr) (c : Nat) (xs : List Ty108) (s : ByteArray) (R : Ctx) (L : List SA) (w : World) (S : Sp R w (L)) (h0 : Rf R L fun w => Rows w (A) 2 (xs.map Ty108.cells)) (hs : s.size ≤ 1000) (hM : ∀ x ∈ xs, x.fText.size ≤ 2147483647) (ha : ∀ j, ∀ h : j < s.size, s[j].toNat ≤ 127) :
    Calls Try.prog 22 #[.string s, .slice (A) (xs.length) (c)] w fun e w' => e = .returned (.string (exF xs s 0)) ∧ Sp R w' (L) := by
  have hl_xs : xs.length ≤ 9223372036854775807 := by have := (h0 _ S).1; simpa [strs, ptrs] using this
  refine fw_enter (fn := Try.f22) rfl rfl 79 rfl (Nat.le_of_ble_eq_true rfl) ?_
  intro a0 F0
  refine wp_seq_k fun K1 hK1 => ?_
  refine wp_region_lit ?_
  refine op_p F0 (.string ⟨#[]⟩) (by kernel_rfl) rfl rfl rfl (by kernel_rfl) rfl ?_; intro a2 F2
  refine wpList_nil ?_
  refine hK1 _ _ ?_; clear hK1 K1
  refine wp_seq_k fun K3 hK3 => ?_
  refine wp_region_lit ?_
  refine op_p F2 (.string ⟨#[]⟩) (by kernel_rfl) rfl rfl rfl (by kernel_rfl) rfl ?_; intro a4 F4
  refine wpList_nil ?_
  refine hK3 _ _ ?_; clear hK3 K3
  refine wp_seq_k fun K5 hK5 => ?_
  refine wp_seq_k fun K6 hK6 => ?_
  refine wp_region_lit ?_
  refine op_p F4 (.int .i64 0) (by kernel_rfl) rfl rfl rfl (by kernel_rfl) rfl ?_; intro a7 F7
  refine wpList_nil ?_
  refine hK6 _ _ ?_; clear hK6 K6
  refine wp_block ?_
  refine fw_loop (fun m a' w' => ∃ b : ByteArray, ∃ j : Nat, s.size - j = m ∧ Fr 79 [] a' [(0, .string s), (1, .slice (A) (xs.length) (c)), (4, .string ⟨#[]⟩), (5, .string b), (6, .int .i64 (↑j))] ∧ Sp R w' (L) ∧ (j ≤ s.size) ∧ (b ++ exF xs s j = exF xs s 0) ∧ (b.size ≤ j * 4294967296)) _ ⟨⟨#[]⟩, 0, rfl, (F7.k 0 (by kernel_rfl) (F7.k 1 (by kernel_rfl) (F7.k 4 (by kernel_rfl) (F7.k 5 (by kernel_rfl) (F7.k 6 (by kernel_rfl) F7.nil))))), S, (by first | omega | (with_reducible assumption) | (simp; done)), (emp_app _), (by decide)⟩ ?_
  rintro m8 a8 w8 ⟨b, j, hm8, F8, S8, hj, he, hz⟩ K8 hK8
  by_cases hlt_j : j < s.size
  · have hc_j : decide ((↑j : Int) < ↑s.size) = true := by first | (simp; done) | (simp; omega)
    have hvl : ∀ h : j + 1 < s.size, j + 1 + (shF (s.extract (j + 1) s.size)).2 ≤ s.size := fun h => vrF_le h
    have hus : (undF xs (shF (s.extract (j + 1) s.size)).1).size ≤ 2147483647 := undF_size hM
    refine wp_seq_k fun K9 hK9 => ?_
    refine wp_seq_k fun K10 hK10 => ?_
    refine wp_region_lit ?_
    refine op_p F8 (.int .i64 (↑j)) (by kernel_rfl) rfl rfl rfl (by kernel_rfl) rfl ?_; intro a11 F11
    refine op_p F11 (.string s) (by kernel_rfl) rfl rfl rfl (by kernel_rfl) rfl ?_; intro a12 F12
    refine op_p F12 (.int .i64 (↑s.size)) (by kernel_rfl) rfl rfl rfl (by kernel_rfl) rfl ?_; intro a13 F13
    refine op_p F13 (.bool (decide ((↑j : Int) < ↑s.size))) (by kernel_rfl) rfl rfl rfl (by kernel_rfl) rfl ?_; intro a14 F14
    have F15 := F14.sb 13 (by kernel_rfl) hc_j
    refine wpList_nil ?_
    refine hK10 _ _ ?_; clear hK10 K10
    refine wp_cond_true (F15.ev (by kernel_rfl)) ?_
    refine wp_skip ?_
    refine hK9 _ _ ?_; clear hK9 K9
    refine wp_seq_k fun K16 hK16 => ?_
    refine wp_block ?_
    refine wp_seq_k fun K17 hK17 => ?_
    refine wp_seq_k fun K18 hK18 => ?_
    refine wp_region_lit ?_
    refine op_p F15 (.string s) (by kernel_rfl) rfl rfl rfl (by kernel_rfl) rfl ?_; intro a19 F19
    refine op_p F19 (.int .i64 (↑j)) (by kernel_rfl) rfl rfl rfl (by kernel_rfl) rfl ?_; intro a20 F20
    refine op_r (v := .int .u8 (↑s[j].toNat)) F20 (r_index rfl Try.underlying9 (F20.ev (v := .string s) (by kernel_rfl)) (F20.ev (v := .int .i64 (↑j)) (by kernel_rfl)) j (by first | rfl | omega | simp) (by first | omega | (simp; done) | (simp; omega))) rfl rfl rfl ?_; intro a21 F21
    refine op_p F21 (.bool (!((↑s[j].toNat : Int) == 36))) (by kernel_rfl) rfl rfl rfl (by kernel_rfl) rfl ?_; intro a22 F22
    refine op_p F22 (.bool (!((↑s[j].toNat : Int) == 36))) (by kernel_rfl) rfl rfl rfl (by kernel_rfl) rfl ?_; intro a23 F23
    rcases btf ((↑s[j].toNat : Int) == 36) with hc24 | hc24
    · have hc24p := eq_of_beq hc24
      have F25 := F23.sb 19 (by kernel_rfl) (show (!((↑s[j].toNat : Int) == 36)) = false by rw [hc24]; rfl)
      have F26 := F25.sb 20 (by kernel_rfl) (show (!((↑s[j].toNat : Int) == 36)) = false by rw [hc24]; rfl)
      refine op_want F26 (by kernel_rfl) rfl ?_
      refine op_p F26 (.int .i64 (↑j)) (by kernel_rfl) rfl rfl rfl (by kernel_rfl) rfl ?_; intro a27 F27
      refine op_want F27 (by kernel_rfl) rfl ?_
      refine op_r (v := .int .i64 (↑(j + 1))) F27 (r_add (z := ↑(j + 1)) rfl (F27.ev (v := .int .i64 (↑j)) (by kernel_rfl)) (F27.ev (v := .int .i64 1) (by kernel_rfl)) (wr64 (by omega) (by omega) (by omega))) rfl rfl rfl ?_; intro a28 F28
      refine op_want F28 (by kernel_rfl) rfl ?_
      refine op_p F28 (.string s) (by kernel_rfl) rfl rfl rfl (by kernel_rfl) rfl ?_; intro a29 F29
      refine op_want F29 (by kernel_rfl) rfl ?_
      refine op_p F29 (.int .i64 (↑s.size)) (by kernel_rfl) rfl rfl rfl (by kernel_rfl) rfl ?_; intro a30 F30
      refine op_want F30 (by kernel_rfl) rfl ?_
      refine op_p F30 (.bool ((↑(j + 1) : Int) == ↑s.size)) (by kernel_rfl) rfl rfl rfl (by kernel_rfl) rfl ?_; intro a31 F31
      refine op_p F31 (.bool ((↑(j + 1) : Int) == ↑s.size)) (by kernel_rfl) rfl rfl rfl (by kernel_rfl) rfl ?_; intro a32 F32
      refine wpList_nil ?_
      refine hK18 _ _ ?_; clear hK18 K18
      rcases btf ((↑(j + 1) : Int) == ↑s.size) with hc33 | hc33
      · have hc33p := eq_of_beq hc33
        have F34 := F32.sb 25 (by kernel_rfl) hc33
        have F35 := F34.sb 26 (by kernel_rfl) hc33
        refine wp_cond_true (F35.ev (by kernel_rfl)) ?_
        refine wp_seq_k fun K36 hK36 => ?_
        refine wp_region_lit ?_
        refine op_p F35 (.string b) (by kernel_rfl) rfl rfl rfl (by kernel_rfl) rfl ?_; intro a37 F37
        refine op_p F37 (.string s) (by kernel_rfl) rfl rfl rfl (by kernel_rfl) rfl ?_; intro a38 F38
        refine op_p F38 (.int .i64 (↑j)) (by kernel_rfl) rfl rfl rfl (by kernel_rfl) rfl ?_; intro a39 F39
        refine op_p F39 (.int .i64 (↑j)) (by kernel_rfl) rfl rfl rfl (by kernel_rfl) rfl ?_; intro a40 F40
        refine op_r (v := .int .i64 (↑(j + 1))) F40 (r_add (z := ↑(j + 1)) rfl (F40.ev (v := .int .i64 (↑j)) (by kernel_rfl)) (F40.ev (v := .int .i64 1) (by kernel_rfl)) (wr64 (by omega) (by omega) (by omega))) rfl rfl rfl ?_; intro a41 F41
        refine op_r (v := .string (s.extract j (j + 1))) F41 (r_sllh rfl Try.underlying9 (F41.ev (v := .string s) (by kernel_rfl)) (F41.ev (v := .int .i64 (↑j)) (by kernel_rfl)) (F41.ev (v := .int .i64 (↑(j + 1))) (by kernel_rfl))  j (j + 1) (by first | rfl | omega | (simp; done) | (simp; omega)) (by first | omega | (simp; done) | (simp; omega)) (rfl)) rfl rfl rfl ?_; intro a42 F42
        refine op_r (v := .string (b ++ (s.extract j (j + 1)))) F42 (r_sadd rfl (F42.ev (v := .string b) (by kernel_rfl)) (F42.ev (v := .string (s.extract j (j + 1))) (by kernel_rfl)) (by first | omega | (simp only [ByteArray.size_append, ByteArray.size_extract, sz1]; omega) | (have := hM _ (List.getElem_mem hq); simp only [ByteArray.size_append, sz1]; omega) | (have := hM _ (List.getElem_mem hq); omega))) rfl rfl rfl ?_; intro a43 F43
        refine op_p F43 (.string (b ++ (s.extract j (j + 1)))) (by kernel_rfl) rfl rfl rfl (by kernel_rfl) rfl ?_; intro a44 F44
        refine wpList_nil ?_
        refine hK36 _ _ ?_; clear hK36 K36
        refine wp_exit ?_
        refine ex_then ?_; clear hK17 K17
        refine ex_in ?_
        refine hK16 _ _ ?_; clear hK16 K16
        refine wp_region_lit ?_
        refine op_p F44 (.int .i64 (↑j)) (by kernel_rfl) rfl rfl rfl (by kernel_rfl) rfl ?_; intro a45 F45
        refine op_r (v := .int .i64 (↑(j + 1))) F45 (r_add (z := ↑(j + 1)) rfl (F45.ev (v := .int .i64 (↑j)) (by kernel_rfl)) (F45.ev (v := .int .i64 1) (by kernel_rfl)) (wr64 (by omega) (by omega) (by omega))) rfl rfl rfl ?_; intro a46 F46
        refine op_p F46 (.int .i64 (↑(j + 1))) (by kernel_rfl) rfl rfl rfl (by kernel_rfl) rfl ?_; intro a47 F47
        refine wpList_nil ?_
        exact hK8 _ _ _ (by first | omega | (simp; omega)) ⟨b ++ (s.extract j (j + 1)), j + 1, rfl, (F47.k 0 (by kernel_rfl) (F47.k 1 (by kernel_rfl) (F47.k 4 (by kernel_rfl) (F47.k 5 (by kernel_rfl) (F47.k 6 (by kernel_rfl) F47.nil))))), S8, (by first | omega | (with_reducible assumption) | (simp; done)), (exd_one hlt_j (Or.inr (by omega)) he), (by simp only [ByteArray.size_append, ByteArray.size_extract]; omega)⟩
      · have hc33p := ne_of_beq_false hc33
        have F48 := F32.sb 25 (by kernel_rfl) hc33
        have F49 := F48.sb 26 (by kernel_rfl) hc33
        refine wp_cond_false (F49.ev (by kernel_rfl)) ?_
        refine wp_skip ?_
        refine hK17 _ _ ?_; clear hK17 K17
        refine wp_seq_k fun K50 hK50 => ?_
        refine wp_region_lit ?_
        refine op_p F49 (.string s) (by kernel_rfl) rfl rfl rfl (by kernel_rfl) rfl ?_; intro a51 F51
        refine op_p F51 (.int .i64 (↑j)) (by kernel_rfl) rfl rfl rfl (by kernel_rfl) rfl ?_; intro a52 F52
        refine op_r (v := .int .i64 (↑(j + 1))) F52 (r_add (z := ↑(j + 1)) rfl (F52.ev (v := .int .i64 (↑j)) (by kernel_rfl)) (F52.ev (v := .int .i64 1) (by kernel_rfl)) (wr64 (by omega) (by omega) (by omega))) rfl rfl rfl ?_; intro a53 F53
        refine op_r (v := .string (s.extract (j + 1) s.size)) F53 (r_sll rfl Try.underlying9 (F53.ev (v := .string s) (by kernel_rfl)) (F53.ev (v := .int .i64 (↑(j + 1))) (by kernel_rfl))  (j + 1) s.size (by first | rfl | omega | (simp; done) | (simp; omega)) (by first | omega | (simp; done) | (simp; omega)) (rfl)) rfl rfl rfl ?_; intro a54 F54
        refine op_c F54 (f := 72) (args := #[.string (s.extract (j + 1) s.size)]) (by kernel_rfl) (by kernel_rfl) rfl (hlVariable_any (s.extract (j + 1) s.size) _ (by simp; omega) (by simp; omega) (by intro k hk; rw [ByteArray.getElem_extract]; exact ha _ _)) rfl rfl rfl ?_
        rintro _ w55 ⟨rfl, hb_55⟩
        refine ⟨_, rfl, ?_⟩
        intro a56 F56
        have S55 := S8.below hb_55
        refine op_p F56 (.tuple #[.string ((shF (s.extract (j + 1) s.size)).1), .int .i64 (↑(shF (s.extract (j + 1) s.size)).2)]) (by kernel_rfl) rfl rfl rfl (by kernel_rfl) rfl ?_; intro a57 F57
        refine op_p F57 (.string ((shF (s.extract (j + 1) s.size)).1)) (by kernel_rfl) rfl rfl rfl (by kernel_rfl) rfl ?_; intro a58 F58
        refine op_p F58 (.int .i64 (↑(shF (s.extract (j + 1) s.size)).2)) (by kernel_rfl) rfl rfl rfl (by kernel_rfl) rfl ?_; intro a59 F59
        refine op_p F59 (.string ((shF (s.extract (j + 1) s.size)).1)) (by kernel_rfl) rfl rfl rfl (by kernel_rfl) rfl ?_; intro a60 F60
        refine op_p F60 (.int .i64 (↑(shF (s.extract (j + 1) s.size)).2)) (by kernel_rfl) rfl rfl rfl (by kernel_rfl) rfl ?_; intro a61 F61
        refine wpList_nil ?_
        refine hK50 _ _ ?_; clear hK50 K50
        refine wp_seq_k fun K62 hK62 => ?_
        refine wp_seq_k fun K63 hK63 => ?_
        refine wp_region_lit ?_
        refine op_p F61 (.string ((shF (s.extract (j + 1) s.size)).1)) (by kernel_rfl) rfl rfl rfl (by kernel_rfl) rfl ?_; intro a64 F64
        refine op_p F64 (.bool (((shF (s.extract (j + 1) s.size)).1).toList == (⟨#[]⟩ : ByteArray).toList)) (by kernel_rfl) rfl rfl rfl (by kernel_rfl) rfl ?_; intro a65 F65
        refine op_p F65 (.bool (((shF (s.extract (j + 1) s.size)).1).toList == (⟨#[]⟩ : ByteArray).toList)) (by kernel_rfl) rfl rfl rfl (by kernel_rfl) rfl ?_; intro a66 F66
        rcases btf (((shF (s.extract (j + 1) s.size)).1).toList == (⟨#[]⟩ : ByteArray).toList) with hc67 | hc67
        · have F68 := F66.sb 43 (by kernel_rfl) hc67
          have F69 := F68.sb 44 (by kernel_rfl) hc67
          refine op_want F69 (by kernel_rfl) rfl ?_
          refine op_p F69 (.int .i64 (↑(shF (s.extract (j + 1) s.size)).2)) (by kernel_rfl) rfl rfl rfl (by kernel_rfl) rfl ?_; intro a70 F70
          refine op_want F70 (by kernel_rfl) rfl ?_
          refine op_p F70 (.bool ((↑(shF (s.extract (j + 1) s.size)).2 : Int) == 0)) (by kernel_rfl) rfl rfl rfl (by kernel_rfl) rfl ?_; intro a71 F71
          refine op_p F71 (.bool ((↑(shF (s.extract (j + 1) s.size)).2 : Int) == 0)) (by kernel_rfl) rfl rfl rfl (by kernel_rfl) rfl ?_; intro a72 F72
          refine wpList_nil ?_
          refine hK63 _ _ ?_; clear hK63 K63
          rcases btf ((↑(shF (s.extract (j + 1) s.size)).2 : Int) == 0) with hc73 | hc73
          · have hc73p := eq_of_beq hc73
            have F74 := F72.sb 46 (by kernel_rfl) hc73
            have F75 := F74.sb 47 (by kernel_rfl) hc73
            refine wp_cond_true (F75.ev (by kernel_rfl)) ?_
            refine wp_region_lit ?_
            refine op_p F75 (.string b) (by kernel_rfl) rfl rfl rfl (by kernel_rfl) rfl ?_; intro a76 F76
            refine op_r (v := .string (b ++ (⟨#[36]⟩ : ByteArray))) F76 (r_sadd rfl (F76.ev (v := .string b) (by kernel_rfl)) (F76.ev (v := .string ⟨#[36]⟩) (by kernel_rfl)) (by first | omega | (simp only [ByteArray.size_append, ByteArray.size_extract, sz1]; omega) | (have := hM _ (List.getElem_mem hq); simp only [ByteArray.size_append, sz1]; omega) | (have := hM _ (List.getElem_mem hq); omega))) rfl rfl rfl ?_; intro a77 F77
            refine op_p F77 (.string (b ++ (⟨#[36]⟩ : ByteArray))) (by kernel_rfl) rfl rfl rfl (by kernel_rfl) rfl ?_; intro a78 F78
            refine wpList_nil ?_
            refine hK62 _ _ ?_; clear hK62 K62
            refine fw_cut (fun a' w' => ∃ b2 : ByteArray, Fr 79 [] a' [(0, .string s), (1, .slice (A) (xs.length) (c)), (4, .string ⟨#[]⟩), (5, .string b2), (6, .int .i64 (↑j)), (7, .string ((shF (s.extract (j + 1) s.size)).1)), (8, .int .i64 (↑(shF (s.extract (j + 1) s.size)).2)), (10, .int .i64 (↑j)), (11, .string s), (12, .int .i64 (↑s.size)), (13, .bool true), (16, .string s), (17, .int .i64 (↑j)), (18, .int .u8 (↑s[j].toNat)), (19, .bool false), (20, .bool false), (21, .int .i64 (↑j)), (22, .int .i64 (↑(j + 1))), (23, .string s), (24, .int .i64 (↑s.size)), (25, .bool false), (26, .bool false), (34, .tuple #[.string ((shF (s.extract (j + 1) s.size)).1), .int .i64 (↑(shF (s.extract (j + 1) s.size)).2)]), (35, .string s), (36, .int .i64 (↑j)), (37, .int .i64 (↑(j + 1))), (38, .string (s.extract (j + 1) s.size)), (39, .tuple #[.string ((shF (s.extract (j + 1) s.size)).1), .int .i64 (↑(shF (s.extract (j + 1) s.size)).2)]), (40, .string ((shF (s.extract (j + 1) s.size)).1)), (41, .int .i64 (↑(shF (s.extract (j + 1) s.size)).2)), (42, .string ((shF (s.extract (j + 1) s.size)).1)), (43, .bool true), (44, .bool true), (45, .int .i64 (↑(shF (s.extract (j + 1) s.size)).2)), (46, .bool true), (47, .bool true), (48, .string b), (49, .string (b ++ (⟨#[36]⟩ : ByteArray)))] ∧ Sp R w' (L) ∧ (b2 = b ++ pcF xs (vrF s j)) ∧ (j + 1 < s.size) ∧ (s[j].toNat = 36)) ?_ ?_
            · intro K79 hK79
              refine wp_seq_k fun K80 hK80 => ?_
              refine wp_region_lit ?_
              refine op_p F78 (.slice (A) (xs.length) (c)) (by kernel_rfl) rfl rfl rfl (by kernel_rfl) rfl ?_; intro a81 F81
              refine op_p F81 (.int .i64 (↑xs.length)) (by kernel_rfl) rfl rfl rfl (by kernel_rfl) rfl ?_; intro a82 F82
              refine op_r (v := .int .i64 (↑xs.length - 1)) F82 (r_sub (z := (↑xs.length - 1)) rfl (F82.ev (v := .int .i64 (↑xs.length)) (by kernel_rfl)) (F82.ev (v := .int .i64 1) (by kernel_rfl)) (wr64 (by omega) (by omega) (by omega))) rfl rfl rfl ?_; intro a83 F83
              refine op_p F83 (.int .i64 (↑xs.length - 1)) (by kernel_rfl) rfl rfl rfl (by kernel_rfl) rfl ?_; intro a84 F84
              refine wpList_nil ?_
              refine hK80 _ _ ?_; clear hK80 K80
              refine wp_block ?_
              refine fw_loop (fun m a' w' => ∃ q : Nat, q = m ∧ Fr 79 [] a' [(0, .string s), (1, .slice (A) (xs.length) (c)), (4, .string ⟨#[]⟩), (5, .string (b ++ (⟨#[36]⟩ : ByteArray))), (6, .int .i64 (↑j)), (7, .string ((shF (s.extract (j + 1) s.size)).1)), (8, .int .i64 (↑(shF (s.extract (j + 1) s.size)).2)), (9, .int .i64 (↑q - 1)), (10, .int .i64 (↑j)), (11, .string s), (12, .int .i64 (↑s.size)), (13, .bool true), (16, .string s), (17, .int .i64 (↑j)), (18, .int .u8 (↑s[j].toNat)), (19, .bool false), (20, .bool false), (21, .int .i64 (↑j)), (22, .int .i64 (↑(j + 1))), (23, .string s), (24, .int .i64 (↑s.size)), (25, .bool false), (26, .bool false), (34, .tuple #[.string ((shF (s.extract (j + 1) s.size)).1), .int .i64 (↑(shF (s.extract (j + 1) s.size)).2)]), (35, .string s), (36, .int .i64 (↑j)), (37, .int .i64 (↑(j + 1))), (38, .string (s.extract (j + 1) s.size)), (39, .tuple #[.string ((shF (s.extract (j + 1) s.size)).1), .int .i64 (↑(shF (s.extract (j + 1) s.size)).2)]), (40, .string ((shF (s.extract (j + 1) s.size)).1)), (41, .int .i64 (↑(shF (s.extract (j + 1) s.size)).2)), (42, .string ((shF (s.extract (j + 1) s.size)).1)), (43, .bool true), (44, .bool true), (45, .int .i64 (↑(shF (s.extract (j + 1) s.size)).2)), (46, .bool true), (47, .bool true), (48, .string b), (49, .string (b ++ (⟨#[36]⟩ : ByteArray))), (50, .slice (A) (xs.length) (c)), (51, .int .i64 (↑xs.length)), (52, .int .i64 (↑xs.length - 1))] ∧ Sp R w' (L) ∧ (q ≤ xs.length) ∧ (undF xs (shF (s.extract (j + 1) s.size)).1 = undF (xs.take q) (shF (s.extract (j + 1) s.size)).1)) _ ⟨xs.length, rfl, (F84.k 0 (by kernel_rfl) (F84.k 1 (by kernel_rfl) (F84.k 4 (by kernel_rfl) (F84.k 5 (by kernel_rfl) (F84.k 6 (by kernel_rfl) (F84.k 7 (by kernel_rfl) (F84.k 8 (by kernel_rfl) (F84.k 9 (by kernel_rfl) (F84.k 10 (by kernel_rfl) (F84.k 11 (by kernel_rfl) (F84.k 12 (by kernel_rfl) (F84.k 13 (by kernel_rfl) (F84.k 16 (by kernel_rfl) (F84.k 17 (by kernel_rfl) (F84.k 18 (by kernel_rfl) (F84.k 19 (by kernel_rfl) (F84.k 20 (by kernel_rfl) (F84.k 21 (by kernel_rfl) (F84.k 22 (by kernel_rfl) (F84.k 23 (by kernel_rfl) (F84.k 24 (by kernel_rfl) (F84.k 25 (by kernel_rfl) (F84.k 26 (by kernel_rfl) (F84.k 34 (by kernel_rfl) (F84.k 35 (by kernel_rfl) (F84.k 36 (by kernel_rfl) (F84.k 37 (by kernel_rfl) (F84.k 38 (by kernel_rfl) (F84.k 39 (by kernel_rfl) (F84.k 40 (by kernel_rfl) (F84.k 41 (by kernel_rfl) (F84.k 42 (by kernel_rfl) (F84.k 43 (by kernel_rfl) (F84.k 44 (by kernel_rfl) (F84.k 45 (by kernel_rfl) (F84.k 46 (by kernel_rfl) (F84.k 47 (by kernel_rfl) (F84.k 48 (by kernel_rfl) (F84.k 49 (by kernel_rfl) (F84.k 50 (by kernel_rfl) (F84.k 51 (by kernel_rfl) (F84.k 52 (by kernel_rfl) F84.nil)))))))))))))))))))))))))))))))))))))))))), S55, (by first | omega | (with_reducible assumption) | (simp; done)), (by rw [List.take_length])⟩ ?_
              rintro m85 a85 w85 ⟨q, hm85, F85, S85, hq0, hu⟩ K85 hK85
              refine wp_seq_k fun K86 hK86 => ?_
              refine wp_seq_k fun K87 hK87 => ?_
              refine wp_region_lit ?_
              refine op_p F85 (.int .i64 (↑q - 1)) (by kernel_rfl) rfl rfl rfl (by kernel_rfl) rfl ?_; intro a88 F88
              refine op_p F88 (.bool (decide ((0 : Int) ≤ (↑q - 1)))) (by kernel_rfl) rfl rfl rfl (by kernel_rfl) rfl ?_; intro a89 F89
              refine op_p F89 (.bool (decide ((0 : Int) ≤ (↑q - 1)))) (by kernel_rfl) rfl rfl rfl (by kernel_rfl) rfl ?_; intro a90 F90
              rcases btf (decide ((0 : Int) ≤ (↑q - 1))) with hc91 | hc91
              · have hq1 : 1 ≤ q := by have := of_decide_eq_true hc91; omega
                have hq : q - 1 < xs.length := by omega
                obtain ⟨ad92, hA92⟩ := (h0 _ S85).addr (by simp; omega)
                have F93 := F90.sb 54 (by kernel_rfl) hc91
                have F94 := F93.sb 55 (by kernel_rfl) hc91
                refine op_want F94 (by kernel_rfl) rfl ?_
                refine op_p F94 (.string ((shF (s.extract (j + 1) s.size)).1)) (by kernel_rfl) rfl rfl rfl (by kernel_rfl) rfl ?_; intro a95 F95
                refine op_want F95 (by kernel_rfl) rfl ?_
                refine op_p F95 (.bool (!(((shF (s.extract (j + 1) s.size)).1).toList == (⟨#[]⟩ : ByteArray).toList))) (by kernel_rfl) rfl rfl rfl (by kernel_rfl) rfl ?_; intro a96 F96
                have F97 := F96.sb 57 (by kernel_rfl) (show (!(((shF (s.extract (j + 1) s.size)).1).toList == (⟨#[]⟩ : ByteArray).toList)) = false by rw [hc67]; rfl)
                refine op_p F97 (.bool false) (by kernel_rfl) rfl rfl rfl (by kernel_rfl) rfl ?_; intro a98 F98
                refine wpList_nil ?_
                refine hK87 _ _ ?_; clear hK87 K87
                refine wp_cond_false (F98.ev (by kernel_rfl)) ?_
                refine wp_exit ?_
                refine ex_then ?_; clear hK86 K86
                refine ex_then ?_
                refine ex_in ?_
                exact hK79 _ _ ⟨b ++ (⟨#[36]⟩ : ByteArray), (F98.k 0 (by kernel_rfl) (F98.k 1 (by kernel_rfl) (F98.k 4 (by kernel_rfl) (F98.k 5 (by kernel_rfl) (F98.k 6 (by kernel_rfl) (F98.k 7 (by kernel_rfl) (F98.k 8 (by kernel_rfl) (F98.k 10 (by kernel_rfl) (F98.k 11 (by kernel_rfl) (F98.k 12 (by kernel_rfl) (F98.k 13 (by kernel_rfl) (F98.k 16 (by kernel_rfl) (F98.k 17 (by kernel_rfl) (F98.k 18 (by kernel_rfl) (F98.k 19 (by kernel_rfl) (F98.k 20 (by kernel_rfl) (F98.k 21 (by kernel_rfl) (F98.k 22 (by kernel_rfl) (F98.k 23 (by kernel_rfl) (F98.k 24 (by kernel_rfl) (F98.k 25 (by kernel_rfl) (F98.k 26 (by kernel_rfl) (F98.k 34 (by kernel_rfl) (F98.k 35 (by kernel_rfl) (F98.k 36 (by kernel_rfl) (F98.k 37 (by kernel_rfl) (F98.k 38 (by kernel_rfl) (F98.k 39 (by kernel_rfl) (F98.k 40 (by kernel_rfl) (F98.k 41 (by kernel_rfl) (F98.k 42 (by kernel_rfl) (F98.k 43 (by kernel_rfl) (F98.k 44 (by kernel_rfl) (F98.k 45 (by kernel_rfl) (F98.k 46 (by kernel_rfl) (F98.k 47 (by kernel_rfl) (F98.k 48 (by kernel_rfl) (F98.k 49 (by kernel_rfl) F98.nil)))))))))))))))))))))))))))))))))))))), S85, (by rw [show vrF s j = shF (s.extract (j + 1) s.size) from rfl, (pc_dol (p := shF (s.extract (j + 1) s.size)) hc67 (by omega))]), (by first | omega | (with_reducible assumption) | (simp; done)), (by first | omega | (with_reducible assumption) | (simp; done))⟩
              · have hc91p := of_decide_eq_false hc91
                have F99 := F90.sb 54 (by kernel_rfl) hc91
                have F100 := F99.sb 55 (by kernel_rfl) hc91
                refine op_skip F100 (by kernel_rfl) rfl rfl rfl ?_; intro a101 F101
                refine op_skip F101 (by kernel_rfl) rfl rfl rfl ?_; intro a102 F102
                refine op_p F102 (.bool false) (by kernel_rfl) rfl rfl rfl (by kernel_rfl) rfl ?_; intro a103 F103
                refine wpList_nil ?_
                refine hK87 _ _ ?_; clear hK87 K87
                refine wp_cond_false (F103.ev (by kernel_rfl)) ?_
                refine wp_exit ?_
                refine ex_then ?_; clear hK86 K86
                refine ex_then ?_
                refine ex_in ?_
                exact hK79 _ _ ⟨b ++ (⟨#[36]⟩ : ByteArray), (F103.k 0 (by kernel_rfl) (F103.k 1 (by kernel_rfl) (F103.k 4 (by kernel_rfl) (F103.k 5 (by kernel_rfl) (F103.k 6 (by kernel_rfl) (F103.k 7 (by kernel_rfl) (F103.k 8 (by kernel_rfl) (F103.k 10 (by kernel_rfl) (F103.k 11 (by kernel_rfl) (F103.k 12 (by kernel_rfl) (F103.k 13 (by kernel_rfl) (F103.k 16 (by kernel_rfl) (F103.k 17 (by kernel_rfl) (F103.k 18 (by kernel_rfl) (F103.k 19 (by kernel_rfl) (F103.k 20 (by kernel_rfl) (F103.k 21 (by kernel_rfl) (F103.k 22 (by kernel_rfl) (F103.k 23 (by kernel_rfl) (F103.k 24 (by kernel_rfl) (F103.k 25 (by kernel_rfl) (F103.k 26 (by kernel_rfl) (F103.k 34 (by kernel_rfl) (F103.k 35 (by kernel_rfl) (F103.k 36 (by kernel_rfl) (F103.k 37 (by kernel_rfl) (F103.k 38 (by kernel_rfl) (F103.k 39 (by kernel_rfl) (F103.k 40 (by kernel_rfl) (F103.k 41 (by kernel_rfl) (F103.k 42 (by kernel_rfl) (F103.k 43 (by kernel_rfl) (F103.k 44 (by kernel_rfl) (F103.k 45 (by kernel_rfl) (F103.k 46 (by kernel_rfl) (F103.k 47 (by kernel_rfl) (F103.k 48 (by kernel_rfl) (F103.k 49 (by kernel_rfl) F103.nil)))))))))))))))))))))))))))))))))))))), S85, (by rw [show vrF s j = shF (s.extract (j + 1) s.size) from rfl, (pc_dol (p := shF (s.extract (j + 1) s.size)) hc67 (by omega))]), (by first | omega | (with_reducible assumption) | (simp; done)), (by first | omega | (with_reducible assumption) | (simp; done))⟩
            · rintro a104 w104 ⟨b2, F104, S104, hb2, hj1, e36⟩
              refine wp_region_lit ?_
              refine op_p F104 (.int .i64 (↑j)) (by kernel_rfl) rfl rfl rfl (by kernel_rfl) rfl ?_; intro a105 F105
              refine op_p F105 (.int .i64 (↑(shF (s.extract (j + 1) s.size)).2)) (by kernel_rfl) rfl rfl rfl (by kernel_rfl) rfl ?_; intro a106 F106
              refine op_r (v := .int .i64 (↑j + ↑(shF (s.extract (j + 1) s.size)).2)) F106 (r_add (z := (↑j + ↑(shF (s.extract (j + 1) s.size)).2)) rfl (F106.ev (v := .int .i64 (↑j)) (by kernel_rfl)) (F106.ev (v := .int .i64 (↑(shF (s.extract (j + 1) s.size)).2)) (by kernel_rfl)) (wr64 (by omega) (by omega) (by omega))) rfl rfl rfl ?_; intro a107 F107
              refine op_p F107 (.int .i64 (↑j + ↑(shF (s.extract (j + 1) s.size)).2)) (by kernel_rfl) rfl rfl rfl (by kernel_rfl) rfl ?_; intro a108 F108
              refine wpList_nil ?_
              refine hK16 _ _ ?_; clear hK16 K16
              refine wp_region_lit ?_
              refine op_p F108 (.int .i64 (↑j + ↑(shF (s.extract (j + 1) s.size)).2)) (by kernel_rfl) rfl rfl rfl (by kernel_rfl) rfl ?_; intro a109 F109
              refine op_r (v := .int .i64 ((↑j + ↑(shF (s.extract (j + 1) s.size)).2) + 1)) F109 (r_add (z := ((↑j + ↑(shF (s.extract (j + 1) s.size)).2) + 1)) rfl (F109.ev (v := .int .i64 (↑j + ↑(shF (s.extract (j + 1) s.size)).2)) (by kernel_rfl)) (F109.ev (v := .int .i64 1) (by kernel_rfl)) (wr64 (by omega) (by omega) (by omega))) rfl rfl rfl ?_; intro a110 F110
              refine op_p F110 (.int .i64 ((↑j + ↑(shF (s.extract (j + 1) s.size)).2) + 1)) (by kernel_rfl) rfl rfl rfl (by kernel_rfl) rfl ?_; intro a111 F111
              refine wpList_nil ?_
              exact hK8 _ _ _ (by first | omega | (simp; omega)) ⟨b2, _, rfl, (F111.k 0 (by kernel_rfl) (F111.k 1 (by kernel_rfl) (F111.k 4 (by kernel_rfl) (F111.k 5 (by kernel_rfl) (F111.k 6 (by kernel_rfl) F111.nil))))), S104, (by first | omega | (with_reducible assumption) | (simp; done)), (exd_var (n := (shF (s.extract (j + 1) s.size)).2) hj1 e36 rfl he hb2), (by have := pcF_size (xs := xs) (n := 2147483647) (by omega) hM (vrF s j); rw [hb2, ByteArray.size_append]; omega)⟩
          · have hc73p := ne_of_beq_false hc73
            have F112 := F72.sb 46 (by kernel_rfl) hc73
            have F113 := F112.sb 47 (by kernel_rfl) hc73
            refine wp_cond_false (F113.ev (by kernel_rfl)) ?_
            refine wp_skip ?_
            refine hK62 _ _ ?_; clear hK62 K62
            refine fw_cut (fun a' w' => ∃ b2 : ByteArray, Fr 79 [] a' [(0, .string s), (1, .slice (A) (xs.length) (c)), (4, .string ⟨#[]⟩), (5, .string b2), (6, .int .i64 (↑j)), (7, .string ((shF (s.extract (j + 1) s.size)).1)), (8, .int .i64 (↑(shF (s.extract (j + 1) s.size)).2)), (10, .int .i64 (↑j)), (11, .string s), (12, .int .i64 (↑s.size)), (13, .bool true), (16, .string s), (17, .int .i64 (↑j)), (18, .int .u8 (↑s[j].toNat)), (19, .bool false), (20, .bool false), (21, .int .i64 (↑j)), (22, .int .i64 (↑(j + 1))), (23, .string s), (24, .int .i64 (↑s.size)), (25, .bool false), (26, .bool false), (34, .tuple #[.string ((shF (s.extract (j + 1) s.size)).1), .int .i64 (↑(shF (s.extract (j + 1) s.size)).2)]), (35, .string s), (36, .int .i64 (↑j)), (37, .int .i64 (↑(j + 1))), (38, .string (s.extract (j + 1) s.size)), (39, .tuple #[.string ((shF (s.extract (j + 1) s.size)).1), .int .i64 (↑(shF (s.extract (j + 1) s.size)).2)]), (40, .string ((shF (s.extract (j + 1) s.size)).1)), (41, .int .i64 (↑(shF (s.extract (j + 1) s.size)).2)), (42, .string ((shF (s.extract (j + 1) s.size)).1)), (43, .bool true), (44, .bool true), (45, .int .i64 (↑(shF (s.extract (j + 1) s.size)).2)), (46, .bool false), (47, .bool false)] ∧ Sp R w' (L) ∧ (b2 = b ++ pcF xs (vrF s j)) ∧ (j + 1 < s.size) ∧ (s[j].toNat = 36)) ?_ ?_
            · intro K114 hK114
              refine wp_seq_k fun K115 hK115 => ?_
              refine wp_region_lit ?_
              refine op_p F113 (.slice (A) (xs.length) (c)) (by kernel_rfl) rfl rfl rfl (by kernel_rfl) rfl ?_; intro a116 F116
              refine op_p F116 (.int .i64 (↑xs.length)) (by kernel_rfl) rfl rfl rfl (by kernel_rfl) rfl ?_; intro a117 F117
              refine op_r (v := .int .i64 (↑xs.length - 1)) F117 (r_sub (z := (↑xs.length - 1)) rfl (F117.ev (v := .int .i64 (↑xs.length)) (by kernel_rfl)) (F117.ev (v := .int .i64 1) (by kernel_rfl)) (wr64 (by omega) (by omega) (by omega))) rfl rfl rfl ?_; intro a118 F118
              refine op_p F118 (.int .i64 (↑xs.length - 1)) (by kernel_rfl) rfl rfl rfl (by kernel_rfl) rfl ?_; intro a119 F119
              refine wpList_nil ?_
              refine hK115 _ _ ?_; clear hK115 K115
              refine wp_block ?_
              refine fw_loop (fun m a' w' => ∃ q : Nat, q = m ∧ Fr 79 [] a' [(0, .string s), (1, .slice (A) (xs.length) (c)), (4, .string ⟨#[]⟩), (5, .string b), (6, .int .i64 (↑j)), (7, .string ((shF (s.extract (j + 1) s.size)).1)), (8, .int .i64 (↑(shF (s.extract (j + 1) s.size)).2)), (9, .int .i64 (↑q - 1)), (10, .int .i64 (↑j)), (11, .string s), (12, .int .i64 (↑s.size)), (13, .bool true), (16, .string s), (17, .int .i64 (↑j)), (18, .int .u8 (↑s[j].toNat)), (19, .bool false), (20, .bool false), (21, .int .i64 (↑j)), (22, .int .i64 (↑(j + 1))), (23, .string s), (24, .int .i64 (↑s.size)), (25, .bool false), (26, .bool false), (34, .tuple #[.string ((shF (s.extract (j + 1) s.size)).1), .int .i64 (↑(shF (s.extract (j + 1) s.size)).2)]), (35, .string s), (36, .int .i64 (↑j)), (37, .int .i64 (↑(j + 1))), (38, .string (s.extract (j + 1) s.size)), (39, .tuple #[.string ((shF (s.extract (j + 1) s.size)).1), .int .i64 (↑(shF (s.extract (j + 1) s.size)).2)]), (40, .string ((shF (s.extract (j + 1) s.size)).1)), (41, .int .i64 (↑(shF (s.extract (j + 1) s.size)).2)), (42, .string ((shF (s.extract (j + 1) s.size)).1)), (43, .bool true), (44, .bool true), (45, .int .i64 (↑(shF (s.extract (j + 1) s.size)).2)), (46, .bool false), (47, .bool false), (50, .slice (A) (xs.length) (c)), (51, .int .i64 (↑xs.length)), (52, .int .i64 (↑xs.length - 1))] ∧ Sp R w' (L) ∧ (q ≤ xs.length) ∧ (undF xs (shF (s.extract (j + 1) s.size)).1 = undF (xs.take q) (shF (s.extract (j + 1) s.size)).1)) _ ⟨xs.length, rfl, (F119.k 0 (by kernel_rfl) (F119.k 1 (by kernel_rfl) (F119.k 4 (by kernel_rfl) (F119.k 5 (by kernel_rfl) (F119.k 6 (by kernel_rfl) (F119.k 7 (by kernel_rfl) (F119.k 8 (by kernel_rfl) (F119.k 9 (by kernel_rfl) (F119.k 10 (by kernel_rfl) (F119.k 11 (by kernel_rfl) (F119.k 12 (by kernel_rfl) (F119.k 13 (by kernel_rfl) (F119.k 16 (by kernel_rfl) (F119.k 17 (by kernel_rfl) (F119.k 18 (by kernel_rfl) (F119.k 19 (by kernel_rfl) (F119.k 20 (by kernel_rfl) (F119.k 21 (by kernel_rfl) (F119.k 22 (by kernel_rfl) (F119.k 23 (by kernel_rfl) (F119.k 24 (by kernel_rfl) (F119.k 25 (by kernel_rfl) (F119.k 26 (by kernel_rfl) (F119.k 34 (by kernel_rfl) (F119.k 35 (by kernel_rfl) (F119.k 36 (by kernel_rfl) (F119.k 37 (by kernel_rfl) (F119.k 38 (by kernel_rfl) (F119.k 39 (by kernel_rfl) (F119.k 40 (by kernel_rfl) (F119.k 41 (by kernel_rfl) (F119.k 42 (by kernel_rfl) (F119.k 43 (by kernel_rfl) (F119.k 44 (by kernel_rfl) (F119.k 45 (by kernel_rfl) (F119.k 46 (by kernel_rfl) (F119.k 47 (by kernel_rfl) (F119.k 50 (by kernel_rfl) (F119.k 51 (by kernel_rfl) (F119.k 52 (by kernel_rfl) F119.nil)))))))))))))))))))))))))))))))))))))))), S55, (by first | omega | (with_reducible assumption) | (simp; done)), (by rw [List.take_length])⟩ ?_
              rintro m120 a120 w120 ⟨q, hm120, F120, S120, hq0, hu⟩ K120 hK120
              refine wp_seq_k fun K121 hK121 => ?_
              refine wp_seq_k fun K122 hK122 => ?_
              refine wp_region_lit ?_
              refine op_p F120 (.int .i64 (↑q - 1)) (by kernel_rfl) rfl rfl rfl (by kernel_rfl) rfl ?_; intro a123 F123
              refine op_p F123 (.bool (decide ((0 : Int) ≤ (↑q - 1)))) (by kernel_rfl) rfl rfl rfl (by kernel_rfl) rfl ?_; intro a124 F124
              refine op_p F124 (.bool (decide ((0 : Int) ≤ (↑q - 1)))) (by kernel_rfl) rfl rfl rfl (by kernel_rfl) rfl ?_; intro a125 F125
              rcases btf (decide ((0 : Int) ≤ (↑q - 1))) with hc126 | hc126
              · have hq1 : 1 ≤ q := by have := of_decide_eq_true hc126; omega
                have hq : q - 1 < xs.length := by omega
                obtain ⟨ad127, hA127⟩ := (h0 _ S120).addr (by simp; omega)
                have F128 := F125.sb 54 (by kernel_rfl) hc126
                have F129 := F128.sb 55 (by kernel_rfl) hc126
                refine op_want F129 (by kernel_rfl) rfl ?_
                refine op_p F129 (.string ((shF (s.extract (j + 1) s.size)).1)) (by kernel_rfl) rfl rfl rfl (by kernel_rfl) rfl ?_; intro a130 F130
                refine op_want F130 (by kernel_rfl) rfl ?_
                refine op_p F130 (.bool (!(((shF (s.extract (j + 1) s.size)).1).toList == (⟨#[]⟩ : ByteArray).toList))) (by kernel_rfl) rfl rfl rfl (by kernel_rfl) rfl ?_; intro a131 F131
                have F132 := F131.sb 57 (by kernel_rfl) (show (!(((shF (s.extract (j + 1) s.size)).1).toList == (⟨#[]⟩ : ByteArray).toList)) = false by rw [hc67]; rfl)
                refine op_p F132 (.bool false) (by kernel_rfl) rfl rfl rfl (by kernel_rfl) rfl ?_; intro a133 F133
                refine wpList_nil ?_
                refine hK122 _ _ ?_; clear hK122 K122
                refine wp_cond_false (F133.ev (by kernel_rfl)) ?_
                refine wp_exit ?_
                refine ex_then ?_; clear hK121 K121
                refine ex_then ?_
                refine ex_in ?_
                exact hK114 _ _ ⟨b, (F133.k 0 (by kernel_rfl) (F133.k 1 (by kernel_rfl) (F133.k 4 (by kernel_rfl) (F133.k 5 (by kernel_rfl) (F133.k 6 (by kernel_rfl) (F133.k 7 (by kernel_rfl) (F133.k 8 (by kernel_rfl) (F133.k 10 (by kernel_rfl) (F133.k 11 (by kernel_rfl) (F133.k 12 (by kernel_rfl) (F133.k 13 (by kernel_rfl) (F133.k 16 (by kernel_rfl) (F133.k 17 (by kernel_rfl) (F133.k 18 (by kernel_rfl) (F133.k 19 (by kernel_rfl) (F133.k 20 (by kernel_rfl) (F133.k 21 (by kernel_rfl) (F133.k 22 (by kernel_rfl) (F133.k 23 (by kernel_rfl) (F133.k 24 (by kernel_rfl) (F133.k 25 (by kernel_rfl) (F133.k 26 (by kernel_rfl) (F133.k 34 (by kernel_rfl) (F133.k 35 (by kernel_rfl) (F133.k 36 (by kernel_rfl) (F133.k 37 (by kernel_rfl) (F133.k 38 (by kernel_rfl) (F133.k 39 (by kernel_rfl) (F133.k 40 (by kernel_rfl) (F133.k 41 (by kernel_rfl) (F133.k 42 (by kernel_rfl) (F133.k 43 (by kernel_rfl) (F133.k 44 (by kernel_rfl) (F133.k 45 (by kernel_rfl) (F133.k 46 (by kernel_rfl) (F133.k 47 (by kernel_rfl) F133.nil)))))))))))))))))))))))))))))))))))), S120, (by rw [show vrF s j = shF (s.extract (j + 1) s.size) from rfl, (pc_emp (p := shF (s.extract (j + 1) s.size)) hc67 (by omega))]; exact (app_emp _).symm), (by first | omega | (with_reducible assumption) | (simp; done)), (by first | omega | (with_reducible assumption) | (simp; done))⟩
              · have hc126p := of_decide_eq_false hc126
                have F134 := F125.sb 54 (by kernel_rfl) hc126
                have F135 := F134.sb 55 (by kernel_rfl) hc126
                refine op_skip F135 (by kernel_rfl) rfl rfl rfl ?_; intro a136 F136
                refine op_skip F136 (by kernel_rfl) rfl rfl rfl ?_; intro a137 F137
                refine op_p F137 (.bool false) (by kernel_rfl) rfl rfl rfl (by kernel_rfl) rfl ?_; intro a138 F138
                refine wpList_nil ?_
                refine hK122 _ _ ?_; clear hK122 K122
                refine wp_cond_false (F138.ev (by kernel_rfl)) ?_
                refine wp_exit ?_
                refine ex_then ?_; clear hK121 K121
                refine ex_then ?_
                refine ex_in ?_
                exact hK114 _ _ ⟨b, (F138.k 0 (by kernel_rfl) (F138.k 1 (by kernel_rfl) (F138.k 4 (by kernel_rfl) (F138.k 5 (by kernel_rfl) (F138.k 6 (by kernel_rfl) (F138.k 7 (by kernel_rfl) (F138.k 8 (by kernel_rfl) (F138.k 10 (by kernel_rfl) (F138.k 11 (by kernel_rfl) (F138.k 12 (by kernel_rfl) (F138.k 13 (by kernel_rfl) (F138.k 16 (by kernel_rfl) (F138.k 17 (by kernel_rfl) (F138.k 18 (by kernel_rfl) (F138.k 19 (by kernel_rfl) (F138.k 20 (by kernel_rfl) (F138.k 21 (by kernel_rfl) (F138.k 22 (by kernel_rfl) (F138.k 23 (by kernel_rfl) (F138.k 24 (by kernel_rfl) (F138.k 25 (by kernel_rfl) (F138.k 26 (by kernel_rfl) (F138.k 34 (by kernel_rfl) (F138.k 35 (by kernel_rfl) (F138.k 36 (by kernel_rfl) (F138.k 37 (by kernel_rfl) (F138.k 38 (by kernel_rfl) (F138.k 39 (by kernel_rfl) (F138.k 40 (by kernel_rfl) (F138.k 41 (by kernel_rfl) (F138.k 42 (by kernel_rfl) (F138.k 43 (by kernel_rfl) (F138.k 44 (by kernel_rfl) (F138.k 45 (by kernel_rfl) (F138.k 46 (by kernel_rfl) (F138.k 47 (by kernel_rfl) F138.nil)))))))))))))))))))))))))))))))))))), S120, (by rw [show vrF s j = shF (s.extract (j + 1) s.size) from rfl, (pc_emp (p := shF (s.extract (j + 1) s.size)) hc67 (by omega))]; exact (app_emp _).symm), (by first | omega | (with_reducible assumption) | (simp; done)), (by first | omega | (with_reducible assumption) | (simp; done))⟩
            · rintro a139 w139 ⟨b2, F139, S139, hb2, hj1, e36⟩
              refine wp_region_lit ?_
              refine op_p F139 (.int .i64 (↑j)) (by kernel_rfl) rfl rfl rfl (by kernel_rfl) rfl ?_; intro a140 F140
              refine op_p F140 (.int .i64 (↑(shF (s.extract (j + 1) s.size)).2)) (by kernel_rfl) rfl rfl rfl (by kernel_rfl) rfl ?_; intro a141 F141
              refine op_r (v := .int .i64 (↑j + ↑(shF (s.extract (j + 1) s.size)).2)) F141 (r_add (z := (↑j + ↑(shF (s.extract (j + 1) s.size)).2)) rfl (F141.ev (v := .int .i64 (↑j)) (by kernel_rfl)) (F141.ev (v := .int .i64 (↑(shF (s.extract (j + 1) s.size)).2)) (by kernel_rfl)) (wr64 (by omega) (by omega) (by omega))) rfl rfl rfl ?_; intro a142 F142
              refine op_p F142 (.int .i64 (↑j + ↑(shF (s.extract (j + 1) s.size)).2)) (by kernel_rfl) rfl rfl rfl (by kernel_rfl) rfl ?_; intro a143 F143
              refine wpList_nil ?_
              refine hK16 _ _ ?_; clear hK16 K16
              refine wp_region_lit ?_
              refine op_p F143 (.int .i64 (↑j + ↑(shF (s.extract (j + 1) s.size)).2)) (by kernel_rfl) rfl rfl rfl (by kernel_rfl) rfl ?_; intro a144 F144
              refine op_r (v := .int .i64 ((↑j + ↑(shF (s.extract (j + 1) s.size)).2) + 1)) F144 (r_add (z := ((↑j + ↑(shF (s.extract (j + 1) s.size)).2) + 1)) rfl (F144.ev (v := .int .i64 (↑j + ↑(shF (s.extract (j + 1) s.size)).2)) (by kernel_rfl)) (F144.ev (v := .int .i64 1) (by kernel_rfl)) (wr64 (by omega) (by omega) (by omega))) rfl rfl rfl ?_; intro a145 F145
              refine op_p F145 (.int .i64 ((↑j + ↑(shF (s.extract (j + 1) s.size)).2) + 1)) (by kernel_rfl) rfl rfl rfl (by kernel_rfl) rfl ?_; intro a146 F146
              refine wpList_nil ?_
              exact hK8 _ _ _ (by first | omega | (simp; omega)) ⟨b2, _, rfl, (F146.k 0 (by kernel_rfl) (F146.k 1 (by kernel_rfl) (F146.k 4 (by kernel_rfl) (F146.k 5 (by kernel_rfl) (F146.k 6 (by kernel_rfl) F146.nil))))), S139, (by first | omega | (with_reducible assumption) | (simp; done)), (exd_var (n := (shF (s.extract (j + 1) s.size)).2) hj1 e36 rfl he hb2), (by have := pcF_size (xs := xs) (n := 2147483647) (by omega) hM (vrF s j); rw [hb2, ByteArray.size_append]; omega)⟩
        · have F147 := F66.sb 43 (by kernel_rfl) hc67
          have F148 := F147.sb 44 (by kernel_rfl) hc67
          refine op_skip F148 (by kernel_rfl) rfl rfl rfl ?_; intro a149 F149
          refine op_skip F149 (by kernel_rfl) rfl rfl rfl ?_; intro a150 F150
          refine op_p F150 (.bool false) (by kernel_rfl) rfl rfl rfl (by kernel_rfl) rfl ?_; intro a151 F151
          refine wpList_nil ?_
          refine hK63 _ _ ?_; clear hK63 K63
          refine wp_cond_false (F151.ev (by kernel_rfl)) ?_
          refine wp_skip ?_
          refine hK62 _ _ ?_; clear hK62 K62
          refine fw_cut (fun a' w' => ∃ b2 : ByteArray, Fr 79 [] a' [(0, .string s), (1, .slice (A) (xs.length) (c)), (4, .string ⟨#[]⟩), (5, .string b2), (6, .int .i64 (↑j)), (7, .string ((shF (s.extract (j + 1) s.size)).1)), (8, .int .i64 (↑(shF (s.extract (j + 1) s.size)).2)), (10, .int .i64 (↑j)), (11, .string s), (12, .int .i64 (↑s.size)), (13, .bool true), (16, .string s), (17, .int .i64 (↑j)), (18, .int .u8 (↑s[j].toNat)), (19, .bool false), (20, .bool false), (21, .int .i64 (↑j)), (22, .int .i64 (↑(j + 1))), (23, .string s), (24, .int .i64 (↑s.size)), (25, .bool false), (26, .bool false), (34, .tuple #[.string ((shF (s.extract (j + 1) s.size)).1), .int .i64 (↑(shF (s.extract (j + 1) s.size)).2)]), (35, .string s), (36, .int .i64 (↑j)), (37, .int .i64 (↑(j + 1))), (38, .string (s.extract (j + 1) s.size)), (39, .tuple #[.string ((shF (s.extract (j + 1) s.size)).1), .int .i64 (↑(shF (s.extract (j + 1) s.size)).2)]), (40, .string ((shF (s.extract (j + 1) s.size)).1)), (41, .int .i64 (↑(shF (s.extract (j + 1) s.size)).2)), (42, .string ((shF (s.extract (j + 1) s.size)).1)), (43, .bool false), (44, .bool false), (47, .bool false)] ∧ Sp R w' (L) ∧ (b2 = b ++ pcF xs (vrF s j)) ∧ (j + 1 < s.size) ∧ (s[j].toNat = 36)) ?_ ?_
          · intro K152 hK152
            refine wp_seq_k fun K153 hK153 => ?_
            refine wp_region_lit ?_
            refine op_p F151 (.slice (A) (xs.length) (c)) (by kernel_rfl) rfl rfl rfl (by kernel_rfl) rfl ?_; intro a154 F154
            refine op_p F154 (.int .i64 (↑xs.length)) (by kernel_rfl) rfl rfl rfl (by kernel_rfl) rfl ?_; intro a155 F155
            refine op_r (v := .int .i64 (↑xs.length - 1)) F155 (r_sub (z := (↑xs.length - 1)) rfl (F155.ev (v := .int .i64 (↑xs.length)) (by kernel_rfl)) (F155.ev (v := .int .i64 1) (by kernel_rfl)) (wr64 (by omega) (by omega) (by omega))) rfl rfl rfl ?_; intro a156 F156
            refine op_p F156 (.int .i64 (↑xs.length - 1)) (by kernel_rfl) rfl rfl rfl (by kernel_rfl) rfl ?_; intro a157 F157
            refine wpList_nil ?_
            refine hK153 _ _ ?_; clear hK153 K153
            refine wp_block ?_
            refine fw_loop (fun m a' w' => ∃ q : Nat, q = m ∧ Fr 79 [] a' [(0, .string s), (1, .slice (A) (xs.length) (c)), (4, .string ⟨#[]⟩), (5, .string b), (6, .int .i64 (↑j)), (7, .string ((shF (s.extract (j + 1) s.size)).1)), (8, .int .i64 (↑(shF (s.extract (j + 1) s.size)).2)), (9, .int .i64 (↑q - 1)), (10, .int .i64 (↑j)), (11, .string s), (12, .int .i64 (↑s.size)), (13, .bool true), (16, .string s), (17, .int .i64 (↑j)), (18, .int .u8 (↑s[j].toNat)), (19, .bool false), (20, .bool false), (21, .int .i64 (↑j)), (22, .int .i64 (↑(j + 1))), (23, .string s), (24, .int .i64 (↑s.size)), (25, .bool false), (26, .bool false), (34, .tuple #[.string ((shF (s.extract (j + 1) s.size)).1), .int .i64 (↑(shF (s.extract (j + 1) s.size)).2)]), (35, .string s), (36, .int .i64 (↑j)), (37, .int .i64 (↑(j + 1))), (38, .string (s.extract (j + 1) s.size)), (39, .tuple #[.string ((shF (s.extract (j + 1) s.size)).1), .int .i64 (↑(shF (s.extract (j + 1) s.size)).2)]), (40, .string ((shF (s.extract (j + 1) s.size)).1)), (41, .int .i64 (↑(shF (s.extract (j + 1) s.size)).2)), (42, .string ((shF (s.extract (j + 1) s.size)).1)), (43, .bool false), (44, .bool false), (47, .bool false), (50, .slice (A) (xs.length) (c)), (51, .int .i64 (↑xs.length)), (52, .int .i64 (↑xs.length - 1))] ∧ Sp R w' (L) ∧ (q ≤ xs.length) ∧ (undF xs (shF (s.extract (j + 1) s.size)).1 = undF (xs.take q) (shF (s.extract (j + 1) s.size)).1)) _ ⟨xs.length, rfl, (F157.k 0 (by kernel_rfl) (F157.k 1 (by kernel_rfl) (F157.k 4 (by kernel_rfl) (F157.k 5 (by kernel_rfl) (F157.k 6 (by kernel_rfl) (F157.k 7 (by kernel_rfl) (F157.k 8 (by kernel_rfl) (F157.k 9 (by kernel_rfl) (F157.k 10 (by kernel_rfl) (F157.k 11 (by kernel_rfl) (F157.k 12 (by kernel_rfl) (F157.k 13 (by kernel_rfl) (F157.k 16 (by kernel_rfl) (F157.k 17 (by kernel_rfl) (F157.k 18 (by kernel_rfl) (F157.k 19 (by kernel_rfl) (F157.k 20 (by kernel_rfl) (F157.k 21 (by kernel_rfl) (F157.k 22 (by kernel_rfl) (F157.k 23 (by kernel_rfl) (F157.k 24 (by kernel_rfl) (F157.k 25 (by kernel_rfl) (F157.k 26 (by kernel_rfl) (F157.k 34 (by kernel_rfl) (F157.k 35 (by kernel_rfl) (F157.k 36 (by kernel_rfl) (F157.k 37 (by kernel_rfl) (F157.k 38 (by kernel_rfl) (F157.k 39 (by kernel_rfl) (F157.k 40 (by kernel_rfl) (F157.k 41 (by kernel_rfl) (F157.k 42 (by kernel_rfl) (F157.k 43 (by kernel_rfl) (F157.k 44 (by kernel_rfl) (F157.k 47 (by kernel_rfl) (F157.k 50 (by kernel_rfl) (F157.k 51 (by kernel_rfl) (F157.k 52 (by kernel_rfl) F157.nil)))))))))))))))))))))))))))))))))))))), S55, (by first | omega | (with_reducible assumption) | (simp; done)), (by rw [List.take_length])⟩ ?_
            rintro m158 a158 w158 ⟨q, hm158, F158, S158, hq0, hu⟩ K158 hK158
            refine wp_seq_k fun K159 hK159 => ?_
            refine wp_seq_k fun K160 hK160 => ?_
            refine wp_region_lit ?_
            refine op_p F158 (.int .i64 (↑q - 1)) (by kernel_rfl) rfl rfl rfl (by kernel_rfl) rfl ?_; intro a161 F161
            refine op_p F161 (.bool (decide ((0 : Int) ≤ (↑q - 1)))) (by kernel_rfl) rfl rfl rfl (by kernel_rfl) rfl ?_; intro a162 F162
            refine op_p F162 (.bool (decide ((0 : Int) ≤ (↑q - 1)))) (by kernel_rfl) rfl rfl rfl (by kernel_rfl) rfl ?_; intro a163 F163
            rcases btf (decide ((0 : Int) ≤ (↑q - 1))) with hc164 | hc164
            · have hq1 : 1 ≤ q := by have := of_decide_eq_true hc164; omega
              have hq : q - 1 < xs.length := by omega
              obtain ⟨ad165, hA165⟩ := (h0 _ S158).addr (by simp; omega)
              have F166 := F163.sb 54 (by kernel_rfl) hc164
              have F167 := F166.sb 55 (by kernel_rfl) hc164
              refine op_want F167 (by kernel_rfl) rfl ?_
              refine op_p F167 (.string ((shF (s.extract (j + 1) s.size)).1)) (by kernel_rfl) rfl rfl rfl (by kernel_rfl) rfl ?_; intro a168 F168
              refine op_want F168 (by kernel_rfl) rfl ?_
              refine op_p F168 (.bool (!(((shF (s.extract (j + 1) s.size)).1).toList == (⟨#[]⟩ : ByteArray).toList))) (by kernel_rfl) rfl rfl rfl (by kernel_rfl) rfl ?_; intro a169 F169
              have F170 := F169.sb 57 (by kernel_rfl) (show (!(((shF (s.extract (j + 1) s.size)).1).toList == (⟨#[]⟩ : ByteArray).toList)) = true by rw [hc67]; rfl)
              refine op_p F170 (.bool true) (by kernel_rfl) rfl rfl rfl (by kernel_rfl) rfl ?_; intro a171 F171
              refine wpList_nil ?_
              refine hK160 _ _ ?_; clear hK160 K160
              refine wp_cond_true (F171.ev (by kernel_rfl)) ?_
              refine wp_skip ?_
              refine hK159 _ _ ?_; clear hK159 K159
              refine wp_seq_k fun K172 hK172 => ?_
              refine wp_block ?_
              refine wp_seq_k fun K173 hK173 => ?_
              refine wp_region_lit ?_
              refine op_p F171 (.slice (A) (xs.length) (c)) (by kernel_rfl) rfl rfl rfl (by kernel_rfl) rfl ?_; intro a174 F174
              refine op_p F174 (.int .i64 (↑q - 1)) (by kernel_rfl) rfl rfl rfl (by kernel_rfl) rfl ?_; intro a175 F175
              refine op_r (v := .pointer (some (ad165.add ((q - 1) * 2)))) F175 (r_ix rfl Try.underlying40 2 (by kernel_rfl) (F175.ev (v := .slice (A) (xs.length) (c)) (by kernel_rfl)) hA165 (F175.ev (v := .int .i64 (↑q - 1)) (by kernel_rfl)) (q - 1) (by first | rfl | omega | simp) (by first | omega | (simp; done) | (simp; omega)) (rfl)) rfl rfl rfl ?_; intro a176 F176
              refine op_p F176 (.pointer (some (ad165.add ((q - 1) * 2)))) (by kernel_rfl) rfl rfl rfl (by kernel_rfl) rfl ?_; intro a177 F177
              refine op_r (v := .string (xs[q - 1].fKey)) F177 (r_ld rfl (F177.ev (v := .pointer (some (ad165.add ((q - 1) * 2)))) (by kernel_rfl)) (v := .string (xs[q - 1].fKey)) (cell0 ((h0 _ S158).elA hA165 (j := q - 1) (row := xs[q - 1].cells) (by rw [List.getElem?_map, List.getElem?_eq_getElem hq]; rfl)) rfl) Try.underlying9 rfl) rfl rfl rfl ?_; intro a178 F178
              refine op_p F178 (.string ((shF (s.extract (j + 1) s.size)).1)) (by kernel_rfl) rfl rfl rfl (by kernel_rfl) rfl ?_; intro a179 F179
              refine op_p F179 (.bool ((xs[q - 1].fKey).toList == ((shF (s.extract (j + 1) s.size)).1).toList)) (by kernel_rfl) rfl rfl rfl (by kernel_rfl) rfl ?_; intro a180 F180
              refine wpList_nil ?_
              refine hK173 _ _ ?_; clear hK173 K173
              rcases btf ((xs[q - 1].fKey).toList == ((shF (s.extract (j + 1) s.size)).1).toList) with hc181 | hc181
              · have F182 := F180.sb 67 (by kernel_rfl) hc181
                refine wp_cond_true (F182.ev (by kernel_rfl)) ?_
                refine wp_seq_k fun K183 hK183 => ?_
                refine wp_region_lit ?_
                refine op_p F182 (.string b) (by kernel_rfl) rfl rfl rfl (by kernel_rfl) rfl ?_; intro a184 F184
                refine op_p F184 (.slice (A) (xs.length) (c)) (by kernel_rfl) rfl rfl rfl (by kernel_rfl) rfl ?_; intro a185 F185
                refine op_p F185 (.int .i64 (↑q - 1)) (by kernel_rfl) rfl rfl rfl (by kernel_rfl) rfl ?_; intro a186 F186
                refine op_r (v := .pointer (some (ad165.add ((q - 1) * 2)))) F186 (r_ix rfl Try.underlying40 2 (by kernel_rfl) (F186.ev (v := .slice (A) (xs.length) (c)) (by kernel_rfl)) hA165 (F186.ev (v := .int .i64 (↑q - 1)) (by kernel_rfl)) (q - 1) (by first | rfl | omega | simp) (by first | omega | (simp; done) | (simp; omega)) (rfl)) rfl rfl rfl ?_; intro a187 F187
                refine op_p F187 (.pointer (some ⟨(ad165.add ((q - 1) * 2)).block, (ad165.add ((q - 1) * 2)).off + 1, none⟩)) (by kernel_rfl) rfl rfl rfl (by kernel_rfl) rfl ?_; intro a188 F188
                refine op_r (v := .string (xs[q - 1].fText)) F188 (r_ld rfl (F188.ev (v := .pointer (some ⟨(ad165.add ((q - 1) * 2)).block, (ad165.add ((q - 1) * 2)).off + 1, none⟩)) (by kernel_rfl)) (v := .string (xs[q - 1].fText)) (cellj ((h0 _ S158).elA hA165 (j := q - 1) (row := xs[q - 1].cells) (by rw [List.getElem?_map, List.getElem?_eq_getElem hq]; rfl)) 0 rfl) Try.underlying9 rfl) rfl rfl rfl ?_; intro a189 F189
                refine op_r (v := .string (b ++ (xs[q - 1].fText))) F189 (r_sadd rfl (F189.ev (v := .string b) (by kernel_rfl)) (F189.ev (v := .string (xs[q - 1].fText)) (by kernel_rfl)) (by first | omega | (simp only [ByteArray.size_append, ByteArray.size_extract, sz1]; omega) | (have := hM _ (List.getElem_mem hq); simp only [ByteArray.size_append, sz1]; omega) | (have := hM _ (List.getElem_mem hq); omega))) rfl rfl rfl ?_; intro a190 F190
                refine op_p F190 (.string (b ++ (xs[q - 1].fText))) (by kernel_rfl) rfl rfl rfl (by kernel_rfl) rfl ?_; intro a191 F191
                refine wpList_nil ?_
                refine hK183 _ _ ?_; clear hK183 K183
                refine wp_exit ?_
                refine ex_out rfl ?_
                refine ex_then ?_; clear hK172 K172
                refine ex_then ?_
                refine ex_in ?_
                exact hK152 _ _ ⟨b ++ (xs[q - 1].fText), (F191.k 0 (by kernel_rfl) (F191.k 1 (by kernel_rfl) (F191.k 4 (by kernel_rfl) (F191.k 5 (by kernel_rfl) (F191.k 6 (by kernel_rfl) (F191.k 7 (by kernel_rfl) (F191.k 8 (by kernel_rfl) (F191.k 10 (by kernel_rfl) (F191.k 11 (by kernel_rfl) (F191.k 12 (by kernel_rfl) (F191.k 13 (by kernel_rfl) (F191.k 16 (by kernel_rfl) (F191.k 17 (by kernel_rfl) (F191.k 18 (by kernel_rfl) (F191.k 19 (by kernel_rfl) (F191.k 20 (by kernel_rfl) (F191.k 21 (by kernel_rfl) (F191.k 22 (by kernel_rfl) (F191.k 23 (by kernel_rfl) (F191.k 24 (by kernel_rfl) (F191.k 25 (by kernel_rfl) (F191.k 26 (by kernel_rfl) (F191.k 34 (by kernel_rfl) (F191.k 35 (by kernel_rfl) (F191.k 36 (by kernel_rfl) (F191.k 37 (by kernel_rfl) (F191.k 38 (by kernel_rfl) (F191.k 39 (by kernel_rfl) (F191.k 40 (by kernel_rfl) (F191.k 41 (by kernel_rfl) (F191.k 42 (by kernel_rfl) (F191.k 43 (by kernel_rfl) (F191.k 44 (by kernel_rfl) (F191.k 47 (by kernel_rfl) F191.nil)))))))))))))))))))))))))))))))))), S158, (by rw [show vrF s j = shF (s.extract (j + 1) s.size) from rfl, (pc_und (p := shF (s.extract (j + 1) s.size)) hc67), und_hit hu hq1 hq hc181]), (by first | omega | (with_reducible assumption) | (simp; done)), (by first | omega | (with_reducible assumption) | (simp; done))⟩
              · have F192 := F180.sb 67 (by kernel_rfl) hc181
                refine wp_cond_false (F192.ev (by kernel_rfl)) ?_
                refine wp_skip ?_
                refine hK172 _ _ ?_; clear hK172 K172
                refine wp_region_lit ?_
                refine op_p F192 (.int .i64 (↑q - 1)) (by kernel_rfl) rfl rfl rfl (by kernel_rfl) rfl ?_; intro a193 F193
                refine op_r (v := .int .i64 (↑(q - 1) - 1)) F193 (r_sub (z := (↑(q - 1) - 1)) rfl (F193.ev (v := .int .i64 (↑q - 1)) (by kernel_rfl)) (F193.ev (v := .int .i64 1) (by kernel_rfl)) (wr64 (by omega) (by omega) (by omega))) rfl rfl rfl ?_; intro a194 F194
                refine op_p F194 (.int .i64 (↑(q - 1) - 1)) (by kernel_rfl) rfl rfl rfl (by kernel_rfl) rfl ?_; intro a195 F195
                refine wpList_nil ?_
                exact hK158 _ _ _ (by first | omega | (simp; omega)) ⟨q - 1, rfl, (F195.k 0 (by kernel_rfl) (F195.k 1 (by kernel_rfl) (F195.k 4 (by kernel_rfl) (F195.k 5 (by kernel_rfl) (F195.k 6 (by kernel_rfl) (F195.k 7 (by kernel_rfl) (F195.k 8 (by kernel_rfl) (F195.k 9 (by kernel_rfl) (F195.k 10 (by kernel_rfl) (F195.k 11 (by kernel_rfl) (F195.k 12 (by kernel_rfl) (F195.k 13 (by kernel_rfl) (F195.k 16 (by kernel_rfl) (F195.k 17 (by kernel_rfl) (F195.k 18 (by kernel_rfl) (F195.k 19 (by kernel_rfl) (F195.k 20 (by kernel_rfl) (F195.k 21 (by kernel_rfl) (F195.k 22 (by kernel_rfl) (F195.k 23 (by kernel_rfl) (F195.k 24 (by kernel_rfl) (F195.k 25 (by kernel_rfl) (F195.k 26 (by kernel_rfl) (F195.k 34 (by kernel_rfl) (F195.k 35 (by kernel_rfl) (F195.k 36 (by kernel_rfl) (F195.k 37 (by kernel_rfl) (F195.k 38 (by kernel_rfl) (F195.k 39 (by kernel_rfl) (F195.k 40 (by kernel_rfl) (F195.k 41 (by kernel_rfl) (F195.k 42 (by kernel_rfl) (F195.k 43 (by kernel_rfl) (F195.k 44 (by kernel_rfl) (F195.k 47 (by kernel_rfl) (F195.k 50 (by kernel_rfl) (F195.k 51 (by kernel_rfl) (F195.k 52 (by kernel_rfl) F195.nil)))))))))))))))))))))))))))))))))))))), S158, (by first | omega | (with_reducible assumption) | (simp; done)), (und_miss hu hq1 hq hc181)⟩
            · have hc164p := of_decide_eq_false hc164
              have F196 := F163.sb 54 (by kernel_rfl) hc164
              have F197 := F196.sb 55 (by kernel_rfl) hc164
              refine op_skip F197 (by kernel_rfl) rfl rfl rfl ?_; intro a198 F198
              refine op_skip F198 (by kernel_rfl) rfl rfl rfl ?_; intro a199 F199
              refine op_p F199 (.bool false) (by kernel_rfl) rfl rfl rfl (by kernel_rfl) rfl ?_; intro a200 F200
              refine wpList_nil ?_
              refine hK160 _ _ ?_; clear hK160 K160
              refine wp_cond_false (F200.ev (by kernel_rfl)) ?_
              refine wp_exit ?_
              refine ex_then ?_; clear hK159 K159
              refine ex_then ?_
              refine ex_in ?_
              exact hK152 _ _ ⟨b, (F200.k 0 (by kernel_rfl) (F200.k 1 (by kernel_rfl) (F200.k 4 (by kernel_rfl) (F200.k 5 (by kernel_rfl) (F200.k 6 (by kernel_rfl) (F200.k 7 (by kernel_rfl) (F200.k 8 (by kernel_rfl) (F200.k 10 (by kernel_rfl) (F200.k 11 (by kernel_rfl) (F200.k 12 (by kernel_rfl) (F200.k 13 (by kernel_rfl) (F200.k 16 (by kernel_rfl) (F200.k 17 (by kernel_rfl) (F200.k 18 (by kernel_rfl) (F200.k 19 (by kernel_rfl) (F200.k 20 (by kernel_rfl) (F200.k 21 (by kernel_rfl) (F200.k 22 (by kernel_rfl) (F200.k 23 (by kernel_rfl) (F200.k 24 (by kernel_rfl) (F200.k 25 (by kernel_rfl) (F200.k 26 (by kernel_rfl) (F200.k 34 (by kernel_rfl) (F200.k 35 (by kernel_rfl) (F200.k 36 (by kernel_rfl) (F200.k 37 (by kernel_rfl) (F200.k 38 (by kernel_rfl) (F200.k 39 (by kernel_rfl) (F200.k 40 (by kernel_rfl) (F200.k 41 (by kernel_rfl) (F200.k 42 (by kernel_rfl) (F200.k 43 (by kernel_rfl) (F200.k 44 (by kernel_rfl) (F200.k 47 (by kernel_rfl) F200.nil)))))))))))))))))))))))))))))))))), S158, (by rw [show vrF s j = shF (s.extract (j + 1) s.size) from rfl, (pc_und (p := shF (s.extract (j + 1) s.size)) hc67), hu, show q = 0 by omega]; exact (app_emp _).symm), (by first | omega | (with_reducible assumption) | (simp; done)), (by first | omega | (with_reducible assumption) | (simp; done))⟩
          · rintro a201 w201 ⟨b2, F201, S201, hb2, hj1, e36⟩
            refine wp_region_lit ?_
            refine op_p F201 (.int .i64 (↑j)) (by kernel_rfl) rfl rfl rfl (by kernel_rfl) rfl ?_; intro a202 F202
            refine op_p F202 (.int .i64 (↑(shF (s.extract (j + 1) s.size)).2)) (by kernel_rfl) rfl rfl rfl (by kernel_rfl) rfl ?_; intro a203 F203
            refine op_r (v := .int .i64 (↑j + ↑(shF (s.extract (j + 1) s.size)).2)) F203 (r_add (z := (↑j + ↑(shF (s.extract (j + 1) s.size)).2)) rfl (F203.ev (v := .int .i64 (↑j)) (by kernel_rfl)) (F203.ev (v := .int .i64 (↑(shF (s.extract (j + 1) s.size)).2)) (by kernel_rfl)) (wr64 (by omega) (by omega) (by omega))) rfl rfl rfl ?_; intro a204 F204
            refine op_p F204 (.int .i64 (↑j + ↑(shF (s.extract (j + 1) s.size)).2)) (by kernel_rfl) rfl rfl rfl (by kernel_rfl) rfl ?_; intro a205 F205
            refine wpList_nil ?_
            refine hK16 _ _ ?_; clear hK16 K16
            refine wp_region_lit ?_
            refine op_p F205 (.int .i64 (↑j + ↑(shF (s.extract (j + 1) s.size)).2)) (by kernel_rfl) rfl rfl rfl (by kernel_rfl) rfl ?_; intro a206 F206
            refine op_r (v := .int .i64 ((↑j + ↑(shF (s.extract (j + 1) s.size)).2) + 1)) F206 (r_add (z := ((↑j + ↑(shF (s.extract (j + 1) s.size)).2) + 1)) rfl (F206.ev (v := .int .i64 (↑j + ↑(shF (s.extract (j + 1) s.size)).2)) (by kernel_rfl)) (F206.ev (v := .int .i64 1) (by kernel_rfl)) (wr64 (by omega) (by omega) (by omega))) rfl rfl rfl ?_; intro a207 F207
            refine op_p F207 (.int .i64 ((↑j + ↑(shF (s.extract (j + 1) s.size)).2) + 1)) (by kernel_rfl) rfl rfl rfl (by kernel_rfl) rfl ?_; intro a208 F208
            refine wpList_nil ?_
            exact hK8 _ _ _ (by first | omega | (simp; omega)) ⟨b2, _, rfl, (F208.k 0 (by kernel_rfl) (F208.k 1 (by kernel_rfl) (F208.k 4 (by kernel_rfl) (F208.k 5 (by kernel_rfl) (F208.k 6 (by kernel_rfl) F208.nil))))), S201, (by first | omega | (with_reducible assumption) | (simp; done)), (exd_var (n := (shF (s.extract (j + 1) s.size)).2) hj1 e36 rfl he hb2), (by have := pcF_size (xs := xs) (n := 2147483647) (by omega) hM (vrF s j); rw [hb2, ByteArray.size_append]; omega)⟩
    · have hc24p := ne_of_beq_false hc24
      have F209 := F23.sb 19 (by kernel_rfl) (show (!((↑s[j].toNat : Int) == 36)) = true by rw [hc24]; rfl)
      have F210 := F209.sb 20 (by kernel_rfl) (show (!((↑s[j].toNat : Int) == 36)) = true by rw [hc24]; rfl)
      refine op_skip F210 (by kernel_rfl) rfl rfl rfl ?_; intro a211 F211
      refine op_skip F211 (by kernel_rfl) rfl rfl rfl ?_; intro a212 F212
      refine op_skip F212 (by kernel_rfl) rfl rfl rfl ?_; intro a213 F213
      refine op_skip F213 (by kernel_rfl) rfl rfl rfl ?_; intro a214 F214
      refine op_skip F214 (by kernel_rfl) rfl rfl rfl ?_; intro a215 F215
      refine op_p F215 (.bool true) (by kernel_rfl) rfl rfl rfl (by kernel_rfl) rfl ?_; intro a216 F216
      refine wpList_nil ?_
      refine hK18 _ _ ?_; clear hK18 K18
      refine wp_cond_true (F216.ev (by kernel_rfl)) ?_
      refine wp_seq_k fun K217 hK217 => ?_
      refine wp_region_lit ?_
      refine op_p F216 (.string b) (by kernel_rfl) rfl rfl rfl (by kernel_rfl) rfl ?_; intro a218 F218
      refine op_p F218 (.string s) (by kernel_rfl) rfl rfl rfl (by kernel_rfl) rfl ?_; intro a219 F219
      refine op_p F219 (.int .i64 (↑j)) (by kernel_rfl) rfl rfl rfl (by kernel_rfl) rfl ?_; intro a220 F220
      refine op_p F220 (.int .i64 (↑j)) (by kernel_rfl) rfl rfl rfl (by kernel_rfl) rfl ?_; intro a221 F221
      refine op_r (v := .int .i64 (↑(j + 1))) F221 (r_add (z := ↑(j + 1)) rfl (F221.ev (v := .int .i64 (↑j)) (by kernel_rfl)) (F221.ev (v := .int .i64 1) (by kernel_rfl)) (wr64 (by omega) (by omega) (by omega))) rfl rfl rfl ?_; intro a222 F222
      refine op_r (v := .string (s.extract j (j + 1))) F222 (r_sllh rfl Try.underlying9 (F222.ev (v := .string s) (by kernel_rfl)) (F222.ev (v := .int .i64 (↑j)) (by kernel_rfl)) (F222.ev (v := .int .i64 (↑(j + 1))) (by kernel_rfl))  j (j + 1) (by first | rfl | omega | (simp; done) | (simp; omega)) (by first | omega | (simp; done) | (simp; omega)) (rfl)) rfl rfl rfl ?_; intro a223 F223
      refine op_r (v := .string (b ++ (s.extract j (j + 1)))) F223 (r_sadd rfl (F223.ev (v := .string b) (by kernel_rfl)) (F223.ev (v := .string (s.extract j (j + 1))) (by kernel_rfl)) (by first | omega | (simp only [ByteArray.size_append, ByteArray.size_extract, sz1]; omega) | (have := hM _ (List.getElem_mem hq); simp only [ByteArray.size_append, sz1]; omega) | (have := hM _ (List.getElem_mem hq); omega))) rfl rfl rfl ?_; intro a224 F224
      refine op_p F224 (.string (b ++ (s.extract j (j + 1)))) (by kernel_rfl) rfl rfl rfl (by kernel_rfl) rfl ?_; intro a225 F225
      refine wpList_nil ?_
      refine hK217 _ _ ?_; clear hK217 K217
      refine wp_exit ?_
      refine ex_then ?_; clear hK17 K17
      refine ex_in ?_
      refine hK16 _ _ ?_; clear hK16 K16
      refine wp_region_lit ?_
      refine op_p F225 (.int .i64 (↑j)) (by kernel_rfl) rfl rfl rfl (by kernel_rfl) rfl ?_; intro a226 F226
      refine op_r (v := .int .i64 (↑(j + 1))) F226 (r_add (z := ↑(j + 1)) rfl (F226.ev (v := .int .i64 (↑j)) (by kernel_rfl)) (F226.ev (v := .int .i64 1) (by kernel_rfl)) (wr64 (by omega) (by omega) (by omega))) rfl rfl rfl ?_; intro a227 F227
      refine op_p F227 (.int .i64 (↑(j + 1))) (by kernel_rfl) rfl rfl rfl (by kernel_rfl) rfl ?_; intro a228 F228
      refine wpList_nil ?_
      exact hK8 _ _ _ (by first | omega | (simp; omega)) ⟨b ++ (s.extract j (j + 1)), j + 1, rfl, (F228.k 0 (by kernel_rfl) (F228.k 1 (by kernel_rfl) (F228.k 4 (by kernel_rfl) (F228.k 5 (by kernel_rfl) (F228.k 6 (by kernel_rfl) F228.nil))))), S8, (by first | omega | (with_reducible assumption) | (simp; done)), (exd_one hlt_j (Or.inl (by omega)) he), (by simp only [ByteArray.size_append, ByteArray.size_extract]; omega)⟩
  · have hc_j : decide ((↑j : Int) < ↑s.size) = false := by first | (simp; done) | (simp; omega)
    obtain rfl : j = s.size := by omega
    refine wp_seq_k fun K229 hK229 => ?_
    refine wp_seq_k fun K230 hK230 => ?_
    refine wp_region_lit ?_
    refine op_p F8 (.int .i64 (↑s.size)) (by kernel_rfl) rfl rfl rfl (by kernel_rfl) rfl ?_; intro a231 F231
    refine op_p F231 (.string s) (by kernel_rfl) rfl rfl rfl (by kernel_rfl) rfl ?_; intro a232 F232
    refine op_p F232 (.int .i64 (↑s.size)) (by kernel_rfl) rfl rfl rfl (by kernel_rfl) rfl ?_; intro a233 F233
    refine op_p F233 (.bool (decide ((↑s.size : Int) < ↑s.size))) (by kernel_rfl) rfl rfl rfl (by kernel_rfl) rfl ?_; intro a234 F234
    have F235 := F234.sb 13 (by kernel_rfl) hc_j
    refine wpList_nil ?_
    refine hK230 _ _ ?_; clear hK230 K230
    refine wp_cond_false (F235.ev (by kernel_rfl)) ?_
    refine wp_exit ?_
    refine ex_then ?_; clear hK229 K229
    refine ex_then ?_
    refine ex_in ?_
    refine hK5 _ _ ?_; clear hK5 K5
    refine wp_seq_k fun K236 hK236 => ?_
    refine wp_region_lit ?_
    refine op_p F235 (.string b) (by kernel_rfl) rfl rfl rfl (by kernel_rfl) rfl ?_; intro a237 F237
    refine op_p F237 (.string b) (by kernel_rfl) rfl rfl rfl (by kernel_rfl) rfl ?_; intro a238 F238
    refine wpList_nil ?_
    refine hK236 _ _ ?_; clear hK236 K236
    refine wp_ret ?_
    refine (F238.res1 rfl (v := .string b) (by kernel_rfl) ?_).1
    exact ⟨(ret_str (by have h := he; rw [exF_end (Nat.le_refl _), app_emp] at h; exact h)), S8⟩
end Go.Proofs.Ytkjcedlgljeoiaa

/- Contracts: hlPieces, HlLines: the pieces of a text between one byte. -/
namespace Go.Proofs.Ytkjcedlgljeoiaa
open Go.RowKit Go.Lib

theorem here_one {s : ByteArray} {c : UInt8} {j : Nat} (h : j < s.size) : hereB s ⟨#[c]⟩ j = (s[j] == c) := by
  rw [hereB_eq]
  have hl : j < s.data.toList.length := by simpa using h
  rw [List.drop_eq_getElem_cons hl]
  have e : s.data.toList[j] = s[j] := rfl
  rw [e]
  show (List.take 1 _ == [c]) = _
  simp
theorem ext_get {s : ByteArray} {f k : Nat} (h : f + k < s.size) (h2 : k < (s.extract f s.size).size) : (s.extract f s.size)[k] = s[f + k] := by
  rw [ByteArray.getElem_extract]
theorem ext_ext (s : ByteArray) (f a b : Nat) (hb : f + b ≤ s.size) : (s.extract f s.size).extract a b = s.extract (f + a) (f + b) := by
  rw [ByteArray.extract_extract]
  congr 1
  omega
/-- The first place of c behind f. -/
theorem idx_piece {s : ByteArray} {c : UInt8} {f k : Nat} (hf : f ≤ k) (hk : k < s.size) (hno : ∀ j, ∀ h : j < s.size, f ≤ j → j < k → s[j] ≠ c) (he : s[k] = c) : idxO (s.extract f s.size) ⟨#[c]⟩ = some (k - f) := by
  have hsz : (s.extract f s.size).size = s.size - f := by simp [ByteArray.size_extract]
  have h1 : (⟨#[c]⟩ : ByteArray).size = 1 := rfl
  refine firstN_some (by rw [hsz, h1]; omega) (fun j hj => ?_) ?_
  · rw [here_one (by rw [hsz]; omega), ext_get (by omega) _]
    simpa using hno (f + j) (by omega) (by omega) (by omega)
  · rw [here_one (by rw [hsz]; omega), ext_get (by omega) _]
    have e : s[f + (k - f)]'(by omega) = s[k] := by congr 1; omega
    rw [e]; simpa using he
theorem idx_piece_none {s : ByteArray} {c : UInt8} {f : Nat} (hno : ∀ j, ∀ h : j < s.size, f ≤ j → s[j] ≠ c) : idxO (s.extract f s.size) ⟨#[c]⟩ = none := by
  have hsz : (s.extract f s.size).size = s.size - f := by simp [ByteArray.size_extract]
  have h1 : (⟨#[c]⟩ : ByteArray).size = 1 := rfl
  refine firstN_none fun j hj => ?_
  rw [hsz, h1] at hj
  rw [here_one (by rw [hsz]; omega), ext_get (by omega) _]
  simpa using hno (f + j) (by omega) (by omega)
theorem split_step {s : ByteArray} {c : UInt8} {f k K : Nat} (hf : f ≤ k) (hk : k < s.size) (hno : ∀ j, ∀ h : j < s.size, f ≤ j → j < k → s[j] ≠ c) (he : s[k] = c) :
    splitF ⟨#[c]⟩ (K + 1) (s.extract f s.size) = s.extract f k :: splitF ⟨#[c]⟩ K (s.extract (k + 1) s.size) := by
  have hsz : (s.extract f s.size).size = s.size - f := by simp [ByteArray.size_extract]
  have h1 : (⟨#[c]⟩ : ByteArray).size = 1 := rfl
  conv => lhs; unfold splitF
  rw [idx_piece hf hk hno he]
  simp only []
  rw [ext_ext _ _ _ _ (by omega), hsz, h1, ext_ext _ _ _ _ (by omega)]
  have e1 : f + 0 = f := rfl
  have e2 : f + (k - f) = k := by omega
  have e3 : f + (k - f + 1) = k + 1 := by omega
  have e4 : f + (s.size - f) = s.size := by omega
  rw [e1, e2, e3, e4]
theorem split_end {s : ByteArray} {c : UInt8} {f K : Nat} (hno : ∀ j, ∀ h : j < s.size, f ≤ j → s[j] ≠ c) : splitF ⟨#[c]⟩ K (s.extract f s.size) = [s.extract f s.size] := by
  cases K with
  | zero => rfl
  | succ K => unfold splitF; rw [idx_piece_none hno]
theorem ext_whole (s : ByteArray) : s.extract 0 s.size = s := by
  apply ByteArray.ext; simp

set_option maxRecDepth 100000 in
set_option maxHeartbeats 2000000 in
theorem pieces_any (s : ByteArray) (b : UInt8) (w : World) (hs : s.size ≤ 1000000) :
    Calls Try.prog 91 #[.string s, .int .u8 b.toNat] w fun e w' => ∃ v, e = .returned v ∧ w'.ownsRow w.heap.size 9 1 v (splitF ⟨#[b]⟩ (s.size + 1) s).length (strs (splitF ⟨#[b]⟩ (s.size + 1) s)) ∧ Below w.heap.size w w' := by
  go_enter Try.func91, Try.ntmps91
  go_wp2
  go_loopw [5, 6, 10] (fun v f i wr => ∃ (k f0 K : Nat) (done : List ByteArray), k ≤ s.size ∧ f0 ≤ k ∧ i = .int .i64 k ∧ f = .int .i64 f0 ∧ Hid (wr.ownsRow w.heap.size 9 1 v done.length (strs done)) ∧ Hid (Below w.heap.size w wr) ∧
      Hid (done ++ splitF ⟨#[b]⟩ K (s.extract f0 s.size) = splitF ⟨#[b]⟩ (s.size + 1) s) ∧ s.size + 1 ≤ K + f0 ∧ done.length ≤ f0 ∧ Hid (∀ j, ∀ h : j < s.size, f0 ≤ j → j < k → s[j] ≠ b)) (fun _ _ i _ => s.size - (intOf i).toNat)
  case atStart => exact ⟨0, 0, s.size + 1, [], Nat.zero_le _, Nat.le_refl _, rfl, rfl, own_nil _ _ _ _, Below.refl _ _, by show _ = _; rw [ext_whole]; rfl, by omega, Nat.le_refl _, fun j h _ hj => by omega⟩
  case round =>
    obtain ⟨k, f0, K, done, hk, hf, rfl, rfl, HO, HB, HL, hK, hd, HN⟩ := hrel
    by_cases hlt : k < s.size
    · by_cases he : s[k] = b
      · have d1 : ((s[k].toNat : Int) == (b.toNat : Int)) = true := by simp [he]
        obtain ⟨K, rfl⟩ : ∃ q, K = q + 1 := ⟨K - 1, by omega⟩
        have hL2 : (done ++ [s.extract f0 k]) ++ splitF ⟨#[b]⟩ K (s.extract (k + 1) s.size) = splitF ⟨#[b]⟩ (s.size + 1) s := by
          rw [← HL.out, split_step hf hlt HN.out he]; simp
        have HL2 := Lib.hid hL2
        clear hL2 HL HN he
        have hbA : Hid (Below wr.heap.size wr (wr.alloc (.cells #[.string (s.extract f0 k)] 9))) := (Below.refl _ _).alloc (Nat.le_refl _) _
        have hsA : Hid (Sl (wr.alloc (.cells #[.string (s.extract f0 k)] 9)) (some ⟨wr.heap.size, 0, none⟩) (strs [s.extract f0 k])) := (Blk.new wr 9 #[.string (s.extract f0 k)]).sl (by simp)
        go_wp2_with ((with_reducible refine at_dst (N := 24) rfl ?_); refine ev_app (w := wr.alloc (.cells #[.string (s.extract f0 k)] 9)) rfl _ _ 22 9 rfl Try.underlying22 _ 1 16 info9 rfl (by omega) w.heap.size _ _ _ rfl (own_below HO.out hbA.out) _ 1 1 (strs [s.extract f0 k]) rfl hsA.out (by simp [strs]) (by simp [strs, Value.oneCell']) (by omega) (by omega) (Nat.le_trans HB.out.size hbA.out.size) ?_; intro v1 w1 ho1 hg1 hat1
                     have HX := Lib.hid (below_row (below_trans HB.out hbA.out) hg1 (Nat.le_trans HB.out.size hbA.out.size) (own_ge HO.out))
                     have ho2 : w1.ownsRow w.heap.size 9 1 v1 (done ++ [s.extract f0 k]).length (strs (done ++ [s.extract f0 k])) := by simpa [strs] using ho1
                     have HO1 := Lib.hid ho2
                     clear ho1 ho2 hg1 hat1)
        refine ⟨⟨k + 1, k + 1, K, done ++ [s.extract f0 k], by omega, Nat.le_refl _, by go_num, by go_num, HO1, HX, HL2, by omega, by simp; omega, fun j h h1 h2 => by omega⟩, ?_⟩
        simp [intOf]; omega
      · have d1 : ((s[k].toNat : Int) == (b.toNat : Int)) = false := by
          simp only [beq_eq_false_iff_ne, ne_eq]
          intro e
          exact he (UInt8.toNat_inj.1 (by omega))
        have HN2 : Hid (∀ j, ∀ h : j < s.size, f0 ≤ j → j < k + 1 → s[j] ≠ b) := fun j h h1 h2 => by
          by_cases e : j = k
          · subst e; exact he
          · exact HN.out j h h1 (by omega)
        clear HN he
        go_wp2_with fail
        refine ⟨⟨k + 1, f0, K, done, by omega, by omega, by go_num, rfl, HO, HB, HL, hK, hd, HN2⟩, ?_⟩
        simp [intOf]; omega
    · have hL2 : done ++ [s.extract f0 s.size] = splitF ⟨#[b]⟩ (s.size + 1) s := by
        rw [← HL.out, split_end (fun j h h1 => HN.out j h h1 (by omega))]
      have HL2 := Lib.hid hL2
      clear hL2 HL HN
      have hbA : Hid (Below wr.heap.size wr (wr.alloc (.cells #[.string (s.extract f0 s.size)] 9))) := (Below.refl _ _).alloc (Nat.le_refl _) _
      have hsA : Hid (Sl (wr.alloc (.cells #[.string (s.extract f0 s.size)] 9)) (some ⟨wr.heap.size, 0, none⟩) (strs [s.extract f0 s.size])) := (Blk.new wr 9 #[.string (s.extract f0 s.size)]).sl (by simp)
      go_wp2_with ((with_reducible refine at_dst (N := 33) rfl ?_); refine ev_app (w := wr.alloc (.cells #[.string (s.extract f0 s.size)] 9)) rfl _ _ 22 9 rfl Try.underlying22 _ 1 16 info9 rfl (by omega) w.heap.size _ _ _ rfl (own_below HO.out hbA.out) _ 1 1 (strs [s.extract f0 s.size]) rfl hsA.out (by simp [strs]) (by simp [strs, Value.oneCell']) (by omega) (by omega) (Nat.le_trans HB.out.size hbA.out.size) ?_; intro v1 w1 ho1 hg1 hat1
                   have HX := Lib.hid (below_row (below_trans HB.out hbA.out) hg1 (Nat.le_trans HB.out.size hbA.out.size) (own_ge HO.out))
                   have ho2 : w1.ownsRow w.heap.size 9 1 v1 (done ++ [s.extract f0 s.size]).length (strs (done ++ [s.extract f0 s.size])) := by simpa [strs] using ho1
                   have HO1 := Lib.hid ho2
                   clear ho1 ho2 hg1 hat1)
      go_ret
      exact ⟨_, rfl, by rw [← HL2.out]; exact HO1.out, HX.out⟩
end Go.Proofs.Ytkjcedlgljeoiaa

