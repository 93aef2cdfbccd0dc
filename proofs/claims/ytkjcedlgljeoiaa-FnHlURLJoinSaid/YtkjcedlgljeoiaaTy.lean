/- Arguments' types as structures of Lean: cells, what holds of them in memory, and openers. Printed by ty.py. -/
import Derived.Test.YtkjcedlgljeoiaaOr
import Derived.Test.YtkjcedlgljeoiaaProg
import Derived.KernelRfl
namespace Go.Proofs.Ytkjcedlgljeoiaa
open Go.RowKit
set_option linter.unusedVariables false
theorem cells_Ty_3 : Try.prog.cellsOf 3 = 1 := by kernel_rfl
theorem cells_Ty_4 : Try.prog.cellsOf 4 = 1 := by kernel_rfl
theorem cells_Ty_9 : Try.prog.cellsOf 9 = 1 := by kernel_rfl
theorem cells_Ty_22 : Try.prog.cellsOf 22 = 1 := by kernel_rfl
theorem cells_Ty_23 : Try.prog.cellsOf 23 = 1 := by kernel_rfl
theorem cells_Ty_24 : Try.prog.cellsOf 24 = 1 := by kernel_rfl
theorem cells_Ty_26 : Try.prog.cellsOf 26 = 15 := by kernel_rfl
theorem cells_Ty_39 : Try.prog.cellsOf 39 = 5 := by kernel_rfl
theorem cells_Ty_48 : Try.prog.cellsOf 48 = 1 := by kernel_rfl
theorem cells_Ty_50 : Try.prog.cellsOf 50 = 3 := by kernel_rfl
theorem cells_Ty_52 : Try.prog.cellsOf 52 = 2 := by kernel_rfl
theorem cells_Ty_65 : Try.prog.cellsOf 65 = 1 := by kernel_rfl
theorem cells_Ty_69 : Try.prog.cellsOf 69 = 19 := by kernel_rfl
theorem cells_Ty_78 : Try.prog.cellsOf 78 = 4 := by kernel_rfl
theorem cells_Ty_80 : Try.prog.cellsOf 80 = 7 := by kernel_rfl
theorem cells_Ty_94 : Try.prog.cellsOf 94 = 2 := by kernel_rfl
theorem cells_Ty_103 : Try.prog.cellsOf 103 = 2 := by kernel_rfl
theorem cells_Ty_108 : Try.prog.cellsOf 108 = 2 := by kernel_rfl
theorem cells_Ty_110 : Try.prog.cellsOf 110 = 4 := by kernel_rfl
/-- given.example/pub-parodos/impl.Pair -/
structure Ty108 where
  fKey : ByteArray
  fText : ByteArray
def Ty108.cells (x : Ty108) : List Value := [.string x.fKey, .string x.fText]
def Ty108.ok (x : Ty108) (w : World) : Prop := (x.fKey.size ≤ maxLen) ∧ (x.fText.size ≤ maxLen)
theorem openT108 {H : Type} {enc : TypeId × Value → H} {w : World} {base : Nat} {spare : Nat → Bool} {held : Bool} (cs : List Value) (h : Rd enc Try.prog w base spare held 108 cs) : ∃ x : Ty108, cs = x.cells ∧ x.ok w := by
  have hl := rd_len Try.underlying108 h
  rw [cells_Ty_108] at hl
  have r0 : Rd enc Try.prog w base spare held 9 ((cs.drop 0).take (Try.prog.cellsOf 9)) := rd_field Try.underlying108 h 0 _ rfl
  rw [cells_Ty_9] at r0
  have r1 : Rd enc Try.prog w base spare held 9 ((cs.drop 1).take (Try.prog.cellsOf 9)) := rd_field Try.underlying108 h 1 _ rfl
  rw [cells_Ty_9] at r1
  match cs, hl with
  | [c0, c1], _ =>
    obtain ⟨v0, e0, z0⟩ := rd_string Try.underlying9 r0
    obtain ⟨v1, e1, z1⟩ := rd_string Try.underlying9 r1
    refine ⟨{ fKey := v0, fText := v1 }, ?_, ⟨z0, z1⟩⟩
    simp only [List.drop, List.take, List.cons.injEq, and_true] at e0 e1
    simp only [Ty108.cells, e0, e1]
/-- given.example/pub-parodos/impl.Repo -/
structure Ty52 where
  fName : ByteArray
  fURL : ByteArray
def Ty52.cells (x : Ty52) : List Value := [.string x.fName, .string x.fURL]
def Ty52.ok (x : Ty52) (w : World) : Prop := (x.fName.size ≤ maxLen) ∧ (x.fURL.size ≤ maxLen)
theorem openT52 {H : Type} {enc : TypeId × Value → H} {w : World} {base : Nat} {spare : Nat → Bool} {held : Bool} (cs : List Value) (h : Rd enc Try.prog w base spare held 52 cs) : ∃ x : Ty52, cs = x.cells ∧ x.ok w := by
  have hl := rd_len Try.underlying52 h
  rw [cells_Ty_52] at hl
  have r0 : Rd enc Try.prog w base spare held 9 ((cs.drop 0).take (Try.prog.cellsOf 9)) := rd_field Try.underlying52 h 0 _ rfl
  rw [cells_Ty_9] at r0
  have r1 : Rd enc Try.prog w base spare held 9 ((cs.drop 1).take (Try.prog.cellsOf 9)) := rd_field Try.underlying52 h 1 _ rfl
  rw [cells_Ty_9] at r1
  match cs, hl with
  | [c0, c1], _ =>
    obtain ⟨v0, e0, z0⟩ := rd_string Try.underlying9 r0
    obtain ⟨v1, e1, z1⟩ := rd_string Try.underlying9 r1
    refine ⟨{ fName := v0, fURL := v1 }, ?_, ⟨z0, z1⟩⟩
    simp only [List.drop, List.take, List.cons.injEq, and_true] at e0 e1
    simp only [Ty52.cells, e0, e1]
/-- given.example/pub-parodos/impl.RepoStep -/
structure Ty50 where
  fOp : Int
  fRepos_a : Option Addr
  fRepos_c : Nat
  fRepos : List Ty52
  fName : ByteArray
def Ty50.cells (x : Ty50) : List Value := [.int .i64 x.fOp, .slice x.fRepos_a x.fRepos.length x.fRepos_c, .string x.fName]
def Ty50.ok (x : Ty50) (w : World) : Prop := ((Lit.int .i64 x.fOp).wf = true) ∧ (Rows w x.fRepos_a 2 (x.fRepos.map Ty52.cells) ∧ x.fRepos.length ≤ x.fRepos_c ∧ ∀ y ∈ x.fRepos, y.ok w) ∧ (x.fName.size ≤ maxLen)
theorem openT50 {H : Type} {enc : TypeId × Value → H} {w : World} {base : Nat} {spare : Nat → Bool} {held : Bool} (cs : List Value) (h : Rd enc Try.prog w base spare held 50 cs) : ∃ x : Ty50, cs = x.cells ∧ x.ok w := by
  have hl := rd_len Try.underlying50 h
  rw [cells_Ty_50] at hl
  have r0 : Rd enc Try.prog w base spare held 3 ((cs.drop 0).take (Try.prog.cellsOf 3)) := rd_field Try.underlying50 h 0 _ rfl
  rw [cells_Ty_3] at r0
  have r1 : Rd enc Try.prog w base spare held 48 ((cs.drop 1).take (Try.prog.cellsOf 48)) := rd_field Try.underlying50 h 1 _ rfl
  rw [cells_Ty_48] at r1
  have r2 : Rd enc Try.prog w base spare held 9 ((cs.drop 2).take (Try.prog.cellsOf 9)) := rd_field Try.underlying50 h 2 _ rfl
  rw [cells_Ty_9] at r2
  match cs, hl with
  | [c0, c1, c2], _ =>
    obtain ⟨v0, e0, z0⟩ := rd_int Try.underlying3 r0
    obtain ⟨a1, k1, rows1, e1, z1, _, y1, x1⟩ := rd_slice Try.underlying48 r1
    obtain ⟨v1, rfl, u1⟩ := rows_map (f := Ty52.cells) (Q := fun x => x.ok w) (fun r hr => openT52 r (x1 r hr).2)
    rw [cells_Ty_52] at y1
    rw [List.length_map] at e1 z1
    obtain ⟨v2, e2, z2⟩ := rd_string Try.underlying9 r2
    refine ⟨{ fOp := v0, fRepos_a := a1, fRepos_c := k1, fRepos := v1, fName := v2 }, ?_, ⟨z0, ⟨y1, z1, u1⟩, z2⟩⟩
    simp only [List.drop, List.take, List.cons.injEq, and_true] at e0 e1 e2
    simp only [Ty50.cells, e0, e1, e2]
/-- given.example/pub-parodos/impl.Command -/
structure Ty110 where
  fOS : ByteArray
  fArch : ByteArray
  fCommand : ByteArray
  fArgs_a : Option Addr
  fArgs_c : Nat
  fArgs : List ByteArray
def Ty110.cells (x : Ty110) : List Value := [.string x.fOS, .string x.fArch, .string x.fCommand, .slice x.fArgs_a x.fArgs.length x.fArgs_c]
def Ty110.ok (x : Ty110) (w : World) : Prop := (x.fOS.size ≤ maxLen) ∧ (x.fArch.size ≤ maxLen) ∧ (x.fCommand.size ≤ maxLen) ∧ (Sl w x.fArgs_a (x.fArgs.map Value.string) ∧ x.fArgs.length ≤ x.fArgs_c)
theorem openT110 {H : Type} {enc : TypeId × Value → H} {w : World} {base : Nat} {spare : Nat → Bool} {held : Bool} (cs : List Value) (h : Rd enc Try.prog w base spare held 110 cs) : ∃ x : Ty110, cs = x.cells ∧ x.ok w := by
  have hl := rd_len Try.underlying110 h
  rw [cells_Ty_110] at hl
  have r0 : Rd enc Try.prog w base spare held 9 ((cs.drop 0).take (Try.prog.cellsOf 9)) := rd_field Try.underlying110 h 0 _ rfl
  rw [cells_Ty_9] at r0
  have r1 : Rd enc Try.prog w base spare held 9 ((cs.drop 1).take (Try.prog.cellsOf 9)) := rd_field Try.underlying110 h 1 _ rfl
  rw [cells_Ty_9] at r1
  have r2 : Rd enc Try.prog w base spare held 9 ((cs.drop 2).take (Try.prog.cellsOf 9)) := rd_field Try.underlying110 h 2 _ rfl
  rw [cells_Ty_9] at r2
  have r3 : Rd enc Try.prog w base spare held 22 ((cs.drop 3).take (Try.prog.cellsOf 22)) := rd_field Try.underlying110 h 3 _ rfl
  rw [cells_Ty_22] at r3
  match cs, hl with
  | [c0, c1, c2, c3], _ =>
    obtain ⟨v0, e0, z0⟩ := rd_string Try.underlying9 r0
    obtain ⟨v1, e1, z1⟩ := rd_string Try.underlying9 r1
    obtain ⟨v2, e2, z2⟩ := rd_string Try.underlying9 r2
    obtain ⟨a3, k3, v3, e3, z3, _, y3, _⟩ := rd_strings Try.underlying22 Try.underlying9 cells_Ty_9 r3
    refine ⟨{ fOS := v0, fArch := v1, fCommand := v2, fArgs_a := a3, fArgs_c := k3, fArgs := v3 }, ?_, ⟨z0, z1, z2, ⟨y3, z3⟩⟩⟩
    simp only [List.drop, List.take, List.cons.injEq, and_true] at e0 e1 e2 e3
    simp only [Ty110.cells, e0, e1, e2, e3]
/-- given.example/pub-parodos/impl.Person -/
structure Ty78 where
  fNil : Bool
  fName : ByteArray
  fEmail : ByteArray
  fURL : ByteArray
def Ty78.cells (x : Ty78) : List Value := [.bool x.fNil, .string x.fName, .string x.fEmail, .string x.fURL]
def Ty78.ok (x : Ty78) (w : World) : Prop := (x.fName.size ≤ maxLen) ∧ (x.fEmail.size ≤ maxLen) ∧ (x.fURL.size ≤ maxLen)
theorem openT78 {H : Type} {enc : TypeId × Value → H} {w : World} {base : Nat} {spare : Nat → Bool} {held : Bool} (cs : List Value) (h : Rd enc Try.prog w base spare held 78 cs) : ∃ x : Ty78, cs = x.cells ∧ x.ok w := by
  have hl := rd_len Try.underlying78 h
  rw [cells_Ty_78] at hl
  have r0 : Rd enc Try.prog w base spare held 4 ((cs.drop 0).take (Try.prog.cellsOf 4)) := rd_field Try.underlying78 h 0 _ rfl
  rw [cells_Ty_4] at r0
  have r1 : Rd enc Try.prog w base spare held 9 ((cs.drop 1).take (Try.prog.cellsOf 9)) := rd_field Try.underlying78 h 1 _ rfl
  rw [cells_Ty_9] at r1
  have r2 : Rd enc Try.prog w base spare held 9 ((cs.drop 2).take (Try.prog.cellsOf 9)) := rd_field Try.underlying78 h 2 _ rfl
  rw [cells_Ty_9] at r2
  have r3 : Rd enc Try.prog w base spare held 9 ((cs.drop 3).take (Try.prog.cellsOf 9)) := rd_field Try.underlying78 h 3 _ rfl
  rw [cells_Ty_9] at r3
  match cs, hl with
  | [c0, c1, c2, c3], _ =>
    obtain ⟨v0, e0⟩ := rd_bool Try.underlying4 r0
    obtain ⟨v1, e1, z1⟩ := rd_string Try.underlying9 r1
    obtain ⟨v2, e2, z2⟩ := rd_string Try.underlying9 r2
    obtain ⟨v3, e3, z3⟩ := rd_string Try.underlying9 r3
    refine ⟨{ fNil := v0, fName := v1, fEmail := v2, fURL := v3 }, ?_, ⟨z1, z2, z3⟩⟩
    simp only [List.drop, List.take, List.cons.injEq, and_true] at e0 e1 e2 e3
    simp only [Ty78.cells, e0, e1, e2, e3]
/-- given.example/pub-parodos/impl.Dependency -/
structure Ty80 where
  fNil : Bool
  fName : ByteArray
  fVersion : ByteArray
  fRepository : ByteArray
  fCondition : ByteArray
  fTags_a : Option Addr
  fTags_c : Nat
  fTags : List ByteArray
  fAlias : ByteArray
def Ty80.cells (x : Ty80) : List Value := [.bool x.fNil, .string x.fName, .string x.fVersion, .string x.fRepository, .string x.fCondition, .slice x.fTags_a x.fTags.length x.fTags_c, .string x.fAlias]
def Ty80.ok (x : Ty80) (w : World) : Prop := (x.fName.size ≤ maxLen) ∧ (x.fVersion.size ≤ maxLen) ∧ (x.fRepository.size ≤ maxLen) ∧ (x.fCondition.size ≤ maxLen) ∧ (Sl w x.fTags_a (x.fTags.map Value.string) ∧ x.fTags.length ≤ x.fTags_c) ∧ (x.fAlias.size ≤ maxLen)
theorem openT80 {H : Type} {enc : TypeId × Value → H} {w : World} {base : Nat} {spare : Nat → Bool} {held : Bool} (cs : List Value) (h : Rd enc Try.prog w base spare held 80 cs) : ∃ x : Ty80, cs = x.cells ∧ x.ok w := by
  have hl := rd_len Try.underlying80 h
  rw [cells_Ty_80] at hl
  have r0 : Rd enc Try.prog w base spare held 4 ((cs.drop 0).take (Try.prog.cellsOf 4)) := rd_field Try.underlying80 h 0 _ rfl
  rw [cells_Ty_4] at r0
  have r1 : Rd enc Try.prog w base spare held 9 ((cs.drop 1).take (Try.prog.cellsOf 9)) := rd_field Try.underlying80 h 1 _ rfl
  rw [cells_Ty_9] at r1
  have r2 : Rd enc Try.prog w base spare held 9 ((cs.drop 2).take (Try.prog.cellsOf 9)) := rd_field Try.underlying80 h 2 _ rfl
  rw [cells_Ty_9] at r2
  have r3 : Rd enc Try.prog w base spare held 9 ((cs.drop 3).take (Try.prog.cellsOf 9)) := rd_field Try.underlying80 h 3 _ rfl
  rw [cells_Ty_9] at r3
  have r4 : Rd enc Try.prog w base spare held 9 ((cs.drop 4).take (Try.prog.cellsOf 9)) := rd_field Try.underlying80 h 4 _ rfl
  rw [cells_Ty_9] at r4
  have r5 : Rd enc Try.prog w base spare held 22 ((cs.drop 5).take (Try.prog.cellsOf 22)) := rd_field Try.underlying80 h 5 _ rfl
  rw [cells_Ty_22] at r5
  have r6 : Rd enc Try.prog w base spare held 9 ((cs.drop 6).take (Try.prog.cellsOf 9)) := rd_field Try.underlying80 h 6 _ rfl
  rw [cells_Ty_9] at r6
  match cs, hl with
  | [c0, c1, c2, c3, c4, c5, c6], _ =>
    obtain ⟨v0, e0⟩ := rd_bool Try.underlying4 r0
    obtain ⟨v1, e1, z1⟩ := rd_string Try.underlying9 r1
    obtain ⟨v2, e2, z2⟩ := rd_string Try.underlying9 r2
    obtain ⟨v3, e3, z3⟩ := rd_string Try.underlying9 r3
    obtain ⟨v4, e4, z4⟩ := rd_string Try.underlying9 r4
    obtain ⟨a5, k5, v5, e5, z5, _, y5, _⟩ := rd_strings Try.underlying22 Try.underlying9 cells_Ty_9 r5
    obtain ⟨v6, e6, z6⟩ := rd_string Try.underlying9 r6
    refine ⟨{ fNil := v0, fName := v1, fVersion := v2, fRepository := v3, fCondition := v4, fTags_a := a5, fTags_c := k5, fTags := v5, fAlias := v6 }, ?_, ⟨z1, z2, z3, z4, ⟨y5, z5⟩, z6⟩⟩
    simp only [List.drop, List.take, List.cons.injEq, and_true] at e0 e1 e2 e3 e4 e5 e6
    simp only [Ty80.cells, e0, e1, e2, e3, e4, e5, e6]
/-- given.example/pub-parodos/impl.Meta -/
structure Ty26 where
  fName : ByteArray
  fHome : ByteArray
  fVersion : ByteArray
  fDescription : ByteArray
  fIcon : ByteArray
  fAPIVersion : ByteArray
  fCondition : ByteArray
  fTags : ByteArray
  fAppVersion : ByteArray
  fKubeVersion : ByteArray
  fType : ByteArray
  fSources_a : Option Addr
  fSources_c : Nat
  fSources : List ByteArray
  fKeywords_a : Option Addr
  fKeywords_c : Nat
  fKeywords : List ByteArray
  fMaintainers_a : Option Addr
  fMaintainers_c : Nat
  fMaintainers : List Ty78
  fDependencies_a : Option Addr
  fDependencies_c : Nat
  fDependencies : List Ty80
def Ty26.cells (x : Ty26) : List Value := [.string x.fName, .string x.fHome, .string x.fVersion, .string x.fDescription, .string x.fIcon, .string x.fAPIVersion, .string x.fCondition, .string x.fTags, .string x.fAppVersion, .string x.fKubeVersion, .string x.fType, .slice x.fSources_a x.fSources.length x.fSources_c, .slice x.fKeywords_a x.fKeywords.length x.fKeywords_c, .slice x.fMaintainers_a x.fMaintainers.length x.fMaintainers_c, .slice x.fDependencies_a x.fDependencies.length x.fDependencies_c]
def Ty26.ok (x : Ty26) (w : World) : Prop := (x.fName.size ≤ maxLen) ∧ (x.fHome.size ≤ maxLen) ∧ (x.fVersion.size ≤ maxLen) ∧ (x.fDescription.size ≤ maxLen) ∧ (x.fIcon.size ≤ maxLen) ∧ (x.fAPIVersion.size ≤ maxLen) ∧ (x.fCondition.size ≤ maxLen) ∧ (x.fTags.size ≤ maxLen) ∧ (x.fAppVersion.size ≤ maxLen) ∧ (x.fKubeVersion.size ≤ maxLen) ∧ (x.fType.size ≤ maxLen) ∧ (Sl w x.fSources_a (x.fSources.map Value.string) ∧ x.fSources.length ≤ x.fSources_c) ∧ (Sl w x.fKeywords_a (x.fKeywords.map Value.string) ∧ x.fKeywords.length ≤ x.fKeywords_c) ∧ (Rows w x.fMaintainers_a 4 (x.fMaintainers.map Ty78.cells) ∧ x.fMaintainers.length ≤ x.fMaintainers_c ∧ ∀ y ∈ x.fMaintainers, y.ok w) ∧ (Rows w x.fDependencies_a 7 (x.fDependencies.map Ty80.cells) ∧ x.fDependencies.length ≤ x.fDependencies_c ∧ ∀ y ∈ x.fDependencies, y.ok w)
theorem openT26 {H : Type} {enc : TypeId × Value → H} {w : World} {base : Nat} {spare : Nat → Bool} {held : Bool} (cs : List Value) (h : Rd enc Try.prog w base spare held 26 cs) : ∃ x : Ty26, cs = x.cells ∧ x.ok w := by
  have hl := rd_len Try.underlying26 h
  rw [cells_Ty_26] at hl
  have r0 : Rd enc Try.prog w base spare held 9 ((cs.drop 0).take (Try.prog.cellsOf 9)) := rd_field Try.underlying26 h 0 _ rfl
  rw [cells_Ty_9] at r0
  have r1 : Rd enc Try.prog w base spare held 9 ((cs.drop 1).take (Try.prog.cellsOf 9)) := rd_field Try.underlying26 h 1 _ rfl
  rw [cells_Ty_9] at r1
  have r2 : Rd enc Try.prog w base spare held 9 ((cs.drop 2).take (Try.prog.cellsOf 9)) := rd_field Try.underlying26 h 2 _ rfl
  rw [cells_Ty_9] at r2
  have r3 : Rd enc Try.prog w base spare held 9 ((cs.drop 3).take (Try.prog.cellsOf 9)) := rd_field Try.underlying26 h 3 _ rfl
  rw [cells_Ty_9] at r3
  have r4 : Rd enc Try.prog w base spare held 9 ((cs.drop 4).take (Try.prog.cellsOf 9)) := rd_field Try.underlying26 h 4 _ rfl
  rw [cells_Ty_9] at r4
  have r5 : Rd enc Try.prog w base spare held 9 ((cs.drop 5).take (Try.prog.cellsOf 9)) := rd_field Try.underlying26 h 5 _ rfl
  rw [cells_Ty_9] at r5
  have r6 : Rd enc Try.prog w base spare held 9 ((cs.drop 6).take (Try.prog.cellsOf 9)) := rd_field Try.underlying26 h 6 _ rfl
  rw [cells_Ty_9] at r6
  have r7 : Rd enc Try.prog w base spare held 9 ((cs.drop 7).take (Try.prog.cellsOf 9)) := rd_field Try.underlying26 h 7 _ rfl
  rw [cells_Ty_9] at r7
  have r8 : Rd enc Try.prog w base spare held 9 ((cs.drop 8).take (Try.prog.cellsOf 9)) := rd_field Try.underlying26 h 8 _ rfl
  rw [cells_Ty_9] at r8
  have r9 : Rd enc Try.prog w base spare held 9 ((cs.drop 9).take (Try.prog.cellsOf 9)) := rd_field Try.underlying26 h 9 _ rfl
  rw [cells_Ty_9] at r9
  have r10 : Rd enc Try.prog w base spare held 9 ((cs.drop 10).take (Try.prog.cellsOf 9)) := rd_field Try.underlying26 h 10 _ rfl
  rw [cells_Ty_9] at r10
  have r11 : Rd enc Try.prog w base spare held 22 ((cs.drop 11).take (Try.prog.cellsOf 22)) := rd_field Try.underlying26 h 11 _ rfl
  rw [cells_Ty_22] at r11
  have r12 : Rd enc Try.prog w base spare held 22 ((cs.drop 12).take (Try.prog.cellsOf 22)) := rd_field Try.underlying26 h 12 _ rfl
  rw [cells_Ty_22] at r12
  have r13 : Rd enc Try.prog w base spare held 23 ((cs.drop 13).take (Try.prog.cellsOf 23)) := rd_field Try.underlying26 h 13 _ rfl
  rw [cells_Ty_23] at r13
  have r14 : Rd enc Try.prog w base spare held 24 ((cs.drop 14).take (Try.prog.cellsOf 24)) := rd_field Try.underlying26 h 14 _ rfl
  rw [cells_Ty_24] at r14
  match cs, hl with
  | [c0, c1, c2, c3, c4, c5, c6, c7, c8, c9, c10, c11, c12, c13, c14], _ =>
    obtain ⟨v0, e0, z0⟩ := rd_string Try.underlying9 r0
    obtain ⟨v1, e1, z1⟩ := rd_string Try.underlying9 r1
    obtain ⟨v2, e2, z2⟩ := rd_string Try.underlying9 r2
    obtain ⟨v3, e3, z3⟩ := rd_string Try.underlying9 r3
    obtain ⟨v4, e4, z4⟩ := rd_string Try.underlying9 r4
    obtain ⟨v5, e5, z5⟩ := rd_string Try.underlying9 r5
    obtain ⟨v6, e6, z6⟩ := rd_string Try.underlying9 r6
    obtain ⟨v7, e7, z7⟩ := rd_string Try.underlying9 r7
    obtain ⟨v8, e8, z8⟩ := rd_string Try.underlying9 r8
    obtain ⟨v9, e9, z9⟩ := rd_string Try.underlying9 r9
    obtain ⟨v10, e10, z10⟩ := rd_string Try.underlying9 r10
    obtain ⟨a11, k11, v11, e11, z11, _, y11, _⟩ := rd_strings Try.underlying22 Try.underlying9 cells_Ty_9 r11
    obtain ⟨a12, k12, v12, e12, z12, _, y12, _⟩ := rd_strings Try.underlying22 Try.underlying9 cells_Ty_9 r12
    obtain ⟨a13, k13, rows13, e13, z13, _, y13, x13⟩ := rd_slice Try.underlying23 r13
    obtain ⟨v13, rfl, u13⟩ := rows_map (f := Ty78.cells) (Q := fun x => x.ok w) (fun r hr => openT78 r (x13 r hr).2)
    rw [cells_Ty_78] at y13
    rw [List.length_map] at e13 z13
    obtain ⟨a14, k14, rows14, e14, z14, _, y14, x14⟩ := rd_slice Try.underlying24 r14
    obtain ⟨v14, rfl, u14⟩ := rows_map (f := Ty80.cells) (Q := fun x => x.ok w) (fun r hr => openT80 r (x14 r hr).2)
    rw [cells_Ty_80] at y14
    rw [List.length_map] at e14 z14
    refine ⟨{ fName := v0, fHome := v1, fVersion := v2, fDescription := v3, fIcon := v4, fAPIVersion := v5, fCondition := v6, fTags := v7, fAppVersion := v8, fKubeVersion := v9, fType := v10, fSources_a := a11, fSources_c := k11, fSources := v11, fKeywords_a := a12, fKeywords_c := k12, fKeywords := v12, fMaintainers_a := a13, fMaintainers_c := k13, fMaintainers := v13, fDependencies_a := a14, fDependencies_c := k14, fDependencies := v14 }, ?_, ⟨z0, z1, z2, z3, z4, z5, z6, z7, z8, z9, z10, ⟨y11, z11⟩, ⟨y12, z12⟩, ⟨y13, z13, u13⟩, ⟨y14, z14, u14⟩⟩⟩
    simp only [List.drop, List.take, List.cons.injEq, and_true] at e0 e1 e2 e3 e4 e5 e6 e7 e8 e9 e10 e11 e12 e13 e14
    simp only [Ty26.cells, e0, e1, e2, e3, e4, e5, e6, e7, e8, e9, e10, e11, e12, e13, e14]
/-- given.example/pub-parodos/impl.Entry -/
structure Ty69 where
  fNil : Bool
  fBare : Bool
  fMeta : Ty26
  fURLs_a : Option Addr
  fURLs_c : Nat
  fURLs : List ByteArray
  fDigest : ByteArray
def Ty69.cells (x : Ty69) : List Value := [.bool x.fNil] ++ [.bool x.fBare] ++ x.fMeta.cells ++ [.slice x.fURLs_a x.fURLs.length x.fURLs_c] ++ [.string x.fDigest]
def Ty69.ok (x : Ty69) (w : World) : Prop := (x.fMeta.ok w) ∧ (Sl w x.fURLs_a (x.fURLs.map Value.string) ∧ x.fURLs.length ≤ x.fURLs_c) ∧ (x.fDigest.size ≤ maxLen)
theorem openT69 {H : Type} {enc : TypeId × Value → H} {w : World} {base : Nat} {spare : Nat → Bool} {held : Bool} (cs : List Value) (h : Rd enc Try.prog w base spare held 69 cs) : ∃ x : Ty69, cs = x.cells ∧ x.ok w := by
  have hl := rd_len Try.underlying69 h
  rw [cells_Ty_69] at hl
  have r0 : Rd enc Try.prog w base spare held 4 ((cs.drop 0).take (Try.prog.cellsOf 4)) := rd_field Try.underlying69 h 0 _ rfl
  rw [cells_Ty_4] at r0
  have r1 : Rd enc Try.prog w base spare held 4 ((cs.drop 1).take (Try.prog.cellsOf 4)) := rd_field Try.underlying69 h 1 _ rfl
  rw [cells_Ty_4] at r1
  have r2 : Rd enc Try.prog w base spare held 26 ((cs.drop 2).take (Try.prog.cellsOf 26)) := rd_field Try.underlying69 h 2 _ rfl
  rw [cells_Ty_26] at r2
  have r3 : Rd enc Try.prog w base spare held 22 ((cs.drop 17).take (Try.prog.cellsOf 22)) := rd_field Try.underlying69 h 3 _ rfl
  rw [cells_Ty_22] at r3
  have r4 : Rd enc Try.prog w base spare held 9 ((cs.drop 18).take (Try.prog.cellsOf 9)) := rd_field Try.underlying69 h 4 _ rfl
  rw [cells_Ty_9] at r4
  match cs, hl with
  | [c0, c1, c2, c3, c4, c5, c6, c7, c8, c9, c10, c11, c12, c13, c14, c15, c16, c17, c18], _ =>
    obtain ⟨v0, e0⟩ := rd_bool Try.underlying4 r0
    obtain ⟨v1, e1⟩ := rd_bool Try.underlying4 r1
    obtain ⟨v2, e2, z2⟩ := openT26 _ r2
    obtain ⟨a3, k3, v3, e3, z3, _, y3, _⟩ := rd_strings Try.underlying22 Try.underlying9 cells_Ty_9 r3
    obtain ⟨v4, e4, z4⟩ := rd_string Try.underlying9 r4
    refine ⟨{ fNil := v0, fBare := v1, fMeta := v2, fURLs_a := a3, fURLs_c := k3, fURLs := v3, fDigest := v4 }, ?_, ⟨z2, ⟨y3, z3⟩, z4⟩⟩
    simp only [List.drop, List.take] at e0 e1 e2 e3 e4
    simp only [Ty69.cells, ← e0, ← e1, ← e2, ← e3, ← e4]
    rfl
/-- given.example/pub-parodos/impl.Named -/
structure Ty103 where
  fName : ByteArray
  fVersions_a : Option Addr
  fVersions_c : Nat
  fVersions : List Ty69
def Ty103.cells (x : Ty103) : List Value := [.string x.fName, .slice x.fVersions_a x.fVersions.length x.fVersions_c]
def Ty103.ok (x : Ty103) (w : World) : Prop := (x.fName.size ≤ maxLen) ∧ (Rows w x.fVersions_a 19 (x.fVersions.map Ty69.cells) ∧ x.fVersions.length ≤ x.fVersions_c ∧ ∀ y ∈ x.fVersions, y.ok w)
theorem openT103 {H : Type} {enc : TypeId × Value → H} {w : World} {base : Nat} {spare : Nat → Bool} {held : Bool} (cs : List Value) (h : Rd enc Try.prog w base spare held 103 cs) : ∃ x : Ty103, cs = x.cells ∧ x.ok w := by
  have hl := rd_len Try.underlying103 h
  rw [cells_Ty_103] at hl
  have r0 : Rd enc Try.prog w base spare held 9 ((cs.drop 0).take (Try.prog.cellsOf 9)) := rd_field Try.underlying103 h 0 _ rfl
  rw [cells_Ty_9] at r0
  have r1 : Rd enc Try.prog w base spare held 65 ((cs.drop 1).take (Try.prog.cellsOf 65)) := rd_field Try.underlying103 h 1 _ rfl
  rw [cells_Ty_65] at r1
  match cs, hl with
  | [c0, c1], _ =>
    obtain ⟨v0, e0, z0⟩ := rd_string Try.underlying9 r0
    obtain ⟨a1, k1, rows1, e1, z1, _, y1, x1⟩ := rd_slice Try.underlying65 r1
    obtain ⟨v1, rfl, u1⟩ := rows_map (f := Ty69.cells) (Q := fun x => x.ok w) (fun r hr => openT69 r (x1 r hr).2)
    rw [cells_Ty_69] at y1
    rw [List.length_map] at e1 z1
    refine ⟨{ fName := v0, fVersions_a := a1, fVersions_c := k1, fVersions := v1 }, ?_, ⟨z0, ⟨y1, z1, u1⟩⟩⟩
    simp only [List.drop, List.take, List.cons.injEq, and_true] at e0 e1
    simp only [Ty103.cells, e0, e1]
/-- given.example/pub-parodos/impl.File -/
structure Ty94 where
  fName : ByteArray
  fData : ByteArray
def Ty94.cells (x : Ty94) : List Value := [.string x.fName, .string x.fData]
def Ty94.ok (x : Ty94) (w : World) : Prop := (x.fName.size ≤ maxLen) ∧ (x.fData.size ≤ maxLen)
theorem openT94 {H : Type} {enc : TypeId × Value → H} {w : World} {base : Nat} {spare : Nat → Bool} {held : Bool} (cs : List Value) (h : Rd enc Try.prog w base spare held 94 cs) : ∃ x : Ty94, cs = x.cells ∧ x.ok w := by
  have hl := rd_len Try.underlying94 h
  rw [cells_Ty_94] at hl
  have r0 : Rd enc Try.prog w base spare held 9 ((cs.drop 0).take (Try.prog.cellsOf 9)) := rd_field Try.underlying94 h 0 _ rfl
  rw [cells_Ty_9] at r0
  have r1 : Rd enc Try.prog w base spare held 9 ((cs.drop 1).take (Try.prog.cellsOf 9)) := rd_field Try.underlying94 h 1 _ rfl
  rw [cells_Ty_9] at r1
  match cs, hl with
  | [c0, c1], _ =>
    obtain ⟨v0, e0, z0⟩ := rd_string Try.underlying9 r0
    obtain ⟨v1, e1, z1⟩ := rd_string Try.underlying9 r1
    refine ⟨{ fName := v0, fData := v1 }, ?_, ⟨z0, z1⟩⟩
    simp only [List.drop, List.take, List.cons.injEq, and_true] at e0 e1
    simp only [Ty94.cells, e0, e1]
/-- given.example/pub-parodos/impl.ChartPath -/
structure Ty39 where
  fName : ByteArray
  fPath : ByteArray
  fFull : ByteArray
  fIsRoot : Bool
  fRoot : ByteArray
def Ty39.cells (x : Ty39) : List Value := [.string x.fName, .string x.fPath, .string x.fFull, .bool x.fIsRoot, .string x.fRoot]
def Ty39.ok (x : Ty39) (w : World) : Prop := (x.fName.size ≤ maxLen) ∧ (x.fPath.size ≤ maxLen) ∧ (x.fFull.size ≤ maxLen) ∧ (x.fRoot.size ≤ maxLen)
theorem openT39 {H : Type} {enc : TypeId × Value → H} {w : World} {base : Nat} {spare : Nat → Bool} {held : Bool} (cs : List Value) (h : Rd enc Try.prog w base spare held 39 cs) : ∃ x : Ty39, cs = x.cells ∧ x.ok w := by
  have hl := rd_len Try.underlying39 h
  rw [cells_Ty_39] at hl
  have r0 : Rd enc Try.prog w base spare held 9 ((cs.drop 0).take (Try.prog.cellsOf 9)) := rd_field Try.underlying39 h 0 _ rfl
  rw [cells_Ty_9] at r0
  have r1 : Rd enc Try.prog w base spare held 9 ((cs.drop 1).take (Try.prog.cellsOf 9)) := rd_field Try.underlying39 h 1 _ rfl
  rw [cells_Ty_9] at r1
  have r2 : Rd enc Try.prog w base spare held 9 ((cs.drop 2).take (Try.prog.cellsOf 9)) := rd_field Try.underlying39 h 2 _ rfl
  rw [cells_Ty_9] at r2
  have r3 : Rd enc Try.prog w base spare held 4 ((cs.drop 3).take (Try.prog.cellsOf 4)) := rd_field Try.underlying39 h 3 _ rfl
  rw [cells_Ty_4] at r3
  have r4 : Rd enc Try.prog w base spare held 9 ((cs.drop 4).take (Try.prog.cellsOf 9)) := rd_field Try.underlying39 h 4 _ rfl
  rw [cells_Ty_9] at r4
  match cs, hl with
  | [c0, c1, c2, c3, c4], _ =>
    obtain ⟨v0, e0, z0⟩ := rd_string Try.underlying9 r0
    obtain ⟨v1, e1, z1⟩ := rd_string Try.underlying9 r1
    obtain ⟨v2, e2, z2⟩ := rd_string Try.underlying9 r2
    obtain ⟨v3, e3⟩ := rd_bool Try.underlying4 r3
    obtain ⟨v4, e4, z4⟩ := rd_string Try.underlying9 r4
    refine ⟨{ fName := v0, fPath := v1, fFull := v2, fIsRoot := v3, fRoot := v4 }, ?_, ⟨z0, z1, z2, z4⟩⟩
    simp only [List.drop, List.take, List.cons.injEq, and_true] at e0 e1 e2 e3 e4
    simp only [Ty39.cells, e0, e1, e2, e3, e4]
end Go.Proofs.Ytkjcedlgljeoiaa
