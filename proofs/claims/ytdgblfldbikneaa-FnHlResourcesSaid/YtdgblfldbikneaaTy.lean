/- Arguments' types as structures of Lean: cells, what holds of them in memory, and openers. Printed by ty.py. -/
import Derived.Test.YtdgblfldbikneaaOr
import Derived.Test.YtdgblfldbikneaaProg
import Derived.KernelRfl
namespace Go.Proofs.Ytdgblfldbikneaa
open Go.RowKit
set_option linter.unusedVariables false
theorem cells_Ty_2 : Try.prog.cellsOf 2 = 1 := by kernel_rfl
theorem cells_Ty_3 : Try.prog.cellsOf 3 = 1 := by kernel_rfl
theorem cells_Ty_4 : Try.prog.cellsOf 4 = 1 := by kernel_rfl
theorem cells_Ty_9 : Try.prog.cellsOf 9 = 1 := by kernel_rfl
theorem cells_Ty_22 : Try.prog.cellsOf 22 = 1 := by kernel_rfl
theorem cells_Ty_35 : Try.prog.cellsOf 35 = 4 := by kernel_rfl
theorem cells_Ty_53 : Try.prog.cellsOf 53 = 5 := by kernel_rfl
theorem cells_Ty_65 : Try.prog.cellsOf 65 = 4 := by kernel_rfl
theorem cells_Ty_73 : Try.prog.cellsOf 73 = 2 := by kernel_rfl
theorem cells_Ty_79 : Try.prog.cellsOf 79 = 7 := by kernel_rfl
theorem cells_Ty_92 : Try.prog.cellsOf 92 = 4 := by kernel_rfl
/-- given.example/pub-parodos/impl.Person -/
structure Ty35 where
  fNil : Bool
  fName : ByteArray
  fEmail : ByteArray
  fURL : ByteArray
def Ty35.cells (x : Ty35) : List Value := [.bool x.fNil, .string x.fName, .string x.fEmail, .string x.fURL]
def Ty35.ok (x : Ty35) (w : World) : Prop := (x.fName.size ≤ maxLen) ∧ (x.fEmail.size ≤ maxLen) ∧ (x.fURL.size ≤ maxLen)
theorem openT35 {H : Type} {enc : TypeId × Value → H} {w : World} {base : Nat} {spare : Nat → Bool} {held : Bool} (cs : List Value) (h : Rd enc Try.prog w base spare held 35 cs) : ∃ x : Ty35, cs = x.cells ∧ x.ok w := by
  have hl := rd_len Try.underlying35 h
  rw [cells_Ty_35] at hl
  have r0 : Rd enc Try.prog w base spare held 4 ((cs.drop 0).take (Try.prog.cellsOf 4)) := rd_field Try.underlying35 h 0 _ rfl
  rw [cells_Ty_4] at r0
  have r1 : Rd enc Try.prog w base spare held 9 ((cs.drop 1).take (Try.prog.cellsOf 9)) := rd_field Try.underlying35 h 1 _ rfl
  rw [cells_Ty_9] at r1
  have r2 : Rd enc Try.prog w base spare held 9 ((cs.drop 2).take (Try.prog.cellsOf 9)) := rd_field Try.underlying35 h 2 _ rfl
  rw [cells_Ty_9] at r2
  have r3 : Rd enc Try.prog w base spare held 9 ((cs.drop 3).take (Try.prog.cellsOf 9)) := rd_field Try.underlying35 h 3 _ rfl
  rw [cells_Ty_9] at r3
  match cs, hl with
  | [c0, c1, c2, c3], _ =>
    obtain ⟨v0, e0⟩ := rd_bool Try.underlying4 r0
    obtain ⟨v1, e1, z1⟩ := rd_string Try.underlying9 r1
    obtain ⟨v2, e2, z2⟩ := rd_string Try.underlying9 r2
    obtain ⟨v3, e3, z3⟩ := rd_string Try.underlying9 r3
    refine ⟨{ fNil := v0, fName := v1, fEmail := v2, fURL := v3 }, ?_, ⟨z1, z2, z3⟩⟩
    simp only [List.drop, List.take, List.cons.injEq, and_true] at e0 e1 e2 e3
    simp only [Ty35.cells, e0, e1, e2, e3]
/-- given.example/pub-parodos/impl.Release -/
structure Ty53 where
  fName : ByteArray
  fNamespace : ByteArray
  fStatus : ByteArray
  fVersion : Int
  fAt : Int
def Ty53.cells (x : Ty53) : List Value := [.string x.fName, .string x.fNamespace, .string x.fStatus, .int .i64 x.fVersion, .int .i64 x.fAt]
def Ty53.ok (x : Ty53) (w : World) : Prop := (x.fName.size ≤ maxLen) ∧ (x.fNamespace.size ≤ maxLen) ∧ (x.fStatus.size ≤ maxLen) ∧ ((Lit.int .i64 x.fVersion).wf = true) ∧ ((Lit.int .i64 x.fAt).wf = true)
theorem openT53 {H : Type} {enc : TypeId × Value → H} {w : World} {base : Nat} {spare : Nat → Bool} {held : Bool} (cs : List Value) (h : Rd enc Try.prog w base spare held 53 cs) : ∃ x : Ty53, cs = x.cells ∧ x.ok w := by
  have hl := rd_len Try.underlying53 h
  rw [cells_Ty_53] at hl
  have r0 : Rd enc Try.prog w base spare held 9 ((cs.drop 0).take (Try.prog.cellsOf 9)) := rd_field Try.underlying53 h 0 _ rfl
  rw [cells_Ty_9] at r0
  have r1 : Rd enc Try.prog w base spare held 9 ((cs.drop 1).take (Try.prog.cellsOf 9)) := rd_field Try.underlying53 h 1 _ rfl
  rw [cells_Ty_9] at r1
  have r2 : Rd enc Try.prog w base spare held 9 ((cs.drop 2).take (Try.prog.cellsOf 9)) := rd_field Try.underlying53 h 2 _ rfl
  rw [cells_Ty_9] at r2
  have r3 : Rd enc Try.prog w base spare held 3 ((cs.drop 3).take (Try.prog.cellsOf 3)) := rd_field Try.underlying53 h 3 _ rfl
  rw [cells_Ty_3] at r3
  have r4 : Rd enc Try.prog w base spare held 2 ((cs.drop 4).take (Try.prog.cellsOf 2)) := rd_field Try.underlying53 h 4 _ rfl
  rw [cells_Ty_2] at r4
  match cs, hl with
  | [c0, c1, c2, c3, c4], _ =>
    obtain ⟨v0, e0, z0⟩ := rd_string Try.underlying9 r0
    obtain ⟨v1, e1, z1⟩ := rd_string Try.underlying9 r1
    obtain ⟨v2, e2, z2⟩ := rd_string Try.underlying9 r2
    obtain ⟨v3, e3, z3⟩ := rd_int Try.underlying3 r3
    obtain ⟨v4, e4, z4⟩ := rd_int Try.underlying2 r4
    refine ⟨{ fName := v0, fNamespace := v1, fStatus := v2, fVersion := v3, fAt := v4 }, ?_, ⟨z0, z1, z2, z3, z4⟩⟩
    simp only [List.drop, List.take, List.cons.injEq, and_true] at e0 e1 e2 e3 e4
    simp only [Ty53.cells, e0, e1, e2, e3, e4]
/-- given.example/pub-parodos/impl.Rule -/
structure Ty65 where
  fSeverity : Int
  fPath : ByteArray
  fIs : Bool
  fError : ByteArray
def Ty65.cells (x : Ty65) : List Value := [.int .i64 x.fSeverity, .string x.fPath, .bool x.fIs, .string x.fError]
def Ty65.ok (x : Ty65) (w : World) : Prop := ((Lit.int .i64 x.fSeverity).wf = true) ∧ (x.fPath.size ≤ maxLen) ∧ (x.fError.size ≤ maxLen)
theorem openT65 {H : Type} {enc : TypeId × Value → H} {w : World} {base : Nat} {spare : Nat → Bool} {held : Bool} (cs : List Value) (h : Rd enc Try.prog w base spare held 65 cs) : ∃ x : Ty65, cs = x.cells ∧ x.ok w := by
  have hl := rd_len Try.underlying65 h
  rw [cells_Ty_65] at hl
  have r0 : Rd enc Try.prog w base spare held 3 ((cs.drop 0).take (Try.prog.cellsOf 3)) := rd_field Try.underlying65 h 0 _ rfl
  rw [cells_Ty_3] at r0
  have r1 : Rd enc Try.prog w base spare held 9 ((cs.drop 1).take (Try.prog.cellsOf 9)) := rd_field Try.underlying65 h 1 _ rfl
  rw [cells_Ty_9] at r1
  have r2 : Rd enc Try.prog w base spare held 4 ((cs.drop 2).take (Try.prog.cellsOf 4)) := rd_field Try.underlying65 h 2 _ rfl
  rw [cells_Ty_4] at r2
  have r3 : Rd enc Try.prog w base spare held 9 ((cs.drop 3).take (Try.prog.cellsOf 9)) := rd_field Try.underlying65 h 3 _ rfl
  rw [cells_Ty_9] at r3
  match cs, hl with
  | [c0, c1, c2, c3], _ =>
    obtain ⟨v0, e0, z0⟩ := rd_int Try.underlying3 r0
    obtain ⟨v1, e1, z1⟩ := rd_string Try.underlying9 r1
    obtain ⟨v2, e2⟩ := rd_bool Try.underlying4 r2
    obtain ⟨v3, e3, z3⟩ := rd_string Try.underlying9 r3
    refine ⟨{ fSeverity := v0, fPath := v1, fIs := v2, fError := v3 }, ?_, ⟨z0, z1, z3⟩⟩
    simp only [List.drop, List.take, List.cons.injEq, and_true] at e0 e1 e2 e3
    simp only [Ty65.cells, e0, e1, e2, e3]
/-- given.example/pub-parodos/impl.File -/
structure Ty73 where
  fName : ByteArray
  fData : ByteArray
def Ty73.cells (x : Ty73) : List Value := [.string x.fName, .string x.fData]
def Ty73.ok (x : Ty73) (w : World) : Prop := (x.fName.size ≤ maxLen) ∧ (x.fData.size ≤ maxLen)
theorem openT73 {H : Type} {enc : TypeId × Value → H} {w : World} {base : Nat} {spare : Nat → Bool} {held : Bool} (cs : List Value) (h : Rd enc Try.prog w base spare held 73 cs) : ∃ x : Ty73, cs = x.cells ∧ x.ok w := by
  have hl := rd_len Try.underlying73 h
  rw [cells_Ty_73] at hl
  have r0 : Rd enc Try.prog w base spare held 9 ((cs.drop 0).take (Try.prog.cellsOf 9)) := rd_field Try.underlying73 h 0 _ rfl
  rw [cells_Ty_9] at r0
  have r1 : Rd enc Try.prog w base spare held 9 ((cs.drop 1).take (Try.prog.cellsOf 9)) := rd_field Try.underlying73 h 1 _ rfl
  rw [cells_Ty_9] at r1
  match cs, hl with
  | [c0, c1], _ =>
    obtain ⟨v0, e0, z0⟩ := rd_string Try.underlying9 r0
    obtain ⟨v1, e1, z1⟩ := rd_string Try.underlying9 r1
    refine ⟨{ fName := v0, fData := v1 }, ?_, ⟨z0, z1⟩⟩
    simp only [List.drop, List.take, List.cons.injEq, and_true] at e0 e1
    simp only [Ty73.cells, e0, e1]
/-- given.example/pub-parodos/impl.Dependency -/
structure Ty79 where
  fNil : Bool
  fName : ByteArray
  fVersion : ByteArray
  fRepository : ByteArray
  fCondition : ByteArray
  fTags_a : Option Addr
  fTags_c : Nat
  fTags : List ByteArray
  fAlias : ByteArray
def Ty79.cells (x : Ty79) : List Value := [.bool x.fNil, .string x.fName, .string x.fVersion, .string x.fRepository, .string x.fCondition, .slice x.fTags_a x.fTags.length x.fTags_c, .string x.fAlias]
def Ty79.ok (x : Ty79) (w : World) : Prop := (x.fName.size ≤ maxLen) ∧ (x.fVersion.size ≤ maxLen) ∧ (x.fRepository.size ≤ maxLen) ∧ (x.fCondition.size ≤ maxLen) ∧ (Sl w x.fTags_a (x.fTags.map Value.string) ∧ x.fTags.length ≤ x.fTags_c) ∧ (x.fAlias.size ≤ maxLen)
theorem openT79 {H : Type} {enc : TypeId × Value → H} {w : World} {base : Nat} {spare : Nat → Bool} {held : Bool} (cs : List Value) (h : Rd enc Try.prog w base spare held 79 cs) : ∃ x : Ty79, cs = x.cells ∧ x.ok w := by
  have hl := rd_len Try.underlying79 h
  rw [cells_Ty_79] at hl
  have r0 : Rd enc Try.prog w base spare held 4 ((cs.drop 0).take (Try.prog.cellsOf 4)) := rd_field Try.underlying79 h 0 _ rfl
  rw [cells_Ty_4] at r0
  have r1 : Rd enc Try.prog w base spare held 9 ((cs.drop 1).take (Try.prog.cellsOf 9)) := rd_field Try.underlying79 h 1 _ rfl
  rw [cells_Ty_9] at r1
  have r2 : Rd enc Try.prog w base spare held 9 ((cs.drop 2).take (Try.prog.cellsOf 9)) := rd_field Try.underlying79 h 2 _ rfl
  rw [cells_Ty_9] at r2
  have r3 : Rd enc Try.prog w base spare held 9 ((cs.drop 3).take (Try.prog.cellsOf 9)) := rd_field Try.underlying79 h 3 _ rfl
  rw [cells_Ty_9] at r3
  have r4 : Rd enc Try.prog w base spare held 9 ((cs.drop 4).take (Try.prog.cellsOf 9)) := rd_field Try.underlying79 h 4 _ rfl
  rw [cells_Ty_9] at r4
  have r5 : Rd enc Try.prog w base spare held 22 ((cs.drop 5).take (Try.prog.cellsOf 22)) := rd_field Try.underlying79 h 5 _ rfl
  rw [cells_Ty_22] at r5
  have r6 : Rd enc Try.prog w base spare held 9 ((cs.drop 6).take (Try.prog.cellsOf 9)) := rd_field Try.underlying79 h 6 _ rfl
  rw [cells_Ty_9] at r6
  match cs, hl with
  | [c0, c1, c2, c3, c4, c5, c6], _ =>
    obtain ⟨v0, e0⟩ := rd_bool Try.underlying4 r0
    obtain ⟨v1, e1, z1⟩ := rd_string Try.underlying9 r1
    obtain ⟨v2, e2, z2⟩ := rd_string Try.underlying9 r2
    obtain ⟨v3, e3, z3⟩ := rd_string Try.underlying9 r3
    obtain ⟨v4, e4, z4⟩ := rd_string Try.underlying9 r4
    obtain ⟨a5, k5, v5, e5, z5, _, y5, _⟩ := rd_strings Try.underlying22 Try.underlying9 cells_Ty_9 r5
    obtain ⟨v6, e6, z6⟩ := rd_string Try.underlying9 r6
    refine ⟨{ fNil := v0, fName := v1, fVersion := v2, fRepository := v3, fCondition := v4, fTags_a := a5, fTags_c := k5, fTags := v5, fAlias := v6 }, ?_, ⟨z1, z2, z3, z4, ⟨y5, z5⟩, z6⟩⟩
    simp only [List.drop, List.take, List.cons.injEq, and_true] at e0 e1 e2 e3 e4 e5 e6
    simp only [Ty79.cells, e0, e1, e2, e3, e4, e5, e6]
/-- given.example/pub-parodos/impl.Resource -/
structure Ty92 where
  fName : ByteArray
  fNamespace : ByteArray
  fKind : ByteArray
  fGroup : ByteArray
def Ty92.cells (x : Ty92) : List Value := [.string x.fName, .string x.fNamespace, .string x.fKind, .string x.fGroup]
def Ty92.ok (x : Ty92) (w : World) : Prop := (x.fName.size ≤ maxLen) ∧ (x.fNamespace.size ≤ maxLen) ∧ (x.fKind.size ≤ maxLen) ∧ (x.fGroup.size ≤ maxLen)
theorem openT92 {H : Type} {enc : TypeId × Value → H} {w : World} {base : Nat} {spare : Nat → Bool} {held : Bool} (cs : List Value) (h : Rd enc Try.prog w base spare held 92 cs) : ∃ x : Ty92, cs = x.cells ∧ x.ok w := by
  have hl := rd_len Try.underlying92 h
  rw [cells_Ty_92] at hl
  have r0 : Rd enc Try.prog w base spare held 9 ((cs.drop 0).take (Try.prog.cellsOf 9)) := rd_field Try.underlying92 h 0 _ rfl
  rw [cells_Ty_9] at r0
  have r1 : Rd enc Try.prog w base spare held 9 ((cs.drop 1).take (Try.prog.cellsOf 9)) := rd_field Try.underlying92 h 1 _ rfl
  rw [cells_Ty_9] at r1
  have r2 : Rd enc Try.prog w base spare held 9 ((cs.drop 2).take (Try.prog.cellsOf 9)) := rd_field Try.underlying92 h 2 _ rfl
  rw [cells_Ty_9] at r2
  have r3 : Rd enc Try.prog w base spare held 9 ((cs.drop 3).take (Try.prog.cellsOf 9)) := rd_field Try.underlying92 h 3 _ rfl
  rw [cells_Ty_9] at r3
  match cs, hl with
  | [c0, c1, c2, c3], _ =>
    obtain ⟨v0, e0, z0⟩ := rd_string Try.underlying9 r0
    obtain ⟨v1, e1, z1⟩ := rd_string Try.underlying9 r1
    obtain ⟨v2, e2, z2⟩ := rd_string Try.underlying9 r2
    obtain ⟨v3, e3, z3⟩ := rd_string Try.underlying9 r3
    refine ⟨{ fName := v0, fNamespace := v1, fKind := v2, fGroup := v3 }, ?_, ⟨z0, z1, z2, z3⟩⟩
    simp only [List.drop, List.take, List.cons.injEq, and_true] at e0 e1 e2 e3
    simp only [Ty92.cells, e0, e1, e2, e3]
end Go.Proofs.Ytdgblfldbikneaa
