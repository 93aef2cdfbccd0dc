/-
  No cell of these rows narrows 'for every input' (looked for: loops, veiled, ifaces, maps, wideKeys, modest, calm, conditions, laid).
  DERIVED. THE GIVEN ROWS OF THIS SEAT. 12 by the template 'for every input the law returns true; each argument reads behind the call as it read before'; 0 by the template 'total and deterministic' (their statements: YtdgblfldbikneaaTotals.lean).
  GIVEN WITH THE SEED: the statements are not yours to turn. If you find one false, say at which input.
  Laid BY PROGRAM, IN A SANDBOX (cutbox-rows.mjs): the forced cells as the released guide's own fill.sh prints them over the translation e974fba81d9ccee2… (all of the seat's roots in one cut). By AI agents, Wed Nov 11 2026. No macro, syntax, notation, axiom, sorry.
-/
import Derived.Test.YtdgblfldbikneaaChecked
import GoSem.Claim
import GoSem.ClaimJoined
import GoSem.ClaimMapViews
import Derived.JoinedTies
import Derived.KernelRfl
namespace Go.Proofs.Ytdgblfldbikneaa
/- THE CELL 'sum', in the pinned program and in every row, IS THE sha256 OF THE DUMP (.gsa) THAT YtdgblfldbikneaaProg.lean LOADS. Nothing in Lean hashes anything: it is a label: what it is worth is what the hold of that sum in a sandbox is worth. -/
noncomputable def Try.pinned : Pinned := { name := "ytdgblfldbikneaa", sum := "e974fba81d9ccee2dc0e9ae1b8a61c750c5fa3f0ba010a1bf6fa5d29150106ea", checked := Try.checked }
namespace Rows
def none {H : Type} : Left H := { results := [], args := [] }

/-- 'laws.FnStates': WHATEVER THE INPUT: true; the input reads as it did. -/
def fnStatesSpec : ChangeSpec := { name := "fnStates", fn := fun _ => fun
  | [d1, d2] => { results := [.lit (.bool true)], args := [d1, d2] }
  | _ => none }
def fnStatesRow : OpenClaim := { program := "ytdgblfldbikneaa", sum := "e974fba81d9ccee2dc0e9ae1b8a61c750c5fa3f0ba010a1bf6fa5d29150106ea", func := "given.example/pub-parodos/laws.FnStates", spec := "fnStates", apart := false }
def FnStatesSaid : Prop := fnStatesRow.holds Try.pinned (OpenSpec.ofChange fnStatesSpec)

/-- ITS FALSE NEIGHBOUR: 'it returns false'. Refute it at one input. -/
def fnStatesWrong : ChangeSpec := { name := "fnStates", fn := fun _ => fun
  | [d1, d2] => { results := [.lit (.bool false)], args := [d1, d2] }
  | _ => none }
def FnStatesWrongFalsely : Prop := fnStatesRow.holds Try.pinned (OpenSpec.ofChange fnStatesWrong)

/-- 'laws.FnHookHas': WHATEVER THE INPUT: true; the input reads as it did. -/
def fnHookHasSpec : ChangeSpec := { name := "fnHookHas", fn := fun _ => fun
  | [d1, d2, d3] => { results := [.lit (.bool true)], args := [d1, d2, d3] }
  | _ => none }
def fnHookHasRow : OpenClaim := { program := "ytdgblfldbikneaa", sum := "e974fba81d9ccee2dc0e9ae1b8a61c750c5fa3f0ba010a1bf6fa5d29150106ea", func := "given.example/pub-parodos/laws.FnHookHas", spec := "fnHookHas", apart := false }
def FnHookHasSaid : Prop := fnHookHasRow.holds Try.pinned (OpenSpec.ofChange fnHookHasSpec)

/-- ITS FALSE NEIGHBOUR: 'it returns false'. Refute it at one input. -/
def fnHookHasWrong : ChangeSpec := { name := "fnHookHas", fn := fun _ => fun
  | [d1, d2, d3] => { results := [.lit (.bool false)], args := [d1, d2, d3] }
  | _ => none }
def FnHookHasWrongFalsely : Prop := fnHookHasRow.holds Try.pinned (OpenSpec.ofChange fnHookHasWrong)

/-- 'laws.FnValidPerson': WHATEVER THE INPUT: true; the input reads as it did. -/
def fnValidPersonSpec : ChangeSpec := { name := "fnValidPerson", fn := fun _ => fun
  | [d] => { results := [.lit (.bool true)], args := [d] }
  | _ => none }
def fnValidPersonRow : OpenClaim := { program := "ytdgblfldbikneaa", sum := "e974fba81d9ccee2dc0e9ae1b8a61c750c5fa3f0ba010a1bf6fa5d29150106ea", func := "given.example/pub-parodos/laws.FnValidPerson", spec := "fnValidPerson", unfollowed := true, recurses := true, apart := false }
def FnValidPersonSaid : Prop := fnValidPersonRow.holds Try.pinned (OpenSpec.ofChange fnValidPersonSpec)

/-- ITS FALSE NEIGHBOUR: 'it returns false'. Refute it at one input. -/
def fnValidPersonWrong : ChangeSpec := { name := "fnValidPerson", fn := fun _ => fun
  | [d] => { results := [.lit (.bool false)], args := [d] }
  | _ => none }
def FnValidPersonWrongFalsely : Prop := fnValidPersonRow.holds Try.pinned (OpenSpec.ofChange fnValidPersonWrong)

/-- 'laws.FnVersionEquals': WHATEVER THE INPUT: true; the input reads as it did. -/
def fnVersionEqualsSpec : ChangeSpec := { name := "fnVersionEquals", fn := fun _ => fun
  | [d1, d2] => { results := [.lit (.bool true)], args := [d1, d2] }
  | _ => none }
def fnVersionEqualsRow : OpenClaim := { program := "ytdgblfldbikneaa", sum := "e974fba81d9ccee2dc0e9ae1b8a61c750c5fa3f0ba010a1bf6fa5d29150106ea", func := "given.example/pub-parodos/laws.FnVersionEquals", spec := "fnVersionEquals", unfollowed := true, recurses := true, apart := false }
def FnVersionEqualsSaid : Prop := fnVersionEqualsRow.holds Try.pinned (OpenSpec.ofChange fnVersionEqualsSpec)

/-- ITS FALSE NEIGHBOUR: 'it returns false'. Refute it at one input. -/
def fnVersionEqualsWrong : ChangeSpec := { name := "fnVersionEquals", fn := fun _ => fun
  | [d1, d2] => { results := [.lit (.bool false)], args := [d1, d2] }
  | _ => none }
def FnVersionEqualsWrongFalsely : Prop := fnVersionEqualsRow.holds Try.pinned (OpenSpec.ofChange fnVersionEqualsWrong)

/-- 'laws.FnStateMask': WHATEVER THE INPUT: true; the input reads as it did. -/
def fnStateMaskSpec : ChangeSpec := { name := "fnStateMask", fn := fun _ => fun
  | [d1, d2, d3, d4, d5, d6] => { results := [.lit (.bool true)], args := [d1, d2, d3, d4, d5, d6] }
  | _ => none }
def fnStateMaskRow : OpenClaim := { program := "ytdgblfldbikneaa", sum := "e974fba81d9ccee2dc0e9ae1b8a61c750c5fa3f0ba010a1bf6fa5d29150106ea", func := "given.example/pub-parodos/laws.FnStateMask", spec := "fnStateMask", apart := false }
def FnStateMaskSaid : Prop := fnStateMaskRow.holds Try.pinned (OpenSpec.ofChange fnStateMaskSpec)

/-- ITS FALSE NEIGHBOUR: 'it returns false'. Refute it at one input. -/
def fnStateMaskWrong : ChangeSpec := { name := "fnStateMask", fn := fun _ => fun
  | [d1, d2, d3, d4, d5, d6] => { results := [.lit (.bool false)], args := [d1, d2, d3, d4, d5, d6] }
  | _ => none }
def FnStateMaskWrongFalsely : Prop := fnStateMaskRow.holds Try.pinned (OpenSpec.ofChange fnStateMaskWrong)

/-- 'laws.FnFilterReleases': WHATEVER THE INPUT: true; the input reads as it did. -/
def fnFilterReleasesSpec : ChangeSpec := { name := "fnFilterReleases", fn := fun _ => fun
  | [d1, d2, d3] => { results := [.lit (.bool true)], args := [d1, d2, d3] }
  | _ => none }
def fnFilterReleasesRow : OpenClaim := { program := "ytdgblfldbikneaa", sum := "e974fba81d9ccee2dc0e9ae1b8a61c750c5fa3f0ba010a1bf6fa5d29150106ea", func := "given.example/pub-parodos/laws.FnFilterReleases", spec := "fnFilterReleases", unfollowed := true, recurses := true, apart := false }
def FnFilterReleasesSaid : Prop := fnFilterReleasesRow.holds Try.pinned (OpenSpec.ofChange fnFilterReleasesSpec)

/-- ITS FALSE NEIGHBOUR: 'it returns false'. Refute it at one input. -/
def fnFilterReleasesWrong : ChangeSpec := { name := "fnFilterReleases", fn := fun _ => fun
  | [d1, d2, d3] => { results := [.lit (.bool false)], args := [d1, d2, d3] }
  | _ => none }
def FnFilterReleasesWrongFalsely : Prop := fnFilterReleasesRow.holds Try.pinned (OpenSpec.ofChange fnFilterReleasesWrong)

/-- 'laws.FnHlTransform': WHATEVER THE INPUT: true; the input reads as it did. -/
def fnHlTransformSpec : ChangeSpec := { name := "fnHlTransform", fn := fun _ => fun
  | [d1, d2, d3, d4] => { results := [.lit (.bool true)], args := [d1, d2, d3, d4] }
  | _ => none }
def fnHlTransformRow : OpenClaim := { program := "ytdgblfldbikneaa", sum := "e974fba81d9ccee2dc0e9ae1b8a61c750c5fa3f0ba010a1bf6fa5d29150106ea", func := "given.example/pub-parodos/laws.FnHlTransform", spec := "fnHlTransform", apart := false }
def FnHlTransformSaid : Prop := fnHlTransformRow.holds Try.pinned (OpenSpec.ofChange fnHlTransformSpec)

/-- ITS FALSE NEIGHBOUR: 'it returns false'. Refute it at one input. -/
def fnHlTransformWrong : ChangeSpec := { name := "fnHlTransform", fn := fun _ => fun
  | [d1, d2, d3, d4] => { results := [.lit (.bool false)], args := [d1, d2, d3, d4] }
  | _ => none }
def FnHlTransformWrongFalsely : Prop := fnHlTransformRow.holds Try.pinned (OpenSpec.ofChange fnHlTransformWrong)

/-- 'laws.FnHlLint': WHATEVER THE INPUT: true; the input reads as it did. -/
def fnHlLintSpec : ChangeSpec := { name := "fnHlLint", fn := fun _ => fun
  | [d] => { results := [.lit (.bool true)], args := [d] }
  | _ => none }
def fnHlLintRow : OpenClaim := { program := "ytdgblfldbikneaa", sum := "e974fba81d9ccee2dc0e9ae1b8a61c750c5fa3f0ba010a1bf6fa5d29150106ea", func := "given.example/pub-parodos/laws.FnHlLint", spec := "fnHlLint", unfollowed := true, recurses := true, apart := false }
def FnHlLintSaid : Prop := fnHlLintRow.holds Try.pinned (OpenSpec.ofChange fnHlLintSpec)

/-- ITS FALSE NEIGHBOUR: 'it returns false'. Refute it at one input. -/
def fnHlLintWrong : ChangeSpec := { name := "fnHlLint", fn := fun _ => fun
  | [d] => { results := [.lit (.bool false)], args := [d] }
  | _ => none }
def FnHlLintWrongFalsely : Prop := fnHlLintRow.holds Try.pinned (OpenSpec.ofChange fnHlLintWrong)

/-- 'laws.FnHlFiles': WHATEVER THE INPUT: true; the input reads as it did. -/
def fnHlFilesSpec : ChangeSpec := { name := "fnHlFiles", fn := fun _ => fun
  | [d1, d2] => { results := [.lit (.bool true)], args := [d1, d2] }
  | _ => none }
def fnHlFilesRow : OpenClaim := { program := "ytdgblfldbikneaa", sum := "e974fba81d9ccee2dc0e9ae1b8a61c750c5fa3f0ba010a1bf6fa5d29150106ea", func := "given.example/pub-parodos/laws.FnHlFiles", spec := "fnHlFiles", apart := false }
def FnHlFilesSaid : Prop := fnHlFilesRow.holds Try.pinned (OpenSpec.ofChange fnHlFilesSpec)

/-- ITS FALSE NEIGHBOUR: 'it returns false'. Refute it at one input. -/
def fnHlFilesWrong : ChangeSpec := { name := "fnHlFiles", fn := fun _ => fun
  | [d1, d2] => { results := [.lit (.bool false)], args := [d1, d2] }
  | _ => none }
def FnHlFilesWrongFalsely : Prop := fnHlFilesRow.holds Try.pinned (OpenSpec.ofChange fnHlFilesWrong)

/-- 'laws.FnValidDependency': WHATEVER THE INPUT: true; the input reads as it did. -/
def fnValidDependencySpec : ChangeSpec := { name := "fnValidDependency", fn := fun _ => fun
  | [d] => { results := [.lit (.bool true)], args := [d] }
  | _ => none }
def fnValidDependencyRow : OpenClaim := { program := "ytdgblfldbikneaa", sum := "e974fba81d9ccee2dc0e9ae1b8a61c750c5fa3f0ba010a1bf6fa5d29150106ea", func := "given.example/pub-parodos/laws.FnValidDependency", spec := "fnValidDependency", unfollowed := true, recurses := true, apart := false }
def FnValidDependencySaid : Prop := fnValidDependencyRow.holds Try.pinned (OpenSpec.ofChange fnValidDependencySpec)

/-- ITS FALSE NEIGHBOUR: 'it returns false'. Refute it at one input. -/
def fnValidDependencyWrong : ChangeSpec := { name := "fnValidDependency", fn := fun _ => fun
  | [d] => { results := [.lit (.bool false)], args := [d] }
  | _ => none }
def FnValidDependencyWrongFalsely : Prop := fnValidDependencyRow.holds Try.pinned (OpenSpec.ofChange fnValidDependencyWrong)

/-- 'laws.FnHlNames': WHATEVER THE INPUT: true; the input reads as it did. -/
def fnHlNamesSpec : ChangeSpec := { name := "fnHlNames", fn := fun _ => fun
  | [d1, d2, d3] => { results := [.lit (.bool true)], args := [d1, d2, d3] }
  | _ => none }
def fnHlNamesRow : OpenClaim := { program := "ytdgblfldbikneaa", sum := "e974fba81d9ccee2dc0e9ae1b8a61c750c5fa3f0ba010a1bf6fa5d29150106ea", func := "given.example/pub-parodos/laws.FnHlNames", spec := "fnHlNames", unfollowed := true, recurses := true, apart := false }
def FnHlNamesSaid : Prop := fnHlNamesRow.holds Try.pinned (OpenSpec.ofChange fnHlNamesSpec)

/-- ITS FALSE NEIGHBOUR: 'it returns false'. Refute it at one input. -/
def fnHlNamesWrong : ChangeSpec := { name := "fnHlNames", fn := fun _ => fun
  | [d1, d2, d3] => { results := [.lit (.bool false)], args := [d1, d2, d3] }
  | _ => none }
def FnHlNamesWrongFalsely : Prop := fnHlNamesRow.holds Try.pinned (OpenSpec.ofChange fnHlNamesWrong)

/-- 'laws.FnHlResources': WHATEVER THE INPUT: true; the input reads as it did. -/
def fnHlResourcesSpec : ChangeSpec := { name := "fnHlResources", fn := fun _ => fun
  | [d1, d2, d3] => { results := [.lit (.bool true)], args := [d1, d2, d3] }
  | _ => none }
def fnHlResourcesRow : OpenClaim := { program := "ytdgblfldbikneaa", sum := "e974fba81d9ccee2dc0e9ae1b8a61c750c5fa3f0ba010a1bf6fa5d29150106ea", func := "given.example/pub-parodos/laws.FnHlResources", spec := "fnHlResources", unfollowed := true, recurses := true, apart := false }
def FnHlResourcesSaid : Prop := fnHlResourcesRow.holds Try.pinned (OpenSpec.ofChange fnHlResourcesSpec)

/-- ITS FALSE NEIGHBOUR: 'it returns false'. Refute it at one input. -/
def fnHlResourcesWrong : ChangeSpec := { name := "fnHlResources", fn := fun _ => fun
  | [d1, d2, d3] => { results := [.lit (.bool false)], args := [d1, d2, d3] }
  | _ => none }
def FnHlResourcesWrongFalsely : Prop := fnHlResourcesRow.holds Try.pinned (OpenSpec.ofChange fnHlResourcesWrong)

/- THE SECOND FORM. 'bulk': how many values and letters a reading holds, each counted each time it is reached (what is shared counts as often as it is met; a slice's spare places count too). A statement '..UptoSaid' is the law's where the arguments, and the package variables that the reading takes, are together of bulk at most 1048576: NARROWER than '..Said'. Prove '..Said' where nothing that the law and all that it calls make is longer than what came in: it says more and counts as full. Else prove '..UptoSaid'. A law counts once. -/
mutual
def uptoBulk {H : Type} : DataW H → Nat
  | .lit (.string bytes) => bytes.length + 1
  | .lit _ => 1
  | .nil => 1
  | .ptr d => uptoBulk d + 1
  | .slice elems spare => uptoBulkAll elems + uptoBulkAll spare + 1
  | .agg parts => uptoBulkAll parts + 1
  | .iface _ d => uptoBulk d + 1
  | .map entries => uptoBulkEntries entries + 1
  | .held _ => 1
def uptoBulkAll {H : Type} : List (DataW H) → Nat
  | [] => 0
  | d :: r => uptoBulk d + uptoBulkAll r
def uptoBulkEntries {H : Type} : List (Lit × DataW H) → Nat
  | [] => 0
  | x :: r => uptoBulkEntry x + uptoBulkEntries r
def uptoBulkEntry {H : Type} : Lit × DataW H → Nat
  | (.string bytes, d) => bytes.length + uptoBulk d + 1
  | (_, d) => uptoBulk d + 1
 end
def uptoSmall : (H : Type) → List (DataW H) → Bool := fun _ ds => decide (uptoBulkAll ds ≤ 1048576)
def OpenSpec.upto (s : _root_.Go.ChangeSpec) : _root_.Go.OpenSpec := { _root_.Go.OpenSpec.ofChange s with cond := some uptoSmall }

/-- 'laws.FnStates', WHERE WHAT IT READS IS OF BULK AT MOST 1048576: true; the input reads as it did. -/
def fnStatesUptoRow : OpenClaim := { program := "ytdgblfldbikneaa", sum := "e974fba81d9ccee2dc0e9ae1b8a61c750c5fa3f0ba010a1bf6fa5d29150106ea", func := "given.example/pub-parodos/laws.FnStates", spec := "fnStates", apart := false, narrowed := true }
def FnStatesUptoSaid : Prop := fnStatesUptoRow.holds Try.pinned (OpenSpec.upto fnStatesSpec)

/-- 'laws.FnHookHas', WHERE WHAT IT READS IS OF BULK AT MOST 1048576: true; the input reads as it did. -/
def fnHookHasUptoRow : OpenClaim := { program := "ytdgblfldbikneaa", sum := "e974fba81d9ccee2dc0e9ae1b8a61c750c5fa3f0ba010a1bf6fa5d29150106ea", func := "given.example/pub-parodos/laws.FnHookHas", spec := "fnHookHas", apart := false, narrowed := true }
def FnHookHasUptoSaid : Prop := fnHookHasUptoRow.holds Try.pinned (OpenSpec.upto fnHookHasSpec)

/-- 'laws.FnValidPerson', WHERE WHAT IT READS IS OF BULK AT MOST 1048576: true; the input reads as it did. -/
def fnValidPersonUptoRow : OpenClaim := { program := "ytdgblfldbikneaa", sum := "e974fba81d9ccee2dc0e9ae1b8a61c750c5fa3f0ba010a1bf6fa5d29150106ea", func := "given.example/pub-parodos/laws.FnValidPerson", spec := "fnValidPerson", unfollowed := true, recurses := true, apart := false, narrowed := true }
def FnValidPersonUptoSaid : Prop := fnValidPersonUptoRow.holds Try.pinned (OpenSpec.upto fnValidPersonSpec)

/-- 'laws.FnVersionEquals', WHERE WHAT IT READS IS OF BULK AT MOST 1048576: true; the input reads as it did. -/
def fnVersionEqualsUptoRow : OpenClaim := { program := "ytdgblfldbikneaa", sum := "e974fba81d9ccee2dc0e9ae1b8a61c750c5fa3f0ba010a1bf6fa5d29150106ea", func := "given.example/pub-parodos/laws.FnVersionEquals", spec := "fnVersionEquals", unfollowed := true, recurses := true, apart := false, narrowed := true }
def FnVersionEqualsUptoSaid : Prop := fnVersionEqualsUptoRow.holds Try.pinned (OpenSpec.upto fnVersionEqualsSpec)

/-- 'laws.FnStateMask', WHERE WHAT IT READS IS OF BULK AT MOST 1048576: true; the input reads as it did. -/
def fnStateMaskUptoRow : OpenClaim := { program := "ytdgblfldbikneaa", sum := "e974fba81d9ccee2dc0e9ae1b8a61c750c5fa3f0ba010a1bf6fa5d29150106ea", func := "given.example/pub-parodos/laws.FnStateMask", spec := "fnStateMask", apart := false, narrowed := true }
def FnStateMaskUptoSaid : Prop := fnStateMaskUptoRow.holds Try.pinned (OpenSpec.upto fnStateMaskSpec)

/-- 'laws.FnFilterReleases', WHERE WHAT IT READS IS OF BULK AT MOST 1048576: true; the input reads as it did. -/
def fnFilterReleasesUptoRow : OpenClaim := { program := "ytdgblfldbikneaa", sum := "e974fba81d9ccee2dc0e9ae1b8a61c750c5fa3f0ba010a1bf6fa5d29150106ea", func := "given.example/pub-parodos/laws.FnFilterReleases", spec := "fnFilterReleases", unfollowed := true, recurses := true, apart := false, narrowed := true }
def FnFilterReleasesUptoSaid : Prop := fnFilterReleasesUptoRow.holds Try.pinned (OpenSpec.upto fnFilterReleasesSpec)

/-- 'laws.FnHlTransform', WHERE WHAT IT READS IS OF BULK AT MOST 1048576: true; the input reads as it did. -/
def fnHlTransformUptoRow : OpenClaim := { program := "ytdgblfldbikneaa", sum := "e974fba81d9ccee2dc0e9ae1b8a61c750c5fa3f0ba010a1bf6fa5d29150106ea", func := "given.example/pub-parodos/laws.FnHlTransform", spec := "fnHlTransform", apart := false, narrowed := true }
def FnHlTransformUptoSaid : Prop := fnHlTransformUptoRow.holds Try.pinned (OpenSpec.upto fnHlTransformSpec)

/-- 'laws.FnHlLint', WHERE WHAT IT READS IS OF BULK AT MOST 1048576: true; the input reads as it did. -/
def fnHlLintUptoRow : OpenClaim := { program := "ytdgblfldbikneaa", sum := "e974fba81d9ccee2dc0e9ae1b8a61c750c5fa3f0ba010a1bf6fa5d29150106ea", func := "given.example/pub-parodos/laws.FnHlLint", spec := "fnHlLint", unfollowed := true, recurses := true, apart := false, narrowed := true }
def FnHlLintUptoSaid : Prop := fnHlLintUptoRow.holds Try.pinned (OpenSpec.upto fnHlLintSpec)

/-- 'laws.FnHlFiles', WHERE WHAT IT READS IS OF BULK AT MOST 1048576: true; the input reads as it did. -/
def fnHlFilesUptoRow : OpenClaim := { program := "ytdgblfldbikneaa", sum := "e974fba81d9ccee2dc0e9ae1b8a61c750c5fa3f0ba010a1bf6fa5d29150106ea", func := "given.example/pub-parodos/laws.FnHlFiles", spec := "fnHlFiles", apart := false, narrowed := true }
def FnHlFilesUptoSaid : Prop := fnHlFilesUptoRow.holds Try.pinned (OpenSpec.upto fnHlFilesSpec)

/-- 'laws.FnValidDependency', WHERE WHAT IT READS IS OF BULK AT MOST 1048576: true; the input reads as it did. -/
def fnValidDependencyUptoRow : OpenClaim := { program := "ytdgblfldbikneaa", sum := "e974fba81d9ccee2dc0e9ae1b8a61c750c5fa3f0ba010a1bf6fa5d29150106ea", func := "given.example/pub-parodos/laws.FnValidDependency", spec := "fnValidDependency", unfollowed := true, recurses := true, apart := false, narrowed := true }
def FnValidDependencyUptoSaid : Prop := fnValidDependencyUptoRow.holds Try.pinned (OpenSpec.upto fnValidDependencySpec)

/-- 'laws.FnHlNames', WHERE WHAT IT READS IS OF BULK AT MOST 1048576: true; the input reads as it did. -/
def fnHlNamesUptoRow : OpenClaim := { program := "ytdgblfldbikneaa", sum := "e974fba81d9ccee2dc0e9ae1b8a61c750c5fa3f0ba010a1bf6fa5d29150106ea", func := "given.example/pub-parodos/laws.FnHlNames", spec := "fnHlNames", unfollowed := true, recurses := true, apart := false, narrowed := true }
def FnHlNamesUptoSaid : Prop := fnHlNamesUptoRow.holds Try.pinned (OpenSpec.upto fnHlNamesSpec)

/-- 'laws.FnHlResources', WHERE WHAT IT READS IS OF BULK AT MOST 1048576: true; the input reads as it did. -/
def fnHlResourcesUptoRow : OpenClaim := { program := "ytdgblfldbikneaa", sum := "e974fba81d9ccee2dc0e9ae1b8a61c750c5fa3f0ba010a1bf6fa5d29150106ea", func := "given.example/pub-parodos/laws.FnHlResources", spec := "fnHlResources", unfollowed := true, recurses := true, apart := false, narrowed := true }
def FnHlResourcesUptoSaid : Prop := fnHlResourcesUptoRow.holds Try.pinned (OpenSpec.upto fnHlResourcesSpec)

end Rows
end Go.Proofs.Ytdgblfldbikneaa
