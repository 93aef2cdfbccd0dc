/-
  NARROWER THAN 'FOR EVERY INPUT', by the rows' own cells (each row's printed sentence says how): FnChartPaths: loops · FnChartCRDs: loops.
  DERIVED. THE GIVEN ROWS OF THIS SEAT. 11 by the template 'for every input the law returns true; each argument reads behind the call as it read before'; 0 by the template 'total and deterministic' (their statements: YtkjcedlgljeoiaaTotals.lean).
  GIVEN WITH THE SEED: the statements are not yours to turn. If you find one false, say at which input.
  Laid BY PROGRAM, IN A SANDBOX (cutbox-rows.mjs): the forced cells as the released guide's own fill.sh prints them over the translation 7cf97a6bdb2f7bab… (all of the seat's roots in one cut). By AI agents, Wed Nov 11 2026. No macro, syntax, notation, axiom, sorry.
-/
import Derived.Test.YtkjcedlgljeoiaaChecked
import GoSem.Claim
import GoSem.ClaimJoined
import GoSem.ClaimMapViews
import Derived.JoinedTies
import Derived.KernelRfl
namespace Go.Proofs.Ytkjcedlgljeoiaa
/- THE CELL 'sum', in the pinned program and in every row, IS THE sha256 OF THE DUMP (.gsa) THAT YtkjcedlgljeoiaaProg.lean LOADS. Nothing in Lean hashes anything: it is a label: what it is worth is what the hold of that sum in a sandbox is worth. -/
noncomputable def Try.pinned : Pinned := { name := "ytkjcedlgljeoiaa", sum := "7cf97a6bdb2f7babe7fa5aa4777c6a8e87702a7e5ba13431efee6731177e50fd", checked := Try.checked }
namespace Rows
def none {H : Type} : Left H := { results := [], args := [] }

/-- 'laws.FnChartPaths': WHATEVER THE INPUT: true; the input reads as it did. -/
def fnChartPathsSpec : ChangeSpec := { name := "fnChartPaths", fn := fun _ => fun
  | [d] => { results := [.lit (.bool true)], args := [d] }
  | _ => none }
def fnChartPathsRow : OpenClaim := { program := "ytkjcedlgljeoiaa", sum := "7cf97a6bdb2f7babe7fa5aa4777c6a8e87702a7e5ba13431efee6731177e50fd", func := "given.example/pub-parodos/laws.FnChartPaths", spec := "fnChartPaths", recurses := true, loops := true, apart := false }
def FnChartPathsSaid : Prop := fnChartPathsRow.holds Try.pinned (OpenSpec.ofChange fnChartPathsSpec)

/-- ITS FALSE NEIGHBOUR: 'it returns false'. Refute it at one input. -/
def fnChartPathsWrong : ChangeSpec := { name := "fnChartPaths", fn := fun _ => fun
  | [d] => { results := [.lit (.bool false)], args := [d] }
  | _ => none }
def FnChartPathsWrongFalsely : Prop := fnChartPathsRow.holds Try.pinned (OpenSpec.ofChange fnChartPathsWrong)

/-- 'laws.FnHlExpand': WHATEVER THE INPUT: true; the input reads as it did. -/
def fnHlExpandSpec : ChangeSpec := { name := "fnHlExpand", fn := fun _ => fun
  | [d1, d2] => { results := [.lit (.bool true)], args := [d1, d2] }
  | _ => none }
def fnHlExpandRow : OpenClaim := { program := "ytkjcedlgljeoiaa", sum := "7cf97a6bdb2f7babe7fa5aa4777c6a8e87702a7e5ba13431efee6731177e50fd", func := "given.example/pub-parodos/laws.FnHlExpand", spec := "fnHlExpand", unfollowed := true, recurses := true, apart := false }
def FnHlExpandSaid : Prop := fnHlExpandRow.holds Try.pinned (OpenSpec.ofChange fnHlExpandSpec)

/-- ITS FALSE NEIGHBOUR: 'it returns false'. Refute it at one input. -/
def fnHlExpandWrong : ChangeSpec := { name := "fnHlExpand", fn := fun _ => fun
  | [d1, d2] => { results := [.lit (.bool false)], args := [d1, d2] }
  | _ => none }
def FnHlExpandWrongFalsely : Prop := fnHlExpandRow.holds Try.pinned (OpenSpec.ofChange fnHlExpandWrong)

/-- 'laws.FnHlRepos': WHATEVER THE INPUT: true; the input reads as it did. -/
def fnHlReposSpec : ChangeSpec := { name := "fnHlRepos", fn := fun _ => fun
  | [d] => { results := [.lit (.bool true)], args := [d] }
  | _ => none }
def fnHlReposRow : OpenClaim := { program := "ytkjcedlgljeoiaa", sum := "7cf97a6bdb2f7babe7fa5aa4777c6a8e87702a7e5ba13431efee6731177e50fd", func := "given.example/pub-parodos/laws.FnHlRepos", spec := "fnHlRepos", apart := false }
def FnHlReposSaid : Prop := fnHlReposRow.holds Try.pinned (OpenSpec.ofChange fnHlReposSpec)

/-- ITS FALSE NEIGHBOUR: 'it returns false'. Refute it at one input. -/
def fnHlReposWrong : ChangeSpec := { name := "fnHlRepos", fn := fun _ => fun
  | [d] => { results := [.lit (.bool false)], args := [d] }
  | _ => none }
def FnHlReposWrongFalsely : Prop := fnHlReposRow.holds Try.pinned (OpenSpec.ofChange fnHlReposWrong)

/-- 'laws.FnHlURLJoin': WHATEVER THE INPUT: true; the input reads as it did. -/
def fnHlURLJoinSpec : ChangeSpec := { name := "fnHlURLJoin", fn := fun _ => fun
  | [d1, d2, d3, d4] => { results := [.lit (.bool true)], args := [d1, d2, d3, d4] }
  | _ => none }
def fnHlURLJoinRow : OpenClaim := { program := "ytkjcedlgljeoiaa", sum := "7cf97a6bdb2f7babe7fa5aa4777c6a8e87702a7e5ba13431efee6731177e50fd", func := "given.example/pub-parodos/laws.FnHlURLJoin", spec := "fnHlURLJoin", unfollowed := true, recurses := true, apart := false }
def FnHlURLJoinSaid : Prop := fnHlURLJoinRow.holds Try.pinned (OpenSpec.ofChange fnHlURLJoinSpec)

/-- ITS FALSE NEIGHBOUR: 'it returns false'. Refute it at one input. -/
def fnHlURLJoinWrong : ChangeSpec := { name := "fnHlURLJoin", fn := fun _ => fun
  | [d1, d2, d3, d4] => { results := [.lit (.bool false)], args := [d1, d2, d3, d4] }
  | _ => none }
def FnHlURLJoinWrongFalsely : Prop := fnHlURLJoinRow.holds Try.pinned (OpenSpec.ofChange fnHlURLJoinWrong)

/-- 'laws.FnVersionFind': WHATEVER THE INPUT: true; the input reads as it did. -/
def fnVersionFindSpec : ChangeSpec := { name := "fnVersionFind", fn := fun _ => fun
  | [d1, d2] => { results := [.lit (.bool true)], args := [d1, d2] }
  | _ => none }
def fnVersionFindRow : OpenClaim := { program := "ytkjcedlgljeoiaa", sum := "7cf97a6bdb2f7babe7fa5aa4777c6a8e87702a7e5ba13431efee6731177e50fd", func := "given.example/pub-parodos/laws.FnVersionFind", spec := "fnVersionFind", unfollowed := true, recurses := true, apart := false }
def FnVersionFindSaid : Prop := fnVersionFindRow.holds Try.pinned (OpenSpec.ofChange fnVersionFindSpec)

/-- ITS FALSE NEIGHBOUR: 'it returns false'. Refute it at one input. -/
def fnVersionFindWrong : ChangeSpec := { name := "fnVersionFind", fn := fun _ => fun
  | [d1, d2] => { results := [.lit (.bool false)], args := [d1, d2] }
  | _ => none }
def FnVersionFindWrongFalsely : Prop := fnVersionFindRow.holds Try.pinned (OpenSpec.ofChange fnVersionFindWrong)

/-- 'laws.FnHlLintChart': WHATEVER THE INPUT: true; the input reads as it did. -/
def fnHlLintChartSpec : ChangeSpec := { name := "fnHlLintChart", fn := fun _ => fun
  | [d] => { results := [.lit (.bool true)], args := [d] }
  | _ => none }
def fnHlLintChartRow : OpenClaim := { program := "ytkjcedlgljeoiaa", sum := "7cf97a6bdb2f7babe7fa5aa4777c6a8e87702a7e5ba13431efee6731177e50fd", func := "given.example/pub-parodos/laws.FnHlLintChart", spec := "fnHlLintChart", unfollowed := true, recurses := true, apart := false }
def FnHlLintChartSaid : Prop := fnHlLintChartRow.holds Try.pinned (OpenSpec.ofChange fnHlLintChartSpec)

/-- ITS FALSE NEIGHBOUR: 'it returns false'. Refute it at one input. -/
def fnHlLintChartWrong : ChangeSpec := { name := "fnHlLintChart", fn := fun _ => fun
  | [d] => { results := [.lit (.bool false)], args := [d] }
  | _ => none }
def FnHlLintChartWrongFalsely : Prop := fnHlLintChartRow.holds Try.pinned (OpenSpec.ofChange fnHlLintChartWrong)

/-- 'laws.FnHlLintDependencies': WHATEVER THE INPUT: true; the input reads as it did. -/
def fnHlLintDependenciesSpec : ChangeSpec := { name := "fnHlLintDependencies", fn := fun _ => fun
  | [d1, d2] => { results := [.lit (.bool true)], args := [d1, d2] }
  | _ => none }
def fnHlLintDependenciesRow : OpenClaim := { program := "ytkjcedlgljeoiaa", sum := "7cf97a6bdb2f7babe7fa5aa4777c6a8e87702a7e5ba13431efee6731177e50fd", func := "given.example/pub-parodos/laws.FnHlLintDependencies", spec := "fnHlLintDependencies", unfollowed := true, recurses := true, apart := false }
def FnHlLintDependenciesSaid : Prop := fnHlLintDependenciesRow.holds Try.pinned (OpenSpec.ofChange fnHlLintDependenciesSpec)

/-- ITS FALSE NEIGHBOUR: 'it returns false'. Refute it at one input. -/
def fnHlLintDependenciesWrong : ChangeSpec := { name := "fnHlLintDependencies", fn := fun _ => fun
  | [d1, d2] => { results := [.lit (.bool false)], args := [d1, d2] }
  | _ => none }
def FnHlLintDependenciesWrongFalsely : Prop := fnHlLintDependenciesRow.holds Try.pinned (OpenSpec.ofChange fnHlLintDependenciesWrong)

/-- 'laws.FnChartCRDs': WHATEVER THE INPUT: true; the input reads as it did. -/
def fnChartCRDsSpec : ChangeSpec := { name := "fnChartCRDs", fn := fun _ => fun
  | [d] => { results := [.lit (.bool true)], args := [d] }
  | _ => none }
def fnChartCRDsRow : OpenClaim := { program := "ytkjcedlgljeoiaa", sum := "7cf97a6bdb2f7babe7fa5aa4777c6a8e87702a7e5ba13431efee6731177e50fd", func := "given.example/pub-parodos/laws.FnChartCRDs", spec := "fnChartCRDs", unfollowed := true, recurses := true, loops := true, apart := false }
def FnChartCRDsSaid : Prop := fnChartCRDsRow.holds Try.pinned (OpenSpec.ofChange fnChartCRDsSpec)

/-- ITS FALSE NEIGHBOUR: 'it returns false'. Refute it at one input. -/
def fnChartCRDsWrong : ChangeSpec := { name := "fnChartCRDs", fn := fun _ => fun
  | [d] => { results := [.lit (.bool false)], args := [d] }
  | _ => none }
def FnChartCRDsWrongFalsely : Prop := fnChartCRDsRow.holds Try.pinned (OpenSpec.ofChange fnChartCRDsWrong)

/-- 'laws.FnIndexGet': WHATEVER THE INPUT: true; the input reads as it did. -/
def fnIndexGetSpec : ChangeSpec := { name := "fnIndexGet", fn := fun _ => fun
  | [d1, d2, d3, d4] => { results := [.lit (.bool true)], args := [d1, d2, d3, d4] }
  | _ => none }
def fnIndexGetRow : OpenClaim := { program := "ytkjcedlgljeoiaa", sum := "7cf97a6bdb2f7babe7fa5aa4777c6a8e87702a7e5ba13431efee6731177e50fd", func := "given.example/pub-parodos/laws.FnIndexGet", spec := "fnIndexGet", unfollowed := true, recurses := true, apart := false }
def FnIndexGetSaid : Prop := fnIndexGetRow.holds Try.pinned (OpenSpec.ofChange fnIndexGetSpec)

/-- ITS FALSE NEIGHBOUR: 'it returns false'. Refute it at one input. -/
def fnIndexGetWrong : ChangeSpec := { name := "fnIndexGet", fn := fun _ => fun
  | [d1, d2, d3, d4] => { results := [.lit (.bool false)], args := [d1, d2, d3, d4] }
  | _ => none }
def FnIndexGetWrongFalsely : Prop := fnIndexGetRow.holds Try.pinned (OpenSpec.ofChange fnIndexGetWrong)

/-- 'laws.FnHlPlugin': WHATEVER THE INPUT: true; the input reads as it did. -/
def fnHlPluginSpec : ChangeSpec := { name := "fnHlPlugin", fn := fun _ => fun
  | [d1, d2, d3, d4, d5, d6] => { results := [.lit (.bool true)], args := [d1, d2, d3, d4, d5, d6] }
  | _ => none }
def fnHlPluginRow : OpenClaim := { program := "ytkjcedlgljeoiaa", sum := "7cf97a6bdb2f7babe7fa5aa4777c6a8e87702a7e5ba13431efee6731177e50fd", func := "given.example/pub-parodos/laws.FnHlPlugin", spec := "fnHlPlugin", unfollowed := true, recurses := true, apart := false }
def FnHlPluginSaid : Prop := fnHlPluginRow.holds Try.pinned (OpenSpec.ofChange fnHlPluginSpec)

/-- ITS FALSE NEIGHBOUR: 'it returns false'. Refute it at one input. -/
def fnHlPluginWrong : ChangeSpec := { name := "fnHlPlugin", fn := fun _ => fun
  | [d1, d2, d3, d4, d5, d6] => { results := [.lit (.bool false)], args := [d1, d2, d3, d4, d5, d6] }
  | _ => none }
def FnHlPluginWrongFalsely : Prop := fnHlPluginRow.holds Try.pinned (OpenSpec.ofChange fnHlPluginWrong)

/-- 'laws.FnValidMeta': WHATEVER THE INPUT: true; the input reads as it did. -/
def fnValidMetaSpec : ChangeSpec := { name := "fnValidMeta", fn := fun _ => fun
  | [d] => { results := [.lit (.bool true)], args := [d] }
  | _ => none }
def fnValidMetaRow : OpenClaim := { program := "ytkjcedlgljeoiaa", sum := "7cf97a6bdb2f7babe7fa5aa4777c6a8e87702a7e5ba13431efee6731177e50fd", func := "given.example/pub-parodos/laws.FnValidMeta", spec := "fnValidMeta", unfollowed := true, recurses := true, apart := false }
def FnValidMetaSaid : Prop := fnValidMetaRow.holds Try.pinned (OpenSpec.ofChange fnValidMetaSpec)

/-- ITS FALSE NEIGHBOUR: 'it returns false'. Refute it at one input. -/
def fnValidMetaWrong : ChangeSpec := { name := "fnValidMeta", fn := fun _ => fun
  | [d] => { results := [.lit (.bool false)], args := [d] }
  | _ => none }
def FnValidMetaWrongFalsely : Prop := fnValidMetaRow.holds Try.pinned (OpenSpec.ofChange fnValidMetaWrong)

/- THE SECOND FORM. 'bulk': how many values and letters a reading holds, each counted each time it is reached (what is shared counts as often as it is met; a slice's spare places count too). A statement '..UptoSaid' is the law's where the arguments, and the package variables that the reading takes, are together of bulk at most 1048576: NARROWER than '..Said'. Prove '..Said' where nothing that the law and all that it calls make is longer than what came in: it says more and counts as full. Else prove '..UptoSaid'. A law counts once. -/
mutual
def uptoBulk {H : Type} : DataW H → Nat
  | .lit (.string bytes) => bytes.length + 1
  | .lit _ => 1
  | .nil => 1
  | .ptr d => uptoBulk d + 1
  | .slice elems spare => uptoBulkAll elems + uptoBulkAll spare + 1
  | .agg parts => uptoBulkAll parts + 1
  | .iface _ d => uptoBulk d + 1
  | .map entries => uptoBulkEntries entries + 1
  | .held _ => 1
def uptoBulkAll {H : Type} : List (DataW H) → Nat
  | [] => 0
  | d :: r => uptoBulk d + uptoBulkAll r
def uptoBulkEntries {H : Type} : List (Lit × DataW H) → Nat
  | [] => 0
  | x :: r => uptoBulkEntry x + uptoBulkEntries r
def uptoBulkEntry {H : Type} : Lit × DataW H → Nat
  | (.string bytes, d) => bytes.length + uptoBulk d + 1
  | (_, d) => uptoBulk d + 1
 end
def uptoSmall : (H : Type) → List (DataW H) → Bool := fun _ ds => decide (uptoBulkAll ds ≤ 1048576)
def OpenSpec.upto (s : _root_.Go.ChangeSpec) : _root_.Go.OpenSpec := { _root_.Go.OpenSpec.ofChange s with cond := some uptoSmall }

/-- 'laws.FnChartPaths', WHERE WHAT IT READS IS OF BULK AT MOST 1048576: true; the input reads as it did. -/
def fnChartPathsUptoRow : OpenClaim := { program := "ytkjcedlgljeoiaa", sum := "7cf97a6bdb2f7babe7fa5aa4777c6a8e87702a7e5ba13431efee6731177e50fd", func := "given.example/pub-parodos/laws.FnChartPaths", spec := "fnChartPaths", recurses := true, loops := true, apart := false, narrowed := true }
def FnChartPathsUptoSaid : Prop := fnChartPathsUptoRow.holds Try.pinned (OpenSpec.upto fnChartPathsSpec)

/-- 'laws.FnHlExpand', WHERE WHAT IT READS IS OF BULK AT MOST 1048576: true; the input reads as it did. -/
def fnHlExpandUptoRow : OpenClaim := { program := "ytkjcedlgljeoiaa", sum := "7cf97a6bdb2f7babe7fa5aa4777c6a8e87702a7e5ba13431efee6731177e50fd", func := "given.example/pub-parodos/laws.FnHlExpand", spec := "fnHlExpand", unfollowed := true, recurses := true, apart := false, narrowed := true }
def FnHlExpandUptoSaid : Prop := fnHlExpandUptoRow.holds Try.pinned (OpenSpec.upto fnHlExpandSpec)

/-- 'laws.FnHlRepos', WHERE WHAT IT READS IS OF BULK AT MOST 1048576: true; the input reads as it did. -/
def fnHlReposUptoRow : OpenClaim := { program := "ytkjcedlgljeoiaa", sum := "7cf97a6bdb2f7babe7fa5aa4777c6a8e87702a7e5ba13431efee6731177e50fd", func := "given.example/pub-parodos/laws.FnHlRepos", spec := "fnHlRepos", apart := false, narrowed := true }
def FnHlReposUptoSaid : Prop := fnHlReposUptoRow.holds Try.pinned (OpenSpec.upto fnHlReposSpec)

/-- 'laws.FnHlURLJoin', WHERE WHAT IT READS IS OF BULK AT MOST 1048576: true; the input reads as it did. -/
def fnHlURLJoinUptoRow : OpenClaim := { program := "ytkjcedlgljeoiaa", sum := "7cf97a6bdb2f7babe7fa5aa4777c6a8e87702a7e5ba13431efee6731177e50fd", func := "given.example/pub-parodos/laws.FnHlURLJoin", spec := "fnHlURLJoin", unfollowed := true, recurses := true, apart := false, narrowed := true }
def FnHlURLJoinUptoSaid : Prop := fnHlURLJoinUptoRow.holds Try.pinned (OpenSpec.upto fnHlURLJoinSpec)

/-- 'laws.FnVersionFind', WHERE WHAT IT READS IS OF BULK AT MOST 1048576: true; the input reads as it did. -/
def fnVersionFindUptoRow : OpenClaim := { program := "ytkjcedlgljeoiaa", sum := "7cf97a6bdb2f7babe7fa5aa4777c6a8e87702a7e5ba13431efee6731177e50fd", func := "given.example/pub-parodos/laws.FnVersionFind", spec := "fnVersionFind", unfollowed := true, recurses := true, apart := false, narrowed := true }
def FnVersionFindUptoSaid : Prop := fnVersionFindUptoRow.holds Try.pinned (OpenSpec.upto fnVersionFindSpec)

/-- 'laws.FnHlLintChart', WHERE WHAT IT READS IS OF BULK AT MOST 1048576: true; the input reads as it did. -/
def fnHlLintChartUptoRow : OpenClaim := { program := "ytkjcedlgljeoiaa", sum := "7cf97a6bdb2f7babe7fa5aa4777c6a8e87702a7e5ba13431efee6731177e50fd", func := "given.example/pub-parodos/laws.FnHlLintChart", spec := "fnHlLintChart", unfollowed := true, recurses := true, apart := false, narrowed := true }
def FnHlLintChartUptoSaid : Prop := fnHlLintChartUptoRow.holds Try.pinned (OpenSpec.upto fnHlLintChartSpec)

/-- 'laws.FnHlLintDependencies', WHERE WHAT IT READS IS OF BULK AT MOST 1048576: true; the input reads as it did. -/
def fnHlLintDependenciesUptoRow : OpenClaim := { program := "ytkjcedlgljeoiaa", sum := "7cf97a6bdb2f7babe7fa5aa4777c6a8e87702a7e5ba13431efee6731177e50fd", func := "given.example/pub-parodos/laws.FnHlLintDependencies", spec := "fnHlLintDependencies", unfollowed := true, recurses := true, apart := false, narrowed := true }
def FnHlLintDependenciesUptoSaid : Prop := fnHlLintDependenciesUptoRow.holds Try.pinned (OpenSpec.upto fnHlLintDependenciesSpec)

/-- 'laws.FnChartCRDs', WHERE WHAT IT READS IS OF BULK AT MOST 1048576: true; the input reads as it did. -/
def fnChartCRDsUptoRow : OpenClaim := { program := "ytkjcedlgljeoiaa", sum := "7cf97a6bdb2f7babe7fa5aa4777c6a8e87702a7e5ba13431efee6731177e50fd", func := "given.example/pub-parodos/laws.FnChartCRDs", spec := "fnChartCRDs", unfollowed := true, recurses := true, loops := true, apart := false, narrowed := true }
def FnChartCRDsUptoSaid : Prop := fnChartCRDsUptoRow.holds Try.pinned (OpenSpec.upto fnChartCRDsSpec)

/-- 'laws.FnIndexGet', WHERE WHAT IT READS IS OF BULK AT MOST 1048576: true; the input reads as it did. -/
def fnIndexGetUptoRow : OpenClaim := { program := "ytkjcedlgljeoiaa", sum := "7cf97a6bdb2f7babe7fa5aa4777c6a8e87702a7e5ba13431efee6731177e50fd", func := "given.example/pub-parodos/laws.FnIndexGet", spec := "fnIndexGet", unfollowed := true, recurses := true, apart := false, narrowed := true }
def FnIndexGetUptoSaid : Prop := fnIndexGetUptoRow.holds Try.pinned (OpenSpec.upto fnIndexGetSpec)

/-- 'laws.FnHlPlugin', WHERE WHAT IT READS IS OF BULK AT MOST 1048576: true; the input reads as it did. -/
def fnHlPluginUptoRow : OpenClaim := { program := "ytkjcedlgljeoiaa", sum := "7cf97a6bdb2f7babe7fa5aa4777c6a8e87702a7e5ba13431efee6731177e50fd", func := "given.example/pub-parodos/laws.FnHlPlugin", spec := "fnHlPlugin", unfollowed := true, recurses := true, apart := false, narrowed := true }
def FnHlPluginUptoSaid : Prop := fnHlPluginUptoRow.holds Try.pinned (OpenSpec.upto fnHlPluginSpec)

/-- 'laws.FnValidMeta', WHERE WHAT IT READS IS OF BULK AT MOST 1048576: true; the input reads as it did. -/
def fnValidMetaUptoRow : OpenClaim := { program := "ytkjcedlgljeoiaa", sum := "7cf97a6bdb2f7babe7fa5aa4777c6a8e87702a7e5ba13431efee6731177e50fd", func := "given.example/pub-parodos/laws.FnValidMeta", spec := "fnValidMeta", unfollowed := true, recurses := true, apart := false, narrowed := true }
def FnValidMetaUptoSaid : Prop := fnValidMetaUptoRow.holds Try.pinned (OpenSpec.upto fnValidMetaSpec)

end Rows
end Go.Proofs.Ytkjcedlgljeoiaa
