/-
  NARROWER THAN 'FOR EVERY INPUT', by the rows' own cells (each row's printed sentence says how): FnScalarUntyped: loops · FnFindNamedFinds: loops · FnCopyFinds: loops · FnResolveInline: loops · FnZipFirst: loops · FnMapDelete: loops · FnCompareWholeNumbers: loops · FnValuesTransitive: loops · FnOneFieldMore: loops · FnListsAsValues: loops · FnElemsTransitive: loops · FnZipEqual: loops.
  DERIVED. THE GIVEN ROWS OF THIS SEAT. 12 by the template 'for every input the law returns true; each argument reads behind the call as it read before'; 0 by the template 'total and deterministic' (their statements: YtekaainjpddklaaTotals.lean).
  GIVEN WITH THE SEED: the statements are not yours to turn. If you find one false, say at which input.
  Laid BY PROGRAM, IN A SANDBOX (cutbox-rows.mjs): the forced cells as the released guide's own fill.sh prints them over the translation 34a5940ce3f612f8… (all of the seat's roots in one cut). By AI agents, Wed Nov 11 2026. No macro, syntax, notation, axiom, sorry.
-/
import Derived.Test.YtekaainjpddklaaChecked
import GoSem.Claim
import GoSem.ClaimJoined
import GoSem.ClaimMapViews
import Derived.JoinedTies
import Derived.KernelRfl
namespace Go.Proofs.Ytekaainjpddklaa
/- THE CELL 'sum', in the pinned program and in every row, IS THE sha256 OF THE DUMP (.gsa) THAT YtekaainjpddklaaProg.lean LOADS. Nothing in Lean hashes anything: it is a label: what it is worth is what the hold of that sum in a sandbox is worth. -/
noncomputable def Try.pinned : Pinned := { name := "ytekaainjpddklaa", sum := "34a5940ce3f612f8ccb7c962212dc235e43131bdc40cb7a0fc48089edafdd686", checked := Try.checked }
namespace Rows
def none {H : Type} : Left H := { results := [], args := [] }

/-- 'laws.FnScalarUntyped': WHATEVER THE INPUT: true; the input reads as it did. -/
def fnScalarUntypedSpec : ChangeSpec := { name := "fnScalarUntyped", fn := fun _ => fun
  | [d] => { results := [.lit (.bool true)], args := [d] }
  | _ => none }
def fnScalarUntypedRow : OpenClaim := { program := "ytekaainjpddklaa", sum := "34a5940ce3f612f8ccb7c962212dc235e43131bdc40cb7a0fc48089edafdd686", func := "pub-coparcener/laws.FnScalarUntyped", spec := "fnScalarUntyped", unfollowed := true, recurses := true, loops := true, apart := false }
def FnScalarUntypedSaid : Prop := fnScalarUntypedRow.holds Try.pinned (OpenSpec.ofChange fnScalarUntypedSpec)

/-- ITS FALSE NEIGHBOUR: 'it returns false'. Refute it at one input. -/
def fnScalarUntypedWrong : ChangeSpec := { name := "fnScalarUntyped", fn := fun _ => fun
  | [d] => { results := [.lit (.bool false)], args := [d] }
  | _ => none }
def FnScalarUntypedWrongFalsely : Prop := fnScalarUntypedRow.holds Try.pinned (OpenSpec.ofChange fnScalarUntypedWrong)

/-- 'laws.FnFindNamedFinds': WHATEVER THE INPUT: true; the input reads as it did. -/
def fnFindNamedFindsSpec : ChangeSpec := { name := "fnFindNamedFinds", fn := fun _ => fun
  | [d1, d2] => { results := [.lit (.bool true)], args := [d1, d2] }
  | _ => none }
def fnFindNamedFindsRow : OpenClaim := { program := "ytekaainjpddklaa", sum := "34a5940ce3f612f8ccb7c962212dc235e43131bdc40cb7a0fc48089edafdd686", func := "pub-coparcener/laws.FnFindNamedFinds", spec := "fnFindNamedFinds", inPlace := ["math.Float64bits"], unfollowed := true, recurses := true, loops := true, apart := false }
def FnFindNamedFindsSaid : Prop := fnFindNamedFindsRow.holds Try.pinned (OpenSpec.ofChange fnFindNamedFindsSpec)

/-- ITS FALSE NEIGHBOUR: 'it returns false'. Refute it at one input. -/
def fnFindNamedFindsWrong : ChangeSpec := { name := "fnFindNamedFinds", fn := fun _ => fun
  | [d1, d2] => { results := [.lit (.bool false)], args := [d1, d2] }
  | _ => none }
def FnFindNamedFindsWrongFalsely : Prop := fnFindNamedFindsRow.holds Try.pinned (OpenSpec.ofChange fnFindNamedFindsWrong)

/-- 'laws.FnCopyFinds': WHATEVER THE INPUT: true; the input reads as it did. -/
def fnCopyFindsSpec : ChangeSpec := { name := "fnCopyFinds", fn := fun _ => fun
  | [d1, d2, d3] => { results := [.lit (.bool true)], args := [d1, d2, d3] }
  | _ => none }
def fnCopyFindsRow : OpenClaim := { program := "ytekaainjpddklaa", sum := "34a5940ce3f612f8ccb7c962212dc235e43131bdc40cb7a0fc48089edafdd686", func := "pub-coparcener/laws.FnCopyFinds", spec := "fnCopyFinds", inPlace := ["math.Float64bits"], unfollowed := true, recurses := true, loops := true, apart := false }
def FnCopyFindsSaid : Prop := fnCopyFindsRow.holds Try.pinned (OpenSpec.ofChange fnCopyFindsSpec)

/-- ITS FALSE NEIGHBOUR: 'it returns false'. Refute it at one input. -/
def fnCopyFindsWrong : ChangeSpec := { name := "fnCopyFinds", fn := fun _ => fun
  | [d1, d2, d3] => { results := [.lit (.bool false)], args := [d1, d2, d3] }
  | _ => none }
def FnCopyFindsWrongFalsely : Prop := fnCopyFindsRow.holds Try.pinned (OpenSpec.ofChange fnCopyFindsWrong)

/-- 'laws.FnResolveInline': WHATEVER THE INPUT: true; the input reads as it did. -/
def fnResolveInlineSpec : ChangeSpec := { name := "fnResolveInline", fn := fun _ => fun
  | [d1, d2] => { results := [.lit (.bool true)], args := [d1, d2] }
  | _ => none }
def fnResolveInlineRow : OpenClaim := { program := "ytekaainjpddklaa", sum := "34a5940ce3f612f8ccb7c962212dc235e43131bdc40cb7a0fc48089edafdd686", func := "pub-coparcener/laws.FnResolveInline", spec := "fnResolveInline", inPlace := ["math.Float64bits"], unfollowed := true, recurses := true, loops := true, apart := false }
def FnResolveInlineSaid : Prop := fnResolveInlineRow.holds Try.pinned (OpenSpec.ofChange fnResolveInlineSpec)

/-- ITS FALSE NEIGHBOUR: 'it returns false'. Refute it at one input. -/
def fnResolveInlineWrong : ChangeSpec := { name := "fnResolveInline", fn := fun _ => fun
  | [d1, d2] => { results := [.lit (.bool false)], args := [d1, d2] }
  | _ => none }
def FnResolveInlineWrongFalsely : Prop := fnResolveInlineRow.holds Try.pinned (OpenSpec.ofChange fnResolveInlineWrong)

/-- 'laws.FnZipFirst': WHATEVER THE INPUT: true; the input reads as it did. -/
def fnZipFirstSpec : ChangeSpec := { name := "fnZipFirst", fn := fun _ => fun
  | [d1, d2, d3] => { results := [.lit (.bool true)], args := [d1, d2, d3] }
  | _ => none }
def fnZipFirstRow : OpenClaim := { program := "ytekaainjpddklaa", sum := "34a5940ce3f612f8ccb7c962212dc235e43131bdc40cb7a0fc48089edafdd686", func := "pub-coparcener/laws.FnZipFirst", spec := "fnZipFirst", inPlace := ["math.Float64bits"], unfollowed := true, recurses := true, loops := true, apart := false }
def FnZipFirstSaid : Prop := fnZipFirstRow.holds Try.pinned (OpenSpec.ofChange fnZipFirstSpec)

/-- ITS FALSE NEIGHBOUR: 'it returns false'. Refute it at one input. -/
def fnZipFirstWrong : ChangeSpec := { name := "fnZipFirst", fn := fun _ => fun
  | [d1, d2, d3] => { results := [.lit (.bool false)], args := [d1, d2, d3] }
  | _ => none }
def FnZipFirstWrongFalsely : Prop := fnZipFirstRow.holds Try.pinned (OpenSpec.ofChange fnZipFirstWrong)

/-- 'laws.FnMapDelete': WHATEVER THE INPUT: true; the input reads as it did. -/
def fnMapDeleteSpec : ChangeSpec := { name := "fnMapDelete", fn := fun _ => fun
  | [d1, d2, d3] => { results := [.lit (.bool true)], args := [d1, d2, d3] }
  | _ => none }
def fnMapDeleteRow : OpenClaim := { program := "ytekaainjpddklaa", sum := "34a5940ce3f612f8ccb7c962212dc235e43131bdc40cb7a0fc48089edafdd686", func := "pub-coparcener/laws.FnMapDelete", spec := "fnMapDelete", inPlace := ["math.Float64bits"], unfollowed := true, recurses := true, loops := true, apart := false }
def FnMapDeleteSaid : Prop := fnMapDeleteRow.holds Try.pinned (OpenSpec.ofChange fnMapDeleteSpec)

/-- ITS FALSE NEIGHBOUR: 'it returns false'. Refute it at one input. -/
def fnMapDeleteWrong : ChangeSpec := { name := "fnMapDelete", fn := fun _ => fun
  | [d1, d2, d3] => { results := [.lit (.bool false)], args := [d1, d2, d3] }
  | _ => none }
def FnMapDeleteWrongFalsely : Prop := fnMapDeleteRow.holds Try.pinned (OpenSpec.ofChange fnMapDeleteWrong)

/-- 'laws.FnCompareWholeNumbers': WHATEVER THE INPUT: true; the input reads as it did. -/
def fnCompareWholeNumbersSpec : ChangeSpec := { name := "fnCompareWholeNumbers", fn := fun _ => fun
  | [d1, d2] => { results := [.lit (.bool true)], args := [d1, d2] }
  | _ => none }
def fnCompareWholeNumbersRow : OpenClaim := { program := "ytekaainjpddklaa", sum := "34a5940ce3f612f8ccb7c962212dc235e43131bdc40cb7a0fc48089edafdd686", func := "pub-coparcener/laws.FnCompareWholeNumbers", spec := "fnCompareWholeNumbers", inPlace := ["internal/bytealg.abigen_runtime_cmpstring"], unfollowed := true, recurses := true, loops := true, apart := false }
def FnCompareWholeNumbersSaid : Prop := fnCompareWholeNumbersRow.holds Try.pinned (OpenSpec.ofChange fnCompareWholeNumbersSpec)

/-- ITS FALSE NEIGHBOUR: 'it returns false'. Refute it at one input. -/
def fnCompareWholeNumbersWrong : ChangeSpec := { name := "fnCompareWholeNumbers", fn := fun _ => fun
  | [d1, d2] => { results := [.lit (.bool false)], args := [d1, d2] }
  | _ => none }
def FnCompareWholeNumbersWrongFalsely : Prop := fnCompareWholeNumbersRow.holds Try.pinned (OpenSpec.ofChange fnCompareWholeNumbersWrong)

/-- 'laws.FnValuesTransitive': WHATEVER THE INPUT: true; the input reads as it did. -/
def fnValuesTransitiveSpec : ChangeSpec := { name := "fnValuesTransitive", fn := fun _ => fun
  | [d1, d2, d3] => { results := [.lit (.bool true)], args := [d1, d2, d3] }
  | _ => none }
def fnValuesTransitiveRow : OpenClaim := { program := "ytekaainjpddklaa", sum := "34a5940ce3f612f8ccb7c962212dc235e43131bdc40cb7a0fc48089edafdd686", func := "pub-coparcener/laws.FnValuesTransitive", spec := "fnValuesTransitive", inPlace := ["internal/bytealg.abigen_runtime_cmpstring"], unfollowed := true, recurses := true, loops := true, apart := false }
def FnValuesTransitiveSaid : Prop := fnValuesTransitiveRow.holds Try.pinned (OpenSpec.ofChange fnValuesTransitiveSpec)

/-- ITS FALSE NEIGHBOUR: 'it returns false'. Refute it at one input. -/
def fnValuesTransitiveWrong : ChangeSpec := { name := "fnValuesTransitive", fn := fun _ => fun
  | [d1, d2, d3] => { results := [.lit (.bool false)], args := [d1, d2, d3] }
  | _ => none }
def FnValuesTransitiveWrongFalsely : Prop := fnValuesTransitiveRow.holds Try.pinned (OpenSpec.ofChange fnValuesTransitiveWrong)

/-- 'laws.FnOneFieldMore': WHATEVER THE INPUT: true; the input reads as it did. -/
def fnOneFieldMoreSpec : ChangeSpec := { name := "fnOneFieldMore", fn := fun _ => fun
  | [d1, d2, d3] => { results := [.lit (.bool true)], args := [d1, d2, d3] }
  | _ => none }
def fnOneFieldMoreRow : OpenClaim := { program := "ytekaainjpddklaa", sum := "34a5940ce3f612f8ccb7c962212dc235e43131bdc40cb7a0fc48089edafdd686", func := "pub-coparcener/laws.FnOneFieldMore", spec := "fnOneFieldMore", inPlace := ["internal/bytealg.abigen_runtime_cmpstring"], unfollowed := true, recurses := true, loops := true, apart := false }
def FnOneFieldMoreSaid : Prop := fnOneFieldMoreRow.holds Try.pinned (OpenSpec.ofChange fnOneFieldMoreSpec)

/-- ITS FALSE NEIGHBOUR: 'it returns false'. Refute it at one input. -/
def fnOneFieldMoreWrong : ChangeSpec := { name := "fnOneFieldMore", fn := fun _ => fun
  | [d1, d2, d3] => { results := [.lit (.bool false)], args := [d1, d2, d3] }
  | _ => none }
def FnOneFieldMoreWrongFalsely : Prop := fnOneFieldMoreRow.holds Try.pinned (OpenSpec.ofChange fnOneFieldMoreWrong)

/-- 'laws.FnListsAsValues': WHATEVER THE INPUT: true; the input reads as it did. -/
def fnListsAsValuesSpec : ChangeSpec := { name := "fnListsAsValues", fn := fun _ => fun
  | [d1, d2] => { results := [.lit (.bool true)], args := [d1, d2] }
  | _ => none }
def fnListsAsValuesRow : OpenClaim := { program := "ytekaainjpddklaa", sum := "34a5940ce3f612f8ccb7c962212dc235e43131bdc40cb7a0fc48089edafdd686", func := "pub-coparcener/laws.FnListsAsValues", spec := "fnListsAsValues", inPlace := ["internal/bytealg.abigen_runtime_cmpstring"], unfollowed := true, recurses := true, loops := true, apart := false }
def FnListsAsValuesSaid : Prop := fnListsAsValuesRow.holds Try.pinned (OpenSpec.ofChange fnListsAsValuesSpec)

/-- ITS FALSE NEIGHBOUR: 'it returns false'. Refute it at one input. -/
def fnListsAsValuesWrong : ChangeSpec := { name := "fnListsAsValues", fn := fun _ => fun
  | [d1, d2] => { results := [.lit (.bool false)], args := [d1, d2] }
  | _ => none }
def FnListsAsValuesWrongFalsely : Prop := fnListsAsValuesRow.holds Try.pinned (OpenSpec.ofChange fnListsAsValuesWrong)

/-- 'laws.FnElemsTransitive': WHATEVER THE INPUT: true; the input reads as it did. -/
def fnElemsTransitiveSpec : ChangeSpec := { name := "fnElemsTransitive", fn := fun _ => fun
  | [d1, d2, d3] => { results := [.lit (.bool true)], args := [d1, d2, d3] }
  | _ => none }
def fnElemsTransitiveRow : OpenClaim := { program := "ytekaainjpddklaa", sum := "34a5940ce3f612f8ccb7c962212dc235e43131bdc40cb7a0fc48089edafdd686", func := "pub-coparcener/laws.FnElemsTransitive", spec := "fnElemsTransitive", inPlace := ["internal/bytealg.abigen_runtime_cmpstring"], unfollowed := true, recurses := true, loops := true, apart := false }
def FnElemsTransitiveSaid : Prop := fnElemsTransitiveRow.holds Try.pinned (OpenSpec.ofChange fnElemsTransitiveSpec)

/-- ITS FALSE NEIGHBOUR: 'it returns false'. Refute it at one input. -/
def fnElemsTransitiveWrong : ChangeSpec := { name := "fnElemsTransitive", fn := fun _ => fun
  | [d1, d2, d3] => { results := [.lit (.bool false)], args := [d1, d2, d3] }
  | _ => none }
def FnElemsTransitiveWrongFalsely : Prop := fnElemsTransitiveRow.holds Try.pinned (OpenSpec.ofChange fnElemsTransitiveWrong)

/-- 'laws.FnZipEqual': WHATEVER THE INPUT: true; the input reads as it did. -/
def fnZipEqualSpec : ChangeSpec := { name := "fnZipEqual", fn := fun _ => fun
  | [d1, d2] => { results := [.lit (.bool true)], args := [d1, d2] }
  | _ => none }
def fnZipEqualRow : OpenClaim := { program := "ytekaainjpddklaa", sum := "34a5940ce3f612f8ccb7c962212dc235e43131bdc40cb7a0fc48089edafdd686", func := "pub-coparcener/laws.FnZipEqual", spec := "fnZipEqual", unfollowed := true, recurses := true, loops := true, apart := false }
def FnZipEqualSaid : Prop := fnZipEqualRow.holds Try.pinned (OpenSpec.ofChange fnZipEqualSpec)

/-- ITS FALSE NEIGHBOUR: 'it returns false'. Refute it at one input. -/
def fnZipEqualWrong : ChangeSpec := { name := "fnZipEqual", fn := fun _ => fun
  | [d1, d2] => { results := [.lit (.bool false)], args := [d1, d2] }
  | _ => none }
def FnZipEqualWrongFalsely : Prop := fnZipEqualRow.holds Try.pinned (OpenSpec.ofChange fnZipEqualWrong)

/- THE SECOND FORM. 'bulk': how many values and letters a reading holds, each counted each time it is reached (what is shared counts as often as it is met; a slice's spare places count too). A statement '..UptoSaid' is the law's where the arguments, and the package variables that the reading takes, are together of bulk at most 1048576: NARROWER than '..Said'. Prove '..Said' where nothing that the law and all that it calls make is longer than what came in: it says more and counts as full. Else prove '..UptoSaid'. A law counts once. -/
mutual
def uptoBulk {H : Type} : DataW H → Nat
  | .lit (.string bytes) => bytes.length + 1
  | .lit _ => 1
  | .nil => 1
  | .ptr d => uptoBulk d + 1
  | .slice elems spare => uptoBulkAll elems + uptoBulkAll spare + 1
  | .agg parts => uptoBulkAll parts + 1
  | .iface _ d => uptoBulk d + 1
  | .map entries => uptoBulkEntries entries + 1
  | .held _ => 1
def uptoBulkAll {H : Type} : List (DataW H) → Nat
  | [] => 0
  | d :: r => uptoBulk d + uptoBulkAll r
def uptoBulkEntries {H : Type} : List (Lit × DataW H) → Nat
  | [] => 0
  | x :: r => uptoBulkEntry x + uptoBulkEntries r
def uptoBulkEntry {H : Type} : Lit × DataW H → Nat
  | (.string bytes, d) => bytes.length + uptoBulk d + 1
  | (_, d) => uptoBulk d + 1
 end
def uptoSmall : (H : Type) → List (DataW H) → Bool := fun _ ds => decide (uptoBulkAll ds ≤ 1048576)
def OpenSpec.upto (s : _root_.Go.ChangeSpec) : _root_.Go.OpenSpec := { _root_.Go.OpenSpec.ofChange s with cond := some uptoSmall }

/-- 'laws.FnScalarUntyped', WHERE WHAT IT READS IS OF BULK AT MOST 1048576: true; the input reads as it did. -/
def fnScalarUntypedUptoRow : OpenClaim := { program := "ytekaainjpddklaa", sum := "34a5940ce3f612f8ccb7c962212dc235e43131bdc40cb7a0fc48089edafdd686", func := "pub-coparcener/laws.FnScalarUntyped", spec := "fnScalarUntyped", unfollowed := true, recurses := true, loops := true, apart := false, narrowed := true }
def FnScalarUntypedUptoSaid : Prop := fnScalarUntypedUptoRow.holds Try.pinned (OpenSpec.upto fnScalarUntypedSpec)

/-- 'laws.FnFindNamedFinds', WHERE WHAT IT READS IS OF BULK AT MOST 1048576: true; the input reads as it did. -/
def fnFindNamedFindsUptoRow : OpenClaim := { program := "ytekaainjpddklaa", sum := "34a5940ce3f612f8ccb7c962212dc235e43131bdc40cb7a0fc48089edafdd686", func := "pub-coparcener/laws.FnFindNamedFinds", spec := "fnFindNamedFinds", inPlace := ["math.Float64bits"], unfollowed := true, recurses := true, loops := true, apart := false, narrowed := true }
def FnFindNamedFindsUptoSaid : Prop := fnFindNamedFindsUptoRow.holds Try.pinned (OpenSpec.upto fnFindNamedFindsSpec)

/-- 'laws.FnCopyFinds', WHERE WHAT IT READS IS OF BULK AT MOST 1048576: true; the input reads as it did. -/
def fnCopyFindsUptoRow : OpenClaim := { program := "ytekaainjpddklaa", sum := "34a5940ce3f612f8ccb7c962212dc235e43131bdc40cb7a0fc48089edafdd686", func := "pub-coparcener/laws.FnCopyFinds", spec := "fnCopyFinds", inPlace := ["math.Float64bits"], unfollowed := true, recurses := true, loops := true, apart := false, narrowed := true }
def FnCopyFindsUptoSaid : Prop := fnCopyFindsUptoRow.holds Try.pinned (OpenSpec.upto fnCopyFindsSpec)

/-- 'laws.FnResolveInline', WHERE WHAT IT READS IS OF BULK AT MOST 1048576: true; the input reads as it did. -/
def fnResolveInlineUptoRow : OpenClaim := { program := "ytekaainjpddklaa", sum := "34a5940ce3f612f8ccb7c962212dc235e43131bdc40cb7a0fc48089edafdd686", func := "pub-coparcener/laws.FnResolveInline", spec := "fnResolveInline", inPlace := ["math.Float64bits"], unfollowed := true, recurses := true, loops := true, apart := false, narrowed := true }
def FnResolveInlineUptoSaid : Prop := fnResolveInlineUptoRow.holds Try.pinned (OpenSpec.upto fnResolveInlineSpec)

/-- 'laws.FnZipFirst', WHERE WHAT IT READS IS OF BULK AT MOST 1048576: true; the input reads as it did. -/
def fnZipFirstUptoRow : OpenClaim := { program := "ytekaainjpddklaa", sum := "34a5940ce3f612f8ccb7c962212dc235e43131bdc40cb7a0fc48089edafdd686", func := "pub-coparcener/laws.FnZipFirst", spec := "fnZipFirst", inPlace := ["math.Float64bits"], unfollowed := true, recurses := true, loops := true, apart := false, narrowed := true }
def FnZipFirstUptoSaid : Prop := fnZipFirstUptoRow.holds Try.pinned (OpenSpec.upto fnZipFirstSpec)

/-- 'laws.FnMapDelete', WHERE WHAT IT READS IS OF BULK AT MOST 1048576: true; the input reads as it did. -/
def fnMapDeleteUptoRow : OpenClaim := { program := "ytekaainjpddklaa", sum := "34a5940ce3f612f8ccb7c962212dc235e43131bdc40cb7a0fc48089edafdd686", func := "pub-coparcener/laws.FnMapDelete", spec := "fnMapDelete", inPlace := ["math.Float64bits"], unfollowed := true, recurses := true, loops := true, apart := false, narrowed := true }
def FnMapDeleteUptoSaid : Prop := fnMapDeleteUptoRow.holds Try.pinned (OpenSpec.upto fnMapDeleteSpec)

/-- 'laws.FnCompareWholeNumbers', WHERE WHAT IT READS IS OF BULK AT MOST 1048576: true; the input reads as it did. -/
def fnCompareWholeNumbersUptoRow : OpenClaim := { program := "ytekaainjpddklaa", sum := "34a5940ce3f612f8ccb7c962212dc235e43131bdc40cb7a0fc48089edafdd686", func := "pub-coparcener/laws.FnCompareWholeNumbers", spec := "fnCompareWholeNumbers", inPlace := ["internal/bytealg.abigen_runtime_cmpstring"], unfollowed := true, recurses := true, loops := true, apart := false, narrowed := true }
def FnCompareWholeNumbersUptoSaid : Prop := fnCompareWholeNumbersUptoRow.holds Try.pinned (OpenSpec.upto fnCompareWholeNumbersSpec)

/-- 'laws.FnValuesTransitive', WHERE WHAT IT READS IS OF BULK AT MOST 1048576: true; the input reads as it did. -/
def fnValuesTransitiveUptoRow : OpenClaim := { program := "ytekaainjpddklaa", sum := "34a5940ce3f612f8ccb7c962212dc235e43131bdc40cb7a0fc48089edafdd686", func := "pub-coparcener/laws.FnValuesTransitive", spec := "fnValuesTransitive", inPlace := ["internal/bytealg.abigen_runtime_cmpstring"], unfollowed := true, recurses := true, loops := true, apart := false, narrowed := true }
def FnValuesTransitiveUptoSaid : Prop := fnValuesTransitiveUptoRow.holds Try.pinned (OpenSpec.upto fnValuesTransitiveSpec)

/-- 'laws.FnOneFieldMore', WHERE WHAT IT READS IS OF BULK AT MOST 1048576: true; the input reads as it did. -/
def fnOneFieldMoreUptoRow : OpenClaim := { program := "ytekaainjpddklaa", sum := "34a5940ce3f612f8ccb7c962212dc235e43131bdc40cb7a0fc48089edafdd686", func := "pub-coparcener/laws.FnOneFieldMore", spec := "fnOneFieldMore", inPlace := ["internal/bytealg.abigen_runtime_cmpstring"], unfollowed := true, recurses := true, loops := true, apart := false, narrowed := true }
def FnOneFieldMoreUptoSaid : Prop := fnOneFieldMoreUptoRow.holds Try.pinned (OpenSpec.upto fnOneFieldMoreSpec)

/-- 'laws.FnListsAsValues', WHERE WHAT IT READS IS OF BULK AT MOST 1048576: true; the input reads as it did. -/
def fnListsAsValuesUptoRow : OpenClaim := { program := "ytekaainjpddklaa", sum := "34a5940ce3f612f8ccb7c962212dc235e43131bdc40cb7a0fc48089edafdd686", func := "pub-coparcener/laws.FnListsAsValues", spec := "fnListsAsValues", inPlace := ["internal/bytealg.abigen_runtime_cmpstring"], unfollowed := true, recurses := true, loops := true, apart := false, narrowed := true }
def FnListsAsValuesUptoSaid : Prop := fnListsAsValuesUptoRow.holds Try.pinned (OpenSpec.upto fnListsAsValuesSpec)

/-- 'laws.FnElemsTransitive', WHERE WHAT IT READS IS OF BULK AT MOST 1048576: true; the input reads as it did. -/
def fnElemsTransitiveUptoRow : OpenClaim := { program := "ytekaainjpddklaa", sum := "34a5940ce3f612f8ccb7c962212dc235e43131bdc40cb7a0fc48089edafdd686", func := "pub-coparcener/laws.FnElemsTransitive", spec := "fnElemsTransitive", inPlace := ["internal/bytealg.abigen_runtime_cmpstring"], unfollowed := true, recurses := true, loops := true, apart := false, narrowed := true }
def FnElemsTransitiveUptoSaid : Prop := fnElemsTransitiveUptoRow.holds Try.pinned (OpenSpec.upto fnElemsTransitiveSpec)

/-- 'laws.FnZipEqual', WHERE WHAT IT READS IS OF BULK AT MOST 1048576: true; the input reads as it did. -/
def fnZipEqualUptoRow : OpenClaim := { program := "ytekaainjpddklaa", sum := "34a5940ce3f612f8ccb7c962212dc235e43131bdc40cb7a0fc48089edafdd686", func := "pub-coparcener/laws.FnZipEqual", spec := "fnZipEqual", unfollowed := true, recurses := true, loops := true, apart := false, narrowed := true }
def FnZipEqualUptoSaid : Prop := fnZipEqualUptoRow.holds Try.pinned (OpenSpec.upto fnZipEqualSpec)

end Rows
end Go.Proofs.Ytekaainjpddklaa
