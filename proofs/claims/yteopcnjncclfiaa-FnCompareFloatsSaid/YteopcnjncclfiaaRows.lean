/-
  NARROWER THAN 'FOR EVERY INPUT', by the rows' own cells (each row's printed sentence says how): FnScalarUntyped: loops · FnFindNamedFinds: loops · FnCopyFinds: loops · FnResolveInline: loops.
  DERIVED. THE GIVEN ROWS OF THIS SEAT. 5 by the template 'for every input the law returns true; each argument reads behind the call as it read before'; 0 by the template 'total and deterministic' (their statements: YteopcnjncclfiaaTotals.lean).
  GIVEN WITH THE SEED: the statements are not yours to turn. If you find one false, say at which input.
  Laid BY PROGRAM, IN A SANDBOX (cutbox-rows.mjs): the forced cells as the released guide's own fill.sh prints them over the translation ff5d9a8172289a21… (all of the seat's roots in one cut). By AI agents, Wed Nov 11 2026. No macro, syntax, notation, axiom, sorry.
-/
import Derived.Test.YteopcnjncclfiaaChecked
import GoSem.Claim
import GoSem.ClaimJoined
import GoSem.ClaimMapViews
import Derived.JoinedTies
import Derived.KernelRfl
namespace Go.Proofs.Yteopcnjncclfiaa
/- THE CELL 'sum', in the pinned program and in every row, IS THE sha256 OF THE DUMP (.gsa) THAT YteopcnjncclfiaaProg.lean LOADS. Nothing in Lean hashes anything: it is a label: what it is worth is what the hold of that sum in a sandbox is worth. -/
noncomputable def Try.pinned : Pinned := { name := "yteopcnjncclfiaa", sum := "ff5d9a8172289a21d91aa420973aa8ce357cc39f7aa9c26ce6ce3fcca97cb6ad", checked := Try.checked }
namespace Rows
def none {H : Type} : Left H := { results := [], args := [] }

/-- 'laws.FnCompareFloats': WHATEVER THE INPUT: true; the input reads as it did. -/
def fnCompareFloatsSpec : ChangeSpec := { name := "fnCompareFloats", fn := fun _ => fun
  | [d1, d2] => { results := [.lit (.bool true)], args := [d1, d2] }
  | _ => none }
def fnCompareFloatsRow : OpenClaim := { program := "yteopcnjncclfiaa", sum := "ff5d9a8172289a21d91aa420973aa8ce357cc39f7aa9c26ce6ce3fcca97cb6ad", func := "pub-coparcener/laws.FnCompareFloats", spec := "fnCompareFloats", apart := false }
def FnCompareFloatsSaid : Prop := fnCompareFloatsRow.holds Try.pinned (OpenSpec.ofChange fnCompareFloatsSpec)

/-- ITS FALSE NEIGHBOUR: 'it returns false'. Refute it at one input. -/
def fnCompareFloatsWrong : ChangeSpec := { name := "fnCompareFloats", fn := fun _ => fun
  | [d1, d2] => { results := [.lit (.bool false)], args := [d1, d2] }
  | _ => none }
def FnCompareFloatsWrongFalsely : Prop := fnCompareFloatsRow.holds Try.pinned (OpenSpec.ofChange fnCompareFloatsWrong)

/-- 'laws.FnScalarUntyped': WHATEVER THE INPUT: true; the input reads as it did. -/
def fnScalarUntypedSpec : ChangeSpec := { name := "fnScalarUntyped", fn := fun _ => fun
  | [d] => { results := [.lit (.bool true)], args := [d] }
  | _ => none }
def fnScalarUntypedRow : OpenClaim := { program := "yteopcnjncclfiaa", sum := "ff5d9a8172289a21d91aa420973aa8ce357cc39f7aa9c26ce6ce3fcca97cb6ad", func := "pub-coparcener/laws.FnScalarUntyped", spec := "fnScalarUntyped", unfollowed := true, recurses := true, loops := true, apart := false }
def FnScalarUntypedSaid : Prop := fnScalarUntypedRow.holds Try.pinned (OpenSpec.ofChange fnScalarUntypedSpec)

/-- ITS FALSE NEIGHBOUR: 'it returns false'. Refute it at one input. -/
def fnScalarUntypedWrong : ChangeSpec := { name := "fnScalarUntyped", fn := fun _ => fun
  | [d] => { results := [.lit (.bool false)], args := [d] }
  | _ => none }
def FnScalarUntypedWrongFalsely : Prop := fnScalarUntypedRow.holds Try.pinned (OpenSpec.ofChange fnScalarUntypedWrong)

/-- 'laws.FnFindNamedFinds': WHATEVER THE INPUT: true; the input reads as it did. -/
def fnFindNamedFindsSpec : ChangeSpec := { name := "fnFindNamedFinds", fn := fun _ => fun
  | [d1, d2] => { results := [.lit (.bool true)], args := [d1, d2] }
  | _ => none }
def fnFindNamedFindsRow : OpenClaim := { program := "yteopcnjncclfiaa", sum := "ff5d9a8172289a21d91aa420973aa8ce357cc39f7aa9c26ce6ce3fcca97cb6ad", func := "pub-coparcener/laws.FnFindNamedFinds", spec := "fnFindNamedFinds", inPlace := ["math.Float64bits"], unfollowed := true, recurses := true, loops := true, apart := false }
def FnFindNamedFindsSaid : Prop := fnFindNamedFindsRow.holds Try.pinned (OpenSpec.ofChange fnFindNamedFindsSpec)

/-- ITS FALSE NEIGHBOUR: 'it returns false'. Refute it at one input. -/
def fnFindNamedFindsWrong : ChangeSpec := { name := "fnFindNamedFinds", fn := fun _ => fun
  | [d1, d2] => { results := [.lit (.bool false)], args := [d1, d2] }
  | _ => none }
def FnFindNamedFindsWrongFalsely : Prop := fnFindNamedFindsRow.holds Try.pinned (OpenSpec.ofChange fnFindNamedFindsWrong)

/-- 'laws.FnCopyFinds': WHATEVER THE INPUT: true; the input reads as it did. -/
def fnCopyFindsSpec : ChangeSpec := { name := "fnCopyFinds", fn := fun _ => fun
  | [d1, d2, d3] => { results := [.lit (.bool true)], args := [d1, d2, d3] }
  | _ => none }
def fnCopyFindsRow : OpenClaim := { program := "yteopcnjncclfiaa", sum := "ff5d9a8172289a21d91aa420973aa8ce357cc39f7aa9c26ce6ce3fcca97cb6ad", func := "pub-coparcener/laws.FnCopyFinds", spec := "fnCopyFinds", inPlace := ["math.Float64bits"], unfollowed := true, recurses := true, loops := true, apart := false }
def FnCopyFindsSaid : Prop := fnCopyFindsRow.holds Try.pinned (OpenSpec.ofChange fnCopyFindsSpec)

/-- ITS FALSE NEIGHBOUR: 'it returns false'. Refute it at one input. -/
def fnCopyFindsWrong : ChangeSpec := { name := "fnCopyFinds", fn := fun _ => fun
  | [d1, d2, d3] => { results := [.lit (.bool false)], args := [d1, d2, d3] }
  | _ => none }
def FnCopyFindsWrongFalsely : Prop := fnCopyFindsRow.holds Try.pinned (OpenSpec.ofChange fnCopyFindsWrong)

/-- 'laws.FnResolveInline': WHATEVER THE INPUT: true; the input reads as it did. -/
def fnResolveInlineSpec : ChangeSpec := { name := "fnResolveInline", fn := fun _ => fun
  | [d1, d2] => { results := [.lit (.bool true)], args := [d1, d2] }
  | _ => none }
def fnResolveInlineRow : OpenClaim := { program := "yteopcnjncclfiaa", sum := "ff5d9a8172289a21d91aa420973aa8ce357cc39f7aa9c26ce6ce3fcca97cb6ad", func := "pub-coparcener/laws.FnResolveInline", spec := "fnResolveInline", inPlace := ["math.Float64bits"], unfollowed := true, recurses := true, loops := true, apart := false }
def FnResolveInlineSaid : Prop := fnResolveInlineRow.holds Try.pinned (OpenSpec.ofChange fnResolveInlineSpec)

/-- ITS FALSE NEIGHBOUR: 'it returns false'. Refute it at one input. -/
def fnResolveInlineWrong : ChangeSpec := { name := "fnResolveInline", fn := fun _ => fun
  | [d1, d2] => { results := [.lit (.bool false)], args := [d1, d2] }
  | _ => none }
def FnResolveInlineWrongFalsely : Prop := fnResolveInlineRow.holds Try.pinned (OpenSpec.ofChange fnResolveInlineWrong)

/- THE SECOND FORM. 'bulk': how many values and letters a reading holds, each counted each time it is reached (what is shared counts as often as it is met; a slice's spare places count too). A statement '..UptoSaid' is the law's where the arguments, and the package variables that the reading takes, are together of bulk at most 1048576: NARROWER than '..Said'. Prove '..Said' where nothing that the law and all that it calls make is longer than what came in: it says more and counts as full. Else prove '..UptoSaid'. A law counts once. -/
mutual
def uptoBulk {H : Type} : DataW H → Nat
  | .lit (.string bytes) => bytes.length + 1
  | .lit _ => 1
  | .nil => 1
  | .ptr d => uptoBulk d + 1
  | .slice elems spare => uptoBulkAll elems + uptoBulkAll spare + 1
  | .agg parts => uptoBulkAll parts + 1
  | .iface _ d => uptoBulk d + 1
  | .map entries => uptoBulkEntries entries + 1
  | .held _ => 1
def uptoBulkAll {H : Type} : List (DataW H) → Nat
  | [] => 0
  | d :: r => uptoBulk d + uptoBulkAll r
def uptoBulkEntries {H : Type} : List (Lit × DataW H) → Nat
  | [] => 0
  | x :: r => uptoBulkEntry x + uptoBulkEntries r
def uptoBulkEntry {H : Type} : Lit × DataW H → Nat
  | (.string bytes, d) => bytes.length + uptoBulk d + 1
  | (_, d) => uptoBulk d + 1
 end
def uptoSmall : (H : Type) → List (DataW H) → Bool := fun _ ds => decide (uptoBulkAll ds ≤ 1048576)
def OpenSpec.upto (s : _root_.Go.ChangeSpec) : _root_.Go.OpenSpec := { _root_.Go.OpenSpec.ofChange s with cond := some uptoSmall }

/-- 'laws.FnCompareFloats', WHERE WHAT IT READS IS OF BULK AT MOST 1048576: true; the input reads as it did. -/
def fnCompareFloatsUptoRow : OpenClaim := { program := "yteopcnjncclfiaa", sum := "ff5d9a8172289a21d91aa420973aa8ce357cc39f7aa9c26ce6ce3fcca97cb6ad", func := "pub-coparcener/laws.FnCompareFloats", spec := "fnCompareFloats", apart := false, narrowed := true }
def FnCompareFloatsUptoSaid : Prop := fnCompareFloatsUptoRow.holds Try.pinned (OpenSpec.upto fnCompareFloatsSpec)

/-- 'laws.FnScalarUntyped', WHERE WHAT IT READS IS OF BULK AT MOST 1048576: true; the input reads as it did. -/
def fnScalarUntypedUptoRow : OpenClaim := { program := "yteopcnjncclfiaa", sum := "ff5d9a8172289a21d91aa420973aa8ce357cc39f7aa9c26ce6ce3fcca97cb6ad", func := "pub-coparcener/laws.FnScalarUntyped", spec := "fnScalarUntyped", unfollowed := true, recurses := true, loops := true, apart := false, narrowed := true }
def FnScalarUntypedUptoSaid : Prop := fnScalarUntypedUptoRow.holds Try.pinned (OpenSpec.upto fnScalarUntypedSpec)

/-- 'laws.FnFindNamedFinds', WHERE WHAT IT READS IS OF BULK AT MOST 1048576: true; the input reads as it did. -/
def fnFindNamedFindsUptoRow : OpenClaim := { program := "yteopcnjncclfiaa", sum := "ff5d9a8172289a21d91aa420973aa8ce357cc39f7aa9c26ce6ce3fcca97cb6ad", func := "pub-coparcener/laws.FnFindNamedFinds", spec := "fnFindNamedFinds", inPlace := ["math.Float64bits"], unfollowed := true, recurses := true, loops := true, apart := false, narrowed := true }
def FnFindNamedFindsUptoSaid : Prop := fnFindNamedFindsUptoRow.holds Try.pinned (OpenSpec.upto fnFindNamedFindsSpec)

/-- 'laws.FnCopyFinds', WHERE WHAT IT READS IS OF BULK AT MOST 1048576: true; the input reads as it did. -/
def fnCopyFindsUptoRow : OpenClaim := { program := "yteopcnjncclfiaa", sum := "ff5d9a8172289a21d91aa420973aa8ce357cc39f7aa9c26ce6ce3fcca97cb6ad", func := "pub-coparcener/laws.FnCopyFinds", spec := "fnCopyFinds", inPlace := ["math.Float64bits"], unfollowed := true, recurses := true, loops := true, apart := false, narrowed := true }
def FnCopyFindsUptoSaid : Prop := fnCopyFindsUptoRow.holds Try.pinned (OpenSpec.upto fnCopyFindsSpec)

/-- 'laws.FnResolveInline', WHERE WHAT IT READS IS OF BULK AT MOST 1048576: true; the input reads as it did. -/
def fnResolveInlineUptoRow : OpenClaim := { program := "yteopcnjncclfiaa", sum := "ff5d9a8172289a21d91aa420973aa8ce357cc39f7aa9c26ce6ce3fcca97cb6ad", func := "pub-coparcener/laws.FnResolveInline", spec := "fnResolveInline", inPlace := ["math.Float64bits"], unfollowed := true, recurses := true, loops := true, apart := false, narrowed := true }
def FnResolveInlineUptoSaid : Prop := fnResolveInlineUptoRow.holds Try.pinned (OpenSpec.upto fnResolveInlineSpec)

end Rows
end Go.Proofs.Yteopcnjncclfiaa
