/-
  NARROWER THAN 'FOR EVERY INPUT', by the rows' own cells (each row's printed sentence says how): FnElemSet: loops · FnElemMap: loops · FnSetInOrder: loops · FnSetDescend: loops · FnConflictSet: loops · FnSetWithPrefix: loops · FnWithPrefixHas: loops · FnSetUnion: loops · FnManagersEqualInAnyOrder: loops · FnSetNamed: loops · FnSetAlgebra: loops.
  DERIVED. THE GIVEN ROWS OF THIS SEAT. 11 by the template 'for every input the law returns true; each argument reads behind the call as it read before'; 0 by the template 'total and deterministic' (their statements: YtajeghkjppkhcaaGreatTotals.lean).
  GIVEN WITH THE SEED: the statements are not yours to turn. If you find one false, say at which input.
  Laid BY PROGRAM, IN A SANDBOX (cutbox-rows.mjs): the forced cells as the released guide's own fill.sh prints them over the translation c58113a1c5bb792f… (all of the seat's roots in one cut). By AI agents, Wed Nov 11 2026. No macro, syntax, notation, axiom, sorry.
-/
import Derived.Test.YtajeghkjppkhcaaGreatChecked
import GoSem.Claim
import GoSem.ClaimJoined
import GoSem.ClaimMapViews
import Derived.JoinedTies
import Derived.KernelRfl
namespace Go.Proofs.YtajeghkjppkhcaaGreat
/- THE CELL 'sum', in the pinned program and in every row, IS THE sha256 OF THE DUMP (.gsa) THAT YtajeghkjppkhcaaGreatProg.lean LOADS. Nothing in Lean hashes anything: it is a label: what it is worth is what the hold of that sum in a sandbox is worth. -/
noncomputable def Tryz.pinned : Pinned := { name := "ytajeghkjppkhcaagreat", sum := "c58113a1c5bb792f7fc2b9a5ed0b2406de13b7f080a130b2535970f59ed37339", checked := Tryz.checked }
namespace Rows
def none {H : Type} : Left H := { results := [], args := [] }

/-- 'laws.FnElemSet': WHATEVER THE INPUT: true; the input reads as it did. -/
def fnElemSetSpec : ChangeSpec := { name := "fnElemSet", fn := fun _ => fun
  | [d] => { results := [.lit (.bool true)], args := [d] }
  | _ => none }
def fnElemSetRow : OpenClaim := { program := "ytajeghkjppkhcaagreat", sum := "c58113a1c5bb792f7fc2b9a5ed0b2406de13b7f080a130b2535970f59ed37339", func := "pub-coparcener/laws.FnElemSet", spec := "fnElemSet", inPlace := ["internal/bytealg.abigen_runtime_cmpstring", "slices.overlaps[pub-coparcener/pub/structuredmerge/fieldpath.PathElement]"], unfollowed := true, recurses := true, loops := true, apart := false }
def FnElemSetSaid : Prop := fnElemSetRow.holds Tryz.pinned (OpenSpec.ofChange fnElemSetSpec)

/-- ITS FALSE NEIGHBOUR: 'it returns false'. Refute it at one input. -/
def fnElemSetWrong : ChangeSpec := { name := "fnElemSet", fn := fun _ => fun
  | [d] => { results := [.lit (.bool false)], args := [d] }
  | _ => none }
def FnElemSetWrongFalsely : Prop := fnElemSetRow.holds Tryz.pinned (OpenSpec.ofChange fnElemSetWrong)

/-- 'laws.FnElemMap': WHATEVER THE INPUT: true; the input reads as it did. -/
def fnElemMapSpec : ChangeSpec := { name := "fnElemMap", fn := fun _ => fun
  | [d1, d2, d3] => { results := [.lit (.bool true)], args := [d1, d2, d3] }
  | _ => none }
def fnElemMapRow : OpenClaim := { program := "ytajeghkjppkhcaagreat", sum := "c58113a1c5bb792f7fc2b9a5ed0b2406de13b7f080a130b2535970f59ed37339", func := "pub-coparcener/laws.FnElemMap", spec := "fnElemMap", inPlace := ["internal/bytealg.abigen_runtime_cmpstring", "slices.overlaps[pub-coparcener/pub/structuredmerge/fieldpath.pathElementValue]", "math.Float64bits"], unfollowed := true, recurses := true, loops := true, apart := false }
def FnElemMapSaid : Prop := fnElemMapRow.holds Tryz.pinned (OpenSpec.ofChange fnElemMapSpec)

/-- ITS FALSE NEIGHBOUR: 'it returns false'. Refute it at one input. -/
def fnElemMapWrong : ChangeSpec := { name := "fnElemMap", fn := fun _ => fun
  | [d1, d2, d3] => { results := [.lit (.bool false)], args := [d1, d2, d3] }
  | _ => none }
def FnElemMapWrongFalsely : Prop := fnElemMapRow.holds Tryz.pinned (OpenSpec.ofChange fnElemMapWrong)

/-- 'laws.FnSetInOrder': WHATEVER THE INPUT: true; the input reads as it did. -/
def fnSetInOrderSpec : ChangeSpec := { name := "fnSetInOrder", fn := fun _ => fun
  | [d] => { results := [.lit (.bool true)], args := [d] }
  | _ => none }
def fnSetInOrderRow : OpenClaim := { program := "ytajeghkjppkhcaagreat", sum := "c58113a1c5bb792f7fc2b9a5ed0b2406de13b7f080a130b2535970f59ed37339", func := "pub-coparcener/laws.FnSetInOrder", spec := "fnSetInOrder", inPlace := ["internal/bytealg.abigen_runtime_cmpstring", "slices.overlaps[pub-coparcener/pub/structuredmerge/fieldpath.PathElement]", "slices.overlaps[pub-coparcener/pub/structuredmerge/fieldpath.setNode]"], unfollowed := true, recurses := true, loops := true, apart := false }
def FnSetInOrderSaid : Prop := fnSetInOrderRow.holds Tryz.pinned (OpenSpec.ofChange fnSetInOrderSpec)

/-- ITS FALSE NEIGHBOUR: 'it returns false'. Refute it at one input. -/
def fnSetInOrderWrong : ChangeSpec := { name := "fnSetInOrder", fn := fun _ => fun
  | [d] => { results := [.lit (.bool false)], args := [d] }
  | _ => none }
def FnSetInOrderWrongFalsely : Prop := fnSetInOrderRow.holds Tryz.pinned (OpenSpec.ofChange fnSetInOrderWrong)

/-- 'laws.FnSetDescend': WHATEVER THE INPUT: true; the input reads as it did. -/
def fnSetDescendSpec : ChangeSpec := { name := "fnSetDescend", fn := fun _ => fun
  | [d1, d2, d3] => { results := [.lit (.bool true)], args := [d1, d2, d3] }
  | _ => none }
def fnSetDescendRow : OpenClaim := { program := "ytajeghkjppkhcaagreat", sum := "c58113a1c5bb792f7fc2b9a5ed0b2406de13b7f080a130b2535970f59ed37339", func := "pub-coparcener/laws.FnSetDescend", spec := "fnSetDescend", inPlace := ["internal/bytealg.abigen_runtime_cmpstring", "slices.overlaps[pub-coparcener/pub/structuredmerge/fieldpath.PathElement]", "slices.overlaps[pub-coparcener/pub/structuredmerge/fieldpath.setNode]"], unfollowed := true, recurses := true, loops := true, apart := false }
def FnSetDescendSaid : Prop := fnSetDescendRow.holds Tryz.pinned (OpenSpec.ofChange fnSetDescendSpec)

/-- ITS FALSE NEIGHBOUR: 'it returns false'. Refute it at one input. -/
def fnSetDescendWrong : ChangeSpec := { name := "fnSetDescend", fn := fun _ => fun
  | [d1, d2, d3] => { results := [.lit (.bool false)], args := [d1, d2, d3] }
  | _ => none }
def FnSetDescendWrongFalsely : Prop := fnSetDescendRow.holds Tryz.pinned (OpenSpec.ofChange fnSetDescendWrong)

/-- 'laws.FnConflictSet': WHATEVER THE INPUT: true; the input reads as it did. -/
def fnConflictSetSpec : ChangeSpec := { name := "fnConflictSet", fn := fun _ => fun
  | [d] => { results := [.lit (.bool true)], args := [d] }
  | _ => none }
def fnConflictSetRow : OpenClaim := { program := "ytajeghkjppkhcaagreat", sum := "c58113a1c5bb792f7fc2b9a5ed0b2406de13b7f080a130b2535970f59ed37339", func := "pub-coparcener/laws.FnConflictSet", spec := "fnConflictSet", inPlace := ["internal/bytealg.abigen_runtime_cmpstring", "slices.overlaps[pub-coparcener/pub/structuredmerge/fieldpath.PathElement]", "slices.overlaps[pub-coparcener/pub/structuredmerge/fieldpath.setNode]"], unfollowed := true, recurses := true, loops := true, apart := false }
def FnConflictSetSaid : Prop := fnConflictSetRow.holds Tryz.pinned (OpenSpec.ofChange fnConflictSetSpec)

/-- ITS FALSE NEIGHBOUR: 'it returns false'. Refute it at one input. -/
def fnConflictSetWrong : ChangeSpec := { name := "fnConflictSet", fn := fun _ => fun
  | [d] => { results := [.lit (.bool false)], args := [d] }
  | _ => none }
def FnConflictSetWrongFalsely : Prop := fnConflictSetRow.holds Tryz.pinned (OpenSpec.ofChange fnConflictSetWrong)

/-- 'laws.FnSetWithPrefix': WHATEVER THE INPUT: true; the input reads as it did. -/
def fnSetWithPrefixSpec : ChangeSpec := { name := "fnSetWithPrefix", fn := fun _ => fun
  | [d1, d2] => { results := [.lit (.bool true)], args := [d1, d2] }
  | _ => none }
def fnSetWithPrefixRow : OpenClaim := { program := "ytajeghkjppkhcaagreat", sum := "c58113a1c5bb792f7fc2b9a5ed0b2406de13b7f080a130b2535970f59ed37339", func := "pub-coparcener/laws.FnSetWithPrefix", spec := "fnSetWithPrefix", inPlace := ["internal/bytealg.abigen_runtime_cmpstring", "slices.overlaps[pub-coparcener/pub/structuredmerge/fieldpath.PathElement]", "slices.overlaps[pub-coparcener/pub/structuredmerge/fieldpath.setNode]"], unfollowed := true, recurses := true, loops := true, apart := false }
def FnSetWithPrefixSaid : Prop := fnSetWithPrefixRow.holds Tryz.pinned (OpenSpec.ofChange fnSetWithPrefixSpec)

/-- ITS FALSE NEIGHBOUR: 'it returns false'. Refute it at one input. -/
def fnSetWithPrefixWrong : ChangeSpec := { name := "fnSetWithPrefix", fn := fun _ => fun
  | [d1, d2] => { results := [.lit (.bool false)], args := [d1, d2] }
  | _ => none }
def FnSetWithPrefixWrongFalsely : Prop := fnSetWithPrefixRow.holds Tryz.pinned (OpenSpec.ofChange fnSetWithPrefixWrong)

/-- 'laws.FnWithPrefixHas': WHATEVER THE INPUT: true; the input reads as it did. -/
def fnWithPrefixHasSpec : ChangeSpec := { name := "fnWithPrefixHas", fn := fun _ => fun
  | [d1, d2, d3] => { results := [.lit (.bool true)], args := [d1, d2, d3] }
  | _ => none }
def fnWithPrefixHasRow : OpenClaim := { program := "ytajeghkjppkhcaagreat", sum := "c58113a1c5bb792f7fc2b9a5ed0b2406de13b7f080a130b2535970f59ed37339", func := "pub-coparcener/laws.FnWithPrefixHas", spec := "fnWithPrefixHas", inPlace := ["internal/bytealg.abigen_runtime_cmpstring", "slices.overlaps[pub-coparcener/pub/structuredmerge/fieldpath.PathElement]", "slices.overlaps[pub-coparcener/pub/structuredmerge/fieldpath.setNode]"], unfollowed := true, recurses := true, loops := true, apart := false }
def FnWithPrefixHasSaid : Prop := fnWithPrefixHasRow.holds Tryz.pinned (OpenSpec.ofChange fnWithPrefixHasSpec)

/-- ITS FALSE NEIGHBOUR: 'it returns false'. Refute it at one input. -/
def fnWithPrefixHasWrong : ChangeSpec := { name := "fnWithPrefixHas", fn := fun _ => fun
  | [d1, d2, d3] => { results := [.lit (.bool false)], args := [d1, d2, d3] }
  | _ => none }
def FnWithPrefixHasWrongFalsely : Prop := fnWithPrefixHasRow.holds Tryz.pinned (OpenSpec.ofChange fnWithPrefixHasWrong)

/-- 'laws.FnSetUnion': WHATEVER THE INPUT: true; the input reads as it did. -/
def fnSetUnionSpec : ChangeSpec := { name := "fnSetUnion", fn := fun _ => fun
  | [d1, d2] => { results := [.lit (.bool true)], args := [d1, d2] }
  | _ => none }
def fnSetUnionRow : OpenClaim := { program := "ytajeghkjppkhcaagreat", sum := "c58113a1c5bb792f7fc2b9a5ed0b2406de13b7f080a130b2535970f59ed37339", func := "pub-coparcener/laws.FnSetUnion", spec := "fnSetUnion", inPlace := ["internal/bytealg.abigen_runtime_cmpstring", "slices.overlaps[pub-coparcener/pub/structuredmerge/fieldpath.PathElement]", "slices.overlaps[pub-coparcener/pub/structuredmerge/fieldpath.setNode]"], unfollowed := true, recurses := true, loops := true, apart := false }
def FnSetUnionSaid : Prop := fnSetUnionRow.holds Tryz.pinned (OpenSpec.ofChange fnSetUnionSpec)

/-- ITS FALSE NEIGHBOUR: 'it returns false'. Refute it at one input. -/
def fnSetUnionWrong : ChangeSpec := { name := "fnSetUnion", fn := fun _ => fun
  | [d1, d2] => { results := [.lit (.bool false)], args := [d1, d2] }
  | _ => none }
def FnSetUnionWrongFalsely : Prop := fnSetUnionRow.holds Tryz.pinned (OpenSpec.ofChange fnSetUnionWrong)

/-- 'laws.FnManagersEqualInAnyOrder': WHATEVER THE INPUT: true; the input reads as it did. -/
def fnManagersEqualInAnyOrderSpec : ChangeSpec := { name := "fnManagersEqualInAnyOrder", fn := fun _ => fun
  | [d1, d2] => { results := [.lit (.bool true)], args := [d1, d2] }
  | _ => none }
def fnManagersEqualInAnyOrderRow : OpenClaim := { program := "ytajeghkjppkhcaagreat", sum := "c58113a1c5bb792f7fc2b9a5ed0b2406de13b7f080a130b2535970f59ed37339", func := "pub-coparcener/laws.FnManagersEqualInAnyOrder", spec := "fnManagersEqualInAnyOrder", inPlace := ["internal/bytealg.abigen_runtime_cmpstring", "slices.overlaps[pub-coparcener/pub/structuredmerge/fieldpath.PathElement]", "slices.overlaps[pub-coparcener/pub/structuredmerge/fieldpath.setNode]"], unfollowed := true, recurses := true, loops := true, apart := false }
def FnManagersEqualInAnyOrderSaid : Prop := fnManagersEqualInAnyOrderRow.holds Tryz.pinned (OpenSpec.ofChange fnManagersEqualInAnyOrderSpec)

/-- ITS FALSE NEIGHBOUR: 'it returns false'. Refute it at one input. -/
def fnManagersEqualInAnyOrderWrong : ChangeSpec := { name := "fnManagersEqualInAnyOrder", fn := fun _ => fun
  | [d1, d2] => { results := [.lit (.bool false)], args := [d1, d2] }
  | _ => none }
def FnManagersEqualInAnyOrderWrongFalsely : Prop := fnManagersEqualInAnyOrderRow.holds Tryz.pinned (OpenSpec.ofChange fnManagersEqualInAnyOrderWrong)

/-- 'laws.FnSetNamed': WHATEVER THE INPUT: true; the input reads as it did. -/
def fnSetNamedSpec : ChangeSpec := { name := "fnSetNamed", fn := fun _ => fun
  | [d1, d2, d3] => { results := [.lit (.bool true)], args := [d1, d2, d3] }
  | _ => none }
def fnSetNamedRow : OpenClaim := { program := "ytajeghkjppkhcaagreat", sum := "c58113a1c5bb792f7fc2b9a5ed0b2406de13b7f080a130b2535970f59ed37339", func := "pub-coparcener/laws.FnSetNamed", spec := "fnSetNamed", inPlace := ["internal/bytealg.abigen_runtime_cmpstring", "slices.overlaps[pub-coparcener/pub/structuredmerge/fieldpath.PathElement]", "slices.overlaps[pub-coparcener/pub/structuredmerge/fieldpath.setNode]"], unfollowed := true, recurses := true, loops := true, apart := false }
def FnSetNamedSaid : Prop := fnSetNamedRow.holds Tryz.pinned (OpenSpec.ofChange fnSetNamedSpec)

/-- ITS FALSE NEIGHBOUR: 'it returns false'. Refute it at one input. -/
def fnSetNamedWrong : ChangeSpec := { name := "fnSetNamed", fn := fun _ => fun
  | [d1, d2, d3] => { results := [.lit (.bool false)], args := [d1, d2, d3] }
  | _ => none }
def FnSetNamedWrongFalsely : Prop := fnSetNamedRow.holds Tryz.pinned (OpenSpec.ofChange fnSetNamedWrong)

/-- 'laws.FnSetAlgebra': WHATEVER THE INPUT: true; the input reads as it did. -/
def fnSetAlgebraSpec : ChangeSpec := { name := "fnSetAlgebra", fn := fun _ => fun
  | [d1, d2, d3] => { results := [.lit (.bool true)], args := [d1, d2, d3] }
  | _ => none }
def fnSetAlgebraRow : OpenClaim := { program := "ytajeghkjppkhcaagreat", sum := "c58113a1c5bb792f7fc2b9a5ed0b2406de13b7f080a130b2535970f59ed37339", func := "pub-coparcener/laws.FnSetAlgebra", spec := "fnSetAlgebra", inPlace := ["internal/bytealg.abigen_runtime_cmpstring", "slices.overlaps[pub-coparcener/pub/structuredmerge/fieldpath.PathElement]", "slices.overlaps[pub-coparcener/pub/structuredmerge/fieldpath.setNode]"], unfollowed := true, recurses := true, loops := true, apart := false }
def FnSetAlgebraSaid : Prop := fnSetAlgebraRow.holds Tryz.pinned (OpenSpec.ofChange fnSetAlgebraSpec)

/-- ITS FALSE NEIGHBOUR: 'it returns false'. Refute it at one input. -/
def fnSetAlgebraWrong : ChangeSpec := { name := "fnSetAlgebra", fn := fun _ => fun
  | [d1, d2, d3] => { results := [.lit (.bool false)], args := [d1, d2, d3] }
  | _ => none }
def FnSetAlgebraWrongFalsely : Prop := fnSetAlgebraRow.holds Tryz.pinned (OpenSpec.ofChange fnSetAlgebraWrong)

/- THE SECOND FORM. 'bulk': how many values and letters a reading holds, each counted each time it is reached (what is shared counts as often as it is met; a slice's spare places count too). A statement '..UptoSaid' is the law's where the arguments, and the package variables that the reading takes, are together of bulk at most 1048576: NARROWER than '..Said'. Prove '..Said' where nothing that the law and all that it calls make is longer than what came in: it says more and counts as full. Else prove '..UptoSaid'. A law counts once. -/
mutual
def uptoBulk {H : Type} : DataW H → Nat
  | .lit (.string bytes) => bytes.length + 1
  | .lit _ => 1
  | .nil => 1
  | .ptr d => uptoBulk d + 1
  | .slice elems spare => uptoBulkAll elems + uptoBulkAll spare + 1
  | .agg parts => uptoBulkAll parts + 1
  | .iface _ d => uptoBulk d + 1
  | .map entries => uptoBulkEntries entries + 1
  | .held _ => 1
def uptoBulkAll {H : Type} : List (DataW H) → Nat
  | [] => 0
  | d :: r => uptoBulk d + uptoBulkAll r
def uptoBulkEntries {H : Type} : List (Lit × DataW H) → Nat
  | [] => 0
  | x :: r => uptoBulkEntry x + uptoBulkEntries r
def uptoBulkEntry {H : Type} : Lit × DataW H → Nat
  | (.string bytes, d) => bytes.length + uptoBulk d + 1
  | (_, d) => uptoBulk d + 1
 end
def uptoSmall : (H : Type) → List (DataW H) → Bool := fun _ ds => decide (uptoBulkAll ds ≤ 1048576)
def OpenSpec.upto (s : _root_.Go.ChangeSpec) : _root_.Go.OpenSpec := { _root_.Go.OpenSpec.ofChange s with cond := some uptoSmall }

/-- 'laws.FnElemSet', WHERE WHAT IT READS IS OF BULK AT MOST 1048576: true; the input reads as it did. -/
def fnElemSetUptoRow : OpenClaim := { program := "ytajeghkjppkhcaagreat", sum := "c58113a1c5bb792f7fc2b9a5ed0b2406de13b7f080a130b2535970f59ed37339", func := "pub-coparcener/laws.FnElemSet", spec := "fnElemSet", inPlace := ["internal/bytealg.abigen_runtime_cmpstring", "slices.overlaps[pub-coparcener/pub/structuredmerge/fieldpath.PathElement]"], unfollowed := true, recurses := true, loops := true, apart := false, narrowed := true }
def FnElemSetUptoSaid : Prop := fnElemSetUptoRow.holds Tryz.pinned (OpenSpec.upto fnElemSetSpec)

/-- 'laws.FnElemMap', WHERE WHAT IT READS IS OF BULK AT MOST 1048576: true; the input reads as it did. -/
def fnElemMapUptoRow : OpenClaim := { program := "ytajeghkjppkhcaagreat", sum := "c58113a1c5bb792f7fc2b9a5ed0b2406de13b7f080a130b2535970f59ed37339", func := "pub-coparcener/laws.FnElemMap", spec := "fnElemMap", inPlace := ["internal/bytealg.abigen_runtime_cmpstring", "slices.overlaps[pub-coparcener/pub/structuredmerge/fieldpath.pathElementValue]", "math.Float64bits"], unfollowed := true, recurses := true, loops := true, apart := false, narrowed := true }
def FnElemMapUptoSaid : Prop := fnElemMapUptoRow.holds Tryz.pinned (OpenSpec.upto fnElemMapSpec)

/-- 'laws.FnSetInOrder', WHERE WHAT IT READS IS OF BULK AT MOST 1048576: true; the input reads as it did. -/
def fnSetInOrderUptoRow : OpenClaim := { program := "ytajeghkjppkhcaagreat", sum := "c58113a1c5bb792f7fc2b9a5ed0b2406de13b7f080a130b2535970f59ed37339", func := "pub-coparcener/laws.FnSetInOrder", spec := "fnSetInOrder", inPlace := ["internal/bytealg.abigen_runtime_cmpstring", "slices.overlaps[pub-coparcener/pub/structuredmerge/fieldpath.PathElement]", "slices.overlaps[pub-coparcener/pub/structuredmerge/fieldpath.setNode]"], unfollowed := true, recurses := true, loops := true, apart := false, narrowed := true }
def FnSetInOrderUptoSaid : Prop := fnSetInOrderUptoRow.holds Tryz.pinned (OpenSpec.upto fnSetInOrderSpec)

/-- 'laws.FnSetDescend', WHERE WHAT IT READS IS OF BULK AT MOST 1048576: true; the input reads as it did. -/
def fnSetDescendUptoRow : OpenClaim := { program := "ytajeghkjppkhcaagreat", sum := "c58113a1c5bb792f7fc2b9a5ed0b2406de13b7f080a130b2535970f59ed37339", func := "pub-coparcener/laws.FnSetDescend", spec := "fnSetDescend", inPlace := ["internal/bytealg.abigen_runtime_cmpstring", "slices.overlaps[pub-coparcener/pub/structuredmerge/fieldpath.PathElement]", "slices.overlaps[pub-coparcener/pub/structuredmerge/fieldpath.setNode]"], unfollowed := true, recurses := true, loops := true, apart := false, narrowed := true }
def FnSetDescendUptoSaid : Prop := fnSetDescendUptoRow.holds Tryz.pinned (OpenSpec.upto fnSetDescendSpec)

/-- 'laws.FnConflictSet', WHERE WHAT IT READS IS OF BULK AT MOST 1048576: true; the input reads as it did. -/
def fnConflictSetUptoRow : OpenClaim := { program := "ytajeghkjppkhcaagreat", sum := "c58113a1c5bb792f7fc2b9a5ed0b2406de13b7f080a130b2535970f59ed37339", func := "pub-coparcener/laws.FnConflictSet", spec := "fnConflictSet", inPlace := ["internal/bytealg.abigen_runtime_cmpstring", "slices.overlaps[pub-coparcener/pub/structuredmerge/fieldpath.PathElement]", "slices.overlaps[pub-coparcener/pub/structuredmerge/fieldpath.setNode]"], unfollowed := true, recurses := true, loops := true, apart := false, narrowed := true }
def FnConflictSetUptoSaid : Prop := fnConflictSetUptoRow.holds Tryz.pinned (OpenSpec.upto fnConflictSetSpec)

/-- 'laws.FnSetWithPrefix', WHERE WHAT IT READS IS OF BULK AT MOST 1048576: true; the input reads as it did. -/
def fnSetWithPrefixUptoRow : OpenClaim := { program := "ytajeghkjppkhcaagreat", sum := "c58113a1c5bb792f7fc2b9a5ed0b2406de13b7f080a130b2535970f59ed37339", func := "pub-coparcener/laws.FnSetWithPrefix", spec := "fnSetWithPrefix", inPlace := ["internal/bytealg.abigen_runtime_cmpstring", "slices.overlaps[pub-coparcener/pub/structuredmerge/fieldpath.PathElement]", "slices.overlaps[pub-coparcener/pub/structuredmerge/fieldpath.setNode]"], unfollowed := true, recurses := true, loops := true, apart := false, narrowed := true }
def FnSetWithPrefixUptoSaid : Prop := fnSetWithPrefixUptoRow.holds Tryz.pinned (OpenSpec.upto fnSetWithPrefixSpec)

/-- 'laws.FnWithPrefixHas', WHERE WHAT IT READS IS OF BULK AT MOST 1048576: true; the input reads as it did. -/
def fnWithPrefixHasUptoRow : OpenClaim := { program := "ytajeghkjppkhcaagreat", sum := "c58113a1c5bb792f7fc2b9a5ed0b2406de13b7f080a130b2535970f59ed37339", func := "pub-coparcener/laws.FnWithPrefixHas", spec := "fnWithPrefixHas", inPlace := ["internal/bytealg.abigen_runtime_cmpstring", "slices.overlaps[pub-coparcener/pub/structuredmerge/fieldpath.PathElement]", "slices.overlaps[pub-coparcener/pub/structuredmerge/fieldpath.setNode]"], unfollowed := true, recurses := true, loops := true, apart := false, narrowed := true }
def FnWithPrefixHasUptoSaid : Prop := fnWithPrefixHasUptoRow.holds Tryz.pinned (OpenSpec.upto fnWithPrefixHasSpec)

/-- 'laws.FnSetUnion', WHERE WHAT IT READS IS OF BULK AT MOST 1048576: true; the input reads as it did. -/
def fnSetUnionUptoRow : OpenClaim := { program := "ytajeghkjppkhcaagreat", sum := "c58113a1c5bb792f7fc2b9a5ed0b2406de13b7f080a130b2535970f59ed37339", func := "pub-coparcener/laws.FnSetUnion", spec := "fnSetUnion", inPlace := ["internal/bytealg.abigen_runtime_cmpstring", "slices.overlaps[pub-coparcener/pub/structuredmerge/fieldpath.PathElement]", "slices.overlaps[pub-coparcener/pub/structuredmerge/fieldpath.setNode]"], unfollowed := true, recurses := true, loops := true, apart := false, narrowed := true }
def FnSetUnionUptoSaid : Prop := fnSetUnionUptoRow.holds Tryz.pinned (OpenSpec.upto fnSetUnionSpec)

/-- 'laws.FnManagersEqualInAnyOrder', WHERE WHAT IT READS IS OF BULK AT MOST 1048576: true; the input reads as it did. -/
def fnManagersEqualInAnyOrderUptoRow : OpenClaim := { program := "ytajeghkjppkhcaagreat", sum := "c58113a1c5bb792f7fc2b9a5ed0b2406de13b7f080a130b2535970f59ed37339", func := "pub-coparcener/laws.FnManagersEqualInAnyOrder", spec := "fnManagersEqualInAnyOrder", inPlace := ["internal/bytealg.abigen_runtime_cmpstring", "slices.overlaps[pub-coparcener/pub/structuredmerge/fieldpath.PathElement]", "slices.overlaps[pub-coparcener/pub/structuredmerge/fieldpath.setNode]"], unfollowed := true, recurses := true, loops := true, apart := false, narrowed := true }
def FnManagersEqualInAnyOrderUptoSaid : Prop := fnManagersEqualInAnyOrderUptoRow.holds Tryz.pinned (OpenSpec.upto fnManagersEqualInAnyOrderSpec)

/-- 'laws.FnSetNamed', WHERE WHAT IT READS IS OF BULK AT MOST 1048576: true; the input reads as it did. -/
def fnSetNamedUptoRow : OpenClaim := { program := "ytajeghkjppkhcaagreat", sum := "c58113a1c5bb792f7fc2b9a5ed0b2406de13b7f080a130b2535970f59ed37339", func := "pub-coparcener/laws.FnSetNamed", spec := "fnSetNamed", inPlace := ["internal/bytealg.abigen_runtime_cmpstring", "slices.overlaps[pub-coparcener/pub/structuredmerge/fieldpath.PathElement]", "slices.overlaps[pub-coparcener/pub/structuredmerge/fieldpath.setNode]"], unfollowed := true, recurses := true, loops := true, apart := false, narrowed := true }
def FnSetNamedUptoSaid : Prop := fnSetNamedUptoRow.holds Tryz.pinned (OpenSpec.upto fnSetNamedSpec)

/-- 'laws.FnSetAlgebra', WHERE WHAT IT READS IS OF BULK AT MOST 1048576: true; the input reads as it did. -/
def fnSetAlgebraUptoRow : OpenClaim := { program := "ytajeghkjppkhcaagreat", sum := "c58113a1c5bb792f7fc2b9a5ed0b2406de13b7f080a130b2535970f59ed37339", func := "pub-coparcener/laws.FnSetAlgebra", spec := "fnSetAlgebra", inPlace := ["internal/bytealg.abigen_runtime_cmpstring", "slices.overlaps[pub-coparcener/pub/structuredmerge/fieldpath.PathElement]", "slices.overlaps[pub-coparcener/pub/structuredmerge/fieldpath.setNode]"], unfollowed := true, recurses := true, loops := true, apart := false, narrowed := true }
def FnSetAlgebraUptoSaid : Prop := fnSetAlgebraUptoRow.holds Tryz.pinned (OpenSpec.upto fnSetAlgebraSpec)

end Rows
end Go.Proofs.YtajeghkjppkhcaaGreat
