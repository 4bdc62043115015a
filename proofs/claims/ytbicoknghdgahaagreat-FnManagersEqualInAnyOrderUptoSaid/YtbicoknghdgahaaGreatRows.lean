/-
  NARROWER THAN 'FOR EVERY INPUT', by the rows' own cells (each row's printed sentence says how): FnElemMap: loops · FnSetDescend: loops · FnConflictSet: loops · FnSetUnion: loops · FnManagersEqualInAnyOrder: loops · FnSetNamed: loops · FnItemElemTells: loops · FnSetAlgebra: loops · FnSetMatchedBy: loops · FnFilterWild: loops · FnFilterFields: loops.
  DERIVED. THE GIVEN ROWS OF THIS SEAT. 11 by the template 'for every input the law returns true; each argument reads behind the call as it read before'; 0 by the template 'total and deterministic' (their statements: YtbicoknghdgahaaGreatTotals.lean).
  GIVEN WITH THE SEED: the statements are not yours to turn. If you find one false, say at which input.
  Laid BY PROGRAM, IN A SANDBOX (cutbox-rows.mjs): the forced cells as the released guide's own fill.sh prints them over the translation 5da48495caa59cb9… (all of the seat's roots in one cut). By AI agents, Wed Nov 11 2026. No macro, syntax, notation, axiom, sorry.
-/
import Derived.Test.YtbicoknghdgahaaGreatChecked
import GoSem.Claim
import GoSem.ClaimJoined
import GoSem.ClaimMapViews
import Derived.JoinedTies
import Derived.KernelRfl
namespace Go.Proofs.YtbicoknghdgahaaGreat
/- THE CELL 'sum', in the pinned program and in every row, IS THE sha256 OF THE DUMP (.gsa) THAT YtbicoknghdgahaaGreatProg.lean LOADS. Nothing in Lean hashes anything: it is a label: what it is worth is what the hold of that sum in a sandbox is worth. -/
noncomputable def Tryz.pinned : Pinned := { name := "ytbicoknghdgahaagreat", sum := "5da48495caa59cb90160b756d1089acadbbd786b7d8125e9f335b132772a5c3d", checked := Tryz.checked }
namespace Rows
def none {H : Type} : Left H := { results := [], args := [] }

/-- 'laws.FnElemMap': WHATEVER THE INPUT: true; the input reads as it did. -/
def fnElemMapSpec : ChangeSpec := { name := "fnElemMap", fn := fun _ => fun
  | [d1, d2, d3] => { results := [.lit (.bool true)], args := [d1, d2, d3] }
  | _ => none }
def fnElemMapRow : OpenClaim := { program := "ytbicoknghdgahaagreat", sum := "5da48495caa59cb90160b756d1089acadbbd786b7d8125e9f335b132772a5c3d", func := "pub-coparcener/laws.FnElemMap", spec := "fnElemMap", inPlace := ["internal/bytealg.abigen_runtime_cmpstring", "slices.overlaps[pub-coparcener/pub/structuredmerge/fieldpath.pathElementValue]", "math.Float64bits"], unfollowed := true, recurses := true, loops := true, apart := false }
def FnElemMapSaid : Prop := fnElemMapRow.holds Tryz.pinned (OpenSpec.ofChange fnElemMapSpec)

/-- ITS FALSE NEIGHBOUR: 'it returns false'. Refute it at one input. -/
def fnElemMapWrong : ChangeSpec := { name := "fnElemMap", fn := fun _ => fun
  | [d1, d2, d3] => { results := [.lit (.bool false)], args := [d1, d2, d3] }
  | _ => none }
def FnElemMapWrongFalsely : Prop := fnElemMapRow.holds Tryz.pinned (OpenSpec.ofChange fnElemMapWrong)

/-- 'laws.FnSetDescend': WHATEVER THE INPUT: true; the input reads as it did. -/
def fnSetDescendSpec : ChangeSpec := { name := "fnSetDescend", fn := fun _ => fun
  | [d1, d2, d3] => { results := [.lit (.bool true)], args := [d1, d2, d3] }
  | _ => none }
def fnSetDescendRow : OpenClaim := { program := "ytbicoknghdgahaagreat", sum := "5da48495caa59cb90160b756d1089acadbbd786b7d8125e9f335b132772a5c3d", func := "pub-coparcener/laws.FnSetDescend", spec := "fnSetDescend", inPlace := ["internal/bytealg.abigen_runtime_cmpstring", "slices.overlaps[pub-coparcener/pub/structuredmerge/fieldpath.PathElement]", "slices.overlaps[pub-coparcener/pub/structuredmerge/fieldpath.setNode]"], unfollowed := true, recurses := true, loops := true, apart := false }
def FnSetDescendSaid : Prop := fnSetDescendRow.holds Tryz.pinned (OpenSpec.ofChange fnSetDescendSpec)

/-- ITS FALSE NEIGHBOUR: 'it returns false'. Refute it at one input. -/
def fnSetDescendWrong : ChangeSpec := { name := "fnSetDescend", fn := fun _ => fun
  | [d1, d2, d3] => { results := [.lit (.bool false)], args := [d1, d2, d3] }
  | _ => none }
def FnSetDescendWrongFalsely : Prop := fnSetDescendRow.holds Tryz.pinned (OpenSpec.ofChange fnSetDescendWrong)

/-- 'laws.FnConflictSet': WHATEVER THE INPUT: true; the input reads as it did. -/
def fnConflictSetSpec : ChangeSpec := { name := "fnConflictSet", fn := fun _ => fun
  | [d] => { results := [.lit (.bool true)], args := [d] }
  | _ => none }
def fnConflictSetRow : OpenClaim := { program := "ytbicoknghdgahaagreat", sum := "5da48495caa59cb90160b756d1089acadbbd786b7d8125e9f335b132772a5c3d", func := "pub-coparcener/laws.FnConflictSet", spec := "fnConflictSet", inPlace := ["internal/bytealg.abigen_runtime_cmpstring", "slices.overlaps[pub-coparcener/pub/structuredmerge/fieldpath.PathElement]", "slices.overlaps[pub-coparcener/pub/structuredmerge/fieldpath.setNode]"], unfollowed := true, recurses := true, loops := true, apart := false }
def FnConflictSetSaid : Prop := fnConflictSetRow.holds Tryz.pinned (OpenSpec.ofChange fnConflictSetSpec)

/-- ITS FALSE NEIGHBOUR: 'it returns false'. Refute it at one input. -/
def fnConflictSetWrong : ChangeSpec := { name := "fnConflictSet", fn := fun _ => fun
  | [d] => { results := [.lit (.bool false)], args := [d] }
  | _ => none }
def FnConflictSetWrongFalsely : Prop := fnConflictSetRow.holds Tryz.pinned (OpenSpec.ofChange fnConflictSetWrong)

/-- 'laws.FnSetUnion': WHATEVER THE INPUT: true; the input reads as it did. -/
def fnSetUnionSpec : ChangeSpec := { name := "fnSetUnion", fn := fun _ => fun
  | [d1, d2] => { results := [.lit (.bool true)], args := [d1, d2] }
  | _ => none }
def fnSetUnionRow : OpenClaim := { program := "ytbicoknghdgahaagreat", sum := "5da48495caa59cb90160b756d1089acadbbd786b7d8125e9f335b132772a5c3d", func := "pub-coparcener/laws.FnSetUnion", spec := "fnSetUnion", inPlace := ["internal/bytealg.abigen_runtime_cmpstring", "slices.overlaps[pub-coparcener/pub/structuredmerge/fieldpath.PathElement]", "slices.overlaps[pub-coparcener/pub/structuredmerge/fieldpath.setNode]"], unfollowed := true, recurses := true, loops := true, apart := false }
def FnSetUnionSaid : Prop := fnSetUnionRow.holds Tryz.pinned (OpenSpec.ofChange fnSetUnionSpec)

/-- ITS FALSE NEIGHBOUR: 'it returns false'. Refute it at one input. -/
def fnSetUnionWrong : ChangeSpec := { name := "fnSetUnion", fn := fun _ => fun
  | [d1, d2] => { results := [.lit (.bool false)], args := [d1, d2] }
  | _ => none }
def FnSetUnionWrongFalsely : Prop := fnSetUnionRow.holds Tryz.pinned (OpenSpec.ofChange fnSetUnionWrong)

/-- 'laws.FnManagersEqualInAnyOrder': WHATEVER THE INPUT: true; the input reads as it did. -/
def fnManagersEqualInAnyOrderSpec : ChangeSpec := { name := "fnManagersEqualInAnyOrder", fn := fun _ => fun
  | [d1, d2] => { results := [.lit (.bool true)], args := [d1, d2] }
  | _ => none }
def fnManagersEqualInAnyOrderRow : OpenClaim := { program := "ytbicoknghdgahaagreat", sum := "5da48495caa59cb90160b756d1089acadbbd786b7d8125e9f335b132772a5c3d", func := "pub-coparcener/laws.FnManagersEqualInAnyOrder", spec := "fnManagersEqualInAnyOrder", inPlace := ["internal/bytealg.abigen_runtime_cmpstring", "slices.overlaps[pub-coparcener/pub/structuredmerge/fieldpath.PathElement]", "slices.overlaps[pub-coparcener/pub/structuredmerge/fieldpath.setNode]"], unfollowed := true, recurses := true, loops := true, apart := false }
def FnManagersEqualInAnyOrderSaid : Prop := fnManagersEqualInAnyOrderRow.holds Tryz.pinned (OpenSpec.ofChange fnManagersEqualInAnyOrderSpec)

/-- ITS FALSE NEIGHBOUR: 'it returns false'. Refute it at one input. -/
def fnManagersEqualInAnyOrderWrong : ChangeSpec := { name := "fnManagersEqualInAnyOrder", fn := fun _ => fun
  | [d1, d2] => { results := [.lit (.bool false)], args := [d1, d2] }
  | _ => none }
def FnManagersEqualInAnyOrderWrongFalsely : Prop := fnManagersEqualInAnyOrderRow.holds Tryz.pinned (OpenSpec.ofChange fnManagersEqualInAnyOrderWrong)

/-- 'laws.FnSetNamed': WHATEVER THE INPUT: true; the input reads as it did. -/
def fnSetNamedSpec : ChangeSpec := { name := "fnSetNamed", fn := fun _ => fun
  | [d1, d2, d3] => { results := [.lit (.bool true)], args := [d1, d2, d3] }
  | _ => none }
def fnSetNamedRow : OpenClaim := { program := "ytbicoknghdgahaagreat", sum := "5da48495caa59cb90160b756d1089acadbbd786b7d8125e9f335b132772a5c3d", func := "pub-coparcener/laws.FnSetNamed", spec := "fnSetNamed", inPlace := ["internal/bytealg.abigen_runtime_cmpstring", "slices.overlaps[pub-coparcener/pub/structuredmerge/fieldpath.PathElement]", "slices.overlaps[pub-coparcener/pub/structuredmerge/fieldpath.setNode]"], unfollowed := true, recurses := true, loops := true, apart := false }
def FnSetNamedSaid : Prop := fnSetNamedRow.holds Tryz.pinned (OpenSpec.ofChange fnSetNamedSpec)

/-- ITS FALSE NEIGHBOUR: 'it returns false'. Refute it at one input. -/
def fnSetNamedWrong : ChangeSpec := { name := "fnSetNamed", fn := fun _ => fun
  | [d1, d2, d3] => { results := [.lit (.bool false)], args := [d1, d2, d3] }
  | _ => none }
def FnSetNamedWrongFalsely : Prop := fnSetNamedRow.holds Tryz.pinned (OpenSpec.ofChange fnSetNamedWrong)

/-- 'laws.FnItemElemTells': WHATEVER THE INPUT: true; the input reads as it did. -/
def fnItemElemTellsSpec : ChangeSpec := { name := "fnItemElemTells", fn := fun _ => fun
  | [d1, d2, d3, d4] => { results := [.lit (.bool true)], args := [d1, d2, d3, d4] }
  | _ => none }
def fnItemElemTellsRow : OpenClaim := { program := "ytbicoknghdgahaagreat", sum := "5da48495caa59cb90160b756d1089acadbbd786b7d8125e9f335b132772a5c3d", func := "pub-coparcener/laws.FnItemElemTells", spec := "fnItemElemTells", unfollowed := true, recurses := true, loops := true, apart := false }
def FnItemElemTellsSaid : Prop := fnItemElemTellsRow.holds Tryz.pinned (OpenSpec.ofChange fnItemElemTellsSpec)

/-- ITS FALSE NEIGHBOUR: 'it returns false'. Refute it at one input. -/
def fnItemElemTellsWrong : ChangeSpec := { name := "fnItemElemTells", fn := fun _ => fun
  | [d1, d2, d3, d4] => { results := [.lit (.bool false)], args := [d1, d2, d3, d4] }
  | _ => none }
def FnItemElemTellsWrongFalsely : Prop := fnItemElemTellsRow.holds Tryz.pinned (OpenSpec.ofChange fnItemElemTellsWrong)

/-- 'laws.FnSetAlgebra': WHATEVER THE INPUT: true; the input reads as it did. -/
def fnSetAlgebraSpec : ChangeSpec := { name := "fnSetAlgebra", fn := fun _ => fun
  | [d1, d2, d3] => { results := [.lit (.bool true)], args := [d1, d2, d3] }
  | _ => none }
def fnSetAlgebraRow : OpenClaim := { program := "ytbicoknghdgahaagreat", sum := "5da48495caa59cb90160b756d1089acadbbd786b7d8125e9f335b132772a5c3d", func := "pub-coparcener/laws.FnSetAlgebra", spec := "fnSetAlgebra", inPlace := ["internal/bytealg.abigen_runtime_cmpstring", "slices.overlaps[pub-coparcener/pub/structuredmerge/fieldpath.PathElement]", "slices.overlaps[pub-coparcener/pub/structuredmerge/fieldpath.setNode]"], unfollowed := true, recurses := true, loops := true, apart := false }
def FnSetAlgebraSaid : Prop := fnSetAlgebraRow.holds Tryz.pinned (OpenSpec.ofChange fnSetAlgebraSpec)

/-- ITS FALSE NEIGHBOUR: 'it returns false'. Refute it at one input. -/
def fnSetAlgebraWrong : ChangeSpec := { name := "fnSetAlgebra", fn := fun _ => fun
  | [d1, d2, d3] => { results := [.lit (.bool false)], args := [d1, d2, d3] }
  | _ => none }
def FnSetAlgebraWrongFalsely : Prop := fnSetAlgebraRow.holds Tryz.pinned (OpenSpec.ofChange fnSetAlgebraWrong)

/-- 'laws.FnSetMatchedBy': WHATEVER THE INPUT: true; the input reads as it did. -/
def fnSetMatchedBySpec : ChangeSpec := { name := "fnSetMatchedBy", fn := fun _ => fun
  | [d1, d2] => { results := [.lit (.bool true)], args := [d1, d2] }
  | _ => none }
def fnSetMatchedByRow : OpenClaim := { program := "ytbicoknghdgahaagreat", sum := "5da48495caa59cb90160b756d1089acadbbd786b7d8125e9f335b132772a5c3d", func := "pub-coparcener/laws.FnSetMatchedBy", spec := "fnSetMatchedBy", inPlace := ["internal/bytealg.abigen_runtime_cmpstring", "slices.overlaps[pub-coparcener/pub/structuredmerge/fieldpath.PathElement]", "slices.overlaps[pub-coparcener/pub/structuredmerge/fieldpath.setNode]"], unfollowed := true, recurses := true, loops := true, apart := false }
def FnSetMatchedBySaid : Prop := fnSetMatchedByRow.holds Tryz.pinned (OpenSpec.ofChange fnSetMatchedBySpec)

/-- ITS FALSE NEIGHBOUR: 'it returns false'. Refute it at one input. -/
def fnSetMatchedByWrong : ChangeSpec := { name := "fnSetMatchedBy", fn := fun _ => fun
  | [d1, d2] => { results := [.lit (.bool false)], args := [d1, d2] }
  | _ => none }
def FnSetMatchedByWrongFalsely : Prop := fnSetMatchedByRow.holds Tryz.pinned (OpenSpec.ofChange fnSetMatchedByWrong)

/-- 'laws.FnFilterWild': WHATEVER THE INPUT: true; the input reads as it did. -/
def fnFilterWildSpec : ChangeSpec := { name := "fnFilterWild", fn := fun _ => fun
  | [d1, d2] => { results := [.lit (.bool true)], args := [d1, d2] }
  | _ => none }
def fnFilterWildRow : OpenClaim := { program := "ytbicoknghdgahaagreat", sum := "5da48495caa59cb90160b756d1089acadbbd786b7d8125e9f335b132772a5c3d", func := "pub-coparcener/laws.FnFilterWild", spec := "fnFilterWild", inPlace := ["internal/bytealg.abigen_runtime_cmpstring", "slices.overlaps[pub-coparcener/pub/structuredmerge/fieldpath.PathElement]", "slices.overlaps[pub-coparcener/pub/structuredmerge/fieldpath.setNode]"], unfollowed := true, recurses := true, loops := true, apart := false }
def FnFilterWildSaid : Prop := fnFilterWildRow.holds Tryz.pinned (OpenSpec.ofChange fnFilterWildSpec)

/-- ITS FALSE NEIGHBOUR: 'it returns false'. Refute it at one input. -/
def fnFilterWildWrong : ChangeSpec := { name := "fnFilterWild", fn := fun _ => fun
  | [d1, d2] => { results := [.lit (.bool false)], args := [d1, d2] }
  | _ => none }
def FnFilterWildWrongFalsely : Prop := fnFilterWildRow.holds Tryz.pinned (OpenSpec.ofChange fnFilterWildWrong)

/-- 'laws.FnFilterFields': WHATEVER THE INPUT: true; the input reads as it did. -/
def fnFilterFieldsSpec : ChangeSpec := { name := "fnFilterFields", fn := fun _ => fun
  | [d1, d2] => { results := [.lit (.bool true)], args := [d1, d2] }
  | _ => none }
def fnFilterFieldsRow : OpenClaim := { program := "ytbicoknghdgahaagreat", sum := "5da48495caa59cb90160b756d1089acadbbd786b7d8125e9f335b132772a5c3d", func := "pub-coparcener/laws.FnFilterFields", spec := "fnFilterFields", inPlace := ["internal/bytealg.abigen_runtime_cmpstring", "slices.overlaps[pub-coparcener/pub/structuredmerge/fieldpath.PathElement]", "slices.overlaps[pub-coparcener/pub/structuredmerge/fieldpath.setNode]"], unfollowed := true, recurses := true, loops := true, apart := false }
def FnFilterFieldsSaid : Prop := fnFilterFieldsRow.holds Tryz.pinned (OpenSpec.ofChange fnFilterFieldsSpec)

/-- ITS FALSE NEIGHBOUR: 'it returns false'. Refute it at one input. -/
def fnFilterFieldsWrong : ChangeSpec := { name := "fnFilterFields", fn := fun _ => fun
  | [d1, d2] => { results := [.lit (.bool false)], args := [d1, d2] }
  | _ => none }
def FnFilterFieldsWrongFalsely : Prop := fnFilterFieldsRow.holds Tryz.pinned (OpenSpec.ofChange fnFilterFieldsWrong)

/- THE SECOND FORM. 'bulk': how many values and letters a reading holds, each counted each time it is reached (what is shared counts as often as it is met; a slice's spare places count too). A statement '..UptoSaid' is the law's where the arguments, and the package variables that the reading takes, are together of bulk at most 1048576: NARROWER than '..Said'. Prove '..Said' where nothing that the law and all that it calls make is longer than what came in: it says more and counts as full. Else prove '..UptoSaid'. A law counts once. -/
mutual
def uptoBulk {H : Type} : DataW H → Nat
  | .lit (.string bytes) => bytes.length + 1
  | .lit _ => 1
  | .nil => 1
  | .ptr d => uptoBulk d + 1
  | .slice elems spare => uptoBulkAll elems + uptoBulkAll spare + 1
  | .agg parts => uptoBulkAll parts + 1
  | .iface _ d => uptoBulk d + 1
  | .map entries => uptoBulkEntries entries + 1
  | .held _ => 1
def uptoBulkAll {H : Type} : List (DataW H) → Nat
  | [] => 0
  | d :: r => uptoBulk d + uptoBulkAll r
def uptoBulkEntries {H : Type} : List (Lit × DataW H) → Nat
  | [] => 0
  | x :: r => uptoBulkEntry x + uptoBulkEntries r
def uptoBulkEntry {H : Type} : Lit × DataW H → Nat
  | (.string bytes, d) => bytes.length + uptoBulk d + 1
  | (_, d) => uptoBulk d + 1
 end
def uptoSmall : (H : Type) → List (DataW H) → Bool := fun _ ds => decide (uptoBulkAll ds ≤ 1048576)
def OpenSpec.upto (s : _root_.Go.ChangeSpec) : _root_.Go.OpenSpec := { _root_.Go.OpenSpec.ofChange s with cond := some uptoSmall }

/-- 'laws.FnElemMap', WHERE WHAT IT READS IS OF BULK AT MOST 1048576: true; the input reads as it did. -/
def fnElemMapUptoRow : OpenClaim := { program := "ytbicoknghdgahaagreat", sum := "5da48495caa59cb90160b756d1089acadbbd786b7d8125e9f335b132772a5c3d", func := "pub-coparcener/laws.FnElemMap", spec := "fnElemMap", inPlace := ["internal/bytealg.abigen_runtime_cmpstring", "slices.overlaps[pub-coparcener/pub/structuredmerge/fieldpath.pathElementValue]", "math.Float64bits"], unfollowed := true, recurses := true, loops := true, apart := false, narrowed := true }
def FnElemMapUptoSaid : Prop := fnElemMapUptoRow.holds Tryz.pinned (OpenSpec.upto fnElemMapSpec)

/-- 'laws.FnSetDescend', WHERE WHAT IT READS IS OF BULK AT MOST 1048576: true; the input reads as it did. -/
def fnSetDescendUptoRow : OpenClaim := { program := "ytbicoknghdgahaagreat", sum := "5da48495caa59cb90160b756d1089acadbbd786b7d8125e9f335b132772a5c3d", func := "pub-coparcener/laws.FnSetDescend", spec := "fnSetDescend", inPlace := ["internal/bytealg.abigen_runtime_cmpstring", "slices.overlaps[pub-coparcener/pub/structuredmerge/fieldpath.PathElement]", "slices.overlaps[pub-coparcener/pub/structuredmerge/fieldpath.setNode]"], unfollowed := true, recurses := true, loops := true, apart := false, narrowed := true }
def FnSetDescendUptoSaid : Prop := fnSetDescendUptoRow.holds Tryz.pinned (OpenSpec.upto fnSetDescendSpec)

/-- 'laws.FnConflictSet', WHERE WHAT IT READS IS OF BULK AT MOST 1048576: true; the input reads as it did. -/
def fnConflictSetUptoRow : OpenClaim := { program := "ytbicoknghdgahaagreat", sum := "5da48495caa59cb90160b756d1089acadbbd786b7d8125e9f335b132772a5c3d", func := "pub-coparcener/laws.FnConflictSet", spec := "fnConflictSet", inPlace := ["internal/bytealg.abigen_runtime_cmpstring", "slices.overlaps[pub-coparcener/pub/structuredmerge/fieldpath.PathElement]", "slices.overlaps[pub-coparcener/pub/structuredmerge/fieldpath.setNode]"], unfollowed := true, recurses := true, loops := true, apart := false, narrowed := true }
def FnConflictSetUptoSaid : Prop := fnConflictSetUptoRow.holds Tryz.pinned (OpenSpec.upto fnConflictSetSpec)

/-- 'laws.FnSetUnion', WHERE WHAT IT READS IS OF BULK AT MOST 1048576: true; the input reads as it did. -/
def fnSetUnionUptoRow : OpenClaim := { program := "ytbicoknghdgahaagreat", sum := "5da48495caa59cb90160b756d1089acadbbd786b7d8125e9f335b132772a5c3d", func := "pub-coparcener/laws.FnSetUnion", spec := "fnSetUnion", inPlace := ["internal/bytealg.abigen_runtime_cmpstring", "slices.overlaps[pub-coparcener/pub/structuredmerge/fieldpath.PathElement]", "slices.overlaps[pub-coparcener/pub/structuredmerge/fieldpath.setNode]"], unfollowed := true, recurses := true, loops := true, apart := false, narrowed := true }
def FnSetUnionUptoSaid : Prop := fnSetUnionUptoRow.holds Tryz.pinned (OpenSpec.upto fnSetUnionSpec)

/-- 'laws.FnManagersEqualInAnyOrder', WHERE WHAT IT READS IS OF BULK AT MOST 1048576: true; the input reads as it did. -/
def fnManagersEqualInAnyOrderUptoRow : OpenClaim := { program := "ytbicoknghdgahaagreat", sum := "5da48495caa59cb90160b756d1089acadbbd786b7d8125e9f335b132772a5c3d", func := "pub-coparcener/laws.FnManagersEqualInAnyOrder", spec := "fnManagersEqualInAnyOrder", inPlace := ["internal/bytealg.abigen_runtime_cmpstring", "slices.overlaps[pub-coparcener/pub/structuredmerge/fieldpath.PathElement]", "slices.overlaps[pub-coparcener/pub/structuredmerge/fieldpath.setNode]"], unfollowed := true, recurses := true, loops := true, apart := false, narrowed := true }
def FnManagersEqualInAnyOrderUptoSaid : Prop := fnManagersEqualInAnyOrderUptoRow.holds Tryz.pinned (OpenSpec.upto fnManagersEqualInAnyOrderSpec)

/-- 'laws.FnSetNamed', WHERE WHAT IT READS IS OF BULK AT MOST 1048576: true; the input reads as it did. -/
def fnSetNamedUptoRow : OpenClaim := { program := "ytbicoknghdgahaagreat", sum := "5da48495caa59cb90160b756d1089acadbbd786b7d8125e9f335b132772a5c3d", func := "pub-coparcener/laws.FnSetNamed", spec := "fnSetNamed", inPlace := ["internal/bytealg.abigen_runtime_cmpstring", "slices.overlaps[pub-coparcener/pub/structuredmerge/fieldpath.PathElement]", "slices.overlaps[pub-coparcener/pub/structuredmerge/fieldpath.setNode]"], unfollowed := true, recurses := true, loops := true, apart := false, narrowed := true }
def FnSetNamedUptoSaid : Prop := fnSetNamedUptoRow.holds Tryz.pinned (OpenSpec.upto fnSetNamedSpec)

/-- 'laws.FnItemElemTells', WHERE WHAT IT READS IS OF BULK AT MOST 1048576: true; the input reads as it did. -/
def fnItemElemTellsUptoRow : OpenClaim := { program := "ytbicoknghdgahaagreat", sum := "5da48495caa59cb90160b756d1089acadbbd786b7d8125e9f335b132772a5c3d", func := "pub-coparcener/laws.FnItemElemTells", spec := "fnItemElemTells", unfollowed := true, recurses := true, loops := true, apart := false, narrowed := true }
def FnItemElemTellsUptoSaid : Prop := fnItemElemTellsUptoRow.holds Tryz.pinned (OpenSpec.upto fnItemElemTellsSpec)

/-- 'laws.FnSetAlgebra', WHERE WHAT IT READS IS OF BULK AT MOST 1048576: true; the input reads as it did. -/
def fnSetAlgebraUptoRow : OpenClaim := { program := "ytbicoknghdgahaagreat", sum := "5da48495caa59cb90160b756d1089acadbbd786b7d8125e9f335b132772a5c3d", func := "pub-coparcener/laws.FnSetAlgebra", spec := "fnSetAlgebra", inPlace := ["internal/bytealg.abigen_runtime_cmpstring", "slices.overlaps[pub-coparcener/pub/structuredmerge/fieldpath.PathElement]", "slices.overlaps[pub-coparcener/pub/structuredmerge/fieldpath.setNode]"], unfollowed := true, recurses := true, loops := true, apart := false, narrowed := true }
def FnSetAlgebraUptoSaid : Prop := fnSetAlgebraUptoRow.holds Tryz.pinned (OpenSpec.upto fnSetAlgebraSpec)

/-- 'laws.FnSetMatchedBy', WHERE WHAT IT READS IS OF BULK AT MOST 1048576: true; the input reads as it did. -/
def fnSetMatchedByUptoRow : OpenClaim := { program := "ytbicoknghdgahaagreat", sum := "5da48495caa59cb90160b756d1089acadbbd786b7d8125e9f335b132772a5c3d", func := "pub-coparcener/laws.FnSetMatchedBy", spec := "fnSetMatchedBy", inPlace := ["internal/bytealg.abigen_runtime_cmpstring", "slices.overlaps[pub-coparcener/pub/structuredmerge/fieldpath.PathElement]", "slices.overlaps[pub-coparcener/pub/structuredmerge/fieldpath.setNode]"], unfollowed := true, recurses := true, loops := true, apart := false, narrowed := true }
def FnSetMatchedByUptoSaid : Prop := fnSetMatchedByUptoRow.holds Tryz.pinned (OpenSpec.upto fnSetMatchedBySpec)

/-- 'laws.FnFilterWild', WHERE WHAT IT READS IS OF BULK AT MOST 1048576: true; the input reads as it did. -/
def fnFilterWildUptoRow : OpenClaim := { program := "ytbicoknghdgahaagreat", sum := "5da48495caa59cb90160b756d1089acadbbd786b7d8125e9f335b132772a5c3d", func := "pub-coparcener/laws.FnFilterWild", spec := "fnFilterWild", inPlace := ["internal/bytealg.abigen_runtime_cmpstring", "slices.overlaps[pub-coparcener/pub/structuredmerge/fieldpath.PathElement]", "slices.overlaps[pub-coparcener/pub/structuredmerge/fieldpath.setNode]"], unfollowed := true, recurses := true, loops := true, apart := false, narrowed := true }
def FnFilterWildUptoSaid : Prop := fnFilterWildUptoRow.holds Tryz.pinned (OpenSpec.upto fnFilterWildSpec)

/-- 'laws.FnFilterFields', WHERE WHAT IT READS IS OF BULK AT MOST 1048576: true; the input reads as it did. -/
def fnFilterFieldsUptoRow : OpenClaim := { program := "ytbicoknghdgahaagreat", sum := "5da48495caa59cb90160b756d1089acadbbd786b7d8125e9f335b132772a5c3d", func := "pub-coparcener/laws.FnFilterFields", spec := "fnFilterFields", inPlace := ["internal/bytealg.abigen_runtime_cmpstring", "slices.overlaps[pub-coparcener/pub/structuredmerge/fieldpath.PathElement]", "slices.overlaps[pub-coparcener/pub/structuredmerge/fieldpath.setNode]"], unfollowed := true, recurses := true, loops := true, apart := false, narrowed := true }
def FnFilterFieldsUptoSaid : Prop := fnFilterFieldsUptoRow.holds Tryz.pinned (OpenSpec.upto fnFilterFieldsSpec)

end Rows
end Go.Proofs.YtbicoknghdgahaaGreat
