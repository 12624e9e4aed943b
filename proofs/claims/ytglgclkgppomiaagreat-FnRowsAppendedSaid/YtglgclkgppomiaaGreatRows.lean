/-
  NARROWER THAN 'FOR EVERY INPUT', by the rows' own cells (each row's printed sentence says how): FnRowsBack: loops · FnRowsBoth: loops · FnRowsDiffer: loops · FnRowsField: loops · FnRowsFirst: loops · FnRowsGroup: loops · FnRowsOptional: loops · FnRowsPut: loops · FnRowsRepeated: loops · FnRowsTaken: loops · FnRowsColumns: loops · FnRowsRange: loops.
  DERIVED. THE GIVEN ROWS OF THIS SEAT. 16 by the template 'for every input the law returns true; each argument reads behind the call as it read before'; 0 by the template 'total and deterministic' (their statements: YtglgclkgppomiaaGreatTotals.lean).
  GIVEN WITH THE SEED: the statements are not yours to turn. If you find one false, say at which input.
  Laid BY PROGRAM, IN A SANDBOX (cutbox-rows.mjs): the forced cells as the released guide's own fill.sh prints them over the translation b2f00ec50fd4f923… (all of the seat's roots in one cut). By AI agents, Wed Nov 11 2026. No macro, syntax, notation, axiom, sorry.
-/
import Derived.Test.YtglgclkgppomiaaGreatChecked
import GoSem.Claim
import GoSem.ClaimJoined
import GoSem.ClaimMapViews
import Derived.JoinedTies
import Derived.KernelRfl
namespace Go.Proofs.YtglgclkgppomiaaGreat
/- THE CELL 'sum', in the pinned program and in every row, IS THE sha256 OF THE DUMP (.gsa) THAT YtglgclkgppomiaaGreatProg.lean LOADS. Nothing in Lean hashes anything: it is a label: what it is worth is what the hold of that sum in a sandbox is worth. -/
noncomputable def Tryz.pinned : Pinned := { name := "ytglgclkgppomiaagreat", sum := "b2f00ec50fd4f9232409e9ba2d8509f14336a01eb3fcfceeb08c22802733ca28", checked := Tryz.checked }
namespace Rows
def none {H : Type} : Left H := { results := [], args := [] }

/-- 'laws.FnRowsBack': WHATEVER THE INPUT: true; the input reads as it did. -/
def fnRowsBackSpec : ChangeSpec := { name := "fnRowsBack", fn := fun _ => fun
  | [d1, d2] => { results := [.lit (.bool true)], args := [d1, d2] }
  | _ => none }
def fnRowsBackRow : OpenClaim := { program := "ytglgclkgppomiaagreat", sum := "b2f00ec50fd4f9232409e9ba2d8509f14336a01eb3fcfceeb08c22802733ca28", func := "loop.example/pub-g01496/laws.FnRowsBack", spec := "fnRowsBack", inPlace := ["math.Float32frombits", "math.Float32bits", "math.Float64frombits", "math.Float64bits"], unfollowed := true, recurses := true, loops := true, apart := false }
def FnRowsBackSaid : Prop := fnRowsBackRow.holds Tryz.pinned (OpenSpec.ofChange fnRowsBackSpec)

/-- ITS FALSE NEIGHBOUR: 'it returns false'. Refute it at one input. -/
def fnRowsBackWrong : ChangeSpec := { name := "fnRowsBack", fn := fun _ => fun
  | [d1, d2] => { results := [.lit (.bool false)], args := [d1, d2] }
  | _ => none }
def FnRowsBackWrongFalsely : Prop := fnRowsBackRow.holds Tryz.pinned (OpenSpec.ofChange fnRowsBackWrong)

/-- 'laws.FnRowsBoth': WHATEVER THE INPUT: true; the input reads as it did. -/
def fnRowsBothSpec : ChangeSpec := { name := "fnRowsBoth", fn := fun _ => fun
  | [d1, d2] => { results := [.lit (.bool true)], args := [d1, d2] }
  | _ => none }
def fnRowsBothRow : OpenClaim := { program := "ytglgclkgppomiaagreat", sum := "b2f00ec50fd4f9232409e9ba2d8509f14336a01eb3fcfceeb08c22802733ca28", func := "loop.example/pub-g01496/laws.FnRowsBoth", spec := "fnRowsBoth", inPlace := ["math.Float32frombits", "math.Float32bits", "math.Float64frombits", "math.Float64bits"], unfollowed := true, recurses := true, loops := true, apart := false }
def FnRowsBothSaid : Prop := fnRowsBothRow.holds Tryz.pinned (OpenSpec.ofChange fnRowsBothSpec)

/-- ITS FALSE NEIGHBOUR: 'it returns false'. Refute it at one input. -/
def fnRowsBothWrong : ChangeSpec := { name := "fnRowsBoth", fn := fun _ => fun
  | [d1, d2] => { results := [.lit (.bool false)], args := [d1, d2] }
  | _ => none }
def FnRowsBothWrongFalsely : Prop := fnRowsBothRow.holds Tryz.pinned (OpenSpec.ofChange fnRowsBothWrong)

/-- 'laws.FnRowsDiffer': WHATEVER THE INPUT: true; the input reads as it did. -/
def fnRowsDifferSpec : ChangeSpec := { name := "fnRowsDiffer", fn := fun _ => fun
  | [d1, d2, d3] => { results := [.lit (.bool true)], args := [d1, d2, d3] }
  | _ => none }
def fnRowsDifferRow : OpenClaim := { program := "ytglgclkgppomiaagreat", sum := "b2f00ec50fd4f9232409e9ba2d8509f14336a01eb3fcfceeb08c22802733ca28", func := "loop.example/pub-g01496/laws.FnRowsDiffer", spec := "fnRowsDiffer", inPlace := ["math.Float32frombits", "math.Float32bits", "math.Float64frombits", "math.Float64bits"], unfollowed := true, recurses := true, loops := true, apart := false }
def FnRowsDifferSaid : Prop := fnRowsDifferRow.holds Tryz.pinned (OpenSpec.ofChange fnRowsDifferSpec)

/-- ITS FALSE NEIGHBOUR: 'it returns false'. Refute it at one input. -/
def fnRowsDifferWrong : ChangeSpec := { name := "fnRowsDiffer", fn := fun _ => fun
  | [d1, d2, d3] => { results := [.lit (.bool false)], args := [d1, d2, d3] }
  | _ => none }
def FnRowsDifferWrongFalsely : Prop := fnRowsDifferRow.holds Tryz.pinned (OpenSpec.ofChange fnRowsDifferWrong)

/-- 'laws.FnRowsField': WHATEVER THE INPUT: true; the input reads as it did. -/
def fnRowsFieldSpec : ChangeSpec := { name := "fnRowsField", fn := fun _ => fun
  | [d1, d2, d3] => { results := [.lit (.bool true)], args := [d1, d2, d3] }
  | _ => none }
def fnRowsFieldRow : OpenClaim := { program := "ytglgclkgppomiaagreat", sum := "b2f00ec50fd4f9232409e9ba2d8509f14336a01eb3fcfceeb08c22802733ca28", func := "loop.example/pub-g01496/laws.FnRowsField", spec := "fnRowsField", inPlace := ["math.Float32frombits", "math.Float32bits", "math.Float64frombits", "math.Float64bits"], unfollowed := true, recurses := true, loops := true, apart := false }
def FnRowsFieldSaid : Prop := fnRowsFieldRow.holds Tryz.pinned (OpenSpec.ofChange fnRowsFieldSpec)

/-- ITS FALSE NEIGHBOUR: 'it returns false'. Refute it at one input. -/
def fnRowsFieldWrong : ChangeSpec := { name := "fnRowsField", fn := fun _ => fun
  | [d1, d2, d3] => { results := [.lit (.bool false)], args := [d1, d2, d3] }
  | _ => none }
def FnRowsFieldWrongFalsely : Prop := fnRowsFieldRow.holds Tryz.pinned (OpenSpec.ofChange fnRowsFieldWrong)

/-- 'laws.FnRowsFirst': WHATEVER THE INPUT: true; the input reads as it did. -/
def fnRowsFirstSpec : ChangeSpec := { name := "fnRowsFirst", fn := fun _ => fun
  | [d1, d2] => { results := [.lit (.bool true)], args := [d1, d2] }
  | _ => none }
def fnRowsFirstRow : OpenClaim := { program := "ytglgclkgppomiaagreat", sum := "b2f00ec50fd4f9232409e9ba2d8509f14336a01eb3fcfceeb08c22802733ca28", func := "loop.example/pub-g01496/laws.FnRowsFirst", spec := "fnRowsFirst", inPlace := ["math.Float32frombits", "math.Float32bits", "math.Float64frombits", "math.Float64bits"], unfollowed := true, recurses := true, loops := true, apart := false }
def FnRowsFirstSaid : Prop := fnRowsFirstRow.holds Tryz.pinned (OpenSpec.ofChange fnRowsFirstSpec)

/-- ITS FALSE NEIGHBOUR: 'it returns false'. Refute it at one input. -/
def fnRowsFirstWrong : ChangeSpec := { name := "fnRowsFirst", fn := fun _ => fun
  | [d1, d2] => { results := [.lit (.bool false)], args := [d1, d2] }
  | _ => none }
def FnRowsFirstWrongFalsely : Prop := fnRowsFirstRow.holds Tryz.pinned (OpenSpec.ofChange fnRowsFirstWrong)

/-- 'laws.FnRowsGroup': WHATEVER THE INPUT: true; the input reads as it did. -/
def fnRowsGroupSpec : ChangeSpec := { name := "fnRowsGroup", fn := fun _ => fun
  | [d1, d2] => { results := [.lit (.bool true)], args := [d1, d2] }
  | _ => none }
def fnRowsGroupRow : OpenClaim := { program := "ytglgclkgppomiaagreat", sum := "b2f00ec50fd4f9232409e9ba2d8509f14336a01eb3fcfceeb08c22802733ca28", func := "loop.example/pub-g01496/laws.FnRowsGroup", spec := "fnRowsGroup", inPlace := ["math.Float32frombits", "math.Float32bits", "math.Float64frombits", "math.Float64bits"], unfollowed := true, recurses := true, loops := true, apart := false }
def FnRowsGroupSaid : Prop := fnRowsGroupRow.holds Tryz.pinned (OpenSpec.ofChange fnRowsGroupSpec)

/-- ITS FALSE NEIGHBOUR: 'it returns false'. Refute it at one input. -/
def fnRowsGroupWrong : ChangeSpec := { name := "fnRowsGroup", fn := fun _ => fun
  | [d1, d2] => { results := [.lit (.bool false)], args := [d1, d2] }
  | _ => none }
def FnRowsGroupWrongFalsely : Prop := fnRowsGroupRow.holds Tryz.pinned (OpenSpec.ofChange fnRowsGroupWrong)

/-- 'laws.FnRowsOptional': WHATEVER THE INPUT: true; the input reads as it did. -/
def fnRowsOptionalSpec : ChangeSpec := { name := "fnRowsOptional", fn := fun _ => fun
  | [d1, d2] => { results := [.lit (.bool true)], args := [d1, d2] }
  | _ => none }
def fnRowsOptionalRow : OpenClaim := { program := "ytglgclkgppomiaagreat", sum := "b2f00ec50fd4f9232409e9ba2d8509f14336a01eb3fcfceeb08c22802733ca28", func := "loop.example/pub-g01496/laws.FnRowsOptional", spec := "fnRowsOptional", inPlace := ["math.Float32frombits", "math.Float32bits", "math.Float64frombits", "math.Float64bits"], unfollowed := true, recurses := true, loops := true, apart := false }
def FnRowsOptionalSaid : Prop := fnRowsOptionalRow.holds Tryz.pinned (OpenSpec.ofChange fnRowsOptionalSpec)

/-- ITS FALSE NEIGHBOUR: 'it returns false'. Refute it at one input. -/
def fnRowsOptionalWrong : ChangeSpec := { name := "fnRowsOptional", fn := fun _ => fun
  | [d1, d2] => { results := [.lit (.bool false)], args := [d1, d2] }
  | _ => none }
def FnRowsOptionalWrongFalsely : Prop := fnRowsOptionalRow.holds Tryz.pinned (OpenSpec.ofChange fnRowsOptionalWrong)

/-- 'laws.FnRowsPut': WHATEVER THE INPUT: true; the input reads as it did. -/
def fnRowsPutSpec : ChangeSpec := { name := "fnRowsPut", fn := fun _ => fun
  | [d1, d2] => { results := [.lit (.bool true)], args := [d1, d2] }
  | _ => none }
def fnRowsPutRow : OpenClaim := { program := "ytglgclkgppomiaagreat", sum := "b2f00ec50fd4f9232409e9ba2d8509f14336a01eb3fcfceeb08c22802733ca28", func := "loop.example/pub-g01496/laws.FnRowsPut", spec := "fnRowsPut", inPlace := ["math.Float32frombits", "math.Float32bits", "math.Float64frombits", "math.Float64bits"], unfollowed := true, recurses := true, loops := true, apart := false }
def FnRowsPutSaid : Prop := fnRowsPutRow.holds Tryz.pinned (OpenSpec.ofChange fnRowsPutSpec)

/-- ITS FALSE NEIGHBOUR: 'it returns false'. Refute it at one input. -/
def fnRowsPutWrong : ChangeSpec := { name := "fnRowsPut", fn := fun _ => fun
  | [d1, d2] => { results := [.lit (.bool false)], args := [d1, d2] }
  | _ => none }
def FnRowsPutWrongFalsely : Prop := fnRowsPutRow.holds Tryz.pinned (OpenSpec.ofChange fnRowsPutWrong)

/-- 'laws.FnRowsRepeated': WHATEVER THE INPUT: true; the input reads as it did. -/
def fnRowsRepeatedSpec : ChangeSpec := { name := "fnRowsRepeated", fn := fun _ => fun
  | [d1, d2] => { results := [.lit (.bool true)], args := [d1, d2] }
  | _ => none }
def fnRowsRepeatedRow : OpenClaim := { program := "ytglgclkgppomiaagreat", sum := "b2f00ec50fd4f9232409e9ba2d8509f14336a01eb3fcfceeb08c22802733ca28", func := "loop.example/pub-g01496/laws.FnRowsRepeated", spec := "fnRowsRepeated", inPlace := ["math.Float32frombits", "math.Float32bits", "math.Float64frombits", "math.Float64bits"], unfollowed := true, recurses := true, loops := true, apart := false }
def FnRowsRepeatedSaid : Prop := fnRowsRepeatedRow.holds Tryz.pinned (OpenSpec.ofChange fnRowsRepeatedSpec)

/-- ITS FALSE NEIGHBOUR: 'it returns false'. Refute it at one input. -/
def fnRowsRepeatedWrong : ChangeSpec := { name := "fnRowsRepeated", fn := fun _ => fun
  | [d1, d2] => { results := [.lit (.bool false)], args := [d1, d2] }
  | _ => none }
def FnRowsRepeatedWrongFalsely : Prop := fnRowsRepeatedRow.holds Tryz.pinned (OpenSpec.ofChange fnRowsRepeatedWrong)

/-- 'laws.FnRowsTaken': WHATEVER THE INPUT: true; the input reads as it did. -/
def fnRowsTakenSpec : ChangeSpec := { name := "fnRowsTaken", fn := fun _ => fun
  | [d1, d2] => { results := [.lit (.bool true)], args := [d1, d2] }
  | _ => none }
def fnRowsTakenRow : OpenClaim := { program := "ytglgclkgppomiaagreat", sum := "b2f00ec50fd4f9232409e9ba2d8509f14336a01eb3fcfceeb08c22802733ca28", func := "loop.example/pub-g01496/laws.FnRowsTaken", spec := "fnRowsTaken", inPlace := ["math.Float32frombits", "math.Float32bits", "math.Float64frombits", "math.Float64bits"], unfollowed := true, recurses := true, loops := true, apart := false }
def FnRowsTakenSaid : Prop := fnRowsTakenRow.holds Tryz.pinned (OpenSpec.ofChange fnRowsTakenSpec)

/-- ITS FALSE NEIGHBOUR: 'it returns false'. Refute it at one input. -/
def fnRowsTakenWrong : ChangeSpec := { name := "fnRowsTaken", fn := fun _ => fun
  | [d1, d2] => { results := [.lit (.bool false)], args := [d1, d2] }
  | _ => none }
def FnRowsTakenWrongFalsely : Prop := fnRowsTakenRow.holds Tryz.pinned (OpenSpec.ofChange fnRowsTakenWrong)

/-- 'laws.FnRowsColumns': WHATEVER THE INPUT: true; the input reads as it did. -/
def fnRowsColumnsSpec : ChangeSpec := { name := "fnRowsColumns", fn := fun _ => fun
  | [d] => { results := [.lit (.bool true)], args := [d] }
  | _ => none }
def fnRowsColumnsRow : OpenClaim := { program := "ytglgclkgppomiaagreat", sum := "b2f00ec50fd4f9232409e9ba2d8509f14336a01eb3fcfceeb08c22802733ca28", func := "loop.example/pub-g01496/laws.FnRowsColumns", spec := "fnRowsColumns", inPlace := ["math.Float32frombits", "math.Float32bits", "math.Float64frombits", "math.Float64bits"], unfollowed := true, recurses := true, loops := true, apart := false }
def FnRowsColumnsSaid : Prop := fnRowsColumnsRow.holds Tryz.pinned (OpenSpec.ofChange fnRowsColumnsSpec)

/-- ITS FALSE NEIGHBOUR: 'it returns false'. Refute it at one input. -/
def fnRowsColumnsWrong : ChangeSpec := { name := "fnRowsColumns", fn := fun _ => fun
  | [d] => { results := [.lit (.bool false)], args := [d] }
  | _ => none }
def FnRowsColumnsWrongFalsely : Prop := fnRowsColumnsRow.holds Tryz.pinned (OpenSpec.ofChange fnRowsColumnsWrong)

/-- 'laws.FnRowsRange': WHATEVER THE INPUT: true; the input reads as it did. -/
def fnRowsRangeSpec : ChangeSpec := { name := "fnRowsRange", fn := fun _ => fun
  | [d1, d2] => { results := [.lit (.bool true)], args := [d1, d2] }
  | _ => none }
def fnRowsRangeRow : OpenClaim := { program := "ytglgclkgppomiaagreat", sum := "b2f00ec50fd4f9232409e9ba2d8509f14336a01eb3fcfceeb08c22802733ca28", func := "loop.example/pub-g01496/laws.FnRowsRange", spec := "fnRowsRange", inPlace := ["math.Float32frombits", "math.Float32bits", "math.Float64frombits", "math.Float64bits"], unfollowed := true, recurses := true, loops := true, apart := false }
def FnRowsRangeSaid : Prop := fnRowsRangeRow.holds Tryz.pinned (OpenSpec.ofChange fnRowsRangeSpec)

/-- ITS FALSE NEIGHBOUR: 'it returns false'. Refute it at one input. -/
def fnRowsRangeWrong : ChangeSpec := { name := "fnRowsRange", fn := fun _ => fun
  | [d1, d2] => { results := [.lit (.bool false)], args := [d1, d2] }
  | _ => none }
def FnRowsRangeWrongFalsely : Prop := fnRowsRangeRow.holds Tryz.pinned (OpenSpec.ofChange fnRowsRangeWrong)

/-- 'laws.FnRowsAppended': WHATEVER THE INPUT: true; the input reads as it did. -/
def fnRowsAppendedSpec : ChangeSpec := { name := "fnRowsAppended", fn := fun _ => fun
  | [d1, d2] => { results := [.lit (.bool true)], args := [d1, d2] }
  | _ => none }
def fnRowsAppendedRow : OpenClaim := { program := "ytglgclkgppomiaagreat", sum := "b2f00ec50fd4f9232409e9ba2d8509f14336a01eb3fcfceeb08c22802733ca28", func := "loop.example/pub-g01496/laws.FnRowsAppended", spec := "fnRowsAppended", inPlace := ["math.Float32frombits", "math.Float32bits", "math.Float64frombits", "math.Float64bits"], unfollowed := true, recurses := true, apart := false }
def FnRowsAppendedSaid : Prop := fnRowsAppendedRow.holds Tryz.pinned (OpenSpec.ofChange fnRowsAppendedSpec)

/-- ITS FALSE NEIGHBOUR: 'it returns false'. Refute it at one input. -/
def fnRowsAppendedWrong : ChangeSpec := { name := "fnRowsAppended", fn := fun _ => fun
  | [d1, d2] => { results := [.lit (.bool false)], args := [d1, d2] }
  | _ => none }
def FnRowsAppendedWrongFalsely : Prop := fnRowsAppendedRow.holds Tryz.pinned (OpenSpec.ofChange fnRowsAppendedWrong)

/-- 'laws.FnRowsMade': WHATEVER THE INPUT: true; the input reads as it did. -/
def fnRowsMadeSpec : ChangeSpec := { name := "fnRowsMade", fn := fun _ => fun
  | [d] => { results := [.lit (.bool true)], args := [d] }
  | _ => none }
def fnRowsMadeRow : OpenClaim := { program := "ytglgclkgppomiaagreat", sum := "b2f00ec50fd4f9232409e9ba2d8509f14336a01eb3fcfceeb08c22802733ca28", func := "loop.example/pub-g01496/laws.FnRowsMade", spec := "fnRowsMade", inPlace := ["math.Float32frombits", "math.Float32bits", "math.Float64frombits", "math.Float64bits"], unfollowed := true, recurses := true, apart := false }
def FnRowsMadeSaid : Prop := fnRowsMadeRow.holds Tryz.pinned (OpenSpec.ofChange fnRowsMadeSpec)

/-- ITS FALSE NEIGHBOUR: 'it returns false'. Refute it at one input. -/
def fnRowsMadeWrong : ChangeSpec := { name := "fnRowsMade", fn := fun _ => fun
  | [d] => { results := [.lit (.bool false)], args := [d] }
  | _ => none }
def FnRowsMadeWrongFalsely : Prop := fnRowsMadeRow.holds Tryz.pinned (OpenSpec.ofChange fnRowsMadeWrong)

/-- 'laws.FnValueSame': WHATEVER THE INPUT: true; the input reads as it did. -/
def fnValueSameSpec : ChangeSpec := { name := "fnValueSame", fn := fun _ => fun
  | [d1, d2] => { results := [.lit (.bool true)], args := [d1, d2] }
  | _ => none }
def fnValueSameRow : OpenClaim := { program := "ytglgclkgppomiaagreat", sum := "b2f00ec50fd4f9232409e9ba2d8509f14336a01eb3fcfceeb08c22802733ca28", func := "loop.example/pub-g01496/laws.FnValueSame", spec := "fnValueSame", inPlace := ["math.Float32frombits", "math.Float32bits", "math.Float64frombits", "math.Float64bits"], unfollowed := true, recurses := true, apart := false }
def FnValueSameSaid : Prop := fnValueSameRow.holds Tryz.pinned (OpenSpec.ofChange fnValueSameSpec)

/-- ITS FALSE NEIGHBOUR: 'it returns false'. Refute it at one input. -/
def fnValueSameWrong : ChangeSpec := { name := "fnValueSame", fn := fun _ => fun
  | [d1, d2] => { results := [.lit (.bool false)], args := [d1, d2] }
  | _ => none }
def FnValueSameWrongFalsely : Prop := fnValueSameRow.holds Tryz.pinned (OpenSpec.ofChange fnValueSameWrong)

/-- 'laws.FnRowsSame': WHATEVER THE INPUT: true; the input reads as it did. -/
def fnRowsSameSpec : ChangeSpec := { name := "fnRowsSame", fn := fun _ => fun
  | [d1, d2] => { results := [.lit (.bool true)], args := [d1, d2] }
  | _ => none }
def fnRowsSameRow : OpenClaim := { program := "ytglgclkgppomiaagreat", sum := "b2f00ec50fd4f9232409e9ba2d8509f14336a01eb3fcfceeb08c22802733ca28", func := "loop.example/pub-g01496/laws.FnRowsSame", spec := "fnRowsSame", inPlace := ["math.Float32frombits", "math.Float32bits", "math.Float64frombits", "math.Float64bits"], unfollowed := true, recurses := true, apart := false }
def FnRowsSameSaid : Prop := fnRowsSameRow.holds Tryz.pinned (OpenSpec.ofChange fnRowsSameSpec)

/-- ITS FALSE NEIGHBOUR: 'it returns false'. Refute it at one input. -/
def fnRowsSameWrong : ChangeSpec := { name := "fnRowsSame", fn := fun _ => fun
  | [d1, d2] => { results := [.lit (.bool false)], args := [d1, d2] }
  | _ => none }
def FnRowsSameWrongFalsely : Prop := fnRowsSameRow.holds Tryz.pinned (OpenSpec.ofChange fnRowsSameWrong)

/- THE SECOND FORM. 'bulk': how many values and letters a reading holds, each counted each time it is reached (what is shared counts as often as it is met; a slice's spare places count too). A statement '..UptoSaid' is the law's where the arguments, and the package variables that the reading takes, are together of bulk at most 1048576: NARROWER than '..Said'. Prove '..Said' where nothing that the law and all that it calls make is longer than what came in: it says more and counts as full. Else prove '..UptoSaid'. A law counts once. -/
mutual
def uptoBulk {H : Type} : DataW H → Nat
  | .lit (.string bytes) => bytes.length + 1
  | .lit _ => 1
  | .nil => 1
  | .ptr d => uptoBulk d + 1
  | .slice elems spare => uptoBulkAll elems + uptoBulkAll spare + 1
  | .agg parts => uptoBulkAll parts + 1
  | .iface _ d => uptoBulk d + 1
  | .map entries => uptoBulkEntries entries + 1
  | .held _ => 1
def uptoBulkAll {H : Type} : List (DataW H) → Nat
  | [] => 0
  | d :: r => uptoBulk d + uptoBulkAll r
def uptoBulkEntries {H : Type} : List (Lit × DataW H) → Nat
  | [] => 0
  | x :: r => uptoBulkEntry x + uptoBulkEntries r
def uptoBulkEntry {H : Type} : Lit × DataW H → Nat
  | (.string bytes, d) => bytes.length + uptoBulk d + 1
  | (_, d) => uptoBulk d + 1
 end
def uptoSmall : (H : Type) → List (DataW H) → Bool := fun _ ds => decide (uptoBulkAll ds ≤ 1048576)
def OpenSpec.upto (s : _root_.Go.ChangeSpec) : _root_.Go.OpenSpec := { _root_.Go.OpenSpec.ofChange s with cond := some uptoSmall }

/-- 'laws.FnRowsBack', WHERE WHAT IT READS IS OF BULK AT MOST 1048576: true; the input reads as it did. -/
def fnRowsBackUptoRow : OpenClaim := { program := "ytglgclkgppomiaagreat", sum := "b2f00ec50fd4f9232409e9ba2d8509f14336a01eb3fcfceeb08c22802733ca28", func := "loop.example/pub-g01496/laws.FnRowsBack", spec := "fnRowsBack", inPlace := ["math.Float32frombits", "math.Float32bits", "math.Float64frombits", "math.Float64bits"], unfollowed := true, recurses := true, loops := true, apart := false, narrowed := true }
def FnRowsBackUptoSaid : Prop := fnRowsBackUptoRow.holds Tryz.pinned (OpenSpec.upto fnRowsBackSpec)

/-- 'laws.FnRowsBoth', WHERE WHAT IT READS IS OF BULK AT MOST 1048576: true; the input reads as it did. -/
def fnRowsBothUptoRow : OpenClaim := { program := "ytglgclkgppomiaagreat", sum := "b2f00ec50fd4f9232409e9ba2d8509f14336a01eb3fcfceeb08c22802733ca28", func := "loop.example/pub-g01496/laws.FnRowsBoth", spec := "fnRowsBoth", inPlace := ["math.Float32frombits", "math.Float32bits", "math.Float64frombits", "math.Float64bits"], unfollowed := true, recurses := true, loops := true, apart := false, narrowed := true }
def FnRowsBothUptoSaid : Prop := fnRowsBothUptoRow.holds Tryz.pinned (OpenSpec.upto fnRowsBothSpec)

/-- 'laws.FnRowsDiffer', WHERE WHAT IT READS IS OF BULK AT MOST 1048576: true; the input reads as it did. -/
def fnRowsDifferUptoRow : OpenClaim := { program := "ytglgclkgppomiaagreat", sum := "b2f00ec50fd4f9232409e9ba2d8509f14336a01eb3fcfceeb08c22802733ca28", func := "loop.example/pub-g01496/laws.FnRowsDiffer", spec := "fnRowsDiffer", inPlace := ["math.Float32frombits", "math.Float32bits", "math.Float64frombits", "math.Float64bits"], unfollowed := true, recurses := true, loops := true, apart := false, narrowed := true }
def FnRowsDifferUptoSaid : Prop := fnRowsDifferUptoRow.holds Tryz.pinned (OpenSpec.upto fnRowsDifferSpec)

/-- 'laws.FnRowsField', WHERE WHAT IT READS IS OF BULK AT MOST 1048576: true; the input reads as it did. -/
def fnRowsFieldUptoRow : OpenClaim := { program := "ytglgclkgppomiaagreat", sum := "b2f00ec50fd4f9232409e9ba2d8509f14336a01eb3fcfceeb08c22802733ca28", func := "loop.example/pub-g01496/laws.FnRowsField", spec := "fnRowsField", inPlace := ["math.Float32frombits", "math.Float32bits", "math.Float64frombits", "math.Float64bits"], unfollowed := true, recurses := true, loops := true, apart := false, narrowed := true }
def FnRowsFieldUptoSaid : Prop := fnRowsFieldUptoRow.holds Tryz.pinned (OpenSpec.upto fnRowsFieldSpec)

/-- 'laws.FnRowsFirst', WHERE WHAT IT READS IS OF BULK AT MOST 1048576: true; the input reads as it did. -/
def fnRowsFirstUptoRow : OpenClaim := { program := "ytglgclkgppomiaagreat", sum := "b2f00ec50fd4f9232409e9ba2d8509f14336a01eb3fcfceeb08c22802733ca28", func := "loop.example/pub-g01496/laws.FnRowsFirst", spec := "fnRowsFirst", inPlace := ["math.Float32frombits", "math.Float32bits", "math.Float64frombits", "math.Float64bits"], unfollowed := true, recurses := true, loops := true, apart := false, narrowed := true }
def FnRowsFirstUptoSaid : Prop := fnRowsFirstUptoRow.holds Tryz.pinned (OpenSpec.upto fnRowsFirstSpec)

/-- 'laws.FnRowsGroup', WHERE WHAT IT READS IS OF BULK AT MOST 1048576: true; the input reads as it did. -/
def fnRowsGroupUptoRow : OpenClaim := { program := "ytglgclkgppomiaagreat", sum := "b2f00ec50fd4f9232409e9ba2d8509f14336a01eb3fcfceeb08c22802733ca28", func := "loop.example/pub-g01496/laws.FnRowsGroup", spec := "fnRowsGroup", inPlace := ["math.Float32frombits", "math.Float32bits", "math.Float64frombits", "math.Float64bits"], unfollowed := true, recurses := true, loops := true, apart := false, narrowed := true }
def FnRowsGroupUptoSaid : Prop := fnRowsGroupUptoRow.holds Tryz.pinned (OpenSpec.upto fnRowsGroupSpec)

/-- 'laws.FnRowsOptional', WHERE WHAT IT READS IS OF BULK AT MOST 1048576: true; the input reads as it did. -/
def fnRowsOptionalUptoRow : OpenClaim := { program := "ytglgclkgppomiaagreat", sum := "b2f00ec50fd4f9232409e9ba2d8509f14336a01eb3fcfceeb08c22802733ca28", func := "loop.example/pub-g01496/laws.FnRowsOptional", spec := "fnRowsOptional", inPlace := ["math.Float32frombits", "math.Float32bits", "math.Float64frombits", "math.Float64bits"], unfollowed := true, recurses := true, loops := true, apart := false, narrowed := true }
def FnRowsOptionalUptoSaid : Prop := fnRowsOptionalUptoRow.holds Tryz.pinned (OpenSpec.upto fnRowsOptionalSpec)

/-- 'laws.FnRowsPut', WHERE WHAT IT READS IS OF BULK AT MOST 1048576: true; the input reads as it did. -/
def fnRowsPutUptoRow : OpenClaim := { program := "ytglgclkgppomiaagreat", sum := "b2f00ec50fd4f9232409e9ba2d8509f14336a01eb3fcfceeb08c22802733ca28", func := "loop.example/pub-g01496/laws.FnRowsPut", spec := "fnRowsPut", inPlace := ["math.Float32frombits", "math.Float32bits", "math.Float64frombits", "math.Float64bits"], unfollowed := true, recurses := true, loops := true, apart := false, narrowed := true }
def FnRowsPutUptoSaid : Prop := fnRowsPutUptoRow.holds Tryz.pinned (OpenSpec.upto fnRowsPutSpec)

/-- 'laws.FnRowsRepeated', WHERE WHAT IT READS IS OF BULK AT MOST 1048576: true; the input reads as it did. -/
def fnRowsRepeatedUptoRow : OpenClaim := { program := "ytglgclkgppomiaagreat", sum := "b2f00ec50fd4f9232409e9ba2d8509f14336a01eb3fcfceeb08c22802733ca28", func := "loop.example/pub-g01496/laws.FnRowsRepeated", spec := "fnRowsRepeated", inPlace := ["math.Float32frombits", "math.Float32bits", "math.Float64frombits", "math.Float64bits"], unfollowed := true, recurses := true, loops := true, apart := false, narrowed := true }
def FnRowsRepeatedUptoSaid : Prop := fnRowsRepeatedUptoRow.holds Tryz.pinned (OpenSpec.upto fnRowsRepeatedSpec)

/-- 'laws.FnRowsTaken', WHERE WHAT IT READS IS OF BULK AT MOST 1048576: true; the input reads as it did. -/
def fnRowsTakenUptoRow : OpenClaim := { program := "ytglgclkgppomiaagreat", sum := "b2f00ec50fd4f9232409e9ba2d8509f14336a01eb3fcfceeb08c22802733ca28", func := "loop.example/pub-g01496/laws.FnRowsTaken", spec := "fnRowsTaken", inPlace := ["math.Float32frombits", "math.Float32bits", "math.Float64frombits", "math.Float64bits"], unfollowed := true, recurses := true, loops := true, apart := false, narrowed := true }
def FnRowsTakenUptoSaid : Prop := fnRowsTakenUptoRow.holds Tryz.pinned (OpenSpec.upto fnRowsTakenSpec)

/-- 'laws.FnRowsColumns', WHERE WHAT IT READS IS OF BULK AT MOST 1048576: true; the input reads as it did. -/
def fnRowsColumnsUptoRow : OpenClaim := { program := "ytglgclkgppomiaagreat", sum := "b2f00ec50fd4f9232409e9ba2d8509f14336a01eb3fcfceeb08c22802733ca28", func := "loop.example/pub-g01496/laws.FnRowsColumns", spec := "fnRowsColumns", inPlace := ["math.Float32frombits", "math.Float32bits", "math.Float64frombits", "math.Float64bits"], unfollowed := true, recurses := true, loops := true, apart := false, narrowed := true }
def FnRowsColumnsUptoSaid : Prop := fnRowsColumnsUptoRow.holds Tryz.pinned (OpenSpec.upto fnRowsColumnsSpec)

/-- 'laws.FnRowsRange', WHERE WHAT IT READS IS OF BULK AT MOST 1048576: true; the input reads as it did. -/
def fnRowsRangeUptoRow : OpenClaim := { program := "ytglgclkgppomiaagreat", sum := "b2f00ec50fd4f9232409e9ba2d8509f14336a01eb3fcfceeb08c22802733ca28", func := "loop.example/pub-g01496/laws.FnRowsRange", spec := "fnRowsRange", inPlace := ["math.Float32frombits", "math.Float32bits", "math.Float64frombits", "math.Float64bits"], unfollowed := true, recurses := true, loops := true, apart := false, narrowed := true }
def FnRowsRangeUptoSaid : Prop := fnRowsRangeUptoRow.holds Tryz.pinned (OpenSpec.upto fnRowsRangeSpec)

/-- 'laws.FnRowsAppended', WHERE WHAT IT READS IS OF BULK AT MOST 1048576: true; the input reads as it did. -/
def fnRowsAppendedUptoRow : OpenClaim := { program := "ytglgclkgppomiaagreat", sum := "b2f00ec50fd4f9232409e9ba2d8509f14336a01eb3fcfceeb08c22802733ca28", func := "loop.example/pub-g01496/laws.FnRowsAppended", spec := "fnRowsAppended", inPlace := ["math.Float32frombits", "math.Float32bits", "math.Float64frombits", "math.Float64bits"], unfollowed := true, recurses := true, apart := false, narrowed := true }
def FnRowsAppendedUptoSaid : Prop := fnRowsAppendedUptoRow.holds Tryz.pinned (OpenSpec.upto fnRowsAppendedSpec)

/-- 'laws.FnRowsMade', WHERE WHAT IT READS IS OF BULK AT MOST 1048576: true; the input reads as it did. -/
def fnRowsMadeUptoRow : OpenClaim := { program := "ytglgclkgppomiaagreat", sum := "b2f00ec50fd4f9232409e9ba2d8509f14336a01eb3fcfceeb08c22802733ca28", func := "loop.example/pub-g01496/laws.FnRowsMade", spec := "fnRowsMade", inPlace := ["math.Float32frombits", "math.Float32bits", "math.Float64frombits", "math.Float64bits"], unfollowed := true, recurses := true, apart := false, narrowed := true }
def FnRowsMadeUptoSaid : Prop := fnRowsMadeUptoRow.holds Tryz.pinned (OpenSpec.upto fnRowsMadeSpec)

/-- 'laws.FnValueSame', WHERE WHAT IT READS IS OF BULK AT MOST 1048576: true; the input reads as it did. -/
def fnValueSameUptoRow : OpenClaim := { program := "ytglgclkgppomiaagreat", sum := "b2f00ec50fd4f9232409e9ba2d8509f14336a01eb3fcfceeb08c22802733ca28", func := "loop.example/pub-g01496/laws.FnValueSame", spec := "fnValueSame", inPlace := ["math.Float32frombits", "math.Float32bits", "math.Float64frombits", "math.Float64bits"], unfollowed := true, recurses := true, apart := false, narrowed := true }
def FnValueSameUptoSaid : Prop := fnValueSameUptoRow.holds Tryz.pinned (OpenSpec.upto fnValueSameSpec)

/-- 'laws.FnRowsSame', WHERE WHAT IT READS IS OF BULK AT MOST 1048576: true; the input reads as it did. -/
def fnRowsSameUptoRow : OpenClaim := { program := "ytglgclkgppomiaagreat", sum := "b2f00ec50fd4f9232409e9ba2d8509f14336a01eb3fcfceeb08c22802733ca28", func := "loop.example/pub-g01496/laws.FnRowsSame", spec := "fnRowsSame", inPlace := ["math.Float32frombits", "math.Float32bits", "math.Float64frombits", "math.Float64bits"], unfollowed := true, recurses := true, apart := false, narrowed := true }
def FnRowsSameUptoSaid : Prop := fnRowsSameUptoRow.holds Tryz.pinned (OpenSpec.upto fnRowsSameSpec)

end Rows
end Go.Proofs.YtglgclkgppomiaaGreat
