/-
  No cell of these rows narrows 'for every input' (looked for: loops, veiled, ifaces, maps, wideKeys, modest, calm, conditions, laid).
  DERIVED. THE GIVEN ROWS OF THIS SEAT. 6 by the template 'for every input the law returns true; each argument reads behind the call as it read before'; 0 by the template 'total and deterministic' (their statements: Qxb6605562aTotals.lean).
  GIVEN WITH THE SEED: the statements are not yours to turn. If you find one false, say at which input.
  Laid BY PROGRAM, IN A SANDBOX (cutbox-rows.mjs): the forced cells as the released guide's own fill.sh prints them over the translation 08c86cc883b04152… (all of the seat's roots in one cut). By AI agents, Wed Nov 11 2026. No macro, syntax, notation, axiom, sorry.
-/
import Derived.Test.Qxb6605562aChecked
import GoSem.Claim
import GoSem.ClaimJoined
import GoSem.ClaimMapViews
import Derived.JoinedTies
import Derived.KernelRfl
namespace Go.Proofs.Qxb6605562a
/- THE CELL 'sum', in the pinned program and in every row, IS THE sha256 OF THE DUMP (.gsa) THAT Qxb6605562aProg.lean LOADS. Nothing in Lean hashes anything: it is a label: what it is worth is what the hold of that sum in a sandbox is worth. -/
noncomputable def Try.pinned : Pinned := { name := "qxb6605562a", sum := "08c86cc883b04152d44d0f27a3c30a204f16d7adbc97d4a6fa7477b482572abc", checked := Try.checked }
namespace Rows
def none {H : Type} : Left H := { results := [], args := [] }

/-- 'zzlaws_root_b1.FnAppendDecimalMatchesSplitModel': WHATEVER THE INPUT: true; the input reads as it did. -/
def fnAppendDecimalMatchesSplitModelSpec : ChangeSpec := { name := "fnAppendDecimalMatchesSplitModel", fn := fun _ => fun
  | [d1, d2, d3] => { results := [.lit (.bool true)], args := [d1, d2, d3] }
  | _ => none }
def fnAppendDecimalMatchesSplitModelRow : OpenClaim := { program := "qxb6605562a", sum := "08c86cc883b04152d44d0f27a3c30a204f16d7adbc97d4a6fa7477b482572abc", func := "example.com/glossrow/glossrow/zzlaws_root_b1.FnAppendDecimalMatchesSplitModel", spec := "fnAppendDecimalMatchesSplitModel", apart := false }
def FnAppendDecimalMatchesSplitModelSaid : Prop := fnAppendDecimalMatchesSplitModelRow.holds Try.pinned (OpenSpec.ofChange fnAppendDecimalMatchesSplitModelSpec)

/-- ITS FALSE NEIGHBOUR: 'it returns false'. Refute it at one input. -/
def fnAppendDecimalMatchesSplitModelWrong : ChangeSpec := { name := "fnAppendDecimalMatchesSplitModel", fn := fun _ => fun
  | [d1, d2, d3] => { results := [.lit (.bool false)], args := [d1, d2, d3] }
  | _ => none }
def FnAppendDecimalMatchesSplitModelWrongFalsely : Prop := fnAppendDecimalMatchesSplitModelRow.holds Try.pinned (OpenSpec.ofChange fnAppendDecimalMatchesSplitModelWrong)

/-- 'zzlaws_root_b1.FnAppendDecimalReadsBack': WHATEVER THE INPUT: true; the input reads as it did. -/
def fnAppendDecimalReadsBackSpec : ChangeSpec := { name := "fnAppendDecimalReadsBack", fn := fun _ => fun
  | [d1, d2, d3] => { results := [.lit (.bool true)], args := [d1, d2, d3] }
  | _ => none }
def fnAppendDecimalReadsBackRow : OpenClaim := { program := "qxb6605562a", sum := "08c86cc883b04152d44d0f27a3c30a204f16d7adbc97d4a6fa7477b482572abc", func := "example.com/glossrow/glossrow/zzlaws_root_b1.FnAppendDecimalReadsBack", spec := "fnAppendDecimalReadsBack", apart := false }
def FnAppendDecimalReadsBackSaid : Prop := fnAppendDecimalReadsBackRow.holds Try.pinned (OpenSpec.ofChange fnAppendDecimalReadsBackSpec)

/-- ITS FALSE NEIGHBOUR: 'it returns false'. Refute it at one input. -/
def fnAppendDecimalReadsBackWrong : ChangeSpec := { name := "fnAppendDecimalReadsBack", fn := fun _ => fun
  | [d1, d2, d3] => { results := [.lit (.bool false)], args := [d1, d2, d3] }
  | _ => none }
def FnAppendDecimalReadsBackWrongFalsely : Prop := fnAppendDecimalReadsBackRow.holds Try.pinned (OpenSpec.ofChange fnAppendDecimalReadsBackWrong)

/-- 'zzlaws_root_b1.FnUnquoteMatchesRunModel': WHATEVER THE INPUT: true; the input reads as it did. -/
def fnUnquoteMatchesRunModelSpec : ChangeSpec := { name := "fnUnquoteMatchesRunModel", fn := fun _ => fun
  | [d] => { results := [.lit (.bool true)], args := [d] }
  | _ => none }
def fnUnquoteMatchesRunModelRow : OpenClaim := { program := "qxb6605562a", sum := "08c86cc883b04152d44d0f27a3c30a204f16d7adbc97d4a6fa7477b482572abc", func := "example.com/glossrow/glossrow/zzlaws_root_b1.FnUnquoteMatchesRunModel", spec := "fnUnquoteMatchesRunModel", inPlace := ["internal/bytealg.IndexByteString", "internal/bytealg.IndexString", "internal/abi.NoEscape", "internal/bytealg.MakeNoZero"], named := ["internal/bytealg.MaxLen"], apart := false }
def FnUnquoteMatchesRunModelSaid : Prop := fnUnquoteMatchesRunModelRow.holds Try.pinned (OpenSpec.ofChange fnUnquoteMatchesRunModelSpec)

/-- ITS FALSE NEIGHBOUR: 'it returns false'. Refute it at one input. -/
def fnUnquoteMatchesRunModelWrong : ChangeSpec := { name := "fnUnquoteMatchesRunModel", fn := fun _ => fun
  | [d] => { results := [.lit (.bool false)], args := [d] }
  | _ => none }
def FnUnquoteMatchesRunModelWrongFalsely : Prop := fnUnquoteMatchesRunModelRow.holds Try.pinned (OpenSpec.ofChange fnUnquoteMatchesRunModelWrong)

/-- 'zzlaws_root_b1.FnUnquoteInvertsEscape': WHATEVER THE INPUT: true; the input reads as it did. -/
def fnUnquoteInvertsEscapeSpec : ChangeSpec := { name := "fnUnquoteInvertsEscape", fn := fun _ => fun
  | [d] => { results := [.lit (.bool true)], args := [d] }
  | _ => none }
def fnUnquoteInvertsEscapeRow : OpenClaim := { program := "qxb6605562a", sum := "08c86cc883b04152d44d0f27a3c30a204f16d7adbc97d4a6fa7477b482572abc", func := "example.com/glossrow/glossrow/zzlaws_root_b1.FnUnquoteInvertsEscape", spec := "fnUnquoteInvertsEscape", inPlace := ["internal/bytealg.IndexByteString", "internal/bytealg.IndexString", "internal/abi.NoEscape", "internal/bytealg.MakeNoZero"], named := ["internal/bytealg.MaxLen"], apart := false }
def FnUnquoteInvertsEscapeSaid : Prop := fnUnquoteInvertsEscapeRow.holds Try.pinned (OpenSpec.ofChange fnUnquoteInvertsEscapeSpec)

/-- ITS FALSE NEIGHBOUR: 'it returns false'. Refute it at one input. -/
def fnUnquoteInvertsEscapeWrong : ChangeSpec := { name := "fnUnquoteInvertsEscape", fn := fun _ => fun
  | [d] => { results := [.lit (.bool false)], args := [d] }
  | _ => none }
def FnUnquoteInvertsEscapeWrongFalsely : Prop := fnUnquoteInvertsEscapeRow.holds Try.pinned (OpenSpec.ofChange fnUnquoteInvertsEscapeWrong)

/-- 'zzlaws_root_b1.FnCutShapeMatchesByteTable': WHATEVER THE INPUT: true; the input reads as it did. -/
def fnCutShapeMatchesByteTableSpec : ChangeSpec := { name := "fnCutShapeMatchesByteTable", fn := fun _ => fun
  | [d1, d2] => { results := [.lit (.bool true)], args := [d1, d2] }
  | _ => none }
def fnCutShapeMatchesByteTableRow : OpenClaim := { program := "qxb6605562a", sum := "08c86cc883b04152d44d0f27a3c30a204f16d7adbc97d4a6fa7477b482572abc", func := "example.com/glossrow/glossrow/zzlaws_root_b1.FnCutShapeMatchesByteTable", spec := "fnCutShapeMatchesByteTable", apart := false }
def FnCutShapeMatchesByteTableSaid : Prop := fnCutShapeMatchesByteTableRow.holds Try.pinned (OpenSpec.ofChange fnCutShapeMatchesByteTableSpec)

/-- ITS FALSE NEIGHBOUR: 'it returns false'. Refute it at one input. -/
def fnCutShapeMatchesByteTableWrong : ChangeSpec := { name := "fnCutShapeMatchesByteTable", fn := fun _ => fun
  | [d1, d2] => { results := [.lit (.bool false)], args := [d1, d2] }
  | _ => none }
def FnCutShapeMatchesByteTableWrongFalsely : Prop := fnCutShapeMatchesByteTableRow.holds Try.pinned (OpenSpec.ofChange fnCutShapeMatchesByteTableWrong)

/-- 'zzlaws_root_b1.FnCutShapeTakesAnyInstance': WHATEVER THE INPUT: true; the input reads as it did. -/
def fnCutShapeTakesAnyInstanceSpec : ChangeSpec := { name := "fnCutShapeTakesAnyInstance", fn := fun _ => fun
  | [d1, d2, d3] => { results := [.lit (.bool true)], args := [d1, d2, d3] }
  | _ => none }
def fnCutShapeTakesAnyInstanceRow : OpenClaim := { program := "qxb6605562a", sum := "08c86cc883b04152d44d0f27a3c30a204f16d7adbc97d4a6fa7477b482572abc", func := "example.com/glossrow/glossrow/zzlaws_root_b1.FnCutShapeTakesAnyInstance", spec := "fnCutShapeTakesAnyInstance", apart := false }
def FnCutShapeTakesAnyInstanceSaid : Prop := fnCutShapeTakesAnyInstanceRow.holds Try.pinned (OpenSpec.ofChange fnCutShapeTakesAnyInstanceSpec)

/-- ITS FALSE NEIGHBOUR: 'it returns false'. Refute it at one input. -/
def fnCutShapeTakesAnyInstanceWrong : ChangeSpec := { name := "fnCutShapeTakesAnyInstance", fn := fun _ => fun
  | [d1, d2, d3] => { results := [.lit (.bool false)], args := [d1, d2, d3] }
  | _ => none }
def FnCutShapeTakesAnyInstanceWrongFalsely : Prop := fnCutShapeTakesAnyInstanceRow.holds Try.pinned (OpenSpec.ofChange fnCutShapeTakesAnyInstanceWrong)

end Rows
end Go.Proofs.Qxb6605562a
