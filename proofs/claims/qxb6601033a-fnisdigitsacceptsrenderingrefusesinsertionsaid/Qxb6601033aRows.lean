/-
  No cell of these rows narrows 'for every input' (looked for: loops, veiled, ifaces, maps, wideKeys, modest, calm, conditions, laid).
  DERIVED. THE GIVEN ROWS OF THIS SEAT. 2 by the template 'for every input the law returns true; each argument reads behind the call as it read before'; 0 by the template 'total and deterministic' (their statements: Qxb6601033aTotals.lean).
  GIVEN WITH THE SEED: the statements are not yours to turn. If you find one false, say at which input.
  Laid BY PROGRAM, IN A SANDBOX (cutbox-rows.mjs): the forced cells as the released guide's own fill.sh prints them over the translation 1973588defb88ab2… (all of the seat's roots in one cut). By AI agents, Wed Nov 11 2026. No macro, syntax, notation, axiom, sorry.
-/
import Derived.Test.Qxb6601033aChecked
import GoSem.Claim
import GoSem.ClaimJoined
import GoSem.ClaimMapViews
import Derived.JoinedTies
import Derived.KernelRfl
namespace Go.Proofs.Qxb6601033a
/- THE CELL 'sum', in the pinned program and in every row, IS THE sha256 OF THE DUMP (.gsa) THAT Qxb6601033aProg.lean LOADS. Nothing in Lean hashes anything: it is a label: what it is worth is what the hold of that sum in a sandbox is worth. -/
noncomputable def Try.pinned : Pinned := { name := "qxb6601033a", sum := "1973588defb88ab23b997eebe1e75d867279b506cdc5ce79314a2d788e5658c3", checked := Try.checked }
namespace Rows
def none {H : Type} : Left H := { results := [], args := [] }

/-- 'zzlaws_internal_input_b1.FnIsDigitsConcatenation': WHATEVER THE INPUT: true; the input reads as it did. -/
def fnIsDigitsConcatenationSpec : ChangeSpec := { name := "fnIsDigitsConcatenation", fn := fun _ => fun
  | [d1, d2] => { results := [.lit (.bool true)], args := [d1, d2] }
  | _ => none }
def fnIsDigitsConcatenationRow : OpenClaim := { program := "qxb6601033a", sum := "1973588defb88ab23b997eebe1e75d867279b506cdc5ce79314a2d788e5658c3", func := "example.com/custodex/custodex/zzlaws_internal_input_b1.FnIsDigitsConcatenation", spec := "fnIsDigitsConcatenation", apart := false }
def FnIsDigitsConcatenationSaid : Prop := fnIsDigitsConcatenationRow.holds Try.pinned (OpenSpec.ofChange fnIsDigitsConcatenationSpec)

/-- ITS FALSE NEIGHBOUR: 'it returns false'. Refute it at one input. -/
def fnIsDigitsConcatenationWrong : ChangeSpec := { name := "fnIsDigitsConcatenation", fn := fun _ => fun
  | [d1, d2] => { results := [.lit (.bool false)], args := [d1, d2] }
  | _ => none }
def FnIsDigitsConcatenationWrongFalsely : Prop := fnIsDigitsConcatenationRow.holds Try.pinned (OpenSpec.ofChange fnIsDigitsConcatenationWrong)

/-- 'zzlaws_internal_input_b1.FnIsDigitsAcceptsRenderingRefusesInsertion': WHATEVER THE INPUT: true; the input reads as it did. -/
def fnIsDigitsAcceptsRenderingRefusesInsertionSpec : ChangeSpec := { name := "fnIsDigitsAcceptsRenderingRefusesInsertion", fn := fun _ => fun
  | [d1, d2, d3] => { results := [.lit (.bool true)], args := [d1, d2, d3] }
  | _ => none }
def fnIsDigitsAcceptsRenderingRefusesInsertionRow : OpenClaim := { program := "qxb6601033a", sum := "1973588defb88ab23b997eebe1e75d867279b506cdc5ce79314a2d788e5658c3", func := "example.com/custodex/custodex/zzlaws_internal_input_b1.FnIsDigitsAcceptsRenderingRefusesInsertion", spec := "fnIsDigitsAcceptsRenderingRefusesInsertion", apart := false }
def FnIsDigitsAcceptsRenderingRefusesInsertionSaid : Prop := fnIsDigitsAcceptsRenderingRefusesInsertionRow.holds Try.pinned (OpenSpec.ofChange fnIsDigitsAcceptsRenderingRefusesInsertionSpec)

/-- ITS FALSE NEIGHBOUR: 'it returns false'. Refute it at one input. -/
def fnIsDigitsAcceptsRenderingRefusesInsertionWrong : ChangeSpec := { name := "fnIsDigitsAcceptsRenderingRefusesInsertion", fn := fun _ => fun
  | [d1, d2, d3] => { results := [.lit (.bool false)], args := [d1, d2, d3] }
  | _ => none }
def FnIsDigitsAcceptsRenderingRefusesInsertionWrongFalsely : Prop := fnIsDigitsAcceptsRenderingRefusesInsertionRow.holds Try.pinned (OpenSpec.ofChange fnIsDigitsAcceptsRenderingRefusesInsertionWrong)

end Rows
end Go.Proofs.Qxb6601033a
