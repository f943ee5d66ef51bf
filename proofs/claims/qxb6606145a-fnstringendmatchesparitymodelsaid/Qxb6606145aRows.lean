/-
  No cell of these rows narrows 'for every input' (looked for: loops, veiled, ifaces, maps, wideKeys, modest, calm, conditions, laid).
  DERIVED. THE GIVEN ROWS OF THIS SEAT. 3 by the template 'for every input the law returns true; each argument reads behind the call as it read before'; 0 by the template 'total and deterministic' (their statements: Qxb6606145aTotals.lean).
  GIVEN WITH THE SEED: the statements are not yours to turn. If you find one false, say at which input.
  Laid BY PROGRAM, IN A SANDBOX (cutbox-rows.mjs): the forced cells as the released guide's own fill.sh prints them over the translation 875f36275bacd39e… (all of the seat's roots in one cut). By AI agents, Wed Nov 11 2026. No macro, syntax, notation, axiom, sorry.
-/
import Derived.Test.Qxb6606145aChecked
import GoSem.Claim
import GoSem.ClaimJoined
import GoSem.ClaimMapViews
import Derived.JoinedTies
import Derived.KernelRfl
namespace Go.Proofs.Qxb6606145a
/- THE CELL 'sum', in the pinned program and in every row, IS THE sha256 OF THE DUMP (.gsa) THAT Qxb6606145aProg.lean LOADS. Nothing in Lean hashes anything: it is a label: what it is worth is what the hold of that sum in a sandbox is worth. -/
noncomputable def Try.pinned : Pinned := { name := "qxb6606145a", sum := "875f36275bacd39eedf98f29d30d702ab52ff4097488e872a296e18deafa9a49", checked := Try.checked }
namespace Rows
def none {H : Type} : Left H := { results := [], args := [] }

/-- 'zzlaws_internal_manifest_b1.FnStringEndMatchesParityModel': WHATEVER THE INPUT: true; the input reads as it did. -/
def fnStringEndMatchesParityModelSpec : ChangeSpec := { name := "fnStringEndMatchesParityModel", fn := fun _ => fun
  | [d1, d2] => { results := [.lit (.bool true)], args := [d1, d2] }
  | _ => none }
def fnStringEndMatchesParityModelRow : OpenClaim := { program := "qxb6606145a", sum := "875f36275bacd39eedf98f29d30d702ab52ff4097488e872a296e18deafa9a49", func := "example.com/lading/lading/zzlaws_internal_manifest_b1.FnStringEndMatchesParityModel", spec := "fnStringEndMatchesParityModel", apart := false }
def FnStringEndMatchesParityModelSaid : Prop := fnStringEndMatchesParityModelRow.holds Try.pinned (OpenSpec.ofChange fnStringEndMatchesParityModelSpec)

/-- ITS FALSE NEIGHBOUR: 'it returns false'. Refute it at one input. -/
def fnStringEndMatchesParityModelWrong : ChangeSpec := { name := "fnStringEndMatchesParityModel", fn := fun _ => fun
  | [d1, d2] => { results := [.lit (.bool false)], args := [d1, d2] }
  | _ => none }
def FnStringEndMatchesParityModelWrongFalsely : Prop := fnStringEndMatchesParityModelRow.holds Try.pinned (OpenSpec.ofChange fnStringEndMatchesParityModelWrong)

/-- 'zzlaws_internal_manifest_b1.FnStringEndShiftsWithPrefix': WHATEVER THE INPUT: true; the input reads as it did. -/
def fnStringEndShiftsWithPrefixSpec : ChangeSpec := { name := "fnStringEndShiftsWithPrefix", fn := fun _ => fun
  | [d1, d2, d3] => { results := [.lit (.bool true)], args := [d1, d2, d3] }
  | _ => none }
def fnStringEndShiftsWithPrefixRow : OpenClaim := { program := "qxb6606145a", sum := "875f36275bacd39eedf98f29d30d702ab52ff4097488e872a296e18deafa9a49", func := "example.com/lading/lading/zzlaws_internal_manifest_b1.FnStringEndShiftsWithPrefix", spec := "fnStringEndShiftsWithPrefix", apart := false }
def FnStringEndShiftsWithPrefixSaid : Prop := fnStringEndShiftsWithPrefixRow.holds Try.pinned (OpenSpec.ofChange fnStringEndShiftsWithPrefixSpec)

/-- ITS FALSE NEIGHBOUR: 'it returns false'. Refute it at one input. -/
def fnStringEndShiftsWithPrefixWrong : ChangeSpec := { name := "fnStringEndShiftsWithPrefix", fn := fun _ => fun
  | [d1, d2, d3] => { results := [.lit (.bool false)], args := [d1, d2, d3] }
  | _ => none }
def FnStringEndShiftsWithPrefixWrongFalsely : Prop := fnStringEndShiftsWithPrefixRow.holds Try.pinned (OpenSpec.ofChange fnStringEndShiftsWithPrefixWrong)

/-- 'zzlaws_internal_manifest_b1.FnStringEndBoundedAndTruncates': WHATEVER THE INPUT: true; the input reads as it did. -/
def fnStringEndBoundedAndTruncatesSpec : ChangeSpec := { name := "fnStringEndBoundedAndTruncates", fn := fun _ => fun
  | [d1, d2, d3] => { results := [.lit (.bool true)], args := [d1, d2, d3] }
  | _ => none }
def fnStringEndBoundedAndTruncatesRow : OpenClaim := { program := "qxb6606145a", sum := "875f36275bacd39eedf98f29d30d702ab52ff4097488e872a296e18deafa9a49", func := "example.com/lading/lading/zzlaws_internal_manifest_b1.FnStringEndBoundedAndTruncates", spec := "fnStringEndBoundedAndTruncates", apart := false }
def FnStringEndBoundedAndTruncatesSaid : Prop := fnStringEndBoundedAndTruncatesRow.holds Try.pinned (OpenSpec.ofChange fnStringEndBoundedAndTruncatesSpec)

/-- ITS FALSE NEIGHBOUR: 'it returns false'. Refute it at one input. -/
def fnStringEndBoundedAndTruncatesWrong : ChangeSpec := { name := "fnStringEndBoundedAndTruncates", fn := fun _ => fun
  | [d1, d2, d3] => { results := [.lit (.bool false)], args := [d1, d2, d3] }
  | _ => none }
def FnStringEndBoundedAndTruncatesWrongFalsely : Prop := fnStringEndBoundedAndTruncatesRow.holds Try.pinned (OpenSpec.ofChange fnStringEndBoundedAndTruncatesWrong)

end Rows
end Go.Proofs.Qxb6606145a
