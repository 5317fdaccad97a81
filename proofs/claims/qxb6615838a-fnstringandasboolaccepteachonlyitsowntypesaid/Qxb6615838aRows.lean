/-
  No cell of these rows narrows 'for every input' (looked for: loops, veiled, ifaces, maps, wideKeys, modest, calm, conditions, laid).
  DERIVED. THE GIVEN ROWS OF THIS SEAT. 4 by the template 'for every input the law returns true; each argument reads behind the call as it read before'; 0 by the template 'total and deterministic' (their statements: Qxb6615838aTotals.lean).
  GIVEN WITH THE SEED: the statements are not yours to turn. If you find one false, say at which input.
  Laid BY PROGRAM, IN A SANDBOX (cutbox-rows.mjs): the forced cells as the released guide's own fill.sh prints them over the translation aec34c8c81704cf1… (all of the seat's roots in one cut). By AI agents, Wed Nov 11 2026. No macro, syntax, notation, axiom, sorry.
-/
import Derived.Test.Qxb6615838aChecked
import GoSem.Claim
import GoSem.ClaimJoined
import GoSem.ClaimMapViews
import Derived.JoinedTies
import Derived.KernelRfl
namespace Go.Proofs.Qxb6615838a
/- THE CELL 'sum', in the pinned program and in every row, IS THE sha256 OF THE DUMP (.gsa) THAT Qxb6615838aProg.lean LOADS. Nothing in Lean hashes anything: it is a label: what it is worth is what the hold of that sum in a sandbox is worth. -/
noncomputable def Try.pinned : Pinned := { name := "qxb6615838a", sum := "aec34c8c81704cf1f8077e61b1b9bfaba1b853b7d97b736c9eeb276c4e3e8390", checked := Try.checked }
namespace Rows
def none {H : Type} : Left H := { results := [], args := [] }

/-- 'zzlaws_pkg_jsonfield_b1.FnStringReadsItsFieldAndNamesAWrongType': WHATEVER THE INPUT: true; the input reads as it did. -/
def fnStringReadsItsFieldAndNamesAWrongTypeSpec : ChangeSpec := { name := "fnStringReadsItsFieldAndNamesAWrongType", fn := fun _ => fun
  | [d1, d2, d3, d4] => { results := [.lit (.bool true)], args := [d1, d2, d3, d4] }
  | _ => none }
def fnStringReadsItsFieldAndNamesAWrongTypeRow : OpenClaim := { program := "qxb6615838a", sum := "aec34c8c81704cf1f8077e61b1b9bfaba1b853b7d97b736c9eeb276c4e3e8390", func := "example.com/rungs/rungs/zzlaws_pkg_jsonfield_b1.FnStringReadsItsFieldAndNamesAWrongType", spec := "fnStringReadsItsFieldAndNamesAWrongType", apart := false }
def FnStringReadsItsFieldAndNamesAWrongTypeSaid : Prop := fnStringReadsItsFieldAndNamesAWrongTypeRow.holds Try.pinned (OpenSpec.ofChange fnStringReadsItsFieldAndNamesAWrongTypeSpec)

/-- ITS FALSE NEIGHBOUR: 'it returns false'. Refute it at one input. -/
def fnStringReadsItsFieldAndNamesAWrongTypeWrong : ChangeSpec := { name := "fnStringReadsItsFieldAndNamesAWrongType", fn := fun _ => fun
  | [d1, d2, d3, d4] => { results := [.lit (.bool false)], args := [d1, d2, d3, d4] }
  | _ => none }
def FnStringReadsItsFieldAndNamesAWrongTypeWrongFalsely : Prop := fnStringReadsItsFieldAndNamesAWrongTypeRow.holds Try.pinned (OpenSpec.ofChange fnStringReadsItsFieldAndNamesAWrongTypeWrong)

/-- 'zzlaws_pkg_jsonfield_b1.FnStringKeepsTheFirstWrongTypeAndNamesItsType': WHATEVER THE INPUT: true; the input reads as it did. -/
def fnStringKeepsTheFirstWrongTypeAndNamesItsTypeSpec : ChangeSpec := { name := "fnStringKeepsTheFirstWrongTypeAndNamesItsType", fn := fun _ => fun
  | [d1, d2, d3, d4, d5, d6, d7] => { results := [.lit (.bool true)], args := [d1, d2, d3, d4, d5, d6, d7] }
  | _ => none }
def fnStringKeepsTheFirstWrongTypeAndNamesItsTypeRow : OpenClaim := { program := "qxb6615838a", sum := "aec34c8c81704cf1f8077e61b1b9bfaba1b853b7d97b736c9eeb276c4e3e8390", func := "example.com/rungs/rungs/zzlaws_pkg_jsonfield_b1.FnStringKeepsTheFirstWrongTypeAndNamesItsType", spec := "fnStringKeepsTheFirstWrongTypeAndNamesItsType", apart := false }
def FnStringKeepsTheFirstWrongTypeAndNamesItsTypeSaid : Prop := fnStringKeepsTheFirstWrongTypeAndNamesItsTypeRow.holds Try.pinned (OpenSpec.ofChange fnStringKeepsTheFirstWrongTypeAndNamesItsTypeSpec)

/-- ITS FALSE NEIGHBOUR: 'it returns false'. Refute it at one input. -/
def fnStringKeepsTheFirstWrongTypeAndNamesItsTypeWrong : ChangeSpec := { name := "fnStringKeepsTheFirstWrongTypeAndNamesItsType", fn := fun _ => fun
  | [d1, d2, d3, d4, d5, d6, d7] => { results := [.lit (.bool false)], args := [d1, d2, d3, d4, d5, d6, d7] }
  | _ => none }
def FnStringKeepsTheFirstWrongTypeAndNamesItsTypeWrongFalsely : Prop := fnStringKeepsTheFirstWrongTypeAndNamesItsTypeRow.holds Try.pinned (OpenSpec.ofChange fnStringKeepsTheFirstWrongTypeAndNamesItsTypeWrong)

/-- 'zzlaws_pkg_jsonfield_b1.FnAsBoolReadsBooleansAndNamesAWrongType': WHATEVER THE INPUT: true; the input reads as it did. -/
def fnAsBoolReadsBooleansAndNamesAWrongTypeSpec : ChangeSpec := { name := "fnAsBoolReadsBooleansAndNamesAWrongType", fn := fun _ => fun
  | [d1, d2, d3, d4, d5] => { results := [.lit (.bool true)], args := [d1, d2, d3, d4, d5] }
  | _ => none }
def fnAsBoolReadsBooleansAndNamesAWrongTypeRow : OpenClaim := { program := "qxb6615838a", sum := "aec34c8c81704cf1f8077e61b1b9bfaba1b853b7d97b736c9eeb276c4e3e8390", func := "example.com/rungs/rungs/zzlaws_pkg_jsonfield_b1.FnAsBoolReadsBooleansAndNamesAWrongType", spec := "fnAsBoolReadsBooleansAndNamesAWrongType", apart := false }
def FnAsBoolReadsBooleansAndNamesAWrongTypeSaid : Prop := fnAsBoolReadsBooleansAndNamesAWrongTypeRow.holds Try.pinned (OpenSpec.ofChange fnAsBoolReadsBooleansAndNamesAWrongTypeSpec)

/-- ITS FALSE NEIGHBOUR: 'it returns false'. Refute it at one input. -/
def fnAsBoolReadsBooleansAndNamesAWrongTypeWrong : ChangeSpec := { name := "fnAsBoolReadsBooleansAndNamesAWrongType", fn := fun _ => fun
  | [d1, d2, d3, d4, d5] => { results := [.lit (.bool false)], args := [d1, d2, d3, d4, d5] }
  | _ => none }
def FnAsBoolReadsBooleansAndNamesAWrongTypeWrongFalsely : Prop := fnAsBoolReadsBooleansAndNamesAWrongTypeRow.holds Try.pinned (OpenSpec.ofChange fnAsBoolReadsBooleansAndNamesAWrongTypeWrong)

/-- 'zzlaws_pkg_jsonfield_b1.FnStringAndAsBoolAcceptEachOnlyItsOwnType': WHATEVER THE INPUT: true; the input reads as it did. -/
def fnStringAndAsBoolAcceptEachOnlyItsOwnTypeSpec : ChangeSpec := { name := "fnStringAndAsBoolAcceptEachOnlyItsOwnType", fn := fun _ => fun
  | [d1, d2, d3, d4] => { results := [.lit (.bool true)], args := [d1, d2, d3, d4] }
  | _ => none }
def fnStringAndAsBoolAcceptEachOnlyItsOwnTypeRow : OpenClaim := { program := "qxb6615838a", sum := "aec34c8c81704cf1f8077e61b1b9bfaba1b853b7d97b736c9eeb276c4e3e8390", func := "example.com/rungs/rungs/zzlaws_pkg_jsonfield_b1.FnStringAndAsBoolAcceptEachOnlyItsOwnType", spec := "fnStringAndAsBoolAcceptEachOnlyItsOwnType", apart := false }
def FnStringAndAsBoolAcceptEachOnlyItsOwnTypeSaid : Prop := fnStringAndAsBoolAcceptEachOnlyItsOwnTypeRow.holds Try.pinned (OpenSpec.ofChange fnStringAndAsBoolAcceptEachOnlyItsOwnTypeSpec)

/-- ITS FALSE NEIGHBOUR: 'it returns false'. Refute it at one input. -/
def fnStringAndAsBoolAcceptEachOnlyItsOwnTypeWrong : ChangeSpec := { name := "fnStringAndAsBoolAcceptEachOnlyItsOwnType", fn := fun _ => fun
  | [d1, d2, d3, d4] => { results := [.lit (.bool false)], args := [d1, d2, d3, d4] }
  | _ => none }
def FnStringAndAsBoolAcceptEachOnlyItsOwnTypeWrongFalsely : Prop := fnStringAndAsBoolAcceptEachOnlyItsOwnTypeRow.holds Try.pinned (OpenSpec.ofChange fnStringAndAsBoolAcceptEachOnlyItsOwnTypeWrong)

end Rows
end Go.Proofs.Qxb6615838a
