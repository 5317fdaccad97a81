/-
  No cell of these rows narrows 'for every input' (looked for: loops, veiled, ifaces, maps, wideKeys, modest, calm, conditions, laid).
  DERIVED. THE GIVEN ROWS OF THIS SEAT. 1 by the template 'for every input the law returns true; each argument reads behind the call as it read before'; 0 by the template 'total and deterministic' (their statements: Qxb6617669aTotals.lean).
  GIVEN WITH THE SEED: the statements are not yours to turn. If you find one false, say at which input.
  Laid BY PROGRAM, IN A SANDBOX (cutbox-rows.mjs): the forced cells as the released guide's own fill.sh prints them over the translation da99168cca0bab1c… (all of the seat's roots in one cut). By AI agents, Wed Nov 11 2026. No macro, syntax, notation, axiom, sorry.
-/
import Derived.Test.Qxb6617669aChecked
import GoSem.Claim
import GoSem.ClaimJoined
import GoSem.ClaimMapViews
import Derived.JoinedTies
import Derived.KernelRfl
namespace Go.Proofs.Qxb6617669a
/- THE CELL 'sum', in the pinned program and in every row, IS THE sha256 OF THE DUMP (.gsa) THAT Qxb6617669aProg.lean LOADS. Nothing in Lean hashes anything: it is a label: what it is worth is what the hold of that sum in a sandbox is worth. -/
noncomputable def Try.pinned : Pinned := { name := "qxb6617669a", sum := "da99168cca0bab1c099977b487412993499f8fea1fe574aabdc1b838ae39953c", checked := Try.checked }
namespace Rows
def none {H : Type} : Left H := { results := [], args := [] }

/-- 'zzlaws_store_b1.FnNamesBelowOrdersDescendants': WHATEVER THE INPUT: true; the input reads as it did. -/
def fnNamesBelowOrdersDescendantsSpec : ChangeSpec := { name := "fnNamesBelowOrdersDescendants", fn := fun _ => fun
  | [d1, d2] => { results := [.lit (.bool true)], args := [d1, d2] }
  | _ => none }
def fnNamesBelowOrdersDescendantsRow : OpenClaim := { program := "qxb6617669a", sum := "da99168cca0bab1c099977b487412993499f8fea1fe574aabdc1b838ae39953c", func := "example.com/bab/bab/zzlaws_store_b1.FnNamesBelowOrdersDescendants", spec := "fnNamesBelowOrdersDescendants", apart := false }
def FnNamesBelowOrdersDescendantsSaid : Prop := fnNamesBelowOrdersDescendantsRow.holds Try.pinned (OpenSpec.ofChange fnNamesBelowOrdersDescendantsSpec)

/-- ITS FALSE NEIGHBOUR: 'it returns false'. Refute it at one input. -/
def fnNamesBelowOrdersDescendantsWrong : ChangeSpec := { name := "fnNamesBelowOrdersDescendants", fn := fun _ => fun
  | [d1, d2] => { results := [.lit (.bool false)], args := [d1, d2] }
  | _ => none }
def FnNamesBelowOrdersDescendantsWrongFalsely : Prop := fnNamesBelowOrdersDescendantsRow.holds Try.pinned (OpenSpec.ofChange fnNamesBelowOrdersDescendantsWrong)

end Rows
end Go.Proofs.Qxb6617669a
