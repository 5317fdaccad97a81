/-
  No cell of these rows narrows 'for every input' (looked for: loops, veiled, ifaces, maps, wideKeys, modest, calm, conditions, laid).
  DERIVED. THE GIVEN ROWS OF THIS SEAT. 1 by the template 'for every input the law returns true; each argument reads behind the call as it read before'; 0 by the template 'total and deterministic' (their statements: Qxb6615188aTotals.lean).
  GIVEN WITH THE SEED: the statements are not yours to turn. If you find one false, say at which input.
  Laid BY PROGRAM, IN A SANDBOX (cutbox-rows.mjs): the forced cells as the released guide's own fill.sh prints them over the translation bc1a051171e5c0d5… (all of the seat's roots in one cut). By AI agents, Wed Nov 11 2026. No macro, syntax, notation, axiom, sorry.
-/
import Derived.Test.Qxb6615188aChecked
import GoSem.Claim
import GoSem.ClaimJoined
import GoSem.ClaimMapViews
import Derived.JoinedTies
import Derived.KernelRfl
namespace Go.Proofs.Qxb6615188a
/- THE CELL 'sum', in the pinned program and in every row, IS THE sha256 OF THE DUMP (.gsa) THAT Qxb6615188aProg.lean LOADS. Nothing in Lean hashes anything: it is a label: what it is worth is what the hold of that sum in a sandbox is worth. -/
noncomputable def Try.pinned : Pinned := { name := "qxb6615188a", sum := "bc1a051171e5c0d561413d4e721fbfa34230cb04006afc0428dcfde24128fae0", checked := Try.checked }
namespace Rows
def none {H : Type} : Left H := { results := [], args := [] }

/-- 'zzlaws_pkg_toml_b1.FnIsNumberByteEndsAtDocumentEnd': WHATEVER THE INPUT: true; the input reads as it did. -/
def fnIsNumberByteEndsAtDocumentEndSpec : ChangeSpec := { name := "fnIsNumberByteEndsAtDocumentEnd", fn := fun _ => fun
  | [d1, d2, d3, d4] => { results := [.lit (.bool true)], args := [d1, d2, d3, d4] }
  | _ => none }
def fnIsNumberByteEndsAtDocumentEndRow : OpenClaim := { program := "qxb6615188a", sum := "bc1a051171e5c0d561413d4e721fbfa34230cb04006afc0428dcfde24128fae0", func := "example.com/izin/izin/zzlaws_pkg_toml_b1.FnIsNumberByteEndsAtDocumentEnd", spec := "fnIsNumberByteEndsAtDocumentEnd", apart := false }
def FnIsNumberByteEndsAtDocumentEndSaid : Prop := fnIsNumberByteEndsAtDocumentEndRow.holds Try.pinned (OpenSpec.ofChange fnIsNumberByteEndsAtDocumentEndSpec)

/-- ITS FALSE NEIGHBOUR: 'it returns false'. Refute it at one input. -/
def fnIsNumberByteEndsAtDocumentEndWrong : ChangeSpec := { name := "fnIsNumberByteEndsAtDocumentEnd", fn := fun _ => fun
  | [d1, d2, d3, d4] => { results := [.lit (.bool false)], args := [d1, d2, d3, d4] }
  | _ => none }
def FnIsNumberByteEndsAtDocumentEndWrongFalsely : Prop := fnIsNumberByteEndsAtDocumentEndRow.holds Try.pinned (OpenSpec.ofChange fnIsNumberByteEndsAtDocumentEndWrong)

end Rows
end Go.Proofs.Qxb6615188a
