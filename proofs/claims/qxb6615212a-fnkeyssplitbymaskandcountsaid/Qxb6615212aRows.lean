/-
  No cell of these rows narrows 'for every input' (looked for: loops, veiled, ifaces, maps, wideKeys, modest, calm, conditions, laid).
  DERIVED. THE GIVEN ROWS OF THIS SEAT. 3 by the template 'for every input the law returns true; each argument reads behind the call as it read before'; 0 by the template 'total and deterministic' (their statements: Qxb6615212aTotals.lean).
  GIVEN WITH THE SEED: the statements are not yours to turn. If you find one false, say at which input.
  Laid BY PROGRAM, IN A SANDBOX (cutbox-rows.mjs): the forced cells as the released guide's own fill.sh prints them over the translation 50cca54ebbfdc0e0… (all of the seat's roots in one cut). By AI agents, Wed Nov 11 2026. No macro, syntax, notation, axiom, sorry.
-/
import Derived.Test.Qxb6615212aChecked
import GoSem.Claim
import GoSem.ClaimJoined
import GoSem.ClaimMapViews
import Derived.JoinedTies
import Derived.KernelRfl
namespace Go.Proofs.Qxb6615212a
/- THE CELL 'sum', in the pinned program and in every row, IS THE sha256 OF THE DUMP (.gsa) THAT Qxb6615212aProg.lean LOADS. Nothing in Lean hashes anything: it is a label: what it is worth is what the hold of that sum in a sandbox is worth. -/
noncomputable def Try.pinned : Pinned := { name := "qxb6615212a", sum := "50cca54ebbfdc0e0d25caf42f4aa8fc90b2c4b46fef64fd6635b721c68f6e8ca", checked := Try.checked }
namespace Rows
def none {H : Type} : Left H := { results := [], args := [] }

/-- 'zzlaws_root_b1.FnWriteUint64SequenceReadsBack': WHATEVER THE INPUT: true; the input reads as it did. -/
def fnWriteUint64SequenceReadsBackSpec : ChangeSpec := { name := "fnWriteUint64SequenceReadsBack", fn := fun _ => fun
  | [d1, d2, d3] => { results := [.lit (.bool true)], args := [d1, d2, d3] }
  | _ => none }
def fnWriteUint64SequenceReadsBackRow : OpenClaim := { program := "qxb6615212a", sum := "50cca54ebbfdc0e0d25caf42f4aa8fc90b2c4b46fef64fd6635b721c68f6e8ca", func := "example.com/spinel/spinel/zzlaws_root_b1.FnWriteUint64SequenceReadsBack", spec := "fnWriteUint64SequenceReadsBack", named := ["encoding/binary.BigEndian"], apart := false }
def FnWriteUint64SequenceReadsBackSaid : Prop := fnWriteUint64SequenceReadsBackRow.holds Try.pinned (OpenSpec.ofChange fnWriteUint64SequenceReadsBackSpec)

/-- ITS FALSE NEIGHBOUR: 'it returns false'. Refute it at one input. -/
def fnWriteUint64SequenceReadsBackWrong : ChangeSpec := { name := "fnWriteUint64SequenceReadsBack", fn := fun _ => fun
  | [d1, d2, d3] => { results := [.lit (.bool false)], args := [d1, d2, d3] }
  | _ => none }
def FnWriteUint64SequenceReadsBackWrongFalsely : Prop := fnWriteUint64SequenceReadsBackRow.holds Try.pinned (OpenSpec.ofChange fnWriteUint64SequenceReadsBackWrong)

/-- 'zzlaws_root_b1.FnWriteUint64OrderPreserving': WHATEVER THE INPUT: true; the input reads as it did. -/
def fnWriteUint64OrderPreservingSpec : ChangeSpec := { name := "fnWriteUint64OrderPreserving", fn := fun _ => fun
  | [d1, d2] => { results := [.lit (.bool true)], args := [d1, d2] }
  | _ => none }
def fnWriteUint64OrderPreservingRow : OpenClaim := { program := "qxb6615212a", sum := "50cca54ebbfdc0e0d25caf42f4aa8fc90b2c4b46fef64fd6635b721c68f6e8ca", func := "example.com/spinel/spinel/zzlaws_root_b1.FnWriteUint64OrderPreserving", spec := "fnWriteUint64OrderPreserving", named := ["encoding/binary.BigEndian"], apart := false }
def FnWriteUint64OrderPreservingSaid : Prop := fnWriteUint64OrderPreservingRow.holds Try.pinned (OpenSpec.ofChange fnWriteUint64OrderPreservingSpec)

/-- ITS FALSE NEIGHBOUR: 'it returns false'. Refute it at one input. -/
def fnWriteUint64OrderPreservingWrong : ChangeSpec := { name := "fnWriteUint64OrderPreserving", fn := fun _ => fun
  | [d1, d2] => { results := [.lit (.bool false)], args := [d1, d2] }
  | _ => none }
def FnWriteUint64OrderPreservingWrongFalsely : Prop := fnWriteUint64OrderPreservingRow.holds Try.pinned (OpenSpec.ofChange fnWriteUint64OrderPreservingWrong)

/-- 'zzlaws_root_b1.FnKeysSplitByMaskAndCount': WHATEVER THE INPUT: true; the input reads as it did. -/
def fnKeysSplitByMaskAndCountSpec : ChangeSpec := { name := "fnKeysSplitByMaskAndCount", fn := fun _ => fun
  | [d1, d2] => { results := [.lit (.bool true)], args := [d1, d2] }
  | _ => none }
def fnKeysSplitByMaskAndCountRow : OpenClaim := { program := "qxb6615212a", sum := "50cca54ebbfdc0e0d25caf42f4aa8fc90b2c4b46fef64fd6635b721c68f6e8ca", func := "example.com/spinel/spinel/zzlaws_root_b1.FnKeysSplitByMaskAndCount", spec := "fnKeysSplitByMaskAndCount", inPlace := ["(*sync.RWMutex).RLock", "internal/race.Read", "internal/race.Disable", "sync/atomic.AddInt32", "sync.runtime_SemacquireRWMutexR", "internal/race.Enable", "internal/race.Acquire", "(*sync.RWMutex).RUnlock", "internal/race.ReleaseMerge", "(*sync.RWMutex).rUnlockSlow", "sync.fatal", "sync.runtime_Semrelease"], unfollowed := true, recurses := true, apart := false }
def FnKeysSplitByMaskAndCountSaid : Prop := fnKeysSplitByMaskAndCountRow.holds Try.pinned (OpenSpec.ofChange fnKeysSplitByMaskAndCountSpec)

/-- ITS FALSE NEIGHBOUR: 'it returns false'. Refute it at one input. -/
def fnKeysSplitByMaskAndCountWrong : ChangeSpec := { name := "fnKeysSplitByMaskAndCount", fn := fun _ => fun
  | [d1, d2] => { results := [.lit (.bool false)], args := [d1, d2] }
  | _ => none }
def FnKeysSplitByMaskAndCountWrongFalsely : Prop := fnKeysSplitByMaskAndCountRow.holds Try.pinned (OpenSpec.ofChange fnKeysSplitByMaskAndCountWrong)

end Rows
end Go.Proofs.Qxb6615212a
