/-
  The walks of 'isNumberByte', 'byteAt' and of what lies round them.
-/
import Derived.Test.Qxb6615188aRows
import Derived.WalkKit
import Derived.WalkSpells
import Derived.ProofKit
import Derived.ShutString
import Derived.Below
namespace Go.Proofs.Qxb6615188a
open Go.ChangeShapes Go.WideShapes Go.ChangeAt Go.RowKit
set_option linter.unusedVariables false

/-- A byte that may be part of a number. -/
def numB (c : Int) : Bool := decide (48 ≤ c ∧ c ≤ 57) || decide (97 ≤ c ∧ c ≤ 122) || decide (65 ≤ c ∧ c ≤ 90) || decide (c = 95) || decide (c = 43) || decide (c = 45) || decide (c = 46)

theorem ret_bool {a b : Bool} (h : a = b) : Ending.returned (.bool a) = .returned (.bool b) := by rw [h]

set_option maxHeartbeats 400000 in
theorem isNumber_any (c : Int) (w : World) (h0 : 0 ≤ c) (h1 : c ≤ 255) :
    Calls Try.prog 5 #[.int .u8 c] w fun e w' => e = .returned (.bool (numB c)) ∧ w' = w := by
  go_enter Try.func5, Try.ntmps5
  go_wp2
  all_goals go_ret
  all_goals refine ⟨?_, rfl⟩
  all_goals first | rfl | (refine ret_bool ?_; rw [Bool.eq_iff_iff]; simp [numB]; omega) | (simp [numB]; omega)

set_option maxHeartbeats 400000 in
theorem byteAt_in (g len cap i : Nat) (v : Int) (w : World) (hl : len ≤ 1048576) (hi : i < len) (hg : g < w.heap.size) (hc : w.cell? ⟨g, i, none⟩ = some (.int .u8 v)) :
    Calls Try.prog 6 #[.slice (some ⟨g, 0, none⟩) len cap, .int .i64 i] w fun e w' => e = .returned (.int .u8 v) ∧ Below w.heap.size w w' := by
  go_enter Try.func6, Try.ntmps6
  go_wp2
  go_ret
  exact ⟨rfl, (Below.refl _ _).alloc (Nat.le_refl _) _⟩

set_option maxHeartbeats 400000 in
theorem byteAt_out (ao : Option Addr) (len cap : Nat) (i : Int) (w : World) (hl : len ≤ 1048576) (h0 : (len : Int) ≤ i) (hi : i ≤ 9223372036854775807) :
    Calls Try.prog 6 #[.slice ao len cap, .int .i64 i] w fun e w' => e = .returned (.int .u8 0) ∧ Below w.heap.size w w' := by
  go_enter Try.func6, Try.ntmps6
  go_wp2
  go_ret
  exact ⟨rfl, (Below.refl _ _).alloc (Nat.le_refl _) _⟩
end Go.Proofs.Qxb6615188a
