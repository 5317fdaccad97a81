/-
  The walks of the bounds on total length, and a new Reader.
-/
import Derived.Test.Qxb6615838aCalls
namespace Go.Proofs.Qxb6615838a
open Go.ChangeShapes Go.WideShapes Go.ChangeAt Go.RowKit Go.MapKept
set_option linter.unusedVariables false

theorem new_st (w : World) : Calls Try.prog 8 #[] w fun e w' => e = .returned (.pointer (some ⟨w.heap.size, 0, none⟩)) ∧ St w.heap.size none w' ∧ Below w.heap.size w w' := by
  refine (new_any w).mono ?_
  rintro e w' ⟨rfl, rfl⟩
  exact ⟨rfl, heap_alloc_new w _, (Below.refl _ _).alloc (Nat.le_refl _) _⟩

theorem bytes7 (a b c d : ByteArray) (w : World) (ha : a.size ≤ maxLen) (hb : b.size ≤ maxLen) (hc : c.size ≤ maxLen) (hd : d.size ≤ maxLen) :
    Calls Try.prog 7 #[.string a, .string b, .string c, .string d] w fun e w' => ∃ r, e = .returned (.bool r) ∧ w' = w := by
  unfold maxLen at ha hb hc hd
  go_enter Try.func7, Try.ntmps7
  go_wp2
  all_goals
    go_ret
    exact ⟨_, rfl, rfl⟩

theorem bytes15 (a b c d e f : ByteArray) (x : Bool) (w : World) (ha : a.size ≤ maxLen) (hb : b.size ≤ maxLen) (hc : c.size ≤ maxLen) (hd : d.size ≤ maxLen) (he : e.size ≤ maxLen) (hf : f.size ≤ maxLen) :
    Calls Try.prog 15 #[.string a, .string b, .string c, .string d, .string e, .string f, .bool x] w fun e w' => ∃ r, e = .returned (.bool r) ∧ w' = w := by
  unfold maxLen at ha hb hc hd he hf
  go_enter Try.func15, Try.ntmps15
  go_wp2
  all_goals
    go_ret
    exact ⟨_, rfl, rfl⟩

theorem bytes19 (x : Bool) (a b c d : ByteArray) (w : World) (ha : a.size ≤ maxLen) (hb : b.size ≤ maxLen) (hc : c.size ≤ maxLen) (hd : d.size ≤ maxLen) :
    Calls Try.prog 19 #[.bool x, .string a, .string b, .string c, .string d] w fun e w' => ∃ r, e = .returned (.bool r) ∧ w' = w := by
  unfold maxLen at ha hb hc hd
  go_enter Try.func19, Try.ntmps19
  go_wp2
  all_goals
    go_ret
    exact ⟨_, rfl, rfl⟩

theorem bytes26 (x : Bool) (a b c : ByteArray) (w : World) (ha : a.size ≤ maxLen) (hb : b.size ≤ maxLen) (hc : c.size ≤ maxLen) :
    Calls Try.prog 26 #[.bool x, .string a, .string b, .string c] w fun e w' => ∃ r, e = .returned (.bool r) ∧ w' = w := by
  unfold maxLen at ha hb hc
  go_enter Try.func26, Try.ntmps26
  go_wp2
  all_goals
    go_ret
    exact ⟨_, rfl, rfl⟩
end Go.Proofs.Qxb6615838a
