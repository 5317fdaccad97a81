/-
  The walks of the callees of 'FnNamesBelowOrdersDescendants'.
-/
import Derived.Test.Qxb6617669aRows
import Derived.Test.Qxb6617669aPlain
import Derived.WalkKit
import Derived.WalkSpells
import Derived.ProofKit
import Derived.ShutString
namespace Go.Proofs.Qxb6617669a
open Go.ChangeShapes Go.WideShapes Go.ChangeAt Go.RowKit
set_option linter.unusedVariables false

theorem grown_trans {a b c : World} (h : Grown a b) (k : Grown b c) : Grown a c :=
  ⟨World.keptBut_trans h.1 k.1, fun x => (k.2.1 x).trans (h.2.1 x), Nat.le_trans h.2.2 k.2.2⟩

theorem ret_bool {a b : Bool} (h : a = b) : Ending.returned (.bool a) = .returned (.bool b) := by rw [h]

set_option maxHeartbeats 400000 in
theorem hasPrefix_any (s p : ByteArray) (w : World) (hs : s.size ≤ 65537) (hp : p.size ≤ 65537) :
    Calls Try.prog 7 #[.string s, .string p] w fun e w' => e = .returned (.bool (preB p s)) ∧ Grown w w' := by
  by_cases hlt : s.size < p.size
  · go_enter Try.func7, Try.ntmps7
    go_wp2
    go_ret
    exact ⟨ret_bool (pre_long hlt).symm, Grown.refl _⟩
  · go_enter Try.func7, Try.ntmps7
    go_wp2
    go_loopw [5] (fun i wr => ∃ k : Nat, k ≤ p.size ∧ i = .int .i64 k ∧ Grown w wr ∧ Agree s p k) (fun i _ => p.size - (intOf i).toNat)
    case atStart => exact ⟨0, Nat.zero_le _, rfl, Grown.refl _, agree_zero _ _⟩
    case round =>
      obtain ⟨k, hk, rfl, hg, hag⟩ := hrel
      by_cases hkl : k < p.size
      · have hks : k < s.size := by omega
        go_wp2
        go_region
        all_goals go_wp2
        · go_ret
          exact ⟨ret_bool (pre_no hks hkl ‹_›).symm, hg.drew⟩
        · exact ⟨⟨k + 1, by omega, by go_num, hg.drew, agree_succ hag hks hkl ‹_›⟩, by simp [intOf]; omega⟩
      · have e : k = p.size := by omega
        go_wp2
        go_ret
        exact ⟨ret_bool (pre_yes (e ▸ hag)).symm, hg⟩

set_option maxHeartbeats 400000 in
theorem strictly_any (a b : ByteArray) (w : World) (ha : a.size ≤ 65536) (hb : b.size ≤ 65536) :
    Calls Try.prog 6 #[.string a, .string b] w fun e w' => e = .returned (.bool (strictB a b)) ∧ Grown w w' := by
  by_cases hlt : b.size ≤ a.size
  · go_enter Try.func6, Try.ntmps6
    go_wp2
    go_ret
    exact ⟨ret_bool (strict_long hlt).symm, Grown.refl _⟩
  · go_enter Try.func6, Try.ntmps6
    go_wp2
    go_loopw [5] (fun i wr => ∃ k : Nat, k ≤ a.size ∧ i = .int .i64 k ∧ Grown w wr ∧ Agree a b k) (fun i _ => a.size - (intOf i).toNat)
    case atStart => exact ⟨0, Nat.zero_le _, rfl, Grown.refl _, agree_zero _ _⟩
    case round =>
      obtain ⟨k, hk, rfl, hg, hag⟩ := hrel
      by_cases hkl : k < a.size
      · have hks : k < b.size := by omega
        go_wp2
        go_region
        all_goals go_wp2
        · go_ret
          exact ⟨ret_bool (strict_no hkl hks ‹_›).symm, hg.drew⟩
        · exact ⟨⟨k + 1, by omega, by go_num, hg.drew, agree_succ hag hkl hks ‹_›⟩, by simp [intOf]; omega⟩
      · have e : k = a.size := by omega
        have hks : a.size < b.size := by omega
        go_wp2
        go_ret
        exact ⟨ret_bool (strict_end (e ▸ hag) hks).symm, hg⟩

theorem nb_calls (s : ByteArray) (w : World) (hs : s.size ≤ 65536) :
    Calls Try.prog 5 #[.string s] w fun e w' => e = .returned (.string (nbB s)) ∧ w' = w := by
  unfold nbB
  cases he : s.toList.isEmpty
  · go_enter Try.func5, Try.ntmps5
    go_wp2
    go_ret
    exact ⟨rfl, rfl⟩
  · go_enter Try.func5, Try.ntmps5
    go_wp2
    go_ret
    exact ⟨rfl, rfl⟩

theorem bytes_yes (a b : ByteArray) (w : World) (h : a.size + b.size ≤ 1048576) :
    Calls Try.prog 4 #[.string a, .string b] w fun e w' => e = .returned (.bool true) ∧ w' = w := by
  go_enter Try.func4, Try.ntmps4
  go_wp2
  go_ret
  exact ⟨rfl, rfl⟩

theorem bytes_no (a b : ByteArray) (w : World) (ha : a.size ≤ maxLen) (hb : b.size ≤ maxLen) (h : ¬ a.size + b.size ≤ 1048576) :
    Calls Try.prog 4 #[.string a, .string b] w fun e w' => e = .returned (.bool false) ∧ w' = w := by
  unfold maxLen at ha hb
  by_cases h1 : a.size ≤ 1048576
  · by_cases h2 : b.size ≤ 1048576
    all_goals
      go_enter Try.func4, Try.ntmps4
      go_wp2
      go_ret
      exact ⟨rfl, rfl⟩
  · go_enter Try.func4, Try.ntmps4
    go_wp2
    go_ret
    exact ⟨rfl, rfl⟩
end Go.Proofs.Qxb6617669a
