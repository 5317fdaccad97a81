/-
  The walk of 'zzEqualStrings'.
-/
import Derived.Test.Qxb6615212aBase
namespace Go.Proofs.Qxb6615212a
open Go.ChangeShapes Go.WideShapes Go.ChangeAt Go.RowKit
set_option linter.unusedVariables false

set_option maxHeartbeats 400000 in
theorem equal_any (v1 v2 : Value) (ss : List ByteArray) (w : World) (h1 : Strs w v1 ss) (h2 : Strs w v2 ss) (hl : ss.length ≤ 1048576) :
    Calls Try.prog 17 #[v1, v2] w fun e w' => e = .returned (.bool true) ∧ Below w.heap.size w w' := by
  rcases strs_cases h1 with ⟨ao, cap, rfl, rfl⟩ | ⟨b, off, cap, rfl, h0, hc, hb, hcell⟩
  · obtain ⟨ao2, cap2, rfl, _⟩ := h2
    go_enter Try.func17, Try.ntmps17
    go_wp2
    refine wp_loop_rounds 1 ?_
    rw [rounds_succ]
    go_wp2
    go_ret
    exact ⟨rfl, Below.refl _ _⟩
  · rcases strs_cases h2 with ⟨_, _, _, h⟩ | ⟨b2, off2, cap2, rfl, _, hc2, hb2, hcell2⟩
    · rw [h] at h0; simp at h0
    · have H1 : Hid (∀ j s, ss[j]? = some s → w.cell? ⟨b, off + j, none⟩ = some (.string s)) := hcell
      have H2 : Hid (∀ j s, ss[j]? = some s → w.cell? ⟨b2, off2 + j, none⟩ = some (.string s)) := hcell2
      clear hcell hcell2 h1 h2
      go_enter Try.func17, Try.ntmps17
      go_wp2
      go_loopw [5] (fun iv wr => ∃ k : Nat, k ≤ ss.length ∧ iv = .int .i64 k ∧ Below w.heap.size w wr) (fun iv _ => ss.length - (intOf iv).toNat)
      case atStart => exact ⟨0, Nat.zero_le _, rfl, Below.refl _ _⟩
      case round =>
        obtain ⟨k, hk, rfl, hB⟩ := hrel
        by_cases hlt : k < ss.length
        · obtain ⟨s, hs⟩ : ∃ s, ss[k]? = some s := ⟨_, List.getElem?_eq_getElem hlt⟩
          have c1 : wr.cell? ⟨b, off + k, none⟩ = some (.string s) := (hB.cell (p := ⟨b, off + k, none⟩) hb).trans (H1.out k s hs)
          have c2 : wr.cell? ⟨b2, off2 + k, none⟩ = some (.string s) := (hB.cell (p := ⟨b2, off2 + k, none⟩) hb2).trans (H2.out k s hs)
          have HS : Hid (ss[k]? = some s) := hs
          clear hs
          have hki : (k : Int) < (ss.length : Int) := by omega
          go_wp2
          go_quiet (fail)
          go_wp2
          go_roundw
          case rel => exact ⟨k + 1, by omega, by go_num, below_drewN hB _⟩
          case measure => simp [intOf]; omega
        · go_wp2
          go_ret
          exact ⟨rfl, hB⟩
end Go.Proofs.Qxb6615212a
