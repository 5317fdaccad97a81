/-
  The walk of the bound on total length.
-/
import Derived.Test.Qxb6615212aViews
namespace Go.Proofs.Qxb6615212a
open Go.ChangeShapes Go.WideShapes Go.ChangeAt Go.RowKit
set_option linter.unusedVariables false

/-- Every length is one that Go can tell. -/
def Fits (kss : List (List ByteArray)) : Prop := ∀ (i : Nat) (ks : List ByteArray), kss[i]? = some ks → ks.length ≤ 9223372036854775807 ∧ ∀ s ∈ ks, s.size ≤ 9223372036854775807

def BytesPost (kss : List (List ByteArray)) (ms : List Bool) (w : World) (e : Ending) (w' : World) : Prop :=
  ∃ r, e = .returned (.bool r) ∧ w' = w ∧ (r = true → kss.length ≤ 1048576 ∧ ms.length ≤ 1048576 ∧ SmallTo kss kss.length)

set_option maxRecDepth 100000 in
set_option maxHeartbeats 1000000 in
theorem bytes_any (v1 v2 : Value) (kss : List (List ByteArray)) (ms : List Bool) (w : World) (h1 : KeysV w v1 kss) (h2 : Bools w v2 ms)
    (hm1 : kss.length ≤ 9223372036854775807) (hm2 : ms.length ≤ 9223372036854775807) (hm3 : Fits kss) :
    Calls Try.prog 11 #[v1, v2] w fun e w' => BytesPost kss ms w e w' := by
  obtain ⟨ao, cap, rfl, hc, hpos⟩ := keysV_cases h1
  obtain ⟨ao2, cap2, rfl, _, _, _⟩ := bools_cases h2
  have H3 : Hid (Fits kss) := hm3
  have HPo : Hid (0 < kss.length → ∃ b off, ao = some ⟨b, off, none⟩ ∧ b < w.heap.size ∧ ∀ (i : Nat) (ks : List ByteArray), kss[i]? = some ks → ∃ u, w.cell? ⟨b, off + i, none⟩ = some u ∧ Strs w u ks) := hpos
  clear hm3 hpos h1 h2
  by_cases hl : kss.length ≤ 1048576
  · rcases Nat.eq_zero_or_pos kss.length with h0 | h0
    · have hnil : kss = [] := List.eq_nil_of_length_eq_zero h0
      subst hnil
      by_cases hl2 : ms.length ≤ 1048576
      · go_enter Try.func11, Try.ntmps11
        go_wp2
        refine wp_loop_rounds 1 ?_
        rw [rounds_succ]
        go_wp2
        go_ret
        exact ⟨true, rfl, rfl, fun _ => ⟨by simp, hl2, fun i ks hi => by simp at hi⟩⟩
      · go_enter Try.func11, Try.ntmps11
        go_wp2
        refine wp_loop_rounds 1 ?_
        rw [rounds_succ]
        go_wp2
        go_ret
        exact ⟨false, rfl, rfl, by intro h; cases h⟩
    · obtain ⟨b, off, rfl, hb, hcell⟩ := HPo.out h0
      have HCe : Hid (∀ (i : Nat) (ks : List ByteArray), kss[i]? = some ks → ∃ u, w.cell? ⟨b, off + i, none⟩ = some u ∧ Strs w u ks) := hcell
      clear hcell HPo
      go_enter Try.func11, Try.ntmps11
      go_wp2
      go_loop [5, 6] (fun nv iv => ∃ (t : Int) (i : Nat), nv = .int .i64 t ∧ 0 ≤ t ∧ t ≤ 1048576 ∧ iv = .int .i64 i ∧ i ≤ kss.length ∧ SmallTo kss i) (fun _ iv => kss.length - (intOf iv).toNat)
      case atStart => exact ⟨_, 0, rfl, by omega, by omega, rfl, Nat.zero_le _, small_zero kss⟩
      case round =>
        obtain ⟨t0, i, rfl, ht00, ht09, rfl, hi, hSm⟩ := hrel
        by_cases hik : i < kss.length
        · obtain ⟨ks, hks⟩ : ∃ ks, kss[i]? = some ks := ⟨_, List.getElem?_eq_getElem hik⟩
          obtain ⟨u, d1, hst⟩ := HCe.out i ks hks
          obtain ⟨hkl, hkm⟩ := H3.out i ks hks
          have HK : Hid (kss[i]? = some ks) := hks
          have HM : Hid (∀ (s : ByteArray), s ∈ ks → s.size ≤ 9223372036854775807) := hkm
          have hii : (i : Int) < (kss.length : Int) := by omega
          clear hks hkm
          rcases strs_cases hst with ⟨ao3, cap3, rfl, rfl⟩ | ⟨b3, off3, cap3, rfl, hp3, hc3, hb3, hcell3⟩
          · clear hst
            go_wp2
            refine wp_loop_rounds 1 ?_
            rw [rounds_succ]
            go_wp2
            go_round
            case rel => exact ⟨_, i + 1, rfl, by omega, by omega, by go_num, by omega, small_succ hSm HK.out (by simp) (by simp)⟩
            case measure => simp [intOf]; omega
          · have HC2 : Hid (∀ (j : Nat) (s : ByteArray), ks[j]? = some s → w.cell? ⟨b3, off3 + j, none⟩ = some (.string s)) := hcell3
            clear hcell3 hst
            by_cases hkl2 : ks.length ≤ 1048576
            · by_cases htk : t0 + (ks.length : Int) ≤ 1048576
              · go_wp2
                go_loop [5, 7] (fun nv jv => ∃ (t : Int) (j : Nat), nv = .int .i64 t ∧ 0 ≤ t ∧ t ≤ 1048576 ∧ jv = .int .i64 j ∧ j ≤ ks.length ∧ SmallIn ks j) (fun _ jv => ks.length - (intOf jv).toNat)
                case atStart => exact ⟨_, 0, rfl, by omega, by omega, rfl, Nat.zero_le _, smallIn_zero ks⟩
                case round =>
                  obtain ⟨t, j, rfl, ht0, ht9, rfl, hj, hS⟩ := hrel
                  by_cases hjl : j < ks.length
                  · obtain ⟨s, hs⟩ : ∃ s, ks[j]? = some s := ⟨_, List.getElem?_eq_getElem hjl⟩
                    have d2 := HC2.out j s hs
                    have HS : Hid (ks[j]? = some s) := hs
                    have hji : (j : Int) < (ks.length : Int) := by omega
                    clear hs
                    by_cases hsz : s.size ≤ 1048576
                    · by_cases hts : t + (s.size : Int) ≤ 1048576
                      · go_wp2
                        go_round
                        case rel => exact ⟨_, j + 1, rfl, by omega, by omega, by go_num, by omega, smallIn_succ hS HS.out hsz⟩
                        case measure => simp [intOf]; omega
                      · go_wp2
                        go_ret
                        exact ⟨false, rfl, rfl, by intro h; cases h⟩
                    · have hszb : s.size ≤ 9223372036854775807 := HM.out s (List.mem_of_getElem? HS.out)
                      go_wp2
                      go_ret
                      exact ⟨false, rfl, rfl, by intro h; cases h⟩
                  · have HE : Hid (∀ s ∈ ks, s.size ≤ 1048576) := smallIn_end hS (by omega)
                    go_wp2
                    go_round
                    case rel => exact ⟨_, i + 1, rfl, by omega, by omega, by go_num, by omega, small_succ hSm HK.out (by omega) HE.out⟩
                    case measure => simp [intOf]; omega
              · go_wp2
                go_ret
                exact ⟨false, rfl, rfl, by intro h; cases h⟩
            · go_wp2
              go_ret
              exact ⟨false, rfl, rfl, by intro h; cases h⟩
        · have HE : Hid (SmallTo kss kss.length) := by
            have : i = kss.length := by omega
            exact this ▸ hSm
          by_cases hl2 : ms.length ≤ 1048576
          · by_cases htm : t0 + (ms.length : Int) ≤ 1048576
            · go_wp2
              go_ret
              exact ⟨true, rfl, rfl, fun _ => ⟨hl, hl2, HE.out⟩⟩
            · go_wp2
              go_ret
              exact ⟨false, rfl, rfl, by intro h; cases h⟩
          · go_wp2
            go_ret
            exact ⟨false, rfl, rfl, by intro h; cases h⟩
  · go_enter Try.func11, Try.ntmps11
    go_wp2
    go_ret
    exact ⟨false, rfl, rfl, by intro h; cases h⟩
end Go.Proofs.Qxb6615212a
