/-
  The walk of 'zzDistinctSorted': what it hands back has as many elements as there are different strings.
-/
import Derived.Test.Qxb6615212aSort
namespace Go.Proofs.Qxb6615212a
open Go.ChangeShapes Go.WideShapes Go.ChangeAt Go.RowKit
set_option linter.unusedVariables false

theorem kept_len {s out : List ByteArray} {k : Nat} (h : Kept s k out) : out.length ≤ k := by
  have h1 := (perm_dd h.1 h.2).length_eq
  have h2 := len_dd (s.take k)
  have h3 := List.length_take_le k s
  omega

set_option maxHeartbeats 400000 in
theorem distinct_any (v : Value) (ss : List ByteArray) (w : World) (h : Strs w v ss) (hl : ss.length ≤ 1048576) :
    Calls Try.prog 16 #[v] w fun e w' => ∃ ao cap, e = .returned (.slice ao (dd ss).length cap) ∧ Below w.heap.size w w' := by
  go_enter Try.func16, Try.ntmps16
  go_wp2_with fail
  refine (sort_any _ ss v _ (Nat.le_refl _) hl h).mono ?_
  rintro e w1 ⟨v1, rs, rfl, hS, hP, hSo, hB⟩
  have HP : Hid (rs.Perm ss) := hP
  have hrl : rs.length ≤ 1048576 := by rw [hP.length_eq]; exact hl
  clear hP
  rcases strs_cases hS with ⟨ao, cap, hv, hnil⟩ | ⟨b, off, cap, hv, h0, hc, hb, hcell⟩
  · rw [hv]
    have HD : Hid ((dd ss).length = 0) := by
      have h1 := HP.out.length_eq
      have h2 := len_dd ss
      have h3 : rs.length = 0 := by rw [hnil]; rfl
      show (dd ss).length = 0
      omega
    clear hv hS hSo hrl HP hnil
    go_wp2_with fail
    refine wp_loop_rounds 1 ?_
    rw [rounds_succ]
    go_wp2_with fail
    go_ret
    exact ⟨none, 0, by rw [HD.out]; rfl, hB⟩
  · rw [hv]
    have H1 : Hid (∀ j s, rs[j]? = some s → w1.cell? ⟨b, off + j, none⟩ = some (.string s)) := hcell
    have hO0 := ownS_nil w1
    clear hv hcell hS
    go_wp2_with fail
    go_loopw [4, 5] (fun v iv wr => ∃ (k : Nat) (out : List ByteArray), iv = .int .i64 k ∧ k ≤ rs.length ∧ OwnS w1.heap.size w1 wr v out ∧ Kept rs k out)
      (fun _ iv _ => rs.length - (intOf iv).toNat)
    case atStart => exact ⟨0, [], rfl, Nat.zero_le _, hO0, kept_start rs⟩
    case round =>
      clear hO0
      obtain ⟨k, out, rfl, hk, hO, hK⟩ := hrel
      have hob : out.length ≤ 1048576 := by have := kept_len hK; omega
      by_cases hlt : k < rs.length
      · obtain ⟨s, hs⟩ : ∃ s, rs[k]? = some s := ⟨_, List.getElem?_eq_getElem hlt⟩
        have d1 : wr.cell? ⟨b, off + k, none⟩ = some (.string s) := (hO.2.1.cell (p := ⟨b, off + k, none⟩) hb).trans (H1.out k s hs)
        have HS : Hid (rs[k]? = some s) := hs
        have hki : (k : Int) < (rs.length : Int) := by omega
        clear hs
        rcases Nat.eq_zero_or_pos k with h0k | h0k
        · subst h0k
          have hg0 : decide ((0 : Int) < ((0 : Nat) : Int)) = false := by simp
          go_wp2_with fail
          go_quiet (fail)
          have hOd := ownS_drewN hO nq
          have e1 : (wr.drewN nq).cell? ⟨b, off, none⟩ = some (.string s) := by simpa using d1
          generalize wr.drewN nq = wd at hOd e1 ⊢
          clear hO d1
          go_wp2_with (at_builtin; refine wpList_appS rfl (.tmp 28) (.tmp 33) rfl w1.heap.size w1 _ out s rfl hOd hob rfl ?_)
          intro v' w' hO' _
          go_wp2_with fail
          go_roundw
          case rel => exact ⟨0 + 1, out ++ [s], by go_num, by omega, hO', kept_new hK HS.out (by simp)⟩
          case measure => simp [intOf]; omega
        · obtain ⟨p, rfl⟩ : ∃ p, k = p + 1 := ⟨k - 1, by omega⟩
          obtain ⟨t, ht⟩ : ∃ t, rs[p]? = some t := ⟨_, List.getElem?_eq_getElem (by omega)⟩
          have d2 : wr.cell? ⟨b, off + p, none⟩ = some (.string t) := (hO.2.1.cell (p := ⟨b, off + p, none⟩) hb).trans (H1.out p t ht)
          have HT : Hid (rs[p]? = some t) := ht
          clear ht
          cases heq : (s.toList == t.toList)
          · have HX : Hid (s ≠ t) := ne_of_toList heq
            go_wp2_with fail
            go_quiet (fail)
            have hOd := ownS_drewN hO nq
            have e1 : (wr.drewN nq).cell? ⟨b, off + (p + 1), none⟩ = some (.string s) := d1
            generalize wr.drewN nq = wd at hOd e1 ⊢
            clear hO d1 d2
            go_wp2_with (at_builtin; refine wpList_appS rfl (.tmp 28) (.tmp 33) rfl w1.heap.size w1 _ out s rfl hOd hob rfl ?_)
            intro v' w' hO' _
            go_wp2_with fail
            go_roundw
            case rel => exact ⟨p + 1 + 1, out ++ [s], by go_num, by omega, hO', kept_new hK HS.out (new_of_ne hSo HT.out HS.out HX.out)⟩
            case measure => simp [intOf]; omega
          · have HX : Hid (s = t) := eq_of_toList heq
            go_wp2_with fail
            go_quiet (fail)
            have hOd := ownS_drewN hO nq
            generalize wr.drewN nq = wd at hOd ⊢
            clear hO d1 d2
            go_wp2_with fail
            go_roundw
            case rel => exact ⟨p + 1 + 1, out, by go_num, by omega, hOd, kept_same hK HS.out (HX.out ▸ mem_prev HT.out)⟩
            case measure => simp [intOf]; omega
      · have HD : Hid (out.length = (dd ss).length) := (kept_end hK (by omega) HP.out).length_eq
        obtain ⟨ao, cp, hv, _⟩ := ownS_strs hO
        have HV : Hid (u4 = Value.slice ao (out.map Value.string).length cp) := hv
        clear hv
        go_wp2_with fail
        go_ret
        refine ⟨ao, cp, ?_, hB.trans (hO.2.1.mono hB.size)⟩
        rw [← HD.out]
        have := HV.out
        rw [List.length_map] at this
        rw [← this]
        rfl
end Go.Proofs.Qxb6615212a
