/-
  The walk of 'zzSortStrings', which calls itself.
-/
import Derived.Test.Qxb6615212aBase
namespace Go.Proofs.Qxb6615212a
open Go.ChangeShapes Go.WideShapes Go.ChangeAt Go.RowKit
set_option linter.unusedVariables false

/-- What a sort hands back. -/
def SortPost (ss : List ByteArray) (w : World) (e : Ending) (w' : World) : Prop :=
  ∃ v rs, e = .returned v ∧ Strs w' v rs ∧ rs.Perm ss ∧ Sorted rs ∧ Below w.heap.size w w'

set_option maxHeartbeats 400000 in
theorem sort_none (ao : Option Addr) (cap : Nat) (w : World) : Calls Try.prog 18 #[.slice ao 0 cap] w fun e w' => SortPost [] w e w' := by
  obtain ⟨i0, hi, hz0, hz1, hz2⟩ := info_parts Try.info9
  go_enter Try.func18, Try.ntmps18
  go_wp2_with (at_make; refine wpList_make_full _ rfl (.tmp 15) (.tmp 15) 40 rfl w.heap.size 9 i0 (.string ⟨#[]⟩) 1 Try.underlying40 hi hz0 hz1 .i64 .i64 0 0 0 rfl rfl rfl rfl (by omega) (by unfold maxLen; omega) (Nat.le_refl _) ?_)
  intro w1 hown hgrow
  have hB : Below w.heap.size w w1 := (Below.refl _ _).grown hgrow (Nat.le_refl _) (by intro k hk; cases hk)
  clear hown hgrow hz0 hz1 hz2 hi
  go_wp2_with fail
  refine wp_loop_rounds 1 ?_
  rw [rounds_succ]
  go_wp2_with fail
  go_ret
  exact ⟨_, [], rfl, strs_nil _ _ _ (by intro h; cases h), List.Perm.refl _, List.Pairwise.nil, hB⟩

set_option maxHeartbeats 400000 in
theorem sort_one (b off cap : Nat) (s : ByteArray) (w : World) (hb : b < w.heap.size) (hc : w.cell? ⟨b, off, none⟩ = some (.string s)) :
    Calls Try.prog 18 #[.slice (some ⟨b, off, none⟩) 1 cap] w fun e w' => SortPost [s] w e w' := by
  obtain ⟨i0, hi, hz0, hz1, hz2⟩ := info_parts Try.info9
  go_enter Try.func18, Try.ntmps18
  go_wp2_with (at_make; refine wpList_make_full _ rfl (.tmp 15) (.tmp 15) 40 rfl w.heap.size 9 i0 (.string ⟨#[]⟩) 1 Try.underlying40 hi hz0 hz1 .i64 .i64 1 1 1 rfl rfl rfl rfl (by omega) (by unfold maxLen; omega) (Nat.le_refl _) ?_)
  intro w1 hown hgrow
  have hB : Below w.heap.size w w1 := (Below.refl _ _).grown hgrow (Nat.le_refl _) (by intro k hk; cases hk)
  have hc1 := (hB.cell (p := ⟨b, off, none⟩) hb).trans hc
  obtain ⟨cur, hh, hcur⟩ : ∃ cur : Value, w1.heap[w.heap.size]? = some (.cells #[cur] 9 (0, 0)) ∧ True := by
    rcases hown.2 with ⟨h, _⟩ | ⟨g, cp, cur, h, _, hh, _, _, hsz, _⟩
    · cases h
    · simp at h
      obtain ⟨rfl, rfl⟩ := h
      have : cur = #[cur[0]'(by omega)] := by
        apply Array.ext
        · simpa using hsz
        · intro i h1 h2
          have : i = 0 := by omega
          subst this
          rfl
      exact ⟨_, by rw [hh]; congr 2, trivial⟩
  have hcc := cell_of_one hh
  have hff := free_of_one hh
  have hnew := one_setCell (u := .string s) hh
  have HN : Hid ((w1.setCell ⟨w.heap.size, 0, none⟩ (.string s)).heap[w.heap.size]? = some (.cells #[.string s] 9 (0, 0))) := hnew
  have hlt := lt_of_block hh
  clear hown hgrow hz0 hz1 hz2 hi hnew hh
  go_wp2_with fail
  refine wp_loop_rounds 2 ?_
  rw [rounds_succ]
  go_wp2_with fail
  rw [rounds_succ]
  go_wp2_with fail
  go_ret
  refine ⟨_, [s], rfl, strs_mk rfl (Nat.le_refl _) (by simpa using hlt) ?_, List.Perm.refl _, List.pairwise_singleton _ _, hB.setCell (Nat.le_refl _) _⟩
  intro j t hj
  have hj0 : j = 0 := by
    rcases Nat.eq_zero_or_pos j with h | h
    · exact h
    · rw [List.getElem?_eq_none (by simp; omega)] at hj; cases hj
  subst hj0
  simp at hj
  subst hj
  exact cell_of_one HN.out

set_option maxHeartbeats 1000000 in
theorem sort_step (ss : List ByteArray) (b off n cap : Nat) (w : World) (hn : ss.length = n) (h2 : 2 ≤ n) (hl : n ≤ 1048576) (hcap : n ≤ cap) (hb : b < w.heap.size)
    (hcell : ∀ j s, ss[j]? = some s → w.cell? ⟨b, off + j, none⟩ = some (.string s))
    (ih : ∀ (ss' : List ByteArray) (v : Value) (w : World), ss'.length < n → Strs w v ss' → Calls Try.prog 18 #[v] w fun e w' => SortPost ss' w e w') :
    Calls Try.prog 18 #[.slice (some ⟨b, off, none⟩) n cap] w fun e w' => SortPost ss w e w' := by
  have HN : Hid (ss.length = n) := hn
  have HC : Hid (∀ j s, ss[j]? = some s → w.cell? ⟨b, off + j, none⟩ = some (.string s)) := hcell
  have IH : Hid (∀ (ss' : List ByteArray) (v : Value) (w : World), ss'.length < n → Strs w v ss' → Calls Try.prog 18 #[v] w fun e w' => SortPost ss' w e w') := ih
  clear hn hcell ih
  have hd : decide ((n : Int) ≤ 1) = false := by simp; omega
  obtain ⟨i0, hi, hz0, hz1, hz2⟩ := info_parts Try.info9
  have hcm : ¬ cap = n / 2 := by omega
  go_enter Try.func18, Try.ntmps18
  go_wp2_with fail
  refine (IH.out (ss.take (n / 2)) _ _ ?_ ?_).mono ?_
  · rw [List.length_take, HN.out]; omega
  · refine strs_mk (by rw [List.length_take, HN.out]; omega) (by omega) hb fun j s hj => HC.out j s ?_
    rw [List.getElem?_take] at hj
    split at hj
    · exact hj
    · cases hj
  rintro e w1 ⟨v1, L, rfl, hL, hLp, hLs, hB1⟩
  go_wp2_with fail
  refine (IH.out (ss.drop (n / 2)) _ _ ?_ ?_).mono ?_
  · rw [List.length_drop, HN.out]; omega
  · refine strs_mk (by rw [List.length_drop, HN.out]) (by omega) (Nat.lt_of_lt_of_le hb hB1.size) fun j s hj => ?_
    rw [List.getElem?_drop] at hj
    have := (hB1.cell (p := ⟨b, off + (n / 2 + j), none⟩) hb).trans (HC.out _ s hj)
    rw [Nat.add_assoc]
    exact this
  rintro e w2 ⟨v2, R, rfl, hR, hRp, hRs, hB2⟩
  have hL2 := strs_below hL hB2
  have hB : Below w.heap.size w w2 := hB1.trans (hB2.mono hB1.size)
  have hlL : L.length = n / 2 := by rw [hLp.length_eq, List.length_take, HN.out]; omega
  have hlR : R.length = n - n / 2 := by rw [hRp.length_eq, List.length_drop, HN.out]
  have HP : Hid ((L ++ R).Perm ss) := by
    have := hLp.append hRp
    rw [List.take_append_drop] at this
    exact this
  clear hB1 hB2 hL hLp hRp IH HC
  rcases strs_cases hL2 with ⟨_, _, _, h⟩ | ⟨b1, o1, c1, hv1, hp1, hc1, hb1, hcell1⟩
  · rw [h] at hlL; simp at hlL; omega
  rcases strs_cases hR with ⟨_, _, _, h⟩ | ⟨b2, o2, c2, hv2, hp2, hc2, hb2, hcell2⟩
  · rw [h] at hlR; simp at hlR; omega
  rw [hv1, hv2]
  have H1 : Hid (∀ j s, L[j]? = some s → w2.cell? ⟨b1, o1 + j, none⟩ = some (.string s)) := hcell1
  have H2 : Hid (∀ j s, R[j]? = some s → w2.cell? ⟨b2, o2 + j, none⟩ = some (.string s)) := hcell2
  have HL : Hid (L.length = n / 2) := hlL
  have HR : Hid (R.length = n - n / 2) := hlR
  have hLle : L.length + R.length = n := by omega
  have HLR : Hid (L.length + R.length = n) := hLle
  have hbL : L.length ≤ 1048576 := by omega
  have hbR : R.length ≤ 1048576 := by omega
  clear hv1 hv2 hcell1 hcell2 hL2 hR hlL hlR hLle
  go_wp2_with (at_make; refine wpList_make_own _ rfl (.const (.int .i64 0)) (.tmp 43) 40 rfl w2.heap.size 9 i0 (.string ⟨#[]⟩) 1 Try.underlying40 hi hz0 hz1 .i64 .i64 n n rfl rfl rfl (by rw [hz2]; omega) (by unfold maxLen; omega) (Nat.le_refl _) ?_)
  intro w3 hown hgrow
  have hO : OwnS w2.heap.size w2 w3 (.slice (some ⟨w2.heap.size, 0, none⟩) 0 n) [] := ⟨hown, (Below.refl _ _).grown hgrow (Nat.le_refl _) (by intro k hk; cases hk), hgrow.size⟩
  clear hown hgrow hi hz0 hz1 hz2
  go_wp2_with fail
  have hlt1 : b1 < w2.heap.size := hb1
  have hlt2 : b2 < w2.heap.size := hb2
  go_loopw [8, 9, 10] (fun v iv jv wr => ∃ (i j : Nat) (m : List ByteArray), iv = .int .i64 i ∧ jv = .int .i64 j ∧ i ≤ L.length ∧ j ≤ R.length ∧ OwnS w2.heap.size w2 wr v m ∧ Merge L R i j m)
    (fun _ iv jv _ => L.length + R.length - (intOf iv).toNat - (intOf jv).toNat)
  case atStart => exact ⟨0, 0, [], rfl, rfl, Nat.zero_le _, Nat.zero_le _, hO, merge_start L R⟩
  case round =>
    clear hO
    obtain ⟨i, j, m, rfl, rfl, hi, hj, hO, hM⟩ := hrel
    have hml := merge_len hM hi hj
    have HM : Hid (m.length = i + j) := hml
    have hmb : m.length ≤ 1048576 := by have := HLR.out; omega
    clear hml
    by_cases hiL : i < L.length
    · by_cases hjR : j < R.length
      · obtain ⟨s, hs⟩ : ∃ s, L[i]? = some s := ⟨_, List.getElem?_eq_getElem hiL⟩
        obtain ⟨t, ht⟩ : ∃ t, R[j]? = some t := ⟨_, List.getElem?_eq_getElem hjR⟩
        have d1 : wr.cell? ⟨b1, o1 + i, none⟩ = some (.string s) := (hO.2.1.cell (p := ⟨b1, o1 + i, none⟩) hb1).trans (H1.out i s hs)
        have d2 : wr.cell? ⟨b2, o2 + j, none⟩ = some (.string t) := (hO.2.1.cell (p := ⟨b2, o2 + j, none⟩) hb2).trans (H2.out j t ht)
        have HS : Hid (L[i]? = some s) := hs
        have HT : Hid (R[j]? = some t) := ht
        clear hs ht
        have hii : (i : Int) < (L.length : Int) := by omega
        have hji : (j : Int) < (R.length : Int) := by omega
        cases hless : Op.bytesLess t.toList s.toList
        · have HX : Hid (Op.bytesLess t.toList s.toList = false) := hless
          go_wp2_with fail
          go_quiet (fail)
          have hOd := ownS_drewN hO nq
          have e1 : (wr.drewN nq).cell? ⟨b1, o1 + i, none⟩ = some (.string s) := d1
          have e2 : (wr.drewN nq).cell? ⟨b2, o2 + j, none⟩ = some (.string t) := d2
          generalize wr.drewN nq = wd at hOd e1 e2 ⊢
          clear hO d1 d2
          go_wp2_with (at_builtin; refine wpList_appS rfl (.tmp 73) (.tmp 78) rfl w2.heap.size w2 _ m s rfl hOd hmb rfl ?_)
          intro v' w' hO' _
          go_wp2_with fail
          go_roundw
          case rel => exact ⟨i + 1, j, m ++ [s], by go_num, by go_num, by omega, hj, hO', merge_left hM hLs HS.out (fun y hy => le_trans HX.out (sorted_drop hRs HT.out y hy))⟩
          case measure => simp [intOf]; omega
        · have HX : Hid (Op.bytesLess t.toList s.toList = true) := hless
          go_wp2_with fail
          go_quiet (fail)
          have hOd := ownS_drewN hO nq
          have e1 : (wr.drewN nq).cell? ⟨b1, o1 + i, none⟩ = some (.string s) := d1
          have e2 : (wr.drewN nq).cell? ⟨b2, o2 + j, none⟩ = some (.string t) := d2
          generalize wr.drewN nq = wd at hOd e1 e2 ⊢
          clear hO d1 d2
          go_wp2_with (at_builtin; refine wpList_appS rfl (.tmp 64) (.tmp 69) rfl w2.heap.size w2 _ m t rfl hOd hmb rfl ?_)
          intro v' w' hO' _
          go_wp2_with fail
          go_roundw
          case rel => exact ⟨i, j + 1, m ++ [t], by go_num, by go_num, hi, by omega, hO', merge_right hM hRs HT.out (fun y hy => le_trans (le_of_less HX.out) (sorted_drop hLs HS.out y hy))⟩
          case measure => simp [intOf]; omega
      · have hjR' : R.length ≤ j := by omega
        go_wp2_with fail
        go_loopw [8, 9] (fun v iv wr => ∃ (i : Nat) (m : List ByteArray), iv = .int .i64 i ∧ i ≤ L.length ∧ OwnS w2.heap.size w2 wr v m ∧ Merge L R i j m ∧ (i < L.length → R.length ≤ j))
          (fun _ iv _ => L.length - (intOf iv).toNat)
        case atStart => exact ⟨i, m, rfl, hi, hO, hM, by intro h; omega⟩
        case round =>
          clear hO hM HM hmb
          obtain ⟨i, m, rfl, hi, hO, hM, hend⟩ := hrel
          have hmb : m.length ≤ 1048576 := by have := merge_len hM hi hj; have := HLR.out; omega
          by_cases hiL : i < L.length
          · obtain ⟨s, hs⟩ : ∃ s, L[i]? = some s := ⟨_, List.getElem?_eq_getElem hiL⟩
            have d1 : wr.cell? ⟨b1, o1 + i, none⟩ = some (.string s) := (hO.2.1.cell (p := ⟨b1, o1 + i, none⟩) hb1).trans (H1.out i s hs)
            have HS : Hid (L[i]? = some s) := hs
            clear hs
            go_wp2_with (at_builtin; refine wpList_appS rfl (.tmp 86) (.tmp 91) rfl w2.heap.size w2 _ m s rfl hO hmb rfl ?_)
            intro v' w' hO' _
            go_wp2_with fail
            go_roundw
            case rel => exact ⟨i + 1, m ++ [s], by go_num, by omega, hO', merge_left hM hLs HS.out (fun y hy => by rw [List.drop_eq_nil_of_le (hend hiL)] at hy; cases hy), by intro h; exact hend hiL⟩
            case measure => simp [intOf]; omega
          · have hie : i = L.length := by omega
            have HE : Hid (i = L.length) := hie
            clear hie hend
            go_wp2_with fail
            go_loopw [8, 10] (fun v jv wr => ∃ (j : Nat) (m : List ByteArray), jv = .int .i64 j ∧ j ≤ R.length ∧ OwnS w2.heap.size w2 wr v m ∧ Merge L R i j m)
              (fun _ jv _ => R.length - (intOf jv).toNat)
            case atStart => exact ⟨j, m, rfl, hj, hO, hM⟩
            case round =>
              clear hO hM hmb
              obtain ⟨j, m, rfl, hj, hO, hM⟩ := hrel
              have hmb : m.length ≤ 1048576 := by have := merge_len hM hi hj; have := HLR.out; omega
              by_cases hjR : j < R.length
              · obtain ⟨t, ht⟩ : ∃ t, R[j]? = some t := ⟨_, List.getElem?_eq_getElem hjR⟩
                have d2 : wr.cell? ⟨b2, o2 + j, none⟩ = some (.string t) := (hO.2.1.cell (p := ⟨b2, o2 + j, none⟩) hb2).trans (H2.out j t ht)
                have HT : Hid (R[j]? = some t) := ht
                clear ht
                go_wp2_with (at_builtin; refine wpList_appS rfl (.tmp 99) (.tmp 104) rfl w2.heap.size w2 _ m t rfl hO hmb rfl ?_)
                intro v' w' hO' _
                go_wp2_with fail
                go_roundw
                case rel => exact ⟨j + 1, m ++ [t], by go_num, by omega, hO', merge_right hM hRs HT.out (fun y hy => by rw [List.drop_eq_nil_of_le (by have := HE.out; omega)] at hy; cases hy)⟩
                case measure => simp [intOf]; omega
              · have hje : j = R.length := by omega
                have hfin := merge_end (HE.out ▸ hje ▸ hM)
                have HF := hfin
                clear hje hfin
                go_wp2_with fail
                go_ret
                exact ⟨_, m, rfl, ownS_strs hO, HF.1.trans HP.out, HF.2, hB.trans (hO.2.1.mono hB.size)⟩
    · have hd1 : decide ((i : Int) < (L.length : Int)) = false := by simp; omega
      go_wp2_with fail
      go_loopw [8, 9] (fun v iv wr => ∃ (i : Nat) (m : List ByteArray), iv = .int .i64 i ∧ i ≤ L.length ∧ OwnS w2.heap.size w2 wr v m ∧ Merge L R i j m ∧ (i < L.length → R.length ≤ j))
        (fun _ iv _ => L.length - (intOf iv).toNat)
      case atStart => exact ⟨i, m, rfl, hi, hO, hM, by intro h; omega⟩
      case round =>
        clear hO hM HM hmb
        obtain ⟨i, m, rfl, hi, hO, hM, hend⟩ := hrel
        have hmb : m.length ≤ 1048576 := by have := merge_len hM hi hj; have := HLR.out; omega
        by_cases hiL : i < L.length
        · obtain ⟨s, hs⟩ : ∃ s, L[i]? = some s := ⟨_, List.getElem?_eq_getElem hiL⟩
          have d1 : wr.cell? ⟨b1, o1 + i, none⟩ = some (.string s) := (hO.2.1.cell (p := ⟨b1, o1 + i, none⟩) hb1).trans (H1.out i s hs)
          have HS : Hid (L[i]? = some s) := hs
          clear hs
          go_wp2_with (at_builtin; refine wpList_appS rfl (.tmp 86) (.tmp 91) rfl w2.heap.size w2 _ m s rfl hO hmb rfl ?_)
          intro v' w' hO' _
          go_wp2_with fail
          go_roundw
          case rel => exact ⟨i + 1, m ++ [s], by go_num, by omega, hO', merge_left hM hLs HS.out (fun y hy => by rw [List.drop_eq_nil_of_le (hend hiL)] at hy; cases hy), by intro h; exact hend hiL⟩
          case measure => simp [intOf]; omega
        · have hie : i = L.length := by omega
          have HE : Hid (i = L.length) := hie
          clear hie hend
          go_wp2_with fail
          go_loopw [8, 10] (fun v jv wr => ∃ (j : Nat) (m : List ByteArray), jv = .int .i64 j ∧ j ≤ R.length ∧ OwnS w2.heap.size w2 wr v m ∧ Merge L R i j m)
            (fun _ jv _ => R.length - (intOf jv).toNat)
          case atStart => exact ⟨j, m, rfl, hj, hO, hM⟩
          case round =>
            clear hO hM hmb
            obtain ⟨j, m, rfl, hj, hO, hM⟩ := hrel
            have hmb : m.length ≤ 1048576 := by have := merge_len hM hi hj; have := HLR.out; omega
            by_cases hjR : j < R.length
            · obtain ⟨t, ht⟩ : ∃ t, R[j]? = some t := ⟨_, List.getElem?_eq_getElem hjR⟩
              have d2 : wr.cell? ⟨b2, o2 + j, none⟩ = some (.string t) := (hO.2.1.cell (p := ⟨b2, o2 + j, none⟩) hb2).trans (H2.out j t ht)
              have HT : Hid (R[j]? = some t) := ht
              clear ht
              go_wp2_with (at_builtin; refine wpList_appS rfl (.tmp 99) (.tmp 104) rfl w2.heap.size w2 _ m t rfl hO hmb rfl ?_)
              intro v' w' hO' _
              go_wp2_with fail
              go_roundw
              case rel => exact ⟨j + 1, m ++ [t], by go_num, by omega, hO', merge_right hM hRs HT.out (fun y hy => by rw [List.drop_eq_nil_of_le (by have := HE.out; omega)] at hy; cases hy)⟩
              case measure => simp [intOf]; omega
            · have hje : j = R.length := by omega
              have hfin := merge_end (HE.out ▸ hje ▸ hM)
              have HF := hfin
              clear hje hfin
              go_wp2_with fail
              go_ret
              exact ⟨_, m, rfl, ownS_strs hO, HF.1.trans HP.out, HF.2, hB.trans (hO.2.1.mono hB.size)⟩

theorem sort_any (N : Nat) : ∀ (ss : List ByteArray) (v : Value) (w : World), ss.length ≤ N → ss.length ≤ 1048576 → Strs w v ss → Calls Try.prog 18 #[v] w fun e w' => SortPost ss w e w' := by
  induction N with
  | zero =>
    intro ss v w hN hl h
    rcases strs_cases h with ⟨ao, cap, rfl, rfl⟩ | ⟨b, off, cap, rfl, h0, _⟩
    · exact sort_none ao cap w
    · omega
  | succ N ih =>
    intro ss v w hN hl h
    rcases strs_cases h with ⟨ao, cap, rfl, rfl⟩ | ⟨b, off, cap, rfl, h0, hc, hb, hcell⟩
    · exact sort_none ao cap w
    · rcases Nat.lt_or_ge ss.length 2 with h1 | h1
      · match ss, h0, h1, hcell with
        | [s], _, _, hcell => exact sort_one b off cap s w hb (hcell 0 s rfl)
      · exact sort_step ss b off ss.length cap w rfl h1 hl hc hb hcell (fun ss' v' w' hlt h' => ih ss' v' w' (by omega) (by omega) h')
end Go.Proofs.Qxb6615212a
