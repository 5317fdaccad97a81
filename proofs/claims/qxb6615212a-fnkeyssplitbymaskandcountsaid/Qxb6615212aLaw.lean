/-
  'Rows.FnKeysSplitByMaskAndCountSaid': the law's own walk.
-/
import Derived.Test.Qxb6615212aMasks
namespace Go.Proofs.Qxb6615212a
open Go.ChangeShapes Go.WideShapes Go.ChangeAt Go.RowKit
set_option linter.unusedVariables false

theorem law_perm {kss : List (List ByteArray)} {n : Nat} {ms : List Bool} {ra rb rc : List ByteArray} (hn : kss.length = n) (ha : ra.Perm (pick kss (maskAt ms) kss.length)) (hb : rb.Perm (pick kss (maskAt (compTo ms n n)) kss.length)) (hc : rc.Perm (pick kss (maskAt (allTo n n)) kss.length)) :
    ra.length + rb.length = cnt kss n ∧ rc.length = cnt kss n ∧ (ra ++ rb).Perm rc := by
  subst hn
  rw [pick_comp] at hb
  rw [pick_all] at hc
  have h := ((ha.append hb).trans (pick_split kss (maskAt ms) kss.length))
  refine ⟨?_, hc.length_eq, h.trans hc.symm⟩
  have := h.length_eq
  rw [List.length_append] at this
  exact this

theorem strs_shape {w : World} {v : Value} {ss : List ByteArray} (h : Strs w v ss) : ∃ ao cap, v = .slice ao ss.length cap := by
  obtain ⟨ao, cap, h1, _⟩ := h
  exact ⟨ao, cap, by rw [h1, List.length_map]⟩
theorem strs_at {w : World} {ao : Option Addr} {n cap i : Nat} {ss : List ByteArray} {s : ByteArray} (h : Strs w (.slice ao n cap) ss) (hs : ss[i]? = some s) :
    ∃ b off, ao = some ⟨b, off, none⟩ ∧ b < w.heap.size ∧ w.cell? ⟨b, off + i, none⟩ = some (.string s) := by
  rcases strs_cases h with ⟨_, _, _, rfl⟩ | ⟨b, off, cap', h1, _, _, hb, hcell⟩
  · simp at hs
  · cases h1
    exact ⟨b, off, rfl, hb, hcell i s hs⟩

set_option maxRecDepth 100000 in
set_option maxHeartbeats 4000000 in
theorem walk (v1 v2 : Value) (kss : List (List ByteArray)) (ms : List Bool) (w : World) (hk : KeysV w v1 kss) (hm : Bools w v2 ms) (hm1 : kss.length ≤ 9223372036854775807) (hm2 : ms.length ≤ 9223372036854775807) (hm3 : Fits kss) :
    Calls Try.prog 5 #[v1, v2] w fun e w' => e = .returned (.bool true) ∧ Below w.heap.size w w' := by
  have qn := fun (w : World) (a : Option Addr) (n c : Nat) => run_neq_slice_nil_any (P := Try.prog) w 35 4 a n c 0 0 Try.underlying35
  obtain ⟨ao, cap, hv1, hcap, hkp⟩ := keysV_cases hk
  obtain ⟨ao2, cap2, hv2, hcap2, hnil2, hmp⟩ := bools_cases hm
  have HK : Hid (0 < kss.length → ∃ b off, ao = some ⟨b, off, none⟩ ∧ b < w.heap.size ∧ ∀ (i : Nat) (ks : List ByteArray), kss[i]? = some ks → ∃ u, w.cell? ⟨b, off + i, none⟩ = some u ∧ Strs w u ks) := hkp
  obtain ⟨n, hn0⟩ : ∃ n, kss.length = n := ⟨_, rfl⟩
  have HN : Hid (kss.length = n) := hn0
  rw [hn0] at hv1
  subst hv1
  subst hv2
  clear hkp hmp hn0
  go_enter Try.func5, Try.ntmps5
  go_wp2_with fail
  refine (bytes_any _ _ kss ms _ hk hm hm1 hm2 hm3).mono ?_
  rintro e u ⟨r, rfl, hu, hr⟩
  have hu2 := hu.symm
  subst hu2
  cases r
  · go_wp2_with fail
    go_ret
    exact ⟨rfl, Below.refl _ _⟩
  obtain ⟨hs1, hs2, hs3⟩ := hr rfl
  clear hr hu
  have HSm : Hid (SmallTo kss kss.length) := hs3
  clear hs3
  go_wp2_with fail
  refine (big_any _ _ kss ms _ hk hm hs1 hs2 HSm.out).mono ?_
  rintro e u ⟨r, rfl, hu, hr⟩
  have hu2 := hu.symm
  subst hu2
  cases r
  · obtain ⟨hn, hml, ht⟩ := hr rfl
    clear hr hu hs1 hs2 hm1 hm2 hm3
    obtain ⟨i0, hi, hz0, hz1, hz2⟩ := info_parts Try.info4
    have hnn : n ≤ 65536 := by have := HN.out; omega
    cases ao2 with
    | none =>
      obtain rfl := hnil2 rfl
      have hms : Bools w (.slice none ms.length 0) ms := hm
      have hBA : Below w.heap.size w w := Below.refl _ _
      go_wp2_with fail
      have hBA' := hBA.size
      refine (build_any _ kss _ (keysV_below hk hBA) hn (HSm.out)).mono ?_
      rintro e w3 ⟨vb, rfl, hbk, hB3⟩
      have hms3 := bools_below hms hB3
      have hB3w : Below w.heap.size w w3 := hBA.trans (hB3.mono hBA.size)
      clear hB3 hms hBA hBA'
      go_wp2_with (at_make; refine wpList_make_full _ rfl (.tmp 39) (.tmp 39) 35 rfl w3.heap.size 4 i0 (.bool false) 1 Try.underlying35 hi hz0 hz1 .i64 .i64 n n n rfl rfl rfl rfl (by rw [hz2]; omega) (by unfold maxLen; omega) (Nat.le_refl _) ?_)
      intro w4 hrc hgc
      have hB4 : Below w3.heap.size w3 w4 := (Below.refl _ _).grown hgc (Nat.le_refl _) (by intro k hk; cases hk)
      have hl34 : w3.heap.size < w4.heap.size := by
        rcases hrc.2 with ⟨h, _⟩ | ⟨g, cp, cur, h, _, hh, _⟩
        · cases h
        · simp at h; obtain ⟨rfl, rfl⟩ := h; exact lt_of_block hh
      clear hgc
      go_wp2_with (at_make; refine wpList_make_full _ rfl (.tmp 41) (.tmp 41) 35 rfl w3.heap.size 4 i0 (.bool false) 1 Try.underlying35 hi hz0 hz1 .i64 .i64 n n n rfl rfl rfl rfl (by rw [hz2]; omega) (by unfold maxLen; omega) (by omega) ?_)
      intro w5 hra hga
      have hB5 : Below w4.heap.size w4 w5 := (Below.refl _ _).grown hga (Nat.le_refl _) (by intro k hk; cases hk)
      have hrc5 := ownsRow_below hrc hB5
      rw [← compTo_zero ms n] at hrc5
      rw [← allTo_zero n] at hra
      have hB35 : Below w3.heap.size w3 w5 := hB4.trans (hB5.mono hB4.size)
      clear hga hrc hB4 hB5 hi hz0 hz1 hz2
      go_wp2_with fail
      go_loopw [10] (fun iv wr => ∃ (i : Nat), iv = .int .i64 i ∧ i ≤ n ∧ wr.ownsRow w3.heap.size 4 1 (.slice (some ⟨w3.heap.size, 0, none⟩) n n) n ((compTo ms n i).map Value.bool) ∧ wr.ownsRow w3.heap.size 4 1 (.slice (some ⟨w4.heap.size, 0, none⟩) n n) n ((allTo n i).map Value.bool) ∧ Below w3.heap.size w3 wr) (fun iv _ => n - (intOf iv).toNat)
      case atStart => exact ⟨0, rfl, Nat.zero_le _, hrc5, hra, hB35⟩
      case round =>
        clear hrc5 hra hB35
        obtain ⟨i, rfl, hin, hc, ha, hBr⟩ := hrel
        by_cases hil : i < n
        · have g1 := hc.cellAt i (by omega)
          have g2 := hc.frozenAt i
          have g3 := ha.cellAt i (by omega)
          have g4 := ha.frozenAt i
          obtain ⟨x1, hx1⟩ : ∃ x1, ((compTo ms n i).map Value.bool)[i]? = some x1 := ⟨_, List.getElem?_eq_getElem (by simp [len_compTo, hil])⟩
          obtain ⟨x2, hx2⟩ : ∃ x2, ((allTo n i).map Value.bool)[i]? = some x2 := ⟨_, List.getElem?_eq_getElem (by simp [len_allTo, hil])⟩
          rw [hx1] at g1
          rw [hx2] at g3
          have hms' := bools_below hms3 hBr
          have s1 := hc.stored i (.bool (!maskAt ms i))
          have s2 := ownsRow_setCell_other ha (a := ⟨w3.heap.size, i, none⟩) (by simp [Value.ownBlock]; omega) (.bool (!maskAt ms i))
          have s3 := s2.stored i (.bool true)
          have s4 := ownsRow_setCell_other s1.1 (a := ⟨w4.heap.size, i, none⟩) (by simp [Value.ownBlock]; omega) (.bool true)
          rw [compTo_succ ms n i hil] at s4
          have s5 := s3.1
          rw [allTo_succ n i hil] at s5
          have HS4 : Hid (((wr.setCell ⟨w3.heap.size, i, none⟩ (.bool (!maskAt ms i))).setCell ⟨w4.heap.size, i, none⟩ (.bool true)).ownsRow w3.heap.size 4 1 (.slice (some ⟨w3.heap.size, 0, none⟩) n n) n ((compTo ms n (i + 1)).map Value.bool)) := s4
          have HS5 : Hid (((wr.setCell ⟨w3.heap.size, i, none⟩ (.bool (!maskAt ms i))).setCell ⟨w4.heap.size, i, none⟩ (.bool true)).ownsRow w3.heap.size 4 1 (.slice (some ⟨w4.heap.size, 0, none⟩) n n) n ((allTo n (i + 1)).map Value.bool)) := s5
          have hii : (i : Int) < (n : Int) := by omega
          clear s1 s2 s3 s4 s5 hx1 hx2 hc ha
          have hlr : w4.heap.size ≠ w3.heap.size := by omega
          go_wp2_with (go_at_call 14; refine (wantAt_any _ ms i _ hms' (by omega) (by omega)).mono ?_; rintro e w' ⟨rfl, hw'⟩; have hw2 := hw'.symm; subst hw2)
          go_roundw
          case rel => exact ⟨i + 1, by go_num, by omega, HS4.out, HS5.out, (hBr.setCell (Nat.le_refl _) _).setCell (by show w3.heap.size ≤ w4.heap.size; omega) _⟩
          case measure => simp [intOf]; omega
        · have hie : i = n := by omega
          have HVc : Hid (Bools wr (.slice (some ⟨w3.heap.size, 0, none⟩) n n) (compTo ms n n)) := by
            subst hie; exact rowV_own hc (by simp)
          have HVa : Hid (Bools wr (.slice (some ⟨w4.heap.size, 0, none⟩) n n) (allTo n n)) := by
            subst hie; exact rowV_own ha (by simp)
          obtain ⟨w6, rfl⟩ : ∃ w6, w6 = wr := ⟨_, rfl⟩
          have hB6 : Below w.heap.size w w6 := hB3w.trans (hBr.mono hB3w.size)
          have hbk6 := bucketsV_below hbk hBr
          have hms6 := bools_below hms3 hBr
          clear hc ha hie hBr hbk hms3 hB3w hl34
          go_wp2_with fail
          refine (store_any _ _ kss ms _ hbk6 hms6 (by omega) hml ht).mono ?_
          rintro e w7 ⟨va, ra, rfl, hSa, hPa, hB7⟩
          go_wp2_with fail
          refine (store_any _ _ kss (compTo ms n n) _ (bucketsV_below hbk6 hB7) (bools_below HVc.out hB7) (by omega) (by rw [len_compTo]; omega) ht).mono ?_
          rintro e w8 ⟨vbb, rb, rfl, hSb, hPb, hB8⟩
          have hB68 : Below w6.heap.size w6 w8 := hB7.trans (hB8.mono hB7.size)
          go_wp2_with fail
          refine (store_any _ _ kss (allTo n n) _ (bucketsV_below hbk6 hB68) (bools_below HVa.out hB68) (by omega) (by rw [len_allTo]; omega) ht).mono ?_
          rintro e w9 ⟨vc, rc, rfl, hSc, hPc, hB9⟩
          have hB9w : Below w.heap.size w w9 := hB6.trans ((hB68.trans (hB9.mono hB68.size)).mono hB6.size)
          have hSa9 := strs_below hSa (hB8.trans (hB9.mono hB8.size))
          have hSb9 := strs_below hSb hB9
          have HF : Hid (ra.length + rb.length = cnt kss n ∧ rc.length = cnt kss n ∧ (ra ++ rb).Perm rc) := law_perm HN.out hPa hPb hPc
          clear hSa hSb hPa hPb hPc hB7 hB8 hB9 hB68 hbk6 hms6 hB6 HVc HVa
          have hcn : cnt kss n ≤ 65536 := by have := cnt_le kss n; have := HN.out; rw [this] at ht; omega
          obtain ⟨ao1, cp1, hva⟩ := strs_shape hSa9
          obtain ⟨ao2', cp2, hvbb⟩ := strs_shape hSb9
          obtain ⟨ao3, cp3, hvc⟩ := strs_shape hSc
          rw [hva, hvbb, hvc]
          rw [hva] at hSa9
          rw [hvbb] at hSb9
          rw [hvc] at hSc
          clear hva hvbb hvc
          go_wp2_with fail
          go_loopw [14, 15] (fun cv iv wr => ∃ (i : Nat), iv = .int .i64 i ∧ i ≤ n ∧ cv = .int .i64 (cnt kss i) ∧ Below w9.heap.size w9 wr) (fun _ iv _ => n - (intOf iv).toNat)
          case atStart => exact ⟨0, rfl, Nat.zero_le _, rfl, Below.refl _ _⟩
          case round =>
            obtain ⟨i, rfl, hin, rfl, hBr⟩ := hrel
            have hBw : Below w.heap.size w wr := hB9w.trans (hBr.mono hB9w.size)
            have hci : cnt kss i ≤ 65536 := by
              have h1 := cnt_le kss i
              have h2 := total_mono kss (show i ≤ kss.length by have := HN.out; omega)
              omega
            by_cases hil : i < n
            · obtain ⟨b, off, rfl, hb, hcell⟩ := HK.out (by have := HN.out; omega)
              obtain ⟨ks, hks⟩ : ∃ ks, kss[i]? = some ks := ⟨_, List.getElem?_eq_getElem (by have := HN.out; omega)⟩
              obtain ⟨u, d1, hst⟩ := hcell i ks hks
              have e1 : wr.cell? ⟨b, off + i, none⟩ = some u := (hBw.cell (p := ⟨b, off + i, none⟩) hb).trans d1
              have hstr := strs_below hst hBw
              have hkl := (HSm.out i ks (by have := HN.out; omega) hks).1
              have hdl := len_dd ks
              have HKs : Hid (kss[i]? = some ks) := hks
              have hii : (i : Int) < (n : Int) := by omega
              clear hcell hks hst d1
              go_wp2_with (go_at_call 16; refine (distinct_any u ks _ hstr hkl).mono ?_; rintro e w' ⟨ao4, cp4, rfl, hBd⟩)
              go_roundw
              case rel => exact ⟨i + 1, by go_num, by omega, by rw [cnt_succ HKs.out]; go_num, hBr.trans (hBd.mono hBr.size)⟩
              case measure => simp [intOf]; omega
            · have hie : i = n := by omega
              have t1 : ((rc.length : Int) != (cnt kss i : Int)) = false := by
                have := HF.out.2.1
                rw [hie]; simp; omega
              have t2 : ((ra.length : Int) + (rb.length : Int) != (cnt kss i : Int)) = false := by
                have := HF.out.1
                rw [hie]; simp; omega
              have hbd : ra.length + rb.length ≤ 65536 := by have := HF.out.1; omega
              have hbc : rc.length ≤ 65536 := by have := HF.out.2.1; omega
              obtain ⟨wq, rfl⟩ : ∃ wq, wq = wr := ⟨_, rfl⟩
              have hSa := strs_below hSa9 hBr
              have hSb := strs_below hSb9 hBr
              have hSq := strs_below hSc hBr
              obtain ⟨j0, hj, hjz0, hjz1, hjz2⟩ := info_parts Try.info9
              clear hie hSa9 hSb9 hSc hBr hci hB9w
              go_wp2_with (at_make; refine wpList_make_own _ rfl (.const (.int .i64 0)) (.tmp 97) 40 rfl wq.heap.size 9 j0 (.string ⟨#[]⟩) 1 Try.underlying40 hj hjz0 hjz1 .i64 .i64 _ (ra.length + rb.length) rfl rfl (by simp) (by rw [hjz2]; omega) (by unfold maxLen; omega) (Nat.le_refl _) ?_)
              intro wm hown hgrow
              have hO0 : OwnS wq.heap.size wq wm (.slice (some ⟨wq.heap.size, 0, none⟩) 0 (ra.length + rb.length)) [] := ⟨hown, (Below.refl _ _).grown hgrow (Nat.le_refl _) (by intro k hk; cases hk), hgrow.size⟩
              clear hown hgrow hj hjz0 hjz1 hjz2
              go_wp2_with fail
              go_loopw [16, 17] (fun v iv wr => ∃ (i : Nat), iv = .int .i64 i ∧ i ≤ ra.length ∧ OwnS wq.heap.size wq wr v (ra.take i)) (fun _ iv _ => ra.length - (intOf iv).toNat)
              case atStart => exact ⟨0, rfl, Nat.zero_le _, by simpa using hO0⟩
              case round =>
                clear hO0
                obtain ⟨i, rfl, hia, hO⟩ := hrel
                by_cases hil : i < ra.length
                · obtain ⟨s, hs⟩ : ∃ s, ra[i]? = some s := ⟨_, List.getElem?_eq_getElem hil⟩
                  obtain ⟨b1, o1, hao1, hb1, hc1⟩ := strs_at hSa hs
                  subst hao1
                  have e1 : wr.cell? ⟨b1, o1 + i, none⟩ = some (.string s) := (hO.2.1.cell (p := ⟨b1, o1 + i, none⟩) hb1).trans hc1
                  have HS : Hid (ra[i]? = some s) := hs
                  have htl : (ra.take i).length ≤ 1048576 := by rw [List.length_take]; omega
                  have hii : (i : Int) < (ra.length : Int) := by omega
                  clear hs hc1
                  go_wp2_with (at_builtin; refine wpList_appS rfl (.tmp 105) (.tmp 110) rfl wq.heap.size wq _ (ra.take i) s rfl hO htl rfl ?_)
                  intro v' w' hO' _
                  rw [← take_snoc HS.out] at hO'
                  clear hO htl
                  go_wp2_with fail
                  go_roundw
                  case rel => exact ⟨i + 1, by go_num, by omega, hO'⟩
                  case measure => simp [intOf]; omega
                · have HO1 : Hid (OwnS wq.heap.size wq wr u16 ra) := by
                    rw [List.take_of_length_le (by omega)] at hO
                    exact hO
                  obtain ⟨wa, rfl⟩ : ∃ wa, wa = wr := ⟨_, rfl⟩
                  clear hO
                  go_wp2_with fail
                  go_loopw [16, 18] (fun v iv wr => ∃ (j : Nat), iv = .int .i64 j ∧ j ≤ rb.length ∧ OwnS wq.heap.size wq wr v (ra ++ rb.take j)) (fun _ iv _ => rb.length - (intOf iv).toNat)
                  case atStart => exact ⟨0, rfl, Nat.zero_le _, by simpa using HO1.out⟩
                  case round =>
                    clear HO1
                    obtain ⟨j, rfl, hjb, hO⟩ := hrel
                    by_cases hjl : j < rb.length
                    · obtain ⟨s, hs⟩ : ∃ s, rb[j]? = some s := ⟨_, List.getElem?_eq_getElem hjl⟩
                      obtain ⟨b2, o2, hao2, hb2, hc2⟩ := strs_at hSb hs
                      subst hao2
                      have e1 : wr.cell? ⟨b2, o2 + j, none⟩ = some (.string s) := (hO.2.1.cell (p := ⟨b2, o2 + j, none⟩) hb2).trans hc2
                      have HS : Hid (rb[j]? = some s) := hs
                      have htl : (ra ++ rb.take j).length ≤ 1048576 := by rw [List.length_append, List.length_take]; omega
                      have hji : (j : Int) < (rb.length : Int) := by omega
                      clear hs hc2
                      go_wp2_with (at_builtin; refine wpList_appS rfl (.tmp 118) (.tmp 123) rfl wq.heap.size wq _ (ra ++ rb.take j) s rfl hO htl rfl ?_)
                      intro v' w' hO' _
                      have hO2 : OwnS wq.heap.size wq w' v' (ra ++ rb.take (j + 1)) := by
                        rw [take_snoc HS.out, ← List.append_assoc]
                        first | exact hO' | (rw [List.append_assoc]; exact hO')
                      clear hO htl hO'
                      go_wp2_with fail
                      go_roundw
                      case rel => exact ⟨j + 1, by go_num, by omega, hO2⟩
                      case measure => simp [intOf]; omega
                    · have hO1 : OwnS wq.heap.size wq wr u16 (ra ++ rb) := by
                        rw [List.take_of_length_le (by omega)] at hO
                        exact hO
                      have hJ := ownS_strs hO1
                      have hJl : (ra ++ rb).length ≤ 1048576 := by rw [List.length_append]; omega
                      have hBq : Below w.heap.size w wr := hBw.trans (hO1.2.1.mono hBw.size)
                      have hSq2 := strs_below hSq hO1.2.1
                      clear hO hO1
                      go_wp2_with fail
                      refine (sort_any _ (ra ++ rb) _ _ (Nat.le_refl _) hJl hJ).mono ?_
                      rintro e wx ⟨vx, sx, rfl, hSx, hPx, hSox, hBx⟩
                      have hSq3 := strs_below hSq2 hBx
                      go_wp2_with fail
                      refine (sort_any _ rc _ _ (Nat.le_refl _) (by omega) hSq3).mono ?_
                      rintro e wy ⟨vy, sy, rfl, hSy, hPy, hSoy, hBy⟩
                      have heq : sx = sy := sorted_uniq (hPx.trans (HF.out.2.2.trans hPy.symm)) hSox hSoy
                      subst heq
                      have hSx2 := strs_below hSx hBy
                      have hxl : sx.length ≤ 1048576 := by rw [hPx.length_eq]; exact hJl
                      clear hSx hPx hPy hSox hSoy hSq2 hSq3 hJ
                      go_wp2_with fail
                      refine (equal_any _ _ sx _ hSx2 hSy hxl).mono ?_
                      rintro e wz ⟨rfl, hBz⟩
                      go_wp2_with fail
                      go_ret
                      exact ⟨rfl, hBq.trans ((hBx.trans ((hBy.trans (hBz.mono hBy.size)).mono hBx.size)).mono hBq.size)⟩
    | some x =>
      go_wp2_with (at_make; refine wpList_make_full _ rfl (.tmp 29) (.tmp 29) 35 rfl w.heap.size 4 i0 (.bool false) 1 Try.underlying35 hi hz0 hz1 .i64 .i64 ms.length ms.length ms.length rfl rfl rfl rfl (by rw [hz2]; omega) (by unfold maxLen; omega) (Nat.le_refl _) ?_)
      intro u0 hown hgrow
      have hb0 : Below w.heap.size w u0 := (Below.refl _ _).grown hgrow (Nat.le_refl _) (by intro k hk; cases hk)
      obtain ⟨cur, hg0, hsz0⟩ : ∃ cur : List Value, u0.heap[w.heap.size]? = some (.cells cur.toArray 4 (0, 0)) ∧ cur.length = ms.length := by
        rcases hown.2 with ⟨h, _⟩ | ⟨g, cap, cur, h, _, hh, _, _, hsz, _⟩
        · cases h
        · simp at h
          obtain ⟨rfl, rfl⟩ := h
          exact ⟨cur.toList, by simpa using hh, by simpa using hsz⟩
      obtain ⟨wA, hrun, hBA, hms⟩ := copy_run (cap := cap2) (cs := ms.map Value.bool) hg0 hsz0 (by simp) (fun j v hj => cell_later hb0 (bools_src hm j v hj)) (bools_oneCell ms) hb0
      clear hown hgrow hg0 hsz0 hb0
      go_wp2_with fail
      clear hrun
      have hBA' := hBA.size
      refine (build_any _ kss _ (keysV_below hk hBA) hn (HSm.out)).mono ?_
      rintro e w3 ⟨vb, rfl, hbk, hB3⟩
      have hms3 := bools_below hms hB3
      have hB3w : Below w.heap.size w w3 := hBA.trans (hB3.mono hBA.size)
      clear hB3 hms hBA hBA'
      go_wp2_with (at_make; refine wpList_make_full _ rfl (.tmp 39) (.tmp 39) 35 rfl w3.heap.size 4 i0 (.bool false) 1 Try.underlying35 hi hz0 hz1 .i64 .i64 n n n rfl rfl rfl rfl (by rw [hz2]; omega) (by unfold maxLen; omega) (Nat.le_refl _) ?_)
      intro w4 hrc hgc
      have hB4 : Below w3.heap.size w3 w4 := (Below.refl _ _).grown hgc (Nat.le_refl _) (by intro k hk; cases hk)
      have hl34 : w3.heap.size < w4.heap.size := by
        rcases hrc.2 with ⟨h, _⟩ | ⟨g, cp, cur, h, _, hh, _⟩
        · cases h
        · simp at h; obtain ⟨rfl, rfl⟩ := h; exact lt_of_block hh
      clear hgc
      go_wp2_with (at_make; refine wpList_make_full _ rfl (.tmp 41) (.tmp 41) 35 rfl w3.heap.size 4 i0 (.bool false) 1 Try.underlying35 hi hz0 hz1 .i64 .i64 n n n rfl rfl rfl rfl (by rw [hz2]; omega) (by unfold maxLen; omega) (by omega) ?_)
      intro w5 hra hga
      have hB5 : Below w4.heap.size w4 w5 := (Below.refl _ _).grown hga (Nat.le_refl _) (by intro k hk; cases hk)
      have hrc5 := ownsRow_below hrc hB5
      rw [← compTo_zero ms n] at hrc5
      rw [← allTo_zero n] at hra
      have hB35 : Below w3.heap.size w3 w5 := hB4.trans (hB5.mono hB4.size)
      clear hga hrc hB4 hB5 hi hz0 hz1 hz2
      go_wp2_with fail
      go_loopw [10] (fun iv wr => ∃ (i : Nat), iv = .int .i64 i ∧ i ≤ n ∧ wr.ownsRow w3.heap.size 4 1 (.slice (some ⟨w3.heap.size, 0, none⟩) n n) n ((compTo ms n i).map Value.bool) ∧ wr.ownsRow w3.heap.size 4 1 (.slice (some ⟨w4.heap.size, 0, none⟩) n n) n ((allTo n i).map Value.bool) ∧ Below w3.heap.size w3 wr) (fun iv _ => n - (intOf iv).toNat)
      case atStart => exact ⟨0, rfl, Nat.zero_le _, hrc5, hra, hB35⟩
      case round =>
        clear hrc5 hra hB35
        obtain ⟨i, rfl, hin, hc, ha, hBr⟩ := hrel
        by_cases hil : i < n
        · have g1 := hc.cellAt i (by omega)
          have g2 := hc.frozenAt i
          have g3 := ha.cellAt i (by omega)
          have g4 := ha.frozenAt i
          obtain ⟨x1, hx1⟩ : ∃ x1, ((compTo ms n i).map Value.bool)[i]? = some x1 := ⟨_, List.getElem?_eq_getElem (by simp [len_compTo, hil])⟩
          obtain ⟨x2, hx2⟩ : ∃ x2, ((allTo n i).map Value.bool)[i]? = some x2 := ⟨_, List.getElem?_eq_getElem (by simp [len_allTo, hil])⟩
          rw [hx1] at g1
          rw [hx2] at g3
          have hms' := bools_below hms3 hBr
          have s1 := hc.stored i (.bool (!maskAt ms i))
          have s2 := ownsRow_setCell_other ha (a := ⟨w3.heap.size, i, none⟩) (by simp [Value.ownBlock]; omega) (.bool (!maskAt ms i))
          have s3 := s2.stored i (.bool true)
          have s4 := ownsRow_setCell_other s1.1 (a := ⟨w4.heap.size, i, none⟩) (by simp [Value.ownBlock]; omega) (.bool true)
          rw [compTo_succ ms n i hil] at s4
          have s5 := s3.1
          rw [allTo_succ n i hil] at s5
          have HS4 : Hid (((wr.setCell ⟨w3.heap.size, i, none⟩ (.bool (!maskAt ms i))).setCell ⟨w4.heap.size, i, none⟩ (.bool true)).ownsRow w3.heap.size 4 1 (.slice (some ⟨w3.heap.size, 0, none⟩) n n) n ((compTo ms n (i + 1)).map Value.bool)) := s4
          have HS5 : Hid (((wr.setCell ⟨w3.heap.size, i, none⟩ (.bool (!maskAt ms i))).setCell ⟨w4.heap.size, i, none⟩ (.bool true)).ownsRow w3.heap.size 4 1 (.slice (some ⟨w4.heap.size, 0, none⟩) n n) n ((allTo n (i + 1)).map Value.bool)) := s5
          have hii : (i : Int) < (n : Int) := by omega
          clear s1 s2 s3 s4 s5 hx1 hx2 hc ha
          have hlr : w4.heap.size ≠ w3.heap.size := by omega
          go_wp2_with (go_at_call 14; refine (wantAt_any _ ms i _ hms' (by omega) (by omega)).mono ?_; rintro e w' ⟨rfl, hw'⟩; have hw2 := hw'.symm; subst hw2)
          go_roundw
          case rel => exact ⟨i + 1, by go_num, by omega, HS4.out, HS5.out, (hBr.setCell (Nat.le_refl _) _).setCell (by show w3.heap.size ≤ w4.heap.size; omega) _⟩
          case measure => simp [intOf]; omega
        · have hie : i = n := by omega
          have HVc : Hid (Bools wr (.slice (some ⟨w3.heap.size, 0, none⟩) n n) (compTo ms n n)) := by
            subst hie; exact rowV_own hc (by simp)
          have HVa : Hid (Bools wr (.slice (some ⟨w4.heap.size, 0, none⟩) n n) (allTo n n)) := by
            subst hie; exact rowV_own ha (by simp)
          obtain ⟨w6, rfl⟩ : ∃ w6, w6 = wr := ⟨_, rfl⟩
          have hB6 : Below w.heap.size w w6 := hB3w.trans (hBr.mono hB3w.size)
          have hbk6 := bucketsV_below hbk hBr
          have hms6 := bools_below hms3 hBr
          clear hc ha hie hBr hbk hms3 hB3w hl34
          go_wp2_with fail
          refine (store_any _ _ kss ms _ hbk6 hms6 (by omega) hml ht).mono ?_
          rintro e w7 ⟨va, ra, rfl, hSa, hPa, hB7⟩
          go_wp2_with fail
          refine (store_any _ _ kss (compTo ms n n) _ (bucketsV_below hbk6 hB7) (bools_below HVc.out hB7) (by omega) (by rw [len_compTo]; omega) ht).mono ?_
          rintro e w8 ⟨vbb, rb, rfl, hSb, hPb, hB8⟩
          have hB68 : Below w6.heap.size w6 w8 := hB7.trans (hB8.mono hB7.size)
          go_wp2_with fail
          refine (store_any _ _ kss (allTo n n) _ (bucketsV_below hbk6 hB68) (bools_below HVa.out hB68) (by omega) (by rw [len_allTo]; omega) ht).mono ?_
          rintro e w9 ⟨vc, rc, rfl, hSc, hPc, hB9⟩
          have hB9w : Below w.heap.size w w9 := hB6.trans ((hB68.trans (hB9.mono hB68.size)).mono hB6.size)
          have hSa9 := strs_below hSa (hB8.trans (hB9.mono hB8.size))
          have hSb9 := strs_below hSb hB9
          have HF : Hid (ra.length + rb.length = cnt kss n ∧ rc.length = cnt kss n ∧ (ra ++ rb).Perm rc) := law_perm HN.out hPa hPb hPc
          clear hSa hSb hPa hPb hPc hB7 hB8 hB9 hB68 hbk6 hms6 hB6 HVc HVa
          have hcn : cnt kss n ≤ 65536 := by have := cnt_le kss n; have := HN.out; rw [this] at ht; omega
          obtain ⟨ao1, cp1, hva⟩ := strs_shape hSa9
          obtain ⟨ao2', cp2, hvbb⟩ := strs_shape hSb9
          obtain ⟨ao3, cp3, hvc⟩ := strs_shape hSc
          rw [hva, hvbb, hvc]
          rw [hva] at hSa9
          rw [hvbb] at hSb9
          rw [hvc] at hSc
          clear hva hvbb hvc
          go_wp2_with fail
          go_loopw [14, 15] (fun cv iv wr => ∃ (i : Nat), iv = .int .i64 i ∧ i ≤ n ∧ cv = .int .i64 (cnt kss i) ∧ Below w9.heap.size w9 wr) (fun _ iv _ => n - (intOf iv).toNat)
          case atStart => exact ⟨0, rfl, Nat.zero_le _, rfl, Below.refl _ _⟩
          case round =>
            obtain ⟨i, rfl, hin, rfl, hBr⟩ := hrel
            have hBw : Below w.heap.size w wr := hB9w.trans (hBr.mono hB9w.size)
            have hci : cnt kss i ≤ 65536 := by
              have h1 := cnt_le kss i
              have h2 := total_mono kss (show i ≤ kss.length by have := HN.out; omega)
              omega
            by_cases hil : i < n
            · obtain ⟨b, off, rfl, hb, hcell⟩ := HK.out (by have := HN.out; omega)
              obtain ⟨ks, hks⟩ : ∃ ks, kss[i]? = some ks := ⟨_, List.getElem?_eq_getElem (by have := HN.out; omega)⟩
              obtain ⟨u, d1, hst⟩ := hcell i ks hks
              have e1 : wr.cell? ⟨b, off + i, none⟩ = some u := (hBw.cell (p := ⟨b, off + i, none⟩) hb).trans d1
              have hstr := strs_below hst hBw
              have hkl := (HSm.out i ks (by have := HN.out; omega) hks).1
              have hdl := len_dd ks
              have HKs : Hid (kss[i]? = some ks) := hks
              have hii : (i : Int) < (n : Int) := by omega
              clear hcell hks hst d1
              go_wp2_with (go_at_call 16; refine (distinct_any u ks _ hstr hkl).mono ?_; rintro e w' ⟨ao4, cp4, rfl, hBd⟩)
              go_roundw
              case rel => exact ⟨i + 1, by go_num, by omega, by rw [cnt_succ HKs.out]; go_num, hBr.trans (hBd.mono hBr.size)⟩
              case measure => simp [intOf]; omega
            · have hie : i = n := by omega
              have t1 : ((rc.length : Int) != (cnt kss i : Int)) = false := by
                have := HF.out.2.1
                rw [hie]; simp; omega
              have t2 : ((ra.length : Int) + (rb.length : Int) != (cnt kss i : Int)) = false := by
                have := HF.out.1
                rw [hie]; simp; omega
              have hbd : ra.length + rb.length ≤ 65536 := by have := HF.out.1; omega
              have hbc : rc.length ≤ 65536 := by have := HF.out.2.1; omega
              obtain ⟨wq, rfl⟩ : ∃ wq, wq = wr := ⟨_, rfl⟩
              have hSa := strs_below hSa9 hBr
              have hSb := strs_below hSb9 hBr
              have hSq := strs_below hSc hBr
              obtain ⟨j0, hj, hjz0, hjz1, hjz2⟩ := info_parts Try.info9
              clear hie hSa9 hSb9 hSc hBr hci hB9w
              go_wp2_with (at_make; refine wpList_make_own _ rfl (.const (.int .i64 0)) (.tmp 97) 40 rfl wq.heap.size 9 j0 (.string ⟨#[]⟩) 1 Try.underlying40 hj hjz0 hjz1 .i64 .i64 _ (ra.length + rb.length) rfl rfl (by simp) (by rw [hjz2]; omega) (by unfold maxLen; omega) (Nat.le_refl _) ?_)
              intro wm hown hgrow
              have hO0 : OwnS wq.heap.size wq wm (.slice (some ⟨wq.heap.size, 0, none⟩) 0 (ra.length + rb.length)) [] := ⟨hown, (Below.refl _ _).grown hgrow (Nat.le_refl _) (by intro k hk; cases hk), hgrow.size⟩
              clear hown hgrow hj hjz0 hjz1 hjz2
              go_wp2_with fail
              go_loopw [16, 17] (fun v iv wr => ∃ (i : Nat), iv = .int .i64 i ∧ i ≤ ra.length ∧ OwnS wq.heap.size wq wr v (ra.take i)) (fun _ iv _ => ra.length - (intOf iv).toNat)
              case atStart => exact ⟨0, rfl, Nat.zero_le _, by simpa using hO0⟩
              case round =>
                clear hO0
                obtain ⟨i, rfl, hia, hO⟩ := hrel
                by_cases hil : i < ra.length
                · obtain ⟨s, hs⟩ : ∃ s, ra[i]? = some s := ⟨_, List.getElem?_eq_getElem hil⟩
                  obtain ⟨b1, o1, hao1, hb1, hc1⟩ := strs_at hSa hs
                  subst hao1
                  have e1 : wr.cell? ⟨b1, o1 + i, none⟩ = some (.string s) := (hO.2.1.cell (p := ⟨b1, o1 + i, none⟩) hb1).trans hc1
                  have HS : Hid (ra[i]? = some s) := hs
                  have htl : (ra.take i).length ≤ 1048576 := by rw [List.length_take]; omega
                  have hii : (i : Int) < (ra.length : Int) := by omega
                  clear hs hc1
                  go_wp2_with (at_builtin; refine wpList_appS rfl (.tmp 105) (.tmp 110) rfl wq.heap.size wq _ (ra.take i) s rfl hO htl rfl ?_)
                  intro v' w' hO' _
                  rw [← take_snoc HS.out] at hO'
                  clear hO htl
                  go_wp2_with fail
                  go_roundw
                  case rel => exact ⟨i + 1, by go_num, by omega, hO'⟩
                  case measure => simp [intOf]; omega
                · have HO1 : Hid (OwnS wq.heap.size wq wr u16 ra) := by
                    rw [List.take_of_length_le (by omega)] at hO
                    exact hO
                  obtain ⟨wa, rfl⟩ : ∃ wa, wa = wr := ⟨_, rfl⟩
                  clear hO
                  go_wp2_with fail
                  go_loopw [16, 18] (fun v iv wr => ∃ (j : Nat), iv = .int .i64 j ∧ j ≤ rb.length ∧ OwnS wq.heap.size wq wr v (ra ++ rb.take j)) (fun _ iv _ => rb.length - (intOf iv).toNat)
                  case atStart => exact ⟨0, rfl, Nat.zero_le _, by simpa using HO1.out⟩
                  case round =>
                    clear HO1
                    obtain ⟨j, rfl, hjb, hO⟩ := hrel
                    by_cases hjl : j < rb.length
                    · obtain ⟨s, hs⟩ : ∃ s, rb[j]? = some s := ⟨_, List.getElem?_eq_getElem hjl⟩
                      obtain ⟨b2, o2, hao2, hb2, hc2⟩ := strs_at hSb hs
                      subst hao2
                      have e1 : wr.cell? ⟨b2, o2 + j, none⟩ = some (.string s) := (hO.2.1.cell (p := ⟨b2, o2 + j, none⟩) hb2).trans hc2
                      have HS : Hid (rb[j]? = some s) := hs
                      have htl : (ra ++ rb.take j).length ≤ 1048576 := by rw [List.length_append, List.length_take]; omega
                      have hji : (j : Int) < (rb.length : Int) := by omega
                      clear hs hc2
                      go_wp2_with (at_builtin; refine wpList_appS rfl (.tmp 118) (.tmp 123) rfl wq.heap.size wq _ (ra ++ rb.take j) s rfl hO htl rfl ?_)
                      intro v' w' hO' _
                      have hO2 : OwnS wq.heap.size wq w' v' (ra ++ rb.take (j + 1)) := by
                        rw [take_snoc HS.out, ← List.append_assoc]
                        first | exact hO' | (rw [List.append_assoc]; exact hO')
                      clear hO htl hO'
                      go_wp2_with fail
                      go_roundw
                      case rel => exact ⟨j + 1, by go_num, by omega, hO2⟩
                      case measure => simp [intOf]; omega
                    · have hO1 : OwnS wq.heap.size wq wr u16 (ra ++ rb) := by
                        rw [List.take_of_length_le (by omega)] at hO
                        exact hO
                      have hJ := ownS_strs hO1
                      have hJl : (ra ++ rb).length ≤ 1048576 := by rw [List.length_append]; omega
                      have hBq : Below w.heap.size w wr := hBw.trans (hO1.2.1.mono hBw.size)
                      have hSq2 := strs_below hSq hO1.2.1
                      clear hO hO1
                      go_wp2_with fail
                      refine (sort_any _ (ra ++ rb) _ _ (Nat.le_refl _) hJl hJ).mono ?_
                      rintro e wx ⟨vx, sx, rfl, hSx, hPx, hSox, hBx⟩
                      have hSq3 := strs_below hSq2 hBx
                      go_wp2_with fail
                      refine (sort_any _ rc _ _ (Nat.le_refl _) (by omega) hSq3).mono ?_
                      rintro e wy ⟨vy, sy, rfl, hSy, hPy, hSoy, hBy⟩
                      have heq : sx = sy := sorted_uniq (hPx.trans (HF.out.2.2.trans hPy.symm)) hSox hSoy
                      subst heq
                      have hSx2 := strs_below hSx hBy
                      have hxl : sx.length ≤ 1048576 := by rw [hPx.length_eq]; exact hJl
                      clear hSx hPx hPy hSox hSoy hSq2 hSq3 hJ
                      go_wp2_with fail
                      refine (equal_any _ _ sx _ hSx2 hSy hxl).mono ?_
                      rintro e wz ⟨rfl, hBz⟩
                      go_wp2_with fail
                      go_ret
                      exact ⟨rfl, hBq.trans ((hBx.trans ((hBy.trans (hBz.mono hBy.size)).mono hBx.size)).mono hBq.size)⟩
  · go_wp2_with fail
    go_ret
    exact ⟨rfl, Below.refl _ _⟩
end Go.Proofs.Qxb6615212a
