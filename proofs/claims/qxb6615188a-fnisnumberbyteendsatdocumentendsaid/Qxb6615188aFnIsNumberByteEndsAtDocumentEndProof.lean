/-
  'Rows.FnIsNumberByteEndsAtDocumentEndSaid' proved. The frame is the given shell's; the walk 'walk' is filled.
-/
import Derived.Test.Qxb6615188aRows
import Derived.Test.Qxb6615188aFloat
import Derived.Laws.CopyOwn
import Derived.WalkKit
import Derived.ProofKit
import Derived.OpenShut
import Derived.ShutString
import Derived.ChangeOld
import Derived.Below
namespace Go.Proofs.Qxb6615188a.fnIsNumberByteEndsAtDocumentEnd
open Go.ChangeShapes Go.WideShapes Go.ChangeAt Go.RowKit
open Go.ChangeMaps (open_string shut_string)
set_option linter.unusedVariables false

theorem own : ownKnob Try.prog.godebug = none := by kernel_rfl
theorem laidOut : laidOutB Try.prog = true := by kernel_rfl

/-- WHAT THE WALK IS TOLD OF A SLICE OF INTEGERS THAT CAME IN: it is nil; or it leads to a row of 'cap' cells, the numbers 'zs' (the first 'len' are its elements, the rest its spare room), each fitting its kind. -/
def IsRow (k : IntKind) (w : World) (a : Option Addr) (len cap : Nat) (zs : List Int) : Prop :=
  (a = none ∧ len = 0 ∧ cap = 0 ∧ zs = []) ∨
  ∃ x, a = some x ∧ len ≤ cap ∧ cap ≤ maxLen ∧ zs.length = cap ∧ (∀ i, i < zs.length → w.cell? (x.add i) = some (.int k (zs.getD i 0))) ∧ ∀ n ∈ zs, (Lit.int k n).wf = true

/-! ### STEP 1: THE WALK: the Go text returns true, AND WRITES NOTHING THAT WAS THERE: 'Below w.heap.size w w'' (Derived/Below.lean: '.refl', '.alloc', '.drew', '.setCell' at a new block, '.trans'). Open each 'IsRow' by 'rcases' AHEAD of 'go_enter'; part every test ahead of the walk. -/
theorem walk (a0 : Option Addr) (len0 cap0 : Nat) (z0 : List Int) (a1 : Int) (a2 : Int) (a3 : Int) (w : World) (w0 : IsRow .u8 w a0 len0 cap0 z0) (w1 : (Lit.int .i64 a1).wf = true) (w2 : (Lit.int .u64 a2).wf = true) (w3 : (Lit.int .u64 a3).wf = true) :
    Calls Try.prog 3 #[.slice a0 len0 cap0, .int .i64 a1, .int .u64 a2, .int .u64 a3] w fun e w' => e = .returned (.bool true) ∧ Below w.heap.size w w' := by
  have qn := fun (w : World) (a : Option Addr) (n c : Nat) => run_neq_slice_nil_any (P := Try.prog) w 22 5 a n c 0 0 Try.underlying22
  have b1 := bounds_i64 w1
  have b2 := bounds_u64 w2
  have b3 := bounds_u64 w3
  by_cases hl : len0 ≤ 1048576
  · by_cases h1 : a1 < 0
    · go_enter Try.func3, Try.ntmps3
      go_wp2
      go_ret
      exact ⟨rfl, Below.refl _ _⟩
    · have h1' : 0 ≤ a1 := by omega
      have hn0 : numB 0 = false := by decide
      rcases w0 with ⟨rfl, rfl, rfl, rfl⟩ | ⟨x, rfl, hlc, hcm, hz, hcell, hwz⟩
      · go_enter Try.func3, Try.ntmps3
        go_wp2_with (first | (go_at_call 4; go_in))
        refine (byteAt_out _ _ _ _ _ (by omega) (by omega) (by omega)).mono ?_
        rintro e u1 ⟨rfl, hb1⟩
        go_wp2_with (go_at_call 5; refine (isNumber_any _ _ (by omega) (by omega)).mono ?_; rintro e w' ⟨rfl, rfl⟩)
        refine (float_any _ _ _ (by omega) (by omega) (by omega) (by omega)).mono ?_
        rintro e u3 ⟨tv, n, rfl, hn, hn9, hO⟩
        obtain ⟨g, cap, hv, hrow⟩ := text_row hO hn
        rw [hv]
        obtain ⟨_, _, _, hb3, _⟩ := hO
        clear hv
        go_wp2
        have HR : Hid (∀ k, k < n → ∃ c : Int, u3.cell? ⟨g, k, none⟩ = some (.int .u8 c) ∧ numB c = true ∧ 0 ≤ c ∧ c ≤ 255) := hrow
        clear hrow
        go_loop [13] (fun kv => ∃ k : Nat, k ≤ n ∧ kv = .int .i64 k) (fun kv => n - (intOf kv).toNat)
        case atStart => exact ⟨0, Nat.zero_le _, rfl⟩
        case round =>
          obtain ⟨k, hk, rfl⟩ := hrel
          by_cases hkn : k < n
          · obtain ⟨c, hc, hcn, hc0, hc9⟩ := HR.out k hkn
            go_wp2_with (go_at_call 5; refine (isNumber_any _ _ hc0 hc9).mono ?_; rintro e w' ⟨rfl, rfl⟩)
            go_round
            case rel => exact ⟨k + 1, by omega, by go_num⟩
            case measure => simp [intOf]; omega
          · go_wp2
            go_ret
            exact ⟨rfl, hb1.trans (hb3.mono hb1.size)⟩
      · have hsrc : ∀ j v, ((z0.take len0).map (Value.int .u8))[j]? = some v → w.cell? (x.add j) = some v := by
          intro j v hv
          rw [List.getElem?_map, List.getElem?_take] at hv
          split at hv
          · rename_i hj
            rw [hcell j (by omega)]
            rw [List.getElem?_eq_getElem (by omega)] at hv
            simp at hv
            rw [← hv, List.getD_eq_getElem?_getD, List.getElem?_eq_getElem (by omega)]
            rfl
          · simp at hv
        obtain ⟨cs, hcs⟩ : ∃ cs, cs = (z0.take len0).map (Value.int .u8) := ⟨_, rfl⟩
        have hcsl : cs.length = len0 := by rw [hcs]; simp; omega
        have hnum : ∀ i, i < len0 → ∃ v : Int, cs[i]? = some (.int .u8 v) ∧ 0 ≤ v ∧ v ≤ 255 := by
          intro i hi
          have hi2 : i < z0.length := by omega
          refine ⟨z0[i], ?_, bounds_u8 (hwz _ (List.getElem_mem hi2))⟩
          rw [hcs]
          simp [hi, hi2]
        have hone : ∀ v ∈ cs, v.oneCell' = true := by rw [hcs]; exact ints_oneCell _ _
        rw [← hcs] at hsrc
        have HN : Hid (∀ i, i < len0 → ∃ v : Int, cs[i]? = some (.int .u8 v) ∧ 0 ≤ v ∧ v ≤ 255) := hnum
        have HC : Hid (cs.length = len0) := hcsl
        have HS : Hid (∀ j v, cs[j]? = some v → w.cell? (x.add j) = some v) := hsrc
        have HO : Hid (∀ v ∈ cs, v.oneCell' = true) := hone
        clear hcs hnum hcsl hone hsrc hcell hwz hz
        obtain ⟨i0, hi, hz0, hz1, hz2⟩ := info_parts Try.info5
        have hl2 : (len0 : Int) ≤ 1048576 := by omega
        go_enter Try.func3, Try.ntmps3
        go_wp2_with (first | (go_at_call 4; go_in) | (at_make; refine wpList_make_full _ rfl (.tmp 28) (.tmp 28) 22 rfl w.heap.size 5 i0 (.int .u8 0) 1 Try.underlying22 hi hz0 hz1 .i64 .i64 len0 len0 len0 rfl rfl rfl rfl (by rw [hz2]; omega) (by unfold maxLen; omega) (Nat.le_refl _) ?_))
        intro u0 hown hgrow
        have hb0 : Below w.heap.size w u0 := (Below.refl _ _).grown hgrow (Nat.le_refl _) (by intro k hk; cases hk)
        obtain ⟨cur, hg0, hsz0⟩ : ∃ cur : List Value, u0.heap[w.heap.size]? = some (.cells cur.toArray 5 (0, 0)) ∧ cur.length = len0 := by
          rcases hown.2 with ⟨h, _⟩ | ⟨g, cap, cur, h, _, hh, _, _, hsz, _⟩
          · cases h
          · simp at h
            obtain ⟨rfl, rfl⟩ := h
            exact ⟨cur.toList, by simpa using hh, by simpa using hsz⟩
        have HS0 : Hid (∀ j v, cs[j]? = some v → u0.cell? (x.add j) = some v) := fun j v hj => cell_later hb0 (HS.out j v hj)
        clear hown hgrow
        obtain ⟨u1, hrun, hb1, hg1, hc1⟩ := copy_run (cap := cap0) hg0 hsz0 HC.out HS0.out HO.out hb0
        have H1 : Hid (∀ i v, cs[i]? = some v → u1.cell? ⟨w.heap.size, i, none⟩ = some v) := hc1
        clear hc1 hg0
        have hl1 : w.heap.size ≤ u1.heap.size := hb1.size
        by_cases hil : a1 < len0
        · obtain ⟨i, rfl⟩ := Int.eq_ofNat_of_zero_le h1'
          obtain ⟨v, hv, hv0, hv9⟩ := HN.out i (by omega)
          have hci := H1.out i _ hv
          have HV : Hid (cs[i]? = some (.int .u8 v)) := hv
          clear hv
          go_wp2_with fail
          refine (byteAt_in _ _ _ _ v _ hl (by omega) hg1 hci).mono ?_
          rintro e u2 ⟨rfl, hb2⟩
          have hci2 := cell_later hb2 hci
          clear hrun hci
          go_wp2_with (go_at_call 5; refine (isNumber_any _ _ hv0 hv9).mono ?_; rintro e w' ⟨rfl, rfl⟩)
          refine (float_any _ _ _ (by omega) (by omega) (by omega) (by omega)).mono ?_
          rintro e u3 ⟨tv, n, rfl, hn, hn9, hO⟩
          obtain ⟨g, cap, hv, hrow⟩ := text_row hO hn
          rw [hv]
          obtain ⟨_, _, _, hb3, _⟩ := hO
          clear hv
          go_wp2
          have HR : Hid (∀ k, k < n → ∃ c : Int, u3.cell? ⟨g, k, none⟩ = some (.int .u8 c) ∧ numB c = true ∧ 0 ≤ c ∧ c ≤ 255) := hrow
          clear hrow
          go_loop [13] (fun kv => ∃ k : Nat, k ≤ n ∧ kv = .int .i64 k) (fun kv => n - (intOf kv).toNat)
          case atStart => exact ⟨0, Nat.zero_le _, rfl⟩
          case round =>
            obtain ⟨k, hk, rfl⟩ := hrel
            by_cases hkn : k < n
            · obtain ⟨c, hc, hcn, hc0, hc9⟩ := HR.out k hkn
              go_wp2_with (go_at_call 5; refine (isNumber_any _ _ hc0 hc9).mono ?_; rintro e w' ⟨rfl, rfl⟩)
              go_round
              case rel => exact ⟨k + 1, by omega, by go_num⟩
              case measure => simp [intOf]; omega
            · go_wp2
              go_ret
              exact ⟨rfl, (hb1.trans (hb2.mono hl1)).trans (hb3.mono (Nat.le_trans hl1 hb2.size))⟩
        · go_wp2_with fail
          refine (byteAt_out _ _ _ _ _ (by omega) (by omega) (by omega)).mono ?_
          rintro e u2 ⟨rfl, hb2⟩
          clear hrun
          go_wp2_with (go_at_call 5; refine (isNumber_any _ _ (by omega) (by omega)).mono ?_; rintro e w' ⟨rfl, rfl⟩)
          refine (float_any _ _ _ (by omega) (by omega) (by omega) (by omega)).mono ?_
          rintro e u3 ⟨tv, n, rfl, hn, hn9, hO⟩
          obtain ⟨g, cap, hv, hrow⟩ := text_row hO hn
          rw [hv]
          obtain ⟨_, _, _, hb3, _⟩ := hO
          clear hv
          go_wp2
          have HR : Hid (∀ k, k < n → ∃ c : Int, u3.cell? ⟨g, k, none⟩ = some (.int .u8 c) ∧ numB c = true ∧ 0 ≤ c ∧ c ≤ 255) := hrow
          clear hrow
          go_loop [13] (fun kv => ∃ k : Nat, k ≤ n ∧ kv = .int .i64 k) (fun kv => n - (intOf kv).toNat)
          case atStart => exact ⟨0, Nat.zero_le _, rfl⟩
          case round =>
            obtain ⟨k, hk, rfl⟩ := hrel
            by_cases hkn : k < n
            · obtain ⟨c, hc, hcn, hc0, hc9⟩ := HR.out k hkn
              go_wp2_with (go_at_call 5; refine (isNumber_any _ _ hc0 hc9).mono ?_; rintro e w' ⟨rfl, rfl⟩)
              go_round
              case rel => exact ⟨k + 1, by omega, by go_num⟩
              case measure => simp [intOf]; omega
            · go_wp2
              go_ret
              exact ⟨rfl, (hb1.trans (hb2.mono hl1)).trans (hb3.mono (Nat.le_trans hl1 hb2.size))⟩
  · go_enter Try.func3, Try.ntmps3
    go_wp2
    go_ret
    exact ⟨rfl, Below.refl _ _⟩

/-! ### THE ROW's STEP: WRITTEN OUT: LEAVE IT -/
set_option maxRecDepth 100000 in
theorem lifted (os : Os) (started : os.Started) (H : Type) (enc : TypeId × Value → H) :
    ReturnsInHanded {} Try.checked os 3 .any (Rows.fnIsNumberByteEndsAtDocumentEndSpec.pre6 enc Try.prog Try.f3 Rows.fnIsNumberByteEndsAtDocumentEndRow.domain false) (Rows.fnIsNumberByteEndsAtDocumentEndSpec.post enc Try.prog Try.f3 false true false false) := by
  refine returnsInHanded_of_change (C := Try.checked) own started (by kernel_rfl) Try.func3
    (ChangeSpec.witness6 (enc := enc) (C := Try.checked) false ⟨#[], #[.slice none 0 0, .int .i64 0, .int .u64 0, .int .u64 0], []⟩ 8 (by kernel_rfl) (by kernel_rfl) (by kernel_rfl) (by kernel_rfl)) ?_
  intro W base args ds gs before hval0 hW hcnd _
  have hval : ∀ (j : Nat) t v, Try.f3.params[j]? = some t → args[j]? = some v → Value.okWide Try.prog W .any base t v := hval0
  have hW' := hW
  obtain ⟨p, q, hA0, hV, rfl, hfz, hnd⟩ := hW
  have hA : DataW.TrodAll enc Try.prog W 0 (fun _ => true) true Try.f3.params.toList args.toList ds p := hA0
  rw [Try.params3] at hA hval
  obtain ⟨v0, vs0, d0, ds0, p0, q0, hargs, rfl, rfl, h0, r0⟩ := trodAll_cons hA
  obtain ⟨v1, vs1, d1, ds1, p1, q1, rfl, rfl, rfl, h1, r1⟩ := trodAll_cons r0
  obtain ⟨v2, vs2, d2, ds2, p2, q2, rfl, rfl, rfl, h2, r2⟩ := trodAll_cons r1
  obtain ⟨v3, vs3, d3, ds3, p3, q3, rfl, rfl, rfl, h3, r3⟩ := trodAll_cons r2
  obtain ⟨rfl, rfl, rfl⟩ := trodAll_nil r3
  obtain rfl : args = #[v0, v1, v2, v3] := by cases args; simp_all
  obtain ⟨rfl, rfl⟩ := trodVars_none hV
  obtain ⟨a0, len0, cap0, rfl⟩ := okWide_slice Try.underlying22 (hval 0 22 v0 rfl rfl)
  have k0 := h0
  have lt0 : ∀ x ∈ p0, x.block < W.heap.size := by obtain ⟨m, hm⟩ := k0; exact DataW.trod_lt m _ _ _ hm
  obtain ⟨z0, w0⟩ : ∃ zs, IsRow .u8 W a0 len0 cap0 zs := by
    obtain ⟨fuel, hf⟩ := h0
    rcases open_ints Try.underlying22 Try.underlying5 (by kernel_rfl) hf with ⟨hcs, _⟩ | ⟨x, l, c, zs, hcs, _, hl, hm, hz, _, hcell, hwz⟩
    · simp [Value.cells] at hcs
      obtain ⟨rfl, rfl, rfl⟩ := hcs
      exact ⟨[], .inl ⟨rfl, rfl, rfl, rfl⟩⟩
    · simp [Value.cells] at hcs
      obtain ⟨rfl, rfl, rfl⟩ := hcs
      exact ⟨zs, .inr ⟨_, rfl, hl, hm, by simpa using hz, hcell, hwz⟩⟩
  obtain ⟨a1, rfl, rfl, rfl, w1⟩ := open_int Try.underlying3 (hval 1 3 v1 rfl rfl) h1
  obtain ⟨a2, rfl, rfl, rfl, w2⟩ := open_int Try.underlying23 (hval 2 23 v2 rfl rfl) h2
  obtain ⟨a3, rfl, rfl, rfl, w3⟩ := open_int Try.underlying23 (hval 3 23 v3 rfl rfl) h3
  clear hA0 hval0
  refine (walk a0 len0 cap0 z0 a1 a2 a3 W w0 w1 w2 w3).mono fun e W' ⟨he, bel⟩ => ?_
  subst he
  exact ⟨_, rfl, _, _, _, [], _, [], hW', trodAll_mk1 (shut_bool Try.underlying4 _), (trodAll_cons_mk (Below.trod laidOut (by kernel_rfl) (of_decide_eq_true (by kernel_rfl)) k0 bel lt0) (trodAll_cons_mk (shut_int Try.underlying3 w1) (trodAll_cons_mk (shut_int Try.underlying23 w2) (trodAll_cons_mk (shut_int Try.underlying23 w3) trodAll_mk0)))), rfl, bel.frame _, fun h => by cases h⟩

theorem over : Rows.fnIsNumberByteEndsAtDocumentEndRow.holds Try.pinned (OpenSpec.ofChange Rows.fnIsNumberByteEndsAtDocumentEndSpec) :=
  OpenClaim.holds_of_wide 3 Try.f3 rfl rfl rfl rfl rfl rfl rfl ⟨rfl, rfl, rfl, rfl, rfl⟩ rfl rfl rfl rfl rfl (by kernel_rfl) Try.func3 (by kernel_rfl)
    (of_decide_eq_true (by kernel_rfl)) (by unfold Func.isWrapper; first | (rw [if_pos (by decide +kernel)]; kernel_rfl) | (rw [if_neg (by decide +kernel)]; exact ⟨rfl, rfl⟩))
    (fun os started H enc _ => lifted os started H enc)

/-- ████ THE STATEMENT ████ -/
theorem proved : Rows.FnIsNumberByteEndsAtDocumentEndSaid := over
#print axioms proved
end Go.Proofs.Qxb6615188a.fnIsNumberByteEndsAtDocumentEnd
