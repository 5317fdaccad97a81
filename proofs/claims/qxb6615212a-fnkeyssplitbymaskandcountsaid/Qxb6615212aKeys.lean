/-
  The walk of '(*regionStore).keys': in no order, the keys of the wanted buckets.
-/
import Derived.Test.Qxb6615212aBuckets
import Derived.Test.Qxb6615212aLocks
import Derived.Test.Qxb6615212aCollect
import Derived.Laws.IdiomRangeMap
import Derived.Defers
namespace Go.Proofs.Qxb6615212a
open Go.ChangeShapes Go.WideShapes Go.ChangeAt Go.RowKit
open Go.RwLone
set_option linter.unusedVariables false

/-- What the call hands back. -/
def KeysPost (kss : List (List ByteArray)) (ms : List Bool) (w0 : World) (e : Ending) (w' : World) : Prop :=
  ∃ v rs, e = .returned v ∧ Strs w' v rs ∧ rs.Perm (pick kss (maskAt ms) kss.length) ∧ Below w0.heap.size w0 w'

set_option maxHeartbeats 1600000 in
theorem keys_any (S C : Nat) (vb vm : Value) (kss : List (List ByteArray)) (ms : List Bool) (w0 w : World)
    (hB0 : Below w0.heap.size w0 w) (hS : w.heap[S]? = some (.cells #[.int .i32 0, .int .u32 0, .int .u32 0, .int .u32 0, .int .i32 0, .int .i32 0, vb, .slice none 0 0] 63 (0, 0)))
    (hC : w.cell? ⟨C, 0, none⟩ = some vm) (hCS : C ≠ S) (hlS : w0.heap.size ≤ S) (hlC : w0.heap.size ≤ C)
    (hb : BucketsV w0 vb kss) (hm : Bools w0 vm ms) (hn : kss.length ≤ 65536) (hml : ms.length ≤ 65536) (ht : total kss kss.length ≤ 65536) :
    Calls Try.prog 20 #[.pointer (some ⟨S, 0, none⟩), .func (.func 21) #[] #[.pointer (some ⟨C, 0, none⟩)]] w fun e w' => KeysPost kss ms w0 e w' := by
  have hSlt := lt_of_block hS
  have c0 : w.cell? ⟨S, 0, none⟩ = some (.int .i32 0) := by simp [World.cell?, hS]
  have c2 : w.cell? ⟨S, 0 + 2, none⟩ = some (.int .u32 0) := by simp [World.cell?, hS]
  have c3 : w.cell? ⟨S, 0 + 3, none⟩ = some (.int .u32 0) := by simp [World.cell?, hS]
  have c4 : w.cell? ⟨S, 0 + 4, none⟩ = some (.int .i32 0) := by simp [World.cell?, hS]
  have c6 : w.cell? ⟨S, 6, none⟩ = some vb := by simp [World.cell?, hS]
  have z4 : w.frozen? ⟨S, 0 + 4, none⟩ = false := by simp [World.frozen?, hS]
  have e1 : wrap32 (0 + 1) = 1 := by simp [wrap32]
  obtain ⟨ao, cap, hvb⟩ : ∃ ao cap, vb = .slice ao kss.length cap := by
    obtain ⟨vs, ⟨ao, cap, h1, _⟩, h2, _⟩ := hb
    exact ⟨ao, cap, by rw [h1, h2]⟩
  go_enter_defers Try.func20, Try.ntmps20
  go_wp2_with fail
  refine (rlock_open rwRLib S 0 0 (.int .i32 0) (.int .u32 0) _ c0 c3 c4 z4 (by rw [e1]; omega)).mono ?_
  rintro e u1 ⟨rfl, hu1⟩
  have q4 : u1.cell? ⟨S, 4, none⟩ = some (.int .i32 1) := by
    rw [hu1, e1]; exact World.cell?_setCell_same w ⟨S, 0 + 4, none⟩ (.int .i32 1) c4
  have q0 : u1.cell? ⟨S, 0, none⟩ = some (.int .i32 0) := by
    rw [hu1]; exact (World.cell?_setCell_other _ ⟨S, 0 + 4, none⟩ ⟨S, 0, none⟩ _ (by simp)).trans c0
  have q2 : u1.cell? ⟨S, 2, none⟩ = some (.int .u32 0) := by
    rw [hu1]; exact (World.cell?_setCell_other _ ⟨S, 0 + 4, none⟩ ⟨S, 0 + 2, none⟩ _ (by simp)).trans c2
  have q6 : u1.cell? ⟨S, 6, none⟩ = some vb := by
    rw [hu1]; exact (World.cell?_setCell_other _ ⟨S, 0 + 4, none⟩ ⟨S, 6, none⟩ _ (by simp)).trans c6
  have qz : u1.frozen? ⟨S, 4, none⟩ = false := by rw [hu1, World.frozen?_setCell]; exact z4
  have qC : u1.cell? ⟨C, 0, none⟩ = some vm := by
    rw [hu1]; exact (World.cell?_setCell_other _ ⟨S, 0 + 4, none⟩ ⟨C, 0, none⟩ _ (by simp)).trans hC
  have hB1 : Below w0.heap.size w0 u1 := by rw [hu1]; exact hB0.setCell hlS _
  have hS1 : S < u1.heap.size := by rw [hu1]; simpa using hSlt
  have hC1 : C < u1.heap.size := World.block_lt_of_cell? _ _ qC
  clear hu1 c0 c2 c3 c4 c6 z4 hB0 hC hS hSlt
  rw [hvb] at q6
  have hO0 := ownS_nil u1
  have HBk : Hid (BucketsV w0 vb kss) := hb
  have HMs : Hid (Bools w0 vm ms) := hm
  have hle : w0.heap.size ≤ u1.heap.size := hB1.size
  have hrn := fun (w : World) => run_range_nilMap (P := Try.prog) w 48 9 26 Try.underlying48
  have hnn := fun (w : World) (ty : TypeId) (a b : Nat) (s : Array Nat) => run_next_nilMap (P := Try.prog) w ty a b s
  clear hb hm
  go_wp2_with fail
  go_loopw [5, 21] (fun v iv wr => ∃ (i : Nat) (rs : List ByteArray), iv = .int .i64 i ∧ i ≤ kss.length ∧ OwnS u1.heap.size u1 wr v rs ∧ rs.Perm (pick kss (maskAt ms) i)) (fun _ iv _ => kss.length - (intOf iv).toNat)
  case atStart => exact ⟨0, [], rfl, Nat.zero_le _, hO0, List.Perm.refl _⟩
  case round =>
    clear hO0
    obtain ⟨i, rs, rfl, hi, hO, hP⟩ := hrel
    obtain ⟨wo, rfl⟩ : ∃ wo, wo = wr := ⟨_, rfl⟩
    obtain ⟨vo, rfl⟩ : ∃ vo, vo = u5 := ⟨_, rfl⟩
    have hBo : Below w0.heap.size w0 wo := hB1.trans (hO.2.1.mono hle)
    by_cases hik : i < kss.length
    · obtain ⟨ks, hks⟩ : ∃ ks, kss[i]? = some ks := ⟨_, List.getElem?_eq_getElem hik⟩
      obtain ⟨bv, b, off, hbv, hao, hblt, hbcell⟩ : ∃ bv b off, Bucket wo bv ks ∧ ao = some ⟨b, off, none⟩ ∧ b < w0.heap.size ∧ wo.cell? ⟨b, off + i, none⟩ = some bv := by
        obtain ⟨vs, ⟨ao', cap', h1, h2, h3, h4⟩, hl, hbk⟩ := HBk.out
        obtain ⟨bv, k1, k2⟩ := hbk i ks hks
        obtain ⟨b, off, m1, m2, m3⟩ := h4 (by omega)
        rw [hvb, hl] at h1
        cases h1
        exact ⟨bv, b, off, bucket_below k2 hBo, m1, m2, (hBo.cell (p := ⟨b, off + i, none⟩) m2).trans (m3 i bv k1)⟩
      subst hao
      have HK : Hid (kss[i]? = some ks) := hks
      have hrl : rs.length + ks.length ≤ 65536 := by
        have h1 := hP.length_eq
        have h2 := pick_len kss (maskAt ms) i
        have h3 := total_succ hks
        have h4 := total_mono kss (show i + 1 ≤ kss.length from hik)
        omega
      have qCo : wo.cell? ⟨C, 0, none⟩ = some vm := (hO.2.1.cell (p := ⟨C, 0, none⟩) hC1).trans qC
      have hms := bools_below HMs.out hBo
      have HMo : Hid (Bools wo vm ms) := hms
      have hii : (i : Int) < (kss.length : Int) := by omega
      clear hks hms
      cases hmask : maskAt ms i
      · have HP2 : Hid (rs.Perm (pick kss (maskAt ms) (i + 1))) := by
          show rs.Perm _
          rw [pick_succ_no hmask]
          exact hP
        go_wp2_with (go_at_call 21; refine (closure_any vm ms i C _ HMo.out qCo (by omega) (by omega)).mono ?_; rintro e w' ⟨rfl, hw'⟩; have hw2 := hw'.symm; subst hw2)
        go_roundw
        case rel => exact ⟨i + 1, rs, by go_num, by omega, hO, HP2.out⟩
        case measure => simp [intOf]; omega
      · rcases hbv with ⟨rfl, rfl⟩ | ⟨Bk, rfl, hkp, hM⟩
        · have HP2 : Hid (rs.Perm (pick kss (maskAt ms) (i + 1))) := by
            show rs.Perm _
            rw [pick_succ_yes hmask HK.out]
            simpa [dd] using hP
          have hOa : OwnS u1.heap.size u1 (wo.alloc (.mapIter none 0 #[] 0)) vo rs := ownS_grow hO (World.grownBy_alloc _ _ _)
          go_wp2_with (go_at_call 21; refine (closure_any vm ms i C _ HMo.out qCo (by omega) (by omega)).mono ?_; rintro e w' ⟨rfl, hw'⟩; have hw2 := hw'.symm; subst hw2)
          refine wp_loop_rounds 1 ?_
          rw [rounds_succ]
          go_wp2_with fail
          go_roundw
          case rel => exact ⟨i + 1, rs, by go_num, by omega, hOa, HP2.out⟩
          case measure => simp [intOf]; omega
        · go_wp2_with (first | (go_at_call 21; refine (closure_any vm ms i C _ HMo.out qCo (by omega) (by omega)).mono ?_; rintro e w' ⟨rfl, hw'⟩; have hw2 := hw'.symm; subst hw2) | (at_range; refine wpList_range_own _ rfl (.tmp 30) 48 rfl 9 26 law9 Try.underlying48 nilElem Bk ks.length _ rfl hM ?_; intro wn hrg0 hg0 hs0))
          go_frame
          have hOn : OwnS u1.heap.size u1 wn vo rs := ownS_grow hO hg0
          have hr : u1.heap.size ≤ wo.heap.size := hO.2.2
          have hsz := size_le hM
          have HP : Hid (rs.Perm (pick kss (maskAt ms) i)) := hP
          have HX : Hid (maskAt ms i = true) := hmask
          clear hg0 hs0 hM hO hP qCo hbcell hmask
          go_loopw [5] (fun v wr => ∃ (left : Lit → Bool) (cnt : Nat) (cs : List ByteArray), wr.ranges Try.prog 9 nilElem Bk wo.heap.size ks.length (Maps.setOf .nil (ks.map lit)) left cnt ∧ Coll ks left cs ∧ cs.length + cnt ≤ ks.length ∧ OwnS u1.heap.size u1 wr v (rs ++ cs))
            (fun _ wr => wr.rangeLeft Bk wo.heap.size)
          case atStart => exact ⟨_, _, [], hrg0, coll_start ks, by simpa using hsz, by simpa using hOn⟩
          case round =>
            clear hrg0 hOn hsz
            obtain ⟨left, cnt, cs, hrg, hCo, hcc, hOr⟩ := hrel
            go_wp2_with (at_next; refine wpList_next_ranges _ rfl (.tmp 31) rfl 9 law9 nilElem Value.string (fun _ : Unit => Value.slice none 0 0) key_inv val_inv Bk wo.heap.size ks.length _ _ _ rfl hrg ?_ ?_)
            · intro _ hl0
              have HP2 : Hid ((rs ++ cs).Perm (pick kss (maskAt ms) (i + 1))) := by
                show (rs ++ cs).Perm _
                rw [pick_succ_yes HX.out HK.out]
                exact HP.out.append (coll_end hCo hl0)
              clear hl0 hrg hCo
              go_wp2_with fail
              go_roundw
              case rel => exact ⟨i + 1, rs ++ cs, by go_num, by omega, hOr, HP2.out⟩
              case measure => simp [intOf]; omega
            · intro s kl yd yp w2 cnt2 hkey hlk hv hat hrg2 hlt hg2 hs2 hen
              obtain rfl := key_lit hkey
              have hne := row_ne hOr.1 hrg
              have hO2 := ownS_turn hOr hg2 hne.1 hr
              have hCo2 := coll_step hCo hlk hat
              have hne2 := row_ne hO2.1 hrg2
              have hcl : (rs ++ cs).length ≤ 1048576 := by simp; omega
              have HLq : Hid (wr.rangeLeft Bk wo.heap.size = cnt) := hrg.left_eq
              have HNe : Hid (some wo.heap.size ≠ u5.ownBlock ∧ some Bk ≠ u5.ownBlock) := hne2
              clear hs2 hlk hat hv hkey hrg hOr hg2 hne hne2 hCo
              go_wp2_with (at_builtin; refine wpList_appS rfl (.tmp 36) (.tmp 38) rfl u1.heap.size u1 _ (rs ++ cs) s rfl hO2 hcl rfl ?_)
              intro v' w3 hO3 hg3
              have hrg3 := (hrg2.alloc _).kept hg3 HNe.out.2 HNe.out.1
              clear hg3 hrg2 hO2 hen
              go_wp2_with fail
              go_roundw
              case rel => exact ⟨_, cnt2, cs ++ [s], hrg3, hCo2, by simp; omega, hO3⟩
              case measure => rw [hrg3.left_eq, HLq.out]; exact hlt
    · have HP2 : Hid (rs.Perm (pick kss (maskAt ms) kss.length)) := by
        have : i = kss.length := by omega
        subst this
        exact hP
      have r4 : wo.cell? ⟨S, 0 + 4, none⟩ = some (.int .i32 1) := (hO.2.1.cell (p := ⟨S, 4, none⟩) hS1).trans q4
      have r0 : wo.cell? ⟨S, 0, none⟩ = some (.int .i32 0) := (hO.2.1.cell (p := ⟨S, 0, none⟩) hS1).trans q0
      have r2 : wo.cell? ⟨S, 0 + 2, none⟩ = some (.int .u32 0) := (hO.2.1.cell (p := ⟨S, 2, none⟩) hS1).trans q2
      have rz : wo.frozen? ⟨S, 0 + 4, none⟩ = false := (hO.2.1.frozen (p := ⟨S, 4, none⟩) hS1).trans qz
      go_wp2_with fail
      refine leaves_cons (f := 23) (args := #[.pointer (some ⟨S, 0, none⟩)]) (by simp) (by simp [go_sem]) ?_
      refine (runlock_deferred rwRLib S 0 1 (.int .i32 0) (.int .u32 0) .returning _ r0 r2 r4 rz (by simp [wrap32])).mono ?_
      rintro e u' w'' ⟨rfl, rfl, rfl⟩
      refine ⟨_, results_tmp rfl _ _ _, vo, rs, rfl, ?_, HP2.out, hBo.setCell hlS _⟩
      exact ownS_strs (B := u1.heap.size) (w0 := wo.setCell ⟨S, 0 + 4, none⟩ (.int .i32 (wrap32 (1 + -1)))) ⟨ownsRow_setCell_below hO.1 hS1 _, Below.refl _ _, by simpa using hO.2.2⟩
end Go.Proofs.Qxb6615212a
