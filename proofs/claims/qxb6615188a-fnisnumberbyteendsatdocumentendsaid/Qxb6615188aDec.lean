/-
  The walk of 'zzDecB1': the digits of a number, grouped or not: every byte of what it hands back may be part of a number.
-/
import Derived.Test.Qxb6615188aNum
namespace Go.Proofs.Qxb6615188a
open Go.ChangeShapes Go.WideShapes Go.ChangeAt Go.RowKit
set_option linter.unusedVariables false

/-- Block B is an array of forty bytes; those from place i on are number bytes. -/
def BufOk (B i : Nat) (w : World) : Prop :=
  ∃ cur : Array Value, w.heap[B]? = some (.cells cur 34 (0, 0)) ∧ cur.size = 40 ∧ ∀ j, i ≤ j → j < 40 → ∃ v : Int, cur[j]? = some (.int .u8 v) ∧ numB v = true ∧ 0 ≤ v ∧ v ≤ 255

theorem BufOk.cell {B i : Nat} {w : World} (h : BufOk B i w) {j : Nat} (hj : j < 40) : ∃ x, w.cell? ⟨B, j, none⟩ = some x := by
  obtain ⟨cur, h1, h2, _⟩ := h
  exact ⟨cur[j]'(by omega), by simp [World.cell?, h1, h2, hj]⟩

theorem BufOk.free {B i : Nat} {w : World} (h : BufOk B i w) (j : Nat) : w.frozen? ⟨B, j, none⟩ = false := by
  obtain ⟨cur, h1, h2, _⟩ := h
  simp [World.frozen?, h1]

theorem BufOk.num {B i : Nat} {w : World} (h : BufOk B i w) {j : Nat} (hij : i ≤ j) (hj : j < 40) : ∃ v : Int, w.cell? ⟨B, j, none⟩ = some (.int .u8 v) ∧ numB v = true ∧ 0 ≤ v ∧ v ≤ 255 := by
  obtain ⟨cur, h1, h2, h3⟩ := h
  obtain ⟨v, h4, h5⟩ := h3 j hij hj
  refine ⟨v, ?_, h5⟩
  rw [← h4]
  simp [World.cell?, h1]

theorem BufOk.store {B i : Nat} {w : World} (h : BufOk B i w) {j : Nat} (hj : j + 1 = i) (hi : i ≤ 40) {v : Int} (hv : numB v = true) (h0 : 0 ≤ v) (h9 : v ≤ 255) :
    BufOk B j (w.setCell ⟨B, j, none⟩ (.int .u8 v)) := by
  obtain ⟨cur, h1, h2, h3⟩ := h
  refine ⟨cur.setIfInBounds j (.int .u8 v), ?_, by simpa using h2, ?_⟩
  · have hlt := lt_of_block h1
    have h' : w.heap[B] = .cells cur 34 (0, 0) := by simpa [Array.getElem?_eq_getElem hlt] using h1
    show (w.heap.modify B _)[B]? = _
    rw [Array.getElem?_eq_getElem (by simpa using hlt), Array.getElem_modify_self, h']
    rfl
  · intro k hk hk4
    by_cases e : k = j
    · subst e
      exact ⟨v, by simp [h2, hk4], hv, h0, h9⟩
    · obtain ⟨x, hx, hr⟩ := h3 k (by omega) hk4
      refine ⟨x, ?_, hr⟩
      rw [Array.getElem?_setIfInBounds_ne (by omega)]
      exact hx

theorem bufOk_new (w : World) (c : Array Value) (h : c.size = 40) : BufOk w.heap.size 40 (w.alloc (.cells c 34)) := by
  refine ⟨c, ?_, h, fun j h1 h2 => by omega⟩
  show (w.heap.push _)[w.heap.size]? = _
  simp

/-- Behind n digits what is left of the number has at most 20 - n. -/
def Few (u n : Nat) : Prop := u < 10 ^ (20 - n) ∧ n ≤ 20 ∧ (n = 0 ∨ 0 < u)
theorem few_start {u : Nat} (h : u ≤ 18446744073709551615) : Few u 0 := ⟨by show u < 10 ^ 20; omega, by omega, .inl rfl⟩
theorem few_le {u n : Nat} (h : Few u n) : n ≤ 19 := by
  obtain ⟨h1, h2, h3⟩ := h
  rcases Nat.lt_or_ge n 20 with h | h
  · omega
  · have : n = 20 := by omega
    subst this
    simp at h1
    omega
theorem few_step {u n : Nat} (h : Few u n) (hu : 0 < u / 10) : Few (u / 10) (n + 1) := by
  have := few_le h
  obtain ⟨h1, h2, h3⟩ := h
  refine ⟨?_, by omega, .inr hu⟩
  have e : 20 - n = (20 - (n + 1)) + 1 := by omega
  rw [e, Nat.pow_succ] at h1
  omega

theorem num_digit (d : Int) (h0 : 0 ≤ d) (h1 : d ≤ 9) : numB (48 + d) = true := by simp [numB]; omega
theorem num_bar : numB 95 = true := by simp [numB]

theorem slice_buf (B : Nat) (l : Int) (h0 : 0 ≤ l) (h1 : l ≤ 39) (W : World) :
    (Instr.sliceAt 34 (.pointer (some ⟨B, 0, none⟩)) (some (.int .i64 l)) none none).run Try.prog W = .ok (.slice (some ⟨B, l.toNat, none⟩) (40 - l.toNat) (40 - l.toNat)) W := by
  have hs : (sizeOf (Try.prog.elem 34)).run Try.prog W = .ok 1 W := by kernel_rfl
  have hn : Try.prog.arrayLen 34 = 40 := by kernel_rfl
  rw [run_sliceAt_array_l (P := Try.prog) W 34 ⟨B, 0, none⟩ (by kernel_rfl) .i64 l h0 (by rw [hn]; omega), hs, hn]
  simp only [Result.andThen, slicedAt]
  rw [if_neg (by omega)]
  simp [Addr.add_lit]

theorem slice_ret {B a b c d : Nat} (h : a = b ∧ c = d) : Ending.returned (.slice (some ⟨B, a, none⟩) c c) = .returned (.slice (some ⟨B, b, none⟩) d d) := by
  rw [h.1, h.2]

/-- What the call hands back. -/
def DecPost (w : World) (e : Ending) (w' : World) : Prop :=
  ∃ i : Nat, i < 40 ∧ e = .returned (.slice (some ⟨w.heap.size, i, none⟩) (40 - i) (40 - i)) ∧ BufOk w.heap.size i w' ∧ Below w.heap.size w w' ∧ w'.heap.size = w.heap.size + 1

set_option maxHeartbeats 400000 in
theorem dec_any (u : Nat) (sep : Bool) (w : World) (hu : u ≤ 18446744073709551615) :
    Calls Try.prog 10 #[.int .u64 u, .bool sep] w fun e w' => DecPost w e w' := by
  have hfew := few_start hu
  have hnew := bufOk_new w
  go_enter Try.func10, Try.ntmps10
  go_wp2
  go_loopw [0, 6, 7] (fun uv iv nv wr => ∃ u i n : Nat, uv = .int .u64 u ∧ iv = .int .i64 i ∧ nv = .int .i64 n ∧ u ≤ 18446744073709551615 ∧ Few u n ∧ 40 ≤ i + n + (n - 1) / 3 ∧ i ≤ 40 ∧ BufOk w.heap.size i wr ∧ Below w.heap.size w wr ∧ wr.heap.size = w.heap.size + 1)
    (fun uv _ _ _ => (intOf uv).toNat)
  case atStart => exact ⟨u, 40, 0, rfl, rfl, rfl, hu, hfew, by omega, by omega, hnew _ rfl, (Below.refl _ _).alloc (Nat.le_refl _) _, by simp⟩
  case round =>
    clear hfew hnew hu
    obtain ⟨u, i, n, rfl, rfl, rfl, hu, hfew, hi, hi4, hbuf, hbel, hsz⟩ := hrel
    have hn := few_le hfew
    have hi2 : 15 ≤ i := by omega
    have hfree := hbuf.free
    obtain ⟨x, hx⟩ := hbuf.cell (j := i - 1) (by omega)
    have hd0 := num_digit ((u : Int) % 10) (by omega) (by omega)
    by_cases hs : sep = true ∧ 0 < n ∧ n % 3 = 0
    · obtain ⟨rfl, hn0, hn3⟩ := hs
      obtain ⟨y, hy⟩ := hbuf.cell (j := i - 1 - 1) (by omega)
      have hsl := slice_buf w.heap.size ((i : Int) - 1 - 1) (by omega) (by omega)
      have hst := (hbuf.store (j := i - 1) (by omega) hi4 num_bar (by omega) (by omega)).store (j := i - 1 - 1) (by omega) (by omega) hd0 (by omega) (by omega)
      have HB : Hid (BufOk w.heap.size i wr) := hbuf
      clear hbuf
      by_cases hu9 : u ≤ 9
      · go_wp2
        go_ret
        exact ⟨i - 1 - 1, by omega, slice_ret (by omega), hst, (hbel.setCell (Nat.le_refl _) _).setCell (Nat.le_refl _) _, by simp [hsz]⟩
      · have hf2 := few_step hfew (by omega)
        go_wp2
        go_roundw
        case rel => exact ⟨u / 10, i - 1 - 1, n + 1, by go_num, by go_num, by go_num, by omega, hf2, by omega, by omega, hst, (hbel.setCell (Nat.le_refl _) _).setCell (Nat.le_refl _) _, by simp [hsz]⟩
        case measure => simp [intOf]; omega
    · have hsl := slice_buf w.heap.size ((i : Int) - 1) (by omega) (by omega)
      have hst := hbuf.store (j := i - 1) (by omega) hi4 hd0 (by omega) (by omega)
      have hsp : sep = false ∨ (sep = true ∧ (n = 0 ∨ ¬ n % 3 = 0)) := by
        cases sep
        · exact .inl rfl
        · refine .inr ⟨rfl, ?_⟩
          rcases Nat.eq_zero_or_pos n with h | h
          · exact .inl h
          · exact .inr fun h3 => hs ⟨rfl, h, h3⟩
      have HB : Hid (BufOk w.heap.size i wr) := hbuf
      clear hs hbuf
      by_cases hu9 : u ≤ 9
      · rcases hsp with rfl | ⟨rfl, hsp⟩
        · go_wp2
          go_ret
          exact ⟨i - 1, by omega, slice_ret (by omega), hst, hbel.setCell (Nat.le_refl _) _, by simp [hsz]⟩
        · rcases hsp with rfl | hsp
          · go_wp2
            go_ret
            exact ⟨i - 1, by omega, slice_ret (by omega), hst, hbel.setCell (Nat.le_refl _) _, by simp [hsz]⟩
          · go_wp2
            go_ret
            exact ⟨i - 1, by omega, slice_ret (by omega), hst, hbel.setCell (Nat.le_refl _) _, by simp [hsz]⟩
      · have hf2 := few_step hfew (by omega)
        rcases hsp with rfl | ⟨rfl, hsp⟩
        · go_wp2
          go_roundw
          case rel => exact ⟨u / 10, i - 1, n + 1, by go_num, by go_num, by go_num, by omega, hf2, by omega, by omega, hst, hbel.setCell (Nat.le_refl _) _, by simp [hsz]⟩
          case measure => simp [intOf]; omega
        · rcases hsp with rfl | hsp
          · go_wp2
            go_roundw
            case rel => exact ⟨u / 10, i - 1, 0 + 1, by go_num, by go_num, by go_num, by omega, hf2, by omega, by omega, hst, hbel.setCell (Nat.le_refl _) _, by simp [hsz]⟩
            case measure => simp [intOf]; omega
          · go_wp2
            go_roundw
            case rel => exact ⟨u / 10, i - 1, n + 1, by go_num, by go_num, by go_num, by omega, hf2, by omega, by omega, hst, hbel.setCell (Nat.le_refl _) _, by simp [hsz]⟩
            case measure => simp [intOf]; omega
end Go.Proofs.Qxb6615188a
