/-
  How the arguments are read: a slice of bools, a slice of slices of strings; 'zzWantAt'; the closure; the two bounds.
-/
import Derived.Test.Qxb6615212aBase
namespace Go.Proofs.Qxb6615212a
open Go.ChangeShapes Go.WideShapes Go.ChangeAt Go.RowKit
set_option linter.unusedVariables false

/-- A slice of bools. -/
def Bools (w : World) (v : Value) (ms : List Bool) : Prop := RowV w v (ms.map Value.bool)

theorem bools_below {w w' : World} {v : Value} {ms : List Bool} (h : Bools w v ms) (hb : Below w.heap.size w w') : Bools w' v ms := rowV_below h hb

theorem bools_cases {w : World} {v : Value} {ms : List Bool} (h : Bools w v ms) :
    ∃ ao cap, v = .slice ao ms.length cap ∧ ms.length ≤ cap ∧ (ao = none → cap = 0) ∧
      (0 < ms.length → ∃ b off, ao = some ⟨b, off, none⟩ ∧ b < w.heap.size ∧ ∀ j s, ms[j]? = some s → w.cell? ⟨b, off + j, none⟩ = some (.bool s)) := by
  obtain ⟨ao, cap, h1, h2, h3, h4⟩ := h
  rw [List.length_map] at h1 h2 h4
  refine ⟨ao, cap, h1, h2, h3, fun h0 => ?_⟩
  obtain ⟨b, off, rfl, k2, k3⟩ := h4 h0
  exact ⟨b, off, rfl, k2, fun j s hj => k3 j _ (by rw [List.getElem?_map, hj]; rfl)⟩

/-- Is bucket i wanted? -/
def maskAt (ms : List Bool) (i : Nat) : Bool := ms.getD i false
theorem maskAt_some {ms : List Bool} {i : Nat} {b : Bool} (h : ms[i]? = some b) : maskAt ms i = b := by simp [maskAt, h]
theorem maskAt_none {ms : List Bool} {i : Nat} (h : ms.length ≤ i) : maskAt ms i = false := by simp [maskAt, List.getElem?_eq_none h]

theorem ret_bool {a b : Bool} (h : a = b) : Ending.returned (.bool a) = .returned (.bool b) := by rw [h]

theorem wantAt_any (v : Value) (ms : List Bool) (i : Nat) (w : World) (h : Bools w v ms) (hl : ms.length ≤ 1048576) (hi : i ≤ 1048576) :
    Calls Try.prog 14 #[v, .int .i64 i] w fun e w' => e = .returned (.bool (maskAt ms i)) ∧ w' = w := by
  obtain ⟨ao, cap, rfl, hc, hnil, hpos⟩ := bools_cases h
  by_cases hlt : i < ms.length
  · obtain ⟨b, off, rfl, hb, hcell⟩ := hpos (by omega)
    obtain ⟨x, hx⟩ : ∃ x, ms[i]? = some x := ⟨_, List.getElem?_eq_getElem hlt⟩
    have d := hcell i x hx
    have HX : Hid (maskAt ms i = x) := maskAt_some hx
    have hli : (i : Int) < (ms.length : Int) := by omega
    clear hcell hx hpos h
    go_enter Try.func14, Try.ntmps14
    go_wp2
    go_ret
    exact ⟨ret_bool HX.out.symm, rfl⟩
  · have HX : Hid (maskAt ms i = false) := maskAt_none (by omega)
    have hd : decide ((i : Int) < (ms.length : Int)) = false := by simp; omega
    clear hpos h
    go_enter Try.func14, Try.ntmps14
    go_wp2
    go_ret
    exact ⟨ret_bool HX.out.symm, rfl⟩

theorem closure_any (v : Value) (ms : List Bool) (i C : Nat) (w : World) (h : Bools w v ms) (hC : w.cell? ⟨C, 0, none⟩ = some v) (hl : ms.length ≤ 1048576) (hi : i ≤ 1048576) :
    Calls Try.prog 21 #[.int .i64 i, .pointer (some ⟨C, 0, none⟩)] w fun e w' => e = .returned (.bool (maskAt ms i)) ∧ w' = w := by
  obtain ⟨ao, cap, rfl, hc, hnil, hpos⟩ := bools_cases h
  by_cases hlt : i < ms.length
  · obtain ⟨b, off, rfl, hb, hcell⟩ := hpos (by omega)
    obtain ⟨x, hx⟩ : ∃ x, ms[i]? = some x := ⟨_, List.getElem?_eq_getElem hlt⟩
    have d := hcell i x hx
    have HX : Hid (maskAt ms i = x) := maskAt_some hx
    have hli : (i : Int) < (ms.length : Int) := by omega
    clear hcell hx hpos h
    go_enter Try.func21, Try.ntmps21
    go_wp2
    go_ret
    exact ⟨ret_bool HX.out.symm, rfl⟩
  · have HX : Hid (maskAt ms i = false) := maskAt_none (by omega)
    have hd : decide ((i : Int) < (ms.length : Int)) = false := by simp; omega
    clear hpos h
    go_enter Try.func21, Try.ntmps21
    go_wp2
    go_ret
    exact ⟨ret_bool HX.out.symm, rfl⟩

/-- A slice of slices of strings. -/
def KeysV (w : World) (v : Value) (kss : List (List ByteArray)) : Prop :=
  ∃ us : List Value, RowV w v us ∧ us.length = kss.length ∧ ∀ (i : Nat) (u : Value) (ks : List ByteArray), us[i]? = some u → kss[i]? = some ks → Strs w u ks

theorem keysV_below {w w' : World} {v : Value} {kss : List (List ByteArray)} (h : KeysV w v kss) (hb : Below w.heap.size w w') : KeysV w' v kss := by
  obtain ⟨us, h1, h2, h3⟩ := h
  exact ⟨us, rowV_below h1 hb, h2, fun i u ks hu hk => strs_below (h3 i u ks hu hk) hb⟩

theorem keysV_cases {w : World} {v : Value} {kss : List (List ByteArray)} (h : KeysV w v kss) :
    ∃ ao cap, v = .slice ao kss.length cap ∧ kss.length ≤ cap ∧ (0 < kss.length → ∃ b off, ao = some ⟨b, off, none⟩ ∧ b < w.heap.size ∧ ∀ i ks, kss[i]? = some ks → ∃ u, w.cell? ⟨b, off + i, none⟩ = some u ∧ Strs w u ks) := by
  obtain ⟨us, ⟨ao, cap, h1, h2, h3, h4⟩, hl, hs⟩ := h
  rw [hl] at h1 h2 h4
  refine ⟨ao, cap, h1, h2, fun h0 => ?_⟩
  obtain ⟨b, off, k1, k2, k3⟩ := h4 h0
  refine ⟨b, off, k1, k2, fun i ks hk => ?_⟩
  have hi : i < us.length := by rw [hl]; exact (List.getElem?_eq_some_iff.1 hk).1
  exact ⟨us[i], k3 i _ (List.getElem?_eq_getElem hi), hs i _ ks (List.getElem?_eq_getElem hi) hk⟩

/-- Every length is small. -/
def SmallTo (kss : List (List ByteArray)) (n : Nat) : Prop := ∀ i ks, i < n → kss[i]? = some ks → ks.length ≤ 1048576 ∧ ∀ s ∈ ks, s.size ≤ 1048576
theorem small_zero (kss : List (List ByteArray)) : SmallTo kss 0 := fun i ks h => by omega
theorem small_succ {kss : List (List ByteArray)} {n : Nat} {ks : List ByteArray} (h : SmallTo kss n) (hk : kss[n]? = some ks) (h1 : ks.length ≤ 1048576) (h2 : ∀ s ∈ ks, s.size ≤ 1048576) : SmallTo kss (n + 1) := by
  intro i ks' hi hk'
  rcases Nat.lt_or_ge i n with hlt | hge
  · exact h i ks' hlt hk'
  · have : i = n := by omega
    subst this
    rw [hk] at hk'
    cases hk'
    exact ⟨h1, h2⟩
def SmallIn (ks : List ByteArray) (j : Nat) : Prop := ∀ s ∈ ks.take j, s.size ≤ 1048576
theorem smallIn_zero (ks : List ByteArray) : SmallIn ks 0 := by intro s hs; simp at hs
theorem smallIn_succ {ks : List ByteArray} {j : Nat} {s : ByteArray} (h : SmallIn ks j) (hs : ks[j]? = some s) (hl : s.size ≤ 1048576) : SmallIn ks (j + 1) := by
  intro t ht
  rw [take_snoc hs] at ht
  rcases List.mem_append.1 ht with h1 | h1
  · exact h t h1
  · simp at h1; subst h1; exact hl
theorem smallIn_end {ks : List ByteArray} {j : Nat} (h : SmallIn ks j) (hj : ks.length ≤ j) : ∀ s ∈ ks, s.size ≤ 1048576 := by
  intro s hs
  exact h s (by rw [List.take_of_length_le hj]; exact hs)
end Go.Proofs.Qxb6615212a
