/-
  The two arguments, opened.
-/
import Derived.Test.Qxb6615212aLaw
import Derived.Deep.Slices
import Derived.Deep.Grids
import Derived.SliceStrings
import Derived.ChangeOld
namespace Go.Proofs.Qxb6615212a
open Go.ChangeShapes Go.WideShapes Go.ChangeAt Go.RowKit
set_option linter.unusedVariables false

theorem addr_plain {w : World} {a : Addr} {v : Value} (h : w.cell? (a.add 0) = some v) : ∃ b off, a = ⟨b, off, none⟩ := by
  obtain ⟨b, off, spot⟩ := a
  have hspot : spot = none := by simpa [Addr.add] using World.cell?_spot h
  subst hspot
  exact ⟨b, off, rfl⟩

theorem rowV_open {w : World} {a : Addr} {len cap : Nat} {V : Nat → Value} (hl : len ≤ cap) (hc : ∀ i, i < len → w.cell? (a.add i) = some (V i)) : RowV w (.slice (some a) len cap) ((List.range len).map V) := by
  refine ⟨some a, cap, by simp, by simpa using hl, (fun h => by cases h), fun h0 => ?_⟩
  have h0' : 0 < len := by simpa using h0
  obtain ⟨b, off, rfl⟩ := addr_plain (hc 0 h0')
  refine ⟨b, off, rfl, World.block_lt_of_cell? w ⟨b, off, none⟩ (u := V 0) (by have := hc 0 h0'; rw [Addr.add_lit] at this; simpa using this), fun j u hj => ?_⟩
  have hjl : j < len := by have := (List.getElem?_eq_some_iff.1 hj).1; simpa using this
  have hj' : V j = u := by simpa [hjl] using hj
  have := hc j hjl
  rw [Addr.add_lit, hj'] at this
  exact this

theorem open_want {H : Type} {enc : TypeId × Value → H} {W : World} {fuel : Nat} {v : Value} {x : DataW H × List MemPlace} (h : DataW.trod enc Try.prog W 0 (fun _ => true) true fuel 35 [v] = some x) :
    ∃ ms, Bools W v ms ∧ ms.length ≤ maxLen := by
  rcases Deep.open_bools Try.underlying35 Try.underlying4 (by kernel_rfl) h with ⟨hcs, _⟩ | ⟨a, len, cap, B, hcs, _, hl, hm, _, hc⟩
  · simp at hcs
    subst hcs
    exact ⟨[], ⟨none, 0, rfl, Nat.le_refl _, fun _ => rfl, fun h => by simp at h⟩, Nat.zero_le _⟩
  · simp at hcs
    subst hcs
    refine ⟨(List.range len).map B, ?_, by simp; omega⟩
    have := rowV_open (w := W) (a := a) (V := fun i => .bool (B i)) hl (fun i hi => hc i (by omega))
    unfold Bools
    rw [List.map_map]
    exact this

theorem open_strs1 {H : Type} {enc : TypeId × Value → H} {W : World} {sp : Nat → Bool} {fuel : Nat} {v : Value} {x : DataW H × List MemPlace} (h : DataW.trod enc Try.prog W 0 sp true fuel 40 [v] = some x) :
    ∃ ks, Strs W v ks ∧ ks.length ≤ maxLen ∧ ∀ s ∈ ks, s.size ≤ maxLen := by
  rcases open_strings Try.underlying40 Try.underlying9 (by kernel_rfl) h with ⟨hcs, _⟩ | ⟨a, len, cap, ss, hcs, _, hl, hm, hz, _, hc, hw⟩
  · simp at hcs
    subst hcs
    exact ⟨[], strs_nil _ _ _ (fun _ => rfl), Nat.zero_le _, by simp⟩
  · simp at hcs
    subst hcs
    have hle : len ≤ ss.length := by rw [hz]; split <;> omega
    refine ⟨ss.take len, ?_, by simp; omega, fun s hs => hw s (List.mem_of_mem_take hs)⟩
    have := rowV_open (w := W) (a := a) (V := fun i => .string (ss.getD i ByteArray.empty)) hl (fun i hi => hc i (by omega))
    unfold Strs
    have e : (ss.take len).map Value.string = (List.range len).map (fun i => Value.string (ss.getD i ByteArray.empty)) := by
      apply List.ext_getElem?
      intro k
      by_cases hk : k < len
      · have hk2 : k < ss.length := by omega
        simp [hk, hk2]
      · simp [hk]
        omega
    rw [e]
    exact this

theorem open_keys {H : Type} {enc : TypeId × Value → H} {W : World} {fuel : Nat} {v : Value} {x : DataW H × List MemPlace} (h : DataW.trod enc Try.prog W 0 (fun _ => true) true fuel 34 [v] = some x) :
    ∃ kss, KeysV W v kss ∧ kss.length ≤ maxLen ∧ Fits kss := by
  rcases Deep.open_slice1 Try.underlying34 (by kernel_rfl) h with ⟨hcs, _⟩ | ⟨a, len, cap, m, n, V, D, Pl, hcs, _, hl, hm, hmm, _, hx⟩
  · simp at hcs
    subst hcs
    exact ⟨[], ⟨[], ⟨none, 0, rfl, Nat.le_refl _, fun _ => rfl, fun h => by simp at h⟩, rfl, fun i u ks hu => by simp at hu⟩, Nat.zero_le _, fun i ks hk => by simp at hk⟩
  · simp at hcs
    subst hcs
    simp only [if_true] at hmm
    subst hmm
    obtain ⟨K, hK⟩ := Deep.choose_lt (α := List ByteArray) (p := fun i ks => Strs W (V i) ks ∧ ks.length ≤ maxLen ∧ ∀ s ∈ ks, s.size ≤ maxLen) (n := len) (fun i hi => open_strs1 (hx i (by omega)).2)
    refine ⟨(List.range len).map K, ⟨(List.range len).map V, rowV_open hl (fun i hi => (hx i (by omega)).1), by simp, ?_⟩, by simp; omega, ?_⟩
    · intro i u ks hu hk
      have hi : i < len := by have := (List.getElem?_eq_some_iff.1 hu).1; simpa using this
      have h1 : V i = u := by simpa [hi] using hu
      have h2 : K i = ks := by simpa [hi] using hk
      rw [← h1, ← h2]
      exact (hK i hi).1
    · intro i ks hk
      have hi : i < len := by have := (List.getElem?_eq_some_iff.1 hk).1; simpa using this
      have h2 : K i = ks := by simpa [hi] using hk
      rw [← h2]
      have := (hK i hi).2
      unfold maxLen at this
      exact ⟨by omega, fun s hs => by have := this.2 s hs; omega⟩
end Go.Proofs.Qxb6615212a
