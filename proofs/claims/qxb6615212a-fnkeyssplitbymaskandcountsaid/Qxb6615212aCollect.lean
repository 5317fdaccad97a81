/-
  What a range over one bucket collects; plain facts on the row and the iterator.
-/
import Derived.Test.Qxb6615212aBuckets
import Derived.Sort.KeysCollected
namespace Go.Proofs.Qxb6615212a
open Go.ChangeShapes Go.WideShapes Go.ChangeAt Go.RowKit
set_option linter.unusedVariables false

def bs (s : ByteArray) : List UInt8 := s.data.toList
theorem bs_inj {a b : ByteArray} (h : bs a = bs b) : a = b := bytes_ext h

/-- The keys met so far. -/
def Coll (ks : List ByteArray) (left : Lit → Bool) (cs : List ByteArray) : Prop := Collected (H := Unit) (Maps.setOf .nil (ks.map lit)) left (cs.map bs)

theorem coll_start (ks : List ByteArray) : Coll ks (Maps.has (H := Unit) (Maps.setOf .nil (ks.map lit))) [] := Collected.start _
theorem coll_step {ks cs : List ByteArray} {left : Lit → Bool} {s : ByteArray} {y : DataW Unit} (h : Coll ks left cs) (hlk : left (lit s) = true) (hat : ∀ zd, (Maps.setOf (H := Unit) .nil (ks.map lit)).atKey (lit s) zd = y) :
    Coll ks (fun z => left z && !z.sameKey (lit s)) (cs ++ [s]) := by
  unfold Coll
  rw [List.map_append, List.map_singleton]
  exact Collected.step h hlk hat

theorem coll_end {ks cs : List ByteArray} {left : Lit → Bool} (h : Coll ks left cs) (hl : ∀ kl, left kl = false) : cs.Perm (dd ks) := by
  obtain ⟨h1, h2⟩ := h
  refine perm_dd ?_ fun x => ?_
  · exact List.Pairwise.of_map bs (fun a b hne e => hne (by rw [e])) h1
  · have hx := h2 (bs x)
    rw [hl] at hx
    rw [Maps.has_setOf _ _ _ (by intro l hl; obtain ⟨s, _, rfl⟩ := List.mem_map.1 hl; trivial)] at hx
    constructor
    · intro hm
      have := (hx.1 (List.mem_map.2 ⟨x, hm, rfl⟩)).1
      rw [List.any_eq_true] at this
      obtain ⟨l, hl1, hl2⟩ := this
      obtain ⟨s, hs, rfl⟩ := List.mem_map.1 hl1
      have : bs s = bs x := by simpa [lit, Lit.sameKey, bs] using hl2
      rw [← bs_inj this]
      exact hs
    · intro hm
      have : bs x ∈ cs.map bs := hx.2 ⟨by
        rw [List.any_eq_true]
        exact ⟨lit x, List.mem_map.2 ⟨x, hm, rfl⟩, by simp [lit, Lit.sameKey, bs]⟩, rfl⟩
      obtain ⟨s, hs, he⟩ := List.mem_map.1 this
      rw [← bs_inj he]
      exact hs

theorem size_le {w : World} {B n : Nat} {D : DataW Unit} (h : w.ownsMap Try.prog 9 nilElem B n D) : Maps.size D ≤ n := by
  obtain ⟨es, clock, _, F, hs, rfl⟩ := h
  show ((es.toList.map _).foldr DataW.insert []).length ≤ n
  rw [(Go.WideShapes.sorted_perm _).length_eq]
  simpa using hs

theorem row_ne {w : World} {b r n : Nat} {D : DataW Unit} {left : Lit → Bool} {cnt base m : Nat} {v : Value} {xs : List Value}
    (h : w.ownsRow base 9 1 v m xs) (hr : w.ranges Try.prog 9 nilElem b r n D left cnt) : some r ≠ v.ownBlock ∧ some b ≠ v.ownBlock := by
  obtain ⟨_, _, _, _, _, hb, _, _, _, hit, _⟩ := hr
  rcases h.2 with ⟨rfl, _⟩ | ⟨g, cap, cur, rfl, _, hg, _⟩
  · simp [Value.ownBlock]
  · constructor
    · intro e1
      have : r = g := by simpa [Value.ownBlock] using e1
      rw [this, hg] at hit
      cases hit
    · intro e1
      have : b = g := by simpa [Value.ownBlock] using e1
      rw [this, hg] at hb
      cases hb

/-- The step of the iterator turns no row. -/
theorem ownS_turn {B r : Nat} {w0 w w' : World} {v : Value} {ss : List ByteArray} (h : OwnS B w0 w v ss) (hg : w.grownBy w' (some r)) (hne : some r ≠ v.ownBlock) (hr : B ≤ r) : OwnS B w0 w' v ss :=
  ⟨h.1.kept hg (.inr hne.symm), h.2.1.grown hg h.2.2 (fun k hk => by cases hk; exact hr), Nat.le_trans h.2.2 hg.size⟩
theorem ownS_grow {B : Nat} {w0 w w' : World} {v : Value} {ss : List ByteArray} (h : OwnS B w0 w v ss) (hg : w.grownBy w' none) : OwnS B w0 w' v ss :=
  ⟨h.1.kept hg (by cases hv : v.ownBlock <;> simp), h.2.1.grown hg h.2.2 (fun k hk => by cases hk), Nat.le_trans h.2.2 hg.size⟩

theorem key_inv : ∀ key kl, keyOf Try.prog 9 key = some kl → ∃ x : ByteArray, key = .string x := by
  intro key kl h
  obtain ⟨x, hx, _⟩ := WideMaps.string_of_keyOf Try.underlying9 h
  exact ⟨x, hx⟩
theorem key_lit {s : ByteArray} {kl : Lit} (h : keyOf Try.prog 9 (.string s) = some kl) : kl = lit s := by
  obtain ⟨x, hx, hk, _⟩ := WideMaps.string_of_keyOf Try.underlying9 h
  cases hx
  exact hk
theorem val_inv : ∀ v y, nilElem v = some y → ∃ c : Unit, v = (fun _ => Value.slice none 0 0) c := fun v y h => ⟨(), nilElem_inv h⟩

theorem pick_succ_no {kss : List (List ByteArray)} {m : Nat → Bool} {i : Nat} (h : m i = false) : pick kss m (i + 1) = pick kss m i := by
  rw [pick, h]; simp
theorem pick_succ_yes {kss : List (List ByteArray)} {m : Nat → Bool} {i : Nat} {ks : List ByteArray} (h : m i = true) (hk : kss[i]? = some ks) : pick kss m (i + 1) = pick kss m i ++ dd ks := by
  rw [pick, h, List.getD_eq_getElem?_getD, hk]; simp
end Go.Proofs.Qxb6615212a
