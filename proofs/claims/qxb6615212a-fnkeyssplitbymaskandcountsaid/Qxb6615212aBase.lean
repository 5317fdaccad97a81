/-
  What the walks of 'FnKeysSplitByMaskAndCount' say of memory: a slice's cells; a row of strings that the call has made.
-/
import Derived.Test.Qxb6615212aRows
import Derived.Test.Qxb6615212aPlain
import Derived.WalkKit
import Derived.WalkSpells
import Derived.WalkLawsBesides
import Derived.BigQuiet
import Derived.Deep.QuietTactic
import Derived.ProofKit
import Derived.OpenShut
import Derived.ShutString
import Derived.Below
import Derived.Laws.CopyOwn
namespace Go.Proofs.Qxb6615212a
open Go.ChangeShapes Go.WideShapes Go.ChangeAt Go.RowKit
set_option linter.unusedVariables false

theorem Try.info9 : (Try.prog.info? 9).map (fun i => (i.zero, i.size, i.bytes)) = some (some (.string ⟨#[]⟩), 1, 16) := by kernel_rfl
theorem Try.info4 : (Try.prog.info? 4).map (fun i => (i.zero, i.size, i.bytes)) = some (some (.bool false), 1, 1) := by kernel_rfl
theorem Try.info48 : (Try.prog.info? 48).map (fun i => (i.zero, i.size, i.bytes)) = some (some (.map none), 1, 8) := by kernel_rfl

/-- The slice v has the elements cs. -/
def RowV (w : World) (v : Value) (cs : List Value) : Prop :=
  ∃ ao cap, v = .slice ao cs.length cap ∧ cs.length ≤ cap ∧ (ao = none → cap = 0) ∧
    (0 < cs.length → ∃ b off, ao = some ⟨b, off, none⟩ ∧ b < w.heap.size ∧ ∀ j u, cs[j]? = some u → w.cell? ⟨b, off + j, none⟩ = some u)

theorem rowV_below {w w' : World} {v : Value} {cs : List Value} (h : RowV w v cs) (hb : Below w.heap.size w w') : RowV w' v cs := by
  obtain ⟨ao, cap, h1, h2, h3, h4⟩ := h
  refine ⟨ao, cap, h1, h2, h3, fun hp => ?_⟩
  obtain ⟨b, off, k1, k2, k3⟩ := h4 hp
  exact ⟨b, off, k1, Nat.lt_of_lt_of_le k2 hb.size, fun j u hj => (hb.cell (p := ⟨b, off + j, none⟩) k2).trans (k3 j u hj)⟩

/-- A slice of strings. -/
def Strs (w : World) (v : Value) (ss : List ByteArray) : Prop := RowV w v (ss.map Value.string)

theorem strs_below {w w' : World} {v : Value} {ss : List ByteArray} (h : Strs w v ss) (hb : Below w.heap.size w w') : Strs w' v ss := rowV_below h hb

/-- Its shape: of no element, or at an address. -/
theorem strs_cases {w : World} {v : Value} {ss : List ByteArray} (h : Strs w v ss) :
    (∃ ao cap, v = .slice ao 0 cap ∧ ss = []) ∨
    ∃ b off cap, v = .slice (some ⟨b, off, none⟩) ss.length cap ∧ 0 < ss.length ∧ ss.length ≤ cap ∧ b < w.heap.size ∧ ∀ j s, ss[j]? = some s → w.cell? ⟨b, off + j, none⟩ = some (.string s) := by
  obtain ⟨ao, cap, h1, h2, h3, h4⟩ := h
  rw [List.length_map] at h1 h2 h4
  rcases Nat.eq_zero_or_pos ss.length with h0 | h0
  · left
    have : ss = [] := List.eq_nil_of_length_eq_zero h0
    subst this
    exact ⟨ao, cap, h1, rfl⟩
  · right
    obtain ⟨b, off, rfl, k2, k3⟩ := h4 h0
    exact ⟨b, off, cap, h1, h0, h2, k2, fun j s hj => k3 j _ (by rw [List.getElem?_map, hj]; rfl)⟩

theorem strs_mk {w : World} {b off n cap : Nat} {ss : List ByteArray} (hn : ss.length = n) (hc : n ≤ cap) (hb : b < w.heap.size) (hcell : ∀ j s, ss[j]? = some s → w.cell? ⟨b, off + j, none⟩ = some (.string s)) :
    Strs w (.slice (some ⟨b, off, none⟩) n cap) ss := by
  subst hn
  refine ⟨some ⟨b, off, none⟩, cap, by simp, by simpa using hc, (fun h => by cases h), fun _ => ⟨b, off, rfl, hb, fun j u hj => ?_⟩⟩
  rw [List.getElem?_map] at hj
  cases hs : ss[j]? with
  | none => rw [hs] at hj; cases hj
  | some s => rw [hs] at hj; cases hj; exact hcell j s hs

theorem strs_nil (w : World) (ao : Option Addr) (cap : Nat) (h : ao = none → cap = 0) : Strs w (.slice ao 0 cap) [] :=
  ⟨ao, cap, rfl, Nat.zero_le _, h, fun h => by simp at h⟩

/-- A row of strings that the call has made since the world was w0; below B nothing has turned. -/
def OwnS (B : Nat) (w0 w : World) (v : Value) (ss : List ByteArray) : Prop := w.ownsRow B 9 1 v ss.length (ss.map Value.string) ∧ Below B w0 w ∧ B ≤ w.heap.size

theorem ownS_strs {B : Nat} {w0 w : World} {v : Value} {ss : List ByteArray} (h : OwnS B w0 w v ss) : Strs w v ss := by
  obtain ⟨h1, _, _⟩ := h
  have hc := fun g => World.ownsRow.cells h1 (g := g)
  rcases h1.2 with ⟨rfl, h0⟩ | ⟨g, cap, cur, rfl, hg, hh, hn, _⟩
  · have : ss = [] := List.eq_nil_of_length_eq_zero h0
    subst this
    exact strs_nil _ _ _ (fun _ => rfl)
  · refine strs_mk rfl hn (lt_of_block hh) fun j s hj => ?_
    have := hc g rfl j (.string s) (by rw [List.getElem?_map, hj]; rfl)
    rw [Addr.add_lit] at this
    exact this

theorem strings_oneCell (ss : List ByteArray) : ∀ u ∈ ss.map Value.string, u.oneCell' = true := by
  intro u hu
  obtain ⟨s, _, rfl⟩ := List.mem_map.1 hu
  rfl

theorem ownS_drewN {B : Nat} {w0 w : World} {v : Value} {ss : List ByteArray} (h : OwnS B w0 w v ss) (n : Nat) : OwnS B w0 (w.drewN n) v ss := ⟨h.1, below_drewN h.2.1 n, h.2.2⟩

theorem ownS_nil (w : World) : OwnS w.heap.size w w (.slice none 0 0) [] := ⟨World.ownsRow_nil _ _ _ _, Below.refl _ _, Nat.le_refl _⟩

/-- 'out = append(out, s)'. -/
theorem wpList_appS {w : World} {ops : Array Oper} {rest : List Oper} {o : Oper} {a : Act} {Q : Exit → Act → World → Prop} (hgd : o.guard = none) (x y : Operand)
    (ho : o.op = .call { callee := .builtin .append, args := #[x, y], argTypes := #[40, 40] })
    (B : Nat) (w0 : World) (v : Value) (ss : List ByteArray) (s : ByteArray) (hx : a.eval x = v) (hO : OwnS B w0 w v ss) (hn : ss.length ≤ 1048576)
    (hy : a.eval y = .slice (some ⟨w.heap.size, 0, none⟩) 1 1)
    (h : ∀ v' w', OwnS B w0 w' v' (ss ++ [s]) → (w.alloc (.cells #[.string s] 9)).grownBy w' v.ownBlock → wpList Try.prog ops Q rest (a.put o.dst v') w') : wpList Try.prog ops Q (o :: rest) a (w.alloc (.cells #[.string s] 9)) := by
  obtain ⟨i0, hi, hz0, hz1, hz2⟩ := info_parts Try.info9
  obtain ⟨h1, h3, h4⟩ := hO
  refine wpList_append_own _ hgd x y 40 ho B 9 i0 (.string ⟨#[]⟩) 1 16 Try.underlying40 hi hz0 hz1 hz2 rfl (by decide) v ss.length (ss.map Value.string) hx (h1.alloc _) ⟨w.heap.size, 0, none⟩ 1 1 [.string s] hy rfl (cell_one_new _ _ _) (strings_oneCell [s]) (by unfold maxLen; omega) (by omega) (by simp; omega) ?_
  intro v' w' hown hgrow _
  refine h v' w' ⟨by simpa using hown, ?_, ?_⟩ hgrow
  · refine (h3.alloc h4 _).grown hgrow (by simp; omega) ?_
    intro k hk
    exact (h1.lt k hk).1
  · have := hgrow.size
    simp at this
    omega
end Go.Proofs.Qxb6615212a
