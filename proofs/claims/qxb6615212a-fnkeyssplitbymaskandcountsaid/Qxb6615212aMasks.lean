/-
  The masks that the law makes; the copy of the mask that came in; plain facts for the law's own walk.
-/
import Derived.Test.Qxb6615212aStore
import Derived.Test.Qxb6615212aDistinct
import Derived.Test.Qxb6615212aEqual
namespace Go.Proofs.Qxb6615212a
open Go.ChangeShapes Go.WideShapes Go.ChangeAt Go.RowKit
set_option linter.unusedVariables false

/-- The complement's mask behind i rounds. -/
def compTo (ms : List Bool) (n i : Nat) : List Bool := (List.range n).map fun k => if k < i then !maskAt ms k else false
/-- The all-true mask behind i rounds. -/
def allTo (n i : Nat) : List Bool := (List.range n).map fun k => decide (k < i)

theorem len_compTo (ms : List Bool) (n i : Nat) : (compTo ms n i).length = n := by simp [compTo]
theorem len_allTo (n i : Nat) : (allTo n i).length = n := by simp [allTo]

theorem compTo_zero (ms : List Bool) (n : Nat) : (compTo ms n 0).map Value.bool = (madeCells #[Value.bool false] n).toList := by
  apply List.ext_getElem?
  intro k
  by_cases hk : k < n
  · simp [compTo, madeCells, hk, Nat.mod_one]
  · simp [compTo, madeCells, hk]
theorem allTo_zero (n : Nat) : (allTo n 0).map Value.bool = (madeCells #[Value.bool false] n).toList := by
  apply List.ext_getElem?
  intro k
  by_cases hk : k < n
  · simp [allTo, madeCells, hk, Nat.mod_one]
  · simp [allTo, madeCells, hk]
theorem compTo_succ (ms : List Bool) (n i : Nat) (h : i < n) : ((compTo ms n i).map Value.bool).set i (.bool (!maskAt ms i)) = (compTo ms n (i + 1)).map Value.bool := by
  apply List.ext_getElem?
  intro k
  by_cases hk : k < n
  · by_cases e : i = k
    · subst e
      simp [compTo, hk]
    · have h1 : k < i + 1 ↔ k < i := by omega
      simp [compTo, hk, e, h1]
  · simp [compTo, hk]
theorem allTo_succ (n i : Nat) (h : i < n) : ((allTo n i).map Value.bool).set i (.bool true) = (allTo n (i + 1)).map Value.bool := by
  apply List.ext_getElem?
  intro k
  by_cases hk : k < n
  · by_cases e : i = k
    · subst e
      simp [allTo, hk]
    · have h1 : k < i + 1 ↔ k < i := by omega
      simp [allTo, hk, e, h1]
  · simp [allTo, hk]
theorem maskAt_comp (ms : List Bool) (n k : Nat) (h : k < n) : maskAt (compTo ms n n) k = !maskAt ms k := by
  have : (compTo ms n n)[k]? = some (!maskAt ms k) := by simp [compTo, h]
  exact maskAt_some this
theorem maskAt_all (n k : Nat) (h : k < n) : maskAt (allTo n n) k = true := by
  have : (allTo n n)[k]? = some true := by simp [allTo, h]
  exact maskAt_some this

theorem pick_comp (kss : List (List ByteArray)) (ms : List Bool) : pick kss (maskAt (compTo ms kss.length kss.length)) kss.length = pick kss (fun i => !maskAt ms i) kss.length :=
  pick_congr kss _ fun i hi => maskAt_comp ms _ i hi
theorem pick_all (kss : List (List ByteArray)) : pick kss (maskAt (allTo kss.length kss.length)) kss.length = pick kss (fun _ => true) kss.length :=
  pick_congr kss _ fun i hi => maskAt_all _ i hi

/-- How many different keys the first i buckets hold, summed. -/
def cnt (kss : List (List ByteArray)) (i : Nat) : Nat := (pick kss (fun _ => true) i).length
theorem cnt_succ {kss : List (List ByteArray)} {i : Nat} {ks : List ByteArray} (h : kss[i]? = some ks) : cnt kss (i + 1) = cnt kss i + (dd ks).length := by
  unfold cnt
  rw [pick_succ_yes rfl h, List.length_append]
theorem cnt_le (kss : List (List ByteArray)) (i : Nat) : cnt kss i ≤ total kss i := pick_len kss _ i

/-- 'copy(zzc, want)' onto a row that the call has just made. -/
theorem copy_run {w0 u0 : World} {B len cap : Nat} {x : Addr} {cur cs : List Value} (hg : u0.heap[B]? = some (.cells cur.toArray 4 (0, 0))) (hcur : cur.length = len) (hcs : cs.length = len)
    (hsrc : ∀ j v, cs[j]? = some v → u0.cell? (x.add j) = some v) (h1 : ∀ v ∈ cs, v.oneCell' = true) (hb : Below B w0 u0) :
    ∃ u1, Sem.run Try.prog (Builtin.copy_ #[35, 35] 3 #[.slice (some ⟨B, 0, none⟩) len len, .slice (some x) len cap]) u0 = .ok (.int .i64 len) u1 ∧ Below B w0 u1 ∧ RowV u1 (.slice (some ⟨B, 0, none⟩) len len) cs := by
  subst hcs
  have hrun := run_copy_row (P := Try.prog) u0 35 35 3 4 B 0 cs.length cs.length x cs.length cap cur.toArray 4 cs Try.underlying35 (by kernel_rfl) hg (by simp) hsrc (by simp; omega) h1
  have hnew := setRow_heap u0 B _ (cur.take 0 ++ cs ++ cur.drop (0 + cs.length)).toArray 4 _ hg
  refine ⟨_, by rw [hrun]; rfl, below_setRow hb (Nat.le_refl _) _, some ⟨B, 0, none⟩, cs.length, rfl, Nat.le_refl _, (fun h => by cases h), fun _ => ⟨B, 0, rfl, ?_, ?_⟩⟩
  · have := lt_of_block hg
    simpa [World.setRow] using this
  · intro i v hi
    rw [show 0 + i = i from Nat.zero_add i]
    unfold World.cell?
    have e : ∀ c : Array Value, (match (some (Obj.cells c 4 (0, 0)) : Option Obj) with | some (.cells c _ _) => if (⟨B, i, none⟩ : Addr).spot.isSome then none else c[(⟨B, i, none⟩ : Addr).off]? | _ => none) = c[i]? := fun c => rfl
    have hlt : i < cs.length := (List.getElem?_eq_some_iff.1 hi).1
    have hv : (cur.take 0 ++ cs ++ cur.drop (0 + cs.length)).toArray[i]? = some v := by
      simp [List.getElem?_append_left hlt, hi]
    show (match (u0.setRow B _).heap[B]? with | some (.cells c _ _) => if (⟨B, i, none⟩ : Addr).spot.isSome then none else c[(⟨B, i, none⟩ : Addr).off]? | _ => none) = _
    have hnew' : (u0.setRow B (cur.toArray.toList.take 0 ++ cs ++ cur.toArray.toList.drop (0 + cs.length)).toArray).heap[B]? = some (.cells (cur.take 0 ++ cs ++ cur.drop (0 + cs.length)).toArray 4 (0, 0)) := by
      simpa using hnew
    rw [hnew', e]
    exact hv

/-- The cells of the mask that came in, at its address, of whatever length. -/
theorem bools_src {w : World} {x : Addr} {n cap : Nat} {ms : List Bool} (h : Bools w (.slice (some x) n cap) ms) : ∀ j v, (ms.map Value.bool)[j]? = some v → w.cell? (x.add j) = some v := by
  intro j v hj
  obtain ⟨ao, cap', h1, h2, h3, h4⟩ := h
  cases h1
  have hlt : 0 < (ms.map Value.bool).length := Nat.lt_of_le_of_lt (Nat.zero_le _) (List.getElem?_eq_some_iff.1 hj).1
  obtain ⟨b, off, k1, _, k3⟩ := h4 hlt
  cases k1
  rw [Addr.add_lit]
  exact k3 j v hj
theorem bools_oneCell (ms : List Bool) : ∀ v ∈ ms.map Value.bool, v.oneCell' = true := by
  intro u hu
  obtain ⟨_, _, rfl⟩ := List.mem_map.1 hu
  rfl
end Go.Proofs.Qxb6615212a
