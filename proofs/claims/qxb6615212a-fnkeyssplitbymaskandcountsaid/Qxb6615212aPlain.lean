/-
  The plain laws of 'FnKeysSplitByMaskAndCount': lists of byte strings, no Go in sight.
-/
import Derived.Laws.Strings
namespace Go.Proofs.Qxb6615212a

/-- Go's order on strings IS the lexical order of the bytes' lists. -/
theorem less_eq : ∀ (x y : List UInt8), Op.bytesLess x y = decide (x < y)
  | [], [] => by simp [Op.bytesLess]
  | _ :: _, [] => by simp [Op.bytesLess]
  | [], _ :: _ => by simp [Op.bytesLess]
  | a :: x, b :: y => by
    rw [Op.bytesLess, less_eq x y]
    simp only [List.cons_lt_cons_iff]
    by_cases h1 : a < b <;> by_cases h2 : a = b <;> by_cases h3 : x < y <;> simp [h1, h2, h3]

/-- a is not behind b. -/
def Le (a b : ByteArray) : Prop := Op.bytesLess b.toList a.toList = false

theorem le_iff (a b : ByteArray) : Le a b ↔ a.data.toList ≤ b.data.toList := by
  unfold Le
  rw [less_eq, ByteArray.toList_eq, ByteArray.toList_eq, decide_eq_false_iff_not, List.not_lt]

theorem le_trans {a b c : ByteArray} (h : Le a b) (k : Le b c) : Le a c := by
  rw [le_iff] at *
  exact List.le_trans h k

theorem bytes_ext {a b : ByteArray} (h : a.data.toList = b.data.toList) : a = b := by
  cases a; cases b
  simp at h
  simp [h]

theorem le_anti {a b : ByteArray} (h : Le a b) (k : Le b a) : a = b := by
  rw [le_iff] at *
  exact bytes_ext (List.le_antisymm h k)

theorem le_of_less {a b : ByteArray} (h : Op.bytesLess a.toList b.toList = true) : Le a b := by
  rw [le_iff]
  rw [less_eq, ByteArray.toList_eq, ByteArray.toList_eq, decide_eq_true_eq] at h
  exact List.le_of_lt h

theorem eq_of_toList {a b : ByteArray} (h : (a.toList == b.toList) = true) : a = b := by
  rw [ByteArray.toList_eq, ByteArray.toList_eq] at h
  exact bytes_ext (by simpa using h)
theorem ne_of_toList {a b : ByteArray} (h : (a.toList == b.toList) = false) : a ≠ b := by
  rintro rfl
  simp at h

def Sorted (l : List ByteArray) : Prop := l.Pairwise Le

/-- Two sorted lists of the same strings are one. -/
theorem sorted_uniq {l l' : List ByteArray} (h : l.Perm l') (s : Sorted l) (s' : Sorted l') : l = l' :=
  List.Perm.eq_of_pairwise (le := Le) (fun _ _ _ _ h1 h2 => le_anti h1 h2) s s' h

/-! ### The merge -/
/-- Behind i of L and j of R the merged text m. -/
def Merge (L R : List ByteArray) (i j : Nat) (m : List ByteArray) : Prop :=
  m.Perm (L.take i ++ R.take j) ∧ Sorted m ∧ (∀ x ∈ m, ∀ y ∈ L.drop i, Le x y) ∧ (∀ x ∈ m, ∀ y ∈ R.drop j, Le x y)

theorem merge_start (L R : List ByteArray) : Merge L R 0 0 [] := ⟨by simp, List.Pairwise.nil, by simp, by simp⟩

theorem drop_cons {L : List ByteArray} {i : Nat} {s : ByteArray} (h : L[i]? = some s) : L.drop i = s :: L.drop (i + 1) := by
  obtain ⟨hi, rfl⟩ := List.getElem?_eq_some_iff.1 h
  exact List.drop_eq_getElem_cons hi
theorem take_snoc {L : List ByteArray} {i : Nat} {s : ByteArray} (h : L[i]? = some s) : L.take (i + 1) = L.take i ++ [s] := by
  obtain ⟨hi, rfl⟩ := List.getElem?_eq_some_iff.1 h
  exact List.take_succ_eq_append_getElem hi
theorem mem_drop_succ {L : List ByteArray} {i : Nat} {y : ByteArray} (h : y ∈ L.drop (i + 1)) : y ∈ L.drop i := by
  rw [← List.drop_drop] at h
  exact List.mem_of_mem_drop h
theorem sorted_drop {L : List ByteArray} (h : Sorted L) {i : Nat} {s : ByteArray} (hs : L[i]? = some s) : ∀ y ∈ L.drop i, Le s y := by
  have h2 : Sorted (L.drop i) := List.Pairwise.sublist (List.drop_sublist _ _) h
  rw [drop_cons hs] at h2 ⊢
  intro y hy
  rcases List.mem_cons.1 hy with rfl | hy
  · unfold Le; rw [less_eq]; simp
  · exact (List.pairwise_cons.1 h2).1 y hy

theorem sorted_snoc {m : List ByteArray} {s : ByteArray} (h : Sorted m) (k : ∀ x ∈ m, Le x s) : Sorted (m ++ [s]) :=
  List.pairwise_append.2 ⟨h, List.pairwise_singleton _ _, fun x hx y hy => by simp at hy; subst hy; exact k x hx⟩

theorem merge_left {L R m : List ByteArray} {i j : Nat} {s : ByteArray} (h : Merge L R i j m) (hL : Sorted L) (hs : L[i]? = some s) (hR : ∀ y ∈ R.drop j, Le s y) : Merge L R (i + 1) j (m ++ [s]) := by
  obtain ⟨h1, h2, h3, h4⟩ := h
  have hmem : s ∈ L.drop i := by rw [drop_cons hs]; simp
  refine ⟨?_, sorted_snoc h2 fun x hx => h3 x hx s hmem, ?_, ?_⟩
  · rw [take_snoc hs]
    refine (h1.append_right [s]).trans ?_
    rw [List.append_assoc, List.append_assoc]
    exact List.Perm.append_left _ List.perm_append_comm
  · intro x hx y hy
    rcases List.mem_append.1 hx with hx | hx
    · exact h3 x hx y (mem_drop_succ hy)
    · simp at hx; subst hx; exact sorted_drop hL hs y (mem_drop_succ hy)
  · intro x hx y hy
    rcases List.mem_append.1 hx with hx | hx
    · exact h4 x hx y hy
    · simp at hx; subst hx; exact hR y hy

theorem merge_right {L R m : List ByteArray} {i j : Nat} {s : ByteArray} (h : Merge L R i j m) (hR : Sorted R) (hs : R[j]? = some s) (hL : ∀ y ∈ L.drop i, Le s y) : Merge L R i (j + 1) (m ++ [s]) := by
  obtain ⟨h1, h2, h3, h4⟩ := h
  have hmem : s ∈ R.drop j := by rw [drop_cons hs]; simp
  refine ⟨?_, sorted_snoc h2 fun x hx => h4 x hx s hmem, ?_, ?_⟩
  · rw [take_snoc hs, ← List.append_assoc]
    exact h1.append_right [s]
  · intro x hx y hy
    rcases List.mem_append.1 hx with hx | hx
    · exact h3 x hx y hy
    · simp at hx; subst hx; exact hL y hy
  · intro x hx y hy
    rcases List.mem_append.1 hx with hx | hx
    · exact h4 x hx y (mem_drop_succ hy)
    · simp at hx; subst hx; exact sorted_drop hR hs y (mem_drop_succ hy)

theorem merge_len {L R m : List ByteArray} {i j : Nat} (h : Merge L R i j m) (hi : i ≤ L.length) (hj : j ≤ R.length) : m.length = i + j := by
  have := h.1.length_eq
  simp at this
  omega

theorem merge_end {L R m : List ByteArray} (h : Merge L R L.length R.length m) : m.Perm (L ++ R) ∧ Sorted m := by
  refine ⟨?_, h.2.1⟩
  have := h.1
  simpa using this

/-! ### Strings without repeats -/
/-- x is on the list. -/
def onB (l : List ByteArray) (x : ByteArray) : Bool := l.any fun y => decide (y = x)
theorem onB_iff (l : List ByteArray) (x : ByteArray) : onB l x = true ↔ x ∈ l := by simp [onB]

/-- The strings of ss, each once. -/
def dd : List ByteArray → List ByteArray
  | [] => []
  | x :: r => if onB (dd r) x = true then dd r else x :: dd r

theorem mem_dd {y : ByteArray} : ∀ {ss : List ByteArray}, y ∈ dd ss ↔ y ∈ ss
  | [] => by simp [dd]
  | x :: r => by
    rw [dd]
    by_cases hx : onB (dd r) x = true
    · rw [if_pos hx, mem_dd, List.mem_cons]
      constructor
      · exact fun h => .inr h
      · rintro (rfl | h)
        · exact mem_dd.1 ((onB_iff _ _).1 hx)
        · exact h
    · rw [if_neg hx, List.mem_cons, List.mem_cons, mem_dd]

theorem nodup_dd : ∀ (ss : List ByteArray), (dd ss).Nodup
  | [] => by simp [dd]
  | x :: r => by
    rw [dd]
    by_cases hx : onB (dd r) x = true
    · rw [if_pos hx]; exact nodup_dd r
    · rw [if_neg hx]
      exact List.nodup_cons.2 ⟨fun h => hx ((onB_iff _ _).2 h), nodup_dd r⟩

theorem perm_dd {cs ss : List ByteArray} (hn : cs.Nodup) (hm : ∀ x, x ∈ cs ↔ x ∈ ss) : cs.Perm (dd ss) :=
  (List.perm_ext_iff_of_nodup hn (nodup_dd ss)).2 fun x => by rw [hm, mem_dd]

theorem len_dd (ss : List ByteArray) : (dd ss).length ≤ ss.length := by
  induction ss with
  | nil => simp [dd]
  | cons x r ih =>
    rw [dd]
    by_cases hx : onB (dd r) x = true
    · rw [if_pos hx]; simp; omega
    · rw [if_neg hx]; simp; omega

/-- The walk over a sorted text: what has been kept of its first k. -/
def Kept (s : List ByteArray) (k : Nat) (out : List ByteArray) : Prop := out.Nodup ∧ ∀ x, x ∈ out ↔ x ∈ s.take k

theorem kept_start (s : List ByteArray) : Kept s 0 [] := ⟨List.nodup_nil, by simp⟩
theorem kept_same {s out : List ByteArray} {k : Nat} {x : ByteArray} (h : Kept s k out) (hx : s[k]? = some x) (hp : x ∈ s.take k) : Kept s (k + 1) out := by
  refine ⟨h.1, fun y => ?_⟩
  rw [h.2, take_snoc hx, List.mem_append]
  constructor
  · exact fun h => .inl h
  · rintro (h | h)
    · exact h
    · simp at h; subst h; exact hp
theorem kept_new {s out : List ByteArray} {k : Nat} {x : ByteArray} (h : Kept s k out) (hx : s[k]? = some x) (hp : x ∉ s.take k) : Kept s (k + 1) (out ++ [x]) := by
  refine ⟨List.nodup_append.2 ⟨h.1, by simp, fun a ha b hb => by simp at hb; subst hb; exact fun e => hp (e ▸ (h.2 a).1 ha)⟩, fun y => ?_⟩
  rw [take_snoc hx, List.mem_append, List.mem_append, h.2]
theorem mem_prev {s : List ByteArray} {k : Nat} {y : ByteArray} (hy : s[k]? = some y) : y ∈ s.take (k + 1) := by rw [take_snoc hy]; simp
theorem new_of_ne {s : List ByteArray} (h : Sorted s) {k : Nat} {x y : ByteArray} (hy : s[k]? = some y) (hx : s[k + 1]? = some x) (hne : x ≠ y) : x ∉ s.take (k + 1) := by
  intro hm
  rw [take_snoc hy] at hm
  have hle : Le y x := sorted_drop h hy x (by rw [drop_cons hy, drop_cons hx]; simp)
  rcases List.mem_append.1 hm with hm | hm
  · have h2 : Sorted (s.take k ++ s.drop k) := by rw [List.take_append_drop]; exact h
    have := (List.pairwise_append.1 h2).2.2 x hm y (by rw [drop_cons hy]; simp)
    exact hne (le_anti this hle)
  · simp at hm
    exact hne hm
theorem kept_end {s out : List ByteArray} {k : Nat} (h : Kept s k out) (hk : s.length ≤ k) {ss : List ByteArray} (hp : s.Perm ss) : out.Perm (dd ss) := by
  refine perm_dd h.1 fun x => ?_
  rw [h.2, List.take_of_length_le hk]
  exact hp.mem_iff

/-! ### The keys of the wanted buckets -/
def pick (kss : List (List ByteArray)) (m : Nat → Bool) : Nat → List ByteArray
  | 0 => []
  | k + 1 => pick kss m k ++ (if m k then dd (kss.getD k []) else [])

def total (kss : List (List ByteArray)) : Nat → Nat
  | 0 => 0
  | k + 1 => total kss k + (kss.getD k []).length

theorem total_mono (kss : List (List ByteArray)) {a b : Nat} (h : a ≤ b) : total kss a ≤ total kss b := by
  induction b with
  | zero => have : a = 0 := by omega
            subst this; exact Nat.le_refl _
  | succ b ih =>
    rcases Nat.lt_or_ge a (b + 1) with h1 | h1
    · have := ih (by omega)
      have e : total kss (b + 1) = total kss b + (kss.getD b []).length := rfl
      omega
    · have : a = b + 1 := by omega
      subst this
      exact Nat.le_refl _

theorem pick_len (kss : List (List ByteArray)) (m : Nat → Bool) : ∀ k, (pick kss m k).length ≤ total kss k
  | 0 => by simp [pick, total]
  | k + 1 => by
    have := pick_len kss m k
    have h2 := len_dd (kss.getD k [])
    unfold pick total
    split <;> simp at * <;> omega

theorem pick_split (kss : List (List ByteArray)) (m : Nat → Bool) : ∀ k, (pick kss m k ++ pick kss (fun i => !m i) k).Perm (pick kss (fun _ => true) k)
  | 0 => by simp [pick]
  | k + 1 => by
    have ih := pick_split kss m k
    unfold pick
    cases m k
    · simp
      rw [← List.append_assoc]
      exact ih.append_right _
    · simp
      refine (List.Perm.append_left _ List.perm_append_comm).trans ?_
      rw [← List.append_assoc]
      exact ih.append_right _

theorem pick_congr (kss : List (List ByteArray)) {m m' : Nat → Bool} : ∀ k, (∀ i, i < k → m i = m' i) → pick kss m k = pick kss m' k
  | 0, _ => rfl
  | k + 1, h => by
    unfold pick
    rw [pick_congr kss k (fun i hi => h i (by omega)), h k (by omega)]
end Go.Proofs.Qxb6615212a
