/-
  The plain law of 'FnNamesBelowOrdersDescendants': texts as lists of bytes, no Go in sight.
-/
import Derived.Laws.Strings
namespace Go.Proofs.Qxb6617669a

/-- The text p begins the text s. -/
def preB (p s : ByteArray) : Bool := p.data.toList.isPrefixOf s.data.toList
/-- b begins with a and has a slash right behind it. -/
def strictB (a b : ByteArray) : Bool := preB a b && (b.data.toList[a.size]? == some 47)
/-- The opening text that 'namesBelow' gives. -/
def nbB (s : ByteArray) : ByteArray := if s.toList.isEmpty then ⟨#[]⟩ else s ++ ⟨#[47]⟩

/-- The first k bytes of the two are the same. -/
def Agree (s p : ByteArray) (k : Nat) : Prop := s.data.toList.take k = p.data.toList.take k

theorem agree_zero (s p : ByteArray) : Agree s p 0 := by simp [Agree]
theorem agree_symm {s p : ByteArray} {k : Nat} (h : Agree s p k) : Agree p s k := by unfold Agree at *; exact h.symm

theorem take_snoc (s : ByteArray) (k : Nat) (h : k < s.size) : s.data.toList.take (k + 1) = s.data.toList.take k ++ [s[k]] := by
  rw [List.take_succ_eq_append_getElem (by simpa using h)]; rfl

theorem agree_succ {s p : ByteArray} {k : Nat} (h : Agree s p k) (h1 : k < s.size) (h2 : k < p.size)
    (he : ((s[k].toNat : Int) != (p[k].toNat : Int)) = false) : Agree s p (k + 1) := by
  unfold Agree at *
  rw [take_snoc s k h1, take_snoc p k h2, h]
  have : s[k].toNat = p[k].toNat := by simp at he; omega
  rw [UInt8.toNat_inj.1 this]

theorem pre_iff (p s : ByteArray) : preB p s = true ↔ p.data.toList = s.data.toList.take p.size := by
  unfold preB
  rw [List.isPrefixOf_iff_prefix, List.prefix_iff_eq_take]
  rfl

theorem pre_long {p s : ByteArray} (h : s.size < p.size) : preB p s = false := by
  rw [Bool.eq_false_iff]
  intro c
  rw [pre_iff] at c
  have := congrArg List.length c
  simp at this
  omega

theorem pre_no {p s : ByteArray} {k : Nat} (h1 : k < s.size) (h2 : k < p.size)
    (he : ((s[k].toNat : Int) != (p[k].toNat : Int)) = true) : preB p s = false := by
  rw [Bool.eq_false_iff]
  intro c
  rw [pre_iff] at c
  have hk : p.data.toList[k]? = s.data.toList[k]? := by
    rw [c, List.getElem?_take, if_pos h2]
  have e1 : p.data.toList[k]? = some p[k] := by
    rw [List.getElem?_eq_getElem (by simpa using h2)]; rfl
  have e2 : s.data.toList[k]? = some s[k] := by
    rw [List.getElem?_eq_getElem (by simpa using h1)]; rfl
  rw [e1, e2] at hk
  have : p[k] = s[k] := by simpa using hk
  rw [this] at he
  simp at he

theorem bne_swap {a b : Int} (h : (a != b) = true) : (b != a) = true := by
  simp at *
  exact fun e => h e.symm

theorem pre_yes {p s : ByteArray} (h : Agree s p p.size) : preB p s = true := by
  rw [pre_iff]
  unfold Agree at h
  rw [h]
  rw [List.take_of_length_le]
  show p.data.toList.length ≤ p.size
  simp

theorem strict_long {a b : ByteArray} (h : b.size ≤ a.size) : strictB a b = false := by
  unfold strictB
  have : b.data.toList[a.size]? = none := by
    rw [List.getElem?_eq_none]
    simpa using h
  rw [this]
  simp

theorem strict_no {a b : ByteArray} {k : Nat} (h1 : k < a.size) (h2 : k < b.size)
    (he : ((a[k].toNat : Int) != (b[k].toNat : Int)) = true) : strictB a b = false := by
  unfold strictB
  rw [pre_no h2 h1 (bne_swap he)]
  rfl

theorem strict_end {a b : ByteArray} (h : Agree a b a.size) (h2 : a.size < b.size) :
    strictB a b = ((b[a.size].toNat : Int) == 47) := by
  unfold strictB
  rw [pre_yes (agree_symm h)]
  have e1 : b.data.toList[a.size]? = some b[a.size] := by
    rw [List.getElem?_eq_getElem (by simpa using h2)]; rfl
  rw [e1]
  rw [Bool.eq_iff_iff]
  simp
  constructor
  · intro e; rw [e]; rfl
  · intro e
    apply UInt8.toNat_inj.1
    show b[a.size].toNat = 47
    omega

theorem nb_data (s : ByteArray) : (nbB s).data.toList = if s.data.toList = [] then [] else s.data.toList ++ [47] := by
  unfold nbB
  rw [ByteArray.toList_eq]
  by_cases h : s.data.toList = []
  · rw [if_pos h, h]; rfl
  · rw [if_neg h, if_neg (by simpa using h)]
    simp

theorem nb_size (s : ByteArray) (h : s.toList.isEmpty = false) : (nbB s).size = s.size + 1 := by
  unfold nbB
  rw [h]
  simp
  rfl
theorem nb_le (s : ByteArray) (h : s.size ≤ 65536) : (nbB s).size ≤ 65537 := by
  unfold nbB
  split
  · show (#[] : Array UInt8).size ≤ _; simp
  · have : (⟨#[47]⟩ : ByteArray).size = 1 := rfl
    simp; omega

theorem list_law (A B : List UInt8) (_hA : A ≠ []) (hne : A ≠ B) :
    (A ++ [47]).isPrefixOf (if B = [] then [] else B ++ [47]) = (A.isPrefixOf B && (B[A.length]? == some 47)) := by
  rw [Bool.eq_iff_iff]
  rw [Bool.and_eq_true, List.isPrefixOf_iff_prefix, List.isPrefixOf_iff_prefix, beq_iff_eq]
  by_cases hB : B = []
  · subst hB
    simp
  · rw [if_neg hB]
    constructor
    · rintro ⟨t, ht⟩
      rcases List.eq_nil_or_concat t with rfl | ⟨t', x, rfl⟩
      · simp at ht
        exact absurd ht hne
      · have h2 : (A ++ [47] ++ t') ++ [x] = B ++ [47] := by simpa [List.append_assoc] using ht
        have h3 := List.append_inj_left' h2 rfl
        subst h3
        refine ⟨⟨[47] ++ t', by simp⟩, ?_⟩
        simp
    · rintro ⟨⟨t, rfl⟩, h⟩
      cases t with
      | nil => simp at h
      | cons x t' =>
        simp at h
        subst h
        exact ⟨t' ++ [47], by simp⟩

theorem nb_pre (a b : ByteArray) (h1 : a.toList.isEmpty = false) (h2 : (a.toList == b.toList) = false) :
    preB (nbB a) (nbB b) = strictB a b := by
  rw [ByteArray.toList_eq] at h1
  rw [ByteArray.toList_eq, ByteArray.toList_eq] at h2
  unfold strictB preB
  rw [nb_data a, nb_data b, if_neg (by simpa using h1)]
  have := list_law a.data.toList b.data.toList (by simpa using h1) (by simpa using h2)
  rw [this]
  simp

theorem nb_pre_empty (a b : ByteArray) (h1 : a.toList.isEmpty = true) : preB (nbB a) (nbB b) = true := by
  rw [ByteArray.toList_eq] at h1
  unfold preB
  rw [nb_data a, if_pos (by simpa using h1)]
  rfl

theorem pre_self (a : ByteArray) : preB a a = true := by
  rw [pre_iff, List.take_of_length_le]
  simp

theorem nb_eq (a b : ByteArray) : ((nbB a).toList == (nbB b).toList) = (a.toList == b.toList) := by
  rw [ByteArray.toList_eq, ByteArray.toList_eq, ByteArray.toList_eq, ByteArray.toList_eq, nb_data, nb_data, Bool.eq_iff_iff]
  simp only [beq_iff_eq]
  by_cases ha : a.data.toList = [] <;> by_cases hb : b.data.toList = [] <;> simp [ha, hb]

theorem nb_empty (a : ByteArray) (h1 : a.toList.isEmpty = true) : (nbB a).toList.isEmpty = true := by
  unfold nbB; rw [if_pos h1]; rw [ByteArray.toList_eq]; rfl

theorem nb_last (a : ByteArray) (h1 : a.toList.isEmpty = false) (h : a.size < (nbB a).size) : (nbB a)[a.size].toNat = 47 := by
  have h2 : a.data.toList ≠ [] := by rw [ByteArray.toList_eq] at h1; simpa using h1
  have e1 : (nbB a).data.toList[a.size]? = some (nbB a)[a.size] := by
    rw [List.getElem?_eq_getElem (by simpa using h)]; rfl
  rw [nb_data, if_neg h2] at e1
  have e3 : (a.data.toList ++ [47])[a.size]? = some 47 := by
    have : a.size = a.data.toList.length := by simp
    rw [this]; simp
  rw [e3] at e1
  have : (47 : UInt8) = (nbB a)[a.size] := by simpa using e1
  rw [← this]
  rfl
end Go.Proofs.Qxb6617669a
