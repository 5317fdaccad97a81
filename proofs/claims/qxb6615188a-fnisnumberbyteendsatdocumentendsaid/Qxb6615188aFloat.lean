/-
  The walk of 'zzFloatTextB1': every byte of the text that it hands back may be part of a number.
-/
import Derived.Test.Qxb6615188aDec
import Derived.Laws.CopyOwn
namespace Go.Proofs.Qxb6615188a
open Go.ChangeShapes Go.WideShapes Go.ChangeAt Go.RowKit
set_option linter.unusedVariables false

theorem dec_int (u : Int) (sep : Bool) (w : World) (h0 : 0 ≤ u) (hu : u ≤ 18446744073709551615) :
    Calls Try.prog 10 #[.int .u64 u, .bool sep] w fun e w' => DecPost w e w' := by
  obtain ⟨n, rfl⟩ := Int.eq_ofNat_of_zero_le h0
  exact dec_any n sep w (by omega)

theorem Try.info5 : (Try.prog.info? 5).map (fun i => (i.zero, i.size, i.bytes)) = some (some (.int .u8 0), 1, 1) := by kernel_rfl

/-- Each of the cells is a number byte. -/
def Nums (xs : List Value) : Prop := ∀ u ∈ xs, ∃ v : Int, u = .int .u8 v ∧ numB v = true ∧ 0 ≤ v ∧ v ≤ 255

theorem nums_append {xs ys : List Value} (h : Nums xs) (k : Nums ys) : Nums (xs ++ ys) := by
  intro u hu
  rcases List.mem_append.1 hu with h1 | h1
  · exact h u h1
  · exact k u h1

theorem nums_one {c : Int} (h : numB c = true) (h0 : 0 ≤ c) (h9 : c ≤ 255) : Nums [.int .u8 c] := by
  intro u hu
  simp at hu
  exact ⟨c, hu, h, h0, h9⟩
theorem nums_two {c d : Int} (h : numB c = true) (h0 : 0 ≤ c) (h9 : c ≤ 255) (k : numB d = true) (k0 : 0 ≤ d) (k9 : d ≤ 255) : Nums [.int .u8 c, .int .u8 d] :=
  nums_append (nums_one h h0 h9) (nums_one k k0 k9)

theorem nums_oneCell {xs : List Value} (h : Nums xs) : ∀ u ∈ xs, u.oneCell' = true := by
  intro u hu
  obtain ⟨v, rfl, _⟩ := h u hu
  rfl

/-- What the call has gathered: n number bytes in a row of its own; nothing that was there below B has turned. -/
def Own (B : Nat) (w0 w : World) (v : Value) (n : Nat) : Prop := ∃ xs, w.ownsRow B 5 1 v n xs ∧ Nums xs ∧ Below B w0 w ∧ B ≤ w.heap.size

theorem own_below {B : Nat} {w0 w w' : World} {v : Value} {n : Nat} (h : Own B w0 w v n) (hb : Below w.heap.size w w') : Own B w0 w' v n := by
  obtain ⟨xs, h1, h2, h3, h4⟩ := h
  refine ⟨xs, ?_, h2, h3.trans (hb.mono h4), Nat.le_trans h4 hb.size⟩
  obtain ⟨k1, k2⟩ := h1
  refine ⟨k1, ?_⟩
  rcases k2 with k2 | ⟨g, cap, cur, hv, hg, hh, r⟩
  · exact .inl k2
  · exact .inr ⟨g, cap, cur, hv, hg, by rw [hb.block g (lt_of_block hh)]; exact hh, r⟩

theorem bufList {B i : Nat} {w : World} (h : BufOk B i w) (hi : i ≤ 40) :
    ∃ news : List Value, news.length = 40 - i ∧ Nums news ∧ ∀ j u, news[j]? = some u → w.cell? ((⟨B, i, none⟩ : Addr).add j) = some u := by
  obtain ⟨cur, h1, h2, h3⟩ := h
  refine ⟨cur.toList.drop i, by simp [h2], ?_, ?_⟩
  · intro u hu
    obtain ⟨j, hj⟩ := List.getElem?_of_mem hu
    rw [List.getElem?_drop] at hj
    have hlt : i + j < 40 := by
      rcases Nat.lt_or_ge (i + j) 40 with h | h
      · exact h
      · rw [List.getElem?_eq_none (by simp [h2]; omega)] at hj
        simp at hj
    obtain ⟨v, hv, hr⟩ := h3 (i + j) (by omega) hlt
    rw [Array.getElem?_toList, hv] at hj
    simp at hj
    exact ⟨v, hj.symm, hr⟩
  · intro j u hu
    rw [List.getElem?_drop, Array.getElem?_toList] at hu
    rw [Addr.add_lit]
    simp [World.cell?, h1, hu]

theorem wpList_app {w : World} {ops : Array Oper} {rest : List Oper} {o : Oper} {a : Act} {Q : Exit → Act → World → Prop} (hgd : o.guard = none) (s x : Operand)
    (ho : o.op = .call { callee := .builtin .append, args := #[s, x], argTypes := #[22, 22] })
    (B : Nat) (w0 : World) (v : Value) (n : Nat) (hs : a.eval s = v) (hO : Own B w0 w v n) (hn : n ≤ 1000)
    (ad : Addr) (m c : Nat) (news : List Value) (hx : a.eval x = .slice (some ad) m c) (hl : news.length = m) (hm : m ≤ 1000) (hN : Nums news)
    (hnews : ∀ j u, news[j]? = some u → w.cell? (ad.add j) = some u)
    (h : ∀ v' w', Own B w0 w' v' (n + m) → wpList Try.prog ops Q rest (a.put o.dst v') w') : wpList Try.prog ops Q (o :: rest) a w := by
  obtain ⟨i0, hi, hz0, hz1, hz2⟩ := info_parts Try.info5
  obtain ⟨xs, h1, h2, h3, h4⟩ := hO
  refine wpList_append_own w hgd s x 22 ho B 5 i0 (.int .u8 0) 1 1 Try.underlying22 hi hz0 hz1 hz2 rfl (by decide) v n xs hs h1 ad m c news hx (by simpa using hl) hnews (nums_oneCell hN) (by unfold maxLen; omega) (by omega) h4 ?_
  intro v' w' hown hgrow _
  refine h v' w' ⟨xs ++ news, hown, nums_append h2 hN, h3.grown hgrow h4 ?_, Nat.le_trans h4 hgrow.size⟩
  intro k hk
  exact (h1.lt k hk).1

theorem own_alloc {B : Nat} {w0 w : World} {v : Value} {n : Nat} (h : Own B w0 w v n) (o : Obj) : Own B w0 (w.alloc o) v n :=
  own_below h ((Below.refl _ _).alloc (Nat.le_refl _) _)

theorem cells_new (w : World) (l : List Value) (t : TypeId) : ∀ j u, l[j]? = some u → (w.alloc (.cells l.toArray t)).cell? ((⟨w.heap.size, 0, none⟩ : Addr).add j) = some u := by
  intro j u hu
  rw [Addr.add_lit]
  have : (w.alloc (.cells l.toArray t)).heap[w.heap.size]? = some (.cells l.toArray t) := by
    show (w.heap.push _)[w.heap.size]? = _
    simp
  unfold World.cell?
  simp only [this]
  simpa using hu

theorem nums46 : Nums [.int .u8 46] := nums_one (by decide) (by decide) (by decide)
theorem nums_e : Nums [.int .u8 101, .int .u8 45] := nums_two (by decide) (by decide) (by decide) (by decide) (by decide) (by decide)
theorem nums_E : Nums [.int .u8 69, .int .u8 43] := nums_two (by decide) (by decide) (by decide) (by decide) (by decide) (by decide)

set_option maxHeartbeats 400000 in
theorem float_any (a b : Int) (w : World) (ha : 0 ≤ a) (ha9 : a ≤ 18446744073709551615) (hb : 0 ≤ b) (hb9 : b ≤ 18446744073709551615) :
    Calls Try.prog 7 #[.int .u64 a, .int .u64 b] w fun e w' => ∃ v n, e = .returned v ∧ 0 < n ∧ n ≤ 200 ∧ Own w.heap.size w w' v n := by
  obtain ⟨i0, hi, hz0, hz1, hz2⟩ := info_parts Try.info5
  go_enter Try.func7, Try.ntmps7
  go_wp2_with (at_make; refine wpList_make_own _ rfl (.const (.int .i64 0)) (.const (.int .i64 96)) 22 rfl w.heap.size 5 i0 (.int .u8 0) 1 Try.underlying22 hi hz0 hz1 .i64 .i64 96 96 rfl rfl (by omega) (by omega) (by unfold maxLen; omega) (Nat.le_refl _) ?_)
  intro w0 hown hgrow
  have hO : Own w.heap.size w w0 (.slice (some ⟨w.heap.size, 0, none⟩) 0 96) 0 := ⟨[], hown, fun u hu => (by cases hu), (Below.refl _ _).grown hgrow (Nat.le_refl _) (by intro k hk; cases hk), hgrow.size⟩
  clear hown hgrow hz0 hz1 hz2 hi
  go_wp2_with fail
  refine (dec_int _ _ _ ha ha9).mono ?_
  rintro e u1 ⟨i1, hi1, rfl, hbuf1, hbel1, hsz1⟩
  have hO1 := own_below hO hbel1
  obtain ⟨c1, hc1, hN1, hcell1⟩ := bufList hbuf1 (by omega)
  clear hO hbuf1 hbel1 hsz1
  go_wp2_with (at_builtin; refine wpList_app rfl (.tmp 7) (.tmp 9) rfl w.heap.size w _ _ rfl hO1 (by omega) _ _ _ c1 rfl hc1 (by omega) hN1 hcell1 ?_)
  intro v1 w1 hP1
  clear hO1 hcell1 hN1 hc1
  go_wp2_with (at_builtin; refine wpList_app rfl (.tmp 11) (.tmp 12) rfl w.heap.size w _ _ rfl (own_alloc hP1 _) (by omega) ⟨w1.heap.size, 0, none⟩ 1 1 [.int .u8 46] rfl rfl (by omega) nums46 (cells_new _ _ _) ?_)
  intro v2 w2 hP2
  clear hP1
  go_wp2_with fail
  refine (dec_int _ _ _ hb hb9).mono ?_
  rintro e u3 ⟨i3, hi3, rfl, hbuf3, hbel3, hsz3⟩
  have hO3 := own_below hP2 hbel3
  obtain ⟨c3, hc3, hN3, hcell3⟩ := bufList hbuf3 (by omega)
  clear hP2 hbuf3 hbel3 hsz3
  go_wp2_with (at_builtin; refine wpList_app rfl (.tmp 14) (.tmp 16) rfl w.heap.size w _ _ rfl hO3 (by omega) _ _ _ c3 rfl hc3 (by omega) hN3 hcell3 ?_)
  intro v3 w3 hP3
  clear hO3 hcell3 hN3 hc3
  go_wp2_with (at_builtin; refine wpList_app rfl (.tmp 18) (.tmp 19) rfl w.heap.size w _ _ rfl (own_alloc hP3 _) (by omega) ⟨w3.heap.size, 0, none⟩ 2 2 [.int .u8 101, .int .u8 45] rfl rfl (by omega) nums_e (cells_new _ _ _) ?_)
  intro v4 w4 hP4
  clear hP3
  go_wp2_with fail
  refine (dec_int _ _ _ (by omega) (by omega)).mono ?_
  rintro e u5 ⟨i5, hi5, rfl, hbuf5, hbel5, hsz5⟩
  have hO5 := own_below hP4 hbel5
  obtain ⟨c5, hc5, hN5, hcell5⟩ := bufList hbuf5 (by omega)
  clear hP4 hbuf5 hbel5 hsz5
  go_wp2_with (at_builtin; refine wpList_app rfl (.tmp 21) (.tmp 24) rfl w.heap.size w _ _ rfl hO5 (by omega) _ _ _ c5 rfl hc5 (by omega) hN5 hcell5 ?_)
  intro v5 w5 hP5
  clear hO5 hcell5 hN5 hc5
  go_wp2_with (at_builtin; refine wpList_app rfl (.tmp 26) (.tmp 27) rfl w.heap.size w _ _ rfl (own_alloc hP5 _) (by omega) ⟨w5.heap.size, 0, none⟩ 2 2 [.int .u8 69, .int .u8 43] rfl rfl (by omega) nums_E (cells_new _ _ _) ?_)
  intro v6 w6 hP6
  clear hP5
  go_wp2_with fail
  refine (dec_int _ _ _ (by omega) (by omega)).mono ?_
  rintro e u7 ⟨i7, hi7, rfl, hbuf7, hbel7, hsz7⟩
  have hO7 := own_below hP6 hbel7
  obtain ⟨c7, hc7, hN7, hcell7⟩ := bufList hbuf7 (by omega)
  clear hP6 hbuf7 hbel7 hsz7
  go_wp2_with (at_builtin; refine wpList_app rfl (.tmp 29) (.tmp 32) rfl w.heap.size w _ _ rfl hO7 (by omega) _ _ _ c7 rfl hc7 (by omega) hN7 hcell7 ?_)
  intro v7 w7 hP7
  clear hO7 hcell7 hN7 hc7
  go_wp2
  go_ret
  exact ⟨v7, _, rfl, by omega, by omega, hP7⟩

/-- The text that was handed back lies in a row; each of its bytes is a number byte. -/
theorem text_row {B : Nat} {w0 w : World} {v : Value} {n : Nat} (h : Own B w0 w v n) (hn : 0 < n) :
    ∃ g cap, v = .slice (some ⟨g, 0, none⟩) n cap ∧ ∀ k, k < n → ∃ c : Int, w.cell? ⟨g, k, none⟩ = some (.int .u8 c) ∧ numB c = true ∧ 0 ≤ c ∧ c ≤ 255 := by
  obtain ⟨xs, h1, h2, _⟩ := h
  have hc := fun g => World.ownsRow.cells h1 (g := g)
  have hl := h1.1
  rcases h1.2 with ⟨_, h0⟩ | ⟨g, cap, cur, rfl, _⟩
  · omega
  · refine ⟨g, cap, rfl, fun k hk => ?_⟩
    have hx : xs[k]? = some (xs[k]'(by omega)) := List.getElem?_eq_getElem (by omega)
    have hlt : k < xs.length := by omega
    obtain ⟨c, hc1, hc2⟩ := h2 _ (List.getElem_mem hlt)
    refine ⟨c, ?_, hc2⟩
    rw [← hc1]
    have := hc g rfl k _ hx
    rw [Addr.add_lit] at this
    simpa using this

/-- 'copy(zzc, data)' onto a row that the call has just made. -/
theorem copy_run {w0 u0 : World} {B len cap : Nat} {x : Addr} {cur cs : List Value} (hg : u0.heap[B]? = some (.cells cur.toArray 5 (0, 0))) (hcur : cur.length = len) (hcs : cs.length = len)
    (hsrc : ∀ j v, cs[j]? = some v → u0.cell? (x.add j) = some v) (h1 : ∀ v ∈ cs, v.oneCell' = true) (hb : Below B w0 u0) :
    ∃ u1, Sem.run Try.prog (Builtin.copy_ #[22, 22] 3 #[.slice (some ⟨B, 0, none⟩) len len, .slice (some x) len cap]) u0 = .ok (.int .i64 len) u1 ∧ Below B w0 u1 ∧ B < u1.heap.size ∧ ∀ i v, cs[i]? = some v → u1.cell? ⟨B, i, none⟩ = some v := by
  subst hcs
  have hrun := run_copy_row (P := Try.prog) u0 22 22 3 5 B 0 cs.length cs.length x cs.length cap cur.toArray 5 cs Try.underlying22 (by kernel_rfl) hg (by simp) hsrc (by simp; omega) h1
  have hnew := setRow_heap u0 B _ (cur.take 0 ++ cs ++ cur.drop (0 + cs.length)).toArray 5 _ hg
  refine ⟨_, by rw [hrun]; rfl, below_setRow hb (Nat.le_refl _) _, ?_, ?_⟩
  · have := lt_of_block hg
    simpa [World.setRow] using this
  · intro i v hi
    unfold World.cell?
    have e : ∀ c : Array Value, (match (some (Obj.cells c 5 (0, 0)) : Option Obj) with | some (.cells c _ _) => if (⟨B, i, none⟩ : Addr).spot.isSome then none else c[(⟨B, i, none⟩ : Addr).off]? | _ => none) = c[i]? := fun c => rfl
    have hlt : i < cs.length := (List.getElem?_eq_some_iff.1 hi).1
    have hv : (cur.take 0 ++ cs ++ cur.drop (0 + cs.length)).toArray[i]? = some v := by
      simp [List.getElem?_append_left hlt, hi]
    show (match (u0.setRow B _).heap[B]? with | some (.cells c _ _) => if (⟨B, i, none⟩ : Addr).spot.isSome then none else c[(⟨B, i, none⟩ : Addr).off]? | _ => none) = _
    have hnew' : (u0.setRow B (cur.toArray.toList.take 0 ++ cs ++ cur.toArray.toList.drop (0 + cs.length)).toArray).heap[B]? = some (.cells (cur.take 0 ++ cs ++ cur.drop (0 + cs.length)).toArray 5 (0, 0)) := by
      simpa using hnew
    rw [hnew', e]
    exact hv
end Go.Proofs.Qxb6615188a
