/-
  The walk of 'zzBuildBuckets': bucket i is nil, or a map whose keys are the strings of keys[i].
-/
import Derived.Test.Qxb6615212aBig
import Derived.Maps.Own
import Derived.Maps.OwnSet
import Derived.Maps.RangeWalk
namespace Go.Proofs.Qxb6615212a
open Go.ChangeShapes Go.WideShapes Go.ChangeAt Go.RowKit
set_option linter.unusedVariables false

/-- How an element of these maps reads: it is a nil slice. -/
def nilElem (v : Value) : Option (DataW Unit × List MemPlace) :=
  match v with
  | .slice none 0 0 => some (.nil, [])
  | _ => none
theorem nilElem_mk : nilElem (.slice none 0 0) = some (.nil, []) := rfl
theorem nilElem_inv {v : Value} {y : DataW Unit × List MemPlace} (h : nilElem v = some y) : v = .slice none 0 0 := by
  unfold nilElem at h
  split at h
  · rfl
  · cases h

def lit (s : ByteArray) : Lit := .string s.data.toList
theorem law9 : Maps.Keyed Try.prog 9 := Maps.string_keyed Try.underlying9
theorem key9 {s : ByteArray} (h : s.size ≤ maxLen) : keyOf Try.prog 9 (.string s) = some (lit s) := WideMaps.keyOf_string_mk Try.underlying9 h

/-- Block B is a map whose keys are the strings of ks. -/
def MapIs (w : World) (B : Nat) (ks : List ByteArray) : Prop := w.ownsMap Try.prog 9 nilElem B ks.length (Maps.setOf .nil (ks.map lit))

theorem mapIs_lt {w : World} {B : Nat} {ks : List ByteArray} (h : MapIs w B ks) : B < w.heap.size := World.ownsMap.lt h

theorem mapIs_below {w w' : World} {B : Nat} {ks : List ByteArray} (h : MapIs w B ks) (hb : Below w.heap.size w w') : MapIs w' B ks := by
  have hlt := mapIs_lt h
  obtain ⟨es, clock, h1, r⟩ := h
  exact ⟨es, clock, (hb.block B hlt).trans h1, r⟩

/-- What the map reads as behind j stores. -/
def setTo (ks : List ByteArray) (j : Nat) : DataW Unit := Maps.setOf .nil ((ks.take j).map lit)
theorem setTo_succ {ks : List ByteArray} {j : Nat} {s : ByteArray} (h : ks[j]? = some s) : setTo ks (j + 1) = (setTo ks j).put (lit s) .nil := by
  unfold setTo
  rw [take_snoc h, List.map_append, List.map_singleton, Maps.setOf_snoc]
theorem setTo_end (ks : List ByteArray) : setTo ks ks.length = Maps.setOf .nil (ks.map lit) := by
  unfold setTo
  rw [List.take_length]

/-- A bucket: nil, or such a map. -/
def Bucket (w : World) (v : Value) (ks : List ByteArray) : Prop := (v = .map none ∧ ks = []) ∨ ∃ B, v = .map (some B) ∧ 0 < ks.length ∧ MapIs w B ks

theorem bucket_below {w w' : World} {v : Value} {ks : List ByteArray} (h : Bucket w v ks) (hb : Below w.heap.size w w') : Bucket w' v ks := by
  rcases h with h | ⟨B, h1, h2, h3⟩
  · exact .inl h
  · exact .inr ⟨B, h1, h2, mapIs_below h3 hb⟩

/-- A store into a row of cells turns no map. -/
theorem mapIs_store {w : World} {B g : Nat} {o : Nat} {u : Value} {ks : List ByteArray} {c : Array Value} {t : TypeId} (h : MapIs w B ks) (hg : w.heap[g]? = some (.cells c t (0, 0))) : MapIs (w.setCell ⟨g, o, none⟩ u) B ks := by
  refine World.ownsMap.setCell (a := ⟨g, o, none⟩) h ?_ u
  rintro rfl
  obtain ⟨es, clock, h1, _⟩ := h
  rw [hg] at h1
  cases h1
theorem bucket_store {w : World} {g : Nat} {o : Nat} {u v : Value} {ks : List ByteArray} {c : Array Value} {t : TypeId} (h : Bucket w v ks) (hg : w.heap[g]? = some (.cells c t (0, 0))) : Bucket (w.setCell ⟨g, o, none⟩ u) v ks := by
  rcases h with h | ⟨B, h1, h2, h3⟩
  · exact .inl h
  · exact .inr ⟨B, h1, h2, mapIs_store h3 hg⟩

/-- The row of buckets behind i rounds. -/
def BucketsTo (kss : List (List ByteArray)) (i : Nat) (w : World) (vs : List Value) : Prop :=
  ∀ (k : Nat) (ks : List ByteArray), kss[k]? = some ks → ∃ v, vs[k]? = some v ∧ (k < i → Bucket w v ks) ∧ (i ≤ k → v = .map none)

theorem buckets_skip {kss : List (List ByteArray)} {i : Nat} {w : World} {vs : List Value} (h : BucketsTo kss i w vs) (hk : kss[i]? = some []) : BucketsTo kss (i + 1) w vs := by
  intro k ks hks
  obtain ⟨v, h1, h2, h3⟩ := h k ks hks
  refine ⟨v, h1, fun hlt => ?_, fun hle => h3 (by omega)⟩
  rcases Nat.lt_or_ge k i with hl | hg
  · exact h2 hl
  · have : k = i := by omega
    subst this
    rw [hk] at hks
    cases hks
    exact .inl ⟨h3 hg, rfl⟩

theorem buckets_below {kss : List (List ByteArray)} {i : Nat} {w w' : World} {vs : List Value} (h : BucketsTo kss i w vs) (hb : Below w.heap.size w w') : BucketsTo kss i w' vs := by
  intro k ks hks
  obtain ⟨v, h1, h2, h3⟩ := h k ks hks
  exact ⟨v, h1, fun hlt => bucket_below (h2 hlt) hb, h3⟩

theorem buckets_put {kss : List (List ByteArray)} {i B g : Nat} {w : World} {vs : List Value} {ks : List ByteArray} {c : Array Value} {t : TypeId} (h : BucketsTo kss i w vs) (hk : kss[i]? = some ks) (hp : 0 < ks.length) (hM : MapIs w B ks) (hg : w.heap[g]? = some (.cells c t (0, 0))) :
    BucketsTo kss (i + 1) (w.setCell ⟨g, i, none⟩ (.map (some B))) (vs.set i (.map (some B))) := by
  intro k ks' hks
  obtain ⟨v, h1, h2, h3⟩ := h k ks' hks
  by_cases e : k = i
  · subst e
    rw [hk] at hks
    cases hks
    refine ⟨.map (some B), ?_, fun _ => .inr ⟨B, rfl, hp, mapIs_store hM hg⟩, fun hle => by omega⟩
    rw [List.getElem?_set_self (List.getElem?_eq_some_iff.1 h1).1]
  · refine ⟨v, ?_, fun hlt => bucket_store (h2 (by omega)) hg, fun hle => h3 (by omega)⟩
    rw [List.getElem?_set_ne (by omega)]
    exact h1

theorem run_makeMap_hint (l : Int) (w : World) : (Instr.makeMap 48 (some (.int .i64 l))).run Try.prog w = .ok (.map (some w.heap.size)) (w.alloc (.map #[] 0)) := by
  simp [Instr.makeMap, run_underlying Try.underlying48]
  rfl

/-- The slice of buckets. -/
def BucketsV (w : World) (v : Value) (kss : List (List ByteArray)) : Prop :=
  ∃ vs : List Value, RowV w v vs ∧ vs.length = kss.length ∧ ∀ (k : Nat) (ks : List ByteArray), kss[k]? = some ks → ∃ b, vs[k]? = some b ∧ Bucket w b ks

theorem bucketsV_below {w w' : World} {v : Value} {kss : List (List ByteArray)} (h : BucketsV w v kss) (hb : Below w.heap.size w w') : BucketsV w' v kss := by
  obtain ⟨vs, h1, h2, h3⟩ := h
  refine ⟨vs, rowV_below h1 hb, h2, fun k ks hk => ?_⟩
  obtain ⟨b, k1, k2⟩ := h3 k ks hk
  exact ⟨b, k1, bucket_below k2 hb⟩

theorem ownsRow_below {B : Nat} {w w' : World} {e : TypeId} {size n : Nat} {v : Value} {xs : List Value} (h : w.ownsRow B e size v n xs) (hb : Below w.heap.size w w') : w'.ownsRow B e size v n xs := by
  obtain ⟨k1, k2⟩ := h
  refine ⟨k1, ?_⟩
  rcases k2 with k2 | ⟨g, cap, cur, hv, hg, hh, r⟩
  · exact .inl k2
  · exact .inr ⟨g, cap, cur, hv, hg, by rw [hb.block g (lt_of_block hh)]; exact hh, r⟩

/-- A row that the call has made, read as a slice. -/
theorem rowV_own {B : Nat} {w : World} {e : TypeId} {v : Value} {n : Nat} {xs : List Value} (h : w.ownsRow B e 1 v n xs) (hne : v ≠ .slice none 0 0) : RowV w v xs := by
  have hc := fun g => World.ownsRow.cells h (g := g)
  have hl := h.1
  rcases h.2 with ⟨rfl, _⟩ | ⟨g, cap, cur, rfl, hg, hh, hn, _⟩
  · exact absurd rfl hne
  · rw [Nat.mul_one] at hl
    subst hl
    refine ⟨some ⟨g, 0, none⟩, cap, rfl, hn, (fun h => by cases h), fun _ => ⟨g, 0, rfl, lt_of_block hh, fun j u hj => ?_⟩⟩
    have := hc g rfl j u hj
    rw [Addr.add_lit] at this
    exact this

def BuildPost (kss : List (List ByteArray)) (w : World) (e : Ending) (w' : World) : Prop :=
  ∃ v, e = .returned v ∧ BucketsV w' v kss ∧ Below w.heap.size w w'

theorem buckets_start (kss : List (List ByteArray)) (w : World) (n : Nat) (hn : kss.length = n) : BucketsTo kss 0 w (madeCells #[Value.map none] n).toList := by
  intro k ks hk
  have hlt : k < n := by rw [← hn]; exact (List.getElem?_eq_some_iff.1 hk).1
  refine ⟨.map none, ?_, fun h => by omega, fun _ => rfl⟩
  simp [madeCells, hlt, Nat.mod_one]

set_option maxHeartbeats 1000000 in
theorem build_any (v : Value) (kss : List (List ByteArray)) (w : World) (h : KeysV w v kss) (hl : kss.length ≤ 65536) (hS : SmallTo kss kss.length) :
    Calls Try.prog 13 #[v] w fun e w' => BuildPost kss w e w' := by
  obtain ⟨ao, cap, rfl, hc, hpos⟩ := keysV_cases h
  obtain ⟨i0, hi, hz0, hz1, hz2⟩ := info_parts Try.info48
  have hmk := run_makeMap_hint
  have HPo : Hid (0 < kss.length → ∃ b off, ao = some ⟨b, off, none⟩ ∧ b < w.heap.size ∧ ∀ (i : Nat) (ks : List ByteArray), kss[i]? = some ks → ∃ u, w.cell? ⟨b, off + i, none⟩ = some u ∧ Strs w u ks) := hpos
  have HSm : Hid (SmallTo kss kss.length) := hS
  clear hpos h hS
  obtain ⟨n, hn⟩ : ∃ n, kss.length = n := ⟨_, rfl⟩
  rw [hn]
  have HN : Hid (kss.length = n) := hn
  rw [hn] at hl hc
  clear hn
  go_enter Try.func13, Try.ntmps13
  go_wp2_with (at_make; refine wpList_make_full _ rfl (.tmp 8) (.tmp 8) 37 rfl w.heap.size 48 i0 (.map none) 1 Try.underlying37 hi hz0 hz1 .i64 .i64 n n n rfl rfl rfl rfl (by rw [hz2]; omega) (by unfold maxLen; omega) (Nat.le_refl _) ?_)
  intro w1 hown hgrow
  have hB1 : Below w.heap.size w w1 := (Below.refl _ _).grown hgrow (Nat.le_refl _) (by intro k hk; cases hk)
  obtain ⟨vs0, hvs0⟩ : ∃ vs0, vs0 = (madeCells #[Value.map none] n).toList := ⟨_, rfl⟩
  have hbt := buckets_start kss w1 n HN.out
  rw [← hvs0] at hown hbt
  clear hgrow hi hz0 hz1 hz2 hvs0
  go_wp2_with fail
  go_loopw [4] (fun iv wr => ∃ (i : Nat) (vs : List Value), iv = .int .i64 i ∧ i ≤ n ∧ wr.ownsRow w.heap.size 48 1 (.slice (some ⟨w.heap.size, 0, none⟩) n n) n vs ∧ BucketsTo kss i wr vs ∧ Below w.heap.size w wr) (fun iv _ => n - (intOf iv).toNat)
  case atStart => exact ⟨0, vs0, rfl, Nat.zero_le _, hown, hbt, hB1⟩
  case round =>
    clear hown hbt hB1
    obtain ⟨i, vs, rfl, hin, hrow, hbt, hB⟩ := hrel
    obtain ⟨wo, rfl⟩ : ∃ wo, wo = wr := ⟨_, rfl⟩
    by_cases hik : i < n
    · obtain ⟨ks, hks⟩ : ∃ ks, kss[i]? = some ks := ⟨_, List.getElem?_eq_getElem (by rw [HN.out]; exact hik)⟩
      obtain ⟨b, off, rfl, hb, hcell⟩ := HPo.out (by rw [HN.out]; omega)
      obtain ⟨u, d1, hst⟩ := hcell i ks hks
      obtain ⟨hkl, hkm⟩ := HSm.out i ks (by rw [HN.out]; exact hik) hks
      have e1 : wo.cell? ⟨b, off + i, none⟩ = some u := (hB.cell (p := ⟨b, off + i, none⟩) hb).trans d1
      have HK : Hid (kss[i]? = some ks) := hks
      have HM : Hid (∀ (s : ByteArray), s ∈ ks → s.size ≤ 1048576) := hkm
      have hii : (i : Int) < (n : Int) := by omega
      clear hks hkm hcell
      rcases strs_cases hst with ⟨ao3, cap3, rfl, rfl⟩ | ⟨b3, off3, cap3, rfl, hp3, hc3, hb3, hcell3⟩
      · clear hst d1
        go_wp2_with fail
        go_roundw
        case rel => exact ⟨i + 1, vs, by go_num, by omega, hrow, buckets_skip hbt HK.out, hB⟩
        case measure => simp [intOf]; omega
      · have HC2 : Hid (∀ (j : Nat) (s : ByteArray), ks[j]? = some s → w.cell? ⟨b3, off3 + j, none⟩ = some (.string s)) := hcell3
        have hm0 : (wo.alloc (.map #[] 0)).ownsMap Try.prog 9 nilElem wo.heap.size 0 (setTo ks 0) := World.ownsMap_made wo Try.prog 9 nilElem
        have hbm0 : Below wo.heap.size wo (wo.alloc (.map #[] 0)) := (Below.refl _ _).alloc (Nat.le_refl _) _
        have hsz : w.heap.size ≤ wo.heap.size := hB.size
        have hk0 : ((ks.length : Int) == 0) = false := by rw [beq_eq_false_iff_ne]; omega
        clear hcell3 hst d1
        go_wp2_with fail
        go_loopw [6] (fun jv wq => ∃ (j : Nat), jv = .int .i64 j ∧ j ≤ ks.length ∧ wq.ownsMap Try.prog 9 nilElem wo.heap.size j (setTo ks j) ∧ Below wo.heap.size wo wq) (fun jv _ => ks.length - (intOf jv).toNat)
        case atStart => exact ⟨0, rfl, Nat.zero_le _, hm0, hbm0⟩
        case round =>
          clear hm0 hbm0
          obtain ⟨j, rfl, hj, hmap, hBq⟩ := hrel
          have f1 : wr.cell? ⟨b, off + i, none⟩ = some (.slice (some ⟨b3, off3, none⟩) ks.length cap3) := (hBq.cell (p := ⟨b, off + i, none⟩) (by show b < _; omega)).trans e1
          by_cases hjl : j < ks.length
          · obtain ⟨s, hs⟩ : ∃ s, ks[j]? = some s := ⟨_, List.getElem?_eq_getElem hjl⟩
            have f2 : wr.cell? ⟨b3, off3 + j, none⟩ = some (.string s) := (hBq.cell (p := ⟨b3, off3 + j, none⟩) (by show b3 < _; omega)).trans ((hB.cell (p := ⟨b3, off3 + j, none⟩) hb3).trans (HC2.out j s hs))
            have hsl : s.size ≤ maxLen := by have := HM.out s (List.mem_of_getElem? hs); unfold maxLen; omega
            have HS : Hid (ks[j]? = some s) := hs
            have hji : (j : Int) < (ks.length : Int) := by omega
            clear hs
            go_wp2_with (at_mapUpdate; refine wpList_mapUpdate_own _ rfl (.tmp 37) (.tmp 44) (.const (.slice none 0 0)) 48 rfl 9 26 law9 Try.underlying48 nilElem wo.heap.size j _ rfl hmap (by unfold maxLen; omega) _ _ _ rfl rfl (key9 hsl) .nil [] nilElem_mk ?_)
            intro w' hmap' hgrow'
            have HB' : Below wo.heap.size wo w' := hBq.grown hgrow' hBq.size (by intro k hk; cases hk; exact Nat.le_refl _)
            have HM' : Hid (w'.ownsMap Try.prog 9 nilElem wo.heap.size (j + 1) (setTo ks (j + 1))) := by
              show w'.ownsMap Try.prog 9 nilElem wo.heap.size (j + 1) (setTo ks (j + 1))
              rw [setTo_succ HS.out]
              exact hmap'
            clear hmap' hgrow' hmap hBq f1 f2
            go_wp2_with fail
            go_roundw
            case rel => exact ⟨j + 1, by go_num, by omega, HM'.out, HB'⟩
            case measure => simp [intOf]; omega
          · have hje : j = ks.length := by omega
            have HM2 : Hid (MapIs wr wo.heap.size ks) := by
              show MapIs wr wo.heap.size ks
              subst hje
              rw [setTo_end] at hmap
              exact hmap
            have hrow2 := ownsRow_below hrow hBq
            have hbt2 := buckets_below hbt hBq
            have g1 := hrow2.cellAt i (by omega)
            obtain ⟨v0, hv0⟩ : ∃ v0, vs[i]? = some v0 := by
              obtain ⟨v0, hv0, _⟩ := hbt i ks HK.out
              exact ⟨v0, hv0⟩
            rw [hv0] at g1
            have g2 := hrow2.frozenAt i
            have hst2 := hrow2.stored i (.map (some wo.heap.size))
            obtain ⟨c, hcg⟩ : ∃ c, wr.heap[w.heap.size]? = some (.cells c 48 (0, 0)) := by
              rcases hrow2.2 with ⟨h, _⟩ | ⟨g, cp, cur, h, _, hh, _⟩
              · cases h
              · simp at h
                obtain ⟨rfl, rfl⟩ := h
                exact ⟨cur, hh⟩
            have HX : Hid ((wr.setCell ⟨w.heap.size, i, none⟩ (.map (some wo.heap.size))).ownsRow w.heap.size 48 1 (.slice (some ⟨w.heap.size, 0, none⟩) n n) n (vs.set i (.map (some wo.heap.size)))) := hst2.1
            have HY : Hid (BucketsTo kss (i + 1) (wr.setCell ⟨w.heap.size, i, none⟩ (.map (some wo.heap.size))) (vs.set i (.map (some wo.heap.size)))) := buckets_put hbt2 HK.out hp3 HM2.out hcg
            have HZ : Below w.heap.size w (wr.setCell ⟨w.heap.size, i, none⟩ (.map (some wo.heap.size))) := (hB.trans (hBq.mono hsz)).setCell (Nat.le_refl _) _
            clear hst2 hcg hrow2 hbt2 hv0 hmap hje
            go_wp2_with fail
            go_roundw
            case rel => exact ⟨i + 1, _, by go_num, by omega, HX.out, HY.out, HZ⟩
            case measure => simp [intOf]; omega
    · have HF : Hid (BucketsV wo (.slice (some ⟨w.heap.size, 0, none⟩) n n) kss) := by
        refine ⟨vs, rowV_own hrow (by simp), ?_, fun k ks hk => ?_⟩
        · have := hrow.1
          rw [HN.out]
          simpa using this
        · obtain ⟨v, h1, h2, _⟩ := hbt k ks hk
          have hkl := (List.getElem?_eq_some_iff.1 hk).1
          rw [HN.out] at hkl
          exact ⟨v, h1, h2 (by omega)⟩
      go_wp2_with fail
      go_ret
      exact ⟨_, rfl, HF.out, hB⟩
end Go.Proofs.Qxb6615212a
