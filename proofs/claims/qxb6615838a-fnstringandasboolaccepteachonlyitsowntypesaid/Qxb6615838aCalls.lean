/-
  The walks of the calls that make a map of one entry, or an interface value, and read it.
-/
import Derived.Test.Qxb6615838aFields
namespace Go.Proofs.Qxb6615838a
open Go.ChangeShapes Go.WideShapes Go.ChangeAt Go.RowKit Go.MapKept
set_option linter.unusedVariables false

set_option maxHeartbeats 400000 in
theorem zzStr_hit (R : Nat) (s : Option (ByteArray × ByteArray × ByteArray)) (val : ByteArray) (parent name : ByteArray) (w : World) (h : St R s w) (hp : parent.size ≤ 1048576) (hn : name.size ≤ 1048576) :
    Calls Try.prog 10 #[.pointer (some ⟨R, 0, none⟩), .string name, .string val, .string parent, .string name] w fun e w' => e = .returned (.string val) ∧ St R s w' ∧ Below R w w' := by
  obtain ⟨w2, hins, hat, hb2, hs2⟩ := ins_run (w.alloc (.map #[] 0)) w.heap.size name (.iface 9 (.string val)) (heap_alloc_new w _)
  have hmm := @run_makeMap Try.prog
  have hlook := look_hit w2 _ _ _ hat
  have hbw : Below w.heap.size w w2 := ((Below.refl _ _).alloc (Nat.le_refl _) _).trans hb2
  have hst2 := st_below h hbw
  have hR := st_lt h
  clear hat hb2 hs2
  go_enter Try.func10, Try.ntmps10
  go_wp2_with (go_at_call 27; refine (string_str R _ val parent name _ hlook).mono ?_; rintro e w' ⟨rfl, rfl⟩)
  go_ret
  exact ⟨rfl, hst2, hbw.mono (Nat.le_of_lt hR)⟩

set_option maxHeartbeats 400000 in
theorem zzStr_miss (R : Nat) (s : Option (ByteArray × ByteArray × ByteArray)) (val : ByteArray) (parent name : ByteArray) (key : ByteArray) (hne : name ≠ key) (w : World) (h : St R s w) (hp : parent.size ≤ 1048576) (hn : name.size ≤ 1048576) :
    Calls Try.prog 10 #[.pointer (some ⟨R, 0, none⟩), .string key, .string val, .string parent, .string name] w fun e w' => e = .returned (.string ⟨#[]⟩) ∧ St R s w' ∧ Below R w w' := by
  obtain ⟨w2, hins, hat, hb2, hs2⟩ := ins_run (w.alloc (.map #[] 0)) w.heap.size key (.iface 9 (.string val)) (heap_alloc_new w _)
  have hmm := @run_makeMap Try.prog
  have hlook := look_miss w2 _ _ name _ hat hne
  have hbw : Below w.heap.size w w2 := ((Below.refl _ _).alloc (Nat.le_refl _) _).trans hb2
  have hst2 := st_below h hbw
  have hR := st_lt h
  clear hat hb2 hs2
  go_enter Try.func10, Try.ntmps10
  go_wp2_with (go_at_call 27; refine (string_nil R _ parent name _ hlook).mono ?_; rintro e w' ⟨rfl, rfl⟩)
  go_ret
  exact ⟨rfl, hst2, hbw.mono (Nat.le_of_lt hR)⟩

set_option maxHeartbeats 400000 in
theorem zzNull_hit (R : Nat) (s : Option (ByteArray × ByteArray × ByteArray))  (parent name : ByteArray) (w : World) (h : St R s w) (hp : parent.size ≤ 1048576) (hn : name.size ≤ 1048576) :
    Calls Try.prog 12 #[.pointer (some ⟨R, 0, none⟩), .string name, .string parent, .string name] w fun e w' => e = .returned (.string ⟨#[]⟩) ∧ St R s w' ∧ Below R w w' := by
  obtain ⟨w2, hins, hat, hb2, hs2⟩ := ins_run (w.alloc (.map #[] 0)) w.heap.size name (.nilIface) (heap_alloc_new w _)
  have hmm := @run_makeMap Try.prog
  have hlook := look_hit w2 _ _ _ hat
  have hbw : Below w.heap.size w w2 := ((Below.refl _ _).alloc (Nat.le_refl _) _).trans hb2
  have hst2 := st_below h hbw
  have hR := st_lt h
  clear hat hb2 hs2
  go_enter Try.func12, Try.ntmps12
  go_wp2_with (go_at_call 27; refine (string_nil R _ parent name _ hlook).mono ?_; rintro e w' ⟨rfl, rfl⟩)
  go_ret
  exact ⟨rfl, hst2, hbw.mono (Nat.le_of_lt hR)⟩

set_option maxHeartbeats 400000 in
theorem zzNull_miss (R : Nat) (s : Option (ByteArray × ByteArray × ByteArray))  (parent name : ByteArray) (key : ByteArray) (hne : name ≠ key) (w : World) (h : St R s w) (hp : parent.size ≤ 1048576) (hn : name.size ≤ 1048576) :
    Calls Try.prog 12 #[.pointer (some ⟨R, 0, none⟩), .string key, .string parent, .string name] w fun e w' => e = .returned (.string ⟨#[]⟩) ∧ St R s w' ∧ Below R w w' := by
  obtain ⟨w2, hins, hat, hb2, hs2⟩ := ins_run (w.alloc (.map #[] 0)) w.heap.size key (.nilIface) (heap_alloc_new w _)
  have hmm := @run_makeMap Try.prog
  have hlook := look_miss w2 _ _ name _ hat hne
  have hbw : Below w.heap.size w w2 := ((Below.refl _ _).alloc (Nat.le_refl _) _).trans hb2
  have hst2 := st_below h hbw
  have hR := st_lt h
  clear hat hb2 hs2
  go_enter Try.func12, Try.ntmps12
  go_wp2_with (go_at_call 27; refine (string_nil R _ parent name _ hlook).mono ?_; rintro e w' ⟨rfl, rfl⟩)
  go_ret
  exact ⟨rfl, hst2, hbw.mono (Nat.le_of_lt hR)⟩

set_option maxHeartbeats 400000 in
theorem zzBool_hit (R : Nat) (s : Option (ByteArray × ByteArray × ByteArray)) (b : Bool) (parent name : ByteArray) (w : World) (h : St R s w) (hp : parent.size ≤ 1048576) (hn : name.size ≤ 1048576) :
    Calls Try.prog 13 #[.pointer (some ⟨R, 0, none⟩), .string name, .bool b, .string parent, .string name] w fun e w' => e = .returned (.string ⟨#[]⟩) ∧ St R (keep s (pathB parent name, ⟨#[97, 32, 98, 111, 111, 108, 101, 97, 110]⟩, ⟨#[97, 32, 115, 116, 114, 105, 110, 103]⟩)) w' ∧ Below R w w' := by
  obtain ⟨w2, hins, hat, hb2, hs2⟩ := ins_run (w.alloc (.map #[] 0)) w.heap.size name (.iface 4 (.bool b)) (heap_alloc_new w _)
  have hmm := @run_makeMap Try.prog
  have hlook := look_hit w2 _ _ _ hat
  have hbw : Below w.heap.size w w2 := ((Below.refl _ _).alloc (Nat.le_refl _) _).trans hb2
  have hst2 := st_below h hbw
  have hR := st_lt h
  clear hat hb2 hs2
  go_enter Try.func13, Try.ntmps13
  go_wp2_with (go_at_call 27; refine (string_bool R _ s b parent name _ hst2 hp hn hlook).mono ?_; rintro e w' ⟨rfl, hs', hb'⟩)
  go_ret
  exact ⟨rfl, hs', (hbw.mono (Nat.le_of_lt hR)).trans hb'⟩

set_option maxHeartbeats 400000 in
theorem zzBool_miss (R : Nat) (s : Option (ByteArray × ByteArray × ByteArray)) (b : Bool) (parent name : ByteArray) (key : ByteArray) (hne : name ≠ key) (w : World) (h : St R s w) (hp : parent.size ≤ 1048576) (hn : name.size ≤ 1048576) :
    Calls Try.prog 13 #[.pointer (some ⟨R, 0, none⟩), .string key, .bool b, .string parent, .string name] w fun e w' => e = .returned (.string ⟨#[]⟩) ∧ St R s w' ∧ Below R w w' := by
  obtain ⟨w2, hins, hat, hb2, hs2⟩ := ins_run (w.alloc (.map #[] 0)) w.heap.size key (.iface 4 (.bool b)) (heap_alloc_new w _)
  have hmm := @run_makeMap Try.prog
  have hlook := look_miss w2 _ _ name _ hat hne
  have hbw : Below w.heap.size w w2 := ((Below.refl _ _).alloc (Nat.le_refl _) _).trans hb2
  have hst2 := st_below h hbw
  have hR := st_lt h
  clear hat hb2 hs2
  go_enter Try.func13, Try.ntmps13
  go_wp2_with (go_at_call 27; refine (string_nil R _ parent name _ hlook).mono ?_; rintro e w' ⟨rfl, rfl⟩)
  go_ret
  exact ⟨rfl, hst2, hbw.mono (Nat.le_of_lt hR)⟩

set_option maxHeartbeats 400000 in
theorem zzNum_hit (R : Nat) (s : Option (ByteArray × ByteArray × ByteArray)) (num : ByteArray) (parent name : ByteArray) (w : World) (h : St R s w) (hp : parent.size ≤ 1048576) (hn : name.size ≤ 1048576) :
    Calls Try.prog 16 #[.pointer (some ⟨R, 0, none⟩), .string name, .string num, .string parent, .string name] w fun e w' => e = .returned (.string ⟨#[]⟩) ∧ St R (keep s (pathB parent name, ⟨#[97, 32, 110, 117, 109, 98, 101, 114]⟩, ⟨#[97, 32, 115, 116, 114, 105, 110, 103]⟩)) w' ∧ Below R w w' := by
  obtain ⟨w2, hins, hat, hb2, hs2⟩ := ins_run (w.alloc (.map #[] 0)) w.heap.size name (.iface 43 (.string num)) (heap_alloc_new w _)
  have hmm := @run_makeMap Try.prog
  have hlook := look_hit w2 _ _ _ hat
  have hbw : Below w.heap.size w w2 := ((Below.refl _ _).alloc (Nat.le_refl _) _).trans hb2
  have hst2 := st_below h hbw
  have hR := st_lt h
  clear hat hb2 hs2
  go_enter Try.func16, Try.ntmps16
  go_wp2_with (go_at_call 27; refine (string_num R _ s num parent name _ hst2 hp hn hlook).mono ?_; rintro e w' ⟨rfl, hs', hb'⟩)
  go_ret
  exact ⟨rfl, hs', (hbw.mono (Nat.le_of_lt hR)).trans hb'⟩

set_option maxHeartbeats 400000 in
theorem zzArr_hit (R : Nat) (s : Option (ByteArray × ByteArray × ByteArray))  (parent name : ByteArray) (w : World) (h : St R s w) (hp : parent.size ≤ 1048576) (hn : name.size ≤ 1048576) :
    Calls Try.prog 17 #[.pointer (some ⟨R, 0, none⟩), .string name, .string parent, .string name] w fun e w' => e = .returned (.string ⟨#[]⟩) ∧ St R (keep s (pathB parent name, ⟨#[97, 110, 32, 97, 114, 114, 97, 121]⟩, ⟨#[97, 32, 115, 116, 114, 105, 110, 103]⟩)) w' ∧ Below R w w' := by
  obtain ⟨w2, hins, hat, hb2, hs2⟩ := ins_run ((w.alloc (.map #[] 0)).alloc (.cells #[] 20)) w.heap.size name (.iface 44 (.slice (some ⟨w.heap.size + 1, 0, none⟩) 0 0)) ((Below.heap_alloc _ _ _ (by simp)).trans (heap_alloc_new w _))
  have hmm := @run_makeMap Try.prog
  have hlook := look_hit w2 _ _ _ hat
  have hbw : Below w.heap.size w w2 := (((Below.refl _ _).alloc (Nat.le_refl _) _).alloc (by simp) _).trans hb2
  have hst2 := st_below h hbw
  have hR := st_lt h
  clear hat hb2 hs2
  go_enter Try.func17, Try.ntmps17
  go_wp2_with (go_at_call 27; refine (string_arr R _ s _ parent name _ hst2 hp hn hlook).mono ?_; rintro e w' ⟨rfl, hs', hb'⟩)
  go_ret
  exact ⟨rfl, hs', (hbw.mono (Nat.le_of_lt hR)).trans hb'⟩

set_option maxHeartbeats 400000 in
theorem zzObj_hit (R : Nat) (s : Option (ByteArray × ByteArray × ByteArray))  (parent name : ByteArray) (w : World) (h : St R s w) (hp : parent.size ≤ 1048576) (hn : name.size ≤ 1048576) :
    Calls Try.prog 18 #[.pointer (some ⟨R, 0, none⟩), .string name, .string parent, .string name] w fun e w' => e = .returned (.string ⟨#[]⟩) ∧ St R (keep s (pathB parent name, ⟨#[97, 110, 32, 111, 98, 106, 101, 99, 116]⟩, ⟨#[97, 32, 115, 116, 114, 105, 110, 103]⟩)) w' ∧ Below R w w' := by
  obtain ⟨w2, hins, hat, hb2, hs2⟩ := ins_run ((w.alloc (.map #[] 0)).alloc (.map #[] 0)) w.heap.size name (.iface 40 (.map (some (w.heap.size + 1)))) ((Below.heap_alloc _ _ _ (by simp)).trans (heap_alloc_new w _))
  have hmm := @run_makeMap Try.prog
  have hlook := look_hit w2 _ _ _ hat
  have hbw : Below w.heap.size w w2 := (((Below.refl _ _).alloc (Nat.le_refl _) _).alloc (by simp) _).trans hb2
  have hst2 := st_below h hbw
  have hR := st_lt h
  clear hat hb2 hs2
  go_enter Try.func18, Try.ntmps18
  go_wp2_with (go_at_call 27; refine (string_obj R _ s _ parent name _ hst2 hp hn hlook).mono ?_; rintro e w' ⟨rfl, hs', hb'⟩)
  go_ret
  exact ⟨rfl, hs', (hbw.mono (Nat.le_of_lt hR)).trans hb'⟩

set_option maxHeartbeats 400000 in
theorem asb_bool (R : Nat) (s : Option (ByteArray × ByteArray × ByteArray)) (b : Bool) (parent name : ByteArray) (w : World) (h : St R s w) (hp : parent.size ≤ 1048576) (hn : name.size ≤ 1048576) :
    Calls Try.prog 20 #[.pointer (some ⟨R, 0, none⟩), .bool b, .string parent, .string name] w fun e w' => e = .returned (.bool b) ∧ St R s w' ∧ Below R w w' := by
  go_enter Try.func20, Try.ntmps20
  go_wp2_with (go_at_call 29; refine (asBool_bool R b parent name _).mono ?_; rintro e w' ⟨rfl, rfl⟩)
  go_ret
  exact ⟨rfl, h, Below.refl _ _⟩

set_option maxHeartbeats 400000 in
theorem asb_null (R : Nat) (s : Option (ByteArray × ByteArray × ByteArray))  (parent name : ByteArray) (w : World) (h : St R s w) (hp : parent.size ≤ 1048576) (hn : name.size ≤ 1048576) :
    Calls Try.prog 21 #[.pointer (some ⟨R, 0, none⟩), .string parent, .string name] w fun e w' => e = .returned (.bool false) ∧ St R s w' ∧ Below R w w' := by
  go_enter Try.func21, Try.ntmps21
  go_wp2_with (go_at_call 29; refine (asBool_nil R parent name _).mono ?_; rintro e w' ⟨rfl, rfl⟩)
  go_ret
  exact ⟨rfl, h, Below.refl _ _⟩

set_option maxHeartbeats 400000 in
theorem asb_str (R : Nat) (s : Option (ByteArray × ByteArray × ByteArray)) (v : ByteArray) (parent name : ByteArray) (w : World) (h : St R s w) (hp : parent.size ≤ 1048576) (hn : name.size ≤ 1048576) :
    Calls Try.prog 22 #[.pointer (some ⟨R, 0, none⟩), .string v, .string parent, .string name] w fun e w' => e = .returned (.bool false) ∧ St R (keep s (pathB parent name, ⟨#[97, 32, 115, 116, 114, 105, 110, 103]⟩, ⟨#[97, 32, 98, 111, 111, 108, 101, 97, 110]⟩)) w' ∧ Below R w w' := by
  go_enter Try.func22, Try.ntmps22
  go_wp2_with (go_at_call 29; refine (asBool_str R s v parent name _ h hp hn).mono ?_; rintro e w' ⟨rfl, hs', hb'⟩)
  go_ret
  exact ⟨rfl, hs', hb'⟩

set_option maxHeartbeats 400000 in
theorem asb_num (R : Nat) (s : Option (ByteArray × ByteArray × ByteArray)) (v : ByteArray) (parent name : ByteArray) (w : World) (h : St R s w) (hp : parent.size ≤ 1048576) (hn : name.size ≤ 1048576) :
    Calls Try.prog 23 #[.pointer (some ⟨R, 0, none⟩), .string v, .string parent, .string name] w fun e w' => e = .returned (.bool false) ∧ St R (keep s (pathB parent name, ⟨#[97, 32, 110, 117, 109, 98, 101, 114]⟩, ⟨#[97, 32, 98, 111, 111, 108, 101, 97, 110]⟩)) w' ∧ Below R w w' := by
  go_enter Try.func23, Try.ntmps23
  go_wp2_with (go_at_call 29; refine (asBool_num R s v parent name _ h hp hn).mono ?_; rintro e w' ⟨rfl, hs', hb'⟩)
  go_ret
  exact ⟨rfl, hs', hb'⟩

set_option maxHeartbeats 400000 in
theorem asb_arr (R : Nat) (s : Option (ByteArray × ByteArray × ByteArray))  (parent name : ByteArray) (w : World) (h : St R s w) (hp : parent.size ≤ 1048576) (hn : name.size ≤ 1048576) :
    Calls Try.prog 24 #[.pointer (some ⟨R, 0, none⟩), .string parent, .string name] w fun e w' => e = .returned (.bool false) ∧ St R (keep s (pathB parent name, ⟨#[97, 110, 32, 97, 114, 114, 97, 121]⟩, ⟨#[97, 32, 98, 111, 111, 108, 101, 97, 110]⟩)) w' ∧ Below R w w' := by
  have hmm := @run_makeMap Try.prog
  have hbw : Below w.heap.size w (w.alloc (.cells #[] 20)) := (Below.refl _ _).alloc (Nat.le_refl _) _
  have hst2 := st_below h hbw
  have hR := st_lt h
  go_enter Try.func24, Try.ntmps24
  go_wp2_with (go_at_call 29; refine (asBool_arr R s _ parent name _ hst2 hp hn).mono ?_; rintro e w' ⟨rfl, hs', hb'⟩)
  go_ret
  exact ⟨rfl, hs', (hbw.mono (Nat.le_of_lt hR)).trans hb'⟩

set_option maxHeartbeats 400000 in
theorem asb_obj (R : Nat) (s : Option (ByteArray × ByteArray × ByteArray))  (parent name : ByteArray) (w : World) (h : St R s w) (hp : parent.size ≤ 1048576) (hn : name.size ≤ 1048576) :
    Calls Try.prog 25 #[.pointer (some ⟨R, 0, none⟩), .string parent, .string name] w fun e w' => e = .returned (.bool false) ∧ St R (keep s (pathB parent name, ⟨#[97, 110, 32, 111, 98, 106, 101, 99, 116]⟩, ⟨#[97, 32, 98, 111, 111, 108, 101, 97, 110]⟩)) w' ∧ Below R w w' := by
  have hmm := @run_makeMap Try.prog
  have hbw : Below w.heap.size w (w.alloc (.map #[] 0)) := (Below.refl _ _).alloc (Nat.le_refl _) _
  have hst2 := st_below h hbw
  have hR := st_lt h
  go_enter Try.func25, Try.ntmps25
  go_wp2_with (go_at_call 29; refine (asBool_obj R s _ parent name _ hst2 hp hn).mono ?_; rintro e w' ⟨rfl, hs', hb'⟩)
  go_ret
  exact ⟨rfl, hs', (hbw.mono (Nat.le_of_lt hR)).trans hb'⟩

end Go.Proofs.Qxb6615838a
