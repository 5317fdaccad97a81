/-
  The walks of '(*Reader).String' and '(*Reader).AsBool'.
-/
import Derived.Test.Qxb6615838aMaps
namespace Go.Proofs.Qxb6615838a
open Go.ChangeShapes Go.WideShapes Go.ChangeAt Go.RowKit Go.MapKept
set_option linter.unusedVariables false

theorem string_nil (R B : Nat) (parent name : ByteArray) (w : World) (hl : (Instr.lookup 40 (.map (some B)) (.string name) false).run Try.prog w = .ok .nilIface w) :
    Calls Try.prog 27 #[.pointer (some ⟨R, 0, none⟩), .map (some B), .string parent, .string name] w fun e w' => e = .returned (.string ⟨#[]⟩) ∧ w' = w := by
  have f1 := ta_nil_9
  have f2 := nn_nil
  go_enter Try.func27, Try.ntmps27
  go_wp2
  go_ret
  exact ⟨rfl, rfl⟩

theorem string_str (R B : Nat) (s parent name : ByteArray) (w : World) (hl : (Instr.lookup 40 (.map (some B)) (.string name) false).run Try.prog w = .ok (.iface 9 (.string s)) w) :
    Calls Try.prog 27 #[.pointer (some ⟨R, 0, none⟩), .map (some B), .string parent, .string name] w fun e w' => e = .returned (.string s) ∧ w' = w := by
  have f1 := ta_9_9
  go_enter Try.func27, Try.ntmps27
  go_wp2
  go_ret
  exact ⟨rfl, rfl⟩

theorem string_bool (R B : Nat) (s : Option (ByteArray × ByteArray × ByteArray)) (b : Bool) (parent name : ByteArray) (w : World) (h : St R s w) (hp : parent.size ≤ 1048576) (hn : name.size ≤ 1048576)
    (hl : (Instr.lookup 40 (.map (some B)) (.string name) false).run Try.prog w = .ok (.iface 4 (.bool b)) w) :
    Calls Try.prog 27 #[.pointer (some ⟨R, 0, none⟩), .map (some B), .string parent, .string name] w fun e w' => e = .returned (.string ⟨#[]⟩) ∧ St R (keep s (pathB parent name, ⟨#[97, 32, 98, 111, 111, 108, 101, 97, 110]⟩, ⟨#[97, 32, 115, 116, 114, 105, 110, 103]⟩)) w' ∧ Below R w w' := by
  have f1 := ta_4_9
  have f2 := nn_4
  go_enter Try.func27, Try.ntmps27
  go_wp2_with (go_at_call 30; refine (wrong_bool R s b parent name _ _ h hp hn).mono ?_; rintro e w' ⟨rfl, hs', hb'⟩)
  go_ret
  exact ⟨rfl, hs', hb'⟩

theorem string_num (R B : Nat) (s : Option (ByteArray × ByteArray × ByteArray)) (y : ByteArray) (parent name : ByteArray) (w : World) (h : St R s w) (hp : parent.size ≤ 1048576) (hn : name.size ≤ 1048576)
    (hl : (Instr.lookup 40 (.map (some B)) (.string name) false).run Try.prog w = .ok (.iface 43 (.string y)) w) :
    Calls Try.prog 27 #[.pointer (some ⟨R, 0, none⟩), .map (some B), .string parent, .string name] w fun e w' => e = .returned (.string ⟨#[]⟩) ∧ St R (keep s (pathB parent name, ⟨#[97, 32, 110, 117, 109, 98, 101, 114]⟩, ⟨#[97, 32, 115, 116, 114, 105, 110, 103]⟩)) w' ∧ Below R w w' := by
  have f1 := ta_43_9
  have f2 := nn_43
  go_enter Try.func27, Try.ntmps27
  go_wp2_with (go_at_call 30; refine (wrong_num R s y parent name _ _ h hp hn).mono ?_; rintro e w' ⟨rfl, hs', hb'⟩)
  go_ret
  exact ⟨rfl, hs', hb'⟩

theorem string_arr (R B : Nat) (s : Option (ByteArray × ByteArray × ByteArray)) (y : Value) (parent name : ByteArray) (w : World) (h : St R s w) (hp : parent.size ≤ 1048576) (hn : name.size ≤ 1048576)
    (hl : (Instr.lookup 40 (.map (some B)) (.string name) false).run Try.prog w = .ok (.iface 44 y) w) :
    Calls Try.prog 27 #[.pointer (some ⟨R, 0, none⟩), .map (some B), .string parent, .string name] w fun e w' => e = .returned (.string ⟨#[]⟩) ∧ St R (keep s (pathB parent name, ⟨#[97, 110, 32, 97, 114, 114, 97, 121]⟩, ⟨#[97, 32, 115, 116, 114, 105, 110, 103]⟩)) w' ∧ Below R w w' := by
  have f1 := ta_44_9
  have f2 := nn_44
  go_enter Try.func27, Try.ntmps27
  go_wp2_with (go_at_call 30; refine (wrong_arr R s y parent name _ _ h hp hn).mono ?_; rintro e w' ⟨rfl, hs', hb'⟩)
  go_ret
  exact ⟨rfl, hs', hb'⟩

theorem string_obj (R B : Nat) (s : Option (ByteArray × ByteArray × ByteArray)) (y : Value) (parent name : ByteArray) (w : World) (h : St R s w) (hp : parent.size ≤ 1048576) (hn : name.size ≤ 1048576)
    (hl : (Instr.lookup 40 (.map (some B)) (.string name) false).run Try.prog w = .ok (.iface 40 y) w) :
    Calls Try.prog 27 #[.pointer (some ⟨R, 0, none⟩), .map (some B), .string parent, .string name] w fun e w' => e = .returned (.string ⟨#[]⟩) ∧ St R (keep s (pathB parent name, ⟨#[97, 110, 32, 111, 98, 106, 101, 99, 116]⟩, ⟨#[97, 32, 115, 116, 114, 105, 110, 103]⟩)) w' ∧ Below R w w' := by
  have f1 := ta_40_9
  have f2 := nn_40
  go_enter Try.func27, Try.ntmps27
  go_wp2_with (go_at_call 30; refine (wrong_obj R s y parent name _ _ h hp hn).mono ?_; rintro e w' ⟨rfl, hs', hb'⟩)
  go_ret
  exact ⟨rfl, hs', hb'⟩

theorem asBool_nil (R : Nat) (parent name : ByteArray) (w : World) :
    Calls Try.prog 29 #[.pointer (some ⟨R, 0, none⟩), .nilIface, .string parent, .string name] w fun e w' => e = .returned (.bool false) ∧ w' = w := by
  have f1 := ta_nil_4
  have f2 := nn_nil
  go_enter Try.func29, Try.ntmps29
  go_wp2
  go_ret
  exact ⟨rfl, rfl⟩

theorem asBool_bool (R : Nat) (b : Bool) (parent name : ByteArray) (w : World) :
    Calls Try.prog 29 #[.pointer (some ⟨R, 0, none⟩), .iface 4 (.bool b), .string parent, .string name] w fun e w' => e = .returned (.bool b) ∧ w' = w := by
  have f1 := ta_4_4
  go_enter Try.func29, Try.ntmps29
  go_wp2
  go_ret
  exact ⟨rfl, rfl⟩

theorem asBool_str (R : Nat) (s : Option (ByteArray × ByteArray × ByteArray)) (y : ByteArray) (parent name : ByteArray) (w : World) (h : St R s w) (hp : parent.size ≤ 1048576) (hn : name.size ≤ 1048576) :
    Calls Try.prog 29 #[.pointer (some ⟨R, 0, none⟩), .iface 9 (.string y), .string parent, .string name] w fun e w' => e = .returned (.bool false) ∧ St R (keep s (pathB parent name, ⟨#[97, 32, 115, 116, 114, 105, 110, 103]⟩, ⟨#[97, 32, 98, 111, 111, 108, 101, 97, 110]⟩)) w' ∧ Below R w w' := by
  have f1 := ta_9_4
  have f2 := nn_9
  go_enter Try.func29, Try.ntmps29
  go_wp2_with (go_at_call 30; refine (wrong_str R s y parent name _ _ h hp hn).mono ?_; rintro e w' ⟨rfl, hs', hb'⟩)
  go_ret
  exact ⟨rfl, hs', hb'⟩

theorem asBool_num (R : Nat) (s : Option (ByteArray × ByteArray × ByteArray)) (y : ByteArray) (parent name : ByteArray) (w : World) (h : St R s w) (hp : parent.size ≤ 1048576) (hn : name.size ≤ 1048576) :
    Calls Try.prog 29 #[.pointer (some ⟨R, 0, none⟩), .iface 43 (.string y), .string parent, .string name] w fun e w' => e = .returned (.bool false) ∧ St R (keep s (pathB parent name, ⟨#[97, 32, 110, 117, 109, 98, 101, 114]⟩, ⟨#[97, 32, 98, 111, 111, 108, 101, 97, 110]⟩)) w' ∧ Below R w w' := by
  have f1 := ta_43_4
  have f2 := nn_43
  go_enter Try.func29, Try.ntmps29
  go_wp2_with (go_at_call 30; refine (wrong_num R s y parent name _ _ h hp hn).mono ?_; rintro e w' ⟨rfl, hs', hb'⟩)
  go_ret
  exact ⟨rfl, hs', hb'⟩

theorem asBool_arr (R : Nat) (s : Option (ByteArray × ByteArray × ByteArray)) (y : Value) (parent name : ByteArray) (w : World) (h : St R s w) (hp : parent.size ≤ 1048576) (hn : name.size ≤ 1048576) :
    Calls Try.prog 29 #[.pointer (some ⟨R, 0, none⟩), .iface 44 y, .string parent, .string name] w fun e w' => e = .returned (.bool false) ∧ St R (keep s (pathB parent name, ⟨#[97, 110, 32, 97, 114, 114, 97, 121]⟩, ⟨#[97, 32, 98, 111, 111, 108, 101, 97, 110]⟩)) w' ∧ Below R w w' := by
  have f1 := ta_44_4
  have f2 := nn_44
  go_enter Try.func29, Try.ntmps29
  go_wp2_with (go_at_call 30; refine (wrong_arr R s y parent name _ _ h hp hn).mono ?_; rintro e w' ⟨rfl, hs', hb'⟩)
  go_ret
  exact ⟨rfl, hs', hb'⟩

theorem asBool_obj (R : Nat) (s : Option (ByteArray × ByteArray × ByteArray)) (y : Value) (parent name : ByteArray) (w : World) (h : St R s w) (hp : parent.size ≤ 1048576) (hn : name.size ≤ 1048576) :
    Calls Try.prog 29 #[.pointer (some ⟨R, 0, none⟩), .iface 40 y, .string parent, .string name] w fun e w' => e = .returned (.bool false) ∧ St R (keep s (pathB parent name, ⟨#[97, 110, 32, 111, 98, 106, 101, 99, 116]⟩, ⟨#[97, 32, 98, 111, 111, 108, 101, 97, 110]⟩)) w' ∧ Below R w w' := by
  have f1 := ta_40_4
  have f2 := nn_40
  go_enter Try.func29, Try.ntmps29
  go_wp2_with (go_at_call 30; refine (wrong_obj R s y parent name _ _ h hp hn).mono ?_; rintro e w' ⟨rfl, hs', hb'⟩)
  go_ret
  exact ⟨rfl, hs', hb'⟩

theorem st_lt {R : Nat} {s : Option (ByteArray × ByteArray × ByteArray)} {w : World} (h : St R s w) : R < w.heap.size := by
  cases s with
  | none => exact lt_of_block h
  | some t => obtain ⟨E, _, h1, _⟩ := h; exact lt_of_block h1

/-- What a Reader keeps stays where all that was there stays. -/
theorem st_below {R : Nat} {s : Option (ByteArray × ByteArray × ByteArray)} {w w' : World} (h : St R s w) (hb : Below w.heap.size w w') : St R s w' := by
  have hlt := st_lt h
  cases s with
  | none => exact (hb.block R hlt).trans h
  | some t =>
    obtain ⟨E, hE, h1, h2⟩ := h
    exact ⟨E, hE, (hb.block R hlt).trans h1, (hb.block E (lt_of_block h2)).trans h2⟩

end Go.Proofs.Qxb6615838a
