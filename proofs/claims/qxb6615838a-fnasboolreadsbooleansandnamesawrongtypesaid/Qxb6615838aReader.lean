/-
  The walks of what a Reader keeps: 'wrongType', 'Path', 'ZZReaderErr' and of what lies round them.
-/
import Derived.Test.Qxb6615838aRows
import Derived.WalkKit
import Derived.WalkSpells
import Derived.WalkLawsBesides
import Derived.BigQuiet
import Derived.Deep.QuietTactic
import Derived.ProofKit
import Derived.ShutString
import Derived.Below
namespace Go.Proofs.Qxb6615838a
open Go.ChangeShapes Go.WideShapes Go.ChangeAt Go.RowKit
set_option linter.unusedVariables false

/-- The path that an error names. -/
def pathB (parent name : ByteArray) : ByteArray := if name.toList.isEmpty then parent else if parent.toList.isEmpty then name else parent ++ ⟨#[46]⟩ ++ name

theorem path_any (parent name : ByteArray) (w : World) (hp : parent.size ≤ 1048576) (hn : name.size ≤ 1048576) :
    Calls Try.prog 31 #[.string parent, .string name] w fun e w' => e = .returned (.string (pathB parent name)) ∧ w' = w := by
  unfold pathB
  cases h1 : name.toList.isEmpty
  · cases h2 : parent.toList.isEmpty
    · go_enter Try.func31, Try.ntmps31
      go_wp2
      go_ret
      exact ⟨rfl, rfl⟩
    · go_enter Try.func31, Try.ntmps31
      go_wp2
      go_ret
      exact ⟨rfl, rfl⟩
  · go_enter Try.func31, Try.ntmps31
    go_wp2
    go_ret
    exact ⟨rfl, rfl⟩

theorem zzPath_any (parent name : ByteArray) (w : World) (hp : parent.size ≤ 1048576) (hn : name.size ≤ 1048576) :
    Calls Try.prog 9 #[.string parent, .string name] w fun e w' => e = .returned (.string (pathB parent name)) ∧ w' = w := by
  unfold pathB
  cases h1 : name.toList.isEmpty
  · cases h2 : parent.toList.isEmpty
    · go_enter Try.func9, Try.ntmps9
      go_wp2
      go_ret
      exact ⟨rfl, rfl⟩
    · go_enter Try.func9, Try.ntmps9
      go_wp2
      go_ret
      exact ⟨rfl, rfl⟩
  · go_enter Try.func9, Try.ntmps9
    go_wp2
    go_ret
    exact ⟨rfl, rfl⟩

/-- What the Reader at block R keeps: no error, or one of three texts. -/
def St (R : Nat) (s : Option (ByteArray × ByteArray × ByteArray)) (w : World) : Prop :=
  match s with
  | none => w.heap[R]? = some (.cells #[.pointer none] 38 (0, 0))
  | some (p, g, q) => ∃ E, E ≠ R ∧ w.heap[R]? = some (.cells #[.pointer (some ⟨E, 0, none⟩)] 38 (0, 0)) ∧ w.heap[E]? = some (.cells #[.string p, .string g, .string q] 49 (0, 0))

theorem new_any (w : World) : Calls Try.prog 8 #[] w fun e w' => e = .returned (.pointer (some ⟨w.heap.size, 0, none⟩)) ∧ w' = w.alloc (.cells #[.pointer none] 38) := by
  go_enter Try.func8, Try.ntmps8
  go_wp2
  go_ret
  exact ⟨rfl, rfl⟩

/-! ### Type assertions: closed facts of the program -/
theorem ta_4_44 (y : Value) (w : World) : (Instr.typeAssert (.iface 4 y) 20 44 true).run Try.prog w = .ok (.tuple #[.slice none 0 0, .bool false]) w := by kernel_rfl
theorem ta_4_9 (y : Value) (w : World) : (Instr.typeAssert (.iface 4 y) 20 9 true).run Try.prog w = .ok (.tuple #[.string ⟨#[]⟩, .bool false]) w := by kernel_rfl
theorem ta_4_43 (y : Value) (w : World) : (Instr.typeAssert (.iface 4 y) 20 43 true).run Try.prog w = .ok (.tuple #[.string ⟨#[]⟩, .bool false]) w := by kernel_rfl
theorem ta_4_4 (y : Value) (w : World) : (Instr.typeAssert (.iface 4 y) 20 4 true).run Try.prog w = .ok (.tuple #[y, .bool true]) w := by kernel_rfl
theorem nn_4 (y : Value) (w : World) : (binOp .neq 20 (.iface 4 y) .nilIface).run Try.prog w = .ok (.bool true) w := by kernel_rfl
theorem ta_9_44 (y : Value) (w : World) : (Instr.typeAssert (.iface 9 y) 20 44 true).run Try.prog w = .ok (.tuple #[.slice none 0 0, .bool false]) w := by kernel_rfl
theorem ta_9_9 (y : Value) (w : World) : (Instr.typeAssert (.iface 9 y) 20 9 true).run Try.prog w = .ok (.tuple #[y, .bool true]) w := by kernel_rfl
theorem ta_9_43 (y : Value) (w : World) : (Instr.typeAssert (.iface 9 y) 20 43 true).run Try.prog w = .ok (.tuple #[.string ⟨#[]⟩, .bool false]) w := by kernel_rfl
theorem ta_9_4 (y : Value) (w : World) : (Instr.typeAssert (.iface 9 y) 20 4 true).run Try.prog w = .ok (.tuple #[.bool false, .bool false]) w := by kernel_rfl
theorem nn_9 (y : Value) (w : World) : (binOp .neq 20 (.iface 9 y) .nilIface).run Try.prog w = .ok (.bool true) w := by kernel_rfl
theorem ta_43_44 (y : Value) (w : World) : (Instr.typeAssert (.iface 43 y) 20 44 true).run Try.prog w = .ok (.tuple #[.slice none 0 0, .bool false]) w := by kernel_rfl
theorem ta_43_9 (y : Value) (w : World) : (Instr.typeAssert (.iface 43 y) 20 9 true).run Try.prog w = .ok (.tuple #[.string ⟨#[]⟩, .bool false]) w := by kernel_rfl
theorem ta_43_43 (y : Value) (w : World) : (Instr.typeAssert (.iface 43 y) 20 43 true).run Try.prog w = .ok (.tuple #[y, .bool true]) w := by kernel_rfl
theorem ta_43_4 (y : Value) (w : World) : (Instr.typeAssert (.iface 43 y) 20 4 true).run Try.prog w = .ok (.tuple #[.bool false, .bool false]) w := by kernel_rfl
theorem nn_43 (y : Value) (w : World) : (binOp .neq 20 (.iface 43 y) .nilIface).run Try.prog w = .ok (.bool true) w := by kernel_rfl
theorem ta_44_44 (y : Value) (w : World) : (Instr.typeAssert (.iface 44 y) 20 44 true).run Try.prog w = .ok (.tuple #[y, .bool true]) w := by kernel_rfl
theorem ta_44_9 (y : Value) (w : World) : (Instr.typeAssert (.iface 44 y) 20 9 true).run Try.prog w = .ok (.tuple #[.string ⟨#[]⟩, .bool false]) w := by kernel_rfl
theorem ta_44_43 (y : Value) (w : World) : (Instr.typeAssert (.iface 44 y) 20 43 true).run Try.prog w = .ok (.tuple #[.string ⟨#[]⟩, .bool false]) w := by kernel_rfl
theorem ta_44_4 (y : Value) (w : World) : (Instr.typeAssert (.iface 44 y) 20 4 true).run Try.prog w = .ok (.tuple #[.bool false, .bool false]) w := by kernel_rfl
theorem nn_44 (y : Value) (w : World) : (binOp .neq 20 (.iface 44 y) .nilIface).run Try.prog w = .ok (.bool true) w := by kernel_rfl
theorem ta_40_44 (y : Value) (w : World) : (Instr.typeAssert (.iface 40 y) 20 44 true).run Try.prog w = .ok (.tuple #[.slice none 0 0, .bool false]) w := by kernel_rfl
theorem ta_40_9 (y : Value) (w : World) : (Instr.typeAssert (.iface 40 y) 20 9 true).run Try.prog w = .ok (.tuple #[.string ⟨#[]⟩, .bool false]) w := by kernel_rfl
theorem ta_40_43 (y : Value) (w : World) : (Instr.typeAssert (.iface 40 y) 20 43 true).run Try.prog w = .ok (.tuple #[.string ⟨#[]⟩, .bool false]) w := by kernel_rfl
theorem ta_40_4 (y : Value) (w : World) : (Instr.typeAssert (.iface 40 y) 20 4 true).run Try.prog w = .ok (.tuple #[.bool false, .bool false]) w := by kernel_rfl
theorem nn_40 (y : Value) (w : World) : (binOp .neq 20 (.iface 40 y) .nilIface).run Try.prog w = .ok (.bool true) w := by kernel_rfl
theorem ta_nil_9 (w : World) : (Instr.typeAssert .nilIface 20 9 true).run Try.prog w = .ok (.tuple #[.string ⟨#[]⟩, .bool false]) w := by kernel_rfl
theorem ta_nil_4 (w : World) : (Instr.typeAssert .nilIface 20 4 true).run Try.prog w = .ok (.tuple #[.bool false, .bool false]) w := by kernel_rfl
theorem nn_nil (w : World) : (binOp .neq 20 .nilIface .nilIface).run Try.prog w = .ok (.bool false) w := by kernel_rfl

set_option maxHeartbeats 400000 in
theorem wrong_kept (R : Nat) (t : ByteArray × ByteArray × ByteArray) (v : Value) (parent name want : ByteArray) (w : World) (h : St R (some t) w) :
    Calls Try.prog 30 #[.pointer (some ⟨R, 0, none⟩), v, .string parent, .string name, .string want] w fun e w' => e = .returned (.tuple #[]) ∧ w' = w := by
  obtain ⟨p, g, q⟩ := t
  obtain ⟨E, hE, h1, h2⟩ := h
  have hc := cell_of_one h1
  go_enter Try.func30, Try.ntmps30
  go_wp2
  refine bodyPost_ret (results_none rfl _ _ _) rfl ?_
  exact ⟨rfl, rfl⟩

theorem st_new {R : Nat} {p g q : ByteArray} {w : World} (h : St R none w) :
    St R (some (p, g, q)) ((w.setCell ⟨R, 0, none⟩ (.pointer (some ⟨w.heap.size, 0, none⟩))).alloc (.cells #[.string p, .string g, .string q] 49)) ∧
    Below R w ((w.setCell ⟨R, 0, none⟩ (.pointer (some ⟨w.heap.size, 0, none⟩))).alloc (.cells #[.string p, .string g, .string q] 49)) := by
  have hlt := lt_of_block h
  have hsz : (w.setCell ⟨R, 0, none⟩ (.pointer (some ⟨w.heap.size, 0, none⟩))).heap.size = w.heap.size := by simp [World.setCell]
  refine ⟨⟨w.heap.size, by omega, ?_, ?_⟩, ?_⟩
  · rw [Below.heap_alloc _ _ _ (by omega)]
    exact one_setCell h
  · have hnew := heap_alloc_new (w.setCell ⟨R, 0, none⟩ (.pointer (some ⟨w.heap.size, 0, none⟩))) (.cells #[.string p, .string g, .string q] 49)
    rw [hsz] at hnew
    exact hnew
  · exact ((Below.refl R w).setCell (Nat.le_refl _) _).alloc (by omega) _

/-- Behind a refusal: the first error stays. -/
def keep (s : Option (ByteArray × ByteArray × ByteArray)) (t : ByteArray × ByteArray × ByteArray) : Option (ByteArray × ByteArray × ByteArray) :=
  match s with
  | none => some t
  | some x => some x

set_option maxHeartbeats 400000 in
theorem wrong_bool (R : Nat) (s : Option (ByteArray × ByteArray × ByteArray)) (b : Bool) (parent name want : ByteArray) (w : World) (h : St R s w) (hp : parent.size ≤ 1048576) (hn : name.size ≤ 1048576) :
    Calls Try.prog 30 #[.pointer (some ⟨R, 0, none⟩), .iface 4 (.bool b), .string parent, .string name, .string want] w fun e w' => e = .returned (.tuple #[]) ∧ St R (keep s (pathB parent name, ⟨#[97, 32, 98, 111, 111, 108, 101, 97, 110]⟩, want)) w' ∧ Below R w w' := by
  cases s with
  | some t =>
    refine (wrong_kept R t _ parent name want w h).mono ?_
    rintro e w' ⟨rfl, rfl⟩
    exact ⟨rfl, h, Below.refl _ _⟩
  | none =>
    have hc := cell_of_one h
    have hf := free_of_one h
    have hlt := lt_of_block h
    have hst := st_new (p := pathB parent name) (g := ⟨#[97, 32, 98, 111, 111, 108, 101, 97, 110]⟩) (q := want) h
    have HS := hst
    clear hst
    have f44 := ta_4_44
    have f9 := ta_4_9
    have f43 := ta_4_43
    have f4 := ta_4_4
    go_enter Try.func30, Try.ntmps30
    go_wp2_with (go_at_call 31; refine (path_any _ _ _ hp hn).mono ?_; rintro e w' ⟨rfl, rfl⟩)
    go_end0
    exact ⟨rfl, HS.1, HS.2⟩

set_option maxHeartbeats 400000 in
theorem wrong_str (R : Nat) (s : Option (ByteArray × ByteArray × ByteArray)) (y : ByteArray) (parent name want : ByteArray) (w : World) (h : St R s w) (hp : parent.size ≤ 1048576) (hn : name.size ≤ 1048576) :
    Calls Try.prog 30 #[.pointer (some ⟨R, 0, none⟩), .iface 9 (.string y), .string parent, .string name, .string want] w fun e w' => e = .returned (.tuple #[]) ∧ St R (keep s (pathB parent name, ⟨#[97, 32, 115, 116, 114, 105, 110, 103]⟩, want)) w' ∧ Below R w w' := by
  cases s with
  | some t =>
    refine (wrong_kept R t _ parent name want w h).mono ?_
    rintro e w' ⟨rfl, rfl⟩
    exact ⟨rfl, h, Below.refl _ _⟩
  | none =>
    have hc := cell_of_one h
    have hf := free_of_one h
    have hlt := lt_of_block h
    have hst := st_new (p := pathB parent name) (g := ⟨#[97, 32, 115, 116, 114, 105, 110, 103]⟩) (q := want) h
    have HS := hst
    clear hst
    have f44 := ta_9_44
    have f9 := ta_9_9
    go_enter Try.func30, Try.ntmps30
    go_wp2_with (go_at_call 31; refine (path_any _ _ _ hp hn).mono ?_; rintro e w' ⟨rfl, rfl⟩)
    go_end0
    exact ⟨rfl, HS.1, HS.2⟩

set_option maxHeartbeats 400000 in
theorem wrong_num (R : Nat) (s : Option (ByteArray × ByteArray × ByteArray)) (y : ByteArray) (parent name want : ByteArray) (w : World) (h : St R s w) (hp : parent.size ≤ 1048576) (hn : name.size ≤ 1048576) :
    Calls Try.prog 30 #[.pointer (some ⟨R, 0, none⟩), .iface 43 (.string y), .string parent, .string name, .string want] w fun e w' => e = .returned (.tuple #[]) ∧ St R (keep s (pathB parent name, ⟨#[97, 32, 110, 117, 109, 98, 101, 114]⟩, want)) w' ∧ Below R w w' := by
  cases s with
  | some t =>
    refine (wrong_kept R t _ parent name want w h).mono ?_
    rintro e w' ⟨rfl, rfl⟩
    exact ⟨rfl, h, Below.refl _ _⟩
  | none =>
    have hc := cell_of_one h
    have hf := free_of_one h
    have hlt := lt_of_block h
    have hst := st_new (p := pathB parent name) (g := ⟨#[97, 32, 110, 117, 109, 98, 101, 114]⟩) (q := want) h
    have HS := hst
    clear hst
    have f44 := ta_43_44
    have f9 := ta_43_9
    have f43 := ta_43_43
    go_enter Try.func30, Try.ntmps30
    go_wp2_with (go_at_call 31; refine (path_any _ _ _ hp hn).mono ?_; rintro e w' ⟨rfl, rfl⟩)
    go_end0
    exact ⟨rfl, HS.1, HS.2⟩

set_option maxHeartbeats 400000 in
theorem wrong_arr (R : Nat) (s : Option (ByteArray × ByteArray × ByteArray)) (y : Value) (parent name want : ByteArray) (w : World) (h : St R s w) (hp : parent.size ≤ 1048576) (hn : name.size ≤ 1048576) :
    Calls Try.prog 30 #[.pointer (some ⟨R, 0, none⟩), .iface 44 y, .string parent, .string name, .string want] w fun e w' => e = .returned (.tuple #[]) ∧ St R (keep s (pathB parent name, ⟨#[97, 110, 32, 97, 114, 114, 97, 121]⟩, want)) w' ∧ Below R w w' := by
  cases s with
  | some t =>
    refine (wrong_kept R t _ parent name want w h).mono ?_
    rintro e w' ⟨rfl, rfl⟩
    exact ⟨rfl, h, Below.refl _ _⟩
  | none =>
    have hc := cell_of_one h
    have hf := free_of_one h
    have hlt := lt_of_block h
    have hst := st_new (p := pathB parent name) (g := ⟨#[97, 110, 32, 97, 114, 114, 97, 121]⟩) (q := want) h
    have HS := hst
    clear hst
    have f44 := ta_44_44
    go_enter Try.func30, Try.ntmps30
    go_wp2_with (go_at_call 31; refine (path_any _ _ _ hp hn).mono ?_; rintro e w' ⟨rfl, rfl⟩)
    go_end0
    exact ⟨rfl, HS.1, HS.2⟩

set_option maxHeartbeats 400000 in
theorem wrong_obj (R : Nat) (s : Option (ByteArray × ByteArray × ByteArray)) (y : Value) (parent name want : ByteArray) (w : World) (h : St R s w) (hp : parent.size ≤ 1048576) (hn : name.size ≤ 1048576) :
    Calls Try.prog 30 #[.pointer (some ⟨R, 0, none⟩), .iface 40 y, .string parent, .string name, .string want] w fun e w' => e = .returned (.tuple #[]) ∧ St R (keep s (pathB parent name, ⟨#[97, 110, 32, 111, 98, 106, 101, 99, 116]⟩, want)) w' ∧ Below R w w' := by
  cases s with
  | some t =>
    refine (wrong_kept R t _ parent name want w h).mono ?_
    rintro e w' ⟨rfl, rfl⟩
    exact ⟨rfl, h, Below.refl _ _⟩
  | none =>
    have hc := cell_of_one h
    have hf := free_of_one h
    have hlt := lt_of_block h
    have hst := st_new (p := pathB parent name) (g := ⟨#[97, 110, 32, 111, 98, 106, 101, 99, 116]⟩) (q := want) h
    have HS := hst
    clear hst
    have f44 := ta_40_44
    have f9 := ta_40_9
    have f43 := ta_40_43
    have f4 := ta_40_4
    go_enter Try.func30, Try.ntmps30
    go_wp2_with (go_at_call 31; refine (path_any _ _ _ hp hn).mono ?_; rintro e w' ⟨rfl, rfl⟩)
    go_end0
    exact ⟨rfl, HS.1, HS.2⟩

set_option maxHeartbeats 400000 in
theorem readerErr_none (R : Nat) (w : World) (h : St R none w) :
    Calls Try.prog 28 #[.pointer (some ⟨R, 0, none⟩)] w fun e w' => e = .returned (.tuple #[.bool false, .string ⟨#[]⟩, .string ⟨#[]⟩, .string ⟨#[]⟩]) ∧ w' = w := by
  have hc := cell_of_one h
  go_enter Try.func28, Try.ntmps28
  go_wp2
  refine bodyPost_ret (v := .tuple #[.bool false, .string ⟨#[]⟩, .string ⟨#[]⟩, .string ⟨#[]⟩]) (by simp [results, Try.results28, go_sem]) rfl ?_
  exact ⟨rfl, rfl⟩

set_option maxHeartbeats 400000 in
theorem readerErr_some (R : Nat) (p g q : ByteArray) (w : World) (h : St R (some (p, g, q)) w) :
    Calls Try.prog 28 #[.pointer (some ⟨R, 0, none⟩)] w fun e w' => e = .returned (.tuple #[.bool true, .string p, .string g, .string q]) ∧ ∃ n, w' = w.drewN n := by
  obtain ⟨E, hE, h1, h2⟩ := h
  have hc := cell_of_one h1
  have c0 : w.cell? ⟨E, 0, none⟩ = some (.string p) := by simp [World.cell?, h2]
  have c1 : w.cell? ⟨E, 1, none⟩ = some (.string g) := by simp [World.cell?, h2]
  have c2 : w.cell? ⟨E, 2, none⟩ = some (.string q) := by simp [World.cell?, h2]
  go_enter Try.func28, Try.ntmps28
  go_wp2
  go_quiet (fail)
  go_wp2
  refine bodyPost_ret (v := .tuple #[.bool true, .string p, .string g, .string q]) (by simp [results, Try.results28, go_sem]) rfl ?_
  exact ⟨rfl, _, rfl⟩

set_option maxHeartbeats 400000 in
theorem noErr_any (R : Nat) (w : World) (h : St R none w) :
    Calls Try.prog 11 #[.pointer (some ⟨R, 0, none⟩)] w fun e w' => e = .returned (.bool true) ∧ St R none w' ∧ Below R w w' := by
  go_enter Try.func11, Try.ntmps11
  go_wp2_with (go_at_call 28; refine (readerErr_none _ _ h).mono ?_; rintro e w' ⟨rfl, rfl⟩)
  go_ret
  exact ⟨rfl, h, Below.refl _ _⟩

theorem st_drewN {R : Nat} {s : Option (ByteArray × ByteArray × ByteArray)} {w : World} (h : St R s w) (n : Nat) : St R s (w.drewN n) := by
  cases s with
  | none => exact h
  | some t => exact h

set_option maxHeartbeats 400000 in
theorem errIs_any (R : Nat) (p g q : ByteArray) (w : World) (h : St R (some (p, g, q)) w) :
    Calls Try.prog 14 #[.pointer (some ⟨R, 0, none⟩), .string p, .string g, .string q] w fun e w' => e = .returned (.bool true) ∧ St R (some (p, g, q)) w' ∧ Below R w w' := by
  go_enter Try.func14, Try.ntmps14
  go_wp2_with (go_at_call 28; refine (readerErr_some _ _ _ _ _ h).mono ?_; rintro e w' ⟨rfl, n, rfl⟩)
  go_ret
  exact ⟨rfl, st_drewN h _, below_drewN (Below.refl _ _) _⟩
end Go.Proofs.Qxb6615838a
