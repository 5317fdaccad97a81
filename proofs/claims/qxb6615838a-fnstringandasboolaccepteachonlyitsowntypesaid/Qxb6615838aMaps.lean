/-
  A map of one entry that the call makes: the store and the look-up.
-/
import Derived.Test.Qxb6615838aReader
namespace Go.Proofs.Qxb6615838a
open Go.ChangeShapes Go.WideShapes Go.ChangeAt Go.RowKit Go.MapKept
set_option linter.unusedVariables false

theorem look_hit (w : World) (B : Nat) (k : ByteArray) (v : Value) (h : w.heap[B]? = some (.map #[⟨.string k, v, 0⟩] 1)) :
    (Instr.lookup 40 (.map (some B)) (.string k) false).run Try.prog w = .ok v w := by
  have hkey : IsKey .string (.string k) := trivial
  have h1 : Instr.findNow .string (.string k) (#[(⟨.string k, v, 0⟩ : MapEntry)]).toList 0 = some (some (0, v)) := by
    have hb : (k == k) = true := by rw [bytes_beq]
    simp [Instr.findNow, Instr.sameNow, hb]
  simp [Instr.lookup, run_underlying Try.underlying40, MapKept.run_getObj_map h, run_checkKey Try.underlying9 hkey, run_findKey Try.underlying9 h1, Result.andThen]

theorem look_miss (w : World) (B : Nat) (k n : ByteArray) (v : Value) (h : w.heap[B]? = some (.map #[⟨.string k, v, 0⟩] 1)) (hne : n ≠ k) :
    (Instr.lookup 40 (.map (some B)) (.string n) false).run Try.prog w = .ok .nilIface w := by
  have hz : (zeroValue 20).run Try.prog w = .ok .nilIface w := by kernel_rfl
  have hkey : IsKey .string (.string n) := trivial
  have h1 : Instr.findNow .string (.string n) (#[(⟨.string k, v, 0⟩ : MapEntry)]).toList 0 = some none := by
    have hb : (n == k) = false := by rw [Bool.eq_false_iff]; intro c; exact hne ((bytes_beq _ _).1 c)
    simp [Instr.findNow, Instr.sameNow, hb]
  simp [Instr.lookup, run_underlying Try.underlying40, MapKept.run_getObj_map h, run_checkKey Try.underlying9 hkey, run_findKey Try.underlying9 h1, Result.andThen, hz]

theorem ins_run (w : World) (B : Nat) (k : ByteArray) (v : Value) (h : w.heap[B]? = some (.map #[] 0)) :
    ∃ w2, (Instr.mapUpdate 40 (.map (some B)) (.string k) v).run Try.prog w = .ok () w2 ∧ w2.heap[B]? = some (.map #[⟨.string k, v, 0⟩] 1) ∧ Below B w w2 ∧ w2.heap.size = w.heap.size := by
  have hkey : IsKey .string (.string k) := trivial
  have h1 : Instr.findNow .string (.string k) (#[] : Array MapEntry).toList 0 = some none := by simp [Instr.findNow]
  refine ⟨ChangeMaps.setBlock w B (.map #[⟨.string k, v, 0⟩] 1), ?_, ChangeMaps.heap_setBlock_same h _, ?_, ?_⟩
  · simp [Instr.mapUpdate, run_underlying Try.underlying40, MapKept.run_getObj_map h, run_checkKey Try.underlying9 hkey, run_findKey Try.underlying9 h1, MapKept.run_setObj_map _ h, Result.andThen, ChangeMaps.setBlock]
  · exact ⟨rfl, rfl, rfl, by simp [ChangeMaps.setBlock], fun i hi => ChangeMaps.heap_setBlock_other h _ (by omega)⟩
  · simp [ChangeMaps.setBlock]
end Go.Proofs.Qxb6615838a
