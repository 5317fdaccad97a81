/-
  The walk of 'ZZRegionStoreKeys'.
-/
import Derived.Test.Qxb6615212aKeys
namespace Go.Proofs.Qxb6615212a
open Go.ChangeShapes Go.WideShapes Go.ChangeAt Go.RowKit
set_option linter.unusedVariables false

set_option maxHeartbeats 400000 in
theorem store_any (vb vm : Value) (kss : List (List ByteArray)) (ms : List Bool) (w : World) (hb : BucketsV w vb kss) (hm : Bools w vm ms) (hn : kss.length ≤ 65536) (hml : ms.length ≤ 65536) (ht : total kss kss.length ≤ 65536) :
    Calls Try.prog 15 #[vb, vm] w fun e w' => KeysPost kss ms w e w' := by
  have hmf : ∀ (fn : Fn) (first cap : Array Value) (w : World), (Instr.makeFunc fn first cap).run Try.prog w = .ok (.func fn first cap) w := fun _ _ _ _ => rfl
  have HB : Hid (BucketsV w vb kss) := hb
  have HM : Hid (Bools w vm ms) := hm
  obtain ⟨ao, cap, hvb⟩ : ∃ ao cap, vb = .slice ao kss.length cap := by
    obtain ⟨vs, ⟨ao, cap, h1, _⟩, h2, _⟩ := hb
    exact ⟨ao, cap, by rw [h1, h2]⟩
  obtain ⟨ao2, cap2, hvm, _⟩ := bools_cases hm
  clear hb hm
  subst hvb
  subst hvm
  go_enter Try.func15, Try.ntmps15
  go_wp2_with fail
  refine (keys_any (w.heap.size + 1) w.heap.size _ _ kss ms w _ ?_ ?_ ?_ (by omega) (by omega) (Nat.le_refl _) HB.out HM.out hn hml ht).mono ?_
  · exact ((Below.refl _ _).alloc (Nat.le_refl _) _).alloc (by simp) _
  · have := heap_alloc_new (w.alloc (.cells #[.slice ao2 ms.length cap2] 35)) (.cells #[.int .i32 0, .int .u32 0, .int .u32 0, .int .u32 0, .int .i32 0, .int .i32 0, .slice ao kss.length cap, .slice none 0 0] 63)
    simpa using this
  · have h1 : (w.alloc (.cells #[.slice ao2 ms.length cap2] 35)).cell? ⟨w.heap.size, 0, none⟩ = some (.slice ao2 ms.length cap2) := cell_of_one (heap_alloc_new w _)
    rw [Below.cell (B := (w.alloc (.cells #[.slice ao2 ms.length cap2] 35)).heap.size) ((Below.refl _ _).alloc (Nat.le_refl _) _) (by simp)]
    exact h1
  rintro e w' ⟨v, rs, rfl, h1, h2, h3⟩
  go_wp2_with fail
  go_ret
  exact ⟨v, rs, rfl, h1, h2, h3⟩
end Go.Proofs.Qxb6615212a
