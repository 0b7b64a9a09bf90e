/-
  The contracts of the small makers: commaBytes, colonBytes, zeroBytes, minusZeroBytes, NewReader, NewParser, Buffer.Bytes.
-/
import Derived.Test.YthoekplablhgfaaGreatDoorJWrite
import Derived.Lib.SlBytesConst
import Derived.Lib.SmallJoins
namespace Go.Proofs.YthoekplablhgfaaGreatDoor
open Go.RowKit
set_option linter.unusedVariables false

theorem cell_add (w : World) (g j : Nat) : w.cell? ((⟨g, 0, none⟩ : Addr).add j) = w.cell? ⟨g, j, none⟩ := by rw [show (⟨g, 0, none⟩ : Addr).add j = ⟨g, j, none⟩ from by unfold Addr.add; split <;> simp_all]
set_option maxRecDepth 100000 in
theorem comma_at (w : World) : Calls Tryz.prog 38 #[] w fun e w' => e = .returned (.slice (some ⟨w.heap.size, 0, none⟩) 1 1) ∧ SrcL w' ⟨w.heap.size, 0, none⟩ [44] ∧ w.grownBy w' none := by
  have kc := fun (w : World) (C : Array Value) (n c : Nat) => Lib.run_convert_bytes_const (P := Tryz.prog) w 44 5 C n c Tryz.underlying44 Tryz.underlying5
  go_enter Tryz.func38, Tryz.ntmps38
  go_wp2_with fail
  go_ret
  refine ⟨rfl, fun j v hj => ?_, World.grownBy_alloc _ _ _⟩
  rw [cell_add, World.cell?_alloc_mark]
  rw [← hj]
  simp
set_option maxRecDepth 100000 in
theorem colon_at (w : World) : Calls Tryz.prog 39 #[] w fun e w' => e = .returned (.slice (some ⟨w.heap.size, 0, none⟩) 1 1) ∧ SrcL w' ⟨w.heap.size, 0, none⟩ [58] ∧ w.grownBy w' none := by
  have kc := fun (w : World) (C : Array Value) (n c : Nat) => Lib.run_convert_bytes_const (P := Tryz.prog) w 44 5 C n c Tryz.underlying44 Tryz.underlying5
  go_enter Tryz.func39, Tryz.ntmps39
  go_wp2_with fail
  go_ret
  refine ⟨rfl, fun j v hj => ?_, World.grownBy_alloc _ _ _⟩
  rw [cell_add, World.cell?_alloc_mark]
  rw [← hj]
  simp
set_option maxRecDepth 100000 in
theorem zero_at (w : World) : Calls Tryz.prog 41 #[] w fun e w' => e = .returned (.slice (some ⟨w.heap.size, 0, none⟩) 1 1) ∧ SrcL w' ⟨w.heap.size, 0, none⟩ [48] ∧ w.grownBy w' none := by
  have kc := fun (w : World) (C : Array Value) (n c : Nat) => Lib.run_convert_bytes_const (P := Tryz.prog) w 44 5 C n c Tryz.underlying44 Tryz.underlying5
  go_enter Tryz.func41, Tryz.ntmps41
  go_wp2_with fail
  go_ret
  refine ⟨rfl, fun j v hj => ?_, World.grownBy_alloc _ _ _⟩
  rw [cell_add, World.cell?_alloc_mark]
  rw [← hj]
  simp
set_option maxRecDepth 100000 in
theorem minusZero_at (w : World) : Calls Tryz.prog 42 #[] w fun e w' => e = .returned (.slice (some ⟨w.heap.size, 0, none⟩) 2 2) ∧ SrcL w' ⟨w.heap.size, 0, none⟩ [45, 48] ∧ w.grownBy w' none := by
  have kc := fun (w : World) (C : Array Value) (n c : Nat) => Lib.run_convert_bytes_const (P := Tryz.prog) w 44 5 C n c Tryz.underlying44 Tryz.underlying5
  go_enter Tryz.func42, Tryz.ntmps42
  go_wp2_with fail
  go_ret
  refine ⟨rfl, fun j v hj => ?_, World.grownBy_alloc _ _ _⟩
  rw [cell_add, World.cell?_alloc_mark]
  rw [← hj]
  simp
set_option maxRecDepth 100000 in
theorem reader_at (g o n c : Nat) (w : World) : Calls Tryz.prog 24 #[.slice (some ⟨g, o, none⟩) n c] w fun e w' => e = .returned (.pointer (some ⟨w.heap.size, 0, none⟩)) ∧ w'.heap[w.heap.size]? = some (.cells #[.slice (some ⟨g, o, none⟩) n c, .int .i64 0, .int .i64 (-1)] 97 (0, 0)) ∧ w.grownBy w' none := by
  go_enter Tryz.func24, Tryz.ntmps24
  go_wp2_with fail
  go_ret
  refine ⟨rfl, ?_, World.grownBy_alloc _ _ _⟩
  exact heap_alloc_new _ _
set_option maxRecDepth 100000 in
theorem Bytes_at (b g n c : Nat) (lr : Int) (w : World) (hb : BB w b (.slice (some ⟨g, 0, none⟩) n c) lr) (hn : 1 ≤ n) : Calls Tryz.prog 25 #[.pointer (some ⟨b, 0, none⟩)] w fun e w' => e = .returned (.slice (some ⟨g, 0, none⟩) n c) ∧ w.grownBy w' none := by
  have k0 := hb.c0
  have k1 := hb.c1
  have h0 : ¬ n = 0 := by omega
  go_enter Tryz.func25, Tryz.ntmps25
  go_wp2_with fail
  go_region
  go_wp2_with fail
  go_ret
  exact ⟨rfl, ⟨rfl, rfl, rfl, Nat.le_refl _, fun _ _ _ => rfl⟩⟩

end Go.Proofs.YthoekplablhgfaaGreatDoor
