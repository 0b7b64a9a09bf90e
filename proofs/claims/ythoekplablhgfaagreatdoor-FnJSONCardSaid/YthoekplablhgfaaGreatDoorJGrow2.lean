/-
  The contracts of bytes.Buffer's grow, of no row.
-/
import Derived.Test.YthoekplablhgfaaGreatDoorJGrow
import Derived.Laws.MakeOwn
namespace Go.Proofs.YthoekplablhgfaaGreatDoor
open Go.RowKit
set_option linter.unusedVariables false

theorem info_u8' : (Tryz.prog.info? 5).map (fun i => (i.zero, i.size, i.bytes)) = some (some (.int .u8 0), 1, 1) := by kernel_rfl

set_option maxRecDepth 100000 in
set_option maxHeartbeats 3200000 in
/-- grow, of no row, by little: 64 bytes. -/
theorem grow_small (b n : Nat) (lr : Int) (w : World) (hb : BB w b (.slice none 0 0) lr) (hn : 1 ≤ n) (h64 : n ≤ 64) :
    Calls Tryz.prog 142 #[.pointer (some ⟨b, 0, none⟩), .int .i64 (n : Nat)] w fun e w' => e = .returned (.int .i64 0) ∧ ∃ cells, BB w' b (.slice (some ⟨w.heap.size, 0, none⟩) n 64) lr ∧ w'.heap[w.heap.size]? = some (.cells cells 5 (0, 0)) ∧ cells.size = 64 ∧ w.grownBy w' (some b) := by
  have HB := Lib.hid hb
  have hblt := hb.lt
  obtain ⟨i0, hi, hz0, hz1, hz2⟩ := info_parts info_u8'
  obtain ⟨M, hM⟩ : ∃ M, madeCells (Value.int .u8 0).cells (64 * i0.size) = M := ⟨_, rfl⟩
  have hMs : M.size = 64 := by rw [← hM, hz1, size_madeCells]
  have hmk : ∀ W : World, (Instr.makeSlice 44 (.int .i64 ((n : Nat) : Int)) (.int .i64 64)).run Tryz.prog W = .ok (.slice (some ⟨W.heap.size, 0, none⟩) n 64) (W.alloc (.cells M 5)) := fun W => by
    have h := run_make (P := Tryz.prog) W 44 5 i0 (.int .u8 0) Tryz.underlying44 hi hz0 .i64 .i64 ((n : Nat) : Int) 64 (by omega) (by omega) (by rw [hz2]; decide) (by decide)
    rw [show (64 : Int).toNat = 64 from rfl, hM] at h
    simpa using h
  have hnil : ∀ W, (binOp .eql 44 (.slice none 0 0) (.slice none 0 0)).run Tryz.prog W = .ok (.bool true) W := fun W => Lib.run_eql_slice_nil_nil W 0 0 Tryz.underlying44
  clear hb
  go_enter Tryz.func142, Tryz.ntmps142
  go_wp2_with fail
  refine (Len_at b 0 0 _ lr w HB.out (by decide)).mono ?_
  rintro e w1 ⟨rfl, k, rfl⟩
  obtain ⟨w1, hw1⟩ : ∃ W, w.drewN k = W := ⟨_, rfl⟩
  have HB1 := Lib.hid (show BB w1 b (.slice none 0 0) lr from by rw [← hw1]; exact HB.out.keep rfl)
  have HW1 := Lib.hid (show w.grownBy w1 (some b) from by rw [← hw1]; exact ⟨rfl, rfl, rfl, Nat.le_refl _, fun _ _ _ => rfl⟩)
  have hsz1 : w1.heap.size = w.heap.size := by rw [← hw1]; rfl
  rw [hw1]
  clear hw1
  have k1 := HB1.out.c1
  have k0 := HB1.out.c0
  have kf := HB1.out.fz 0
  have hb1 : b < w1.heap.size := HB1.out.lt
  go_wp2_with fail
  refine (try_no b 0 0 n _ lr _ HB1.out (by omega) (Nat.le_refl _) (by decide)).mono ?_
  rintro e w2 ⟨rfl, rfl⟩
  go_wp2_with fail
  go_ret
  refine ⟨rfl, M, ?_, ?_, hMs, ?_⟩
  · exact (HB1.out.put0 _).keep (heap_alloc_old _ _ (by rw [World.size_setCell]; omega))
  · have h := heap_alloc_new (w1.setCell ⟨b, 0, none⟩ (.slice (some ⟨w.heap.size, 0, none⟩) n 64)) (.cells M 5)
    rw [World.size_setCell, hsz1] at h
    exact h
  · exact grownBy_trans HW1.out (grownBy_trans (moved_set _ _ _ _) (World.grownBy_alloc _ _ _))

end Go.Proofs.YthoekplablhgfaaGreatDoor
