/-
  The contract of spec.ReadJSON.
-/
import Derived.Test.YthoekplablhgfaaGreatDoorJRVal
namespace Go.Proofs.YthoekplablhgfaaGreatDoor
open Go.RowKit
set_option linter.unusedVariables false

theorem lies_all {s : ByteArray} {l : List Int} (h : bytesL s = l) : LiesAt s 0 l := by
  have hl := bytesL_length s
  rw [h] at hl
  refine ⟨by omega, fun j hj => ?_⟩
  unfold byteAt
  rw [h, Nat.zero_add]
/-- What ReadJSON answers: the tree lies in memory of its own. -/
def ReadPost (T : JT) (f : Nat) (w : World) (e : Ending) (w' : World) : Prop :=
  ∃ vi, e = .returned (.tuple #[agg T vi, .bool true]) ∧ Rows f w' (InW w.heap.size w') vi T.ks ∧ Below w.heap.size w w'
theorem below_of_grown {w w' : World} {g : Nat} (h : w.grownBy w' (some g)) (hg : w.heap.size ≤ g) : Below w.heap.size w w' := ⟨h.os, h.tape, h.output, h.size, fun k hk => h.block k hk (fun e => by injection e with e; omega)⟩

set_option maxRecDepth 100000 in
set_option maxHeartbeats 1600000 in
theorem ReadJSON_at (d : Nat) (v : JVal) (t w1 w2 : List Int) (s : ByteArray) (w : World) (ht : JTx d v t) (hw1 : JWs w1) (hw2 : JWs w2) (hb : bytesL s = w1 ++ (t ++ w2)) (hs : s.size ≤ 100000) (hd : d ≤ 100) :
    Calls Tryz.prog 6 #[.string s] w (ReadPost (tr d v) d w) := by
  have hl := lies_all hb
  have hsz := hl.1
  have hlen : s.size = w1.length + (t.length + w2.length) := by
    rw [← bytesL_length, hb]; simp
  have hl2 : LiesAt s 0 (w1 ++ t) := by
    have h0 := hl
    rw [show w1 ++ (t ++ w2) = (w1 ++ t) ++ w2 from by simp] at h0
    exact h0.left
  have hl3 : LiesAt s (w1.length + t.length) (w2 ++ []) := by
    have h0 := hl.drop.drop
    rw [List.append_nil]
    rw [Nat.zero_add] at h0
    exact h0
  have hst : Stop (byteAt s (0 + w1.length + t.length)) := by
    rw [Nat.zero_add]
    cases w2 with
    | nil =>
      rw [byteAt_end s _ (by rw [hlen]; simp)]
      unfold Stop isDg; omega
    | cons a r =>
      rw [(show LiesAt s (w1.length + t.length) (a :: (r ++ [])) from hl3).head.2]
      have := hw2 a (by simp)
      unfold Stop isDg; omega
  obtain ⟨T, hT⟩ : ∃ T, tr d v = T := ⟨_, rfl⟩
  have hval : ∀ wq g, Rd wq g s 0 0 → Calls Tryz.prog 13 #[.pointer (some ⟨g, 0, none⟩)] wq (InPost T d g (w1.length + t.length) 0 s wq) := fun wq g hr => by
    have h0 := value_at d v t ht g 0 0 s w1 wq hr hs (by omega) hw1 hl2 hst
    rw [hT, Nat.zero_add] at h0
    exact h0
  rw [hT]
  obtain ⟨E, hE⟩ : ∃ E, w1.length + t.length = E := ⟨_, rfl⟩
  rw [hE] at hval hl3
  have hE2 : E + w2.length = s.size := by omega
  obtain ⟨W1, hW1⟩ : ∃ W, w.alloc (.cells #[.int .u8 0, .string ⟨#[]⟩, .slice none 0 0, .string ⟨#[]⟩] 27) = W := ⟨_, rfl⟩
  have hj1 : JB W1 w.heap.size 0 ⟨#[]⟩ (.slice none 0 0) ⟨#[]⟩ := by rw [← hW1]; exact JB.new w
  have hs1 : W1.heap.size = w.heap.size + 1 := by rw [← hW1]; simp
  have hg1 : w.grownBy W1 none := by rw [← hW1]; exact World.grownBy_alloc _ _ _
  obtain ⟨W2, hW2⟩ : ∃ W, W1.alloc (.cells #[.string s, .int .i64 0, .int .i64 0] 42) = W := ⟨_, rfl⟩
  have hr2 : Rd W2 (w.heap.size + 1) s 0 0 := by rw [← hW2, ← hs1]; exact heap_alloc_new W1 _
  have hj2 : JB W2 w.heap.size 0 ⟨#[]⟩ (.slice none 0 0) ⟨#[]⟩ := by rw [← hW2]; exact hj1.keep (heap_alloc_old _ _ (by omega))
  have hg2 : w.grownBy W2 none := by rw [← hW2]; exact grownBy_trans hg1 (World.grownBy_alloc _ _ _)
  have hs2 : W2.heap.size = w.heap.size + 2 := by rw [← hW2]; simp [hs1]
  have HJ := Lib.hid hj2
  have HR := Lib.hid hr2
  have HG := Lib.hid hg2
  have HV := Lib.hid hval
  have HL3 := Lib.hid hl3
  have HW2 := Lib.hid hw2
  clear ht hw1 hw2 hb hl hl2 hl3 hst hval hT hj1 hg1 hj2 hr2 hg2 hE
  go_enter Tryz.func6, Tryz.ntmps6
  go_wp2_with fail
  refine (HV.out W2 (w.heap.size + 1) HR.out).mono ?_
  rintro e w3 ⟨vi, rfl, hrows, hr3, hg3⟩
  obtain ⟨ao, vn, vc, rfl⟩ := hrows.form
  unfold agg
  obtain ⟨b, hb⟩ : ∃ b, w.heap.size = b := ⟨_, rfl⟩
  obtain ⟨C, hC⟩ : ∃ C, Obj.cells #[.int .u8 T.k, .string T.t, .slice ao vn vc, .string T.u] 27 = C := ⟨_, rfl⟩
  have hj3 := HJ.out.keep (hg3.block w.heap.size HJ.out.lt (fun e => by injection e with e; omega))
  have hg3' := grownBy_trans (grownBy_none (g := w.heap.size + 1) HG.out) hg3
  have hlt3 := hr3.lt
  rw [hb] at hr3 hj3 hg3' hs2 hlt3
  obtain ⟨W4, hW4⟩ : ∃ W, w3.alloc C = W := ⟨_, rfl⟩
  have hj4 : JB W4 b 0 ⟨#[]⟩ (.slice none 0 0) ⟨#[]⟩ := by rw [← hW4]; exact hj3.keep (heap_alloc_old _ _ hj3.lt)
  have hr4 : Rd W4 (b + 1) s E 0 := by rw [← hW4]; exact hr3.alloc _
  have hg4 : w.grownBy W4 (some (b + 1)) := by rw [← hW4]; exact grownBy_trans hg3' (World.grownBy_alloc _ _ _)
  have hn4 : JB W4 w3.heap.size T.k T.t (.slice ao vn vc) T.u := by rw [← hW4, ← hC]; exact heap_alloc_new w3 _
  have hro4 : Rows d W4 (InW (b + 2) W4) (.slice ao vn vc) T.ks := by
    rw [← hW4]
    rw [hs2] at hrows
    exact rows_alloc hrows _
  have HJ4 := Lib.hid hj4
  have HR4 := Lib.hid hr4
  have HG4 := Lib.hid hg4
  have HN4 := Lib.hid hn4
  have HRO4 := Lib.hid hro4
  have HW4 := Lib.hid hW4
  have HC4 := Lib.hid hC
  clear hrows hr3 hg3 hj3 hg3' hj4 hr4 hg4 hn4 hro4 hW4 hC HJ HR HG HV
  go_wp2_with fail
  rw [HC4.out, HW4.out]
  refine (space_at (b + 1) E 0 s _ HR4.out (by omega) (by omega)).mono ?_
  rintro e w5 ⟨rfl, qx, hq1, hq2, hq3, hq4, hr5, hg5⟩
  have hqx := space_end HW2.out HL3.out (.inl hE2) hq1 hq2 hq3 hq4
  rw [hE2] at hqx
  subst hqx
  have HR5 := Lib.hid hr5
  have HJ5 := Lib.hid (HJ4.out.keep (hg5.block b HJ4.out.lt (fun e => by injection e with e; omega)))
  have HN5 := Lib.hid (HN4.out.keep (hg5.block _ HN4.out.lt (fun e => by injection e with e; omega)))
  have HG5 := Lib.hid (grownBy_trans HG4.out hg5)
  have HRO5 := Lib.hid (rows_grown HRO4.out hg5 (by omega))
  clear hr5 hg5 hq1 hq2 hq3 hq4 HJ4 HR4 HG4 HN4 HRO4
  have k1 := HR5.out.c1
  have z0 := HJ5.out.c0
  have z1 := HJ5.out.c1
  have z2 := HJ5.out.c2
  have z3 := HJ5.out.c3
  have y0 := HJ5.out.fz 0
  have y1 := HJ5.out.fz 1
  have y2 := HJ5.out.fz 2
  have y3 := HJ5.out.fz 3
  have x0 := HN5.out.c0
  have x1 := HN5.out.c1
  have x2 := HN5.out.c2
  have x3 := HN5.out.c3
  go_wp2_with fail
  go_region
  go_wp2_with fail
  (try simp only [Exit.inBlock, Exit.then])
  have hjF := HJ5.out.set T.k T.t T.u (.slice ao vn vc)
  refine bodyPost_ret (results_jb rfl rfl (show JB (World.drew _) b T.k T.t (.slice ao vn vc) T.u from hjF)) ?_ ?_
  · rfl
  · refine ⟨.slice ao vn vc, rfl, ?_, ?_⟩
    · have hr := rows_set (o := 3) (x := .string T.u) (rows_set (o := 2) (x := .slice ao vn vc) (rows_set (o := 1) (x := .string T.t) (rows_set (o := 0) (x := .int .u8 T.k) HRO5.out (show b < b + 2 by omega)) (show b < b + 2 by omega)) (show b < b + 2 by omega)) (show b < b + 2 by omega)
      exact (hr.frame (w' := World.drew _) fun k hk => rfl).mono fun k hk => ⟨by have := hk.1; omega, hk.2⟩
    · exact below_of_grown (grownBy_drewR (grownBy_set4 HG5.out (by omega) _ _ _ _)) (by omega)

end Go.Proofs.YthoekplablhgfaaGreatDoor
