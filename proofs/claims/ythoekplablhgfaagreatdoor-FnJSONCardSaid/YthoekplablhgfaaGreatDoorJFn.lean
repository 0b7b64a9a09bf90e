/-
  laws.FnJSON returns true, whatever it is handed.
-/
import Derived.Test.YthoekplablhgfaaGreatDoorMBase
import Derived.Test.YthoekplablhgfaaGreatDoorMMake
import Derived.Test.YthoekplablhgfaaGreatDoorJZZ
import Derived.Test.YthoekplablhgfaaGreatDoorJRTop
namespace Go.Proofs.YthoekplablhgfaaGreatDoor
open Go.RowKit
set_option linter.unusedVariables false

theorem Eof.below {w w' : World} {a : Addr} (h : Eof w a) (hb : Below w.heap.size w w') : Eof w' a :=
  (World.cell?_of_block (a := ⟨0, 0, none⟩) (hb.block 0 (Nat.lt_of_le_of_lt (Nat.zero_le _) (World.block_lt_of_cell? w _ h)))).trans h

set_option maxRecDepth 100000 in
set_option maxHeartbeats 3200000 in
theorem FnJSON_any (A1 A2 : Option Addr) (n1 c1 n2 c2 : Nat) (xs ys : List Int) (keep : Bool) (a : Addr) (w : World) (r1 : RInts w w.heap.size A1 n1 xs) (r2 : RInts w w.heap.size A2 n2 ys)
    (k1 : n1 ≤ c1) (k2 : n2 ≤ c2) (m1 : c1 ≤ 9223372036854775807) (m2 : c2 ≤ 9223372036854775807) (hE : Eof w a) :
    Calls Tryz.prog 3 #[.slice A1 n1 c1, .slice A2 n2 c2, .bool keep] w fun e w' => e = .returned (.bool true) ∧ Below w.heap.size w w' := by
  have b1 := r1.2.1
  have b2 := r2.2.1
  by_cases h1 : 2147483647 < n1
  · have h1' : decide (2147483647 < (n1 : Int)) = true := by simp; omega
    clear r1 r2
    go_enter Tryz.func3, Tryz.ntmps3
    go_wp2
    go_ret
    exact ⟨rfl, Below.refl _ _⟩
  by_cases h2 : 2147483647 < n2
  · clear r1 r2
    go_enter Tryz.func3, Tryz.ntmps3
    go_wp2
    go_ret
    exact ⟨rfl, Below.refl _ _⟩
  have q1 := r1.take (min n1 300) (by omega)
  have q2 := r2.take (min n2 300) (by omega)
  have R1 := Lib.hid r1
  have R2 := Lib.hid r2
  have Q1 := Lib.hid q1
  have Q2 := Lib.hid q2
  have HE := Lib.hid hE
  clear r1 r2 q1 q2 hE
  go_enter Tryz.func3, Tryz.ntmps3
  go_wp2_with fail
  refine (few_any A1 n1 c1 xs w R1.out k1 m1).mono ?_
  rintro e w1 ⟨rfl, rfl⟩
  go_wp2_with fail
  refine (few_any A2 n2 c2 ys w R2.out k2 m2).mono ?_
  rintro e w1 ⟨rfl, rfl⟩
  go_wp2_with fail
  refine (JSONText_at A1 A2 _ c1 _ c2 w.heap.size _ _ w rfl Q1.out Q2.out).mono ?_
  rintro e w1 ⟨t, ht, rfl, hb1⟩
  obtain ⟨s1, u, s2, em, v, v', hg⟩ := json_good keep ht
  have HG := Lib.hid hg
  have HB1 := Lib.hid hb1
  have hts : (strOfNums t).size = t.length := str_size t
  have hes : (strOfNums em).size = em.length := str_size em
  have HTS := Lib.hid hts
  have HES := Lib.hid hes
  have hmax := hg.max
  have hlen := hg.len
  have hz1 := hb1.size
  clear ht hg hb1 hts hes
  go_wp2_with fail
  refine (ReadJSON_at 5 v u s1 s2 (strOfNums t) w1 HG.out.tx HG.out.ws1 HG.out.ws2 (by rw [bytesL_str HG.out.by1]; exact HG.out.eq) (by rw [HTS.out]; omega) (by omega)).mono ?_
  rintro e w2 ⟨vi, rfl, hrow, hb2⟩
  obtain ⟨ao, nn, cc, rfl⟩ := hrow.form
  have HROW := Lib.hid hrow
  have HB2 := Lib.hid hb2
  have hz2 := hb2.size
  obtain ⟨k1', hk1⟩ : ∃ k, (tr 5 v).k = k := ⟨_, rfl⟩
  obtain ⟨t1', ht1⟩ : ∃ k, (tr 5 v).t = k := ⟨_, rfl⟩
  obtain ⟨u1', hu1⟩ : ∃ k, (tr 5 v).u = k := ⟨_, rfl⟩
  have HK1 := Lib.hid hk1
  have HT1 := Lib.hid ht1
  have HU1 := Lib.hid hu1
  unfold agg
  rw [hk1, ht1, hu1]
  clear hrow hb2 hk1 ht1 hu1
  go_wp2_with fail
  obtain ⟨B8, hB8⟩ : ∃ k, w2.heap.size = k := ⟨_, rfl⟩
  rw [hB8]
  generalize hW : w2.alloc _ = W2
  have f8 : W2.heap[B8]? = some (.cells #[.int .u8 k1', .string t1', .slice ao nn cc, .string u1'] 27 (0, 0)) := by
    rw [← hW, ← hB8]
    exact heap_alloc_new w2 _
  have hszW : W2.heap.size = B8 + 1 := by rw [← hW, World.size_alloc, hB8]
  have holdW : ∀ k, k < B8 → W2.heap[k]? = w2.heap[k]? := fun k hk => by
    rw [← hW]
    exact heap_alloc_old w2 _ (by omega)
  have hbW : Below w.heap.size w W2 := by
    have h9 := HB1.out.trans (HB2.out.mono hz1)
    rw [← hW]
    exact ⟨h9.os, h9.tape, h9.output, by have := h9.size; simp; omega, fun k hk => (heap_alloc_old w2 _ (by omega)).trans (h9.block k hk)⟩
  have hrowW : Rows 5 W2 (InW w1.heap.size w2) (.slice ao nn cc) (tr 5 v).ks := HROW.out.frame (fun b hb => holdW b (by have := hb.2; omega))
  have HF8 := Lib.hid f8
  have HBW := Lib.hid hbW
  have HRW := Lib.hid hrowW
  have HEW := Lib.hid (HE.out.below hbW)
  have HB8 := Lib.hid hB8
  have HSW := Lib.hid hszW
  have hBw : w.heap.size ≤ B8 := by omega
  have htp : 1 ≤ t.length := by
    rcases Nat.eq_zero_or_pos t.length with e | e
    · exact absurd (List.eq_nil_of_length_eq_zero e) HG.out.ne1
    · exact e
  have hep : 1 ≤ em.length := by
    rcases Nat.eq_zero_or_pos em.length with e | e
    · exact absurd (List.eq_nil_of_length_eq_zero e) HG.out.ne2
    · exact e
  clear hW f8 hszW holdW hbW hrowW hB8
  refine (implJSON_at keep t em a W2 HG.out.by1 htp (by omega) HEW.out HG.out.rem (by omega) HG.out.ne2).mono ?_
  rintro e w3 ⟨rfl, hb3⟩
  have HB3 := Lib.hid hb3
  have hz3 := hb3.size
  clear hb3
  go_wp2_with fail
  refine (ReadJSON_at 5 v' em [] [] (strOfNums em) w3 HG.out.tx' (fun c h => absurd h (by simp)) (fun c h => absurd h (by simp)) (by rw [bytesL_str HG.out.by2]; simp) (by rw [HES.out]; omega) (by omega)).mono ?_
  rintro e w4 ⟨vi, rfl, hrow, hb4⟩
  obtain ⟨ao', nn', cc', rfl⟩ := hrow.form
  have HROW4 := Lib.hid hrow
  have HB4 := Lib.hid hb4
  have hz4 := hb4.size
  obtain ⟨k2', hk2⟩ : ∃ k, (tr 5 v').k = k := ⟨_, rfl⟩
  obtain ⟨t2', ht2⟩ : ∃ k, (tr 5 v').t = k := ⟨_, rfl⟩
  obtain ⟨u2', hu2⟩ : ∃ k, (tr 5 v').u = k := ⟨_, rfl⟩
  have HK2 := Lib.hid hk2
  have HT2 := Lib.hid ht2
  have HU2 := Lib.hid hu2
  unfold agg
  rw [hk2, ht2, hu2]
  clear hrow hb4 hk2 ht2 hu2
  go_wp2_with fail
  obtain ⟨B12, hB12⟩ : ∃ k, w4.heap.size = k := ⟨_, rfl⟩
  rw [hB12]
  generalize hW4 : w4.alloc _ = W4
  have f12 : W4.heap[B12]? = some (.cells #[.int .u8 k2', .string t2', .slice ao' nn' cc', .string u2'] 27 (0, 0)) := by
    rw [← hW4, ← hB12]
    exact heap_alloc_new w4 _
  have hszW4 : W4.heap.size = B12 + 1 := by rw [← hW4, World.size_alloc, hB12]
  have hbW4 : Below W2.heap.size W2 W4 := by
    have h9 := HB3.out.trans (HB4.out.mono hz3)
    rw [← hW4]
    exact ⟨h9.os, h9.tape, h9.output, by have := h9.size; simp; omega, fun k hk => (heap_alloc_old w4 _ (by omega)).trans (h9.block k hk)⟩
  have hrowW4 : Rows 5 W4 (InW w3.heap.size w4) (.slice ao' nn' cc') (tr 5 v').ks := HROW4.out.frame (fun b hb => by
    rw [← hW4]
    exact heap_alloc_old w4 _ (by have := hb.2; omega))
  have hWW : Below w.heap.size w W4 := HBW.out.trans (hbW4.mono (by have := HSW.out; omega))
  have HF12 := Lib.hid f12
  have HBW4 := Lib.hid hbW4
  have HRW4 := Lib.hid hrowW4
  have HWW := Lib.hid hWW
  have HEW4 := Lib.hid (HE.out.below hWW)
  have HSW4 := Lib.hid hszW4
  have HB12 := Lib.hid hB12
  clear hW4 f12 hszW4 hbW4 hrowW4 hWW hB12
  refine (implJSON_at keep em em a W4 HG.out.by2 hep (by omega) HEW4.out HG.out.rem' (by omega) HG.out.ne2).mono ?_
  rintro e w5 ⟨rfl, hb5⟩
  have hsW := HSW.out
  have hsW4 := HSW4.out
  have hB8' := HB8.out
  have hB12' := HB12.out
  have g8 : w5.heap[B8]? = some (.cells #[.int .u8 k1', .string t1', .slice ao nn cc, .string u1'] 27 (0, 0)) := (hb5.block B8 (by omega)).trans ((HBW4.out.block B8 (by omega)).trans HF8.out)
  have g12 : w5.heap[B12]? = some (.cells #[.int .u8 k2', .string t2', .slice ao' nn' cc', .string u2'] 27 (0, 0)) := (hb5.block B12 (by omega)).trans HF12.out
  have r8 : Rows 5 w5 (InW w1.heap.size w2) (.slice ao nn cc) (tr 5 v).ks := HRW.out.frame (fun b hb => (hb5.block b (by have := hb.2; omega)).trans (HBW4.out.block b (by have := hb.2; omega)))
  have r12 : Rows 5 w5 (InW w3.heap.size w4) (.slice ao' nn' cc') (tr 5 v').ks := HRW4.out.frame (fun b hb => hb5.block b (by have := hb.2; omega))
  have hw5 : Below w.heap.size w w5 := HWW.out.trans (hb5.mono (by omega))
  have hz5 := hb5.size
  have hsame := Same_at 5 (tr 5 v) (tr 5 v') _ _ _ _ w5 r8 r12 (fun k hk => by have := hk.2; omega) (fun k hk => by have := hk.2; omega) HG.out.same
  unfold agg at hsame
  rw [HK1.out, HT1.out, HU1.out, HK2.out, HT2.out, HU2.out] at hsame
  have HSAME := Lib.hid hsame
  have HG8 := Lib.hid g8
  have HG12 := Lib.hid g12
  have HR8 := Lib.hid r8
  have HR12 := Lib.hid r12
  have HW5 := Lib.hid hw5
  have c80 : w5.cell? ⟨B8, 0, none⟩ = some (.int .u8 k1') := by rw [cell_of_row w5 B8 0 _ _ _ g8]; rfl
  have c81 : w5.cell? ⟨B8, 1, none⟩ = some (.string t1') := by rw [cell_of_row w5 B8 1 _ _ _ g8]; rfl
  have c82 : w5.cell? ⟨B8, 2, none⟩ = some (.slice ao nn cc) := by rw [cell_of_row w5 B8 2 _ _ _ g8]; rfl
  have c83 : w5.cell? ⟨B8, 3, none⟩ = some (.string u1') := by rw [cell_of_row w5 B8 3 _ _ _ g8]; rfl
  have d80 : w5.cell? ⟨B12, 0, none⟩ = some (.int .u8 k2') := by rw [cell_of_row w5 B12 0 _ _ _ g12]; rfl
  have d81 : w5.cell? ⟨B12, 1, none⟩ = some (.string t2') := by rw [cell_of_row w5 B12 1 _ _ _ g12]; rfl
  have d82 : w5.cell? ⟨B12, 2, none⟩ = some (.slice ao' nn' cc') := by rw [cell_of_row w5 B12 2 _ _ _ g12]; rfl
  have d83 : w5.cell? ⟨B12, 3, none⟩ = some (.string u2') := by rw [cell_of_row w5 B12 3 _ _ _ g12]; rfl
  clear hb5 hsW hsW4 hB8' hB12' g8 g12 r8 r12 hw5 hsame
  go_wp2_with fail
  refine HSAME.out.mono ?_
  rintro e w6 ⟨rfl, hb6⟩
  have hle : (strOfNums em).size ≤ (strOfNums t).size := by rw [HTS.out, HES.out]; exact hlen
  have hti : tight 0 (bytesL (strOfNums em)) = true := by rw [bytesL_str HG.out.by2]; exact HG.out.tight
  have HTI := Lib.hid hti
  have hW6 : Below w.heap.size w w6 := HW5.out.trans (hb6.mono HW5.out.size)
  have hz6 := hb6.size
  have hsW := HSW.out
  have hsW4 := HSW4.out
  have hB8' := HB8.out
  have hB12' := HB12.out
  have g8 := (hb6.block B8 (by omega)).trans HG8.out
  have g12 := (hb6.block B12 (by omega)).trans HG12.out
  have r8 : Rows 5 w6 (InW w1.heap.size w2) (.slice ao nn cc) (tr 5 v).ks := HR8.out.frame (fun b hb => hb6.block b (by have := hb.2; omega))
  have r12 : Rows 5 w6 (InW w3.heap.size w4) (.slice ao' nn' cc') (tr 5 v').ks := HR12.out.frame (fun b hb => hb6.block b (by have := hb.2; omega))
  have HW6 := Lib.hid hW6
  have HR86 := Lib.hid r8
  have HR126 := Lib.hid r12
  have i8 : ((strOfNums em).size : Int) ≤ ((strOfNums t).size : Int) := by omega
  have HK8 : RowKit.Hid (∀ k, InW w1.heap.size w2 k → k < w6.heap.size) := Lib.hid (fun k hk => by have := hk.2; omega)
  have HK12 : RowKit.Hid (∀ k, InW w3.heap.size w4 k → k < w6.heap.size) := Lib.hid (fun k hk => by have := hk.2; omega)
  clear c80 c81 c82 c83 d80 d81 d82 d83 hb6 hti hW6 r8 r12
  have c80 : w6.cell? ⟨B8, 0, none⟩ = some (.int .u8 k1') := by rw [cell_of_row w6 B8 0 _ _ _ g8]; rfl
  have c81 : w6.cell? ⟨B8, 1, none⟩ = some (.string t1') := by rw [cell_of_row w6 B8 1 _ _ _ g8]; rfl
  have c82 : w6.cell? ⟨B8, 2, none⟩ = some (.slice ao nn cc) := by rw [cell_of_row w6 B8 2 _ _ _ g8]; rfl
  have c83 : w6.cell? ⟨B8, 3, none⟩ = some (.string u1') := by rw [cell_of_row w6 B8 3 _ _ _ g8]; rfl
  have d80 : w6.cell? ⟨B12, 0, none⟩ = some (.int .u8 k2') := by rw [cell_of_row w6 B12 0 _ _ _ g12]; rfl
  have d81 : w6.cell? ⟨B12, 1, none⟩ = some (.string t2') := by rw [cell_of_row w6 B12 1 _ _ _ g12]; rfl
  have d82 : w6.cell? ⟨B12, 2, none⟩ = some (.slice ao' nn' cc') := by rw [cell_of_row w6 B12 2 _ _ _ g12]; rfl
  have d83 : w6.cell? ⟨B12, 3, none⟩ = some (.string u2') := by rw [cell_of_row w6 B12 3 _ _ _ g12]; rfl
  clear g8 g12 hB8' hB12'
  cases keep with
  | false =>
    go_wp2_with fail
    refine (Tight_at (strOfNums em) w6 (by rw [HES.out]; omega)).mono ?_
    rintro e w7 ⟨rfl, rfl⟩
    rw [HTI.out]
    go_wp2_with fail
    go_ret
    exact ⟨rfl, HW6.out⟩
  | true =>
    have hwr := Written_at 5 (tr 5 v) (tr 5 v') _ _ _ _ w6 HR86.out HR126.out HK8.out HK12.out (HG.out.wr rfl)
    unfold agg at hwr
    rw [HK1.out, HT1.out, HU1.out, HK2.out, HT2.out, HU2.out] at hwr
    have HWR := Lib.hid hwr
    clear hwr hsW hsW4
    go_wp2_with fail
    refine HWR.out.mono ?_
    rintro e w7 ⟨rfl, hb7⟩
    have HB7 := Lib.hid hb7
    have hz7 := hb7.size
    clear hb7
    go_wp2_with fail
    refine (Tight_at (strOfNums em) w7 (by rw [HES.out]; omega)).mono ?_
    rintro e w8 ⟨rfl, rfl⟩
    rw [HTI.out]
    go_wp2_with fail
    go_ret
    exact ⟨rfl, HW6.out.trans (HB7.out.mono HW6.out.size)⟩

end Go.Proofs.YthoekplablhgfaaGreatDoor
