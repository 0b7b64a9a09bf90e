/-
  The contracts of spec.encoded and of the readers strings.
-/
import Derived.Test.YthoekplablhgfaaGreatDoorMRead
import Derived.Test.YthoekplablhgfaaGreatDoorMValue
import Derived.Deep.QuietTactic
import Derived.IntWalk
import Derived.BigQuiet

/- JEnc -/
namespace Go.Proofs.YthoekplablhgfaaGreatDoor
open Go.RowKit
set_option linter.unusedVariables false

set_option maxRecDepth 100000 in
set_option maxHeartbeats 1600000 in
theorem encoded_one (c : Int) (w : World) (h : 0 ≤ c ∧ c < 128) :
    Calls Tryz.prog 44 #[.int .i64 c] w fun e w' => e = .returned (.string (strOfNums [c])) ∧ Below w.heap.size w w' := by
  have hcv := conv_one w c
  obtain ⟨h0, h1⟩ := h
  have hbw : Below w.heap.size w (w.alloc (.cells #[.int .u8 c] 5)) := (Below.refl _ _).alloc (Nat.le_refl _) _
  have HB := Lib.hid hbw
  clear hbw
  go_enter Tryz.func44, Tryz.ntmps44
  go_wp2_with fail
  go_ret
  exact ⟨rfl, HB.out⟩

theorem conv_four (w : World) : (convert 44 9 (.slice (some ⟨w.heap.size, 0, none⟩) 4 4)).run Tryz.prog (w.alloc (.cells #[.int .u8 240, .int .u8 159, .int .u8 152, .int .u8 128] 5)) = .ok (.string (strOfNums [240, 159, 152, 128])) (w.alloc (.cells #[.int .u8 240, .int .u8 159, .int .u8 152, .int .u8 128] 5)) :=
  run_convert_bytes_arg (P := Tryz.prog) (w := w.alloc (.cells #[.int .u8 240, .int .u8 159, .int .u8 152, .int .u8 128] 5)) 44 5 Tryz.underlying44 Tryz.underlying5 w.heap.size 0 4 4 [240, 159, 152, 128] rfl (fun i hi => by
    have hc : i = 0 ∨ i = 1 ∨ i = 2 ∨ i = 3 := by omega
    rcases hc with rfl | rfl | rfl | rfl <;> (rw [cell_of_row _ _ _ _ _ _ (heap_alloc_new w _)]; rfl)) 9 Tryz.underlying9

set_option maxRecDepth 100000 in
set_option maxHeartbeats 1600000 in
theorem encoded_pair (w : World) :
    Calls Tryz.prog 44 #[.int .i64 128512] w fun e w' => e = .returned (.string (strOfNums [240, 159, 152, 128])) ∧ Below w.heap.size w w' := by
  have hcv := conv_four w
  have hbw : Below w.heap.size w (w.alloc (.cells #[.int .u8 240, .int .u8 159, .int .u8 152, .int .u8 128] 5)) := (Below.refl _ _).alloc (Nat.le_refl _) _
  have HB := Lib.hid hbw
  clear hbw
  have b0 : bits .or .i64 240 0 = 240 := by kernel_rfl
  have b1 : bits .and .i64 31 63 = 31 := by kernel_rfl
  have b2 : bits .or .i64 128 31 = 159 := by kernel_rfl
  have b3 : bits .and .i64 2008 63 = 24 := by kernel_rfl
  have b4 : bits .or .i64 128 24 = 152 := by kernel_rfl
  have b5 : bits .and .i64 128512 63 = 0 := by kernel_rfl
  have b6 : bits .or .i64 128 0 = 128 := by kernel_rfl
  go_enter Tryz.func44, Tryz.ntmps44
  go_wp2_with fail
  go_ret
  exact ⟨rfl, HB.out⟩

end Go.Proofs.YthoekplablhgfaaGreatDoor

/- JRText -/
namespace Go.Proofs.YthoekplablhgfaaGreatDoor
open Go.RowKit
set_option linter.unusedVariables false

/-- One more unit of the string is taken. -/
theorem text_step {us a b : List JU} {u : JU} {p q n : Nat} (h : us = a ++ u :: b) (hq : q = p + 1 + (flat a).length) (hn : u.txt.length = n) : us = (a ++ [u]) ++ b ∧ q + n = p + 1 + (flat (a ++ [u])).length ∧ strOfNums (means (a ++ [u])) = strOfNums (means a) ++ strOfNums u.mean := by
  refine ⟨by rw [h]; simp, ?_, by rw [means_append, str_append]; unfold means; simp⟩
  rw [flat_append, List.length_append, hq]
  have : (flat [u]).length = n := by unfold flat; simpa using hn
  omega
theorem grownBy_some {w w' : World} {g : Nat} (h : w.grownBy w' none) : w.grownBy w' (some g) := ⟨h.os, h.tape, h.output, h.size, fun k hk _ => h.block k hk (by simp)⟩
theorem Rd.alloc {w : World} {g p d : Nat} {s : ByteArray} (h : Rd w g s p d) (o : Obj) : Rd (w.alloc o) g s p d := h.keep (heap_alloc_old w o h.lt)
theorem LiesAt.four {s : ByteArray} {p : Nat} {a b c d : Int} {l : List Int} (h : LiesAt s p (a :: b :: c :: d :: l)) (ha : hexC a) (hb : hexC b) (hc : hexC c) (hd : hexC d) :
    p + 4 ≤ s.size ∧ (∀ i, i < 4 → hexC (byteAt s (p + i))) ∧ hexN s p 4 = ((hexV a * 16 + hexV b) * 16 + hexV c) * 16 + hexV d ∧ LiesAt s (p + 4) l := by
  have h1 := h.tail
  have h2 := h1.tail
  have h3 := h2.tail
  have h4 := h3.tail
  obtain ⟨q1, e1⟩ := h.head
  obtain ⟨q2, e2⟩ := h1.head
  obtain ⟨q3, e3⟩ := h2.head
  obtain ⟨q4, e4⟩ := h3.head
  refine ⟨by omega, fun i hi => ?_, ?_, h4⟩
  · have hx : i = 0 ∨ i = 1 ∨ i = 2 ∨ i = 3 := by omega
    rcases hx with rfl | rfl | rfl | rfl
    · rw [Nat.add_zero, e1]; exact ha
    · rw [e2]; exact hb
    · rw [show p + 2 = p + 1 + 1 from rfl, e3]; exact hc
    · rw [show p + 3 = p + 1 + 1 + 1 from rfl, e4]; exact hd
  · simp only [hexN]
    rw [Nat.add_zero, e1, e2, show p + 2 = p + 1 + 1 from rfl, e3, show p + 3 = p + 1 + 1 + 1 from rfl, e4]
    omega
theorem hexV_low {c : Int} (h : hexC c) (h1 : c ≤ 55) : 0 ≤ hexV c ∧ hexV c ≤ 7 := by
  unfold hexV
  rcases h with h | h
  · rw [if_pos (by omega)]; omega
  · omega
theorem grownBy_below {w w' : World} {g : Nat} (h : Below w.heap.size w w') : w.grownBy w' (some g) := ⟨h.os, h.tape, h.output, h.size, fun k hk _ => h.block k hk⟩
theorem grownBy_drewN {w w' : World} {n : Nat} {r : Option Nat} (h : (w.drewN n).grownBy w' r) : w.grownBy w' r := ⟨h.os, h.tape, h.output, h.size, h.block⟩
theorem grownBy_at (w : World) (g q : Nat) : w.grownBy (w.setCell ⟨g, 1, none⟩ (.int .i64 (q : Nat))) (some g) := grownBy_set _ _ _ _
theorem text_meas {wr : World} {g q d : Nat} {s : ByteArray} (h : Rd wr g s q d) : ∀ W q', Rd W g s q' d → q < q' → q' ≤ s.size → s.size - rdAt W g < s.size - rdAt wr g := fun W q' hW h1 h2 => by rw [hW.rdAt, h.rdAt]; omega

set_option maxRecDepth 100000 in
set_option maxHeartbeats 3200000 in
theorem text_at (g p d : Nat) (s : ByteArray) (us : List JU) (w : World) (h : Rd w g s p d) (hs : s.size ≤ 1000000) (hl : LiesAt s (p + 1) (flat us ++ [34])) (hu : ∀ u ∈ us, u.ok) :
    Calls Tryz.prog 28 #[.pointer (some ⟨g, 0, none⟩)] w fun e w' => e = .returned (.tuple #[.string (strOfNums (means us)), .bool true]) ∧ Rd w' g s (p + 2 + (flat us).length) d ∧ w.grownBy w' (some g) := by
  have k1 := h.c1
  have kf := h.fz 1
  have hl1 := hl.1
  rw [List.length_append, List.length_singleton] at hl1
  have H := Lib.hid h
  have HL := Lib.hid hl
  have HU := Lib.hid hu
  clear h hl hu
  go_enter Tryz.func28, Tryz.ntmps28
  go_wp2_with fail
  go_loopw [4] (fun v4 wr => ∃ (a b : List JU) (q : Nat), v4 = .string (strOfNums (means a)) ∧ RowKit.Hid (us = a ++ b) ∧ RowKit.Hid (q = p + 1 + (flat a).length) ∧ q ≤ s.size ∧ RowKit.Hid (Rd wr g s q d) ∧ RowKit.Hid (w.grownBy wr (some g))) (fun _ wr => s.size - rdAt wr g)
  case atStart => exact ⟨[], us, p + 1, rfl, Lib.hid rfl, Lib.hid rfl, by omega, Lib.hid (H.out.at_ (p + 1)), Lib.hid (grownBy_set _ g 1 _)⟩
  case round =>
    clear k1 kf
    obtain ⟨a, b, q, rfl, HAB, HQ, hq, HR, HG⟩ := hrel
    have k0 := HR.out.c0
    have k1 := HR.out.c1
    have kf := HR.out.fz 1
    have hla : LiesAt s q (flat b ++ [34]) := by
      have h1 := HL.out
      rw [HAB.out, flat_append, List.append_assoc] at h1
      rw [HQ.out]
      exact h1.drop
    have hsz : (strOfNums (means a)).size ≤ 1000000 := by
      have h1 := means_len a
      have h2 := HQ.out
      rw [str_size]
      omega
    cases b with
    | nil =>
      obtain ⟨hq2, hc⟩ := LiesAt.head (show LiesAt s q (34 :: []) from hla)
      have hcc := byteAt_get s q hq2
      rw [hc] at hcc
      clear hc hla
      go_wp2_with fail
      go_region
      go_wp2_with fail
      go_region
      go_wp2_with fail
      go_ret2
      have h2 := HAB.out
      rw [List.append_nil] at h2
      subst h2
      refine ⟨rfl, ?_, ?_⟩
      · rw [show p + 2 + (flat us).length = q + 1 from by rw [HQ.out]; omega]
        exact HR.out.at_ (q + 1)
      · exact grownBy_trans HG.out ⟨rfl, rfl, rfl, by simp [World.setCell], fun k _ hk => Below.heap_setCell _ _ _ _ (fun e => hk (by rw [e]))⟩
    | cons u b =>
      have hok := HU.out u (by rw [HAB.out]; simp)
      cases u with
      | raw c =>
        as_aux_lemma =>
          obtain ⟨o1, o2, o3, o4⟩ := hok
          obtain ⟨hq2, hc⟩ := LiesAt.head (show LiesAt s q (c :: (flat b ++ [34])) from hla)
          have hcc := byteAt_get s q hq2
          rw [hc] at hcc
          have hx := extract_byte hq2
          rw [hc] at hx
          have e1 : (c == 34) = false := by simpa using o3
          have e2 : ¬ c < 32 := by omega
          have e3 : (c != 92) = true := by simpa using o4
          have hs1 : (strOfNums [c]).size ≤ 1 := by rw [str_size]; simp
          clear hc hla o3 o4
          go_wp2_with fail
          go_region
          go_wp2_with fail
          go_region
          go_wp2_with fail
          go_region
          go_wp2_with fail
          go_roundw
          case rel =>
            have hf : (flat [JU.raw c]).length = 1 := rfl
            have hq9 : q + 1 = p + 1 + (flat (a ++ [JU.raw c])).length := by
              rw [flat_append, List.length_append, hf, HQ.out]
              omega
            refine ⟨a ++ [.raw c], b, q + 1, by rw [means_append, str_append]; rfl, Lib.hid (by rw [HAB.out]; simp), Lib.hid hq9, by omega, Lib.hid (HR.out.at_ (q + 1)), Lib.hid (grownBy_trans HG.out ⟨rfl, rfl, rfl, by simp [World.setCell], fun k _ hk => Below.heap_setCell _ _ _ _ (fun e => hk (by rw [e]))⟩)⟩
          case measure =>
            have e0 := HR.out.rdAt
            have key : ∀ W, Rd W g s (q + 1) d → s.size - rdAt W g < s.size - rdAt wr g := fun W hW => by rw [hW.rdAt, e0]; omega
            exact key _ (HR.out.at_ (q + 1))
      | esc e m =>
        as_aux_lemma =>
          obtain ⟨hq2, hc⟩ := LiesAt.head (show LiesAt s q (92 :: (e :: (flat b ++ [34]))) from hla)
          obtain ⟨hq3, hy⟩ := LiesAt.head (LiesAt.tail (show LiesAt s q (92 :: (e :: (flat b ++ [34]))) from hla))
          have hcc := byteAt_get s q hq2
          rw [hc] at hcc
          obtain ⟨t1, t2, t3⟩ := text_step HAB.out HQ.out (show (JU.esc e m).txt.length = 2 from rfl)
          have T1 := Lib.hid t1
          have T2 := Lib.hid t2
          have T3 := Lib.hid t3
          clear hc hla t1 t2 t3
          go_wp2_with fail
          go_region
          go_wp2_with fail
          go_region
          go_wp2_with fail
          refine (peek_at g (q + 1) d s _ ?_ hs).mono ?_
          · exact HR.out.at_ (q + 1)
          rintro e w1 ⟨rfl, hg1⟩
          rw [hy]
          have hr1 : Rd w1 g s (q + 1) d := (HR.out.at_ (q + 1)).keep (hg1.block g (HR.out.at_ (q + 1)).lt (by simp))
          have HG1 := Lib.hid (grownBy_trans HG.out (grownBy_trans (grownBy_at wr g (q + 1)) (grownBy_drew (grownBy_drew (grownBy_some hg1)))))
          have k10 := hr1.c0
          have k11 := hr1.c1
          have kf1 := hr1.fz 1
          have HR1 := Lib.hid hr1
          clear hr1 hg1 k1 kf k0 hy
          simp only [JU.ok, escL, List.mem_cons, Prod.mk.injEq, List.not_mem_nil, or_false] at hok
          rcases hok with ⟨rfl, rfl⟩ | ⟨rfl, rfl⟩ | ⟨rfl, rfl⟩ | ⟨rfl, rfl⟩ | ⟨rfl, rfl⟩ | ⟨rfl, rfl⟩ | ⟨rfl, rfl⟩ | ⟨rfl, rfl⟩
          · have hcv := conv_one (w1.setCell ⟨g, 1, none⟩ (.int .i64 ((q : Int) + 1 + 1))) 34
            rw [World.size_setCell] at hcv
            have hs1 : (strOfNums [34]).size ≤ 1 := by rw [str_size]; simp
            go_wp2_with fail
            go_roundw
            case rel => exact ⟨a ++ [.esc 34 34], b, q + 2, by rw [T3.out]; rfl, T1, T2, by omega, Lib.hid ((HR1.out.at_ (q + 2)).alloc _), Lib.hid (grownBy_trans HG1.out (grownBy_trans (grownBy_at w1 g (q + 2)) (World.grownBy_alloc _ _ _)))⟩
            case measure => exact text_meas HR.out _ (q + 2) ((HR1.out.at_ (q + 2)).alloc _) (by omega) (by omega)
          · have hcv := conv_one (w1.setCell ⟨g, 1, none⟩ (.int .i64 ((q : Int) + 1 + 1))) 92
            rw [World.size_setCell] at hcv
            have hs1 : (strOfNums [92]).size ≤ 1 := by rw [str_size]; simp
            go_wp2_with fail
            go_roundw
            case rel => exact ⟨a ++ [.esc 92 92], b, q + 2, by rw [T3.out]; rfl, T1, T2, by omega, Lib.hid ((HR1.out.at_ (q + 2)).alloc _), Lib.hid (grownBy_trans HG1.out (grownBy_trans (grownBy_at w1 g (q + 2)) (World.grownBy_alloc _ _ _)))⟩
            case measure => exact text_meas HR.out _ (q + 2) ((HR1.out.at_ (q + 2)).alloc _) (by omega) (by omega)
          · have hcv := conv_one (w1.setCell ⟨g, 1, none⟩ (.int .i64 ((q : Int) + 1 + 1))) 47
            rw [World.size_setCell] at hcv
            have hs1 : (strOfNums [47]).size ≤ 1 := by rw [str_size]; simp
            go_wp2_with fail
            go_roundw
            case rel => exact ⟨a ++ [.esc 47 47], b, q + 2, by rw [T3.out]; rfl, T1, T2, by omega, Lib.hid ((HR1.out.at_ (q + 2)).alloc _), Lib.hid (grownBy_trans HG1.out (grownBy_trans (grownBy_at w1 g (q + 2)) (World.grownBy_alloc _ _ _)))⟩
            case measure => exact text_meas HR.out _ (q + 2) ((HR1.out.at_ (q + 2)).alloc _) (by omega) (by omega)
          · have hs1 : (⟨#[8]⟩ : ByteArray).size = 1 := rfl
            go_wp2_with fail
            go_roundw
            case rel => exact ⟨a ++ [.esc 98 8], b, q + 2, by rw [T3.out]; rfl, T1, T2, by omega, Lib.hid ((HR1.out.at_ (q + 2))), Lib.hid (grownBy_trans HG1.out (grownBy_at w1 g (q + 2)))⟩
            case measure => exact text_meas HR.out _ (q + 2) ((HR1.out.at_ (q + 2))) (by omega) (by omega)
          · have hs1 : (⟨#[12]⟩ : ByteArray).size = 1 := rfl
            go_wp2_with fail
            go_roundw
            case rel => exact ⟨a ++ [.esc 102 12], b, q + 2, by rw [T3.out]; rfl, T1, T2, by omega, Lib.hid ((HR1.out.at_ (q + 2))), Lib.hid (grownBy_trans HG1.out (grownBy_at w1 g (q + 2)))⟩
            case measure => exact text_meas HR.out _ (q + 2) ((HR1.out.at_ (q + 2))) (by omega) (by omega)
          · have hs1 : (⟨#[10]⟩ : ByteArray).size = 1 := rfl
            go_wp2_with fail
            go_roundw
            case rel => exact ⟨a ++ [.esc 110 10], b, q + 2, by rw [T3.out]; rfl, T1, T2, by omega, Lib.hid ((HR1.out.at_ (q + 2))), Lib.hid (grownBy_trans HG1.out (grownBy_at w1 g (q + 2)))⟩
            case measure => exact text_meas HR.out _ (q + 2) ((HR1.out.at_ (q + 2))) (by omega) (by omega)
          · have hs1 : (⟨#[13]⟩ : ByteArray).size = 1 := rfl
            go_wp2_with fail
            go_roundw
            case rel => exact ⟨a ++ [.esc 114 13], b, q + 2, by rw [T3.out]; rfl, T1, T2, by omega, Lib.hid ((HR1.out.at_ (q + 2))), Lib.hid (grownBy_trans HG1.out (grownBy_at w1 g (q + 2)))⟩
            case measure => exact text_meas HR.out _ (q + 2) ((HR1.out.at_ (q + 2))) (by omega) (by omega)
          · have hs1 : (⟨#[9]⟩ : ByteArray).size = 1 := rfl
            go_wp2_with fail
            go_roundw
            case rel => exact ⟨a ++ [.esc 116 9], b, q + 2, by rw [T3.out]; rfl, T1, T2, by omega, Lib.hid ((HR1.out.at_ (q + 2))), Lib.hid (grownBy_trans HG1.out (grownBy_at w1 g (q + 2)))⟩
            case measure => exact text_meas HR.out _ (q + 2) ((HR1.out.at_ (q + 2))) (by omega) (by omega)
      | hex4 c1 c2 c3 c4 =>
        as_aux_lemma =>
          obtain ⟨x1, x2, x3, x4, rfl, rfl, hc3⟩ := hok
          have hla1 := LiesAt.tail (show LiesAt s q (92 :: (117 :: 48 :: 48 :: c3 :: c4 :: (flat b ++ [34]))) from hla)
          obtain ⟨hq2, hc⟩ := LiesAt.head (show LiesAt s q (92 :: (117 :: 48 :: 48 :: c3 :: c4 :: (flat b ++ [34]))) from hla)
          obtain ⟨hq3, hy⟩ := LiesAt.head hla1
          obtain ⟨hq4, hx4, hn4, _⟩ := LiesAt.four hla1.tail x1 x2 x3 x4
          have hv3 := hexV_low x3 hc3
          have hv4 := hexV_bound x4
          have hcc := byteAt_get s q hq2
          rw [hc] at hcc
          obtain ⟨t1, t2, t3⟩ := text_step HAB.out HQ.out (show (JU.hex4 48 48 c3 c4).txt.length = 6 from rfl)
          obtain ⟨n, hn⟩ : ∃ n, ((hexV 48 * 16 + hexV 48) * 16 + hexV c3) * 16 + hexV c4 = n := ⟨_, rfl⟩
          have h48 : hexV 48 = 0 := by decide
          rw [hn] at hn4
          have hnb : 0 ≤ n ∧ n < 128 := by rw [h48] at hn; omega
          obtain ⟨hn0, hn1⟩ := hnb
          have T1 := Lib.hid t1
          have T2 := Lib.hid t2
          have T3 := Lib.hid t3
          have HX4 := Lib.hid hx4
          have HN4 := Lib.hid hn4
          have HN := Lib.hid hn
          clear hc hla hla1 t1 t2 t3 x1 x2 x3 x4 hv3 hv4 hc3 hx4 hn4 hn h48
          go_wp2_with fail
          go_region
          go_wp2_with fail
          go_region
          go_wp2_with fail
          refine (peek_at g (q + 1) d s _ ?_ hs).mono ?_
          · exact HR.out.at_ (q + 1)
          rintro e w1 ⟨rfl, hg1⟩
          rw [hy]
          have hr1 : Rd w1 g s (q + 1) d := (HR.out.at_ (q + 1)).keep (hg1.block g (HR.out.at_ (q + 1)).lt (by simp))
          have HG1 := Lib.hid (grownBy_trans HG.out (grownBy_trans (grownBy_at wr g (q + 1)) (grownBy_drew (grownBy_drew (grownBy_some hg1)))))
          have k10 := hr1.c0
          have k11 := hr1.c1
          have kf1 := hr1.fz 1
          have HR1 := Lib.hid hr1
          clear hr1 hg1 k1 kf k0 hy
          go_wp2_with fail
          refine (four_at g (q + 1 + 1) d s _ (HR1.out.at_ (q + 2)) hs (by omega) HX4.out).mono ?_
          rintro e w2 ⟨rfl, hr2, hg2⟩
          rw [HN4.out]
          have HG2 := Lib.hid (grownBy_trans HG1.out (grownBy_trans (grownBy_at w1 g (q + 2)) hg2))
          have HR2 := Lib.hid hr2
          clear hr2 hg2 k10 k11 kf1 HR1 HG1
          have f1 : decide (55296 ≤ n) = false := decide_eq_false (by omega)
          go_wp2_with fail
          go_quiet (fail)
          go_wp2_with fail
          refine (encoded_one n _ ⟨hn0, hn1⟩).mono ?_
          rintro e w3 ⟨rfl, hb3⟩
          have HG3 := Lib.hid (grownBy_trans HG2.out (grownBy_drewN (grownBy_below hb3)))
          have HR3 := Lib.hid (HR2.out.keep (hb3.block g HR2.out.lt))
          clear hb3 HR2 HG2
          have hs1 : (strOfNums [n]).size ≤ 1 := by rw [str_size]; simp
          go_wp2_with fail
          go_roundw
          case rel => exact ⟨a ++ [.hex4 48 48 c3 c4], b, q + 6, by rw [T3.out, ← HN.out]; rfl, T1, T2, by omega, Lib.hid HR3.out, HG3⟩
          case measure => exact text_meas HR.out _ (q + 6) HR3.out (by omega) (by omega)
      | pair =>
        as_aux_lemma =>
          have hla0 := (show LiesAt s q (92 :: 117 :: 100 :: 56 :: 51 :: 100 :: 92 :: 117 :: 100 :: 101 :: 48 :: 48 :: (flat b ++ [34])) from hla)
          have hla1 := hla0.tail
          obtain ⟨hq2, hc⟩ := hla0.head
          obtain ⟨hq3, hy⟩ := hla1.head
          obtain ⟨hq4, hx4, hn4, hla6⟩ := LiesAt.four hla1.tail (by unfold hexC; omega) (by unfold hexC; omega) (by unfold hexC; omega) (by unfold hexC; omega)
          obtain ⟨r, hr⟩ : ∃ r, q + 1 + 1 + 4 = r := ⟨_, rfl⟩
          rw [hr] at hla6
          have hla7 := hla6.tail
          obtain ⟨hq6, hc6⟩ := hla6.head
          obtain ⟨hq7, hc7⟩ := hla7.head
          obtain ⟨hq8, hx8, hn8, _⟩ := LiesAt.four hla7.tail (by unfold hexC; omega) (by unfold hexC; omega) (by unfold hexC; omega) (by unfold hexC; omega)
          have e4 : ((hexV 100 * 16 + hexV 56) * 16 + hexV 51) * 16 + hexV 100 = 55357 := by decide
          have e8 : ((hexV 100 * 16 + hexV 101) * 16 + hexV 48) * 16 + hexV 48 = 56832 := by decide
          rw [e4] at hn4
          rw [e8] at hn8
          have hcc := byteAt_get s q hq2
          rw [hc] at hcc
          have hcc6 := byteAt_get s r hq6
          rw [hc6] at hcc6
          have hcc7 := byteAt_get s (r + 1) hq7
          rw [hc7] at hcc7
          obtain ⟨t1, t2, t3⟩ := text_step HAB.out HQ.out (show (JU.pair).txt.length = 12 from rfl)
          have T1 := Lib.hid t1
          have T2 := Lib.hid t2
          have T3 := Lib.hid t3
          have HX4 := Lib.hid hx4
          have HN4 := Lib.hid hn4
          have HX8 := Lib.hid hx8
          have HN8 := Lib.hid hn8
          have HRD := Lib.hid hr
          have hrlt : r + 6 ≤ s.size := by omega
          have hqr : q < r := by omega
          clear hc hla hla0 hla1 hla6 hla7 t1 t2 t3 hx4 hn4 hx8 hn8 e4 e8 hc6 hc7 hr
          go_wp2_with fail
          go_region
          go_wp2_with fail
          go_region
          go_wp2_with fail
          refine (peek_at g (q + 1) d s _ ?_ hs).mono ?_
          · exact HR.out.at_ (q + 1)
          rintro e w1 ⟨rfl, hg1⟩
          rw [hy]
          have hr1 : Rd w1 g s (q + 1) d := (HR.out.at_ (q + 1)).keep (hg1.block g (HR.out.at_ (q + 1)).lt (by simp))
          have HG1 := Lib.hid (grownBy_trans HG.out (grownBy_trans (grownBy_at wr g (q + 1)) (grownBy_drew (grownBy_drew (grownBy_some hg1)))))
          have k10 := hr1.c0
          have k11 := hr1.c1
          have kf1 := hr1.fz 1
          have HR1 := Lib.hid hr1
          clear hr1 hg1 k1 kf k0 hy
          go_wp2_with fail
          refine (four_at g (q + 1 + 1) d s _ (HR1.out.at_ (q + 2)) hs (by omega) HX4.out).mono ?_
          rintro e w2 ⟨rfl, hr2, hg2⟩
          rw [HN4.out]
          rw [HRD.out] at hr2
          have HG2 := Lib.hid (grownBy_trans HG1.out (grownBy_trans (grownBy_at w1 g (q + 2)) hg2))
          have k20 := hr2.c0
          have k21 := hr2.c1
          have kf2 := hr2.fz 1
          have HR2 := Lib.hid hr2
          clear hr2 hg2 k10 k11 kf1 HR1 HG1
          go_wp2_with fail
          have i1 : (r : Int) < (s.size : Int) := by omega
          have i2 : (r : Int) + 1 < (s.size : Int) := by omega
          have i3 : IntKind.i64.wrap ((r : Int) + 1) = (r : Int) + 1 := IntWalk.i64_in _ (by omega)
          have i4 : (0 : Int) ≤ (r : Int) + 1 := by omega
          have i5 : ((r : Int) + 1).toNat = r + 1 := by omega
          go_quiet (fail)
          clear i1 i2 i3 i4 i5
          go_wp2_with fail
          refine (four_at g (r + 2) d s _ ((show Rd (w2.drewN nq) g s r d from HR2.out.keep rfl).at_ (r + 2)) hs (by omega) HX8.out).mono ?_
          rintro e w3 ⟨rfl, hr3, hg3⟩
          rw [HN8.out]
          have HG3 := Lib.hid (grownBy_trans HG2.out (grownBy_drewN (grownBy_trans (grownBy_at (w2.drewN nq) g (r + 2)) hg3)))
          have HR3 := Lib.hid hr3
          clear hr3 hg3 k20 k21 kf2 HR2 HG2
          go_wp2_with fail
          refine (encoded_pair _).mono ?_
          rintro e w4 ⟨rfl, hb4⟩
          have HG4 := Lib.hid (grownBy_trans HG3.out (grownBy_below hb4))
          have HR4 := Lib.hid (HR3.out.keep (hb4.block g HR3.out.lt))
          clear hb4 HR3 HG3
          have hs1 : (strOfNums [240, 159, 152, 128]).size = 4 := rfl
          have hr9 := HRD.out
          go_wp2_with fail
          go_roundw
          case rel => exact ⟨a ++ [.pair], b, q + 12, by rw [T3.out]; rfl, T1, T2, by omega, Lib.hid (by rw [show q + 12 = r + 2 + 4 from by omega]; exact HR4.out), HG4⟩
          case measure => exact text_meas HR.out _ (r + 2 + 4) HR4.out (by omega) (by omega)

end Go.Proofs.YthoekplablhgfaaGreatDoor
