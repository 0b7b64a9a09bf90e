/-
  The contract of the readers numbers, and the trees that it makes.
-/
import Derived.Test.YthoekplablhgfaaGreatDoorMRead
import Derived.Test.YthoekplablhgfaaGreatDoorMValue
import Derived.Deep.QuietTactic
import Derived.IntWalk
import Derived.BigQuiet
import Derived.Laws.ResultCell
import Derived.Laws.Rows
import Derived.ArgAppend
import Derived.Laws.AppendOwn

/- JRNum -/
namespace Go.Proofs.YthoekplablhgfaaGreatDoor
open Go.RowKit
set_option linter.unusedVariables false

theorem grownBy_none {w w' : World} {g : Nat} (h : w.grownBy w' none) : w.grownBy w' (some g) := ⟨h.os, h.tape, h.output, h.size, fun k hk _ => h.block k hk (by simp)⟩

set_option maxRecDepth 100000 in
set_option maxHeartbeats 1600000 in
/-- The closure that goes behind digits. -/
theorem digits_at (g b p n d : Nat) (s : ByteArray) (w : World) (h : Rd w g s p d) (hb : w.heap[b]? = some (.cells #[.pointer (some ⟨g, 0, none⟩)] 40 (0, 0))) (hs : s.size ≤ 1000000) (hd : ∀ k, k < n → 48 ≤ byteAt s (p + k) ∧ byteAt s (p + k) ≤ 57) (he : ¬ (48 ≤ byteAt s (p + n) ∧ byteAt s (p + n) ≤ 57)) (hn : p + n ≤ s.size) :
    Calls Tryz.prog 45 #[.pointer (some ⟨b, 0, none⟩)] w fun e w' => e = .returned (.int .i64 (n : Nat)) ∧ Rd w' g s (p + n) d ∧ w.grownBy w' (some g) := by
  have hgb : g ≠ b := by
    rintro rfl
    rw [show w.heap[g]? = _ from h] at hb
    simp at hb
  have hblt : b < w.heap.size := (Array.getElem?_eq_some_iff.1 hb).1
  have H := Lib.hid h
  have HBB := Lib.hid hb
  have HD := Lib.hid hd
  have HE := Lib.hid he
  have HGB := Lib.hid hgb
  clear h hb hd he hgb
  go_enter Tryz.func45, Tryz.ntmps45
  go_wp2_with fail
  go_loopw [2] (fun v2 wr => ∃ k : Nat, k ≤ n ∧ v2 = .int .i64 (k : Nat) ∧ RowKit.Hid (Rd wr g s (p + k) d) ∧ RowKit.Hid (w.grownBy wr (some g))) (fun v2 _ => n - (intOf v2).toNat)
  case atStart => exact ⟨0, by omega, rfl, H, Lib.hid (grownBy_refl' _ _)⟩
  case round =>
    obtain ⟨k, hk, rfl, HR, HG⟩ := hrel
    have hbx : wr.heap[b]? = some (.cells #[.pointer (some ⟨g, 0, none⟩)] 40 (0, 0)) := (HG.out.block b hblt (fun e => HGB.out (by simpa using e.symm))).trans HBB.out
    have kb : wr.cell? ⟨b, 0, none⟩ = some (.pointer (some ⟨g, 0, none⟩)) := by rw [cell_of_row wr b 0 _ _ _ hbx]; rfl
    clear hbx
    obtain ⟨q, hq⟩ : ∃ q, p + k = q := ⟨_, rfl⟩
    have HQ := Lib.hid hq
    have hr := HR.out
    rw [hq] at hr
    have hqs : q ≤ s.size := by omega
    clear hq HR
    obtain ⟨c, hc⟩ : ∃ c, byteAt s q = c := ⟨_, rfl⟩
    have hcb : 0 ≤ c ∧ c ≤ 255 := by
      rw [← hc]
      by_cases h : q < s.size
      · rw [← byteAt_get s q h]
        have := (s[q]'h).toNat_lt
        omega
      · rw [byteAt_end s q h]; omega
    have HC := Lib.hid hc
    have HR := Lib.hid hr
    clear hr hc
    go_wp2_with fail
    refine (peek_at g q d s _ HR.out hs).mono ?_
    rintro e w1 ⟨rfl, hg1⟩
    rw [HC.out]
    have HR1 := Lib.hid (HR.out.keep (hg1.block g HR.out.lt (by simp)))
    have HG1 := Lib.hid (grownBy_trans HG.out (grownBy_none (g := g) hg1))
    have kb1 : w1.cell? ⟨b, 0, none⟩ = some (.pointer (some ⟨g, 0, none⟩)) := by
      rw [cell_of_row w1 b 0 _ _ _ ((HG1.out.block b hblt (fun e => HGB.out (by simpa using e.symm))).trans HBB.out)]; rfl
    clear hg1 kb HR HG
    obtain ⟨hc0, hc1⟩ := hcb
    have k1 := HR1.out.c1
    have kf := HR1.out.fz 1
    go_wp2_with fail
    refine (isDigit_at c _ ⟨hc0, hc1⟩).mono ?_
    rintro e w2 ⟨rfl, rfl⟩
    by_cases hlt : k < n
    · have e1 : decide (48 ≤ c ∧ c ≤ 57) = true := decide_eq_true (by rw [← HC.out, ← HQ.out]; exact HD.out k hlt)
      rw [e1]
      clear e1
      have hk2 : (k : Int) < 1000000 := by omega
      go_wp2_with fail
      go_roundw
      case rel => exact ⟨k + 1, by omega, by go_num, Lib.hid (by rw [show p + (k + 1) = q + 1 from by rw [← HQ.out]; omega]; exact HR1.out.at_ (q + 1)), Lib.hid (grownBy_trans HG1.out (grownBy_set _ g 1 _))⟩
      case measure => simp [intOf]; omega
    · obtain rfl : k = n := by omega
      have e1 : decide (48 ≤ c ∧ c ≤ 57) = false := decide_eq_false (by rw [← HC.out, ← HQ.out]; exact HE.out)
      rw [e1]
      clear e1
      go_wp2_with fail
      go_ret
      exact ⟨rfl, by rw [HQ.out]; exact HR1.out, HG1.out⟩


/-- Block b holds one JSON value. -/
def JB (w : World) (b : Nat) (k : Int) (t : ByteArray) (vi : Value) (u : ByteArray) : Prop :=
  w.heap[b]? = some (.cells #[.int .u8 k, .string t, vi, .string u] 27 (0, 0))
section
variable {w w' : World} {b : Nat} {k : Int} {t u : ByteArray} {vi : Value}
theorem JB.c0 (h : JB w b k t vi u) : w.cell? ⟨b, 0, none⟩ = some (.int .u8 k) := by rw [cell_of_row w b 0 _ _ _ h]; rfl
theorem JB.c1 (h : JB w b k t vi u) : w.cell? ⟨b, 1, none⟩ = some (.string t) := by rw [cell_of_row w b 1 _ _ _ h]; rfl
theorem JB.c2 (h : JB w b k t vi u) : w.cell? ⟨b, 2, none⟩ = some vi := by rw [cell_of_row w b 2 _ _ _ h]; rfl
theorem JB.c3 (h : JB w b k t vi u) : w.cell? ⟨b, 3, none⟩ = some (.string u) := by rw [cell_of_row w b 3 _ _ _ h]; rfl
theorem JB.fz (h : JB w b k t vi u) (i : Nat) : w.frozen? ⟨b, i, none⟩ = false := by simp [World.frozen?, show w.heap[b]? = _ from h]
theorem JB.keep (h : JB w b k t vi u) (hk : w'.heap[b]? = w.heap[b]?) : JB w' b k t vi u := hk.trans h
theorem JB.lt (h : JB w b k t vi u) : b < w.heap.size := (Array.getElem?_eq_some_iff.1 (show w.heap[b]? = _ from h)).1
theorem JB.set (h : JB w b k t vi u) (k' : Int) (t' u' : ByteArray) (vi' : Value) : JB ((((w.setCell ⟨b, 0, none⟩ (.int .u8 k')).setCell ⟨b, 1, none⟩ (.string t')).setCell ⟨b, 2, none⟩ vi').setCell ⟨b, 3, none⟩ (.string u')) b k' t' vi' u' := by
  have h1 : JB (w.setCell ⟨b, 0, none⟩ (.int .u8 k')) b k' t vi u := (heap_set (show w.heap[b]? = _ from h) _).trans rfl
  have h2 : JB ((w.setCell ⟨b, 0, none⟩ (.int .u8 k')).setCell ⟨b, 1, none⟩ (.string t')) b k' t' vi u := (heap_set (show _ = _ from h1) _).trans rfl
  have h3 : JB (((w.setCell ⟨b, 0, none⟩ (.int .u8 k')).setCell ⟨b, 1, none⟩ (.string t')).setCell ⟨b, 2, none⟩ vi') b k' t' vi' u := (heap_set (show _ = _ from h2) _).trans rfl
  exact (heap_set (show _ = _ from h3) _).trans rfl
theorem JB.new (w : World) : JB (w.alloc (.cells #[.int .u8 0, .string ⟨#[]⟩, .slice none 0 0, .string ⟨#[]⟩] 27)) w.heap.size 0 ⟨#[]⟩ (.slice none 0 0) ⟨#[]⟩ := heap_alloc_new w _
end
theorem results_jb {fn : Func} {p u : Tmp} (h : fn.results = #[.cell p 27, .tmp u]) {tmps : Array Value} {w : World} {b : Nat} {k : Int} {t sg : ByteArray} {vi : Value} (hp : tmps.getD p undef = .pointer (some ⟨b, 0, none⟩)) (hj : JB w b k t vi sg) :
    (results fn tmps).run Tryz.prog w = .ok (.tuple #[.agg #[.int .u8 k, .string t, vi, .string sg], tmps.getD u undef]) w := by
  rw [results_cell_tmp h, hp]
  have h1 := run_loadVar_row (P := Tryz.prog) w b 27 27 _ (0, 0) _ (show w.heap[b]? = _ from hj) Tryz.underlying27 rfl (by kernel_rfl)
  simp [asAddr, Result.andThen, h1]
theorem set4_other (w : World) (b : Nat) (v0 v1 v2 v3 : Value) (g : Nat) (h : g ≠ b) : ((((w.setCell ⟨b, 0, none⟩ v0).setCell ⟨b, 1, none⟩ v1).setCell ⟨b, 2, none⟩ v2).setCell ⟨b, 3, none⟩ v3).heap[g]? = w.heap[g]? := by
  rw [Below.heap_setCell _ _ _ _ h, Below.heap_setCell _ _ _ _ h, Below.heap_setCell _ _ _ _ h, Below.heap_setCell _ _ _ _ h]
theorem grownBy_set4 {w W : World} {b : Nat} {r : Option Nat} (h : w.grownBy W r) (hb : w.heap.size ≤ b) (v0 v1 v2 v3 : Value) : w.grownBy ((((W.setCell ⟨b, 0, none⟩ v0).setCell ⟨b, 1, none⟩ v1).setCell ⟨b, 2, none⟩ v2).setCell ⟨b, 3, none⟩ v3) r :=
  ⟨h.os, h.tape, h.output, by simpa [World.setCell] using h.size, fun k hk hr => (set4_other W b v0 v1 v2 v3 k (by omega)).trans (h.block k hk hr)⟩
def isDg (c : Int) : Prop := 48 ≤ c ∧ c ≤ 57
def DigsAt (s : ByteArray) (p n : Nat) : Prop := ∀ k, k < n → isDg (byteAt s (p + k))
/-- The part behind the point, or none. -/
def FrAt (s : ByteArray) (x a : Nat) : Prop := (a = x ∧ byteAt s x ≠ 46 ∧ ¬ isDg (byteAt s x)) ∨ (byteAt s x = 46 ∧ ∃ n, 1 ≤ n ∧ DigsAt s (x + 1) n ∧ a = x + 1 + n ∧ ¬ isDg (byteAt s a))
/-- The exponent, or none. -/
def ExAt (s : ByteArray) (a q : Nat) : Prop := (q = a ∧ byteAt s a ≠ 101 ∧ byteAt s a ≠ 69) ∨ ((byteAt s a = 101 ∨ byteAt s a = 69) ∧ ∃ es n, ((es = 1 ∧ (byteAt s (a + 1) = 43 ∨ byteAt s (a + 1) = 45)) ∨ (es = 0 ∧ byteAt s (a + 1) ≠ 43 ∧ byteAt s (a + 1) ≠ 45)) ∧ 1 ≤ n ∧ n ≤ 6 ∧ DigsAt s (a + 1 + es) n ∧ q = a + 1 + es + n ∧ ¬ isDg (byteAt s q))
/-- A number lies from place p on, to place q. -/
def NumSAt (s : ByteArray) (p q : Nat) : Prop := ∃ sg ni a, ((sg = 1 ∧ byteAt s p = 45) ∨ sg = 0) ∧ 1 ≤ ni ∧ DigsAt s (p + sg) ni ∧ (ni = 1 ∨ byteAt s (p + sg) ≠ 48) ∧ FrAt s (p + sg + ni) a ∧ ExAt s a q ∧ q ≤ s.size
theorem byteAt_bound (s : ByteArray) (q : Nat) : 0 ≤ byteAt s q ∧ byteAt s q ≤ 255 := by
  by_cases h : q < s.size
  · rw [← byteAt_get s q h]
    have := (s[q]'h).toNat_lt
    omega
  · rw [byteAt_end s q h]; omega
theorem grownBy_heap {w w' : World} {g b : Nat} {o : Obj} (h : w.grownBy w' (some g)) (hb : w.heap[b]? = some o) (hn : g ≠ b) : w'.heap[b]? = some o :=
  (h.block b (Array.getElem?_eq_some_iff.1 hb).1 (fun e => hn (by simpa using e.symm))).trans hb
theorem grownBy_below {w w' : World} {g : Nat} (h : Below w.heap.size w w') : w.grownBy w' (some g) := ⟨h.os, h.tape, h.output, h.size, fun k hk _ => h.block k hk⟩
theorem grownBy_drewN {w w' : World} {n : Nat} {r : Option Nat} (h : (w.drewN n).grownBy w' r) : w.grownBy w' r := ⟨h.os, h.tape, h.output, h.size, h.block⟩
theorem grownBy_at (w : World) (g q : Nat) : w.grownBy (w.setCell ⟨g, 1, none⟩ (.int .i64 (q : Nat))) (some g) := grownBy_set _ _ _ _

set_option maxRecDepth 100000 in
set_option maxHeartbeats 3200000 in
theorem number_at (g p q d : Nat) (s : ByteArray) (w : World) (h : Rd w g s p d) (hs : s.size ≤ 100000) (hn : NumSAt s p q) :
    Calls Tryz.prog 30 #[.pointer (some ⟨g, 0, none⟩)] w fun e w' => e = .returned (.tuple #[.agg #[.int .u8 48, .string (strOfNums (valL (bytesL (s.extract p q)))), .slice none 0 0, .string (s.extract p q)], .bool true]) ∧ Rd w' g s q d ∧ w.grownBy w' (some g) := by
  obtain ⟨sg, ni, a, hsg, hn1, hdi, hnz, hfr, hex, hqs⟩ := hn
  obtain ⟨x, hx⟩ : ∃ x, p + sg + ni = x := ⟨_, rfl⟩
  rw [hx] at hfr
  have hxa : x ≤ a ∧ ¬ isDg (byteAt s x) := by
    rcases hfr with ⟨rfl, _, h2⟩ | ⟨h1, n, _, _, h4, _⟩
    · exact ⟨Nat.le_refl _, h2⟩
    · exact ⟨by omega, by rw [h1]; unfold isDg; omega⟩
  have haq : a ≤ q := by
    rcases hex with ⟨rfl, _, _⟩ | ⟨_, es, n, _, _, _, _, h4, _⟩
    · exact Nat.le_refl _
    · omega
  obtain ⟨hxa, hxd⟩ := hxa
  have HDI := Lib.hid hdi
  have HFR := Lib.hid hfr
  have HEX := Lib.hid hex
  have HXD := Lib.hid hxd
  have HNZ := Lib.hid hnz
  have hdig := hdi 0 (by omega)
  rw [Nat.add_zero] at hdig
  have HDG := Lib.hid hdig
  clear hfr hex hxd hdi hnz hdig
  have hglt := h.lt
  -- the two blocks of its own
  obtain ⟨W1, hW1⟩ : ∃ W, w.alloc (.cells #[.pointer (some ⟨g, 0, none⟩)] 40) = W := ⟨_, rfl⟩
  have hs1 : W1.heap.size = w.heap.size + 1 := by rw [← hW1]; simp
  have hb1 : W1.heap[w.heap.size]? = some (.cells #[.pointer (some ⟨g, 0, none⟩)] 40 (0, 0)) := by rw [← hW1]; exact heap_alloc_new w _
  have hr1 : Rd W1 g s p d := by rw [← hW1]; exact h.keep (heap_alloc_old w _ h.lt)
  have hg1 : w.grownBy W1 (some g) := by rw [← hW1]; exact World.grownBy_alloc _ _ _
  obtain ⟨W2, hW2⟩ : ∃ W, W1.alloc (.cells #[.int .u8 0, .string ⟨#[]⟩, .slice none 0 0, .string ⟨#[]⟩] 27) = W := ⟨_, rfl⟩
  have hs2 : W2.heap.size = w.heap.size + 2 := by rw [← hW2]; simp [hs1]
  have hb2 : W2.heap[w.heap.size]? = some (.cells #[.pointer (some ⟨g, 0, none⟩)] 40 (0, 0)) := by rw [← hW2]; exact (heap_alloc_old W1 _ (by omega)).trans hb1
  have hc2 : W2.heap[w.heap.size + 1]? = some (.cells #[.int .u8 0, .string ⟨#[]⟩, .slice none 0 0, .string ⟨#[]⟩] 27 (0, 0)) := by rw [← hW2, ← hs1]; exact heap_alloc_new W1 _
  have hr2 : Rd W2 g s p d := by rw [← hW2]; exact hr1.keep (heap_alloc_old W1 _ hr1.lt)
  have hg2 : w.grownBy W2 (some g) := by rw [← hW2]; exact grownBy_trans hg1 (World.grownBy_alloc _ _ _)
  obtain ⟨b, hbd⟩ : ∃ b, w.heap.size = b := ⟨_, rfl⟩
  rw [hbd] at hb2 hc2 hs1 hs2 hglt
  have kb : W2.cell? ⟨b, 0, none⟩ = some (.pointer (some ⟨g, 0, none⟩)) := by rw [cell_of_row W2 b 0 _ _ _ hb2]; rfl
  have k1 := hr2.c1
  have HB2 := Lib.hid hb2
  have HC2 := Lib.hid hc2
  have HR2 := Lib.hid hr2
  have HG2 := Lib.hid hg2
  have HH := Lib.hid h
  have hpx : p < s.size := by omega
  clear hb1 hr1 hg1 hb2 hc2 hr2 hg2 h
  have hmf : ∀ (fn : Fn) (first cap : Array Value) (w : World), (Instr.makeFunc fn first cap).run Tryz.prog w = .ok (.func fn first cap) w := fun _ _ _ _ => rfl
  go_enter Tryz.func30, Tryz.ntmps30
  go_wp2_with fail
  refine (peek_at g p d s _ HR2.out (by omega)).mono ?_
  rintro e w1 ⟨rfl, hg1⟩
  have HG := Lib.hid (grownBy_none (g := g) hg1)
  have HR := Lib.hid (HR2.out.keep (hg1.block g HR2.out.lt (by simp)))
  clear hg1 kb k1
  have hbox : ∀ wr : World, W2.grownBy wr (some g) → wr.cell? ⟨b, 0, none⟩ = some (.pointer (some ⟨g, 0, none⟩)) := fun wr hg => by rw [cell_of_row wr b 0 _ _ _ (grownBy_heap hg HB2.out (by omega))]; rfl
  have HBOX := Lib.hid hbox
  clear hbox
  obtain ⟨c, hc⟩ : ∃ c, byteAt s p = c := ⟨_, rfl⟩
  rw [hc]
  have HC := Lib.hid hc
  clear hc
  obtain ⟨y, hy⟩ : ∃ y, p + sg = y := ⟨_, rfl⟩
  go_upto_if 15 with (fail)
  go_cut [] (fun wc => RowKit.Hid (Rd wc g s y d) ∧ RowKit.Hid (W2.grownBy wc (some g)))
  case first =>
    have k0 := HBOX.out _ HG.out
    have k1 := HR.out.c1
    have kf := HR.out.fz 1
    rcases hsg with ⟨rfl, hc45⟩ | rfl
    · obtain rfl : c = 45 := by rw [← HC.out]; exact hc45
      go_wp2_with fail
      go_meet
      case rel => exact ⟨Lib.hid (by rw [← hy]; exact HR.out.at_ (p + 1)), Lib.hid (grownBy_trans HG.out (grownBy_at _ g (p + 1)))⟩
    · have hcd := HDG.out
      rw [Nat.add_zero, HC.out] at hcd
      have f1 : (c == 45) = false := by unfold isDg at hcd; simp; omega
      clear hcd
      go_wp2_with fail
      go_meet
      case rel => exact ⟨Lib.hid (by rw [← hy]; exact HR.out), HG⟩
  case rest =>
    clear HG HR
    obtain ⟨HR, HG⟩ := hcut
    have k0 := HBOX.out _ HG.out
    rw [hy] at hx
    have HY := Lib.hid hy
    clear hy
    go_wp2_with fail
    refine (peek_at g y d s _ HR.out (by omega)).mono ?_
    rintro e w2 ⟨rfl, hg1⟩
    have HG2 := Lib.hid (grownBy_trans HG.out (grownBy_none (g := g) hg1))
    have HR3 := Lib.hid (HR.out.keep (hg1.block g HR.out.lt (by simp)))
    clear hg1 k0 HR HG
    obtain ⟨f, hf⟩ : ∃ f, byteAt s y = f := ⟨_, rfl⟩
    rw [hf]
    have HF := Lib.hid hf
    clear hf
    go_wp2_with fail
    refine (digits_at g b y ni d s _ HR3.out (grownBy_heap HG2.out HB2.out (by omega)) (by omega) ?_ ?_ (by omega)).mono ?_
    · have h1 := HDI.out
      rw [HY.out] at h1
      exact h1
    · rw [hx]; exact HXD.out
    rintro e w3 ⟨rfl, hr4, hg4⟩
    rw [hx] at hr4
    have HR := Lib.hid hr4
    have HG := Lib.hid (grownBy_trans HG2.out hg4)
    clear hr4 hg4 HR3 HG2
    go_upto_region 7 with (fail)
    go_cut [37] (fun v37 wc => v37 = .bool false ∧ RowKit.Hid (Rd wc g s x d) ∧ RowKit.Hid (W2.grownBy wc (some g)))
    case first =>
      by_cases h1 : ni = 1
      · subst h1
        go_wp2_with fail
        go_meet
        case rel => exact ⟨rfl, HR, HG⟩
      · have f0 : (((ni : Nat) : Int) == 0) = false := by simp; omega
        have f1 : (1 : Int) < ((ni : Nat) : Int) := by omega
        have f2 : (f == 48) = false := by
          have h2 := HNZ.out
          rw [HY.out, HF.out] at h2
          simp
          rcases h2 with h2 | h2
          · exact absurd h2 h1
          · exact h2
        go_wp2_with fail
        go_meet
        case rel => exact ⟨rfl, HR, HG⟩
    case rest =>
      clear HR HG
      obtain ⟨rfl, HR, HG⟩ := hcut
      have k0 := HBOX.out _ HG.out
      go_wp2_with fail
      refine (peek_at g x d s _ HR.out (by omega)).mono ?_
      rintro e w4 ⟨rfl, hg1⟩
      have HG2 := Lib.hid (grownBy_trans HG.out (grownBy_none (g := g) hg1))
      have HR3 := Lib.hid (HR.out.keep (hg1.block g HR.out.lt (by simp)))
      clear hg1 k0 HR HG
      obtain ⟨t, ht⟩ : ∃ t, byteAt s x = t := ⟨_, rfl⟩
      rw [ht]
      have HT := Lib.hid ht
      clear ht
      go_upto_if 41 with (fail)
      go_cut [] (fun wc => RowKit.Hid (Rd wc g s a d) ∧ RowKit.Hid (W2.grownBy wc (some g)))
      case first =>
        have k0 := HBOX.out _ HG2.out
        have k1 := HR3.out.c1
        have kf := HR3.out.fz 1
        rcases HFR.out with ⟨rfl, h1, h2⟩ | ⟨h1, n, h2, h3, rfl, h5⟩
        · have f1 : (t == 46) = false := by rw [← HT.out]; simpa using h1
          clear h1 h2
          go_wp2_with fail
          go_meet
          case rel => exact ⟨HR3, HG2⟩
        · obtain rfl : t = 46 := by rw [← HT.out]; exact h1
          have H3 := Lib.hid h3
          have H5 := Lib.hid h5
          clear h1 h3 h5
          have hn0 : (((n : Nat) : Int) == 0) = false := by simp; omega
          have hg5 := grownBy_trans HG2.out (grownBy_at w4 g (x + 1))
          have HG5 := Lib.hid hg5
          clear hg5
          go_wp2_with fail
          refine (digits_at g b (x + 1) n d s _ (HR3.out.at_ (x + 1)) (grownBy_heap HG5.out HB2.out (by omega)) (by omega) H3.out H5.out (by omega)).mono ?_
          rintro e w5 ⟨rfl, hr6, hg6⟩
          have HR6 := Lib.hid hr6
          have HG6 := Lib.hid (grownBy_trans HG5.out hg6)
          clear hr6 hg6
          go_wp2_with fail
          go_meet
          case rel => exact ⟨HR6, HG6⟩
      case rest =>
        clear HR3 HG2
        obtain ⟨HR, HG⟩ := hcut
        obtain ⟨t2, ht⟩ : ∃ t, byteAt s a = t := ⟨_, rfl⟩
        have HT2 := Lib.hid ht
        clear ht
        obtain ⟨ex, hex⟩ : ∃ ex : Bool, decide (t2 = 101 ∨ t2 = 69) = ex := ⟨_, rfl⟩
        have HX2 := Lib.hid hex
        clear hex
        go_upto_region 13 with (fail)
        go_cut [60] (fun v60 wc => v60 = .bool ex ∧ RowKit.Hid (Rd wc g s a d) ∧ RowKit.Hid (W2.grownBy wc (some g)))
        case first =>
          have k0 := HBOX.out _ HG.out
          go_wp2_with fail
          refine (peek_at g a d s _ HR.out (by omega)).mono ?_
          rintro e w5 ⟨rfl, hg1⟩
          have HG2 := Lib.hid (grownBy_trans HG.out (grownBy_none (g := g) hg1))
          have HR3 := Lib.hid (HR.out.keep (hg1.block g HR.out.lt (by simp)))
          clear hg1 k0 HR HG
          rw [HT2.out]
          by_cases h1 : t2 = 101
          · have e1 : ex = true := by rw [← HX2.out]; simp [h1]
            subst e1
            subst h1
            go_wp2_with fail
            go_meet
            case rel => exact ⟨rfl, HR3, HG2⟩
          · have f1 : (t2 == 101) = false := by simpa using h1
            have k0 := HBOX.out _ HG2.out
            go_wp2_with fail
            refine (peek_at g a d s _ HR3.out (by omega)).mono ?_
            rintro e w6 ⟨rfl, hg1⟩
            have HG4 := Lib.hid (grownBy_trans HG2.out (grownBy_none (g := g) hg1))
            have HR4 := Lib.hid (HR3.out.keep (hg1.block g HR3.out.lt (by simp)))
            clear hg1 k0 HR3 HG2
            rw [HT2.out]
            by_cases h2 : t2 = 69
            · have e1 : ex = true := by rw [← HX2.out]; simp [h2]
              subst e1
              subst h2
              go_wp2_with fail
              go_meet
              case rel => exact ⟨rfl, HR4, HG4⟩
            · have e1 : ex = false := by rw [← HX2.out]; simp [h1, h2]
              have f2 : (t2 == 69) = false := by simpa using h2
              subst e1
              go_wp2_with fail
              go_meet
              case rel => exact ⟨rfl, HR4, HG4⟩
        case rest =>
          clear HR HG
          obtain ⟨rfl, HR, HG⟩ := hcut
          go_upto_if 60 with (fail)
          go_cut [] (fun wc => RowKit.Hid (Rd wc g s q d) ∧ RowKit.Hid (W2.grownBy wc (some g)))
          case first =>
            rcases HEX.out with ⟨rfl, h1, h2⟩ | ⟨h1, es, n, h2, hn1, hn6, h3, rfl, h5⟩
            · have e1 : ex = false := by rw [← HX2.out]; rw [HT2.out] at h1 h2; simp [h1, h2]
              subst e1
              go_wp2_with fail
              go_meet
              case rel => exact ⟨HR, HG⟩
            · have e1 : ex = true := by rw [← HX2.out]; rw [HT2.out] at h1; simp [h1]
              subst e1
              have H3 := Lib.hid h3
              have H5 := Lib.hid h5
              have k0 := HBOX.out _ HG.out
              have k1 := HR.out.c1
              have kf := HR.out.fz 1
              have ha1 : a + 1 ≤ s.size := by omega
              have hg5 := grownBy_trans HG.out (grownBy_at wc g (a + 1))
              have hr5 := HR.out.at_ (a + 1)
              obtain ⟨t3, ht⟩ : ∃ t, byteAt s (a + 1) = t := ⟨_, rfl⟩
              rw [ht] at h2
              have HT3 := Lib.hid ht
              have H2 := Lib.hid h2
              have HG5 := Lib.hid hg5
              have HR5 := Lib.hid hr5
              clear h1 h3 h5 hg5 hr5 ht h2
              obtain ⟨sb, hsb⟩ : ∃ sb : Bool, decide (t3 = 43 ∨ t3 = 45) = sb := ⟨_, rfl⟩
              have HSB := Lib.hid hsb
              clear hsb
              go_upto_region 15 with (fail)
              go_cut [75] (fun v75 wc => v75 = .bool sb ∧ RowKit.Hid (Rd wc g s (a + 1) d) ∧ RowKit.Hid (W2.grownBy wc (some g)))
              case first =>
                have k0 := HBOX.out _ HG5.out
                go_wp2_with fail
                refine (peek_at g (a + 1) d s _ HR5.out (by omega)).mono ?_
                rintro e w5 ⟨rfl, hg1⟩
                have HG2 := Lib.hid (grownBy_trans HG5.out (grownBy_none (g := g) hg1))
                have HR3 := Lib.hid (HR5.out.keep (hg1.block g HR5.out.lt (by simp)))
                clear hg1 k0 HR HG HR5 HG5
                rw [HT3.out]
                by_cases h1 : t3 = 43
                · have e1 : sb = true := by rw [← HSB.out]; simp [h1]
                  subst e1
                  subst h1
                  go_wp2_with fail
                  go_meet
                  case rel => exact ⟨rfl, HR3, HG2⟩
                · have f1 : (t3 == 43) = false := by simpa using h1
                  have k0 := HBOX.out _ HG2.out
                  go_wp2_with fail
                  refine (peek_at g (a + 1) d s _ HR3.out (by omega)).mono ?_
                  rintro e w6 ⟨rfl, hg1⟩
                  have HG4 := Lib.hid (grownBy_trans HG2.out (grownBy_none (g := g) hg1))
                  have HR4 := Lib.hid (HR3.out.keep (hg1.block g HR3.out.lt (by simp)))
                  clear hg1 k0 HR3 HG2
                  rw [HT3.out]
                  by_cases h2 : t3 = 45
                  · have e1 : sb = true := by rw [← HSB.out]; simp [h2]
                    subst e1
                    subst h2
                    go_wp2_with fail
                    go_meet
                    case rel => exact ⟨rfl, HR4, HG4⟩
                  · have e1 : sb = false := by rw [← HSB.out]; simp [h1, h2]
                    have f2 : (t3 == 45) = false := by simpa using h2
                    subst e1
                    go_wp2_with fail
                    go_meet
                    case rel => exact ⟨rfl, HR4, HG4⟩
              case rest =>
                clear HR HG HR5 HG5 k0 k1 kf
                obtain ⟨rfl, HR, HG⟩ := hcut
                have k0 := HBOX.out _ HG.out
                have k1 := HR.out.c1
                have kf := HR.out.fz 1
                have hn0 : (((n : Nat) : Int) == 0) = false := by simp; omega
                have hn7 : ¬ (6 : Int) < ((n : Nat) : Int) := by omega
                rcases H2.out with ⟨rfl, h1⟩ | ⟨rfl, h1, h2⟩
                · have e1 : sb = true := by rw [← HSB.out]; simp [h1]
                  subst e1
                  have HG6 := Lib.hid (grownBy_trans HG.out (grownBy_at wc g (a + 1 + 1)))
                  go_wp2_with fail
                  refine (digits_at g b (a + 1 + 1) n d s _ (HR.out.at_ (a + 1 + 1)) (grownBy_heap HG6.out HB2.out (by omega)) (by omega) H3.out H5.out (by omega)).mono ?_
                  rintro e w7 ⟨rfl, hr6, hg6⟩
                  have HR6 := Lib.hid hr6
                  have HG7 := Lib.hid (grownBy_trans HG6.out hg6)
                  clear hr6 hg6
                  go_wp2_with fail
                  go_meet
                  case rel => exact ⟨HR6, HG7⟩
                · have e1 : sb = false := by rw [← HSB.out]; simp [h1, h2]
                  subst e1
                  go_wp2_with fail
                  refine (digits_at g b (a + 1) n d s _ HR.out (grownBy_heap HG.out HB2.out (by omega)) (by omega) H3.out H5.out (by omega)).mono ?_
                  rintro e w7 ⟨rfl, hr6, hg6⟩
                  have HR6 := Lib.hid hr6
                  have HG7 := Lib.hid (grownBy_trans HG.out hg6)
                  clear hr6 hg6
                  go_wp2_with fail
                  go_meet
                  case rel => exact ⟨HR6, HG7⟩
          case rest =>
            clear HR HG
            obtain ⟨HRF, HGF⟩ := hcut
            have hq2 : q ≤ s.size := hqs
            have k0 := HBOX.out _ HGF.out
            have k1 := HRF.out.c0
            have k2 := HRF.out.c1
            have j1 : ((p : Nat) : Int) ≤ ((q : Nat) : Int) := by have e := HY.out; omega
            have j2 : ((q : Nat) : Int) ≤ (s.size : Int) := by omega
            have hjb : JB wc (b + 1) 0 ⟨#[]⟩ (.slice none 0 0) ⟨#[]⟩ := grownBy_heap HGF.out HC2.out (by omega)
            have HJB := Lib.hid hjb
            clear hjb
            have n1 : ¬ g = b + 1 := by omega
            have n2 : ¬ b + 1 = g := by omega
            go_wp2_with fail
            go_region_held3 (fun w' => w'.cell? ⟨b, 0, none⟩ = some (.pointer (some ⟨g, 0, none⟩)) ∧ w'.cell? ⟨g, 0, none⟩ = some (.string s) ∧ w'.cell? ⟨g, 1, none⟩ = some (.int .i64 (q : Nat))) (go_keep)
              ((go_at_call 46; refine (Value_any _ _ (by rw [ByteArray.size_extract]; omega)).mono ?_; rintro e w6 ⟨rfl, hb6⟩; have HG6 := Lib.hid (grownBy_trans HGF.out (grownBy_drew (grownBy_below (g := g) hb6))); have HR6 := Lib.hid (HRF.out.keep (show w6.heap[g]? = wc.heap[g]? from hb6.block g HRF.out.lt)); have HJ6 := Lib.hid (HJB.out.keep (show w6.heap[b + 1]? = wc.heap[b + 1]? from hb6.block (b + 1) HJB.out.lt)); clear hb6; have z0 := HJ6.out.c0; have z1 := HJ6.out.c1; have z2 := HJ6.out.c2; have z3 := HJ6.out.c3; have y0 := HJ6.out.fz 0; have y1 := HJ6.out.fz 1; have y2 := HJ6.out.fz 2; have y3 := HJ6.out.fz 3; have q0 := HBOX.out _ HG6.out; have q1 := HR6.out.c0; have q2 := HR6.out.c1))
            go_wp2_with fail
            (try simp only [Exit.inBlock, Exit.then])
            refine bodyPost_ret (results_jb rfl rfl (HJ6.out.set 48 _ _ _)) ?_ ?_
            · rfl
            · exact ⟨rfl, HR6.out.keep (set4_other _ _ _ _ _ _ _ (by omega)), grownBy_set4 (grownBy_trans HG2.out HG6.out) (by omega) _ _ _ _⟩

end Go.Proofs.YthoekplablhgfaaGreatDoor

/- JHeap -/
namespace Go.Proofs.YthoekplablhgfaaGreatDoor
open Go.RowKit
set_option linter.unusedVariables false

/-- A value that has been read: kind, text, what is in it, how it is written. -/
inductive JT where
  | mk (k : Int) (t : ByteArray) (ks : List JT) (u : ByteArray)
def JT.k : JT → Int | .mk k _ _ _ => k
def JT.t : JT → ByteArray | .mk _ t _ _ => t
def JT.ks : JT → List JT | .mk _ _ ks _ => ks
def JT.u : JT → ByteArray | .mk _ _ _ u => u
/-- The cells of one. -/
def nodeL (t : JT) (vi : Value) : List Value := [.int .u8 t.k, .string t.t, vi, .string t.u]
/-- Row v of n values lies in the heap, its block among B. -/
def Owns (w : World) (B : Nat → Prop) (v : Value) (n : Nat) (xs : List Value) : Prop := w.ownsRow 0 27 4 v n xs ∧ ∀ b, v.ownBlock = some b → B b
/-- Row v holds the trees ks, in blocks among B, no deeper than f. -/
def Rows : Nat → World → (Nat → Prop) → Value → List JT → Prop
  | 0, _, _, _, _ => False
  | f + 1, w, B, v, ks => ∃ xs, Owns w B v ks.length xs ∧ ∀ i t, ks[i]? = some t → ∃ vi, (xs.drop (i * 4)).take 4 = nodeL t vi ∧ Rows f w (fun b => B b ∧ v.ownBlock ≠ some b) vi t.ks
theorem Rows.mono : ∀ {f : Nat} {w : World} {B B' : Nat → Prop} {v : Value} {ks : List JT}, Rows f w B v ks → (∀ b, B b → B' b) → Rows f w B' v ks
  | 0, _, _, _, _, _, h, _ => h.elim
  | f + 1, w, B, B', v, ks, ⟨xs, ⟨h1, h2⟩, h3⟩, hb => ⟨xs, ⟨h1, fun b e => hb b (h2 b e)⟩, fun i t ht => by
    obtain ⟨vi, h4, h5⟩ := h3 i t ht
    exact ⟨vi, h4, Rows.mono h5 fun b ⟨h6, h7⟩ => ⟨hb b h6, h7⟩⟩⟩
theorem ownsRow_frame {w w' : World} {lo : Nat} {e : TypeId} {sz n : Nat} {v : Value} {xs : List Value} (h : w.ownsRow lo e sz v n xs) (hk : ∀ b, v.ownBlock = some b → w'.heap[b]? = w.heap[b]?) : w'.ownsRow lo e sz v n xs := by
  obtain ⟨h1, h2⟩ := h
  refine ⟨h1, ?_⟩
  rcases h2 with h2 | ⟨g, cap, cur, rfl, h3, h4, h5⟩
  · exact .inl h2
  · exact .inr ⟨g, cap, cur, rfl, h3, (hk g rfl).trans h4, h5⟩
theorem Rows.frame : ∀ {f : Nat} {w w' : World} {B : Nat → Prop} {v : Value} {ks : List JT}, Rows f w B v ks → (∀ b, B b → w'.heap[b]? = w.heap[b]?) → Rows f w' B v ks
  | 0, _, _, _, _, _, h, _ => h.elim
  | f + 1, w, w', B, v, ks, ⟨xs, ⟨h1, h2⟩, h3⟩, hb => ⟨xs, ⟨ownsRow_frame h1 fun b e => hb b (h2 b e), h2⟩, fun i t ht => by
    obtain ⟨vi, h4, h5⟩ := h3 i t ht
    exact ⟨vi, h4, Rows.frame h5 fun b ⟨h6, _⟩ => hb b h6⟩⟩
theorem Rows.fuel : ∀ {f f' : Nat} {w : World} {B : Nat → Prop} {v : Value} {ks : List JT}, Rows f w B v ks → f ≤ f' → Rows f' w B v ks
  | 0, _, _, _, _, _, h, _ => h.elim
  | f + 1, 0, _, _, _, _, _, h => absurd h (by omega)
  | f + 1, f' + 1, w, B, v, ks, ⟨xs, h1, h3⟩, hf => ⟨xs, h1, fun i t ht => by
    obtain ⟨vi, h4, h5⟩ := h3 i t ht
    exact ⟨vi, h4, Rows.fuel h5 (by omega)⟩⟩
theorem rows_nil (f : Nat) (w : World) (B : Nat → Prop) : Rows (f + 1) w B (.slice none 0 0) [] := ⟨[], ⟨⟨rfl, .inl ⟨rfl, rfl⟩⟩, fun b e => by simp [Value.ownBlock] at e⟩, fun i t ht => by simp at ht⟩
def InW (lo : Nat) (w : World) (b : Nat) : Prop := lo ≤ b ∧ b < w.heap.size
theorem rows_snoc {f lo g cap : Nat} {w w' : World} {v vi : Value} {ks : List JT} {t : JT} {xs : List Value} (hlo : lo ≤ w.heap.size)
    (ho : Owns w (InW lo w) v ks.length xs) (hk : ∀ i t, ks[i]? = some t → ∃ vi, (xs.drop (i * 4)).take 4 = nodeL t vi ∧ Rows f w (fun b => InW lo w b ∧ v.ownBlock ≠ some b) vi t.ks)
    (ht : Rows f w (fun b => InW lo w b ∧ v.ownBlock ≠ some b) vi t.ks) (ha : w'.ownsRow 0 27 4 (.slice (some ⟨g, 0, none⟩) (ks.length + 1) cap) (ks.length + 1) (xs ++ nodeL t vi))
    (hg : w.grownBy w' v.ownBlock) (hpl : v.ownBlock = some g ∨ g = w.heap.size) (hlt : g < w'.heap.size) : Rows (f + 1) w' (InW lo w') (.slice (some ⟨g, 0, none⟩) (ks.length + 1) cap) (ks ++ [t]) := by
  have hsz := hg.size
  have hxl := ho.1.1
  have key : ∀ {vj : Value} {kt : List JT}, Rows f w (fun b => InW lo w b ∧ v.ownBlock ≠ some b) vj kt → Rows f w' (fun b => InW lo w' b ∧ (Value.slice (some ⟨g, 0, none⟩) (ks.length + 1) cap).ownBlock ≠ some b) vj kt := by
    intro vj kt h
    refine (h.frame fun b hb => hg.block b hb.1.2 (fun e => hb.2 e.symm)).mono fun b hb => ⟨⟨hb.1.1, by have := hb.1.2; omega⟩, ?_⟩
    show some g ≠ some b
    rcases hpl with h1 | h1
    · rw [← h1]; exact hb.2
    · intro e; injection e with e; have := hb.1.2; omega
  refine ⟨xs ++ nodeL t vi, ⟨by rw [List.length_append]; exact ha, fun b e => ?_⟩, fun i t' hi => ?_⟩
  · have e : some g = some b := e
    injection e with e
    subst e
    refine ⟨?_, hlt⟩
    rcases hpl with h1 | h1
    · exact (ho.2 g h1).1
    · omega
  · rcases Nat.lt_or_ge i ks.length with h1 | h1
    · rw [List.getElem?_append_left h1] at hi
      obtain ⟨vj, h2, h3⟩ := hk i t' hi
      refine ⟨vj, ?_, key h3⟩
      rw [List.drop_append_of_le_length (by omega), List.take_append_of_le_length (by rw [List.length_drop]; omega)]
      exact h2
    · rw [List.getElem?_append_right h1] at hi
      have h0 : i - ks.length = 0 := by
        rcases Nat.eq_zero_or_pos (i - ks.length) with h | h
        · exact h
        · rw [List.getElem?_eq_none (by simp; omega)] at hi; cases hi
      rw [h0] at hi
      simp at hi
      subst hi
      refine ⟨vi, ?_, key ht⟩
      have hi2 : i = ks.length := by omega
      rw [hi2, ← hxl, List.drop_left]
      rfl
theorem info_json : (Tryz.prog.info? 27).map (fun i => (i.zero, i.size, i.bytes)) = some (some (.agg #[.int .u8 0, .string ⟨#[]⟩, .slice none 0 0, .string ⟨#[]⟩]), 4, 64) := by kernel_rfl

end Go.Proofs.YthoekplablhgfaaGreatDoor

/- JTr -/
namespace Go.Proofs.YthoekplablhgfaaGreatDoor
open Go.RowKit
set_option linter.unusedVariables false

/-- No part of a number. -/
def Stop (c : Int) : Prop := c ≠ 46 ∧ c ≠ 101 ∧ c ≠ 69 ∧ ¬ isDg c
def FrTxt (F : List Int) : Prop := F = [] ∨ ∃ D, D ≠ [] ∧ (∀ c ∈ D, isDg c) ∧ F = 46 :: D
def ExTxt (X : List Int) : Prop := X = [] ∨ ∃ e z D, (e = 101 ∨ e = 69) ∧ (z = [] ∨ z = [43] ∨ z = [45]) ∧ D ≠ [] ∧ D.length ≤ 6 ∧ (∀ c ∈ D, isDg c) ∧ X = e :: (z ++ D)
/-- A number as JSON writes it. -/
def NumTxt (t : List Int) : Prop := ∃ sg I F X, (sg = [] ∨ sg = [45]) ∧ I ≠ [] ∧ (∀ c ∈ I, isDg c) ∧ (I.length = 1 ∨ I.getD 0 0 ≠ 48) ∧ FrTxt F ∧ ExTxt X ∧ t = sg ++ (I ++ (F ++ X))
theorem getD_mem' {l : List Int} {k : Nat} (h : k < l.length) : l.getD k 0 ∈ l := by
  rw [List.getD_eq_getElem?_getD, List.getElem?_eq_getElem h]
  exact List.getElem_mem h
theorem digs_lie {s : ByteArray} {p : Nat} {D : List Int} (h : LiesAt s p D) (hd : ∀ c ∈ D, isDg c) : DigsAt s p D.length := fun k hk => by
  rw [h.2 k hk]
  exact hd _ (getD_mem' hk)
theorem LiesAt.nil_end {s : ByteArray} {p : Nat} {a : List Int} (h : LiesAt s p a) : p + a.length ≤ s.size := h.1
/-- Behind a number's digits: the exponent's letter, or what stops it. -/
theorem ex_first {s : ByteArray} {a : Nat} {X : List Int} (hX : ExTxt X) (h : LiesAt s a X) (hs : Stop (byteAt s (a + X.length))) : byteAt s a ≠ 46 ∧ ¬ isDg (byteAt s a) := by
  rcases hX with rfl | ⟨e, z, D, he, _, _, _, _, rfl⟩
  · exact ⟨hs.1, hs.2.2.2⟩
  · obtain ⟨_, h1⟩ := h.head
    rw [h1]
    unfold isDg
    rcases he with rfl | rfl <;> omega
theorem ex_at {s : ByteArray} {a : Nat} {X : List Int} (hX : ExTxt X) (h : LiesAt s a X) (hs : Stop (byteAt s (a + X.length))) : ExAt s a (a + X.length) := by
  rcases hX with rfl | ⟨e, z, D, he, hz, hD, hDl, hDd, rfl⟩
  · exact .inl ⟨rfl, hs.2.1, hs.2.2.1⟩
  · obtain ⟨_, h1⟩ := h.head
    have h2 := h.tail
    have h3 := digs_lie h2.drop hDd
    have hDp : 1 ≤ D.length := by
      rcases Nat.eq_zero_or_pos D.length with h | h
      · exact absurd (List.eq_nil_of_length_eq_zero h) hD
      · exact h
    refine .inr ⟨by rw [h1]; exact he, z.length, D.length, ?_, hDp, hDl, h3, by simp; omega, hs.2.2.2⟩
    rcases hz with rfl | rfl | rfl
    · refine .inr ⟨rfl, ?_⟩
      have h4 := h3 0 (by omega)
      simp at h4
      unfold isDg at h4
      omega
    · exact .inl ⟨rfl, .inl h2.head.2⟩
    · exact .inl ⟨rfl, .inr h2.head.2⟩
theorem num_at {s : ByteArray} {p : Nat} {t : List Int} (hn : NumTxt t) (h : LiesAt s p t) (hs : Stop (byteAt s (p + t.length))) : NumSAt s p (p + t.length) := by
  obtain ⟨sg, I, F, X, hsg, hI, hId, hI0, hF, hX, rfl⟩ := hn
  have h1 := h.drop
  have h2 := h1.drop
  have h3 := h2.drop
  have hIp : 1 ≤ I.length := by
    rcases Nat.eq_zero_or_pos I.length with h | h
    · exact absurd (List.eq_nil_of_length_eq_zero h) hI
    · exact h
  have e1 : p + sg.length + I.length + F.length + X.length = p + (sg ++ (I ++ (F ++ X))).length := by simp; omega
  have hs' := hs
  rw [← e1] at hs'
  have hd := digs_lie h1.left hId
  have hf0 := ex_first hX h3 hs'
  refine ⟨sg.length, I.length, p + sg.length + I.length + F.length, ?_, hIp, hd, ?_, ?_, ?_, h.1⟩
  · rcases hsg with rfl | rfl
    · exact .inr rfl
    · exact .inl ⟨rfl, h.head.2⟩
  · rcases hI0 with h0 | h0
    · exact .inl h0
    · right
      have h4 := h1.left.2 0 (by omega)
      rw [Nat.add_zero] at h4
      rw [h4]
      exact h0
  · rcases hF with rfl | ⟨D, hD, hDd, rfl⟩
    · exact .inl ⟨rfl, hf0⟩
    · have hDp : 1 ≤ D.length := by
        rcases Nat.eq_zero_or_pos D.length with h | h
        · exact absurd (List.eq_nil_of_length_eq_zero h) hD
        · exact h
      exact .inr ⟨h2.left.head.2, D.length, hDp, digs_lie h2.left.tail hDd, by simp; omega, hf0.2⟩
  · rw [← e1]
    exact ex_at hX h3 hs'
theorem LiesAt.byte {s : ByteArray} {p : Nat} {t : List Int} (h : LiesAt s p t) : ∀ x ∈ t, byteN x := fun x hx => by
  obtain ⟨k, hk, rfl⟩ := List.getElem_of_mem hx
  have h1 := h.2 k hk
  rw [List.getD_eq_getElem?_getD, List.getElem?_eq_getElem hk] at h1
  have h2 := byteAt_bound s (p + k)
  rw [h1] at h2
  exact h2
theorem LiesAt.cut {s : ByteArray} {p : Nat} {t : List Int} (h : LiesAt s p t) : s.extract p (p + t.length) = strOfNums t := by
  conv => lhs; rw [← str_bytesL s]
  rw [str_extract]
  congr 1
  have h1 := h.1
  have hl := bytesL_length s
  apply List.ext_getElem?
  intro k
  rw [List.getElem?_drop, List.getElem?_take]
  by_cases hk : k < t.length
  · rw [if_pos (by omega)]
    have h2 := h.2 k hk
    unfold byteAt at h2
    rw [List.getD_eq_getElem?_getD, List.getD_eq_getElem?_getD, List.getElem?_eq_getElem hk, List.getElem?_eq_getElem (by omega)] at h2
    rw [List.getElem?_eq_getElem hk, List.getElem?_eq_getElem (by omega)]
    exact congrArg some h2
  · rw [if_neg (by omega), List.getElem?_eq_none (by omega)]
theorem ws_wsb {s : ByteArray} {p : Nat} {ws l : List Int} (hw : JWs ws) (h : LiesAt s p (ws ++ l)) : ∀ i, p ≤ i → i < p + ws.length → wsb (byteAt s i) := fun i h1 h2 => by
  have h3 := h.left.2 (i - p) (by omega)
  rw [show p + (i - p) = i from by omega] at h3
  rw [h3]
  have := hw _ (getD_mem' (show i - p < ws.length by omega))
  unfold wsb
  omega
/-- White space ends where something else stands. -/
theorem space_end {s : ByteArray} {p q : Nat} {ws l : List Int} (hw : JWs ws) (h : LiesAt s p (ws ++ l)) (hc : p + ws.length = s.size ∨ ¬ wsb (byteAt s (p + ws.length))) (h1 : p ≤ q) (h2 : q ≤ s.size) (h3 : ∀ i, p ≤ i → i < q → wsb (byteAt s i)) (h4 : ¬ (q < s.size ∧ wsb (byteAt s q))) : q = p + ws.length := by
  have h5 := ws_wsb hw h
  have h6 := h.left.1
  rcases Nat.lt_trichotomy q (p + ws.length) with h7 | h7 | h7
  · exact absurd ⟨by omega, h5 q h1 h7⟩ h4
  · exact h7
  · rcases hc with hc | hc
    · omega
    · exact absurd (h3 _ (by omega) h7) hc
/-- What a string means. -/
noncomputable def strMean (t : List Int) : ByteArray := open Classical in if h : ∃ us, t = 34 :: flat us ++ [34] ∧ ∀ u ∈ us, u.ok then strOfNums (means (Classical.choose h)) else ⟨#[]⟩
theorem strMean_units {t : List Int} (h : JStr t) : ∃ us, t = 34 :: flat us ++ [34] ∧ (∀ u ∈ us, u.ok) ∧ strMean t = strOfNums (means us) := by
  have h1 := jstr_units h
  refine ⟨Classical.choose h1, (Classical.choose_spec h1).1, (Classical.choose_spec h1).2, ?_⟩
  unfold strMean
  rw [dif_pos h1]
/-- What is read of a value. -/
noncomputable def tr : Nat → JVal → JT
  | 0, _ => .mk 0 ⟨#[]⟩ [] ⟨#[]⟩
  | d + 1, v => match v with
    | .lit t => .mk (t.headD 0) ⟨#[]⟩ [] ⟨#[]⟩
    | .num t => .mk 48 (strOfNums (valL t)) [] (strOfNums t)
    | .str t => .mk 115 (strMean t) [] ⟨#[]⟩
    | .arr l => .mk 97 ⟨#[]⟩ (l.map (tr d)) ⟨#[]⟩
    | .obj l => .mk 111 ⟨#[]⟩ (l.flatMap fun p => [.mk 115 (strMean p.1) [] ⟨#[]⟩, tr d p.2]) ⟨#[]⟩
def agg (T : JT) (vi : Value) : Value := .agg #[.int .u8 T.k, .string T.t, vi, .string T.u]
/-- How a value begins. -/
def Opens (c : Int) : Prop := c = 34 ∨ c = 45 ∨ isDg c ∨ c = 91 ∨ c = 123 ∨ c = 110 ∨ c = 116 ∨ c = 102
def JTx (d : Nat) (v : JVal) (t : List Int) : Prop := JTxt (· ∈ jlitL) NumTxt JStr d v t
theorem num_opens {t : List Int} (h : NumTxt t) : ∃ c r, t = c :: r ∧ (c = 45 ∨ isDg c) := by
  obtain ⟨sg, I, F, X, hsg, hI, hId, hI0, hF, hX, rfl⟩ := h
  rcases hsg with rfl | rfl
  · cases I with
    | nil => exact absurd rfl hI
    | cons c r => exact ⟨c, _, rfl, .inr (hId c (by simp))⟩
  · exact ⟨45, _, rfl, .inl rfl⟩
theorem txt_opens {d : Nat} {v : JVal} {t : List Int} (h : JTx d v t) : ∃ c r, t = c :: r ∧ Opens c := by
  cases d with
  | zero => exact h.elim
  | succ d =>
    unfold JTx JTxt at h
    cases v with
    | lit w =>
      obtain ⟨h, rfl⟩ := h
      simp only [jlitL, List.mem_cons, List.not_mem_nil, or_false] at h
      rcases h with rfl | rfl | rfl <;> exact ⟨_, _, rfl, by unfold Opens; omega⟩
    | num w =>
      obtain ⟨h, rfl⟩ := h
      obtain ⟨c, r, e, hc⟩ := num_opens h
      exact ⟨c, r, e, by unfold Opens; rcases hc with hc | hc; exact .inr (.inl hc); exact .inr (.inr (.inl hc))⟩
    | str w =>
      obtain ⟨h, rfl⟩ := h
      obtain ⟨n, u, _, _, rfl⟩ := h
      exact ⟨34, _, rfl, .inl rfl⟩
    | arr l =>
      obtain ⟨_, s, u, _, _, rfl⟩ := h
      exact ⟨91, s ++ u ++ [93], by simp, by unfold Opens; omega⟩
    | obj l =>
      obtain ⟨_, s, u, _, _, rfl⟩ := h
      exact ⟨123, s ++ u ++ [125], by simp, by unfold Opens; omega⟩
theorem opens_no_ws {c : Int} (h : Opens c) : ¬ wsb c := by unfold Opens isDg at h; unfold wsb; omega

end Go.Proofs.YthoekplablhgfaaGreatDoor
