/-
  The contract of (*spec.jsonReader).inner at strings, numbers and words.
-/
import Derived.Test.YthoekplablhgfaaGreatDoorMTree
import Derived.Test.YthoekplablhgfaaGreatDoorMEnc
namespace Go.Proofs.YthoekplablhgfaaGreatDoor
open Go.RowKit
set_option linter.unusedVariables false

/-- What inner and value answer: the tree T, read to place q. -/
def InPost (T : JT) (f g q d : Nat) (s : ByteArray) (w : World) (e : Ending) (w' : World) : Prop :=
  ∃ vi, e = .returned (.tuple #[agg T vi, .bool true]) ∧ Rows f w' (InW w.heap.size w') vi T.ks ∧ Rd w' g s q d ∧ w.grownBy w' (some g)

set_option maxRecDepth 100000 in
set_option maxHeartbeats 1600000 in
theorem inner_str (f g p d : Nat) (s : ByteArray) (t : List Int) (w : World) (h : Rd w g s p d) (hs : s.size ≤ 1000000) (ht : JStr t) (hl : LiesAt s p t) :
    Calls Tryz.prog 22 #[.pointer (some ⟨g, 0, none⟩)] w (InPost (.mk 115 (strMean t) [] ⟨#[]⟩) (f + 1) g (p + t.length) d s w) := by
  obtain ⟨us, e, hu, hm⟩ := strMean_units ht
  rw [hm]
  subst e
  obtain ⟨hq, hc⟩ := (show LiesAt s p (34 :: (flat us ++ [34])) from hl).head
  have HL := Lib.hid (show LiesAt s p (34 :: (flat us ++ [34])) from hl).tail
  have HU := Lib.hid hu
  obtain ⟨W1, hW1⟩ : ∃ W, w.alloc (.cells #[.int .u8 0, .string ⟨#[]⟩, .slice none 0 0, .string ⟨#[]⟩] 27) = W := ⟨_, rfl⟩
  have hj1 : JB W1 w.heap.size 0 ⟨#[]⟩ (.slice none 0 0) ⟨#[]⟩ := by rw [← hW1]; exact JB.new w
  have hr1 : Rd W1 g s p d := by rw [← hW1]; exact h.alloc _
  have hg1 : w.grownBy W1 (some g) := by rw [← hW1]; exact World.grownBy_alloc _ _ _
  have hlt := h.lt
  have HJ := Lib.hid hj1
  have H := Lib.hid hr1
  have HG := Lib.hid hg1
  have HC := Lib.hid hc
  clear hl hu h hc ht hm hj1 hr1 hg1
  go_enter Tryz.func22, Tryz.ntmps22
  go_wp2_with fail
  refine (peek_at g p d s _ H.out hs).mono ?_
  rintro e w1 ⟨rfl, hg1⟩
  rw [HC.out]
  have HR1 := Lib.hid (H.out.keep (hg1.block g H.out.lt (by simp)))
  have HJ1 := Lib.hid (HJ.out.keep (hg1.block _ HJ.out.lt (by simp)))
  have HG1 := Lib.hid (grownBy_trans HG.out (grownBy_none (g := g) hg1))
  clear hg1 H HJ HG
  go_wp2_with fail
  refine (text_at g p d s us _ HR1.out hs HL.out HU.out).mono ?_
  rintro e w2 ⟨rfl, hr2, hg2⟩
  have HG2 := Lib.hid (grownBy_trans HG1.out hg2)
  have HR2 := Lib.hid hr2
  have HJ2 := Lib.hid (HJ1.out.keep (hg2.block _ HJ1.out.lt (fun e => by injection e with e; omega)))
  clear hr2 hg2 HJ1 HR1 HG1
  have z0 := HJ2.out.c0
  have z1 := HJ2.out.c1
  have z2 := HJ2.out.c2
  have z3 := HJ2.out.c3
  have y0 := HJ2.out.fz 0
  have y1 := HJ2.out.fz 1
  have y2 := HJ2.out.fz 2
  have y3 := HJ2.out.fz 3
  go_wp2_with fail
  (try simp only [Exit.inBlock, Exit.then])
  refine bodyPost_ret (results_jb rfl rfl (HJ2.out.set 115 _ _ _)) ?_ ?_
  · rfl
  · refine ⟨.slice none 0 0, rfl, rows_nil f _ _, ?_, grownBy_set4 HG2.out (Nat.le_refl _) _ _ _ _⟩
    have e9 : p + 2 + (flat us).length = p + ((flat us ++ [34]).length + 1) := by simp; omega
    rw [← e9]
    exact HR2.out.keep (set4_other _ _ _ _ _ _ _ (by omega))

set_option maxRecDepth 100000 in
set_option maxHeartbeats 1600000 in
theorem inner_num (f g p d : Nat) (s : ByteArray) (t : List Int) (w : World) (h : Rd w g s p d) (hs : s.size ≤ 100000) (ht : NumTxt t) (hl : LiesAt s p t) (hst : Stop (byteAt s (p + t.length))) :
    Calls Tryz.prog 22 #[.pointer (some ⟨g, 0, none⟩)] w (InPost (.mk 48 (strOfNums (valL t)) [] (strOfNums t)) (f + 1) g (p + t.length) d s w) := by
  have hcut := hl.cut
  have hbs := bytesL_str hl.byte
  have hna := num_at ht hl hst
  obtain ⟨c, r, e, hcd⟩ := num_opens ht
  have hq : p < s.size ∧ byteAt s p = c := by rw [e] at hl; exact hl.head
  obtain ⟨hq, hc⟩ := hq
  have HNA := Lib.hid hna
  have HCUT := Lib.hid hcut
  have HBS := Lib.hid hbs
  obtain ⟨W1, hW1⟩ : ∃ W, w.alloc (.cells #[.int .u8 0, .string ⟨#[]⟩, .slice none 0 0, .string ⟨#[]⟩] 27) = W := ⟨_, rfl⟩
  have hj1 : JB W1 w.heap.size 0 ⟨#[]⟩ (.slice none 0 0) ⟨#[]⟩ := by rw [← hW1]; exact JB.new w
  have hr1 : Rd W1 g s p d := by rw [← hW1]; exact h.alloc _
  have hg1 : w.grownBy W1 (some g) := by rw [← hW1]; exact World.grownBy_alloc _ _ _
  have hlt := h.lt
  have HJ := Lib.hid hj1
  have H := Lib.hid hr1
  have HG := Lib.hid hg1
  have HC := Lib.hid hc
  have hcb := byteAt_bound s p
  rw [hc] at hcb
  obtain ⟨hcb0, hcb1⟩ := hcb
  clear hl h hc ht hj1 hr1 hg1 hna hcut hbs hst e
  go_enter Tryz.func22, Tryz.ntmps22
  go_wp2_with fail
  refine (peek_at g p d s _ H.out (by omega)).mono ?_
  rintro e w1 ⟨rfl, hg1⟩
  rw [HC.out]
  have HR1 := Lib.hid (H.out.keep (hg1.block g H.out.lt (by simp)))
  have HJ1 := Lib.hid (HJ.out.keep (hg1.block _ HJ.out.lt (by simp)))
  have HG1 := Lib.hid (grownBy_trans HG.out (grownBy_none (g := g) hg1))
  clear hg1 H HJ HG
  have f0 : (c == 34) = false := by unfold isDg at hcd; simp; omega
  by_cases h45 : c = 45
  · subst h45
    go_wp2_with fail
    refine (number_at g p (p + t.length) d s _ HR1.out hs HNA.out).mono ?_
    rintro e w2 ⟨rfl, hr2, hg2⟩
    rw [HCUT.out, HBS.out]
    have HG2 := Lib.hid (grownBy_trans HG1.out hg2)
    have HR2 := Lib.hid hr2
    have HJ2 := Lib.hid (HJ1.out.keep (hg2.block _ HJ1.out.lt (fun e => by injection e with e; omega)))
    clear hr2 hg2 HJ1 HR1 HG1
    have z0 := HJ2.out.c0
    have z1 := HJ2.out.c1
    have z2 := HJ2.out.c2
    have z3 := HJ2.out.c3
    have y0 := HJ2.out.fz 0
    have y1 := HJ2.out.fz 1
    have y2 := HJ2.out.fz 2
    have y3 := HJ2.out.fz 3
    go_wp2_with fail
    (try simp only [Exit.inBlock, Exit.then])
    refine bodyPost_ret (results_jb rfl rfl (HJ2.out.set 48 _ _ _)) ?_ ?_
    · rfl
    · exact ⟨.slice none 0 0, rfl, rows_nil f _ _, HR2.out.keep (set4_other _ _ _ _ _ _ _ (by omega)), grownBy_set4 HG2.out (Nat.le_refl _) _ _ _ _⟩
  · have hdg : isDg c := hcd.resolve_left h45
    have f1 : (c == 45) = false := by simpa using h45
    have e1 : decide (48 ≤ c ∧ c ≤ 57) = true := decide_eq_true hdg
    clear hcd
    go_wp2_with fail
    refine (isDigit_at c _ ⟨hcb0, hcb1⟩).mono ?_
    rintro e w2 ⟨rfl, rfl⟩
    rw [e1]
    clear e1
    go_wp2_with fail
    refine (number_at g p (p + t.length) d s _ HR1.out hs HNA.out).mono ?_
    rintro e w2 ⟨rfl, hr2, hg2⟩
    rw [HCUT.out, HBS.out]
    have HG2 := Lib.hid (grownBy_trans HG1.out hg2)
    have HR2 := Lib.hid hr2
    have HJ2 := Lib.hid (HJ1.out.keep (hg2.block _ HJ1.out.lt (fun e => by injection e with e; omega)))
    clear hr2 hg2 HJ1 HR1 HG1
    have z0 := HJ2.out.c0
    have z1 := HJ2.out.c1
    have z2 := HJ2.out.c2
    have z3 := HJ2.out.c3
    have y0 := HJ2.out.fz 0
    have y1 := HJ2.out.fz 1
    have y2 := HJ2.out.fz 2
    have y3 := HJ2.out.fz 3
    go_wp2_with fail
    (try simp only [Exit.inBlock, Exit.then])
    refine bodyPost_ret (results_jb rfl rfl (HJ2.out.set 48 _ _ _)) ?_ ?_
    · rfl
    · exact ⟨.slice none 0 0, rfl, rows_nil f _ _, HR2.out.keep (set4_other _ _ _ _ _ _ _ (by omega)), grownBy_set4 HG2.out (Nat.le_refl _) _ _ _ _⟩

/-- The words, and how they begin. -/
def litW : List (List Int) := [[110, 117, 108, 108], [116, 114, 117, 101], [102, 97, 108, 115, 101]]
theorem ba_beq {a b : ByteArray} (h : (a == b) = true) : a = b := by
  cases a with | mk a => cases b with | mk b =>
  have : (a == b) = true := h
  rw [eq_of_beq this]
theorem lit_ne {s : ByteArray} {p n : Nat} {c : Int} {l : List Int} {u : ByteArray} (hp : p < s.size) (hc : byteAt s p = c) (hn : 0 < n) (hu : u = strOfNums l) (hl : l.headD 0 ≠ c) (hb : ∀ x ∈ l, byteN x) (hln : l ≠ []) : s.extract p (p + n) ≠ u := by
  intro e
  have h1 : bytesL (s.extract p (p + n)) = l := by rw [e, hu, bytesL_str hb]
  have h2 : (bytesL (s.extract p (p + n))).headD 0 = c := by
    conv => lhs; rw [← str_bytesL s]
    rw [str_extract, bytesL_str (fun x hx => bytesL_byte s x (List.mem_of_mem_take (List.mem_of_mem_drop hx)))]
    have hl2 : p < (bytesL s).length := by rw [bytesL_length]; exact hp
    rw [List.drop_take, List.drop_eq_getElem_cons hl2, show p + n - p = (n - 1) + 1 from by omega, List.take_succ_cons, List.headD_cons, ← hc]
    unfold byteAt
    rw [List.getD_eq_getElem?_getD, List.getElem?_eq_getElem hl2]
    rfl
  rw [h1] at h2
  exact hl h2

theorem toList_inj {a b : ByteArray} (h : a.toList = b.toList) : a = b := by
  rw [ByteArray.toList_eq, ByteArray.toList_eq] at h
  exact ByteArray.ext (Array.ext' h)
theorem lit_neL {s : ByteArray} {p n : Nat} {c : Int} {l : List Int} {u : ByteArray} {ul : List UInt8} (hul : u.toList = ul) (hp : p < s.size) (hc : byteAt s p = c) (hn : 0 < n) (hu : u = strOfNums l) (hl : l.headD 0 ≠ c) (hb : ∀ x ∈ l, byteN x) (hln : l ≠ []) : ((s.extract p (p + n)).toList == ul) = false := by
  rw [← hul]
  rw [beq_eq_false_iff_ne]
  exact fun e => lit_ne hp hc hn hu hl hb hln (toList_inj e)

set_option maxRecDepth 100000 in
set_option maxHeartbeats 3200000 in
theorem inner_lit (f g p d : Nat) (s : ByteArray) (t : List Int) (w : World) (h : Rd w g s p d) (hs : s.size ≤ 100000) (ht : t ∈ jlitL) (hl : LiesAt s p t) :
    Calls Tryz.prog 22 #[.pointer (some ⟨g, 0, none⟩)] w (InPost (.mk (t.headD 0) ⟨#[]⟩ [] ⟨#[]⟩) (f + 1) g (p + t.length) d s w) := by
  obtain ⟨W1, hW1⟩ : ∃ W, w.alloc (.cells #[.int .u8 0, .string ⟨#[]⟩, .slice none 0 0, .string ⟨#[]⟩] 27) = W := ⟨_, rfl⟩
  have hj1 : JB W1 w.heap.size 0 ⟨#[]⟩ (.slice none 0 0) ⟨#[]⟩ := by rw [← hW1]; exact JB.new w
  have hr1 : Rd W1 g s p d := by rw [← hW1]; exact h.alloc _
  have hg1 : w.grownBy W1 (some g) := by rw [← hW1]; exact World.grownBy_alloc _ _ _
  have hlt := h.lt
  have HJ := Lib.hid hj1
  have H := Lib.hid hr1
  have HG := Lib.hid hg1
  have HCUT := Lib.hid hl.cut
  have hsz := hl.1
  simp only [jlitL, List.mem_cons, List.not_mem_nil, or_false] at ht
  obtain ⟨c, hc, hcc⟩ : ∃ c, byteAt s p = c ∧ (c = 110 ∨ c = 116 ∨ c = 102) := by
    rcases ht with rfl | rfl | rfl
    · exact ⟨110, hl.head.2, by omega⟩
    · exact ⟨116, hl.head.2, by omega⟩
    · exact ⟨102, hl.head.2, by omega⟩
  have HC := Lib.hid hc
  have HL := Lib.hid hl
  clear hl h hc hj1 hr1 hg1
  have f0 : (c == 34) = false := by simp; omega
  have f1 : (c == 45) = false := by simp; omega
  have f2 : (c == 91) = false := by simp; omega
  have f3 : (c == 123) = false := by simp; omega
  have e1 : decide (48 ≤ c ∧ c ≤ 57) = false := decide_eq_false (by omega)
  go_enter Tryz.func22, Tryz.ntmps22
  go_wp2_with fail
  refine (peek_at g p d s _ H.out (by omega)).mono ?_
  rintro e w1 ⟨rfl, hg1⟩
  rw [HC.out]
  have HR1 := Lib.hid (H.out.keep (hg1.block g H.out.lt (by simp)))
  have HJ1 := Lib.hid (HJ.out.keep (hg1.block _ HJ.out.lt (by simp)))
  have HG1 := Lib.hid (grownBy_trans HG.out (grownBy_none (g := g) hg1))
  clear hg1 H HJ HG
  go_wp2_with fail
  refine (isDigit_at c _ ⟨by omega, by omega⟩).mono ?_
  rintro e w2 ⟨rfl, rfl⟩
  rw [e1]
  clear e1
  go_wp2_with fail
  go_loopw [50] (fun v50 wr => ∃ j : Nat, j < 3 ∧ v50 = .int .i64 (j : Nat) ∧ RowKit.Hid (∀ i, i < j → (litW.getD i []).headD 0 ≠ c) ∧ RowKit.Hid (w1.grownBy wr none) ∧ RowKit.Hid (wr.heap[w1.heap.size]? = some (.cells #[.string ⟨#[110, 117, 108, 108]⟩, .string ⟨#[116, 114, 117, 101]⟩, .string ⟨#[102, 97, 108, 115, 101]⟩] 9 (0, 0)))) (fun v50 _ => 3 - (intOf v50).toNat)
  case atStart => exact ⟨0, by omega, rfl, Lib.hid (fun i h => absurd h (by omega)), Lib.hid (World.grownBy_alloc _ _ _), Lib.hid (heap_alloc_new w1 _)⟩
  case round =>
    obtain ⟨j, hj, rfl, HN, HGR, HW⟩ := hrel
    have HRr := Lib.hid (HR1.out.keep (HGR.out.block g HR1.out.lt (by simp)))
    have HJr := Lib.hid (HJ1.out.keep (HGR.out.block _ HJ1.out.lt (by simp)))
    have HGr := Lib.hid (grownBy_trans HG1.out (grownBy_none (g := g) HGR.out))
    have q0 := fun i => cell_of_row wr w1.heap.size i _ _ _ HW.out
    have k0 := HRr.out.c0
    have k1 := HRr.out.c1
    have kf := HRr.out.fz 1
    have z0 := HJr.out.c0
    have z1 := HJr.out.c1
    have z2 := HJr.out.c2
    have z3 := HJr.out.c3
    have y0 := HJr.out.fz 0
    have y1 := HJr.out.fz 1
    have y2 := HJr.out.fz 2
    have y3 := HJr.out.fz 3
    have hj3 : j = 0 ∨ j = 1 ∨ j = 2 := by omega
    rcases ht with rfl | rfl | rfl
    · obtain rfl : c = 110 := by rw [← HC.out]; exact HL.out.head.2
      have hcut : s.extract p (p + 4) = ⟨#[110, 117, 108, 108]⟩ := HCUT.out
      have hsz2 : p + 4 ≤ s.size := hsz
      rcases hj3 with rfl | rfl | rfl
      · have q00 := q0 0
        go_wp2_with fail
        have i0 : ((p : Nat) : Int) + 4 ≤ (s.size : Int) := by omega
        have i1 : IntKind.i64.wrap ((p : Int) + 4) = (p : Int) + 4 := IntWalk.i64_in _ (by omega)
        have i2 : ((p : Int) + 4).toNat = p + 4 := by omega
        have i3 : (0 : Int) ≤ (p : Int) + 4 := by omega
        have i4 : (p : Int) ≤ (p : Int) + 4 := by omega
        have i5 : decide ((p : Int) + 4 ≤ (s.size : Int)) = true := decide_eq_true i0
        go_quiet (fail)
        clear i0 i1 i2 i3 i4 i5
        go_wp2_with fail
        (try simp only [Exit.inBlock, Exit.then])
        have HJ9 : JB ((wr.drewN nq).setCell ⟨g, 1, none⟩ (.int .i64 ((p : Int) + 4))) w.heap.size 0 ⟨#[]⟩ (.slice none 0 0) ⟨#[]⟩ := HJr.out.keep (Below.heap_setCell _ _ _ _ (show w.heap.size ≠ g by omega))
        refine bodyPost_ret (results_jb rfl rfl (HJ9.set 110 _ _ _)) ?_ ?_
        · rfl
        · exact ⟨.slice none 0 0, rfl, rows_nil f _ _, ((show Rd (wr.drewN nq) g s p d from HRr.out.keep rfl).at_ (p + 4)).keep (set4_other _ _ _ _ _ _ _ (by omega)), grownBy_set4 (grownBy_trans HGr.out (grownBy_drewN (n := nq) (grownBy_at (wr.drewN nq) g (p + 4)))) (Nat.le_refl _) _ _ _ _⟩
      · exact absurd rfl (HN.out 0 (by omega))
      · exact absurd rfl (HN.out 0 (by omega))
    · obtain rfl : c = 116 := by rw [← HC.out]; exact HL.out.head.2
      have hcut : s.extract p (p + 4) = ⟨#[116, 114, 117, 101]⟩ := HCUT.out
      have hsz2 : p + 4 ≤ s.size := hsz
      rcases hj3 with rfl | rfl | rfl
      · have q00 := q0 0
        go_wp2_with fail
        have i0 : ((p : Nat) : Int) + 4 ≤ (s.size : Int) := by omega
        have i1 : IntKind.i64.wrap ((p : Int) + 4) = (p : Int) + 4 := IntWalk.i64_in _ (by omega)
        have i2 : ((p : Int) + 4).toNat = p + 4 := by omega
        have i3 : (0 : Int) ≤ (p : Int) + 4 := by omega
        have i4 : (p : Int) ≤ (p : Int) + 4 := by omega
        have i5 : decide ((p : Int) + 4 ≤ (s.size : Int)) = true := decide_eq_true i0
        have hne : ((s.extract p (p + 4)).toList == ([110, 117, 108, 108] : List UInt8)) = false := lit_neL (ul := [110, 117, 108, 108]) (by rw [ByteArray.toList_eq]) (by omega) HC.out (by omega) (show (⟨#[110, 117, 108, 108]⟩ : ByteArray) = strOfNums [110, 117, 108, 108] from rfl) (by decide) (by intro x hx; unfold byteN; simp at hx; omega) (by simp)
        go_quiet (fail)
        clear i0 i1 i2 i3 i4 i5
        have hno : ∀ i, i < 1 → (litW.getD i []).headD 0 ≠ 116 := by
          intro i hi
          have hx : i = 0 := by omega
          rcases hx with rfl <;> decide
        have HNO := Lib.hid hno
        clear hno
        go_wp2_with fail
        go_roundw
        case rel => exact ⟨1, by omega, by rfl, HNO, Lib.hid ⟨HGR.out.os, HGR.out.tape, HGR.out.output, HGR.out.size, HGR.out.block⟩, Lib.hid HW.out⟩
        case measure => exact (by decide : (3 - 1 : Nat) < 3 - 0)
      · have q00 := q0 1
        go_wp2_with fail
        have i0 : ((p : Nat) : Int) + 4 ≤ (s.size : Int) := by omega
        have i1 : IntKind.i64.wrap ((p : Int) + 4) = (p : Int) + 4 := IntWalk.i64_in _ (by omega)
        have i2 : ((p : Int) + 4).toNat = p + 4 := by omega
        have i3 : (0 : Int) ≤ (p : Int) + 4 := by omega
        have i4 : (p : Int) ≤ (p : Int) + 4 := by omega
        have i5 : decide ((p : Int) + 4 ≤ (s.size : Int)) = true := decide_eq_true i0
        go_quiet (fail)
        clear i0 i1 i2 i3 i4 i5
        go_wp2_with fail
        (try simp only [Exit.inBlock, Exit.then])
        have HJ9 : JB ((wr.drewN nq).setCell ⟨g, 1, none⟩ (.int .i64 ((p : Int) + 4))) w.heap.size 0 ⟨#[]⟩ (.slice none 0 0) ⟨#[]⟩ := HJr.out.keep (Below.heap_setCell _ _ _ _ (show w.heap.size ≠ g by omega))
        refine bodyPost_ret (results_jb rfl rfl (HJ9.set 116 _ _ _)) ?_ ?_
        · rfl
        · exact ⟨.slice none 0 0, rfl, rows_nil f _ _, ((show Rd (wr.drewN nq) g s p d from HRr.out.keep rfl).at_ (p + 4)).keep (set4_other _ _ _ _ _ _ _ (by omega)), grownBy_set4 (grownBy_trans HGr.out (grownBy_drewN (n := nq) (grownBy_at (wr.drewN nq) g (p + 4)))) (Nat.le_refl _) _ _ _ _⟩
      · exact absurd rfl (HN.out 1 (by omega))
    · obtain rfl : c = 102 := by rw [← HC.out]; exact HL.out.head.2
      have hcut : s.extract p (p + 5) = ⟨#[102, 97, 108, 115, 101]⟩ := HCUT.out
      have hsz2 : p + 5 ≤ s.size := hsz
      rcases hj3 with rfl | rfl | rfl
      · have q00 := q0 0
        go_wp2_with fail
        have i0 : ((p : Nat) : Int) + 4 ≤ (s.size : Int) := by omega
        have i1 : IntKind.i64.wrap ((p : Int) + 4) = (p : Int) + 4 := IntWalk.i64_in _ (by omega)
        have i2 : ((p : Int) + 4).toNat = p + 4 := by omega
        have i3 : (0 : Int) ≤ (p : Int) + 4 := by omega
        have i4 : (p : Int) ≤ (p : Int) + 4 := by omega
        have i5 : decide ((p : Int) + 4 ≤ (s.size : Int)) = true := decide_eq_true i0
        have hne : ((s.extract p (p + 4)).toList == ([110, 117, 108, 108] : List UInt8)) = false := lit_neL (ul := [110, 117, 108, 108]) (by rw [ByteArray.toList_eq]) (by omega) HC.out (by omega) (show (⟨#[110, 117, 108, 108]⟩ : ByteArray) = strOfNums [110, 117, 108, 108] from rfl) (by decide) (by intro x hx; unfold byteN; simp at hx; omega) (by simp)
        go_quiet (fail)
        clear i0 i1 i2 i3 i4 i5
        have hno : ∀ i, i < 1 → (litW.getD i []).headD 0 ≠ 102 := by
          intro i hi
          have hx : i = 0 := by omega
          rcases hx with rfl <;> decide
        have HNO := Lib.hid hno
        clear hno
        go_wp2_with fail
        go_roundw
        case rel => exact ⟨1, by omega, by rfl, HNO, Lib.hid ⟨HGR.out.os, HGR.out.tape, HGR.out.output, HGR.out.size, HGR.out.block⟩, Lib.hid HW.out⟩
        case measure => exact (by decide : (3 - 1 : Nat) < 3 - 0)
      · have q00 := q0 1
        go_wp2_with fail
        have i0 : ((p : Nat) : Int) + 4 ≤ (s.size : Int) := by omega
        have i1 : IntKind.i64.wrap ((p : Int) + 4) = (p : Int) + 4 := IntWalk.i64_in _ (by omega)
        have i2 : ((p : Int) + 4).toNat = p + 4 := by omega
        have i3 : (0 : Int) ≤ (p : Int) + 4 := by omega
        have i4 : (p : Int) ≤ (p : Int) + 4 := by omega
        have i5 : decide ((p : Int) + 4 ≤ (s.size : Int)) = true := decide_eq_true i0
        have hne : ((s.extract p (p + 4)).toList == ([116, 114, 117, 101] : List UInt8)) = false := lit_neL (ul := [116, 114, 117, 101]) (by rw [ByteArray.toList_eq]) (by omega) HC.out (by omega) (show (⟨#[116, 114, 117, 101]⟩ : ByteArray) = strOfNums [116, 114, 117, 101] from rfl) (by decide) (by intro x hx; unfold byteN; simp at hx; omega) (by simp)
        go_quiet (fail)
        clear i0 i1 i2 i3 i4 i5
        have hno : ∀ i, i < 2 → (litW.getD i []).headD 0 ≠ 102 := by
          intro i hi
          have hx : i = 0 ∨ i = 1 := by omega
          rcases hx with rfl | rfl <;> decide
        have HNO := Lib.hid hno
        clear hno
        go_wp2_with fail
        go_roundw
        case rel => exact ⟨2, by omega, by rfl, HNO, Lib.hid ⟨HGR.out.os, HGR.out.tape, HGR.out.output, HGR.out.size, HGR.out.block⟩, Lib.hid HW.out⟩
        case measure => exact (by decide : (3 - 2 : Nat) < 3 - 1)
      · have q00 := q0 2
        go_wp2_with fail
        have i0 : ((p : Nat) : Int) + 5 ≤ (s.size : Int) := by omega
        have i1 : IntKind.i64.wrap ((p : Int) + 5) = (p : Int) + 5 := IntWalk.i64_in _ (by omega)
        have i2 : ((p : Int) + 5).toNat = p + 5 := by omega
        have i3 : (0 : Int) ≤ (p : Int) + 5 := by omega
        have i4 : (p : Int) ≤ (p : Int) + 5 := by omega
        have i5 : decide ((p : Int) + 5 ≤ (s.size : Int)) = true := decide_eq_true i0
        go_quiet (fail)
        clear i0 i1 i2 i3 i4 i5
        go_wp2_with fail
        (try simp only [Exit.inBlock, Exit.then])
        have HJ9 : JB ((wr.drewN nq).setCell ⟨g, 1, none⟩ (.int .i64 ((p : Int) + 5))) w.heap.size 0 ⟨#[]⟩ (.slice none 0 0) ⟨#[]⟩ := HJr.out.keep (Below.heap_setCell _ _ _ _ (show w.heap.size ≠ g by omega))
        refine bodyPost_ret (results_jb rfl rfl (HJ9.set 102 _ _ _)) ?_ ?_
        · rfl
        · exact ⟨.slice none 0 0, rfl, rows_nil f _ _, ((show Rd (wr.drewN nq) g s p d from HRr.out.keep rfl).at_ (p + 5)).keep (set4_other _ _ _ _ _ _ _ (by omega)), grownBy_set4 (grownBy_trans HGr.out (grownBy_drewN (n := nq) (grownBy_at (wr.drewN nq) g (p + 5)))) (Nat.le_refl _) _ _ _ _⟩

end Go.Proofs.YthoekplablhgfaaGreatDoor
