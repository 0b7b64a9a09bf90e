/-
  The contracts of bytes.Buffer's tryGrowByReslice, grow and Write.
-/
import Derived.Test.YthoekplablhgfaaGreatDoorJShelf
import Derived.Test.YthoekplablhgfaaGreatDoorJNext0
import Derived.Test.YthoekplablhgfaaGreatDoorMDig
import Derived.Lib.BufferMore
namespace Go.Proofs.YthoekplablhgfaaGreatDoor
open Go.RowKit
set_option linter.unusedVariables false

/-- The buffer at block b holds the bytes bs, in row r. -/
def OutB (w : World) (b : Nat) (r : Option Nat) (bs : List Int) : Prop :=
  ∃ lr, (r = none ∧ bs = [] ∧ w.heap[b]? = some (.cells #[.slice none 0 0, .int .i64 0, .int .i8 lr] 61 (0, 0))) ∨
    ∃ g cap tl, r = some g ∧ w.heap[b]? = some (.cells #[.slice (some ⟨g, 0, none⟩) bs.length cap, .int .i64 0, .int .i8 lr] 61 (0, 0)) ∧ Buf w g bs tl ∧ bs.length + tl.length = cap ∧ cap ≤ maxLen ∧ g ≠ b
/-- A block of the buffer's shape. -/
def BB (w : World) (b : Nat) (v : Value) (lr : Int) : Prop := w.heap[b]? = some (.cells #[v, .int .i64 0, .int .i8 lr] 61 (0, 0))
section
variable {w w' : World} {b : Nat} {v : Value} {lr : Int}
theorem BB.c0 (h : BB w b v lr) : w.cell? ⟨b, 0, none⟩ = some v := by rw [cell_of_row w b 0 _ _ _ h]; rfl
theorem BB.c1 (h : BB w b v lr) : w.cell? ⟨b, 1, none⟩ = some (.int .i64 0) := by rw [cell_of_row w b 1 _ _ _ h]; rfl
theorem BB.c2 (h : BB w b v lr) : w.cell? ⟨b, 2, none⟩ = some (.int .i8 lr) := by rw [cell_of_row w b 2 _ _ _ h]; rfl
theorem BB.fz (h : BB w b v lr) (k : Nat) : w.frozen? ⟨b, k, none⟩ = false := by simp [World.frozen?, show w.heap[b]? = _ from h]
theorem BB.lt (h : BB w b v lr) : b < w.heap.size := (Array.getElem?_eq_some_iff.1 (show w.heap[b]? = _ from h)).1
theorem BB.keep (h : BB w b v lr) (hk : w'.heap[b]? = w.heap[b]?) : BB w' b v lr := hk.trans h
theorem BB.put0 (h : BB w b v lr) (v' : Value) : BB (w.setCell ⟨b, 0, none⟩ v') b v' lr := (heap_set (show w.heap[b]? = _ from h) _).trans rfl
theorem BB.put1 (h : BB w b v lr) : BB (w.setCell ⟨b, 1, none⟩ (.int .i64 0)) b v lr := (heap_set (show w.heap[b]? = _ from h) _).trans rfl
theorem BB.put2 (h : BB w b v lr) (x : Int) : BB (w.setCell ⟨b, 2, none⟩ (.int .i8 x)) b v x := (heap_set (show w.heap[b]? = _ from h) _).trans rfl
end

set_option maxRecDepth 100000 in
/-- There is room. -/
theorem try_yes (b g l cap n : Nat) (lr : Int) (w : World) (hb : BB w b (.slice (some ⟨g, 0, none⟩) l cap) lr) (hroom : l + n ≤ cap) (hcm : cap ≤ maxLen) :
    Calls Tryz.prog 141 #[.pointer (some ⟨b, 0, none⟩), .int .i64 (n : Nat)] w fun e w' => e = .returned (.tuple #[.int .i64 (l : Nat), .bool true]) ∧ BB w' b (.slice (some ⟨g, 0, none⟩) (l + n) cap) lr ∧ w.grownBy w' (some b) := by
  have k0 := hb.c0
  have kf := hb.fz 0
  have HB := Lib.hid hb
  unfold maxLen at hcm
  have i1 : ((n : Nat) : Int) ≤ ((cap : Nat) : Int) - ((l : Nat) : Int) := by omega
  have i2 : ((l : Nat) : Int) + ((n : Nat) : Int) ≤ ((cap : Nat) : Int) := by omega
  clear hb
  go_enter Tryz.func141, Tryz.ntmps141
  go_wp2_with fail
  go_ret2
  exact ⟨rfl, HB.out.put0 _, moved_set _ _ _ _⟩

set_option maxRecDepth 100000 in
/-- There is none. -/
theorem try_no (b l cap n : Nat) (ao : Option Addr) (lr : Int) (w : World) (hb : BB w b (.slice ao l cap) lr) (hroom : cap < l + n) (hl : l ≤ cap) (hcm : cap ≤ maxLen) :
    Calls Tryz.prog 141 #[.pointer (some ⟨b, 0, none⟩), .int .i64 (n : Nat)] w fun e w' => e = .returned (.tuple #[.int .i64 0, .bool false]) ∧ w = w' := by
  have k0 := hb.c0
  unfold maxLen at hcm
  have i1 : ¬ ((n : Nat) : Int) ≤ ((cap : Nat) : Int) - ((l : Nat) : Int) := by omega
  clear hb
  go_enter Tryz.func141, Tryz.ntmps141
  go_wp2_with fail
  go_ret2
  exact ⟨rfl, rfl⟩

set_option maxRecDepth 100000 in
theorem Len_at (b l cap : Nat) (ao : Option Addr) (lr : Int) (w : World) (hb : BB w b (.slice ao l cap) lr) (hl : l ≤ maxLen) :
    Calls Tryz.prog 143 #[.pointer (some ⟨b, 0, none⟩)] w fun e w' => e = .returned (.int .i64 (l : Nat)) ∧ ∃ k, w' = w.drewN k := by
  have k0 := hb.c0
  have k1 := hb.c1
  unfold maxLen at hl
  have i1 : IntKind.i64.wrap (((l : Nat) : Int) - 0) = ((l : Nat) : Int) := by rw [IntWalk.i64_in _ (by omega)]; omega
  clear hb
  go_enter Tryz.func143, Tryz.ntmps143
  go_wp2_with fail
  go_quiet (fail)
  go_wp2_with fail
  go_ret
  exact ⟨rfl, _, rfl⟩

theorem growSlice_row (g l c n : Nat) (cur : Array Value) (w : World) (hg : w.heap[g]? = some (.cells cur 5 (0, 0))) (hcs : cur.size = c) (hlc : l ≤ c) (hn : 1 ≤ n)
    (hlim : l + n ≤ 140737488355328) (hc2 : c ≤ 140737488355328) (h1 : ∀ v ∈ cur.toList.take l, v.oneCell' = true) :
    Calls Tryz.prog 144 #[.slice (some ⟨g, 0, none⟩) l c, .int .i64 n] w fun e w' => ∃ cap2 cells, e = .returned (.slice (some ⟨w.heap.size, 0, none⟩) l cap2) ∧ w'.heap[w.heap.size]? = some (.cells cells 5 (0, 0)) ∧
      cells.size = cap2 ∧ cells.toList.take l = cur.toList.take l ∧ l + n ≤ cap2 ∧ cap2 ≤ maxLen ∧ Below w.heap.size w w' :=
  Any.bytes_growSlice_row Tryz.laysM290 g l c n cur w hg hcs hlc hn hlim hc2 h1
theorem growSlice_nil (n : Nat) (w : World) (hn : 1 ≤ n) (hlim : n ≤ 140737488355328) :
    Calls Tryz.prog 144 #[.slice none 0 0, .int .i64 n] w fun e w' => ∃ cap2 cells, e = .returned (.slice (some ⟨w.heap.size, 0, none⟩) 0 cap2) ∧ w'.heap[w.heap.size]? = some (.cells cells 5 (0, 0)) ∧
      cells.size = cap2 ∧ n ≤ cap2 ∧ cap2 ≤ maxLen ∧ Below w.heap.size w w' :=
  Any.bytes_growSlice_nil Tryz.laysM290 n w hn hlim

set_option maxRecDepth 100000 in
set_option maxHeartbeats 3200000 in
/-- grow, of a row: a new one. -/
theorem grow_row (b g l cap n : Nat) (lr : Int) (cur : Array Value) (w : World) (hb : BB w b (.slice (some ⟨g, 0, none⟩) l cap) lr) (hg : w.heap[g]? = some (.cells cur 5 (0, 0))) (hcs : cur.size = cap) (hl : l ≤ cap) (hn : 1 ≤ n) (hno : cap < l + n) (hlim : l + n ≤ 1000000000) (h1 : ∀ v ∈ cur.toList.take l, v.oneCell' = true) :
    Calls Tryz.prog 142 #[.pointer (some ⟨b, 0, none⟩), .int .i64 (n : Nat)] w fun e w' => e = .returned (.int .i64 (l : Nat)) ∧ ∃ cap2 cells, BB w' b (.slice (some ⟨w.heap.size, 0, none⟩) (l + n) cap2) lr ∧ w'.heap[w.heap.size]? = some (.cells cells 5 (0, 0)) ∧ cells.size = cap2 ∧ cells.toList.take l = cur.toList.take l ∧ l + n ≤ cap2 ∧ cap2 ≤ maxLen ∧ w.grownBy w' (some b) := by
  have hcm : cap ≤ maxLen := by unfold maxLen; omega
  have HB := Lib.hid hb
  have hblt := hb.lt
  have hgb : g ≠ b := by
    rintro rfl
    rw [show w.heap[g]? = _ from hb] at hg
    simp at hg
  have hglt : g < w.heap.size := (Array.getElem?_eq_some_iff.1 hg).1
  have HGG := Lib.hid hg
  have H1 := Lib.hid h1
  clear hb hg h1
  go_enter Tryz.func142, Tryz.ntmps142
  go_wp2_with fail
  refine (Len_at b l cap _ lr w HB.out (by omega)).mono ?_
  rintro e w1 ⟨rfl, k, rfl⟩
  obtain ⟨w1, hw1⟩ : ∃ W, w.drewN k = W := ⟨_, rfl⟩
  have HB1 := Lib.hid (show BB w1 b (.slice (some ⟨g, 0, none⟩) l cap) lr from by rw [← hw1]; exact HB.out.keep rfl)
  have HG1 := Lib.hid (show w1.heap[g]? = some (.cells cur 5 (0, 0)) from by rw [← hw1]; exact HGG.out)
  have HW1 := Lib.hid (show w.grownBy w1 (some b) from by rw [← hw1]; exact ⟨rfl, rfl, rfl, Nat.le_refl _, fun _ _ _ => rfl⟩)
  have hsz1 : w1.heap.size = w.heap.size := by rw [← hw1]; rfl
  rw [hw1]
  clear hw1
  have k1 := HB1.out.c1
  have k0 := HB1.out.c0
  go_upto_region 2 with (fail)
  go_cut [19] from 11 to 18 (fun v19 wd => v19 = .bool false ∧ wd = w1)
  case first =>
    by_cases h0 : l = 0
    · subst h0
      go_wp2_with fail
      go_meet
      case rel => exact ⟨rfl, rfl⟩
    · have f0 : (((l : Nat) : Int) == 0) = false := by simp; omega
      go_wp2_with fail
      go_meet
      case rel => exact ⟨rfl, rfl⟩
  case rest =>
    obtain ⟨rfl, rfl⟩ := hcut
    go_wp2_with fail
    refine (try_no b l cap n _ lr _ HB1.out hno hl hcm).mono ?_
    rintro e w2 ⟨rfl, rfl⟩
    unfold maxLen at hcm
    have i1 : ¬ ((n : Nat) : Int) ≤ ((cap : Nat) : Int) / 2 - ((l : Nat) : Int) := by omega
    have i2 : ¬ (9223372036854775807 : Int) - ((cap : Nat) : Int) - ((n : Nat) : Int) < ((cap : Nat) : Int) := by omega
    have hnil : ∀ W, (binOp .eql 44 (.slice (some ⟨g, 0, none⟩) l cap) (.slice none 0 0)).run Tryz.prog W = .ok (.bool false) W := fun W => Lib.run_eql_slice_some_nil W _ _ _ Tryz.underlying44
    go_upto_region 15 with (fail)
    clear hnil i1 i2
    have HCM := Lib.hid hcm
    go_cut [] from 76 to 94 (fun wd => RowKit.Hid (∃ cap2 cells, BB wd b (.slice (some ⟨w.heap.size, 0, none⟩) l cap2) lr ∧ wd.heap[w.heap.size]? = some (.cells cells 5 (0, 0)) ∧ cells.size = cap2 ∧ cells.toList.take l = cur.toList.take l ∧ l + n ≤ cap2 ∧ cap2 ≤ Go.maxLen ∧ w.grownBy wd (some b)))
    case first =>
      have i3 : IntKind.i64.wrap ((n : Nat) : Int) = ((n : Nat) : Int) := IntWalk.i64_in _ (by omega)
      have HI3 := Lib.hid i3
      clear i3
      have kf := HB1.out.fz 0
      go_wp2_with fail
      go_region_with ((go_at_call 144; rw [HI3.out]; refine (growSlice_row g l cap n cur wc.drew HG1.out hcs hl hn (by omega) (by omega) H1.out).mono ?_; rintro e w3 ⟨cap2, cells, rfl, hc1, hc2, hc3, hc4, hc5, hb3⟩; have HB3 := Lib.hid (HB1.out.keep (show w3.heap[b]? = wc.heap[b]? from hb3.block b HB1.out.lt)); have k3 := HB3.out.c0; have kf3 := HB3.out.fz 0; have HC1 := Lib.hid hc1; have HC3 := Lib.hid hc3; have HBL := Lib.hid hb3; have HC5 := Lib.hid hc5; clear hc1 hc3 hb3 hc5))
      all_goals
        go_wp2_with fail
        go_meet
        case rel =>
          have hq : (wc.drew).heap.size = w.heap.size := hsz1
          have h8 := HC1.out
          have h9 := HBL.out
          rw [hq] at h8
          exact Lib.hid ⟨cap2, cells, by rw [← hq]; exact HB3.out.put0 _, (Below.heap_setCell _ _ _ _ (show w.heap.size ≠ b by omega)).trans h8, hc2, HC3.out, hc4, HC5.out, grownBy_trans HW1.out (grownBy_trans (⟨h9.os, h9.tape, h9.output, h9.size, fun k hk _ => h9.block k hk⟩) (moved_set _ _ _ _))⟩
    case rest =>
      obtain ⟨cap2, cells, hb9, hh9, hz9, ht9, hl9, hm9, hg9⟩ := hcut.out
      obtain ⟨G, hG⟩ : ∃ G, w.heap.size = G := ⟨_, rfl⟩
      rw [hG] at hb9 hh9
      have k90 := hb9.c0
      have k91 := hb9.c1
      have kf0 := hb9.fz 0
      have kf1 := hb9.fz 1
      have hm8 := hm9
      unfold maxLen at hm8
      have i4 : ((l : Nat) : Int) + ((n : Nat) : Int) ≤ ((cap2 : Nat) : Int) := by omega
      have HB9 := Lib.hid hb9
      have HH9 := Lib.hid hh9
      have HG9 := Lib.hid hg9
      have HM9 := Lib.hid hm9
      have HT9 := Lib.hid ht9
      have HGN := Lib.hid hG
      clear hb9 hh9 hg9 hm9 ht9
      go_wp2_with fail
      go_ret
      refine ⟨rfl, cap2, cells, ?_, ?_, hz9, HT9.out, hl9, HM9.out, ?_⟩
      · rw [HGN.out]
        exact HB9.out.put1.put0 _
      · rw [HGN.out]
        exact (Below.heap_setCell _ _ _ _ (show G ≠ b by omega)).trans ((Below.heap_setCell _ _ _ _ (show G ≠ b by omega)).trans HH9.out)
      · exact grownBy_trans (grownBy_trans HG9.out (moved_set _ _ _ _)) (moved_set _ _ _ _)

end Go.Proofs.YthoekplablhgfaaGreatDoor
