/-
  The contract of (*bytes.Reader).Read.
-/
import Derived.Test.YthoekplablhgfaaGreatDoorJWrite
import Derived.Test.YthoekplablhgfaaGreatDoorMEnd
namespace Go.Proofs.YthoekplablhgfaaGreatDoor
open Go.RowKit
set_option linter.unusedVariables false

/-- The reader at block r: its bytes lie in block g (n of them), it stands at i. -/
def Rdr (w : World) (r g n c i : Nat) : Prop :=
  ∃ pr, w.heap[r]? = some (.cells #[.slice (some ⟨g, 0, none⟩) n c, .int .i64 (i : Nat), .int .i64 pr] 97 (0, 0))
/-- What is owned stays so where its row is as it was. -/
theorem own_keep {w w' : World} {base : Nat} {e : TypeId} {size n : Nat} {v : Value} {xs : List Value} (h : w.ownsRow base e size v n xs) (hk : ∀ b, v.ownBlock = some b → w'.heap[b]? = w.heap[b]?) : w'.ownsRow base e size v n xs := by
  refine ⟨h.1, ?_⟩
  rcases h.2 with hn | ⟨g, cap, cur, rfl, hb, hgg, rest⟩
  · exact .inl hn
  · exact .inr ⟨g, cap, cur, rfl, hb, (hk g rfl).trans hgg, rest⟩

set_option maxRecDepth 100000 in
set_option maxHeartbeats 3200000 in
/-- Read where there is something left. -/
theorem Read_at (r g n c i B o L C m : Nat) (bs : List Int) (tl : List Value) (cur : Array Value) (w : World) (hr : Rdr w r g n c i) (hb : Buf w g bs tl) (hbn : bs.length = n) (hin : i < n) (hnc : n ≤ c) (hns : n ≤ 1000000)
    (hB : w.heap[B]? = some (.cells cur 5 (0, 0))) (hfit : o + L ≤ cur.size) (hm : min L (n - i) = m) (hrB : r ≠ B) (hgr : g ≠ r) (hL : 1 ≤ L) (hLm : L ≤ maxLen) :
    Calls Tryz.prog 147 #[.pointer (some ⟨r, 0, none⟩), .slice (some ⟨B, o, none⟩) L C] w fun e w' => e = .returned (.tuple #[.int .i64 (m : Nat), .nilIface]) ∧ Rdr w' r g n c (i + m) ∧
      w'.heap[B]? = some (.cells (cur.toList.take o ++ ((bs.drop i).take m).map (Value.int .u8) ++ cur.toList.drop (o + m)).toArray 5 (0, 0)) ∧ Chg w w' (fun k => k = r ∨ k = B) := by
  obtain ⟨q, hq⟩ : ∃ q, i + m = q := ⟨_, rfl⟩
  rw [hq]
  obtain ⟨pr, hr⟩ := hr
  have k0 : w.cell? ⟨r, 0, none⟩ = some (.slice (some ⟨g, 0, none⟩) n c) := by rw [cell_of_row w r 0 _ _ _ hr]; rfl
  have k1 : w.cell? ⟨r, 1, none⟩ = some (.int .i64 (i : Nat)) := by rw [cell_of_row w r 1 _ _ _ hr]; rfl
  have k2 : w.cell? ⟨r, 2, none⟩ = some (.int .i64 pr) := by rw [cell_of_row w r 2 _ _ _ hr]; rfl
  have kf : ∀ j, w.frozen? ⟨r, j, none⟩ = false := fun j => by simp [World.frozen?, hr]
  have kf1 := kf 1
  have kf2 := kf 2
  have g1 : decide (((n : Nat) : Int) ≤ ((i : Nat) : Int)) = false := by simp; omega
  go_enter Tryz.func147, Tryz.ntmps147
  go_wp2_with fail
  go_quiet (fail)
  go_wp2_with fail
  obtain ⟨W, hW⟩ : ∃ W, (w.drewN nq).setCell ⟨r, 2, none⟩ (.int .i64 (-1)) = W := ⟨_, rfl⟩
  have hrW : W.heap[r]? = some (.cells #[.slice (some ⟨g, 0, none⟩) n c, .int .i64 (i : Nat), .int .i64 (-1)] 97 (0, 0)) := by
    rw [← hW]
    exact (heap_set (show (w.drewN nq).heap[r]? = _ from hr) _).trans rfl
  have hCW : Chg w W (fun k => k = r) := by
    rw [← hW]
    exact ⟨rfl, rfl, rfl, by simp [World.setCell], fun k _ hn => Below.heap_setCell _ _ _ _ (fun e => hn e)⟩
  have hBW : W.heap[B]? = some (.cells cur 5 (0, 0)) := (hCW.block B (Array.getElem?_eq_some_iff.1 hB).1 (fun e => hrB e.symm)).trans hB
  have hbW : Buf W g bs tl := (hCW.block g hb.lt hgr).trans hb
  rw [hW]
  clear hW k0 k1 k2 kf kf1 kf2 g1 hr hB hb
  have k0 : W.cell? ⟨r, 0, none⟩ = some (.slice (some ⟨g, 0, none⟩) n c) := by rw [cell_of_row W r 0 _ _ _ hrW]; rfl
  have k1 : W.cell? ⟨r, 1, none⟩ = some (.int .i64 (i : Nat)) := by rw [cell_of_row W r 1 _ _ _ hrW]; rfl
  have hcl : ((bs.drop i).take m).length = m := by rw [List.length_take, List.length_drop]; omega
  have hml : m ≤ L := by omega
  have hmn : m ≤ n - i := by omega
  have HCW := Lib.hid hCW
  have HRW := Lib.hid hrW
  have HBW := Lib.hid hBW
  have HbW := Lib.hid hbW
  have HCL := Lib.hid hcl
  have HM := Lib.hid hm
  have hsrc : ∀ j v, (((bs.drop i).take m).map (Value.int .u8))[j]? = some v → W.cell? ((⟨g, i, none⟩ : Addr).add j) = some v := fun j v hj => by
    have hjm : j < m := by
      have h8 := (List.getElem?_eq_some_iff.1 hj).1
      rw [List.length_map, hcl] at h8
      exact h8
    rw [show (⟨g, i, none⟩ : Addr).add j = ⟨g, i + j, none⟩ from by unfold Addr.add; split <;> simp_all, hbW.cell (i + j) (by omega), ← hj, List.getElem?_map, List.getElem?_take, if_pos hjm, List.getElem?_drop, List.getElem?_eq_getElem (by omega), List.getD_eq_getElem?_getD, List.getElem?_eq_getElem (by omega)]
    rfl
  have HS := Lib.hid hsrc
  clear hCW hrW hBW hbW hcl hm hsrc
  have i1 : ((i : Nat) : Int) ≤ ((n : Nat) : Int) := by omega
  have i2 : ((n : Nat) : Int) ≤ ((c : Nat) : Int) := by omega
  have i3 : ¬ c = i := by omega
  go_region_law (refine step_copy_only rfl (.tmp 20) (.tmp 29) 44 44 rfl 5 Tryz.underlying44 size_u8w (some ⟨B, o, none⟩) (some ⟨g, i, none⟩) L C (n - i) (c - i) (by simp [Act.eval, Act.put]) (by simp [Act.eval, Act.put]) B o cur.toList 5 HBW.out (((bs.drop i).take m).map (Value.int .u8)) (by rw [List.length_map, HCL.out, ← HM.out]; exact Nat.min_comm _ _) (fun _ => ⟨rfl, ⟨g, i, none⟩, rfl, HS.out⟩) (by rw [List.length_map, HCL.out, Array.length_toList]; omega) (one_cells _) B W (Onl.refl _ _).drew (Nat.le_refl _) ?_; intro w4 hg4 hb4)
  all_goals
    have hr4 : w4.heap[r]? = some (.cells #[.slice (some ⟨g, 0, none⟩) n c, .int .i64 (i : Nat), .int .i64 (-1)] 97 (0, 0)) := (hb4.1.block r (Array.getElem?_eq_some_iff.1 HRW.out).1 (fun e => hrB (Option.some.inj e))).trans HRW.out
    have q1 : w4.cell? ⟨r, 1, none⟩ = some (.int .i64 (i : Nat)) := by rw [cell_of_row w4 r 1 _ _ _ hr4]; rfl
    have qf : w4.frozen? ⟨r, 1, none⟩ = false := by simp [World.frozen?, hr4]
    have e1 : IntKind.i64.wrap (((i : Nat) : Int) + ((m : Nat) : Int)) = ((q : Nat) : Int) := by rw [IntWalk.i64_in _ (by omega)]; omega
    have e2 : ((i : Nat) : Int) + ((m : Nat) : Int) = ((q : Nat) : Int) := by omega
    have HQ := Lib.hid hq
    clear hq
    have HR4 := Lib.hid hr4
    have HB4 := Lib.hid hb4
    clear hr4 hb4 k0 k1
    go_wp2_with fail
    go_ret2
    refine ⟨rfl, ⟨-1, ?_⟩, ?_, ?_⟩
    · exact (heap_set HR4.out _).trans rfl
    · have h9 : (w4.setCell ⟨r, 1, none⟩ (.int .i64 ((q : Nat) : Int))).heap[B]? = _ := (Below.heap_setCell _ _ _ _ (fun e => hrB e.symm)).trans hg4.out
      unfold Go.splice at h9
      rw [List.length_map, HCL.out, ← List.append_assoc] at h9
      exact h9
    · exact ((HCW.out.mono fun k hk => .inl hk).trans (Chg.of (X := fun k => k = r ∨ k = B) HB4.out.1 fun k e => .inr (by injection e with e; exact e.symm)) fun _ _ x => x).trans (Chg.set (.inl rfl)) fun _ _ x => x

set_option maxRecDepth 100000 in
set_option maxHeartbeats 3200000 in
/-- Read where nothing is left. -/
theorem Read_end (r g n c B o L C : Nat) (a : Addr) (w : World) (hr : Rdr w r g n c n) (hE : Eof w a) :
    Calls Tryz.prog 147 #[.pointer (some ⟨r, 0, none⟩), .slice (some ⟨B, o, none⟩) L C] w fun e w' => e = .returned (.tuple #[.int .i64 0, .iface 182 (.pointer (some a))]) ∧ ∃ k, w' = w.drewN k := by
  obtain ⟨pr, hr⟩ := hr
  have k0 : w.cell? ⟨r, 0, none⟩ = some (.slice (some ⟨g, 0, none⟩) n c) := by rw [cell_of_row w r 0 _ _ _ hr]; rfl
  have k1 : w.cell? ⟨r, 1, none⟩ = some (.int .i64 (n : Nat)) := by rw [cell_of_row w r 1 _ _ _ hr]; rfl
  unfold Eof at hE
  clear hr
  go_enter Tryz.func147, Tryz.ntmps147
  go_wp2_with fail
  go_quiet (fail)
  go_wp2_with fail
  go_quiet (fail)
  go_wp2_with fail
  go_ret2
  exact ⟨rfl, _, World.drewN_drewN ..⟩

end Go.Proofs.YthoekplablhgfaaGreatDoor
