/-
  The contract of (*bytes.Buffer).Write.
-/
import Derived.Test.YthoekplablhgfaaGreatDoorJGrow2
namespace Go.Proofs.YthoekplablhgfaaGreatDoor
open Go.RowKit
set_option linter.unusedVariables false

theorem out_done {w1 : World} {b G cap n : Nat} {lr : Int} {bs cs : List Int} {cur : Array Value} (hb : BB w1 b (.slice (some ⟨G, 0, none⟩) (bs.length + n) cap) lr) (hg : w1.heap[G]? = some (.cells cur 5 (0, 0))) (hs : cur.size = cap) (ht : cur.toList.take bs.length = bs.map (Value.int .u8)) (hn : cs.length = n) (hc : bs.length + n ≤ cap) (hm : cap ≤ maxLen) (hne : G ≠ b) :
    OutB (w1.setRow G (cur.toList.take bs.length ++ cs.map (Value.int .u8) ++ cur.toList.drop (bs.length + n)).toArray) b (some G) (bs ++ cs) := by
  have e3 : (bs ++ cs).length = bs.length + n := by rw [List.length_append, hn]
  refine ⟨lr, .inr ⟨G, cap, cur.toList.drop (bs.length + n), rfl, ?_, ?_, ?_, hm, hne⟩⟩
  · rw [setRow_other _ _ _ _ (fun e => hne e.symm), e3]
    exact hb
  · unfold Buf
    rw [setRow_heap w1 G cur _ _ (0, 0) hg, ht, List.map_append]
  · have e4 : (cur.toList.drop (bs.length + n)).length = cap - (bs.length + n) := by rw [List.length_drop, Array.length_toList, hs]
    omega
theorem add_block (a : Addr) (j : Nat) : (a.add j).block = a.block := by unfold Addr.add; split <;> simp_all
theorem chg_row {w w1 : World} {b G : Nat} {r : Option Nat} (h : w.grownBy w1 (some b)) (hr : r = some G ∨ w.heap.size ≤ G) (cs : Array Value) : Chg w (w1.setRow G cs) (fun k => k = b ∨ r = some k) :=
  ⟨h.os, h.tape, h.output, by simpa [World.setRow] using h.size, fun k hk hn => (setRow_other w1 G k cs (fun e => by
    rcases hr with hr | hr
    · exact hn (.inr (by rw [hr, e]))
    · omega)).trans (h.block k hk (fun e => hn (.inl (by injection e))))⟩
def WrPost (b : Nat) (r : Option Nat) (bs cs : List Int) (w : World) (e : Ending) (w' : World) : Prop :=
  e = .returned (.tuple #[.int .i64 (cs.length : Nat), .nilIface]) ∧ ∃ r', OutB w' b r' (bs ++ cs) ∧ Chg w w' (fun k => k = b ∨ r = some k) ∧ (r' = r ∨ ∃ k, r' = some k ∧ w.heap.size ≤ k)
/-- The bytes to write lie where they lie. -/
def SrcL (w : World) (a : Addr) (cs : List Int) : Prop := ∀ j v, (cs.map (Value.int .u8))[j]? = some v → w.cell? (a.add j) = some v
theorem SrcL.grown {w w' : World} {a : Addr} {cs : List Int} {b : Nat} (h : SrcL w a cs) (hg : w.grownBy w' (some b)) (hab : a.block ≠ b) : SrcL w' a cs := fun j v hj => hg.cell (h j v hj) (by rw [add_block]; exact fun e => hab (Option.some.inj e))
theorem size_u8w : (Tryz.prog.info? 5).map (·.size) = some 1 := by kernel_rfl

set_option maxRecDepth 100000 in
set_option maxHeartbeats 3200000 in
theorem Write_at (b n c : Nat) (r : Option Nat) (bs cs : List Int) (a : Addr) (w : World) (hb : OutB w b r bs) (hn : cs.length = n) (h1 : 1 ≤ n) (h64 : n ≤ 64) (hsrc : SrcL w a cs) (hab : a.block ≠ b) (hlim : bs.length + n ≤ 1000000) :
    Calls Tryz.prog 139 #[.pointer (some ⟨b, 0, none⟩), .slice (some a) n c] w (WrPost b r bs cs w) := by
  obtain ⟨lr, hb⟩ := hb
  rcases hb with ⟨rfl, rfl, hb⟩ | ⟨g, cap, tl, rfl, hb, hbuf, hcap, hcm, hgb⟩
  · -- no row yet
    have hB : BB w b (.slice none 0 0) lr := hb
    have k2 := hB.c2
    have kf := hB.fz 2
    have HB0 := Lib.hid (hB.put2 0)
    have HG0 := Lib.hid (moved_set w b 2 (.int .i8 0))
    have HS := Lib.hid hsrc
    clear hb hB hsrc
    go_enter Tryz.func139, Tryz.ntmps139
    go_wp2_with fail
    refine (try_no b 0 0 n _ 0 _ HB0.out (by omega) (Nat.le_refl _) (by decide)).mono ?_
    rintro e w1 ⟨rfl, rfl⟩
    go_wp2_with fail
    refine (grow_small b n 0 _ HB0.out h1 h64).mono ?_
    rintro e w2 ⟨rfl, cells, hb2, hh2, hz2, hg2⟩
    rw [World.size_setCell] at hb2 hh2
    obtain ⟨G, hG⟩ : ∃ G, w.heap.size = G := ⟨_, rfl⟩
    rw [hG] at hb2 hh2
    have hgw := grownBy_trans HG0.out hg2
    have hsr2 := HS.out.grown hgw hab
    have hbG : G ≠ b := by
      have h9 : b < w.heap.size := by
        have h8 := HB0.out.lt
        rw [World.size_setCell] at h8
        exact h8
      omega
    have hcp := run_copy_row (P := Tryz.prog) w2 44 44 3 5 G 0 n 64 a n c cells 5 (cs.map (Value.int .u8)) Tryz.underlying44 size_u8w hh2 (by rw [List.length_map, hn]; exact (Nat.min_self n).symm) hsr2 (by rw [List.length_map, hn, hz2]; omega) (one_cells cs)
    rw [List.length_map, hn] at hcp
    have d0 := hb2.c0
    have HB2 := Lib.hid hb2
    have HH2 := Lib.hid hh2
    have HGW := Lib.hid hgw
    have HGG := Lib.hid hG
    clear hb2 hh2 hgw hsr2 hg2 hG
    go_wp2_with fail
    go_ret2
    refine ⟨by subst hn; rfl, some G, ?_, chg_row HGW.out (.inr (by have := HGG.out; omega)) _, .inr ⟨G, rfl, by have := HGG.out; omega⟩⟩
    have h9 := out_done (bs := []) (cs := cs) (n := n) (cap := 64) (by rw [List.length_nil, Nat.zero_add]; exact HB2.out) HH2.out hz2 rfl hn (by rw [List.length_nil]; omega) (by decide) hbG
    simpa using h9
  · -- a row g
    have hB : BB w b (.slice (some ⟨g, 0, none⟩) bs.length cap) lr := hb
    have k2 := hB.c2
    have kf := hB.fz 2
    have HB0 := Lib.hid (hB.put2 0)
    have HG0 := Lib.hid (moved_set w b 2 (.int .i8 0))
    have HS := Lib.hid hsrc
    have HF := Lib.hid hbuf
    have hcap' : bs.length ≤ cap := by omega
    have hcz : ((bs.map (Value.int .u8) ++ tl).toArray).size = cap := by rw [List.size_toArray, List.length_append, List.length_map]; exact hcap
    have htk : ((bs.map (Value.int .u8) ++ tl).toArray).toList.take bs.length = bs.map (Value.int .u8) := by
      rw [List.toList_toArray, List.take_append_of_le_length (by rw [List.length_map]; exact Nat.le_refl _), List.take_of_length_le (by rw [List.length_map]; exact Nat.le_refl _)]
    have hone : ∀ v ∈ ((bs.map (Value.int .u8) ++ tl).toArray).toList.take bs.length, v.oneCell' = true := by
      rw [htk]; exact one_cells bs
    have hcm' := hcm
    unfold maxLen at hcm'
    obtain ⟨cur, hcur⟩ : ∃ cur, (bs.map (Value.int .u8) ++ tl).toArray = cur := ⟨_, rfl⟩
    unfold Buf at hbuf
    rw [hcur] at hbuf hcz htk hone
    have HR := Lib.hid (show (w.setCell ⟨b, 2, none⟩ (.int .i8 0)).heap[g]? = some (.cells cur 5 (0, 0)) from (HG0.out.block g (Array.getElem?_eq_some_iff.1 hbuf).1 (fun e => hgb (Option.some.inj e))).trans hbuf)
    have HT := Lib.hid htk
    have HO := Lib.hid hone
    clear hb hB hsrc hbuf HF htk hone hcur
    by_cases hroom : bs.length + n ≤ cap
    · go_enter Tryz.func139, Tryz.ntmps139
      go_wp2_with fail
      refine (try_yes b g bs.length cap n _ _ HB0.out hroom hcm).mono ?_
      rintro e w2 ⟨rfl, hb2, hg2⟩
      have hgw := grownBy_trans HG0.out hg2
      have hsr2 := HS.out.grown hgw hab
      have hr2 := hg2.block g (Array.getElem?_eq_some_iff.1 HR.out).1 (fun e => hgb (Option.some.inj e))
      rw [HR.out] at hr2
      have hcp := run_copy_row (P := Tryz.prog) w2 44 44 3 5 g bs.length n (cap - bs.length) a n c cur 5 (cs.map (Value.int .u8)) Tryz.underlying44 size_u8w hr2 (by rw [List.length_map, hn]; exact (Nat.min_self n).symm) hsr2 (by rw [List.length_map, hn, hcz]; omega) (one_cells cs)
      rw [List.length_map, hn] at hcp
      have d0 := hb2.c0
      have HB2 := Lib.hid hb2
      have HH2 := Lib.hid hr2
      have HGW := Lib.hid hgw
      clear hb2 hr2 hgw hsr2 hg2
      go_wp2_with fail
      go_ret2
      refine ⟨by subst hn; rfl, some g, ?_, chg_row HGW.out (.inl rfl) _, .inl rfl⟩
      rw [← List.append_assoc]
      exact out_done (bs := bs) (cs := cs) (n := n) (cap := cap) HB2.out HH2.out hcz HT.out hn (by omega) hcm hgb
    · go_enter Tryz.func139, Tryz.ntmps139
      go_wp2_with fail
      refine (try_no b bs.length cap n _ _ _ HB0.out (by omega) hcap' hcm).mono ?_
      rintro e w1 ⟨rfl, rfl⟩
      go_wp2_with fail
      refine (grow_row b g bs.length cap n 0 cur _ HB0.out HR.out hcz hcap' h1 (by omega) (by omega) HO.out).mono ?_
      rintro e w2 ⟨rfl, cap2, cells, hb2, hh2, hz2, hpre, hc2, hm2, hg2⟩
      rw [World.size_setCell] at hb2 hh2
      obtain ⟨G, hG⟩ : ∃ G, w.heap.size = G := ⟨_, rfl⟩
      rw [hG] at hb2 hh2
      have hgw := grownBy_trans HG0.out hg2
      have hsr2 := HS.out.grown hgw hab
      have hbG : G ≠ b := by
        have h9 : b < w.heap.size := by
          have h8 := HB0.out.lt
          rw [World.size_setCell] at h8
          exact h8
        omega
      have hcp := run_copy_row (P := Tryz.prog) w2 44 44 3 5 G bs.length n (cap2 - bs.length) a n c cells 5 (cs.map (Value.int .u8)) Tryz.underlying44 size_u8w hh2 (by rw [List.length_map, hn]; exact (Nat.min_self n).symm) hsr2 (by rw [List.length_map, hn, hz2]; omega) (one_cells cs)
      rw [List.length_map, hn] at hcp
      have d0 := hb2.c0
      have HB2 := Lib.hid hb2
      have HH2 := Lib.hid hh2
      have HGW := Lib.hid hgw
      have HGG := Lib.hid hG
      clear hb2 hh2 hgw hsr2 hg2 hG
      go_wp2_with fail
      go_ret2
      refine ⟨by subst hn; rfl, some G, ?_, chg_row HGW.out (.inr (by have := HGG.out; omega)) _, .inr ⟨G, rfl, by have := HGG.out; omega⟩⟩
      rw [← List.append_assoc, ← hpre]
      exact out_done (bs := bs) (cs := cs) (n := n) (cap := cap2) HB2.out HH2.out hz2 (hpre.trans HT.out) hn hc2 hm2 hbG

end Go.Proofs.YthoekplablhgfaaGreatDoor
