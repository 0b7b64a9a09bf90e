/-
  The contract of io.ReadAll over a bytes.Reader.
-/
import Derived.Test.YthoekplablhgfaaGreatDoorJAll0
import Derived.Test.YthoekplablhgfaaGreatDoorJErr2
namespace Go.Proofs.YthoekplablhgfaaGreatDoor
open Go.RowKit
set_option linter.unusedVariables false

/-- What ReadAll holds: i bytes are read; the chunks L, the row B being filled. -/
structure AllInv (w0 : World) (r g n c : Nat) (bs : List Int) (tl : List Value) (w : World) (v6 : Value) (i nx : Nat) (L : List Ch) (B cB : Nat) (cb : List Int) (tb : List Value) : Prop where
  hi : i ≤ n
  got : chB L ++ cb = bs.take i
  rd : Rdr w r g n c i
  src : Buf w g bs tl
  buf : Buf w B cb tb
  cap : cb.length + tb.length = cB
  zt : Zt tb
  room : cb.length < cB
  c16 : 16 ≤ cB
  cm : cB ≤ maxLen
  nx1 : 16 ≤ nx
  nx2 : nx ≤ 120000
  nx3 : 2 * nx ≤ 3 * cB
  row : w.ownsRow w0.heap.size 44 1 v6 L.length (L.map Ch.val)
  chs : ∀ x ∈ L, 1 ≤ x.cs.length ∧ w0.heap.size ≤ x.g ∧ x.g ≠ B ∧ ∃ t, Buf w x.g x.cs t
  hB : w0.heap.size ≤ B
  gB : g ≠ B
  form : ∃ g6 c6, v6 = .slice (some ⟨g6, 0, none⟩) L.length c6
  chg : Chg w0 w (fun k => k = r)
def AllPost (r n : Nat) (bs : List Int) (w : World) (e : Ending) (w' : World) : Prop :=
  ∃ h cap tail, e = .returned (.tuple #[.slice (some ⟨h, 0, none⟩) n cap, .nilIface]) ∧ Buf w' h bs tail ∧ n + tail.length = cap ∧ cap ≤ maxLen ∧ Zt tail ∧ w.heap.size ≤ h ∧ h < w'.heap.size ∧ Chg w w' (fun k => k = r)
theorem info_sl : (Tryz.prog.info? 44).map (fun i => (i.zero, i.size, i.bytes)) = some (some (.slice none 0 0), 1, 24) := by kernel_rfl
theorem nil_read (w : World) (r : Nat) : (nilAhead 332 64 (.pointer (some ⟨r, 0, none⟩)) "Read").run Tryz.prog w = .ok (some false) w := by kernel_rfl
theorem meth_read (w : World) (r : Nat) : (method 332 64 (.pointer (some ⟨r, 0, none⟩)) "Read").run Tryz.prog w = .ok (147, .pointer (some ⟨r, 0, none⟩)) w := by kernel_rfl

set_option maxRecDepth 100000 in
set_option maxHeartbeats 6400000 in
theorem ReadAll_at (r g n c : Nat) (bs : List Int) (tl : List Value) (a : Addr) (w : World) (hr : Rdr w r g n c 0) (hb : Buf w g bs tl) (hn : bs.length = n) (hn1 : 1 ≤ n) (hnc : n ≤ c) (hs : n ≤ 50000) (hE : Eof w a) (h0r : r ≠ 0) :
    Calls Tryz.prog 47 #[.iface 64 (.pointer (some ⟨r, 0, none⟩))] w (AllPost r n bs w) := by
  obtain ⟨iu, hiu, hu0, hu1, hu2⟩ := info_parts info_u8'
  obtain ⟨is, his, hs0, hs1, hs2⟩ := info_parts info_sl
  obtain ⟨M, hM⟩ : ∃ M, madeCells (Value.int .u8 0).cells (512 * iu.size) = M := ⟨_, rfl⟩
  have hMs : M.size = 512 := by rw [← hM, hu1, size_madeCells]
  obtain ⟨K, hK⟩ : ∃ K, madeCells (Value.slice none 0 0).cells (4 * is.size) = K := ⟨_, rfl⟩
  have hKs : K.size = 4 := by rw [← hK, hs1, size_madeCells]
  have hmk : ∀ W : World, (Instr.makeSlice 44 (.int .i64 0) (.int .i64 512)).run Tryz.prog W = .ok (.slice (some ⟨W.heap.size, 0, none⟩) 0 512) (W.alloc (.cells M 5)) := fun W => by
    have h := run_make (P := Tryz.prog) W 44 5 iu (.int .u8 0) Tryz.underlying44 hiu hu0 .i64 .i64 0 512 (by omega) (by omega) (by rw [hu2]; decide) (by decide)
    rw [show (512 : Int).toNat = 512 from rfl, hM] at h
    simpa using h
  have hmk2 : ∀ W : World, (Instr.makeSlice 120 (.int .i64 0) (.int .i64 4)).run Tryz.prog W = .ok (.slice (some ⟨W.heap.size, 0, none⟩) 0 4) (W.alloc (.cells K 44)) := fun W => by
    have h := run_make (P := Tryz.prog) W 120 44 is (.slice none 0 0) Tryz.underlying120 his hs0 .i64 .i64 0 4 (by omega) (by omega) (by rw [hs2]; decide) (by decide)
    rw [show (4 : Int).toNat = 4 from rfl, hK] at h
    simpa using h
  have heq := eql_err a
  have hmf : ∀ (fn : Fn) (first cap : Array Value) (w : World), (Instr.makeFunc fn first cap).run Tryz.prog w = .ok (.func fn first cap) w := fun _ _ _ _ => rfl
  have hna := nil_read
  have hme := meth_read
  have HMZ : RowKit.Hid (Zt M.toList) := Lib.hid (by
    intro v hv
    rw [← hM] at hv
    unfold madeCells at hv
    simp at hv
    obtain ⟨k, _, rfl⟩ := hv
    simp [Value.cells, Nat.mod_one])
  have HR := Lib.hid hr
  have HB := Lib.hid hb
  have HE := Lib.hid hE
  have HN := Lib.hid hn
  clear hr hb hE hn
  go_enter Tryz.func47, Tryz.ntmps47
  go_wp2_with fail
  go_loopw [4, 5, 6, 7] (fun v4 v5 v6 v7 wr => ∃ (i nx : Nat) (L : List Ch) (B cB : Nat) (cb : List Int) (tb : List Value), RowKit.Hid (AllInv w r g n c bs tl wr v6 i nx L B cB cb tb) ∧ v4 = .slice (some ⟨B, 0, none⟩) cb.length cB ∧ v5 = .int .i64 (nx : Nat) ∧ v7 = .int .i64 ((chB L).length : Nat)) (fun v4 _ _ v7 _ => n - ((intOf v7).toNat + lenOf v4))
  case atStart =>
    refine ⟨0, 256, [], w.heap.size, 512, [], M.toList, Lib.hid ?_, rfl, rfl, rfl⟩
    have hg1 : w.grownBy ((w.alloc (.cells M 5)).alloc (.cells K 44)) none := grownBy_trans (World.grownBy_alloc w _ _) (World.grownBy_alloc _ _ _)
    have hBB : ((w.alloc (.cells M 5)).alloc (.cells K 44)).heap[w.heap.size]? = some (.cells M 5 (0, 0)) := (heap_alloc_old _ _ (by simp)).trans (heap_alloc_new w _)
    obtain ⟨pr, hpr⟩ := HR.out
    have hrl : r < w.heap.size := (Array.getElem?_eq_some_iff.1 hpr).1
    have hrow := World.ownsRow_made (base := w.heap.size) (e := 44) (size := 1) (w.alloc (.cells M 5)) K 4 (by simp) (by decide) (by rw [hKs])
    rw [World.size_alloc] at hrow
    exact { hi := by omega, got := by simp [chB], rd := ⟨pr, (hg1.block r hrl (by simp)).trans hpr⟩, src := HB.out.grown hg1 (by simp), buf := by unfold Buf; rw [hBB]; simp, cap := by simp [hMs], zt := HMZ.out, room := by simp, c16 := by omega, cm := by decide, nx1 := by omega, nx2 := by omega, nx3 := by omega,
            row := hrow, chs := fun x hx => absurd hx (by simp), hB := Nat.le_refl _, gB := by have := HB.out.lt; omega, form := ⟨_, _, rfl⟩, chg := Chg.of hg1 (fun k e => by cases e) }
  case round =>
    obtain ⟨i, nx, L, B, cB, cb, tb, HI, rfl, rfl, rfl⟩ := hrel
    have hi := HI.out.hi
    have hroom := HI.out.room
    have hcm := HI.out.cm
    unfold maxLen at hcm
    obtain ⟨l, hl⟩ : ∃ l, cb.length = l := ⟨_, rfl⟩
    rw [hl] at hroom
    have hsum : (chB L).length + l = i := by
      have h9 := congrArg List.length HI.out.got
      rw [List.length_append, List.length_take, HN.out, hl] at h9
      omega
    have HL := Lib.hid hl
    rw [hl]
    clear hl
    have i1 : ((l : Nat) : Int) ≤ ((cB : Nat) : Int) := by omega
    have i3 : ¬ cB - l = 0 := by omega
    have i5 : ¬ cB = l := by omega
    by_cases hin : i < n
    · -- something is read
      obtain ⟨m, hm⟩ : ∃ m, min (cB - l) (n - i) = m := ⟨_, rfl⟩
      have hm1 : 1 ≤ m := by omega
      have hml : m ≤ cB - l := by omega
      have hmn : m ≤ n - i := by omega
      have HM := Lib.hid hm
      have HS := Lib.hid hsum
      obtain ⟨q, hq⟩ : ∃ q, i + m = q := ⟨_, rfl⟩
      obtain ⟨l2, hl2⟩ : ∃ l2, l + m = l2 := ⟨_, rfl⟩
      obtain ⟨rm, hrm⟩ : ∃ rm, cB = l2 + rm := ⟨cB - l2, by omega⟩
      obtain ⟨pr, hpr⟩ := HI.out.rd
      have hrB : r ≠ B := fun e => buf_ne HI.out.buf hpr (by decide) e.symm
      have hgr : g ≠ r := buf_ne HI.out.src hpr (by decide)
      have hcz : ((cb.map (Value.int .u8) ++ tb).toArray).size = cB := by
        rw [List.size_toArray, List.length_append, List.length_map]; exact HI.out.cap
      have HQ := Lib.hid hq
      have HL2 := Lib.hid hl2
      have HRM := Lib.hid hrm
      have HPR := Lib.hid hpr
      clear hm hsum hpr hq hl2 hrm
      go_wp2_with fail
      go_region_with ((go_at_call 147; refine (Read_at r g n c i B l (cB - l) (cB - l) m bs tl (cb.map (Value.int .u8) ++ tb).toArray wr.drew HI.out.rd HI.out.src HN.out hin hnc (by omega) HI.out.buf (by rw [hcz]; omega) HM.out hrB hgr (by omega) (by unfold maxLen; omega)).mono ?_; rintro e w2 ⟨rfl, hr2, hb2, hc2⟩; have HR2 := Lib.hid hr2; have HB2 := Lib.hid hb2; have HC2 := Lib.hid hc2; clear hr2 hb2 hc2))
      all_goals
        have hbuf2 : Buf w2 B (cb ++ (bs.drop i).take m) (tb.drop m) := by
          unfold Buf
          rw [HB2.out]
          have e : (cb.map (Value.int .u8) ++ tb).toArray.toList.take l ++ ((bs.drop i).take m).map (Value.int .u8) ++ (cb.map (Value.int .u8) ++ tb).toArray.toList.drop (l + m) = (cb ++ (bs.drop i).take m).map (Value.int .u8) ++ tb.drop m := by
            have e0 : (cb.map (Value.int .u8) ++ tb).drop (l + m) = tb.drop m := by
              rw [List.drop_append, List.drop_eq_nil_of_le (by rw [List.length_map, HL.out]; omega), List.length_map, HL.out, List.nil_append, show l + m - l = m from by omega]
            rw [List.toList_toArray, e0, List.take_append_of_le_length (by rw [List.length_map, HL.out]; omega), List.take_of_length_le (by rw [List.length_map, HL.out]; omega), List.map_append]
          rw [e]
        have hchg2 : Chg w w2 (fun k => k = r) := HI.out.chg.trans (Chg.drewL HC2.out) (fun k hk h => by
          rcases h with h | h
          · exact h
          · have h9 := HI.out.hB
            omega)
        have hq := HQ.out
        have hl2 := HL2.out
        have hrm := HRM.out
        have hsum := HS.out
        have e1 : IntKind.i64.wrap (((l : Nat) : Int) + ((m : Nat) : Int)) = ((l2 : Nat) : Int) := by rw [IntWalk.i64_in _ (by omega)]; omega
        have e2 : ((l : Nat) : Int) + ((m : Nat) : Int) = ((l2 : Nat) : Int) := by omega
        have i6 : ((l2 : Nat) : Int) ≤ ((cB : Nat) : Int) := by omega
        have e3 : IntKind.i64.wrap (((cB : Nat) : Int) - ((l2 : Nat) : Int)) = ((rm : Nat) : Int) := by rw [IntWalk.i64_in _ (by omega)]; omega
        have e4 : ((cB : Nat) : Int) - ((l2 : Nat) : Int) = ((rm : Nat) : Int) := by omega
        have hnl : (cb ++ (bs.drop i).take m).length = l2 := by
          rw [List.length_append, List.length_take, List.length_drop, HL.out, HN.out]; omega
        have hgot : chB L ++ (cb ++ (bs.drop i).take m) = bs.take q := by
          rw [← List.append_assoc, HI.out.got, ← hq, List.take_add]
        obtain ⟨nb, hnb⟩ : ∃ nb, cb ++ (bs.drop i).take m = nb := ⟨_, rfl⟩
        rw [hnb] at hbuf2 hnl hgot
        have HBF := Lib.hid hbuf2
        have HCH := Lib.hid hchg2
        have HNL := Lib.hid hnl
        have HGT := Lib.hid hgot
        have hq2 : q ≤ n := by omega
        have hc16 := HI.out.c16
        have hcapt : l2 + (tb.drop m).length = cB := by
          have h9 := HI.out.cap
          rw [List.length_drop]
          have h8 := HL.out
          omega
        have HCT := Lib.hid hcapt
        have HR3 : RowKit.Hid (Rdr w2 r g n c q) := Lib.hid (by have h9 := HR2.out; rw [hq] at h9; exact h9)
        clear hbuf2 hchg2 hq hl2 hrm hsum hnb hnl hgot hcapt
        by_cases hq16 : ((rm : Nat) : Int) < ((cB : Nat) : Int) / 16
        · have hsum := HS.out
          have hl2 := HL2.out
          have hq := HQ.out
          have hnx1 := HI.out.nx1
          have hnx2 := HI.out.nx2
          have hnx3 := HI.out.nx3
          obtain ⟨nx2, hnx⟩ : ∃ nx2, nx + nx / 2 = nx2 := ⟨_, rfl⟩
          have e5 : IntKind.i64.wrap (((chB L).length : Nat) + ((l2 : Nat) : Int)) = ((q : Nat) : Int) := by rw [IntWalk.i64_in _ (by omega)]; omega
          have e6 : (((chB L).length : Nat) : Int) + ((l2 : Nat) : Int) = ((q : Nat) : Int) := by omega
          have e7 : IntKind.i64.wrap (((nx : Nat) : Int) + ((nx : Nat) : Int) / 2) = ((nx2 : Nat) : Int) := by rw [IntWalk.i64_in _ (by omega)]; omega
          have e8 : ((nx : Nat) : Int) + ((nx : Nat) : Int) / 2 = ((nx2 : Nat) : Int) := by omega
          have hLl := chB_len (fun x hx => (HI.out.chs x hx).1)
          have hLm : L.length + 1 ≤ maxLen := by unfold maxLen; omega
          have hLb : (L.length + 1) * 24 ≤ 140737488355328 := by omega
          have hbase : w.heap.size ≤ w2.heap.size := HCH.out.size
          have HOW := Lib.hid (own_keep (w' := w2) HI.out.row (fun b hb => HC2.out.block b (HI.out.row.lt b hb).2 (fun h => h.elim (fun h => row_ne HI.out.row HPR.out (by decide) (by rw [← h]; exact hb.symm)) (fun h => row_ne HI.out.row HI.out.buf (by decide) (by rw [← h]; exact hb.symm)))))
          have HNX := Lib.hid hnx
          clear hsum hl2 hq hnx
          go_wp2_with (first | (at_builtin; refine wpList_append_lies _ rfl _ _ _ rfl w.heap.size 44 is (.slice none 0 0) 1 24 Tryz.underlying120 his hs0 hs1 hs2 rfl (by omega) _ L.length (L.map Ch.val) rfl (HOW.out.alloc _) ⟨w2.heap.size, 0, none⟩ 1 1 [.slice (some ⟨B, 0, none⟩) l2 cB] rfl rfl (cell_one_new w2 _ _) (by simp [Value.oneCell']) (by omega) hLm hLb (by simp; omega) _ rfl ?_; intro g6 c6 w4 hown4 hgr4 hat4 hlt4; have HO4 := Lib.hid hown4; have HG4 := Lib.hid hgr4; clear hown4 hgr4 hat4 hlt4) | (at_builtin; refine wpList_zeros rfl _ _ rfl nx rfl rfl (by omega) (by omega) ?_; intro c2 Z z1 z2 z3 z4; have HZ3 := Lib.hid z3; have HZ4 := Lib.hid z4; clear z3 z4))
          go_roundw
          case rel =>
            have hrl : r < w2.heap.size := by
              obtain ⟨pr2, h9⟩ := HR3.out
              exact (Array.getElem?_eq_some_iff.1 h9).1
            have hz4 : w2.heap.size + 1 ≤ w4.heap.size := by
              have h9 := HG4.out.size
              rw [World.size_alloc] at h9
              exact h9
            have hfr : ∀ b, b < w2.heap.size → some b ≠ u6.ownBlock → ((w4.alloc (.cells Z.toArray 5)).drew).heap[b]? = w2.heap[b]? := fun b hb hne =>
              (heap_alloc_old w4 _ (by omega)).trans ((HG4.out.block b (by rw [World.size_alloc]; omega) hne).trans (heap_alloc_old w2 _ hb))
            have hsrc2 : Buf w2 g bs tl := HI.out.src.keep (HC2.out.block g HI.out.src.lt (fun h => h.elim hgr HI.out.gB))
            have hgl := hsrc2.lt
            have hBl := HBF.out.lt
            have hlenq : (chB L ++ nb).length = q := by rw [HGT.out, List.length_take, HN.out]; omega
            have hchs2 : ∀ x ∈ L, x.g ≠ r ∧ x.g < w2.heap.size ∧ ∃ t, Buf w2 x.g x.cs t := fun x hx => by
              obtain ⟨c1, c2', c3, t, c4⟩ := HI.out.chs x hx
              have c5 := buf_ne c4 HPR.out (by decide)
              have c6 : Buf w2 x.g x.cs t := c4.keep (HC2.out.block x.g c4.lt (fun h => h.elim c5 c3))
              exact ⟨c5, c6.lt, t, c6⟩
            refine ⟨q, nx2, L ++ [⟨B, nb, cB⟩], w4.heap.size, c2, [], Z, Lib.hid ?_, rfl, rfl, by rw [chB_snoc, hlenq]⟩
            exact { hi := hq2, got := by rw [chB_snoc, List.append_nil]; exact HGT.out
                    rd := by
                      obtain ⟨pr2, h9⟩ := HR3.out
                      exact ⟨pr2, (hfr r hrl (row_ne HOW.out h9 (by decide))).trans h9⟩
                    src := (hfr g hgl (row_ne HOW.out hsrc2 (by decide))).trans hsrc2
                    buf := by unfold Buf; exact heap_alloc_new w4 _
                    cap := by rw [List.length_nil, HZ3.out]; omega
                    zt := HZ4.out, room := by simp; omega, c16 := by omega, cm := z2
                    nx1 := by have := HNX.out; omega
                    nx2 := by
                      have h9 := HNX.out
                      have h8 := HRM.out
                      have h7 := HL2.out
                      have h6 := HS.out
                      have h5 := HQ.out
                      omega
                    nx3 := by have := HNX.out; omega
                    row := by
                      rw [List.length_append, List.length_singleton, List.map_append, List.map_singleton]
                      have h9 := (HO4.out.alloc (.cells Z.toArray 5))
                      rw [show Ch.val ⟨B, nb, cB⟩ = .slice (some ⟨B, 0, none⟩) l2 cB from by unfold Ch.val; rw [HNL.out]]
                      exact own_keep h9 (fun _ _ => rfl)
                    chs := fun x hx => by
                      rcases List.mem_append.1 hx with hx | hx
                      · obtain ⟨c1, c2', c3, t, c4⟩ := HI.out.chs x hx
                        obtain ⟨d1, d2, t2, d3⟩ := hchs2 x hx
                        exact ⟨c1, c2', by omega, t2, (hfr x.g d2 (row_ne HOW.out d3 (by decide))).trans d3⟩
                      · have hxe : x = ⟨B, nb, cB⟩ := by simpa using hx
                        subst hxe
                        exact ⟨by show 1 ≤ nb.length; rw [HNL.out]; have := HL2.out; omega, HI.out.hB, by show B ≠ w4.heap.size; omega, _, (hfr B hBl (row_ne HOW.out HBF.out (by decide))).trans HBF.out⟩
                    hB := by have := HCH.out.size; omega
                    gB := by omega
                    form := ⟨g6, c6, by rw [List.length_append]; rfl⟩
                    chg := by
                      refine HCH.out.trans (Y := fun k => u6.ownBlock = some k) ⟨HG4.out.os, HG4.out.tape, HG4.out.output, by simp; omega, fun k hk hn => hfr k hk (fun e => hn e.symm)⟩ (fun k hk h => ?_)
                      have h9 := (HOW.out.lt k h).1
                      omega }
          case measure =>
            have h9 := HS.out
            have h8 := HQ.out
            have h7 := HL2.out
            simp [intOf, lenOf]
            omega
        · go_wp2_with fail
          go_roundw
          case rel =>
            have hrm := HRM.out
            refine ⟨q, nx, L, B, cB, nb, tb.drop m, Lib.hid ?_, by rw [HNL.out], rfl, rfl⟩
            exact { hi := hq2, got := HGT.out, rd := HR3.out, src := HI.out.src.keep (HC2.out.block g HI.out.src.lt (fun h => h.elim hgr HI.out.gB)), buf := HBF.out, cap := by rw [HNL.out]; exact HCT.out, zt := HI.out.zt.drop m, room := by rw [HNL.out]; omega, c16 := hc16, cm := HI.out.cm, nx1 := HI.out.nx1, nx2 := HI.out.nx2, nx3 := HI.out.nx3,
                    row := own_keep HI.out.row (fun b hb => HC2.out.block b (HI.out.row.lt b hb).2 (fun h => h.elim (fun h => row_ne HI.out.row HPR.out (by decide) (by rw [← h]; exact hb.symm)) (fun h => row_ne HI.out.row HI.out.buf (by decide) (by rw [← h]; exact hb.symm)))),
                    chs := fun x hx => by
                      obtain ⟨c1, c2, c3, t, c4⟩ := HI.out.chs x hx
                      exact ⟨c1, c2, c3, t, c4.keep (HC2.out.block x.g c4.lt (fun h => h.elim (buf_ne c4 HPR.out (by decide)) c3))⟩
                    hB := HI.out.hB, gB := HI.out.gB, form := HI.out.form, chg := HCH.out }
          case measure =>
            have h9 := HS.out
            have h8 := HQ.out
            have h7 := HL2.out
            simp [intOf, lenOf]
            omega
    · -- nothing is left
      have hin2 : i = n := by omega
      obtain ⟨pr, hpr⟩ := HI.out.rd
      obtain ⟨g6, c6, h6⟩ := HI.out.form
      subst h6
      have hE1 : Eof wr a := (World.cell?_of_block (a := ⟨0, 0, none⟩) (HI.out.chg.block 0 (by
        have h9 := HE.out
        unfold Eof at h9
        exact Nat.lt_of_le_of_lt (Nat.zero_le _) (World.block_lt_of_cell? w _ h9)) (fun h => h0r h.symm))).trans HE.out
      have HE1 := Lib.hid hE1
      have HIN := Lib.hid hin2
      have HS := Lib.hid hsum
      have hrd : Rdr wr r g n c n := by
        have h9 := HI.out.rd
        rw [hin2] at h9
        exact h9
      have HRD := Lib.hid hrd
      unfold Eof at hE1
      clear hsum hpr hin2 hrd
      go_wp2_with fail
      go_region_with ((go_at_call 147; refine (Read_end r g n c B l (cB - l) (cB - l) a wr.drew HRD.out HE1.out).mono ?_; rintro e w2 ⟨rfl, k, rfl⟩))
      all_goals
        have e1 : IntKind.i64.wrap ((l : Nat) : Int) = ((l : Nat) : Int) := IntWalk.i64_in _ (by omega)
        by_cases hL0 : L = []
        · have h0 : L.length = 0 := by rw [hL0]; rfl
          have HL0 := Lib.hid hL0
          rw [h0]
          clear h0 hL0
          go_wp2_with fail
          go_ret2
          have hin := HIN.out
          have hln : l = n := by
            have h9 := HS.out
            rw [HL0.out] at h9
            simp [chB] at h9
            omega
          have hcb : cb = bs := by
            have h9 := HI.out.got
            rw [HL0.out, hin, List.take_of_length_le (by rw [HN.out]; exact Nat.le_refl _)] at h9
            simpa [chB] using h9
          refine ⟨B, cB, tb, by rw [← hln]; rfl, by have h9 := HI.out.buf; rw [hcb] at h9; exact h9, by have h9 := HI.out.cap; rw [hcb, HN.out] at h9; exact h9, HI.out.cm, HI.out.zt, HI.out.hB, HI.out.buf.lt, HI.out.chg.drewN _⟩
        · have h0 : ¬ L.length = 0 := fun e => hL0 (List.eq_nil_of_length_eq_zero e)
          have f0 : (((L.length : Nat) : Int) == 0) = false := by simp; omega
          have hin := HIN.out
          have hsum := HS.out
          have e2 : IntKind.i64.wrap (((chB L).length : Nat) + ((l : Nat) : Int)) = ((n : Nat) : Int) := by rw [IntWalk.i64_in _ (by omega)]; omega
          have e3 : (((chB L).length : Nat) : Int) + ((l : Nat) : Int) = ((n : Nat) : Int) := by omega
          have hsz : w.heap.size ≤ wr.heap.size := HI.out.chg.size
          clear hin hsum hL0
          go_wp2_with (at_builtin; refine wpList_zeros rfl _ _ rfl n rfl rfl (by omega) (by omega) ?_; intro c2 Z z1 z2 z3 z4; have HZ3 := Lib.hid z3; have HZ4 := Lib.hid z4; clear z3 z4)
          obtain ⟨F, hF⟩ : ∃ F, wr.heap.size = F := ⟨_, rfl⟩
          rw [hF]
          generalize hwF : (wr.drewN (1 + k + 1)).alloc _ = wF
          have hfr : ∀ b, b < F → wF.heap[b]? = wr.heap[b]? := fun b hb => by
            rw [← hwF]
            exact heap_alloc_old (wr.drewN (1 + k + 1)) _ (by show b < wr.heap.size; omega)
          have hFb : Buf wF F [] Z := by
            rw [← hwF, ← hF]
            exact heap_alloc_new (wr.drewN (1 + k + 1)) _
          have hgF : w.grownBy wF none ∨ True := .inr trivial
          have hchF : Chg wr wF (fun _ => False) := by
            rw [← hwF]
            exact ⟨rfl, rfl, rfl, by simp, fun b hb _ => heap_alloc_old (wr.drewN (1 + k + 1)) _ hb⟩
          have hrow := HI.out.row
          have hrowF := own_keep (w' := wF) hrow (fun b hb => hfr b (by have := (hrow.lt b hb).2; omega))
          have hg6 : g6 < F := by have := (hrow.lt g6 rfl).2; omega
          have hcelF : ∀ (j : Nat) (x : Ch), L[j]? = some x → wF.cell? ⟨g6, j, none⟩ = some (.slice (some ⟨x.g, 0, none⟩) x.cs.length x.cap) := fun j x hx => by
            have h9 := hrowF.cells (g := g6) rfl j (Ch.val x) (by rw [List.getElem?_map, hx]; rfl)
            rw [show (⟨g6, 0, none⟩ : Addr).add j = ⟨g6, j, none⟩ from by unfold Addr.add; split <;> simp_all] at h9
            exact h9
          have hchs : ∀ x ∈ L, 1 ≤ x.cs.length ∧ x.g < F ∧ ∃ t, Buf wF x.g x.cs t := fun x hx => by
            obtain ⟨c1, c2', c3, t, c4⟩ := HI.out.chs x hx
            have c5 : x.g < F := by have := c4.lt; omega
            exact ⟨c1, c5, t, (hfr x.g c5).trans c4⟩
          have hBF : B < F := by have := HI.out.buf.lt; omega
          have hBb : Buf wF B cb tb := (hfr B hBF).trans HI.out.buf
          have HCEL := Lib.hid hcelF
          have HCHS := Lib.hid hchs
          have HBB := Lib.hid hBb
          have HFB := Lib.hid hFb
          have HCF := Lib.hid hchF
          have HWF := Lib.hid hF
          clear hwF hfr hFb hchF hrow hrowF hcelF hchs hBb hgF hF
          go_loopw [10, 54] (fun v10 v54 wl => ∃ (j : Nat) (tl' : List Value), j ≤ L.length ∧ v54 = .int .i64 (j : Nat) ∧ v10 = .slice (some ⟨F, 0, none⟩) (chB (L.take j)).length c2 ∧ RowKit.Hid (Buf wl F (chB (L.take j)) tl' ∧ (chB (L.take j)).length + tl'.length = c2 ∧ Zt tl' ∧ Onl F wF wl)) (fun _ v54 _ => L.length - (intOf v54).toNat)
          case atStart => exact ⟨0, Z, by omega, rfl, rfl, Lib.hid ⟨HFB.out, by rw [HZ3.out]; simp [chB], HZ4.out, Onl.refl _ _⟩⟩
          case round =>
            obtain ⟨j, tl', hj, rfl, rfl, HJ⟩ := hrel
            obtain ⟨hb1, hb2, hb3, hb4⟩ := HJ.out
            have hin := HIN.out
            have hsum := HS.out
            obtain ⟨pl, hpl⟩ : ∃ pl, (chB (L.take j)).length = pl := ⟨_, rfl⟩
            have hplm := chB_take L (j + 1)
            have hLl := chB_len (fun x hx => (HI.out.chs x hx).1)
            obtain ⟨m0, hm0⟩ : ∃ m0, L.length = m0 := ⟨_, rfl⟩
            rw [hpl] at hb2 ⊢
            have hm0b : m0 ≤ 50000 := by omega
            clear hLl
            by_cases hjl : j < L.length
            · obtain ⟨x, hx⟩ : ∃ x, L[j]? = some x := ⟨_, List.getElem?_eq_getElem hjl⟩
              have hxm : x ∈ L := List.mem_of_getElem? hx
              have hcel : wr.cell? ⟨g6, j, none⟩ = some (.slice (some ⟨x.g, 0, none⟩) x.cs.length x.cap) := hb4.1.cell (HCEL.out j x hx) (by show some g6 ≠ some F; intro e; injection e with e; omega)
              obtain ⟨x1, x2, xt, x3⟩ := HCHS.out x hxm
              have hxb : Buf wr x.g x.cs xt := (hb4.1.block x.g x3.lt (by intro e; injection e with e; omega)).trans x3
              have hsrc := Lib.hid (srcL_buf hxb)
              have htk : L.take (j + 1) = L.take j ++ [x] := by rw [List.take_add_one, hx]; rfl
              have hpl2 : (chB (L.take (j + 1))).length = pl + x.cs.length := by rw [htk, chB_snoc, List.length_append, hpl]
              obtain ⟨xl, hxl⟩ : ∃ xl, x.cs.length = xl := ⟨_, rfl⟩
              rw [hxl] at hcel hpl2
              rw [hpl2] at hplm
              have HXL := Lib.hid hxl
              have HPL := Lib.hid hpl
              have HTK := Lib.hid htk
              have HB1 := Lib.hid hb1
              have HB2 := Lib.hid hb2
              have HB3 := Lib.hid hb3
              have HB4 := Lib.hid hb4
              have hfit : xl ≤ tl'.length := by omega
              have hroom2 : pl + xl ≤ c2 := by omega
              have HP2 := Lib.hid hpl2
              rw [hm0] at hjl hj ⊢
              have HM0 := Lib.hid hm0
              have HJL := Lib.hid hjl
              have ij : ((j : Nat) : Int) < ((m0 : Nat) : Int) := by omega
              clear hpl hb1 hb2 hb3 hb4 hin hsum hx hxb x3 hxl htk hplm hpl2 hm0 hxm
              go_wp2_with (at_builtin; refine wpList_fits rfl _ _ rfl F pl c2 xl x.cap ⟨x.g, 0, none⟩ (chB (L.take j)) x.cs tl' rfl rfl HB1.out HPL.out HXL.out hsrc.out hroom2 hfit ?_; intro w5 hb5 ho5; have HB5 := Lib.hid hb5; have HO5 := Lib.hid ho5; clear hb5 ho5)
              go_roundw
              case rel =>
                refine ⟨j + 1, tl'.drop xl, HJL.out, by go_num, by rw [HP2.out], Lib.hid ⟨?_, ?_, HB3.out.drop _, HB4.out.trans HO5.out⟩⟩
                · rw [HTK.out, chB_snoc]; exact HB5.out
                · rw [HP2.out, List.length_drop]; have := HB2.out; omega
              case measure =>
                have h9 := HJL.out
                simp [intOf]
                omega
            · have hje : j = L.length := by omega
              have hall : chB (L.take j) = chB L := by rw [hje, List.take_length]
              have hpl3 : (chB L).length = pl := by rw [← hall, hpl]
              have hsB : SrcL wr ⟨B, 0, none⟩ cb := srcL_buf ((hb4.1.block B HBB.out.lt (by intro e; injection e with e; omega)).trans HBB.out)
              rw [hall] at hb1
              have hpn : pl + l = n := by omega
              have hfin : chB L ++ cb = bs := by
                have h9 := HI.out.got
                rw [hin, List.take_of_length_le (by rw [HN.out]; exact Nat.le_refl _)] at h9
                exact h9
              have HSB := Lib.hid hsB
              have HB1 := Lib.hid hb1
              have HB2 := Lib.hid hb2
              have HB3 := Lib.hid hb3
              have HB4 := Lib.hid hb4
              have HPL := Lib.hid hpl3
              have HPN := Lib.hid hpn
              have HFN := Lib.hid hfin
              have hfit : l ≤ tl'.length := by omega
              have hroom2 : pl + l ≤ c2 := by omega
              have ij : ¬ ((j : Nat) : Int) < ((m0 : Nat) : Int) := by omega
              have ij2 : ¬ j < m0 := by omega
              rw [hm0]
              clear hpl hb1 hb2 hb3 hb4 hin hsum hm0 hsB hplm hall hpl3 hpn hfin hje
              go_wp2_with (at_builtin; refine wpList_fits rfl _ _ rfl F pl c2 l cB ⟨B, 0, none⟩ (chB L) cb tl' rfl rfl HB1.out HPL.out HL.out HSB.out hroom2 hfit ?_; intro w5 hb5 ho5; have HB5 := Lib.hid hb5; have HO5 := Lib.hid ho5; clear hb5 ho5)
              go_ret2
              have hfin := HFN.out
              have hpn := HPN.out
              refine ⟨F, c2, tl'.drop l, by rw [← hpn]; rfl, by have h9 := HB5.out; rw [hfin] at h9; exact h9, by rw [List.length_drop]; have := HB2.out; omega, z2, HB3.out.drop _, by have := HWF.out; omega, HB5.out.lt, ?_⟩
              refine HI.out.chg.trans (Y := fun k => k = F) ⟨HO5.out.1.os.trans (HB4.out.1.os.trans HCF.out.os), HO5.out.1.tape.trans (HB4.out.1.tape.trans HCF.out.tape), HO5.out.1.output.trans (HB4.out.1.output.trans HCF.out.output), Nat.le_trans HCF.out.size (Nat.le_trans HB4.out.1.size HO5.out.1.size), fun k hk hn => ?_⟩ (fun k hk h => by have := HWF.out; omega)
              exact (HO5.out.1.block k (by have := HCF.out.size; have := HB4.out.1.size; omega) (fun e => hn (by injection e))).trans ((HB4.out.1.block k (by have := HCF.out.size; omega) (fun e => hn (by injection e))).trans (HCF.out.block k hk (fun h => h)))

end Go.Proofs.YthoekplablhgfaaGreatDoor
