/-
  The contracts of minify.New, ZZMinify and impl.JSON.
-/
import Derived.Test.YthoekplablhgfaaGreatDoorJMin2
import Derived.Deep.AppendLies
import Derived.Lib.ConvBytes
namespace Go.Proofs.YthoekplablhgfaaGreatDoor
open Go.RowKit
set_option linter.unusedVariables false

set_option maxRecDepth 100000 in
theorem New_at (w : World) : Calls Tryz.prog 16 #[] w fun e w' => ∃ v, e = .returned v ∧ w.grownBy w' none := by
  have hmm : ∀ W : World, (Instr.makeMap 67 none).run Tryz.prog W = .ok (.map (some W.heap.size)) (W.alloc (.map #[] 0)) := fun W => rfl
  go_enter Tryz.func16, Tryz.ntmps16
  go_wp2_with fail
  go_ret
  exact ⟨_, rfl, grownBy_trans (World.grownBy_alloc _ _ _) (World.grownBy_alloc _ _ _)⟩

set_option maxRecDepth 100000 in
set_option maxHeartbeats 3200000 in
theorem ZZMin_at (keep : Bool) (o g0 n c0 : Nat) (bs em : List Int) (a : Addr) (mv mp : Value) (w : World) (ho : Mfr w o keep) (hg0 : g0 < w.heap.size) (hsrc : ∀ j, j < n → w.cell? ⟨g0, j, none⟩ = some (.int .u8 (bs.getD j 0))) (hn : bs.length = n) (hn1 : 1 ≤ n) (hs : n ≤ 50000) (hE : Eof w a)
    (hrem : Rem keep [] 0 false true (bs ++ [0]) em) (hby : ∀ c ∈ bs, byteN c) (hem : em.length ≤ 100000) (hem0 : em ≠ []) :
    Calls Tryz.prog 15 #[.pointer (some ⟨o, 0, none⟩), mv, .slice (some ⟨g0, 0, none⟩) n c0, mp] w fun e w' => ∃ g cap, e = .returned (.tuple #[.slice (some ⟨g, 0, none⟩) em.length cap, .nilIface]) ∧ (∀ j, j < em.length → w'.cell? ⟨g, j, none⟩ = some (.int .u8 (em.getD j 0))) ∧ Below w.heap.size w w' := by
  obtain ⟨iu, hiu, hu0, hu1, hu2⟩ := info_parts info_u8'
  have HO := Lib.hid ho
  have HS := Lib.hid hsrc
  have HN := Lib.hid hn
  have HE := Lib.hid hE
  have HREM := Lib.hid hrem
  have HBY := Lib.hid hby
  have HEM0 := Lib.hid hem0
  clear ho hsrc hn hE hrem hby hem0
  go_enter Tryz.func15, Tryz.ntmps15
  have hw0 : 0 < w.heap.size := Nat.lt_of_le_of_lt (Nat.zero_le _) (World.block_lt_of_cell? w _ HE.out)
  have HSA : RowKit.Hid (∀ O, SrcL (w.alloc O) ⟨g0, 0, none⟩ bs) := Lib.hid (fun O j u hj => by
    have hjl : j < bs.length := by
      have h8 := (List.getElem?_eq_some_iff.1 hj).1
      rwa [List.length_map] at h8
    rw [show (⟨g0, 0, none⟩ : Addr).add j = ⟨g0, j, none⟩ from by unfold Addr.add; split <;> simp_all]
    refine ((World.cell?_of_block (a := ⟨g0, j, none⟩) (heap_alloc_old w O hg0)).trans (HS.out j (by rw [← HN.out]; exact hjl))).trans ?_
    rw [← hj, List.getElem?_map, List.getElem?_eq_getElem hjl, List.getD_eq_getElem?_getD, List.getElem?_eq_getElem hjl]
    rfl)
  have hmax : 0 + n ≤ maxLen := by unfold maxLen; omega
  go_wp2_with (at_builtin; refine wpList_append_lies _ rfl _ _ _ rfl (w.heap.size + 1) 5 iu (.int .u8 0) 1 1 Tryz.underlying44 hiu hu0 hu1 hu2 rfl (by omega) (.slice none 0 0) 0 [] rfl (own_nil _ _ _ _) ⟨g0, 0, none⟩ n c0 (bs.map (Value.int .u8)) rfl (by rw [List.length_map, HN.out, Nat.mul_one]) (HSA.out _) (one_cells bs) (by omega) hmax (by omega) (by simp) _ rfl ?_; intro g1 cap1 w1 hown hgrow hat hlt; have HOWN := Lib.hid hown; have HGR := Lib.hid hgrow; have HAT := Lib.hid hat; clear hown hgrow hat)
  refine (reader_at g1 0 n cap1 w1).mono ?_
  rintro e w2 ⟨rfl, hr2, hg2⟩
  have hown := HOWN.out
  simp only [Nat.zero_add, List.nil_append] at hown
  obtain ⟨hcap, hcm, hbg1, tl1, hb1, _⟩ := Buf.own hown HN.out
  have hgr : (w.alloc (Obj.cells #[Value.slice none 0 0, Value.int .i64 0, Value.int .i8 0] 61)).grownBy w1 none := HGR.out
  have hsz1 : w.heap.size + 1 ≤ w1.heap.size := by have := hgr.size; rwa [World.size_alloc] at this
  have hold : ∀ k, k < w.heap.size → w2.heap[k]? = w.heap[k]? := fun k hk => (hg2.block k (by omega) (by simp)).trans ((hgr.block k (by rw [World.size_alloc]; omega) (by simp)).trans (heap_alloc_old w _ hk))
  have hbuf2 : w2.heap[w.heap.size]? = some (.cells #[Value.slice none 0 0, Value.int .i64 0, Value.int .i8 0] 61 (0, 0)) := (hg2.block _ (by omega) (by simp)).trans ((hgr.block _ (by rw [World.size_alloc]; omega) (by simp)).trans (heap_alloc_new w _))
  have HR2 : RowKit.Hid (Rdr w2 w1.heap.size g1 n cap1 0) := Lib.hid ⟨-1, hr2⟩
  have HB2 : RowKit.Hid (Buf w2 g1 bs tl1) := Lib.hid (hb1.grown hg2 (by simp))
  have HO2 : RowKit.Hid (Mfr w2 o keep) := Lib.hid ((hold o (Array.getElem?_eq_some_iff.1 (show w.heap[o]? = _ from HO.out)).1).trans HO.out)
  have HE2 : RowKit.Hid (Eof w2 a) := Lib.hid ((World.cell?_of_block (a := ⟨0, 0, none⟩) (hold 0 hw0)).trans HE.out)
  have HOB2 : RowKit.Hid (OutB w2 w.heap.size none []) := Lib.hid ⟨0, .inl ⟨rfl, rfl, hbuf2⟩⟩
  have HOLD := Lib.hid hold
  have hsz2 := hg2.size
  have HG2 := Lib.hid hg2
  have HGR2 := Lib.hid hgr
  clear hown hb1 hgr hold hbuf2 hr2 hg2 hbg1
  go_wp2_with fail
  refine (Minify_at keep o w.heap.size w1.heap.size g1 n cap1 bs em tl1 a mv mp w2 HR2.out HB2.out HN.out hn1 hcap hs HE2.out (by omega) HO2.out HOB2.out (by omega) HREM.out HBY.out hem HEM0.out).mono ?_
  rintro e w3 ⟨rfl, r', ho3, hc3⟩
  obtain ⟨lr, ⟨_, h9, _⟩ | ⟨g, cap, tl, _, hbb, hbuf3, hcap3, hcm3, hgb3⟩⟩ := ho3
  · exact absurd h9 HEM0.out
  have hBB : BB w3 w.heap.size (.slice (some ⟨g, 0, none⟩) em.length cap) lr := hbb
  have HBB := Lib.hid hBB
  have HBF := Lib.hid hbuf3
  have HC3 := Lib.hid hc3
  have hel : 1 ≤ em.length := by
    rcases Nat.eq_zero_or_pos em.length with e | e
    · exact absurd (List.eq_nil_of_length_eq_zero e) HEM0.out
    · exact e
  clear hbb hbuf3 hc3 hBB
  go_wp2_with fail
  refine (Bytes_at w.heap.size g em.length cap lr w3 HBB.out hel).mono ?_
  rintro e w4 ⟨rfl, hg4⟩
  have HG4 := Lib.hid hg4
  clear hg4
  go_wp2_with fail
  go_ret2
  refine ⟨g, cap, rfl, fun j hj => ?_, ?_⟩
  · exact (HBF.out.grown HG4.out (by simp)).cell j hj
  · have hc := HC3.out
    have h4 := HG4.out
    have h2 := HG2.out
    have h1 := HGR2.out
    refine ⟨h4.os.trans (hc.os.trans (h2.os.trans h1.os)), h4.tape.trans (hc.tape.trans (h2.tape.trans h1.tape)), h4.output.trans (hc.output.trans (h2.output.trans h1.output)), by have := h4.size; have := hc.size; omega, fun k hk => ?_⟩
    exact (h4.block k (by have := hc.size; omega) (by simp)).trans ((hc.block k (by omega) (fun e => by rcases e with e | e <;> omega)).trans (HOLD.out k hk))

set_option maxRecDepth 100000 in
set_option maxHeartbeats 3200000 in
theorem implJSON_at (keep : Bool) (t em : List Int) (a : Addr) (w : World) (hby : ∀ c ∈ t, byteN c) (hn1 : 1 ≤ t.length) (hs : t.length ≤ 50000) (hE : Eof w a)
    (hrem : Rem keep [] 0 false true (t ++ [0]) em) (hem : em.length ≤ 100000) (hem0 : em ≠ []) :
    Calls Tryz.prog 7 #[.string (strOfNums t), .bool keep] w fun e w' => e = .returned (.tuple #[.string (strOfNums em), .bool true]) ∧ Below w.heap.size w w' := by
  obtain ⟨s, hs0⟩ : ∃ s, strOfNums t = s := ⟨_, rfl⟩
  rw [hs0]
  have hl : s.size = t.length := by rw [← hs0, str_size]
  have hbt : bytesL s = t := by rw [← hs0]; exact bytesL_str hby
  have hcv := fun W : World => Lib.run_convert_string_bytes (P := Tryz.prog) W 9 44 5 s Tryz.underlying9 Tryz.underlying44 Tryz.underlying5
  have HL := Lib.hid hl
  have HBT := Lib.hid hbt
  have HBY := Lib.hid hby
  have HE := Lib.hid hE
  have HREM := Lib.hid hrem
  have HEM0 := Lib.hid hem0
  clear hl hbt hby hE hrem hem0 hs0
  go_enter Tryz.func7, Tryz.ntmps7
  go_wp2_with fail
  refine (New_at _).mono ?_
  rintro e w1 ⟨v, rfl, hg1⟩
  have HG1 := Lib.hid hg1
  clear hg1
  go_wp2_with fail
  have hg1 := HG1.out
  generalize ho1 : Obj.cells #[Value.int .i64 0, Value.bool keep] 50 (0, 0) = o1 at hg1
  have hsz1 : w.heap.size + 1 ≤ w1.heap.size := by have := hg1.size; rwa [World.size_alloc] at this
  have hold : ∀ k, k < w.heap.size → (Lib.bytesWorld w1 5 s).heap[k]? = w.heap[k]? := fun k hk => (Lib.bytesWorld_at_old w1 _ s k (by omega)).trans ((hg1.block k (by rw [World.size_alloc]; omega) (by simp)).trans (heap_alloc_old w _ hk))
  have HMF : RowKit.Hid (Mfr (Lib.bytesWorld w1 5 s) w.heap.size keep) := Lib.hid (by
    refine (Lib.bytesWorld_at_old w1 _ s _ (by omega)).trans ((hg1.block _ (by rw [World.size_alloc]; omega) (by simp)).trans ((heap_alloc_new w o1).trans ?_))
    rw [← ho1])
  have HSR : RowKit.Hid (∀ j, j < s.size → (Lib.bytesWorld w1 5 s).cell? ⟨w1.heap.size, j, none⟩ = some (.int .u8 (t.getD j 0))) := Lib.hid (by
    intro j hj
    rw [Lib.bytesWorld_cell w1 _ s j hj, ← HBT.out]
    unfold bytesL
    rw [List.getD_eq_getElem?_getD, List.getD_eq_getElem?_getD, List.getElem?_map, List.getElem?_eq_getElem (by simpa using hj)]
    rfl)
  have HEB : RowKit.Hid (Eof (Lib.bytesWorld w1 5 s) a) := Lib.hid ((World.cell?_of_block (a := ⟨0, 0, none⟩) (hold 0 (Nat.lt_of_le_of_lt (Nat.zero_le _) (World.block_lt_of_cell? w _ HE.out)))).trans HE.out)
  have hszb : (Lib.bytesWorld w1 5 s).heap.size = w1.heap.size + 1 := Lib.bytesWorld_size _ _ _
  have HSZB := Lib.hid hszb
  have HOLD := Lib.hid hold
  have hsl := HL.out
  have HOS : RowKit.Hid ((Lib.bytesWorld w1 5 s).os = w.os ∧ (Lib.bytesWorld w1 5 s).tape = w.tape ∧ (Lib.bytesWorld w1 5 s).output = w.output) := Lib.hid ⟨hg1.os, hg1.tape, hg1.output⟩
  clear hold hg1 ho1 HG1
  refine (ZZMin_at keep w.heap.size w1.heap.size s.size _ t em a v (.map none) (Lib.bytesWorld w1 5 s) HMF.out (by rw [HSZB.out]; omega) HSR.out hsl.symm (by omega) (by omega) HEB.out HREM.out HBY.out hem HEM0.out).mono ?_
  rintro e w3 ⟨g, cap, rfl, hc, hb⟩
  clear hcv hszb hsl
  have hcv1 := run_convert_bytes_arg (P := Tryz.prog) (w := w3) 44 5 Tryz.underlying44 Tryz.underlying5 g 0 em.length cap em rfl (fun i hi => by rw [Nat.zero_add]; exact hc i hi) 9 Tryz.underlying9
  have hcv2 := run_convert_bytes_arg (P := Tryz.prog) (w := w3.drew) 44 5 Tryz.underlying44 Tryz.underlying5 g 0 em.length cap em rfl (fun i hi => by rw [Nat.zero_add]; exact hc i hi) 9 Tryz.underlying9
  have HB := Lib.hid hb
  clear hc hb
  go_wp2_with fail
  go_region
  all_goals
    go_wp2_with fail
    go_ret2
    refine ⟨rfl, ?_⟩
    have hb := HB.out
    obtain ⟨q1, q2, q3⟩ := HOS.out
    exact ⟨hb.os.trans q1, hb.tape.trans q2, hb.output.trans q3, by have h9 := hb.size; have := HSZB.out; exact Nat.le_trans (by omega) h9, fun k hk => (hb.block k (by have := HSZB.out; omega)).trans (HOLD.out k hk)⟩

end Go.Proofs.YthoekplablhgfaaGreatDoor
