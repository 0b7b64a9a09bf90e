/-
  The contract of the JSON minifier's Minify: the walk.
-/
import Derived.Test.YthoekplablhgfaaGreatDoorJMin
namespace Go.Proofs.YthoekplablhgfaaGreatDoor
open Go.RowKit
set_option linter.unusedVariables false

/-- What the loop holds. -/
structure MInv (keep : Bool) (wL : World) (b p z h N cap : Nat) (rf sv0 : Value) (tail : List Value) (whole : List Int) (w : World) (skip : Bool) (S : List Int) (top : Int) (nc : Bool) (pos st : Nat) (sv : Value) (xs rest em done : List Int) (r' : Option Nat) : Prop where
  mc : MC wL b p z h N cap rf sv0 tail w (S ++ [top]) nc pos st sv xs done r'
  lies : LiesL xs pos rest
  fin : pos + rest.length = N
  rem : Rem keep S top nc skip rest em
  byt : ∀ c ∈ rest, byteN c
  all : done ++ em = whole
def MinPost (b r : Nat) (em : List Int) (w : World) (e : Ending) (w' : World) : Prop := e = .returned .nilIface ∧ ∃ r', OutB w' b r' em ∧ Chg w w' (fun k => k = b ∨ k = r)
/-- The minifier's block. -/
def Mfr (w : World) (o : Nat) (keep : Bool) : Prop := w.heap[o]? = some (.cells #[.int .i64 0, .bool keep] 50 (0, 0))

/-- Where a function that defers may leave: no panic. -/
def noPan (P : Program) (fn : Func) (R : Ending → World → Prop) : Exit → Act → World → Prop
  | .normal, a, w => Leaves P fn a.tmps R a.defers .returning w
  | .ret, a, w => Leaves P fn a.tmps R a.defers .returning w
  | _, _, _ => False
theorem noPan_d (P : Program) (fn : Func) (R : Ending → World → Prop) : ∀ e a w, noPan P fn R e a w → bodyPostD P fn R e a w := by
  intro e a w h
  cases e <;> first | exact h | exact h.elim
theorem rem_len {keep skip : Bool} {S rest em : List Int} {top : Int} {nc : Bool} (h : Rem keep S top nc skip rest em) : S.length ≤ 1000 ∧ 0 ≤ top ∧ top ≤ 3 := by
  cases h <;> simp_all
theorem meth_write (w : World) (b : Nat) : (method 332 63 (.pointer (some ⟨b, 0, none⟩)) "Write").run Tryz.prog w = .ok (139, .pointer (some ⟨b, 0, none⟩)) w := by kernel_rfl

set_option maxRecDepth 100000 in
set_option maxHeartbeats 6400000 in
theorem Minify_at (keep : Bool) (o b r g n c : Nat) (bs em : List Int) (tl : List Value) (a : Addr) (mv mp : Value) (w : World) (hr : Rdr w r g n c 0) (hb : Buf w g bs tl) (hn : bs.length = n) (hn1 : 1 ≤ n) (hnc : n ≤ c) (hs : n ≤ 50000) (hE : Eof w a) (h0r : r ≠ 0)
    (ho : Mfr w o keep) (hob : OutB w b none []) (hb0 : b ≠ 0) (hrem : Rem keep [] 0 false true (bs ++ [0]) em) (hby : ∀ c ∈ bs, byteN c) (hem : em.length ≤ 100000) (hem0 : em ≠ []) :
    Calls Tryz.prog 23 #[.pointer (some ⟨o, 0, none⟩), mv, .iface 63 (.pointer (some ⟨b, 0, none⟩)), .iface 64 (.pointer (some ⟨r, 0, none⟩)), mp] w (MinPost b r em w) := by
  have HR := Lib.hid hr
  have HB := Lib.hid hb
  have HE := Lib.hid hE
  have HO := Lib.hid ho
  have HOB := Lib.hid hob
  have HREM := Lib.hid hrem
  have HBY := Lib.hid hby
  have HN := Lib.hid hn
  have HEM0 := Lib.hid hem0
  clear hr hb hE ho hob hrem hby hn hem0
  go_enter_defers Tryz.func23, Tryz.ntmps23
  refine Code.wp_mono (noPan_d _ _ _) ?_
  go_wp2_with fail
  refine (NewInput_at r g n c bs tl a w HR.out HB.out HN.out hn1 hnc hs HE.out h0r).mono ?_
  rintro e w1 ⟨z, h, cap, rf, tail, rfl, hi1, hb1, hc1, hr1, hz1, hzl1, hh1, hhl1, hhz1, hch1⟩
  have HI1 := Lib.hid hi1
  have HB1 := Lib.hid hb1
  have HR1 := Lib.hid hr1
  have HCH1 := Lib.hid hch1
  clear hi1 hb1 hr1 hch1
  go_wp2_with fail
  refine (NewParser_at z w1).mono ?_
  rintro e wL ⟨p, sv0, rfl, hp2, hs2, hpl2, hsb2, hpl3, hg2⟩
  have HP2 := Lib.hid hp2
  have HS2 := Lib.hid hs2
  have HSB2 := Lib.hid hsb2
  have HG2 := Lib.hid hg2
  clear hp2 hs2 hsb2 hg2
  go_wp2_with fail
  have hbl := HOB.out.lt.1
  have hsz1 := HCH1.out.size
  have hszL := HG2.out.size
  have FX : MFix wL b p z h sv0 :=
    { bl := by omega, pl := hpl3, zl := by omega, hl := by omega
      sl := fun k hk => by have := HSB2.out k hk; omega
      bp := by omega, bz := by omega, bh := by omega, b0 := hb0, p0 := by omega, z0 := by omega, h0 := by omega, hp := by omega }
  have hbr : b ≠ r := by
    rintro rfl
    obtain ⟨pr, h9⟩ := HR.out
    obtain ⟨lr, h8 | ⟨_, _, _, h8, _⟩⟩ := HOB.out
    · rw [h8.2.2] at h9
      injection h9 with h9
      injection h9 with _ h9 _
      exact absurd h9 (by decide)
    · cases h8
  have HOL : RowKit.Hid (OutB wL b none []) := Lib.hid ((HOB.out.keep (HCH1.out.block b hbl hbr) (fun g e => by cases e)).keep (HG2.out.block b (by omega) (by simp)) (fun g e => by cases e))
  obtain ⟨N, hN⟩ : ∃ N, n + 1 = N := ⟨_, rfl⟩
  rw [hN] at hc1
  have HM0 : RowKit.Hid (MC wL b p z h N cap rf sv0 tail wL [0] false 0 0 sv0 (bs ++ [0]) [] none) := Lib.hid
    { ps := ⟨⟨HP2.out, by have h9 := HI1.out; rw [hN] at h9; exact h9.keep (HG2.out.block z (by omega) (by simp)), HB1.out.keep (HG2.out.block h (by omega) (by simp)), by rw [List.length_append, HN.out]; exact hN, by omega, by omega, hhz1⟩, HS2.out, fun k hk => by have := HSB2.out k hk; omega⟩
      out := HOL.out, chg := Chg.refl _ _, svf := .inl rfl, rff := fun k e => by cases e }
  have HEL : RowKit.Hid (Eof wL a) := Lib.hid (by
    have h9 := HE.out
    have h8 := World.block_lt_of_cell? w _ h9
    exact (World.cell?_of_block (a := ⟨0, 0, none⟩) (HG2.out.block 0 (by show 0 < _; omega) (by simp))).trans ((World.cell?_of_block (a := ⟨0, 0, none⟩) (HCH1.out.block 0 (Nat.lt_of_le_of_lt (Nat.zero_le _) h8) (fun e => h0r e.symm))).trans h9))
  have hor : o ≠ r := by
    rintro rfl
    obtain ⟨pr, h9⟩ := HR.out
    have h8 := HO.out
    unfold Mfr at h8
    rw [h9] at h8
    injection h8 with h8
    injection h8 with _ h8 _
    exact absurd h8 (by decide)
  have hob : o ≠ b := by
    rintro rfl
    have h8 := HO.out
    unfold Mfr at h8
    obtain ⟨lr, h9 | ⟨_, _, _, h9, _⟩⟩ := HOB.out
    · rw [h8] at h9
      have h9 := h9.2.2
      injection h9 with h9
      injection h9 with _ h9 _
      exact absurd h9 (by decide)
    · cases h9
  have hol : o < w.heap.size := (Array.getElem?_eq_some_iff.1 (show w.heap[o]? = _ from HO.out)).1
  have HOM : RowKit.Hid (Mfr wL o keep ∧ o < wL.heap.size ∧ ¬ mX b h p z sv0 o) := Lib.hid ⟨(HG2.out.block o (by omega) (by simp)).trans ((HCH1.out.block o hol hor).trans HO.out), by omega, fun e => by
    rcases e with e | e | e | e | e
    · exact hob e
    · omega
    · omega
    · omega
    · have := HSB2.out o e; omega⟩
  have HFX := Lib.hid FX
  have HRL : RowKit.Hid (RestOk w1 h z n rf w.heap.size) := HR1
  have HHZ := Lib.hid hhz1
  have HNN := Lib.hid hN
  have hNb : N ≤ 50001 := by omega
  have HPL := Lib.hid hpl2
  have HZL := Lib.hid hz1
  have HHL := Lib.hid hh1
  have HBL := Lib.hid hbl
  have HSZ := Lib.hid hsz1
  have HSZL := Lib.hid hszL
  clear FX hbl hsz1 hbr hor hob hol hN hzl1 hh1 hhl1 hhz1 hpl2 hpl3
  go_loopw [11] (fun v11 wr => ∃ (skip : Bool) (S : List Int) (top : Int) (nc : Bool) (pos st : Nat) (sv : Value) (xs rest em' done : List Int) (r' : Option Nat), v11 = .bool skip ∧ RowKit.Hid (MInv keep wL b p z h N cap rf sv0 tail em wr skip S top nc pos st sv xs rest em' done r')) (fun _ wr => N - posOf wr z)
  case atStart =>
    have hbyt : ∀ c ∈ bs ++ [0], byteN c := fun c hc => by
      rcases List.mem_append.1 hc with hc | hc
      · exact HBY.out c hc
      · have : c = 0 := by simpa using hc
        subst this
        unfold byteN
        omega
    exact ⟨true, [], 0, false, 0, 0, sv0, bs ++ [0], bs ++ [0], em, [], none, rfl, Lib.hid { mc := HM0.out, lies := ⟨by omega, fun j hj => by rw [Nat.zero_add]⟩, fin := by rw [List.length_append, HN.out, Nat.zero_add]; exact HNN.out, rem := HREM.out, byt := hbyt, all := rfl }⟩
  case round =>
    obtain ⟨skip, S, top, nc, pos, st, sv, xs, rest, em', done, r', rfl, HI⟩ := hrel
    obtain ⟨hSl, ht0, ht3⟩ := rem_len HI.out.rem
    go_wp2_with fail
    refine (State_at p z h N cap pos st rf sv nc xs tail S top wr HI.out.mc.ps hSl).mono ?_
    rintro e w3 ⟨rfl, k3, rfl⟩
    have HM3 := Lib.hid (HI.out.mc.drewN k3)
    have hEr : Eof (wr.drewN k3) a := (World.cell?_of_block (a := ⟨0, 0, none⟩) (HM3.out.far (by have := HFX.out.bl; show 0 < _; omega) (fun e => by
      rcases e with e | e | e | e | e
      · exact hb0 e.symm
      · exact HFX.out.h0 e.symm
      · exact HFX.out.z0 e.symm
      · exact HFX.out.p0 e.symm
      · exact (HFX.out.sl 0 e).2.2 rfl))).trans HEL.out
    have HER := Lib.hid hEr
    have hE0 : 0 < (wr.drewN k3).heap.size ∧ ¬ nX p z sv 0 := by
      refine ⟨Nat.lt_of_le_of_lt (Nat.zero_le _) HM3.out.ps.blk.1, fun e => ?_⟩
      rcases e with e | e | e
      · exact HFX.out.z0 e.symm
      · exact HFX.out.p0 e.symm
      · rcases HM3.out.svf with q | q
        · exact (HFX.out.sl 0 (by rw [← q]; exact e)).2.2 rfl
        · have := q 0 e
          have := HFX.out.bl
          omega
    have HE0 := Lib.hid hE0
    clear hEr hE0
    go_wp2_with fail
    refine (next_step keep p z h N cap pos st rf sv nc skip xs tail S top rest em' a _ HM3.out.ps HFX.out.hp (by omega) hc1 HI.out.lies HI.out.fin HI.out.rem HI.out.byt HER.out HE0.out).mono ?_
    rintro e w4 (hend | htok)
    · -- the end
      obtain ⟨rfl, hS0, hem', pos', sv', hps', hpN, hch', hsv'⟩ := hend
      subst hS0
      subst hem'
      have HM4 := Lib.hid (HM3.out.next HFX.out hps' hch' hsv')
      have hdone : done = em := by rw [← HI.out.all, List.append_nil]
      subst hdone
      have HPS := Lib.hid hps'
      clear hps' hch' hsv'
      obtain ⟨g4, hg4⟩ : ∃ g4, r' = some g4 := by
        cases r' with
        | none =>
          obtain ⟨lr, h9 | ⟨_, _, _, h9, _⟩⟩ := HM4.out.out
          · exact absurd h9.2.1 HEM0.out
          · cases h9
        | some g => exact ⟨g, rfl⟩
      subst hg4
      have hme := meth_write
      go_wp2_with fail
      refine (Write_nil b g4 done w4 HM4.out.out (by omega)).mono ?_
      rintro e w5 ⟨rfl, ho5, hc5⟩
      have HM5 : RowKit.Hid (MC wL b p z h N cap rf sv0 tail w5 ([] ++ [0]) true pos' pos' sv' xs (done ++ []) (some g4)) := Lib.hid (HM4.out.write HFX.out (by rw [List.append_nil]; exact ho5) (hc5.mono fun k hk => .inl hk) (.inl rfl))
      have hE5 : Eof w5 a := (World.cell?_of_block (a := ⟨0, 0, none⟩) (HM5.out.far (by have := HFX.out.bl; show 0 < _; omega) (fun e => by
        rcases e with e | e | e | e | e
        · exact hb0 e.symm
        · exact HFX.out.h0 e.symm
        · exact HFX.out.z0 e.symm
        · exact HFX.out.p0 e.symm
        · exact (HFX.out.sl 0 e).2.2 rfl))).trans HEL.out
      have HE5 := Lib.hid hE5
      have hE5c := hE5
      unfold Eof at hE5c
      have hneq := neq_err a
      clear ho5 hc5 hE5
      go_wp2_with fail
      go_region_with ((go_at_call 37; refine (ParErr_at p z h N cap pos' pos' rf sv' true a w5.drew HM5.out.ps.lex.hp HM5.out.ps.lex.hi hpN (by omega) HE5.out).mono ?_; rintro e w6 ⟨rfl, k6, rfl⟩))
      all_goals
        go_wp2_with fail
        refine leaves_cons (f := 33) (args := #[.pointer (some ⟨z, 0, none⟩)]) (by simp) (by simp [go_sem]) ?_
        refine (Restore_d z h n cap pos' pos' w.heap.size rf .returning xs tail (w5.drewN (1 + k6)) (by have h9 := HM5.out.ps.lex.hi; rw [← HNN.out] at h9; exact h9) ?_ HM5.out.ps.lex.hb (by have h9 := HM5.out.ps.lex.hn; have h8 := HNN.out; omega) HHZ.out).mono ?_
        · rcases HR1.out with h9 | ⟨pc, pb, pn, cp, v, e1, e2, e3, e4, e5, e6, e7, e8, e9, f1, f2, f3, f4, f5, f6⟩
          · exact .inl h9
          · have hkeep : ∀ k, w.heap.size ≤ k → k < w1.heap.size → k ≠ h → k ≠ z → (w5.drewN (1 + k6)).heap[k]? = w1.heap[k]? := fun k q1 q2 q3 q4 =>
              (HM5.out.far (by have := HSZL.out; omega) (fun e => by
                rcases e with e | e | e | e | e
                · have := HBL.out; omega
                · exact q3 e
                · exact q4 e
                · have := HPL.out; omega
                · have := (HSB2.out k e).1; omega)).trans (HG2.out.block k q2 (by simp))
            exact .inr ⟨pc, pb, pn, cp, v, e1, (World.cell?_of_block (a := ⟨pc, 0, none⟩) (hkeep pc e5 (World.block_lt_of_cell? w1 _ e2) f1 f4)).trans e2, (World.cell?_of_block (a := ⟨pb, 0, none⟩) (hkeep pb e6 (World.block_lt_of_cell? w1 _ e3) f2 f5)).trans e3, (World.cell?_of_block (a := ⟨pn, 0, none⟩) (hkeep pn e7 (World.block_lt_of_cell? w1 _ e4) f3 f6)).trans e4, e5, e6, e7, e8, e9, f1, f2, f3, f4, f5, f6⟩
        · rintro e u' w7 ⟨rfl, rfl, hc7⟩
          have ho5 : OutB w5 b (some g4) done := by have h9 := HM5.out.out; rw [List.append_nil] at h9; exact h9
          have hg4 := HM5.out.rff g4 rfl
          obtain ⟨o1, o2⟩ := ho5.lt
          refine ⟨_, results_tmp rfl _ _ _, rfl, some g4, ho5.keep (hc7.block b o1 (fun e => e.elim HFX.out.bh HFX.out.bz)) (fun g e => hc7.block g (o2 g e) (fun q => ?_)), ?_⟩
          · injection e with e
            have := HFX.out.hl
            have := HFX.out.zl
            rcases q with q | q <;> omega
          · have hA : Chg w w5 (fun k => k = b ∨ k = r) := ((HCH1.out.mono fun k hk => .inr hk).trans (Chg.of (X := fun _ => False) HG2.out (fun k e => by cases e)) (fun _ _ h => h.elim)).trans HM5.out.chg (fun k hk e => by
              rcases e with e | e | e | e | e
              · exact .inl e
              · have := HHL.out; omega
              · have := HZL.out; omega
              · have := HPL.out; have := HSZ.out; omega
              · have := (HSB2.out k e).1; have := HSZ.out; omega)
            exact (hA.drewN _).trans hc7 (fun k hk e => by
              have := HHL.out
              have := HZL.out
              rcases e with e | e <;> omega)
    · -- a token
      obtain ⟨gt, q, len, cx, pos', sv', nc', S', top', t, u, rest', em2, rfl, hgt, hps', hch', hsv', htl, hl1, hl60, hlcx, hlq, hqp, hlr, hfin', hlt', ⟨kd, hrd⟩, hrem', hem', hnum⟩ := htok
      have HM4 := Lib.hid (HM3.out.next HFX.out hps' hch' hsv')
      have HTL := Lib.hid htl
      have HLQ := Lib.hid hlq
      have HLR := Lib.hid hlr
      have HFIN := Lib.hid hfin'
      have HRD := Lib.hid hrd
      have HREM' := Lib.hid hrem'
      have HNUM := Lib.hid hnum
      have f0 : (gt == 0) = false := by simp; omega
      obtain ⟨sp, hsp⟩ : ∃ sp, (if gt = 6 ∨ gt = 8 then ([] : List Int) else sep skip top) = sp := ⟨_, rfl⟩
      rw [hsp] at hem'
      have HSP := Lib.hid hsp
      have HEM := Lib.hid hem'
      obtain ⟨B1, hB1⟩ : ∃ B1, (!skip && !(decide (gt = 6)) && !(decide (gt = 8))) = B1 := ⟨_, rfl⟩
      have HB1' := Lib.hid hB1
      have hme := meth_write
      clear hps' hch' hsv' htl hlq hlr hfin' hrd hrem' hnum hsp hem' hB1
      go_upto_region 14 with (fail)
      go_cut [56] from 47 to 55 (fun v56 wd => v56 = .bool B1 ∧ wd = w4)
      case first =>
        cases skip with
        | true =>
          go_wp2_with fail
          go_meet
          case rel => exact ⟨by rw [← HB1'.out]; rfl, rfl⟩
        | false =>
          by_cases h6 : gt = 6
          · have f6 : (gt != 6) = false := by simp [h6]
            go_wp2_with fail
            go_meet
            case rel => exact ⟨by rw [← HB1'.out]; simp [h6], rfl⟩
          · have f6 : (gt != 6) = true := by simp [h6]
            by_cases h8 : gt = 8
            · have f8 : (gt != 8) = false := by simp [h8]
              go_wp2_with fail
              go_meet
              case rel => exact ⟨by rw [← HB1'.out]; simp [h8], rfl⟩
            · have f8 : (gt != 8) = true := by simp [h8]
              go_wp2_with fail
              go_meet
              case rel => exact ⟨by rw [← HB1'.out]; simp [h6, h8], rfl⟩
      case rest =>
        obtain ⟨rfl, rfl⟩ := hcut
        go_upto_if 56 with (fail)
        go_cut [] from 57 to 74 (fun wd => RowKit.Hid (∃ r2, MC wL b p z h N cap rf sv0 tail wd (S' ++ [top']) nc' pos' pos' sv' xs (done ++ sp) r2))
        case first =>
          cases B1 with
          | false =>
            have hsp0 : sp = [] := by
              have h9 := HB1'.out
              have h8 := HSP.out
              by_cases hk : gt = 6 ∨ gt = 8
              · rw [← h8, if_pos hk]
              · rw [← h8, if_neg hk]
                have h6 : ¬ gt = 6 := fun e => hk (.inl e)
                have h7 : ¬ gt = 8 := fun e => hk (.inr e)
                simp [h6, h7] at h9
                unfold sep
                rw [if_pos h9]
            have HS0 := Lib.hid hsp0
            clear hsp0
            go_wp2_with fail
            go_meet
            case rel => exact Lib.hid ⟨r', by rw [HS0.out, List.append_nil]; exact HM4.out⟩
          | true =>
            have hsp0 : sp = if top = 1 ∨ top = 3 then [44] else if top = 2 then [58] else [] := by
              have h9 := HB1'.out
              have h8 := HSP.out
              simp at h9
              rw [← h8, if_neg (by rintro (e | e); exact h9.1.2 e; exact h9.2 e)]
              unfold sep
              rw [if_neg (by simp [h9.1.1])]
            have HS0 := Lib.hid hsp0
            clear hsp0
            have hbc : wc.heap.size ≠ b := by have := HM4.out.out.lt.1; omega
            have hdl : done.length ≤ 100000 := by
              have h9 := congrArg List.length HI.out.all
              rw [List.length_append] at h9
              omega
            have hcases : top = 0 ∨ top = 1 ∨ top = 2 ∨ top = 3 := by omega
            rcases hcases with rfl | rfl | rfl | rfl
            · go_wp2_with fail
              go_meet
              case rel => exact Lib.hid ⟨r', by rw [HS0.out, if_neg (by decide), if_neg (by decide), List.append_nil]; exact HM4.out⟩
            · go_wp2_with fail
              go_region_with (first | (go_at_call 38; refine (comma_at _).mono ?_; rintro e w5 ⟨rfl, hs5, hg5⟩; have HS5 := Lib.hid hs5; have HG5 := Lib.hid hg5; clear hs5 hg5) | (go_at_call 139; refine (Write_at b 1 1 r' done [44] ⟨wc.heap.size, 0, none⟩ w5 ((HM4.out.drewN 1).grown HG5.out).out rfl (by omega) (by omega) HS5.out hbc (by omega)).mono ?_; rintro e w6 ⟨rfl, r2, ho6, hc6, hr6⟩; have HM6 := Lib.hid (((HM4.out.drewN 1).grown HG5.out).write HFX.out ho6 hc6 hr6); clear ho6 hc6 hr6))
              all_goals
                go_wp2_with fail
                go_meet
                case rel => exact Lib.hid ⟨r2, by rw [HS0.out, if_pos (by decide)]; exact HM6.out⟩
            · go_wp2_with fail
              go_region_with (first | (go_at_call 39; refine (colon_at _).mono ?_; rintro e w5 ⟨rfl, hs5, hg5⟩; have HS5 := Lib.hid hs5; have HG5 := Lib.hid hg5; clear hs5 hg5) | (go_at_call 139; refine (Write_at b 1 1 r' done [58] ⟨wc.heap.size, 0, none⟩ w5 ((HM4.out.drewN 1).grown HG5.out).out rfl (by omega) (by omega) HS5.out hbc (by omega)).mono ?_; rintro e w6 ⟨rfl, r2, ho6, hc6, hr6⟩; have HM6 := Lib.hid (((HM4.out.drewN 1).grown HG5.out).write HFX.out ho6 hc6 hr6); clear ho6 hc6 hr6))
              all_goals
                go_wp2_with fail
                go_meet
                case rel => exact Lib.hid ⟨r2, by rw [HS0.out, if_neg (by decide), if_pos trivial]; exact HM6.out⟩
            · go_wp2_with fail
              go_region_with (first | (go_at_call 38; refine (comma_at _).mono ?_; rintro e w5 ⟨rfl, hs5, hg5⟩; have HS5 := Lib.hid hs5; have HG5 := Lib.hid hg5; clear hs5 hg5) | (go_at_call 139; refine (Write_at b 1 1 r' done [44] ⟨wc.heap.size, 0, none⟩ w5 ((HM4.out.drewN 1).grown HG5.out).out rfl (by omega) (by omega) HS5.out hbc (by omega)).mono ?_; rintro e w6 ⟨rfl, r2, ho6, hc6, hr6⟩; have HM6 := Lib.hid (((HM4.out.drewN 1).grown HG5.out).write HFX.out ho6 hc6 hr6); clear ho6 hc6 hr6))
              all_goals
                go_wp2_with fail
                go_meet
                case rel => exact Lib.hid ⟨r2, by rw [HS0.out, if_pos (by decide)]; exact HM6.out⟩
        case rest =>
          obtain ⟨r2, hm5⟩ := hcut.out
          have HM5 := Lib.hid hm5
          obtain ⟨K, hK⟩ : ∃ K, decide (gt = 5 ∨ gt = 7) = K := ⟨_, rfl⟩
          have HK := Lib.hid hK
          clear hm5 hK HM4
          go_upto_region 19 with (fail)
          go_cut [11] from 75 to 80 (fun v11 wd => v11 = .bool K ∧ wd = wc)
          case first =>
            by_cases h5 : gt = 5
            · have f5 : (gt == 5) = true := by simp [h5]
              go_wp2_with fail
              go_meet
              case rel => exact ⟨by rw [← HK.out]; simp [h5], rfl⟩
            · have f5 : (gt == 5) = false := by simp [h5]
              by_cases h7 : gt = 7
              · have f7 : (gt == 7) = true := by simp [h7]
                go_wp2_with fail
                go_meet
                case rel => exact ⟨by rw [← HK.out]; simp [h7], rfl⟩
              · have f7 : (gt == 7) = false := by simp [h7]
                go_wp2_with fail
                go_meet
                case rel => exact ⟨by rw [← HK.out]; simp [h5, h7], rfl⟩
          case rest =>
            obtain ⟨rfl, rfl⟩ := hcut
            obtain ⟨B2, hB2⟩ : ∃ B2, (!keep && decide (t.getD 0 0 = 45 ∨ (48 ≤ t.getD 0 0 ∧ t.getD 0 0 ≤ 57))) = B2 := ⟨_, rfl⟩
            have HB2 := Lib.hid hB2
            clear hB2
            go_upto_region 20 with (fail)
            have hof : wc.heap[o]? = some (.cells #[.int .i64 0, .bool keep] 50 (0, 0)) := (HM5.out.far HOM.out.2.1 HOM.out.2.2).trans HOM.out.1
            have ko1 : wc.cell? ⟨o, 1, none⟩ = some (.bool keep) := by rw [cell_of_row wc o 1 _ _ _ hof]; rfl
            have ko0 : wc.cell? ⟨o, 0, none⟩ = some (.int .i64 0) := by rw [cell_of_row wc o 0 _ _ _ hof]; rfl
            obtain ⟨c0, hc0⟩ : ∃ c0, t.getD 0 0 = c0 := ⟨_, rfl⟩
            have kt0 : wc.cell? ⟨h, q, none⟩ = some (.int .u8 c0) := by
              have h9 := HLQ.out.2 0 (by rw [HTL.out]; omega)
              rw [Nat.add_zero, hc0] at h9
              rw [HM5.out.ps.lex.hb.cell q (by have := HLQ.out.1; rw [HTL.out] at this; omega), h9]
            have HC0 := Lib.hid hc0
            have il : (0 : Int) < ((len : Nat) : Int) := by omega
            have il2 : 0 < len := by omega
            clear hof hc0
            go_cut [108] from 81 to 107 (fun v108 wd => v108 = .bool B2 ∧ wd = wc)
            case first =>
              have hB2 := HB2.out
              rw [HC0.out] at hB2
              cases keep with
              | true =>
                have HB2b := Lib.hid (show B2 = false from by rw [← hB2]; rfl)
                clear hB2
                go_wp2_with fail
                go_meet
                case rel => exact ⟨by rw [HB2b.out], rfl⟩
              | false =>
                by_cases h45 : c0 = 45
                · have f45 : (c0 == 45) = true := by simp [h45]
                  have f48 : ¬ 48 ≤ c0 := by omega
                  have HB2b := Lib.hid (show B2 = true from by rw [← hB2]; simp [h45])
                  clear hB2 h45
                  go_wp2_with fail
                  go_meet
                  case rel => exact ⟨by rw [HB2b.out], rfl⟩
                · have f45 : (c0 == 45) = false := by simp [h45]
                  by_cases h48 : 48 ≤ c0
                  · by_cases h57 : c0 ≤ 57
                    · have HB2b := Lib.hid (show B2 = true from by rw [← hB2]; simp [h48, h57])
                      clear hB2
                      go_wp2_with fail
                      go_meet
                      case rel => exact ⟨by rw [HB2b.out], rfl⟩
                    · have HB2b := Lib.hid (show B2 = false from by rw [← hB2]; simp [h45, h57])
                      clear hB2
                      go_wp2_with fail
                      go_meet
                      case rel => exact ⟨by rw [HB2b.out], rfl⟩
                  · have HB2b := Lib.hid (show B2 = false from by rw [← hB2]; simp [h45, h48])
                    clear hB2
                    go_wp2_with fail
                    go_meet
                    case rel => exact ⟨by rw [HB2b.out], rfl⟩
            case rest =>
              obtain ⟨rfl, rfl⟩ := hcut
              go_upto_if 108 with (fail)
              go_cut [16] from 109 to 145 (fun v16 wd => RowKit.Hid (∃ (xs2 : List Int) (r3 : Option Nat) (pre0 cs : List Int) (a0 c2 : Nat), v16 = .slice (some ⟨h, a0, none⟩) cs.length c2 ∧ MC wL b p z h N cap rf sv0 tail wd (S' ++ [top']) nc' pos' pos' sv' xs2 (done ++ sp ++ pre0) r3 ∧ pre0 ++ cs = u ∧ LiesL xs2 a0 cs ∧ 1 ≤ cs.length ∧ cs.length ≤ 60 ∧ (∀ k, pos' ≤ k → xs2.getD k 0 = xs.getD k 0) ∧ xs2.length = xs.length))
              case first =>
                cases B2 with
                | false =>
                  have hut : u = t := by
                    have h9 := HB2.out
                    rcases HNUM.out with ⟨h8, h7⟩ | ⟨_, h7⟩
                    · cases keep with
                      | true => exact h7.2.2.1 rfl
                      | false =>
                        rw [decide_eq_true h8] at h9
                        exact absurd h9 (by decide)
                    · exact h7
                  have HUT := Lib.hid hut
                  clear hut
                  go_wp2_with fail
                  go_meet
                  case rel => exact Lib.hid ⟨xs, r2, [], t, q, cx, by rw [HTL.out], by rw [List.append_nil]; exact HM5.out, HUT.out.symm, HLQ.out, by rw [HTL.out]; exact hl1, by rw [HTL.out]; exact hl60, fun k _ => rfl, rfl⟩
                | true =>
                  have hnw : NumW t u := by
                    have h9 := HB2.out
                    simp at h9
                    rcases HNUM.out with ⟨h8, h7⟩ | ⟨h8, _⟩
                    · exact h7.2.2.2 h9.1
                    · exact absurd h9.2 h8
                  have HNW := Lib.hid hnw
                  clear hnw
                  go_wp2_with fail
                  refine (Number_tok h q len cx t u xs tail wc HM5.out.ps.lex.hb HLQ.out HTL.out hlcx hl60 HNW.out).mono ?_
                  rintro e w7 ⟨a1, R, xs2, rfl, hu, hR1, hR2, hl2, hb2, hxl2, hsame, hon⟩
                  have HM7 := Lib.hid (HM5.out.bytes HFX.out hon hb2 hxl2)
                  have HU := Lib.hid hu
                  have HL2 := Lib.hid hl2
                  have HXL2 := Lib.hid hxl2
                  have HSAME := Lib.hid (show ∀ k, pos' ≤ k → xs2.getD k 0 = xs.getD k 0 from fun k hk => hsame k (by omega))
                  obtain ⟨qa, hqa⟩ : ∃ qa, q + a1 = qa := ⟨_, rfl⟩
                  obtain ⟨rl, hrl⟩ : ∃ rl, R.length = rl := ⟨_, rfl⟩
                  obtain ⟨ca, hca⟩ : ∃ ca, cx - a1 = ca := ⟨_, rfl⟩
                  obtain ⟨c1, hc1'⟩ : ∃ c1, R.getD 0 0 = c1 := ⟨_, rfl⟩
                  rw [hrl] at hR1 hR2
                  have hrca : rl ≤ ca := by omega
                  have kr0 : w7.cell? ⟨h, qa, none⟩ = some (.int .u8 c1) := by
                    have h9 := hl2.2 0 (by omega)
                    rw [Nat.add_zero, hc1', hqa] at h9
                    rw [hb2.cell qa (by have := hl2.1; omega), h9]
                  have hl60' : rl ≤ 60 := by omega
                  have il3 : (0 : Int) < ((rl : Nat) : Int) := by omega
                  have il4 : 0 < rl := by omega
                  have HQA := Lib.hid hqa
                  have HRL2 := Lib.hid hrl
                  have HC1 := Lib.hid hc1'
                  have hbc : w7.heap.size ≠ b := by have := HM7.out.out.lt.1; omega
                  have hdl : (done ++ sp).length ≤ 100000 := by
                    have h9 := congrArg List.length HI.out.all
                    rw [HEM.out, List.length_append, List.length_append] at h9
                    rw [List.length_append]
                    omega
                  have HR2 := Lib.hid hR2
                  rw [hqa, hrl, hca]
                  have HB7 := Lib.hid hb2
                  clear hu hl2 hxl2 hsame hqa hrl hca hc1' hb2 hon hR2
                  by_cases h46 : c1 = 46
                  · have f46 : (c1 == 46) = true := by simp [h46]
                    have hfx : u = [48] ++ R := by
                      rw [HU.out]
                      unfold fix0
                      rw [if_pos (by rw [HC1.out]; exact h46)]
                      rfl
                    have HF := Lib.hid hfx
                    clear hfx h46
                    go_wp2_with fail
                    go_region_with (first | (go_at_call 41; refine (zero_at _).mono ?_; rintro e w8 ⟨rfl, hs8, hg8⟩; have HS8 := Lib.hid hs8; have HG8 := Lib.hid hg8; clear hs8 hg8) | (go_at_call 139; refine (Write_at b 1 1 r2 (done ++ sp) [48] ⟨w7.heap.size, 0, none⟩ w8 ((HM7.out.drewN 1).grown HG8.out).out rfl (by omega) (by omega) HS8.out hbc (by omega)).mono ?_; rintro e w9 ⟨rfl, r3, ho9, hc9, hr9⟩; have HM9 := Lib.hid (((HM7.out.drewN 1).grown HG8.out).write HFX.out ho9 hc9 hr9); clear ho9 hc9 hr9))
                    all_goals
                      go_wp2_with fail
                      go_meet
                      case rel => exact Lib.hid ⟨xs2, r3, [48], R, qa, ca, by rw [HRL2.out], HM9.out, HF.out.symm, by rw [← HQA.out]; exact HL2.out, by rw [HRL2.out]; exact il4, by rw [HRL2.out]; exact hl60', HSAME.out, HXL2.out⟩
                  · have f46 : (c1 == 46) = false := by simp [h46]
                    by_cases hrl1 : rl = 1
                    · have hfx : u = R := by
                        rw [HU.out]
                        unfold fix0
                        rw [if_neg (by rw [HC1.out]; exact h46), if_neg (fun e => by
                          have h9 := e.2
                          rw [getD_over (by rw [HRL2.out]; omega)] at h9
                          exact absurd h9 (by decide))]
                      have HF := Lib.hid hfx
                      have i9 : ¬ (1 : Int) < ((rl : Nat) : Int) := by omega
                      have HRL1 := Lib.hid hrl1
                      clear hfx h46 hrl1
                      go_wp2_with fail
                      go_meet
                      case rel => exact Lib.hid ⟨xs2, r2, [], R, qa, ca, by rw [HRL2.out], by rw [List.append_nil]; exact HM7.out, HF.out.symm, by rw [← HQA.out]; exact HL2.out, by rw [HRL2.out]; exact il4, by rw [HRL2.out]; exact hl60', HSAME.out, HXL2.out⟩
                    · have i9 : (1 : Int) < ((rl : Nat) : Int) := by omega
                      have i10 : 1 < rl := by omega
                      by_cases h45 : c1 = 45
                      · have f45 : (c1 == 45) = true := by simp [h45]
                        obtain ⟨c2', hc2'⟩ : ∃ c2', R.getD 1 0 = c2' := ⟨_, rfl⟩
                        have kr1 : w7.cell? ⟨h, qa + 1, none⟩ = some (.int .u8 c2') := by
                          have h9 := HL2.out.2 1 (by rw [HRL2.out]; omega)
                          rw [hc2', HQA.out] at h9
                          rw [HB7.out.cell (qa + 1) (by have := HL2.out.1; have := HRL2.out; have := HQA.out; omega), h9]
                        have HC2 := Lib.hid hc2'
                        clear hc2'
                        by_cases h462 : c2' = 46
                        · have f462 : (c2' == 46) = true := by simp [h462]
                          have hdl1 : (R.drop 1).length = rl - 1 := by rw [List.length_drop, HRL2.out]
                          have hfx : u = [45, 48] ++ R.drop 1 := by
                            rw [HU.out]
                            unfold fix0
                            rw [if_neg (by rw [HC1.out]; exact h46), if_pos ⟨by rw [HC1.out]; exact h45, by rw [HC2.out]; exact h462⟩]
                            rfl
                          have hld : LiesL xs2 (qa + 1) (R.drop 1) := by
                            have h9 := HL2.out
                            rw [HQA.out] at h9
                            cases hRR : R with
                            | nil => rw [hRR] at hdl1; simp at hdl1; omega
                            | cons x y => rw [hRR] at h9; exact h9.tail
                          have HF := Lib.hid hfx
                          have HLD := Lib.hid hld
                          have HD1 := Lib.hid hdl1
                          have i11 : ¬ ca - 1 = 0 := by omega
                          have i12 : ¬ ca = 1 := by omega
                          have i13 : (1 : Int) ≤ ((rl : Nat) : Int) := by omega
                          have i14 : ((rl : Nat) : Int) ≤ ((ca : Nat) : Int) := by omega
                          clear hfx h46 h45 h462 hld hdl1
                          go_wp2_with fail
                          go_region_with (first | (go_at_call 42; refine (minusZero_at _).mono ?_; rintro e w8 ⟨rfl, hs8, hg8⟩; have HS8 := Lib.hid hs8; have HG8 := Lib.hid hg8; clear hs8 hg8) | (go_at_call 139; refine (Write_at b 2 2 r2 (done ++ sp) [45, 48] ⟨w7.heap.size, 0, none⟩ w8 ((HM7.out.drewN 1).grown HG8.out).out rfl (by omega) (by omega) HS8.out hbc (by omega)).mono ?_; rintro e w9 ⟨rfl, r3, ho9, hc9, hr9⟩; have HM9 := Lib.hid (((HM7.out.drewN 1).grown HG8.out).write HFX.out ho9 hc9 hr9); clear ho9 hc9 hr9))
                          all_goals
                            go_wp2_with fail
                            go_meet
                            case rel => exact Lib.hid ⟨xs2, r3, [45, 48], R.drop 1, qa + 1, ca - 1, by rw [HD1.out], HM9.out, HF.out.symm, HLD.out, by rw [HD1.out]; omega, by rw [HD1.out]; omega, HSAME.out, HXL2.out⟩
                        · have f462 : (c2' == 46) = false := by simp [h462]
                          have hfx : u = R := by
                            rw [HU.out]
                            unfold fix0
                            rw [if_neg (by rw [HC1.out]; exact h46), if_neg (fun e => h462 (by rw [← HC2.out]; exact e.2))]
                          have HF := Lib.hid hfx
                          clear hfx h46 h45 h462
                          go_wp2_with fail
                          go_meet
                          case rel => exact Lib.hid ⟨xs2, r2, [], R, qa, ca, by rw [HRL2.out], by rw [List.append_nil]; exact HM7.out, HF.out.symm, by rw [← HQA.out]; exact HL2.out, by rw [HRL2.out]; exact il4, by rw [HRL2.out]; exact hl60', HSAME.out, HXL2.out⟩
                      · have f45 : (c1 == 45) = false := by simp [h45]
                        have hfx : u = R := by
                          rw [HU.out]
                          unfold fix0
                          rw [if_neg (by rw [HC1.out]; exact h46), if_neg (fun e => h45 (by rw [← HC1.out]; exact e.1))]
                        have HF := Lib.hid hfx
                        clear hfx h46 h45
                        go_wp2_with fail
                        go_meet
                        case rel => exact Lib.hid ⟨xs2, r2, [], R, qa, ca, by rw [HRL2.out], by rw [List.append_nil]; exact HM7.out, HF.out.symm, by rw [← HQA.out]; exact HL2.out, by rw [HRL2.out]; exact il4, by rw [HRL2.out]; exact hl60', HSAME.out, HXL2.out⟩
              case rest =>
                obtain ⟨xs2, r3, pre0, cs, a0, c2, rfl, hm9, hpre, hlc, hcs1, hcs6, hsame, hxl2⟩ := hcut.out
                have HM9 := Lib.hid hm9
                have HPRE := Lib.hid hpre
                have HSAME := Lib.hid hsame
                have HXL2 := Lib.hid hxl2
                obtain ⟨cl, hcl⟩ : ∃ cl, cs.length = cl := ⟨_, rfl⟩
                rw [hcl] at hcs1 hcs6 ⊢
                have hsrc : SrcL wc ⟨h, a0, none⟩ cs := fun j v hj => by
                  have hjl : j < cs.length := by
                    have h8 := (List.getElem?_eq_some_iff.1 hj).1
                    rwa [List.length_map] at h8
                  rw [show (⟨h, a0, none⟩ : Addr).add j = ⟨h, a0 + j, none⟩ from by unfold Addr.add; split <;> simp_all, hm9.ps.lex.hb.cell (a0 + j) (by have := hlc.1; omega), hlc.2 j hjl, ← hj, List.getElem?_map, List.getElem?_eq_getElem hjl, List.getD_eq_getElem?_getD, List.getElem?_eq_getElem hjl]
                  rfl
                have HSRC := Lib.hid hsrc
                have HCL := Lib.hid hcl
                have hdl : (done ++ sp ++ pre0).length ≤ 100000 := by
                  have h9 := congrArg List.length HI.out.all
                  rw [HEM.out, ← hpre] at h9
                  simp only [List.length_append] at h9 ⊢
                  omega
                clear hm9 hpre hsame hxl2 hcl hsrc hcut hlc
                go_wp2_with fail
                refine (Write_at b cl c2 r3 (done ++ sp ++ pre0) cs ⟨h, a0, none⟩ wc HM9.out.out HCL.out hcs1 (by omega) HSRC.out (fun e => HFX.out.bh e.symm) (by omega)).mono ?_
                rintro e w9 ⟨rfl, r4, ho9, hc9, hr9⟩
                have HMA := Lib.hid (HM9.out.write HFX.out ho9 hc9 hr9)
                clear ho9 hc9 hr9
                go_wp2_with fail
                go_roundw
                case rel =>
                  refine ⟨K, S', top', nc', pos', pos', sv', xs2, rest', em2, done ++ sp ++ pre0 ++ cs, r4, rfl, Lib.hid { mc := HMA.out, lies := ⟨by rw [HXL2.out]; exact HLR.out.1, fun j hj => by rw [HSAME.out _ (by omega)]; exact HLR.out.2 j hj⟩, fin := HFIN.out, rem := by rw [← HK.out]; exact HREM'.out, byt := fun x hx => HI.out.byt x (by rw [HRD.out] at hx; exact List.mem_of_mem_drop hx), all := ?_ }⟩
                  rw [← HI.out.all, HEM.out, ← HPRE.out]
                  simp only [List.append_assoc]
                case measure =>
                  have h9 := HMA.out.ps.lex.hi.posOf
                  have h8 := HI.out.mc.ps.lex.hi.posOf
                  have h7 := HFIN.out
                  have h6 := HI.out.fin
                  rw [h9, h8]
                  omega

end Go.Proofs.YthoekplablhgfaaGreatDoor
