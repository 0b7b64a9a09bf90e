/-
  The contract of the parser's Next: a closing bracket.
-/
import Derived.Test.YthoekplablhgfaaGreatDoorJNextA
import Derived.StillTailTactics
namespace Go.Proofs.YthoekplablhgfaaGreatDoor
open Go.RowKit
set_option linter.unusedVariables false

set_option maxRecDepth 100000 in
set_option maxHeartbeats 6400000 in
theorem next_arr_end (p z h n cap pos st : Nat) (rf sv : Value) (nc nc' : Bool) (xs : List Int) (tail : List Value) (S : List Int) (top : Int) (pre l : List Int) (w : World) (x : PS w p z h n cap pos st rf sv nc xs tail (S ++ [top])) (hhp : h ≠ p) (hS : S.length ≤ 1000) (hcap : n ≤ 1000000) (hnc : n ≤ cap) (htop : 0 ≤ top ∧ top ≤ 3) (hpre : PreOk nc top pre nc') (hl : LiesL xs pos (pre ++ 93 :: l)) (S0 : List Int) (t2 r : Int) (hSS : S = S0 ++ [t2]) (htp : top = 3) (hr : (t2 = 2 ∧ r = 1) ∨ (t2 ≠ 2 ∧ r = t2)) :
    Calls Tryz.prog 36 #[.pointer (some ⟨p, 0, none⟩)] w (NextPost 8 (pos + pre.length) 1 1 p z h n cap (pos + pre.length + 1) rf sv true xs tail (S0 ++ [r]) w) := by
  have hc44 : (93 : Int) ≠ 44 := by decide
  have hcw : ¬ wsb 93 := by decide
  have HTP := Lib.hid htp
  have HSS := Lib.hid hSS
  have HR := Lib.hid hr
  clear htp hSS hr
  obtain ⟨w1, l1, c1, hw1, hl1, hc1w, hcs⟩ := pre_parts hpre hl hc44 hcw
  obtain ⟨q, hq⟩ : ∃ q, pos + pre.length = q := ⟨_, rfl⟩
  have hlq := hl.drop
  rw [hq] at hlq hcs ⊢
  obtain ⟨q1, hq1⟩ : ∃ q1, pos + w1.length = q1 := ⟨_, rfl⟩
  rw [hq1] at hcs
  have hb1 := hl1.drop.head
  rw [hq1] at hb1
  have hbq := hlq.head
  have hN := x.lex.hn
  have hN2 := x.lex.hs
  obtain ⟨ht0, ht3⟩ := htop
  have X := Lib.hid x
  have HW1 := Lib.hid hw1
  have HL1 := Lib.hid hl1
  have HC1 := Lib.hid hc1w
  have HCS := Lib.hid hcs
  have HLQ := Lib.hid hlq
  have HB1 := Lib.hid hb1.2
  have HBQ := Lib.hid hbq.2
  have hq1n : q1 < n := by rw [← hN]; exact hb1.1
  have hqn : q < n := by rw [← hN]; exact hbq.1
  clear x hw1 hl1 hc1w hcs hlq hb1 hbq hl hpre
  go_enter Tryz.func36, Tryz.ntmps36
  go_wp2_with fail
  refine (X.out.white w1 l1 c1 HW1.out HL1.out HC1.out q1 hq1).mono ?_
  rintro e wa ⟨rfl, hx, hch⟩
  have XA := Lib.hid hx
  have HCH := Lib.hid hch
  have k0 := hx.lex.hp.c0
  clear hx hch
  go_wp2_with fail
  refine (XA.out.lex.peek 0 c1 ⟨by rw [XA.out.lex.hn]; exact hq1n, HB1.out⟩ (by omega)).mono ?_
  rintro e wb ⟨rfl, rfl⟩
  obtain ⟨g, cs, hsv, hcell, hfz, hk1, hk2, hk3⟩ := XA.out.stk.top
  have k1 := XA.out.lex.hp.c1
  rw [hsv] at k1
  obtain ⟨m, hm⟩ : ∃ m, S.length = m := ⟨_, rfl⟩
  rw [hm] at hcell k1 hS
  go_wp2_with fail
  have i2 : IntKind.i64.wrap (((m : Nat) : Int) + 1 - 1) = ((m : Nat) : Int) := by rw [IntWalk.i64_in _ (by omega)]; omega
  have i3 : ((m : Nat) : Int) + 1 - 1 = ((m : Nat) : Int) := by omega
  have i4 : ((m : Nat) : Int) < ((m : Nat) : Int) + 1 := by omega
  go_quiet (fail)
  have XB := Lib.hid (XA.out.drewN nq)
  have HCB := Lib.hid (HCH.out.drewN nq)
  clear i2 i3 i4 k0 k1 hcell hfz XA HCH
  obtain ⟨wx, hwx⟩ : ∃ W, wa.drewN nq = W := ⟨_, rfl⟩
  rw [hwx] at XB HCB ⊢
  clear hwx
  have k0 := XB.out.lex.hp.c0
  have k3 := XB.out.lex.hp.fz 3
  go_upto_if 29 with (fail)
  go_cut [4] from 9 to 59 (fun v4 wd => v4 = .int .u8 93 ∧ RowKit.Hid (PS wd p z h n cap q st rf sv nc' xs tail (S ++ [top])) ∧ RowKit.Hid (Chg w wd (nX p z sv)))
  case first =>
    rcases HCS.out with ⟨h44, rfl, rfl, rfl⟩ | ⟨rfl, htop, rfl, w2, hw2, hl2, hq2⟩
    · have f44 : ((93 : Int) == 44) = false := beq_eq_false_iff_ne.2 hc44
      go_wp2_with fail
      go_meet
      case rel => exact ⟨rfl, XB, HCB⟩
    · have HW2 := Lib.hid hw2
      have HL2 := Lib.hid hl2
      clear hw2 hl2
      go_upto_region 5 with (fail)
      go_cut [35] from 30 to 34 (fun v35 wd => v35 = .bool false ∧ wd = wx)
      case first =>
        rcases htop with rfl | rfl
        · go_wp2_with fail
          go_meet
          case rel => exact ⟨rfl, rfl⟩
        · go_wp2_with fail
          go_meet
          case rel => exact ⟨rfl, rfl⟩
      case rest =>
        obtain ⟨rfl, rfl⟩ := hcut
        go_wp2_with fail
        refine (XB.out.move (q1 + 1) rfl (by omega)).mono ?_
        rintro e we ⟨rfl, hx, hch⟩
        have XE := Lib.hid hx
        have HCE := Lib.hid (nX_trans HCB.out hch)
        clear hx hch
        go_wp2_with fail
        refine (XE.out.white w2 l 93 HW2.out HL2.out hcw q hq2).mono ?_
        rintro e wf ⟨rfl, hx, hch⟩
        have XF := Lib.hid hx
        have HCF := Lib.hid (nX_trans HCE.out hch)
        clear hx hch
        have k0 := XF.out.lex.hp.c0
        have k3 := XF.out.lex.hp.c3
        have kf := XF.out.lex.hp.fz 3
        have hx2 := XF.out.comma false hhp
        have XG := Lib.hid hx2
        have HCG := Lib.hid (nX_trans HCF.out (Chg.set (X := nX p z sv) (b := p) (o := 3) (v := .bool false) (.inr (.inl rfl))))
        clear hx2
        go_wp2_with fail
        refine (XG.out.lex.peek 0 93 ⟨by rw [hN]; exact hqn, HBQ.out⟩ (by omega)).mono ?_
        rintro e wb ⟨rfl, rfl⟩
        go_wp2_with fail
        go_meet
        case rel => exact ⟨rfl, XG, HCG⟩
  case rest =>
    clear XB HCB k0 k3 HCS HB1 HL1 HC1 HW1 X
    obtain ⟨rfl, XC, HCC⟩ := hcut
    have k0 := XC.out.lex.hp.c0
    go_wp2_with fail
    refine (XC.out.skip).mono ?_
    rintro e wg ⟨rfl, hx, hch⟩
    have XD := Lib.hid hx
    have HCD := Lib.hid (nX_trans HCC.out hch)
    clear hx hch XC HCC k0
    have k0 := XD.out.lex.hp.c0
    have k3 := XD.out.lex.hp.c3
    have kf := XD.out.lex.hp.fz 3
    go_upto_region 13 with (fail)
    go_cut [80] from 65 to 79 (fun v80 wd => v80 = .bool false ∧ wd = wg)
    case first =>
      cases nc' with
      | true =>
        go_wp2_with fail
        go_meet
        case rel => exact ⟨rfl, rfl⟩
      | false =>
        go_wp2_with fail
        go_meet
        case rel => exact ⟨rfl, rfl⟩
    case rest =>
      obtain ⟨rfl, rfl⟩ := hcut
      have htp := HTP.out
      subst htp
      have k1 := XD.out.lex.hp.c1
      have kf1 := XD.out.lex.hp.fz 1
      rw [hsv, hm] at k1
      obtain ⟨mz, hmz⟩ : ∃ mz, S0.length = mz := ⟨_, rfl⟩
      have hmm : m = mz + 1 := by rw [← hm, HSS.out, List.length_append, hmz]; rfl
      subst hmm
      have hpz := XD.out.lex.hpz
      have hhz := XD.out.lex.hhz
      have hno := XD.out.own
      have hstk := XD.out.stk
      rw [hsv, hm] at hno hstk
      have hgne := hno g rfl
      -- the popped stack
      have hpop : Stk wc (.slice (some ⟨g, 0, none⟩) (mz + 1) cs) S := by
        have h1 := hstk
        rw [← hm] at h1
        have h2 := h1.pop
        rw [hm] at h2
        exact h2
      rw [HSS.out] at hpop
      obtain ⟨g2, cs2, hsv2, hcell2, hfz2, _, _, hlt2⟩ := hpop.top
      rw [hmz] at hsv2 hcell2 hfz2
      obtain ⟨rfl, rfl⟩ : g = g2 ∧ cs = cs2 := by
        injection hsv2 with e1 e2 e3
        injection e1 with e1
        injection e1 with e1
        exact ⟨e1, e3⟩
      obtain ⟨w2, hw2⟩ : ∃ W, wc.setCell ⟨p, 3, none⟩ (.bool true) = W := ⟨_, rfl⟩
      have hP2 : Par w2 p z (.slice (some ⟨g, 0, none⟩) (mz + 1 + 1) cs) true := by
        have h1 := XD.out.lex.hp.comma true
        rw [hsv, hm, hw2] at h1
        exact h1
      have hc2 : w2.cell? ⟨g, mz, none⟩ = some (.int .u32 t2) := by
        rw [← hcell2, ← hw2]
        simp [World.cell?, Below.heap_setCell wc ⟨p, 3, none⟩ (.bool true) g hgne.1]
      have hf2 : w2.frozen? ⟨g, mz, none⟩ = false := by
        rw [← hfz2, ← hw2]
        simp [World.frozen?, Below.heap_setCell wc ⟨p, 3, none⟩ (.bool true) g hgne.1]
      obtain ⟨w3, hw3⟩ : ∃ W, (w2.setCell ⟨p, 1, none⟩ (.slice (some ⟨g, 0, none⟩) (mz + 1) cs)).drew = W := ⟨_, rfl⟩
      have hP3 : Par w3 p z (.slice (some ⟨g, 0, none⟩) (mz + 1) cs) true := by
        rw [← hw3]
        exact (hP2.stack _).keep rfl
      have hk3 : ∀ k, k ≠ p → w3.heap[k]? = wc.heap[k]? := fun k hk => by
        rw [← hw3, ← hw2]
        exact (Below.heap_setCell _ _ _ _ (show k ≠ p from hk)).trans (Below.heap_setCell wc ⟨p, 3, none⟩ (.bool true) k hk)
      have hc3 : w3.cell? ⟨g, mz, none⟩ = some (.int .u32 t2) := by
        rw [← hcell2]
        simp [World.cell?, hk3 g hgne.1]
      have hf3 : w3.frozen? ⟨g, mz, none⟩ = false := by
        rw [← hfz2]
        simp [World.frozen?, hk3 g hgne.1]
      have hch3 : Chg wc w3 (nX p z sv) := by
        rw [← hw3, ← hw2]
        exact nX_trans (Chg.set (.inr (.inl rfl))) (Chg.drew (Chg.set (.inr (.inl rfl))))
      have hps3 : PS w3 p z h n cap q q rf (.slice (some ⟨g, 0, none⟩) (mz + 1) cs) true xs tail (S0 ++ [t2]) :=
        ⟨⟨hP3, XD.out.lex.hi.keep (hk3 z (fun e => hpz e.symm)), XD.out.lex.hb.keep (hk3 h hhp), XD.out.lex.hn, XD.out.lex.hs, hpz, hhz⟩, hpop.keep fun k e => by
          have e : some g = some k := e
          injection e with e
          subst e
          exact hk3 g hgne.1, fun k e => by
          have e : some g = some k := e
          injection e with e
          subst e
          exact hgne⟩
      have X3 := Lib.hid hps3
      have H3 := Lib.hid (nX_trans HCD.out hch3)
      have HC3 := Lib.hid hc3
      have HF3 := Lib.hid hf3
      have hown9 : (Value.slice (some ⟨g, 0, none⟩) (mz + 1) cs).ownBlock = sv.ownBlock := by rw [hsv]; rfl
      have HOW := Lib.hid hown9
      have HW3 := Lib.hid hw3
      have HW2 := Lib.hid hw2
      have HP2 := Lib.hid hP2
      have HC2 := Lib.hid hc2
      have HF2 := Lib.hid hf2
      have HPOP := Lib.hid hpop
      have k12 := hP2.c1
      have k02 := hP2.c0
      have kf2 := hP2.fz 1
      have kw := hw2
      clear hP2 hc2 hf2 hpop hstk hno hw3 hw2 k1 hP3 hk3 hc3 hf3 hch3 hps3 hown9
      have i2 : IntKind.i64.wrap (((mz : Nat) : Int) + 1 + 1 - 1) = ((mz : Nat) : Int) + 1 := by rw [IntWalk.i64_in _ (by omega)]; omega
      have i3 : ((mz : Nat) : Int) + 1 + 1 - 1 = ((mz : Nat) : Int) + 1 := by omega
      have i5 : (((mz : Nat) : Int) + 1).toNat = mz + 1 := by omega
      have i6 : ((mz : Nat) : Int) + 1 ≤ ((cs : Nat) : Int) := by omega
      have i4 : (0 : Int) ≤ ((mz : Nat) : Int) + 1 := by omega
      have i7 : mz + 1 ≤ cs := by omega
      go_wp2_with fail
      go_region
      go_wp2_with fail
      clear i2 i3 i5 i4 i6 i7
      go_wp2_with fail
      rw [HW3.out]
      have k13 := X3.out.lex.hp.c1
      have k03 := X3.out.lex.hp.c0
      have hc4 := HC3.out
      have hf4 := HF3.out
      have j2 : IntKind.i64.wrap (((mz : Nat) : Int) + 1 - 1) = ((mz : Nat) : Int) := by rw [IntWalk.i64_in _ (by omega)]; omega
      have j3 : ((mz : Nat) : Int) + 1 - 1 = ((mz : Nat) : Int) := by omega
      have j4 : ((mz : Nat) : Int) < ((mz : Nat) : Int) + 1 := by omega
      clear kw k12 k02 kf2 HW3 HW2 HP2 HC2 HF2 HPOP XD HCD
      go_quiet (fail)
      obtain ⟨w4, hw4⟩ : ∃ W, w3.drewN nq = W := ⟨_, rfl⟩
      have X4 := Lib.hid (show PS w4 p z h n cap q q rf (.slice (some ⟨g, 0, none⟩) (mz + 1) cs) true xs tail (S0 ++ [t2]) from by rw [← hw4]; exact X3.out.drewN nq)
      have H4 := Lib.hid (show Chg w w4 (nX p z sv) from by rw [← hw4]; exact H3.out.drewN nq)
      rw [hw4]
      clear hw4 j2 j3 j4 k13 k03 hc4 hf4 X3 H3 HC3 HF3
      go_upto_if 238 with (fail)
      go_cut [] from 226 to 249 (fun wd => RowKit.Hid (PS wd p z h n cap q q rf (.slice (some ⟨g, 0, none⟩) (mz + 1) cs) true xs tail (S0 ++ [r])) ∧ RowKit.Hid (Chg w wd (nX p z sv)))
      case first =>
        rcases HR.out with ⟨rfl, rfl⟩ | ⟨hn2, rfl⟩
        · have k14 := X4.out.lex.hp.c1
          obtain ⟨g3, cs3, hsv3, hc5, hf5, _, _, _⟩ := X4.out.stk.top
          rw [hmz] at hsv3 hc5 hf5
          obtain ⟨rfl, rfl⟩ : g = g3 ∧ cs = cs3 := by
            injection hsv3 with e1 e2 e3
            injection e1 with e1
            injection e1 with e1
            exact ⟨e1, e3⟩
          have j2 : IntKind.i64.wrap (((mz : Nat) : Int) + 1 - 1) = ((mz : Nat) : Int) := by rw [IntWalk.i64_in _ (by omega)]; omega
          have j3 : ((mz : Nat) : Int) + 1 - 1 = ((mz : Nat) : Int) := by omega
          have j4 : ((mz : Nat) : Int) < ((mz : Nat) : Int) + 1 := by omega
          have k04 := X4.out.lex.hp.c0
          go_wp2_with fail
          go_region
          clear j2 j3 j4
          go_wp2_with fail
          go_meet
          case rel =>
            have hput := (show Stk w4 (.slice (some ⟨g, 0, none⟩) (S0.length + 1) cs) (S0 ++ [2]) from by rw [hmz]; exact X4.out.stk).put 1
            rw [hmz] at hput
            refine ⟨Lib.hid ⟨⟨(X4.out.lex.hp.keep (Below.heap_setCell _ ⟨g, mz, none⟩ _ _ (show p ≠ g from fun e => hgne.1 e.symm))).keep rfl, (X4.out.lex.hi.keep (Below.heap_setCell _ ⟨g, mz, none⟩ _ _ (show z ≠ g from fun e => hgne.2.1 e.symm))).keep rfl, (X4.out.lex.hb.keep (Below.heap_setCell _ ⟨g, mz, none⟩ _ _ (show h ≠ g from fun e => hgne.2.2 e.symm))).keep rfl, X4.out.lex.hn, X4.out.lex.hs, hpz, hhz⟩, hput.keep fun _ _ => rfl, X4.out.own⟩, Lib.hid ?_⟩
            exact Chg.drew (nX_trans H4.out (Chg.set (.inr (.inr (by rw [hsv]; rfl)))))
        · have f2 : (r == 2) = false := beq_eq_false_iff_ne.2 hn2
          go_wp2_with fail
          go_meet
          case rel => exact ⟨X4, H4⟩
      case rest =>
        clear X4 H4
        obtain ⟨X5, H5⟩ := hcut
        have k05 := X5.out.lex.hp.c0
        go_wp2_with fail
        refine (X5.out.move (q + 1) rfl (by omega)).mono ?_
        rintro e w7 ⟨rfl, hx, hch⟩
        have X7 := Lib.hid hx
        have H7 := Lib.hid (nX_trans7 H5.out hch (.inl HOW.out))
        clear hx hch
        have k06 := X7.out.lex.hp.c0
        go_wp2_with fail
        refine (X7.out.shift (k := 1) rfl (by omega) (by omega) (by omega)).mono ?_
        rintro e w8 ⟨rfl, hx, hch⟩
        have X8 := Lib.hid hx
        have H8 := Lib.hid (nX_trans7 H7.out hch (.inl HOW.out))
        clear hx hch
        go_wp2_with fail
        go_ret2
        exact ⟨rfl, _, X8.out, H8.out, .inl HOW.out⟩

set_option maxRecDepth 100000 in
set_option maxHeartbeats 6400000 in
theorem next_obj_end (p z h n cap pos st : Nat) (rf sv : Value) (nc nc' : Bool) (xs : List Int) (tail : List Value) (S : List Int) (top : Int) (pre l : List Int) (w : World) (x : PS w p z h n cap pos st rf sv nc xs tail (S ++ [top])) (hhp : h ≠ p) (hS : S.length ≤ 1000) (hcap : n ≤ 1000000) (hnc : n ≤ cap) (htop : 0 ≤ top ∧ top ≤ 3) (hpre : PreOk nc top pre nc') (hl : LiesL xs pos (pre ++ 125 :: l)) (S0 : List Int) (t2 r : Int) (hSS : S = S0 ++ [t2]) (htp : top = 1) (hr : (t2 = 2 ∧ r = 1) ∨ (t2 ≠ 2 ∧ r = t2)) :
    Calls Tryz.prog 36 #[.pointer (some ⟨p, 0, none⟩)] w (NextPost 6 (pos + pre.length) 1 1 p z h n cap (pos + pre.length + 1) rf sv true xs tail (S0 ++ [r]) w) := by
  have hc44 : (125 : Int) ≠ 44 := by decide
  have hcw : ¬ wsb 125 := by decide
  have HTP := Lib.hid htp
  have HSS := Lib.hid hSS
  have HR := Lib.hid hr
  clear htp hSS hr
  obtain ⟨w1, l1, c1, hw1, hl1, hc1w, hcs⟩ := pre_parts hpre hl hc44 hcw
  obtain ⟨q, hq⟩ : ∃ q, pos + pre.length = q := ⟨_, rfl⟩
  have hlq := hl.drop
  rw [hq] at hlq hcs ⊢
  obtain ⟨q1, hq1⟩ : ∃ q1, pos + w1.length = q1 := ⟨_, rfl⟩
  rw [hq1] at hcs
  have hb1 := hl1.drop.head
  rw [hq1] at hb1
  have hbq := hlq.head
  have hN := x.lex.hn
  have hN2 := x.lex.hs
  obtain ⟨ht0, ht3⟩ := htop
  have X := Lib.hid x
  have HW1 := Lib.hid hw1
  have HL1 := Lib.hid hl1
  have HC1 := Lib.hid hc1w
  have HCS := Lib.hid hcs
  have HLQ := Lib.hid hlq
  have HB1 := Lib.hid hb1.2
  have HBQ := Lib.hid hbq.2
  have hq1n : q1 < n := by rw [← hN]; exact hb1.1
  have hqn : q < n := by rw [← hN]; exact hbq.1
  clear x hw1 hl1 hc1w hcs hlq hb1 hbq hl hpre
  go_enter Tryz.func36, Tryz.ntmps36
  go_wp2_with fail
  refine (X.out.white w1 l1 c1 HW1.out HL1.out HC1.out q1 hq1).mono ?_
  rintro e wa ⟨rfl, hx, hch⟩
  have XA := Lib.hid hx
  have HCH := Lib.hid hch
  have k0 := hx.lex.hp.c0
  clear hx hch
  go_wp2_with fail
  refine (XA.out.lex.peek 0 c1 ⟨by rw [XA.out.lex.hn]; exact hq1n, HB1.out⟩ (by omega)).mono ?_
  rintro e wb ⟨rfl, rfl⟩
  obtain ⟨g, cs, hsv, hcell, hfz, hk1, hk2, hk3⟩ := XA.out.stk.top
  have k1 := XA.out.lex.hp.c1
  rw [hsv] at k1
  obtain ⟨m, hm⟩ : ∃ m, S.length = m := ⟨_, rfl⟩
  rw [hm] at hcell k1 hS
  go_wp2_with fail
  have i2 : IntKind.i64.wrap (((m : Nat) : Int) + 1 - 1) = ((m : Nat) : Int) := by rw [IntWalk.i64_in _ (by omega)]; omega
  have i3 : ((m : Nat) : Int) + 1 - 1 = ((m : Nat) : Int) := by omega
  have i4 : ((m : Nat) : Int) < ((m : Nat) : Int) + 1 := by omega
  go_quiet (fail)
  have XB := Lib.hid (XA.out.drewN nq)
  have HCB := Lib.hid (HCH.out.drewN nq)
  clear i2 i3 i4 k0 k1 hcell hfz XA HCH
  obtain ⟨wx, hwx⟩ : ∃ W, wa.drewN nq = W := ⟨_, rfl⟩
  rw [hwx] at XB HCB ⊢
  clear hwx
  have k0 := XB.out.lex.hp.c0
  have k3 := XB.out.lex.hp.fz 3
  go_upto_if 29 with (fail)
  go_cut [4] from 9 to 59 (fun v4 wd => v4 = .int .u8 125 ∧ RowKit.Hid (PS wd p z h n cap q st rf sv nc' xs tail (S ++ [top])) ∧ RowKit.Hid (Chg w wd (nX p z sv)))
  case first =>
    rcases HCS.out with ⟨h44, rfl, rfl, rfl⟩ | ⟨rfl, htop, rfl, w2, hw2, hl2, hq2⟩
    · have f44 : ((125 : Int) == 44) = false := beq_eq_false_iff_ne.2 hc44
      go_wp2_with fail
      go_meet
      case rel => exact ⟨rfl, XB, HCB⟩
    · have HW2 := Lib.hid hw2
      have HL2 := Lib.hid hl2
      clear hw2 hl2
      go_upto_region 5 with (fail)
      go_cut [35] from 30 to 34 (fun v35 wd => v35 = .bool false ∧ wd = wx)
      case first =>
        rcases htop with rfl | rfl
        · go_wp2_with fail
          go_meet
          case rel => exact ⟨rfl, rfl⟩
        · go_wp2_with fail
          go_meet
          case rel => exact ⟨rfl, rfl⟩
      case rest =>
        obtain ⟨rfl, rfl⟩ := hcut
        go_wp2_with fail
        refine (XB.out.move (q1 + 1) rfl (by omega)).mono ?_
        rintro e we ⟨rfl, hx, hch⟩
        have XE := Lib.hid hx
        have HCE := Lib.hid (nX_trans HCB.out hch)
        clear hx hch
        go_wp2_with fail
        refine (XE.out.white w2 l 125 HW2.out HL2.out hcw q hq2).mono ?_
        rintro e wf ⟨rfl, hx, hch⟩
        have XF := Lib.hid hx
        have HCF := Lib.hid (nX_trans HCE.out hch)
        clear hx hch
        have k0 := XF.out.lex.hp.c0
        have k3 := XF.out.lex.hp.c3
        have kf := XF.out.lex.hp.fz 3
        have hx2 := XF.out.comma false hhp
        have XG := Lib.hid hx2
        have HCG := Lib.hid (nX_trans HCF.out (Chg.set (X := nX p z sv) (b := p) (o := 3) (v := .bool false) (.inr (.inl rfl))))
        clear hx2
        go_wp2_with fail
        refine (XG.out.lex.peek 0 125 ⟨by rw [hN]; exact hqn, HBQ.out⟩ (by omega)).mono ?_
        rintro e wb ⟨rfl, rfl⟩
        go_wp2_with fail
        go_meet
        case rel => exact ⟨rfl, XG, HCG⟩
  case rest =>
    clear XB HCB k0 k3 HCS HB1 HL1 HC1 HW1 X
    obtain ⟨rfl, XC, HCC⟩ := hcut
    have k0 := XC.out.lex.hp.c0
    go_wp2_with fail
    refine (XC.out.skip).mono ?_
    rintro e wg ⟨rfl, hx, hch⟩
    have XD := Lib.hid hx
    have HCD := Lib.hid (nX_trans HCC.out hch)
    clear hx hch XC HCC k0
    have k0 := XD.out.lex.hp.c0
    have k3 := XD.out.lex.hp.c3
    have kf := XD.out.lex.hp.fz 3
    go_upto_region 13 with (fail)
    go_cut [80] from 65 to 79 (fun v80 wd => v80 = .bool false ∧ wd = wg)
    case first =>
      cases nc' with
      | true =>
        go_wp2_with fail
        go_meet
        case rel => exact ⟨rfl, rfl⟩
      | false =>
        go_wp2_with fail
        go_meet
        case rel => exact ⟨rfl, rfl⟩
    case rest =>
      obtain ⟨rfl, rfl⟩ := hcut
      have htp := HTP.out
      subst htp
      have k1 := XD.out.lex.hp.c1
      have kf1 := XD.out.lex.hp.fz 1
      rw [hsv, hm] at k1
      obtain ⟨mz, hmz⟩ : ∃ mz, S0.length = mz := ⟨_, rfl⟩
      have hmm : m = mz + 1 := by rw [← hm, HSS.out, List.length_append, hmz]; rfl
      subst hmm
      have hpz := XD.out.lex.hpz
      have hhz := XD.out.lex.hhz
      have hno := XD.out.own
      have hstk := XD.out.stk
      rw [hsv, hm] at hno hstk
      have hgne := hno g rfl
      -- the popped stack
      have hpop : Stk wc (.slice (some ⟨g, 0, none⟩) (mz + 1) cs) S := by
        have h1 := hstk
        rw [← hm] at h1
        have h2 := h1.pop
        rw [hm] at h2
        exact h2
      rw [HSS.out] at hpop
      obtain ⟨g2, cs2, hsv2, hcell2, hfz2, _, _, hlt2⟩ := hpop.top
      rw [hmz] at hsv2 hcell2 hfz2
      obtain ⟨rfl, rfl⟩ : g = g2 ∧ cs = cs2 := by
        injection hsv2 with e1 e2 e3
        injection e1 with e1
        injection e1 with e1
        exact ⟨e1, e3⟩
      obtain ⟨w2, hw2⟩ : ∃ W, wc.setCell ⟨p, 3, none⟩ (.bool true) = W := ⟨_, rfl⟩
      have hP2 : Par w2 p z (.slice (some ⟨g, 0, none⟩) (mz + 1 + 1) cs) true := by
        have h1 := XD.out.lex.hp.comma true
        rw [hsv, hm, hw2] at h1
        exact h1
      have hc2 : w2.cell? ⟨g, mz, none⟩ = some (.int .u32 t2) := by
        rw [← hcell2, ← hw2]
        simp [World.cell?, Below.heap_setCell wc ⟨p, 3, none⟩ (.bool true) g hgne.1]
      have hf2 : w2.frozen? ⟨g, mz, none⟩ = false := by
        rw [← hfz2, ← hw2]
        simp [World.frozen?, Below.heap_setCell wc ⟨p, 3, none⟩ (.bool true) g hgne.1]
      obtain ⟨w3, hw3⟩ : ∃ W, (w2.setCell ⟨p, 1, none⟩ (.slice (some ⟨g, 0, none⟩) (mz + 1) cs)).drew = W := ⟨_, rfl⟩
      have hP3 : Par w3 p z (.slice (some ⟨g, 0, none⟩) (mz + 1) cs) true := by
        rw [← hw3]
        exact (hP2.stack _).keep rfl
      have hk3 : ∀ k, k ≠ p → w3.heap[k]? = wc.heap[k]? := fun k hk => by
        rw [← hw3, ← hw2]
        exact (Below.heap_setCell _ _ _ _ (show k ≠ p from hk)).trans (Below.heap_setCell wc ⟨p, 3, none⟩ (.bool true) k hk)
      have hc3 : w3.cell? ⟨g, mz, none⟩ = some (.int .u32 t2) := by
        rw [← hcell2]
        simp [World.cell?, hk3 g hgne.1]
      have hf3 : w3.frozen? ⟨g, mz, none⟩ = false := by
        rw [← hfz2]
        simp [World.frozen?, hk3 g hgne.1]
      have hch3 : Chg wc w3 (nX p z sv) := by
        rw [← hw3, ← hw2]
        exact nX_trans (Chg.set (.inr (.inl rfl))) (Chg.drew (Chg.set (.inr (.inl rfl))))
      have hps3 : PS w3 p z h n cap q q rf (.slice (some ⟨g, 0, none⟩) (mz + 1) cs) true xs tail (S0 ++ [t2]) :=
        ⟨⟨hP3, XD.out.lex.hi.keep (hk3 z (fun e => hpz e.symm)), XD.out.lex.hb.keep (hk3 h hhp), XD.out.lex.hn, XD.out.lex.hs, hpz, hhz⟩, hpop.keep fun k e => by
          have e : some g = some k := e
          injection e with e
          subst e
          exact hk3 g hgne.1, fun k e => by
          have e : some g = some k := e
          injection e with e
          subst e
          exact hgne⟩
      have X3 := Lib.hid hps3
      have H3 := Lib.hid (nX_trans HCD.out hch3)
      have HC3 := Lib.hid hc3
      have HF3 := Lib.hid hf3
      have hown9 : (Value.slice (some ⟨g, 0, none⟩) (mz + 1) cs).ownBlock = sv.ownBlock := by rw [hsv]; rfl
      have HOW := Lib.hid hown9
      have HW3 := Lib.hid hw3
      have HW2 := Lib.hid hw2
      have HP2 := Lib.hid hP2
      have HC2 := Lib.hid hc2
      have HF2 := Lib.hid hf2
      have HPOP := Lib.hid hpop
      have k12 := hP2.c1
      have k02 := hP2.c0
      have kf2 := hP2.fz 1
      have kw := hw2
      clear hP2 hc2 hf2 hpop hstk hno hw3 hw2 k1 hP3 hk3 hc3 hf3 hch3 hps3 hown9
      have i2 : IntKind.i64.wrap (((mz : Nat) : Int) + 1 + 1 - 1) = ((mz : Nat) : Int) + 1 := by rw [IntWalk.i64_in _ (by omega)]; omega
      have i3 : ((mz : Nat) : Int) + 1 + 1 - 1 = ((mz : Nat) : Int) + 1 := by omega
      have i5 : (((mz : Nat) : Int) + 1).toNat = mz + 1 := by omega
      have i6 : ((mz : Nat) : Int) + 1 ≤ ((cs : Nat) : Int) := by omega
      have i4 : (0 : Int) ≤ ((mz : Nat) : Int) + 1 := by omega
      have i7 : mz + 1 ≤ cs := by omega
      go_wp2_with fail
      go_region
      go_wp2_with fail
      clear i2 i3 i5 i4 i6 i7
      go_wp2_with fail
      rw [HW3.out]
      have k13 := X3.out.lex.hp.c1
      have k03 := X3.out.lex.hp.c0
      have hc4 := HC3.out
      have hf4 := HF3.out
      have j2 : IntKind.i64.wrap (((mz : Nat) : Int) + 1 - 1) = ((mz : Nat) : Int) := by rw [IntWalk.i64_in _ (by omega)]; omega
      have j3 : ((mz : Nat) : Int) + 1 - 1 = ((mz : Nat) : Int) := by omega
      have j4 : ((mz : Nat) : Int) < ((mz : Nat) : Int) + 1 := by omega
      clear kw k12 k02 kf2 HW3 HW2 HP2 HC2 HF2 HPOP XD HCD
      go_quiet (fail)
      obtain ⟨w4, hw4⟩ : ∃ W, w3.drewN nq = W := ⟨_, rfl⟩
      have X4 := Lib.hid (show PS w4 p z h n cap q q rf (.slice (some ⟨g, 0, none⟩) (mz + 1) cs) true xs tail (S0 ++ [t2]) from by rw [← hw4]; exact X3.out.drewN nq)
      have H4 := Lib.hid (show Chg w w4 (nX p z sv) from by rw [← hw4]; exact H3.out.drewN nq)
      rw [hw4]
      clear hw4 j2 j3 j4 k13 k03 hc4 hf4 X3 H3 HC3 HF3
      go_upto_if 153 with (fail)
      go_cut [] from 141 to 164 (fun wd => RowKit.Hid (PS wd p z h n cap q q rf (.slice (some ⟨g, 0, none⟩) (mz + 1) cs) true xs tail (S0 ++ [r])) ∧ RowKit.Hid (Chg w wd (nX p z sv)))
      case first =>
        rcases HR.out with ⟨rfl, rfl⟩ | ⟨hn2, rfl⟩
        · have k14 := X4.out.lex.hp.c1
          obtain ⟨g3, cs3, hsv3, hc5, hf5, _, _, _⟩ := X4.out.stk.top
          rw [hmz] at hsv3 hc5 hf5
          obtain ⟨rfl, rfl⟩ : g = g3 ∧ cs = cs3 := by
            injection hsv3 with e1 e2 e3
            injection e1 with e1
            injection e1 with e1
            exact ⟨e1, e3⟩
          have j2 : IntKind.i64.wrap (((mz : Nat) : Int) + 1 - 1) = ((mz : Nat) : Int) := by rw [IntWalk.i64_in _ (by omega)]; omega
          have j3 : ((mz : Nat) : Int) + 1 - 1 = ((mz : Nat) : Int) := by omega
          have j4 : ((mz : Nat) : Int) < ((mz : Nat) : Int) + 1 := by omega
          have k04 := X4.out.lex.hp.c0
          go_wp2_with fail
          go_region
          clear j2 j3 j4
          go_wp2_with fail
          go_meet
          case rel =>
            have hput := (show Stk w4 (.slice (some ⟨g, 0, none⟩) (S0.length + 1) cs) (S0 ++ [2]) from by rw [hmz]; exact X4.out.stk).put 1
            rw [hmz] at hput
            refine ⟨Lib.hid ⟨⟨(X4.out.lex.hp.keep (Below.heap_setCell _ ⟨g, mz, none⟩ _ _ (show p ≠ g from fun e => hgne.1 e.symm))).keep rfl, (X4.out.lex.hi.keep (Below.heap_setCell _ ⟨g, mz, none⟩ _ _ (show z ≠ g from fun e => hgne.2.1 e.symm))).keep rfl, (X4.out.lex.hb.keep (Below.heap_setCell _ ⟨g, mz, none⟩ _ _ (show h ≠ g from fun e => hgne.2.2 e.symm))).keep rfl, X4.out.lex.hn, X4.out.lex.hs, hpz, hhz⟩, hput.keep fun _ _ => rfl, X4.out.own⟩, Lib.hid ?_⟩
            exact Chg.drew (nX_trans H4.out (Chg.set (.inr (.inr (by rw [hsv]; rfl)))))
        · have f2 : (r == 2) = false := beq_eq_false_iff_ne.2 hn2
          go_wp2_with fail
          go_meet
          case rel => exact ⟨X4, H4⟩
      case rest =>
        clear X4 H4
        obtain ⟨X5, H5⟩ := hcut
        have k05 := X5.out.lex.hp.c0
        go_wp2_with fail
        refine (X5.out.move (q + 1) rfl (by omega)).mono ?_
        rintro e w7 ⟨rfl, hx, hch⟩
        have X7 := Lib.hid hx
        have H7 := Lib.hid (nX_trans7 H5.out hch (.inl HOW.out))
        clear hx hch
        have k06 := X7.out.lex.hp.c0
        go_wp2_with fail
        refine (X7.out.shift (k := 1) rfl (by omega) (by omega) (by omega)).mono ?_
        rintro e w8 ⟨rfl, hx, hch⟩
        have X8 := Lib.hid hx
        have H8 := Lib.hid (nX_trans7 H7.out hch (.inl HOW.out))
        clear hx hch
        go_wp2_with fail
        go_ret2
        exact ⟨rfl, _, X8.out, H8.out, .inl HOW.out⟩

end Go.Proofs.YthoekplablhgfaaGreatDoor
