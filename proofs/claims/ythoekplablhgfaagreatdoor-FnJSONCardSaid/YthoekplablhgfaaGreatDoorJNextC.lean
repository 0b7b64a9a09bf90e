/-
  The contract of the parser's Next: a word, a number, a string as a value.
-/
import Derived.Test.YthoekplablhgfaaGreatDoorJNextA
import Derived.Test.YthoekplablhgfaaGreatDoorJNumTok
namespace Go.Proofs.YthoekplablhgfaaGreatDoor
open Go.RowKit
set_option linter.unusedVariables false

set_option maxRecDepth 100000 in
set_option maxHeartbeats 3200000 in
/-- Nothing that begins a number. -/
theorem num_no (p z h n cap pos st k : Nat) (c : Int) (rf sv : Value) (nc : Bool) (xs : List Int) (tail : List Value) (w : World) (x : Lex w p z h n cap pos st rf sv nc xs tail) (hk : st + k = pos) (hl : pos < xs.length ∧ xs.getD pos 0 = c) (hc : c ≠ 45 ∧ (c < 48 ∨ 57 < c)) :
    Calls Tryz.prog 58 #[.pointer (some ⟨p, 0, none⟩)] w (Taken false 0 p z h n cap pos st rf sv nc xs tail w) := by
  have hp0 := x.hn
  have hs0 := x.hs
  have k0 := x.hp.c0
  have hps : pos < n := by omega
  have X := Lib.hid x
  have f45 : (c == 45) = false := beq_eq_false_iff_ne.2 hc.1
  have f48 : (c == 48) = false := beq_eq_false_iff_ne.2 (by omega)
  have hc2 := hc.2
  clear x hc
  go_enter Tryz.func58, Tryz.ntmps58
  go_wp2_with fail
  refine (Pos_at z h n cap pos st k rf w X.out.hi hk (by omega)).mono ?_
  rintro e w1 ⟨rfl, hg1⟩
  have hx1 := X.out.to (X.out.hi.keep (hg1.block z X.out.hi.lt (by simp))) (grownBy_none' hg1)
  have HG1 := Lib.hid (grownBy_none' (g := z) hg1)
  have P1 := Lib.hid (hx1.peek 0 c hl (by omega))
  have X1 := Lib.hid hx1
  clear hx1 hg1 k0
  have k0 := X1.out.hp.c0
  go_wp2_with fail
  refine P1.out.mono ?_
  rintro e w2 ⟨rfl, rfl⟩
  go_wp2_with fail
  refine P1.out.mono ?_
  rintro e w2 ⟨rfl, rfl⟩
  rcases hc2 with hc2 | hc2
  · have g1 : ¬ 49 ≤ c := by omega
    go_wp2_with fail
    refine (Rewind_at z h n cap pos st k pos rf w1 X1.out.hi hk (by omega)).mono ?_
    rintro e w2 ⟨rfl, hi2, hg2⟩
    have X2 := Lib.hid (X1.out.to hi2 hg2)
    have HG2 := Lib.hid (grownBy_trans HG1.out hg2)
    clear hi2 hg2
    go_wp2_with fail
    go_ret
    exact ⟨rfl, X2.out, HG2.out⟩
  · have g1 : 49 ≤ c := by omega
    have g2 : ¬ c ≤ 57 := by omega
    go_wp2_with fail
    refine (Rewind_at z h n cap pos st k pos rf w1 X1.out.hi hk (by omega)).mono ?_
    rintro e w2 ⟨rfl, hi2, hg2⟩
    have X2 := Lib.hid (X1.out.to hi2 hg2)
    have HG2 := Lib.hid (grownBy_trans HG1.out hg2)
    clear hi2 hg2
    go_wp2_with fail
    go_ret
    exact ⟨rfl, X2.out, HG2.out⟩
/-- What of the blocks a lexing method leaves. -/
theorem PS.took {w w' : World} {p z h n cap pos st pos' st' : Nat} {rf sv : Value} {nc : Bool} {xs : List Int} {tail : List Value} {S : List Int} (x : PS w p z h n cap pos st rf sv nc xs tail S) (hl : Lex w' p z h n cap pos' st' rf sv nc xs tail) (hg : w.grownBy w' (some z)) : PS w' p z h n cap pos' st' rf sv nc xs tail S ∧ Chg w w' (nX p z sv) :=
  ⟨x.to hl.hi hg, Chg.of hg (fun k e => .inl (by injection e with e; exact e.symm))⟩
/-- The top of the stack changed. -/
theorem PS.retop {w : World} {p z h n cap pos st g m cs : Nat} {rf sv : Value} {nc : Bool} {xs : List Int} {tail : List Value} {S : List Int} {a : Int} (x : PS w p z h n cap pos st rf sv nc xs tail (S ++ [a])) (b : Int) (hsv : sv = .slice (some ⟨g, 0, none⟩) (S.length + 1) cs) (hm : S.length = m) : PS (w.setCell ⟨g, m, none⟩ (.int .u32 b)).drew p z h n cap pos st rf sv nc xs tail (S ++ [b]) := by
  have hgne := x.own g (by rw [hsv]; rfl)
  have hput := (show Stk w (.slice (some ⟨g, 0, none⟩) (S.length + 1) cs) (S ++ [a]) from by rw [← hsv]; exact x.stk).put b
  rw [← hsv, hm] at hput
  exact ⟨⟨(x.lex.hp.keep (Below.heap_setCell _ ⟨g, m, none⟩ _ _ (show p ≠ g from fun e => hgne.1 e.symm))).keep rfl, (x.lex.hi.keep (Below.heap_setCell _ ⟨g, m, none⟩ _ _ (show z ≠ g from fun e => hgne.2.1 e.symm))).keep rfl, (x.lex.hb.keep (Below.heap_setCell _ ⟨g, m, none⟩ _ _ (show h ≠ g from fun e => hgne.2.2 e.symm))).keep rfl, x.lex.hn, x.lex.hs, x.lex.hpz, x.lex.hhz⟩, hput.keep fun _ _ => rfl, x.own⟩

set_option maxRecDepth 100000 in
set_option maxHeartbeats 6400000 in
theorem next_str (p z h n cap pos st : Nat) (rf sv : Value) (nc nc' : Bool) (xs : List Int) (tail : List Value) (S : List Int) (top : Int) (pre l : List Int) (w : World) (x : PS w p z h n cap pos st rf sv nc xs tail (S ++ [top])) (hhp : h ≠ p) (hS : S.length ≤ 1000) (hcap : n ≤ 1000000) (hnc : n ≤ cap) (htop : 0 ≤ top ∧ top ≤ 3) (hpre : PreOk nc top pre nc') (hl : LiesL xs pos (pre ++ 34 :: l)) (us : List JU) (rr : List Int) (tl : Nat) (hqb : pos + pre.length + tl ≤ n) (r : Int) (hr : (top = 2 ∧ r = 1) ∨ (top ≠ 2 ∧ r = top)) (htp : top ≠ 1) (hnc' : nc' = false) (hu : ∀ u ∈ us, u.ok) (hle : l = flat us ++ 34 :: rr) (hrr : rr ≠ []) (hSL : (flat us).length.succ.succ = tl) :
    Calls Tryz.prog 36 #[.pointer (some ⟨p, 0, none⟩)] w (NextPost 4 (pos + pre.length) tl tl p z h n cap (pos + pre.length + tl) rf sv true xs tail (S ++ [r]) w) := by
  have hc44 : (34 : Int) ≠ 44 := by decide
  have hcw : ¬ wsb 34 := by decide
  have HR := Lib.hid hr
  clear hr
  have HLE := Lib.hid hle
  have HUO := Lib.hid hu
  clear hu hle
  obtain ⟨w1, l1, c1, hw1, hl1, hc1w, hcs⟩ := pre_parts hpre hl hc44 hcw
  obtain ⟨q, hq⟩ : ∃ q, pos + pre.length = q := ⟨_, rfl⟩
  have hlq := hl.drop
  rw [hq] at hlq hcs ⊢
  obtain ⟨q1, hq1⟩ : ∃ q1, pos + w1.length = q1 := ⟨_, rfl⟩
  rw [hq1] at hcs
  have hb1 := hl1.drop.head
  rw [hq1] at hb1
  have hbq := hlq.head
  have hN := x.lex.hn
  have hN2 := x.lex.hs
  obtain ⟨ht0, ht3⟩ := htop
  have X := Lib.hid x
  have HW1 := Lib.hid hw1
  have HL1 := Lib.hid hl1
  have HC1 := Lib.hid hc1w
  have HCS := Lib.hid hcs
  have HLQ := Lib.hid hlq
  have HB1 := Lib.hid hb1.2
  have HBQ := Lib.hid hbq.2
  have hq1n : q1 < n := by rw [← hN]; exact hb1.1
  have hqn : q < n := by rw [← hN]; exact hbq.1
  clear x hw1 hl1 hc1w hcs hlq hb1 hbq hl hpre
  go_enter Tryz.func36, Tryz.ntmps36
  go_wp2_with fail
  refine (X.out.white w1 l1 c1 HW1.out HL1.out HC1.out q1 hq1).mono ?_
  rintro e wa ⟨rfl, hx, hch⟩
  have XA := Lib.hid hx
  have HCH := Lib.hid hch
  have k0 := hx.lex.hp.c0
  clear hx hch
  go_wp2_with fail
  refine (XA.out.lex.peek 0 c1 ⟨by rw [XA.out.lex.hn]; exact hq1n, HB1.out⟩ (by omega)).mono ?_
  rintro e wb ⟨rfl, rfl⟩
  obtain ⟨g, cs, hsv, hcell, hfz, hk1, hk2, hk3⟩ := XA.out.stk.top
  have k1 := XA.out.lex.hp.c1
  rw [hsv] at k1
  obtain ⟨m, hm⟩ : ∃ m, S.length = m := ⟨_, rfl⟩
  rw [hm] at hcell k1 hS
  go_wp2_with fail
  have i2 : IntKind.i64.wrap (((m : Nat) : Int) + 1 - 1) = ((m : Nat) : Int) := by rw [IntWalk.i64_in _ (by omega)]; omega
  have i3 : ((m : Nat) : Int) + 1 - 1 = ((m : Nat) : Int) := by omega
  have i4 : ((m : Nat) : Int) < ((m : Nat) : Int) + 1 := by omega
  go_quiet (fail)
  have XB := Lib.hid (XA.out.drewN nq)
  have HCB := Lib.hid (HCH.out.drewN nq)
  clear i2 i3 i4 k0 k1 hcell hfz XA HCH
  obtain ⟨wx, hwx⟩ : ∃ W, wa.drewN nq = W := ⟨_, rfl⟩
  rw [hwx] at XB HCB ⊢
  clear hwx
  have k0 := XB.out.lex.hp.c0
  have k3 := XB.out.lex.hp.fz 3
  go_upto_if 29 with (fail)
  go_cut [4] from 9 to 59 (fun v4 wd => v4 = .int .u8 34 ∧ RowKit.Hid (PS wd p z h n cap q st rf sv nc' xs tail (S ++ [top])) ∧ RowKit.Hid (Chg w wd (nX p z sv)))
  case first =>
    rcases HCS.out with ⟨h44, hcc, rfl, rfl⟩ | ⟨rfl, htop, rfl, w2, hw2, hl2, hq2⟩
    · replace hcc := hcc.symm
      subst hcc
      have f44 : ((34 : Int) == 44) = false := beq_eq_false_iff_ne.2 hc44
      go_wp2_with fail
      go_meet
      case rel => exact ⟨rfl, XB, HCB⟩
    · have HW2 := Lib.hid hw2
      have HL2 := Lib.hid hl2
      clear hw2 hl2
      go_upto_region 5 with (fail)
      go_cut [35] from 30 to 34 (fun v35 wd => v35 = .bool false ∧ wd = wx)
      case first =>
        rcases htop with rfl | rfl
        · go_wp2_with fail
          go_meet
          case rel => exact ⟨rfl, rfl⟩
        · go_wp2_with fail
          go_meet
          case rel => exact ⟨rfl, rfl⟩
      case rest =>
        obtain ⟨rfl, rfl⟩ := hcut
        go_wp2_with fail
        refine (XB.out.move (q1 + 1) rfl (by omega)).mono ?_
        rintro e we ⟨rfl, hx, hch⟩
        have XE := Lib.hid hx
        have HCE := Lib.hid (nX_trans HCB.out hch)
        clear hx hch
        go_wp2_with fail
        refine (XE.out.white w2 l 34 HW2.out HL2.out hcw q hq2).mono ?_
        rintro e wf ⟨rfl, hx, hch⟩
        have XF := Lib.hid hx
        have HCF := Lib.hid (nX_trans HCE.out hch)
        clear hx hch
        have k0 := XF.out.lex.hp.c0
        have k3 := XF.out.lex.hp.c3
        have kf := XF.out.lex.hp.fz 3
        have hx2 := XF.out.comma false hhp
        have XG := Lib.hid hx2
        have HCG := Lib.hid (nX_trans HCF.out (Chg.set (X := nX p z sv) (b := p) (o := 3) (v := .bool false) (.inr (.inl rfl))))
        clear hx2
        go_wp2_with fail
        refine (XG.out.lex.peek 0 34 ⟨by rw [hN]; exact hqn, HBQ.out⟩ (by omega)).mono ?_
        rintro e wb ⟨rfl, rfl⟩
        go_wp2_with fail
        go_meet
        case rel => exact ⟨rfl, XG, HCG⟩
  case rest =>
    clear XB HCB k0 k3 HCS HB1 HL1 HC1 HW1 X
    obtain ⟨rfl, XC, HCC⟩ := hcut
    have k0 := XC.out.lex.hp.c0
    go_wp2_with fail
    refine (XC.out.skip).mono ?_
    rintro e wg ⟨rfl, hx, hch⟩
    have XD := Lib.hid hx
    have HCD := Lib.hid (nX_trans HCC.out hch)
    clear hx hch XC HCC k0
    have k0 := XD.out.lex.hp.c0
    have k3 := XD.out.lex.hp.c3
    have kf := XD.out.lex.hp.fz 3
    subst hnc'
    have ftop : (top == 1) = false := beq_eq_false_iff_ne.2 htp
    have X2 := Lib.hid (XD.out.comma true hhp)
    have H2 := Lib.hid (nX_trans HCD.out (Chg.set (X := nX p z sv) (b := p) (o := 3) (v := .bool true) (.inr (.inl rfl))))
    obtain ⟨w2, hw2⟩ : ∃ W, wg.setCell ⟨p, 3, none⟩ (.bool true) = W := ⟨_, rfl⟩
    rw [hw2] at X2 H2
    go_upto_if 328 with (fail)
    go_cut [] from 327 to 339 (fun wd => RowKit.Hid (PS wd p z h n cap q q rf sv true xs tail (S ++ [r])) ∧ RowKit.Hid (Chg w wd (nX p z sv)))
    case first =>
      have k12 := X2.out.lex.hp.c1
      have k02 := X2.out.lex.hp.c0
      rcases HR.out with ⟨rfl, rfl⟩ | ⟨hn2, rfl⟩
      · obtain ⟨g3, cs3, hsv3, hc5, hf5, _, _, _⟩ := X2.out.stk.top
        rw [hm] at hc5 hf5
        rw [hsv3, hm] at k12
        have j2 : IntKind.i64.wrap (((m : Nat) : Int) + 1 - 1) = ((m : Nat) : Int) := by rw [IntWalk.i64_in _ (by omega)]; omega
        have j3 : ((m : Nat) : Int) + 1 - 1 = ((m : Nat) : Int) := by omega
        have j4 : ((m : Nat) : Int) < ((m : Nat) : Int) + 1 := by omega
        have HS3 := Lib.hid hsv3
        clear hsv3
        go_wp2_with fail
        go_region
        clear j2 j3 j4
        go_wp2_with fail
        go_meet
        case rel => exact ⟨Lib.hid (X2.out.retop 1 HS3.out hm), Lib.hid (Chg.drew (nX_trans H2.out (Chg.set (.inr (.inr (by rw [HS3.out]; rfl))))))⟩
      · have f2 : (r == 2) = false := beq_eq_false_iff_ne.2 hn2
        go_wp2_with fail
        go_meet
        case rel => exact ⟨X2, H2⟩
    case rest =>
      clear X2 H2 hw2 XD HCD
      obtain ⟨X5, H5⟩ := hcut
      have k05 := X5.out.lex.hp.c0
      go_wp2_with fail
      refine (str_tok p z h n cap q rf sv true xs rr us tail wc X5.out.lex HUO.out (by rw [← HLE.out]; exact HLQ.out) hcap hnc hrr).mono ?_
      rintro e w6 ⟨rfl, hlx, hg6⟩
      have htk := X5.out.took hlx hg6
      rw [hSL] at htk
      have X7 := Lib.hid htk.1
      have H7 := Lib.hid (nX_trans H5.out htk.2)
      clear htk hlx hg6
      have k06 := X7.out.lex.hp.c0
      go_wp2_with fail
      refine (X7.out.shift (k := tl) rfl (by omega) (by omega) (by omega)).mono ?_
      rintro e w8 ⟨rfl, hx, hch⟩
      have X8 := Lib.hid hx
      have H8 := Lib.hid (nX_trans H7.out hch)
      clear hx hch
      go_wp2_with fail
      go_ret2
      exact ⟨rfl, sv, X8.out, H8.out, .inl rfl⟩

set_option maxRecDepth 100000 in
set_option maxHeartbeats 6400000 in
theorem next_num (p z h n cap pos st : Nat) (rf sv : Value) (nc nc' : Bool) (xs : List Int) (tail : List Value) (S : List Int) (top : Int) (pre l : List Int) (w : World) (x : PS w p z h n cap pos st rf sv nc xs tail (S ++ [top])) (hhp : h ≠ p) (hS : S.length ≤ 1000) (hcap : n ≤ 1000000) (hnc : n ≤ cap) (htop : 0 ≤ top ∧ top ≤ 3) (hpre : PreOk nc top pre nc') (c : Int) (hl : LiesL xs pos (pre ++ c :: l)) (tl : Nat) (hqb : pos + pre.length + tl ≤ n) (r : Int) (hr : (top = 2 ∧ r = 1) ∨ (top ≠ 2 ∧ r = top)) (htp : top ≠ 1) (hnc' : nc' = false) (hcd : c = 45 ∨ (48 ≤ c ∧ c ≤ 57)) (s : ByteArray) (hby : ∀ k, pos ≤ k → byteAt s k = xs.getD k 0) (hns : NumSAt s (pos + pre.length) (pos + pre.length + tl)) (htl : 1 ≤ tl) (hqe : pos + pre.length + tl < n) :
    Calls Tryz.prog 36 #[.pointer (some ⟨p, 0, none⟩)] w (NextPost 3 (pos + pre.length) tl tl p z h n cap (pos + pre.length + tl) rf sv true xs tail (S ++ [r]) w) := by
  have hc44 : (c : Int) ≠ 44 := by omega
  have hcw : ¬ wsb c := by unfold wsb; omega
  have HR := Lib.hid hr
  clear hr
  have HNS := Lib.hid hns
  clear hns
  obtain ⟨w1, l1, c1, hw1, hl1, hc1w, hcs⟩ := pre_parts hpre hl hc44 hcw
  obtain ⟨q, hq⟩ : ∃ q, pos + pre.length = q := ⟨_, rfl⟩
  have hlq := hl.drop
  rw [hq] at hlq hcs ⊢
  obtain ⟨q1, hq1⟩ : ∃ q1, pos + w1.length = q1 := ⟨_, rfl⟩
  rw [hq1] at hcs
  have hb1 := hl1.drop.head
  rw [hq1] at hb1
  have hbq := hlq.head
  have hN := x.lex.hn
  have hN2 := x.lex.hs
  obtain ⟨ht0, ht3⟩ := htop
  have X := Lib.hid x
  have HW1 := Lib.hid hw1
  have HL1 := Lib.hid hl1
  have HC1 := Lib.hid hc1w
  have HCS := Lib.hid hcs
  have HLQ := Lib.hid hlq
  have HB1 := Lib.hid hb1.2
  have HBQ := Lib.hid hbq.2
  have hq1n : q1 < n := by rw [← hN]; exact hb1.1
  have hqn : q < n := by rw [← hN]; exact hbq.1
  clear x hw1 hl1 hc1w hcs hlq hb1 hbq hl hpre
  go_enter Tryz.func36, Tryz.ntmps36
  go_wp2_with fail
  refine (X.out.white w1 l1 c1 HW1.out HL1.out HC1.out q1 hq1).mono ?_
  rintro e wa ⟨rfl, hx, hch⟩
  have XA := Lib.hid hx
  have HCH := Lib.hid hch
  have k0 := hx.lex.hp.c0
  clear hx hch
  go_wp2_with fail
  refine (XA.out.lex.peek 0 c1 ⟨by rw [XA.out.lex.hn]; exact hq1n, HB1.out⟩ (by omega)).mono ?_
  rintro e wb ⟨rfl, rfl⟩
  obtain ⟨g, cs, hsv, hcell, hfz, hk1, hk2, hk3⟩ := XA.out.stk.top
  have k1 := XA.out.lex.hp.c1
  rw [hsv] at k1
  obtain ⟨m, hm⟩ : ∃ m, S.length = m := ⟨_, rfl⟩
  rw [hm] at hcell k1 hS
  go_wp2_with fail
  have i2 : IntKind.i64.wrap (((m : Nat) : Int) + 1 - 1) = ((m : Nat) : Int) := by rw [IntWalk.i64_in _ (by omega)]; omega
  have i3 : ((m : Nat) : Int) + 1 - 1 = ((m : Nat) : Int) := by omega
  have i4 : ((m : Nat) : Int) < ((m : Nat) : Int) + 1 := by omega
  go_quiet (fail)
  have XB := Lib.hid (XA.out.drewN nq)
  have HCB := Lib.hid (HCH.out.drewN nq)
  clear i2 i3 i4 k0 k1 hcell hfz XA HCH
  obtain ⟨wx, hwx⟩ : ∃ W, wa.drewN nq = W := ⟨_, rfl⟩
  rw [hwx] at XB HCB ⊢
  clear hwx
  have k0 := XB.out.lex.hp.c0
  have k3 := XB.out.lex.hp.fz 3
  go_upto_if 29 with (fail)
  go_cut [4] from 9 to 59 (fun v4 wd => v4 = .int .u8 c ∧ RowKit.Hid (PS wd p z h n cap q st rf sv nc' xs tail (S ++ [top])) ∧ RowKit.Hid (Chg w wd (nX p z sv)))
  case first =>
    rcases HCS.out with ⟨h44, hcc, rfl, rfl⟩ | ⟨rfl, htop, rfl, w2, hw2, hl2, hq2⟩
    · replace hcc := hcc.symm
      subst hcc
      have f44 : ((c : Int) == 44) = false := beq_eq_false_iff_ne.2 hc44
      go_wp2_with fail
      go_meet
      case rel => exact ⟨rfl, XB, HCB⟩
    · have HW2 := Lib.hid hw2
      have HL2 := Lib.hid hl2
      clear hw2 hl2
      go_upto_region 5 with (fail)
      go_cut [35] from 30 to 34 (fun v35 wd => v35 = .bool false ∧ wd = wx)
      case first =>
        rcases htop with rfl | rfl
        · go_wp2_with fail
          go_meet
          case rel => exact ⟨rfl, rfl⟩
        · go_wp2_with fail
          go_meet
          case rel => exact ⟨rfl, rfl⟩
      case rest =>
        obtain ⟨rfl, rfl⟩ := hcut
        go_wp2_with fail
        refine (XB.out.move (q1 + 1) rfl (by omega)).mono ?_
        rintro e we ⟨rfl, hx, hch⟩
        have XE := Lib.hid hx
        have HCE := Lib.hid (nX_trans HCB.out hch)
        clear hx hch
        go_wp2_with fail
        refine (XE.out.white w2 l c HW2.out HL2.out hcw q hq2).mono ?_
        rintro e wf ⟨rfl, hx, hch⟩
        have XF := Lib.hid hx
        have HCF := Lib.hid (nX_trans HCE.out hch)
        clear hx hch
        have k0 := XF.out.lex.hp.c0
        have k3 := XF.out.lex.hp.c3
        have kf := XF.out.lex.hp.fz 3
        have hx2 := XF.out.comma false hhp
        have XG := Lib.hid hx2
        have HCG := Lib.hid (nX_trans HCF.out (Chg.set (X := nX p z sv) (b := p) (o := 3) (v := .bool false) (.inr (.inl rfl))))
        clear hx2
        go_wp2_with fail
        refine (XG.out.lex.peek 0 c ⟨by rw [hN]; exact hqn, HBQ.out⟩ (by omega)).mono ?_
        rintro e wb ⟨rfl, rfl⟩
        go_wp2_with fail
        go_meet
        case rel => exact ⟨rfl, XG, HCG⟩
  case rest =>
    clear XB HCB k0 k3 HCS HB1 HL1 HC1 HW1 X
    obtain ⟨rfl, XC, HCC⟩ := hcut
    have k0 := XC.out.lex.hp.c0
    go_wp2_with fail
    refine (XC.out.skip).mono ?_
    rintro e wg ⟨rfl, hx, hch⟩
    have XD := Lib.hid hx
    have HCD := Lib.hid (nX_trans HCC.out hch)
    clear hx hch XC HCC k0
    have k0 := XD.out.lex.hp.c0
    have k3 := XD.out.lex.hp.c3
    have kf := XD.out.lex.hp.fz 3
    subst hnc'
    have f123 : (c == 123) = false := beq_eq_false_iff_ne.2 (by omega)
    have f125 : (c == 125) = false := beq_eq_false_iff_ne.2 (by omega)
    have f91 : (c == 91) = false := beq_eq_false_iff_ne.2 (by omega)
    have f93 : (c == 93) = false := beq_eq_false_iff_ne.2 (by omega)
    have f34 : (c == 34) = false := beq_eq_false_iff_ne.2 (by omega)
    have ftop : (top == 1) = false := beq_eq_false_iff_ne.2 htp
    have X2 := Lib.hid (XD.out.comma true hhp)
    have H2 := Lib.hid (nX_trans HCD.out (Chg.set (X := nX p z sv) (b := p) (o := 3) (v := .bool true) (.inr (.inl rfl))))
    obtain ⟨w2, hw2⟩ : ∃ W, wg.setCell ⟨p, 3, none⟩ (.bool true) = W := ⟨_, rfl⟩
    rw [hw2] at X2 H2
    go_upto_if 328 with (fail)
    go_cut [] from 327 to 339 (fun wd => RowKit.Hid (PS wd p z h n cap q q rf sv true xs tail (S ++ [r])) ∧ RowKit.Hid (Chg w wd (nX p z sv)))
    case first =>
      have k12 := X2.out.lex.hp.c1
      have k02 := X2.out.lex.hp.c0
      rcases HR.out with ⟨rfl, rfl⟩ | ⟨hn2, rfl⟩
      · obtain ⟨g3, cs3, hsv3, hc5, hf5, _, _, _⟩ := X2.out.stk.top
        rw [hm] at hc5 hf5
        rw [hsv3, hm] at k12
        have j2 : IntKind.i64.wrap (((m : Nat) : Int) + 1 - 1) = ((m : Nat) : Int) := by rw [IntWalk.i64_in _ (by omega)]; omega
        have j3 : ((m : Nat) : Int) + 1 - 1 = ((m : Nat) : Int) := by omega
        have j4 : ((m : Nat) : Int) < ((m : Nat) : Int) + 1 := by omega
        have HS3 := Lib.hid hsv3
        clear hsv3
        go_wp2_with fail
        go_region
        clear j2 j3 j4
        go_wp2_with fail
        go_meet
        case rel => exact ⟨Lib.hid (X2.out.retop 1 HS3.out hm), Lib.hid (Chg.drew (nX_trans H2.out (Chg.set (.inr (.inr (by rw [HS3.out]; rfl))))))⟩
      · have f2 : (r == 2) = false := beq_eq_false_iff_ne.2 hn2
        go_wp2_with fail
        go_meet
        case rel => exact ⟨X2, H2⟩
    case rest =>
      clear X2 H2 hw2 XD HCD
      obtain ⟨X5, H5⟩ := hcut
      have k05 := X5.out.lex.hp.c0
      go_wp2_with fail
      refine (num_tok p z h n cap q q (q + tl) rf sv true xs tail wc X5.out.lex (Nat.le_refl _) s (fun k hk => hby k (by omega)) (by rw [← hq]; exact HNS.out) (by omega)).mono ?_
      rintro e w6 ⟨rfl, hlx, hg6⟩
      have htk := X5.out.took hlx hg6
      have X7 := Lib.hid htk.1
      have H7 := Lib.hid (nX_trans H5.out htk.2)
      clear htk hlx hg6
      have k06 := X7.out.lex.hp.c0
      go_wp2_with fail
      refine (X7.out.shift (k := tl) rfl (by omega) (by omega) (by omega)).mono ?_
      rintro e w8 ⟨rfl, hx, hch⟩
      have X8 := Lib.hid hx
      have H8 := Lib.hid (nX_trans H7.out hch)
      clear hx hch
      go_wp2_with fail
      go_ret2
      exact ⟨rfl, sv, X8.out, H8.out, .inl rfl⟩

set_option maxRecDepth 100000 in
set_option maxHeartbeats 6400000 in
theorem next_lit (p z h n cap pos st : Nat) (rf sv : Value) (nc nc' : Bool) (xs : List Int) (tail : List Value) (S : List Int) (top : Int) (pre l : List Int) (w : World) (x : PS w p z h n cap pos st rf sv nc xs tail (S ++ [top])) (hhp : h ≠ p) (hS : S.length ≤ 1000) (hcap : n ≤ 1000000) (hnc : n ≤ cap) (htop : 0 ≤ top ∧ top ≤ 3) (hpre : PreOk nc top pre nc') (c : Int) (hl : LiesL xs pos (pre ++ c :: l)) (t ll : List Int) (tl : Nat) (hqb : pos + pre.length + tl ≤ n) (r : Int) (hr : (top = 2 ∧ r = 1) ∨ (top ≠ 2 ∧ r = top)) (htp : top ≠ 1) (hnc' : nc' = false) (ht : t ∈ jlitL) (hte : c :: l = t ++ ll) (hTL : t.length = tl) (htl : 1 ≤ tl) (hcd : c = 110 ∨ c = 116 ∨ c = 102) :
    Calls Tryz.prog 36 #[.pointer (some ⟨p, 0, none⟩)] w (NextPost 2 (pos + pre.length) tl tl p z h n cap (pos + pre.length + tl) rf sv true xs tail (S ++ [r]) w) := by
  have hc44 : (c : Int) ≠ 44 := by omega
  have hcw : ¬ wsb c := by unfold wsb; omega
  have HR := Lib.hid hr
  clear hr
  have HTL := Lib.hid ht
  have HTE := Lib.hid hte
  clear ht hte
  obtain ⟨w1, l1, c1, hw1, hl1, hc1w, hcs⟩ := pre_parts hpre hl hc44 hcw
  obtain ⟨q, hq⟩ : ∃ q, pos + pre.length = q := ⟨_, rfl⟩
  have hlq := hl.drop
  rw [hq] at hlq hcs ⊢
  obtain ⟨q1, hq1⟩ : ∃ q1, pos + w1.length = q1 := ⟨_, rfl⟩
  rw [hq1] at hcs
  have hb1 := hl1.drop.head
  rw [hq1] at hb1
  have hbq := hlq.head
  have hN := x.lex.hn
  have hN2 := x.lex.hs
  obtain ⟨ht0, ht3⟩ := htop
  have X := Lib.hid x
  have HW1 := Lib.hid hw1
  have HL1 := Lib.hid hl1
  have HC1 := Lib.hid hc1w
  have HCS := Lib.hid hcs
  have HLQ := Lib.hid hlq
  have HB1 := Lib.hid hb1.2
  have HBQ := Lib.hid hbq.2
  have hq1n : q1 < n := by rw [← hN]; exact hb1.1
  have hqn : q < n := by rw [← hN]; exact hbq.1
  clear x hw1 hl1 hc1w hcs hlq hb1 hbq hl hpre
  go_enter Tryz.func36, Tryz.ntmps36
  go_wp2_with fail
  refine (X.out.white w1 l1 c1 HW1.out HL1.out HC1.out q1 hq1).mono ?_
  rintro e wa ⟨rfl, hx, hch⟩
  have XA := Lib.hid hx
  have HCH := Lib.hid hch
  have k0 := hx.lex.hp.c0
  clear hx hch
  go_wp2_with fail
  refine (XA.out.lex.peek 0 c1 ⟨by rw [XA.out.lex.hn]; exact hq1n, HB1.out⟩ (by omega)).mono ?_
  rintro e wb ⟨rfl, rfl⟩
  obtain ⟨g, cs, hsv, hcell, hfz, hk1, hk2, hk3⟩ := XA.out.stk.top
  have k1 := XA.out.lex.hp.c1
  rw [hsv] at k1
  obtain ⟨m, hm⟩ : ∃ m, S.length = m := ⟨_, rfl⟩
  rw [hm] at hcell k1 hS
  go_wp2_with fail
  have i2 : IntKind.i64.wrap (((m : Nat) : Int) + 1 - 1) = ((m : Nat) : Int) := by rw [IntWalk.i64_in _ (by omega)]; omega
  have i3 : ((m : Nat) : Int) + 1 - 1 = ((m : Nat) : Int) := by omega
  have i4 : ((m : Nat) : Int) < ((m : Nat) : Int) + 1 := by omega
  go_quiet (fail)
  have XB := Lib.hid (XA.out.drewN nq)
  have HCB := Lib.hid (HCH.out.drewN nq)
  clear i2 i3 i4 k0 k1 hcell hfz XA HCH
  obtain ⟨wx, hwx⟩ : ∃ W, wa.drewN nq = W := ⟨_, rfl⟩
  rw [hwx] at XB HCB ⊢
  clear hwx
  have k0 := XB.out.lex.hp.c0
  have k3 := XB.out.lex.hp.fz 3
  go_upto_if 29 with (fail)
  go_cut [4] from 9 to 59 (fun v4 wd => v4 = .int .u8 c ∧ RowKit.Hid (PS wd p z h n cap q st rf sv nc' xs tail (S ++ [top])) ∧ RowKit.Hid (Chg w wd (nX p z sv)))
  case first =>
    rcases HCS.out with ⟨h44, hcc, rfl, rfl⟩ | ⟨rfl, htop, rfl, w2, hw2, hl2, hq2⟩
    · replace hcc := hcc.symm
      subst hcc
      have f44 : ((c : Int) == 44) = false := beq_eq_false_iff_ne.2 hc44
      go_wp2_with fail
      go_meet
      case rel => exact ⟨rfl, XB, HCB⟩
    · have HW2 := Lib.hid hw2
      have HL2 := Lib.hid hl2
      clear hw2 hl2
      go_upto_region 5 with (fail)
      go_cut [35] from 30 to 34 (fun v35 wd => v35 = .bool false ∧ wd = wx)
      case first =>
        rcases htop with rfl | rfl
        · go_wp2_with fail
          go_meet
          case rel => exact ⟨rfl, rfl⟩
        · go_wp2_with fail
          go_meet
          case rel => exact ⟨rfl, rfl⟩
      case rest =>
        obtain ⟨rfl, rfl⟩ := hcut
        go_wp2_with fail
        refine (XB.out.move (q1 + 1) rfl (by omega)).mono ?_
        rintro e we ⟨rfl, hx, hch⟩
        have XE := Lib.hid hx
        have HCE := Lib.hid (nX_trans HCB.out hch)
        clear hx hch
        go_wp2_with fail
        refine (XE.out.white w2 l c HW2.out HL2.out hcw q hq2).mono ?_
        rintro e wf ⟨rfl, hx, hch⟩
        have XF := Lib.hid hx
        have HCF := Lib.hid (nX_trans HCE.out hch)
        clear hx hch
        have k0 := XF.out.lex.hp.c0
        have k3 := XF.out.lex.hp.c3
        have kf := XF.out.lex.hp.fz 3
        have hx2 := XF.out.comma false hhp
        have XG := Lib.hid hx2
        have HCG := Lib.hid (nX_trans HCF.out (Chg.set (X := nX p z sv) (b := p) (o := 3) (v := .bool false) (.inr (.inl rfl))))
        clear hx2
        go_wp2_with fail
        refine (XG.out.lex.peek 0 c ⟨by rw [hN]; exact hqn, HBQ.out⟩ (by omega)).mono ?_
        rintro e wb ⟨rfl, rfl⟩
        go_wp2_with fail
        go_meet
        case rel => exact ⟨rfl, XG, HCG⟩
  case rest =>
    clear XB HCB k0 k3 HCS HB1 HL1 HC1 HW1 X
    obtain ⟨rfl, XC, HCC⟩ := hcut
    have k0 := XC.out.lex.hp.c0
    go_wp2_with fail
    refine (XC.out.skip).mono ?_
    rintro e wg ⟨rfl, hx, hch⟩
    have XD := Lib.hid hx
    have HCD := Lib.hid (nX_trans HCC.out hch)
    clear hx hch XC HCC k0
    have k0 := XD.out.lex.hp.c0
    have k3 := XD.out.lex.hp.c3
    have kf := XD.out.lex.hp.fz 3
    subst hnc'
    have f123 : (c == 123) = false := beq_eq_false_iff_ne.2 (by omega)
    have f125 : (c == 125) = false := beq_eq_false_iff_ne.2 (by omega)
    have f91 : (c == 91) = false := beq_eq_false_iff_ne.2 (by omega)
    have f93 : (c == 93) = false := beq_eq_false_iff_ne.2 (by omega)
    have f34 : (c == 34) = false := beq_eq_false_iff_ne.2 (by omega)
    have ftop : (top == 1) = false := beq_eq_false_iff_ne.2 htp
    have X2 := Lib.hid (XD.out.comma true hhp)
    have H2 := Lib.hid (nX_trans HCD.out (Chg.set (X := nX p z sv) (b := p) (o := 3) (v := .bool true) (.inr (.inl rfl))))
    obtain ⟨w2, hw2⟩ : ∃ W, wg.setCell ⟨p, 3, none⟩ (.bool true) = W := ⟨_, rfl⟩
    rw [hw2] at X2 H2
    go_upto_if 328 with (fail)
    go_cut [] from 327 to 339 (fun wd => RowKit.Hid (PS wd p z h n cap q q rf sv true xs tail (S ++ [r])) ∧ RowKit.Hid (Chg w wd (nX p z sv)))
    case first =>
      have k12 := X2.out.lex.hp.c1
      have k02 := X2.out.lex.hp.c0
      rcases HR.out with ⟨rfl, rfl⟩ | ⟨hn2, rfl⟩
      · obtain ⟨g3, cs3, hsv3, hc5, hf5, _, _, _⟩ := X2.out.stk.top
        rw [hm] at hc5 hf5
        rw [hsv3, hm] at k12
        have j2 : IntKind.i64.wrap (((m : Nat) : Int) + 1 - 1) = ((m : Nat) : Int) := by rw [IntWalk.i64_in _ (by omega)]; omega
        have j3 : ((m : Nat) : Int) + 1 - 1 = ((m : Nat) : Int) := by omega
        have j4 : ((m : Nat) : Int) < ((m : Nat) : Int) + 1 := by omega
        have HS3 := Lib.hid hsv3
        clear hsv3
        go_wp2_with fail
        go_region
        clear j2 j3 j4
        go_wp2_with fail
        go_meet
        case rel => exact ⟨Lib.hid (X2.out.retop 1 HS3.out hm), Lib.hid (Chg.drew (nX_trans H2.out (Chg.set (.inr (.inr (by rw [HS3.out]; rfl))))))⟩
      · have f2 : (r == 2) = false := beq_eq_false_iff_ne.2 hn2
        go_wp2_with fail
        go_meet
        case rel => exact ⟨X2, H2⟩
    case rest =>
      clear X2 H2 hw2 XD HCD
      obtain ⟨X5, H5⟩ := hcut
      have k05 := X5.out.lex.hp.c0
      go_wp2_with fail
      refine (num_no p z h n cap q q 0 c rf sv true xs tail wc X5.out.lex rfl HLQ.out.head (by omega)).mono ?_
      rintro e w6 ⟨rfl, hlx, hg6⟩
      have htk := X5.out.took hlx hg6
      have X6 := Lib.hid htk.1
      have H6 := Lib.hid (nX_trans H5.out htk.2)
      clear htk hlx hg6
      go_wp2_with fail
      refine (lit_at p z h n cap q q rf sv true xs t ll tail w6 X6.out.lex HTL.out (by rw [← HTE.out]; exact HLQ.out)).mono ?_
      rintro e w7 ⟨rfl, hlx, hg6⟩
      have htk := X6.out.took hlx hg6
      rw [hTL] at htk
      have X7 := Lib.hid htk.1
      have H7 := Lib.hid (nX_trans H6.out htk.2)
      clear htk hlx hg6
      have k06 := X7.out.lex.hp.c0
      go_wp2_with fail
      refine (X7.out.shift (k := tl) rfl (by omega) (by omega) (by omega)).mono ?_
      rintro e w8 ⟨rfl, hx, hch⟩
      have X8 := Lib.hid hx
      have H8 := Lib.hid (nX_trans H7.out hch)
      clear hx hch
      go_wp2_with fail
      go_ret2
      exact ⟨rfl, sv, X8.out, H8.out, .inl rfl⟩

end Go.Proofs.YthoekplablhgfaaGreatDoor
