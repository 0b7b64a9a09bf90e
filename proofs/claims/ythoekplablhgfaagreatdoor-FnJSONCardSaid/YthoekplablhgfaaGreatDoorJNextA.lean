/-
  The contract of the parser's Next: an opening bracket.
-/
import Derived.Test.YthoekplablhgfaaGreatDoorJNext1
namespace Go.Proofs.YthoekplablhgfaaGreatDoor
open Go.RowKit
set_option linter.unusedVariables false

theorem info_state : (Tryz.prog.info? 87).map (fun i => (i.zero, i.size, i.bytes)) = some (some (.int .u32 0), 1, 4) := by kernel_rfl
theorem nX_trans7 {a b c : World} {p z : Nat} {sv sv' : Value} (h : Chg a b (nX p z sv)) (k : Chg b c (nX p z sv')) (hv : sv'.ownBlock = sv.ownBlock ∨ ∀ k, sv'.ownBlock = some k → a.heap.size ≤ k) : Chg a c (nX p z sv) :=
  h.trans k fun i hi x => by
    rcases x with x | x | x
    · exact .inl x
    · exact .inr (.inl x)
    · rcases hv with hv | hv
      · exact .inr (.inr (by rw [← hv]; exact x))
      · exact absurd (hv i x) (by omega)

set_option maxRecDepth 100000 in
set_option maxHeartbeats 6400000 in
theorem next_arr (p z h n cap pos st : Nat) (rf sv : Value) (nc nc' : Bool) (xs : List Int) (tail : List Value) (S : List Int) (top : Int) (pre l : List Int) (w : World) (x : PS w p z h n cap pos st rf sv nc xs tail (S ++ [top])) (hhp : h ≠ p) (hS : S.length ≤ 1000) (hcap : n ≤ 1000000) (hnc : n ≤ cap) (htop : 0 ≤ top ∧ top ≤ 3) (hpre : PreOk nc top pre nc') (hl : LiesL xs pos (pre ++ 91 :: l)) (hnc' : nc' = false) :
    Calls Tryz.prog 36 #[.pointer (some ⟨p, 0, none⟩)] w (NextPost 7 (pos + pre.length) 1 1 p z h n cap (pos + pre.length + 1) rf sv false xs tail (S ++ [top] ++ [3]) w) := by
  have hc44 : (91 : Int) ≠ 44 := by decide
  have hcw : ¬ wsb 91 := by decide
  obtain ⟨w1, l1, c1, hw1, hl1, hc1w, hcs⟩ := pre_parts hpre hl hc44 hcw
  obtain ⟨q, hq⟩ : ∃ q, pos + pre.length = q := ⟨_, rfl⟩
  have hlq := hl.drop
  rw [hq] at hlq hcs ⊢
  obtain ⟨q1, hq1⟩ : ∃ q1, pos + w1.length = q1 := ⟨_, rfl⟩
  rw [hq1] at hcs
  have hb1 := hl1.drop.head
  rw [hq1] at hb1
  have hbq := hlq.head
  have hN := x.lex.hn
  have hN2 := x.lex.hs
  obtain ⟨ht0, ht3⟩ := htop
  have X := Lib.hid x
  have HW1 := Lib.hid hw1
  have HL1 := Lib.hid hl1
  have HC1 := Lib.hid hc1w
  have HCS := Lib.hid hcs
  have HLQ := Lib.hid hlq
  have HB1 := Lib.hid hb1.2
  have HBQ := Lib.hid hbq.2
  have hq1n : q1 < n := by rw [← hN]; exact hb1.1
  have hqn : q < n := by rw [← hN]; exact hbq.1
  clear x hw1 hl1 hc1w hcs hlq hb1 hbq hl hpre
  go_enter Tryz.func36, Tryz.ntmps36
  go_wp2_with fail
  refine (X.out.white w1 l1 c1 HW1.out HL1.out HC1.out q1 hq1).mono ?_
  rintro e wa ⟨rfl, hx, hch⟩
  have XA := Lib.hid hx
  have HCH := Lib.hid hch
  have k0 := hx.lex.hp.c0
  clear hx hch
  go_wp2_with fail
  refine (XA.out.lex.peek 0 c1 ⟨by rw [XA.out.lex.hn]; exact hq1n, HB1.out⟩ (by omega)).mono ?_
  rintro e wb ⟨rfl, rfl⟩
  obtain ⟨g, cs, hsv, hcell, hfz, hk1, hk2, hk3⟩ := XA.out.stk.top
  have k1 := XA.out.lex.hp.c1
  rw [hsv] at k1
  obtain ⟨m, hm⟩ : ∃ m, S.length = m := ⟨_, rfl⟩
  rw [hm] at hcell k1 hS
  go_wp2_with fail
  have i2 : IntKind.i64.wrap (((m : Nat) : Int) + 1 - 1) = ((m : Nat) : Int) := by rw [IntWalk.i64_in _ (by omega)]; omega
  have i3 : ((m : Nat) : Int) + 1 - 1 = ((m : Nat) : Int) := by omega
  have i4 : ((m : Nat) : Int) < ((m : Nat) : Int) + 1 := by omega
  go_quiet (fail)
  have XB := Lib.hid (XA.out.drewN nq)
  have HCB := Lib.hid (HCH.out.drewN nq)
  clear i2 i3 i4 k0 k1 hcell hfz XA HCH
  obtain ⟨wx, hwx⟩ : ∃ W, wa.drewN nq = W := ⟨_, rfl⟩
  rw [hwx] at XB HCB ⊢
  clear hwx
  have k0 := XB.out.lex.hp.c0
  have k3 := XB.out.lex.hp.fz 3
  go_upto_if 29 with (fail)
  go_cut [4] from 9 to 59 (fun v4 wd => v4 = .int .u8 91 ∧ RowKit.Hid (PS wd p z h n cap q st rf sv nc' xs tail (S ++ [top])) ∧ RowKit.Hid (Chg w wd (nX p z sv)))
  case first =>
    rcases HCS.out with ⟨h44, rfl, rfl, rfl⟩ | ⟨rfl, htop, rfl, w2, hw2, hl2, hq2⟩
    · have f44 : ((91 : Int) == 44) = false := beq_eq_false_iff_ne.2 hc44
      go_wp2_with fail
      go_meet
      case rel => exact ⟨rfl, XB, HCB⟩
    · have HW2 := Lib.hid hw2
      have HL2 := Lib.hid hl2
      clear hw2 hl2
      go_upto_region 5 with (fail)
      go_cut [35] from 30 to 34 (fun v35 wd => v35 = .bool false ∧ wd = wx)
      case first =>
        rcases htop with rfl | rfl
        · go_wp2_with fail
          go_meet
          case rel => exact ⟨rfl, rfl⟩
        · go_wp2_with fail
          go_meet
          case rel => exact ⟨rfl, rfl⟩
      case rest =>
        obtain ⟨rfl, rfl⟩ := hcut
        go_wp2_with fail
        refine (XB.out.move (q1 + 1) rfl (by omega)).mono ?_
        rintro e we ⟨rfl, hx, hch⟩
        have XE := Lib.hid hx
        have HCE := Lib.hid (nX_trans HCB.out hch)
        clear hx hch
        go_wp2_with fail
        refine (XE.out.white w2 l 91 HW2.out HL2.out hcw q hq2).mono ?_
        rintro e wf ⟨rfl, hx, hch⟩
        have XF := Lib.hid hx
        have HCF := Lib.hid (nX_trans HCE.out hch)
        clear hx hch
        have k0 := XF.out.lex.hp.c0
        have k3 := XF.out.lex.hp.c3
        have kf := XF.out.lex.hp.fz 3
        have hx2 := XF.out.comma false hhp
        have XG := Lib.hid hx2
        have HCG := Lib.hid (nX_trans HCF.out (Chg.set (X := nX p z sv) (b := p) (o := 3) (v := .bool false) (.inr (.inl rfl))))
        clear hx2
        go_wp2_with fail
        refine (XG.out.lex.peek 0 91 ⟨by rw [hN]; exact hqn, HBQ.out⟩ (by omega)).mono ?_
        rintro e wb ⟨rfl, rfl⟩
        go_wp2_with fail
        go_meet
        case rel => exact ⟨rfl, XG, HCG⟩
  case rest =>
    clear XB HCB k0 k3 HCS HB1 HL1 HC1 HW1 X
    obtain ⟨rfl, XC, HCC⟩ := hcut
    have k0 := XC.out.lex.hp.c0
    go_wp2_with fail
    refine (XC.out.skip).mono ?_
    rintro e wg ⟨rfl, hx, hch⟩
    have XD := Lib.hid hx
    have HCD := Lib.hid (nX_trans HCC.out hch)
    clear hx hch XC HCC k0
    have k0 := XD.out.lex.hp.c0
    have k3 := XD.out.lex.hp.c3
    have kf := XD.out.lex.hp.fz 3
    subst hnc'
    have k1 := XD.out.lex.hp.c1
    rw [hsv, hm] at k1
    obtain ⟨i0, hi, hz0, hz1, hz2⟩ := info_parts info_state
    obtain ⟨wA, hA⟩ : ∃ W, wg.alloc (.cells #[.int .u32 3] 87) = W := ⟨_, rfl⟩
    have hgA : wg.grownBy wA none := by rw [← hA]; exact World.grownBy_alloc _ _ _
    have hown := XD.out.stk
    have hol : (S ++ [top]).length = m + 1 := by rw [List.length_append, hm]; rfl
    unfold Stk at hown
    rw [hol, hsv, hm] at hown
    have hno := XD.out.own
    rw [hsv, hm] at hno
    have hgne := hno g rfl
    have hownA : wA.ownsRow 0 87 1 (.slice (some ⟨g, 0, none⟩) (m + 1) cs) (m + 1) ((S ++ [top]).map (Value.int .u32)) := by
      refine (show Stk wA (.slice (some ⟨g, 0, none⟩) (m + 1) cs) (S ++ [top]) from ?_) |> fun h => by unfold Stk at h; rw [hol] at h; exact h
      refine (show Stk wg (.slice (some ⟨g, 0, none⟩) (m + 1) cs) (S ++ [top]) from by unfold Stk; rw [hol]; exact hown).keep fun b e => ?_
      have e : some g = some b := e
      injection e with e
      subst e
      refine hgA.block g ?_ (by simp)
      obtain ⟨_, h2⟩ := hown
      rcases h2 with ⟨h2, _⟩ | ⟨g', cap', cur, h2, _, h4, _⟩
      · cases h2
      · injection h2 with e1 e2 e3
        injection e1 with e1
        injection e1 with e1
        subst e1
        exact (Array.getElem?_eq_some_iff.1 h4).1
    have hnews : ∀ j u, [Value.int .u32 3][j]? = some u → wA.cell? ((⟨wg.heap.size, 0, none⟩ : Addr).add j) = some u := by
      intro j u hu
      have hj : j = 0 := by
        rcases Nat.eq_zero_or_pos j with h | h
        · exact h
        · rw [List.getElem?_eq_none (by simp; omega)] at hu; cases hu
      subst hj
      have ha : (⟨wg.heap.size, 0, none⟩ : Addr).add 0 = ⟨wg.heap.size, 0, none⟩ := by unfold Addr.add; split <;> simp_all
      rw [ha, ← hA, cell_of_row _ _ 0 _ _ _ (heap_alloc_new wg _)]
      exact hu
    have hone : ∀ u ∈ [Value.int .u32 3], u.oneCell' = true := by
      intro u hu
      simp at hu
      subst hu
      rfl
    have hpz := XD.out.lex.hpz
    have hhz := XD.out.lex.hhz
    have hplt := XD.out.lex.hp.lt
    have hzlt := XD.out.lex.hi.lt
    have hhlt := XD.out.lex.hb.lt
    have hsA : wA.heap.size = wg.heap.size + 1 := by rw [← hA]; simp
    have HOWN := Lib.hid hownA
    have HNW := Lib.hid hnews
    have HONE := Lib.hid hone
    have HA := Lib.hid hA
    have HGA := Lib.hid hgA
    have HSA := Lib.hid hsA
    have hp1 : p < wA.heap.size := by omega
    have hz1 : z < wA.heap.size := by omega
    have hh1 : h < wA.heap.size := by omega
    have HPA := Lib.hid (XD.out.lex.hp.keep (hgA.block p hplt (by simp)))
    have HIA := Lib.hid (XD.out.lex.hi.keep (hgA.block z hzlt (by simp)))
    have HBA := Lib.hid (XD.out.lex.hb.keep (hgA.block h hhlt (by simp)))
    have hlx := XD.out.lex
    have HN := Lib.hid (And.intro hlx.hn (And.intro hlx.hs (And.intro hlx.hpz hlx.hhz)))
    have hm1 : m + 1 + 1 ≤ maxLen := by unfold maxLen; omega
    clear hA hgA hown hno hownA hnews hone hsA hlx
    go_wp2_with (at_builtin; rw [HA.out]; refine wpList_append_lies _ rfl _ _ _ rfl 0 87 i0 (.int .u32 0) 1 4 Tryz.underlying109 hi hz0 ‹_› hz2 rfl (by omega) (.slice (some ⟨g, 0, none⟩) (m + 1) cs) (m + 1) ((S ++ [top]).map (Value.int .u32)) rfl HOWN.out ⟨wg.heap.size, 0, none⟩ 1 1 [.int .u32 3] rfl rfl HNW.out HONE.out (by omega) hm1 (by omega) (Nat.zero_le _) (wg.heap.size + 1) HSA.out ?_; intro gA capA w5 hown hgrow hpl hlt5; have HP5 := Lib.hid (HPA.out.keep (hgrow.block p hp1 (fun e => hgne.1 (by injection e with e; exact e.symm)))); have HI5 := Lib.hid (HIA.out.keep (hgrow.block z hz1 (fun e => hgne.2.1 (by injection e with e; exact e.symm)))); have HB5 := Lib.hid (HBA.out.keep (hgrow.block h hh1 (fun e => hgne.2.2 (by injection e with e; exact e.symm)))); have kz := HP5.out.c1; have kk := HP5.out.c0; have kzf := HP5.out.fz 1; have HO5 := Lib.hid hown; have HG5 := Lib.hid hgrow; have HPL := Lib.hid hpl; clear hown hgrow hpl)
    obtain ⟨vN, hvN⟩ : ∃ v, Value.slice (some ⟨gA, 0, none⟩) (m + 1 + 1) capA = v := ⟨_, rfl⟩
    obtain ⟨w6, hw6⟩ : ∃ W, w5.setCell ⟨p, 1, none⟩ vN = W := ⟨_, rfl⟩
    have hgAne : gA ≠ p ∧ gA ≠ z ∧ gA ≠ h := by
      rcases HPL.out with e | e
      · have e : some g = some gA := e
        injection e with e
        subst e
        exact hgne
      · omega
    have hS6 : Stk w5 vN (S ++ [top] ++ [3]) := by
      unfold Stk
      rw [← hvN, List.map_append, List.map_cons, List.map_nil, List.length_append, hol]
      exact HO5.out
    have X6 := Lib.hid (show PS w6 p z h n cap q q rf vN false xs tail (S ++ [top] ++ [3]) from by
      rw [← hw6]
      refine ⟨⟨HP5.out.stack vN, HI5.out.keep (Below.heap_setCell _ _ _ _ (fun e => hpz (by rw [show z = p from e]))), HB5.out.keep (Below.heap_setCell _ _ _ _ hhp), HN.out.1, HN.out.2.1, HN.out.2.2.1, HN.out.2.2.2⟩, hS6.keep fun b e => ?_, fun b e => ?_⟩
      · rw [← hvN] at e
        have e : some gA = some b := e
        injection e with e
        exact Below.heap_setCell _ _ _ _ (by show b ≠ p; rw [← e]; exact hgAne.1)
      · rw [← hvN] at e
        have e : some gA = some b := e
        injection e with e
        rw [← e]
        exact hgAne)
    have H6 := Lib.hid (show Chg w w6 (nX p z sv) from by
      rw [← hw6]
      refine nX_trans (nX_trans (nX_trans HCD.out (Chg.of HGA.out (fun k e => by cases e))) (Chg.of HG5.out (fun k e => ?_))) (Chg.set (.inr (.inl rfl)))
      rw [hsv, hm]
      exact .inr (.inr e))
    have HV := Lib.hid (show vN.ownBlock = sv.ownBlock ∨ ∀ k, vN.ownBlock = some k → w.heap.size ≤ k from by
      rw [← hvN]
      rcases HPL.out with e | e
      · exact .inl (by rw [hsv]; exact e.symm)
      · refine .inr fun k e2 => ?_
        have e2 : some gA = some k := e2
        injection e2 with e2
        have h1 := HCD.out.size
        omega)
    rw [hvN, hw6]
    clear hvN hw6 hS6 HP5 HI5 HB5 kz kk kzf HO5 HG5 HPL HOWN HNW HONE HA HGA HSA HPA HIA HBA XD HCD k0 k1 k3 kf
    refine (X6.out.move (q + 1) rfl (by omega)).mono ?_
    rintro e w7 ⟨rfl, hx, hch⟩
    have X7 := Lib.hid hx
    have H7 := Lib.hid (nX_trans7 H6.out hch HV.out)
    clear hx hch
    have k0 := X7.out.lex.hp.c0
    go_wp2_with fail
    refine (X7.out.shift (k := 1) rfl (by omega) (by omega) (by omega)).mono ?_
    rintro e w8 ⟨rfl, hx, hch⟩
    have X8 := Lib.hid hx
    have H8 := Lib.hid (nX_trans7 H7.out hch HV.out)
    clear hx hch
    go_wp2_with fail
    go_ret2
    exact ⟨rfl, vN, X8.out, H8.out, HV.out⟩

set_option maxRecDepth 100000 in
set_option maxHeartbeats 6400000 in
theorem next_obj (p z h n cap pos st : Nat) (rf sv : Value) (nc nc' : Bool) (xs : List Int) (tail : List Value) (S : List Int) (top : Int) (pre l : List Int) (w : World) (x : PS w p z h n cap pos st rf sv nc xs tail (S ++ [top])) (hhp : h ≠ p) (hS : S.length ≤ 1000) (hcap : n ≤ 1000000) (hnc : n ≤ cap) (htop : 0 ≤ top ∧ top ≤ 3) (hpre : PreOk nc top pre nc') (hl : LiesL xs pos (pre ++ 123 :: l)) (hnc' : nc' = false) :
    Calls Tryz.prog 36 #[.pointer (some ⟨p, 0, none⟩)] w (NextPost 5 (pos + pre.length) 1 1 p z h n cap (pos + pre.length + 1) rf sv false xs tail (S ++ [top] ++ [1]) w) := by
  have hc44 : (123 : Int) ≠ 44 := by decide
  have hcw : ¬ wsb 123 := by decide
  obtain ⟨w1, l1, c1, hw1, hl1, hc1w, hcs⟩ := pre_parts hpre hl hc44 hcw
  obtain ⟨q, hq⟩ : ∃ q, pos + pre.length = q := ⟨_, rfl⟩
  have hlq := hl.drop
  rw [hq] at hlq hcs ⊢
  obtain ⟨q1, hq1⟩ : ∃ q1, pos + w1.length = q1 := ⟨_, rfl⟩
  rw [hq1] at hcs
  have hb1 := hl1.drop.head
  rw [hq1] at hb1
  have hbq := hlq.head
  have hN := x.lex.hn
  have hN2 := x.lex.hs
  obtain ⟨ht0, ht3⟩ := htop
  have X := Lib.hid x
  have HW1 := Lib.hid hw1
  have HL1 := Lib.hid hl1
  have HC1 := Lib.hid hc1w
  have HCS := Lib.hid hcs
  have HLQ := Lib.hid hlq
  have HB1 := Lib.hid hb1.2
  have HBQ := Lib.hid hbq.2
  have hq1n : q1 < n := by rw [← hN]; exact hb1.1
  have hqn : q < n := by rw [← hN]; exact hbq.1
  clear x hw1 hl1 hc1w hcs hlq hb1 hbq hl hpre
  go_enter Tryz.func36, Tryz.ntmps36
  go_wp2_with fail
  refine (X.out.white w1 l1 c1 HW1.out HL1.out HC1.out q1 hq1).mono ?_
  rintro e wa ⟨rfl, hx, hch⟩
  have XA := Lib.hid hx
  have HCH := Lib.hid hch
  have k0 := hx.lex.hp.c0
  clear hx hch
  go_wp2_with fail
  refine (XA.out.lex.peek 0 c1 ⟨by rw [XA.out.lex.hn]; exact hq1n, HB1.out⟩ (by omega)).mono ?_
  rintro e wb ⟨rfl, rfl⟩
  obtain ⟨g, cs, hsv, hcell, hfz, hk1, hk2, hk3⟩ := XA.out.stk.top
  have k1 := XA.out.lex.hp.c1
  rw [hsv] at k1
  obtain ⟨m, hm⟩ : ∃ m, S.length = m := ⟨_, rfl⟩
  rw [hm] at hcell k1 hS
  go_wp2_with fail
  have i2 : IntKind.i64.wrap (((m : Nat) : Int) + 1 - 1) = ((m : Nat) : Int) := by rw [IntWalk.i64_in _ (by omega)]; omega
  have i3 : ((m : Nat) : Int) + 1 - 1 = ((m : Nat) : Int) := by omega
  have i4 : ((m : Nat) : Int) < ((m : Nat) : Int) + 1 := by omega
  go_quiet (fail)
  have XB := Lib.hid (XA.out.drewN nq)
  have HCB := Lib.hid (HCH.out.drewN nq)
  clear i2 i3 i4 k0 k1 hcell hfz XA HCH
  obtain ⟨wx, hwx⟩ : ∃ W, wa.drewN nq = W := ⟨_, rfl⟩
  rw [hwx] at XB HCB ⊢
  clear hwx
  have k0 := XB.out.lex.hp.c0
  have k3 := XB.out.lex.hp.fz 3
  go_upto_if 29 with (fail)
  go_cut [4] from 9 to 59 (fun v4 wd => v4 = .int .u8 123 ∧ RowKit.Hid (PS wd p z h n cap q st rf sv nc' xs tail (S ++ [top])) ∧ RowKit.Hid (Chg w wd (nX p z sv)))
  case first =>
    rcases HCS.out with ⟨h44, rfl, rfl, rfl⟩ | ⟨rfl, htop, rfl, w2, hw2, hl2, hq2⟩
    · have f44 : ((123 : Int) == 44) = false := beq_eq_false_iff_ne.2 hc44
      go_wp2_with fail
      go_meet
      case rel => exact ⟨rfl, XB, HCB⟩
    · have HW2 := Lib.hid hw2
      have HL2 := Lib.hid hl2
      clear hw2 hl2
      go_upto_region 5 with (fail)
      go_cut [35] from 30 to 34 (fun v35 wd => v35 = .bool false ∧ wd = wx)
      case first =>
        rcases htop with rfl | rfl
        · go_wp2_with fail
          go_meet
          case rel => exact ⟨rfl, rfl⟩
        · go_wp2_with fail
          go_meet
          case rel => exact ⟨rfl, rfl⟩
      case rest =>
        obtain ⟨rfl, rfl⟩ := hcut
        go_wp2_with fail
        refine (XB.out.move (q1 + 1) rfl (by omega)).mono ?_
        rintro e we ⟨rfl, hx, hch⟩
        have XE := Lib.hid hx
        have HCE := Lib.hid (nX_trans HCB.out hch)
        clear hx hch
        go_wp2_with fail
        refine (XE.out.white w2 l 123 HW2.out HL2.out hcw q hq2).mono ?_
        rintro e wf ⟨rfl, hx, hch⟩
        have XF := Lib.hid hx
        have HCF := Lib.hid (nX_trans HCE.out hch)
        clear hx hch
        have k0 := XF.out.lex.hp.c0
        have k3 := XF.out.lex.hp.c3
        have kf := XF.out.lex.hp.fz 3
        have hx2 := XF.out.comma false hhp
        have XG := Lib.hid hx2
        have HCG := Lib.hid (nX_trans HCF.out (Chg.set (X := nX p z sv) (b := p) (o := 3) (v := .bool false) (.inr (.inl rfl))))
        clear hx2
        go_wp2_with fail
        refine (XG.out.lex.peek 0 123 ⟨by rw [hN]; exact hqn, HBQ.out⟩ (by omega)).mono ?_
        rintro e wb ⟨rfl, rfl⟩
        go_wp2_with fail
        go_meet
        case rel => exact ⟨rfl, XG, HCG⟩
  case rest =>
    clear XB HCB k0 k3 HCS HB1 HL1 HC1 HW1 X
    obtain ⟨rfl, XC, HCC⟩ := hcut
    have k0 := XC.out.lex.hp.c0
    go_wp2_with fail
    refine (XC.out.skip).mono ?_
    rintro e wg ⟨rfl, hx, hch⟩
    have XD := Lib.hid hx
    have HCD := Lib.hid (nX_trans HCC.out hch)
    clear hx hch XC HCC k0
    have k0 := XD.out.lex.hp.c0
    have k3 := XD.out.lex.hp.c3
    have kf := XD.out.lex.hp.fz 3
    subst hnc'
    have k1 := XD.out.lex.hp.c1
    rw [hsv, hm] at k1
    obtain ⟨i0, hi, hz0, hz1, hz2⟩ := info_parts info_state
    obtain ⟨wA, hA⟩ : ∃ W, wg.alloc (.cells #[.int .u32 1] 87) = W := ⟨_, rfl⟩
    have hgA : wg.grownBy wA none := by rw [← hA]; exact World.grownBy_alloc _ _ _
    have hown := XD.out.stk
    have hol : (S ++ [top]).length = m + 1 := by rw [List.length_append, hm]; rfl
    unfold Stk at hown
    rw [hol, hsv, hm] at hown
    have hno := XD.out.own
    rw [hsv, hm] at hno
    have hgne := hno g rfl
    have hownA : wA.ownsRow 0 87 1 (.slice (some ⟨g, 0, none⟩) (m + 1) cs) (m + 1) ((S ++ [top]).map (Value.int .u32)) := by
      refine (show Stk wA (.slice (some ⟨g, 0, none⟩) (m + 1) cs) (S ++ [top]) from ?_) |> fun h => by unfold Stk at h; rw [hol] at h; exact h
      refine (show Stk wg (.slice (some ⟨g, 0, none⟩) (m + 1) cs) (S ++ [top]) from by unfold Stk; rw [hol]; exact hown).keep fun b e => ?_
      have e : some g = some b := e
      injection e with e
      subst e
      refine hgA.block g ?_ (by simp)
      obtain ⟨_, h2⟩ := hown
      rcases h2 with ⟨h2, _⟩ | ⟨g', cap', cur, h2, _, h4, _⟩
      · cases h2
      · injection h2 with e1 e2 e3
        injection e1 with e1
        injection e1 with e1
        subst e1
        exact (Array.getElem?_eq_some_iff.1 h4).1
    have hnews : ∀ j u, [Value.int .u32 1][j]? = some u → wA.cell? ((⟨wg.heap.size, 0, none⟩ : Addr).add j) = some u := by
      intro j u hu
      have hj : j = 0 := by
        rcases Nat.eq_zero_or_pos j with h | h
        · exact h
        · rw [List.getElem?_eq_none (by simp; omega)] at hu; cases hu
      subst hj
      have ha : (⟨wg.heap.size, 0, none⟩ : Addr).add 0 = ⟨wg.heap.size, 0, none⟩ := by unfold Addr.add; split <;> simp_all
      rw [ha, ← hA, cell_of_row _ _ 0 _ _ _ (heap_alloc_new wg _)]
      exact hu
    have hone : ∀ u ∈ [Value.int .u32 1], u.oneCell' = true := by
      intro u hu
      simp at hu
      subst hu
      rfl
    have hpz := XD.out.lex.hpz
    have hhz := XD.out.lex.hhz
    have hplt := XD.out.lex.hp.lt
    have hzlt := XD.out.lex.hi.lt
    have hhlt := XD.out.lex.hb.lt
    have hsA : wA.heap.size = wg.heap.size + 1 := by rw [← hA]; simp
    have HOWN := Lib.hid hownA
    have HNW := Lib.hid hnews
    have HONE := Lib.hid hone
    have HA := Lib.hid hA
    have HGA := Lib.hid hgA
    have HSA := Lib.hid hsA
    have hp1 : p < wA.heap.size := by omega
    have hz1 : z < wA.heap.size := by omega
    have hh1 : h < wA.heap.size := by omega
    have HPA := Lib.hid (XD.out.lex.hp.keep (hgA.block p hplt (by simp)))
    have HIA := Lib.hid (XD.out.lex.hi.keep (hgA.block z hzlt (by simp)))
    have HBA := Lib.hid (XD.out.lex.hb.keep (hgA.block h hhlt (by simp)))
    have hlx := XD.out.lex
    have HN := Lib.hid (And.intro hlx.hn (And.intro hlx.hs (And.intro hlx.hpz hlx.hhz)))
    have hm1 : m + 1 + 1 ≤ maxLen := by unfold maxLen; omega
    clear hA hgA hown hno hownA hnews hone hsA hlx
    go_wp2_with (at_builtin; rw [HA.out]; refine wpList_append_lies _ rfl _ _ _ rfl 0 87 i0 (.int .u32 0) 1 4 Tryz.underlying109 hi hz0 ‹_› hz2 rfl (by omega) (.slice (some ⟨g, 0, none⟩) (m + 1) cs) (m + 1) ((S ++ [top]).map (Value.int .u32)) rfl HOWN.out ⟨wg.heap.size, 0, none⟩ 1 1 [.int .u32 1] rfl rfl HNW.out HONE.out (by omega) hm1 (by omega) (Nat.zero_le _) (wg.heap.size + 1) HSA.out ?_; intro gA capA w5 hown hgrow hpl hlt5; have HP5 := Lib.hid (HPA.out.keep (hgrow.block p hp1 (fun e => hgne.1 (by injection e with e; exact e.symm)))); have HI5 := Lib.hid (HIA.out.keep (hgrow.block z hz1 (fun e => hgne.2.1 (by injection e with e; exact e.symm)))); have HB5 := Lib.hid (HBA.out.keep (hgrow.block h hh1 (fun e => hgne.2.2 (by injection e with e; exact e.symm)))); have kz := HP5.out.c1; have kk := HP5.out.c0; have kzf := HP5.out.fz 1; have HO5 := Lib.hid hown; have HG5 := Lib.hid hgrow; have HPL := Lib.hid hpl; clear hown hgrow hpl)
    obtain ⟨vN, hvN⟩ : ∃ v, Value.slice (some ⟨gA, 0, none⟩) (m + 1 + 1) capA = v := ⟨_, rfl⟩
    obtain ⟨w6, hw6⟩ : ∃ W, w5.setCell ⟨p, 1, none⟩ vN = W := ⟨_, rfl⟩
    have hgAne : gA ≠ p ∧ gA ≠ z ∧ gA ≠ h := by
      rcases HPL.out with e | e
      · have e : some g = some gA := e
        injection e with e
        subst e
        exact hgne
      · omega
    have hS6 : Stk w5 vN (S ++ [top] ++ [1]) := by
      unfold Stk
      rw [← hvN, List.map_append, List.map_cons, List.map_nil, List.length_append, hol]
      exact HO5.out
    have X6 := Lib.hid (show PS w6 p z h n cap q q rf vN false xs tail (S ++ [top] ++ [1]) from by
      rw [← hw6]
      refine ⟨⟨HP5.out.stack vN, HI5.out.keep (Below.heap_setCell _ _ _ _ (fun e => hpz (by rw [show z = p from e]))), HB5.out.keep (Below.heap_setCell _ _ _ _ hhp), HN.out.1, HN.out.2.1, HN.out.2.2.1, HN.out.2.2.2⟩, hS6.keep fun b e => ?_, fun b e => ?_⟩
      · rw [← hvN] at e
        have e : some gA = some b := e
        injection e with e
        exact Below.heap_setCell _ _ _ _ (by show b ≠ p; rw [← e]; exact hgAne.1)
      · rw [← hvN] at e
        have e : some gA = some b := e
        injection e with e
        rw [← e]
        exact hgAne)
    have H6 := Lib.hid (show Chg w w6 (nX p z sv) from by
      rw [← hw6]
      refine nX_trans (nX_trans (nX_trans HCD.out (Chg.of HGA.out (fun k e => by cases e))) (Chg.of HG5.out (fun k e => ?_))) (Chg.set (.inr (.inl rfl)))
      rw [hsv, hm]
      exact .inr (.inr e))
    have HV := Lib.hid (show vN.ownBlock = sv.ownBlock ∨ ∀ k, vN.ownBlock = some k → w.heap.size ≤ k from by
      rw [← hvN]
      rcases HPL.out with e | e
      · exact .inl (by rw [hsv]; exact e.symm)
      · refine .inr fun k e2 => ?_
        have e2 : some gA = some k := e2
        injection e2 with e2
        have h1 := HCD.out.size
        omega)
    rw [hvN, hw6]
    clear hvN hw6 hS6 HP5 HI5 HB5 kz kk kzf HO5 HG5 HPL HOWN HNW HONE HA HGA HSA HPA HIA HBA XD HCD k0 k1 k3 kf
    refine (X6.out.move (q + 1) rfl (by omega)).mono ?_
    rintro e w7 ⟨rfl, hx, hch⟩
    have X7 := Lib.hid hx
    have H7 := Lib.hid (nX_trans7 H6.out hch HV.out)
    clear hx hch
    have k0 := X7.out.lex.hp.c0
    go_wp2_with fail
    refine (X7.out.shift (k := 1) rfl (by omega) (by omega) (by omega)).mono ?_
    rintro e w8 ⟨rfl, hx, hch⟩
    have X8 := Lib.hid hx
    have H8 := Lib.hid (nX_trans7 H7.out hch HV.out)
    clear hx hch
    go_wp2_with fail
    go_ret2
    exact ⟨rfl, vN, X8.out, H8.out, HV.out⟩

end Go.Proofs.YthoekplablhgfaaGreatDoor
