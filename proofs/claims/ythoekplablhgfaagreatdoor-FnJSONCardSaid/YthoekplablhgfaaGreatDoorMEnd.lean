/-
  The contracts of the inputs errors, and of the parsers Next at the end and at names.
-/
import Derived.Test.YthoekplablhgfaaGreatDoorJNextA
import Derived.Test.YthoekplablhgfaaGreatDoorJNextC

/- JErr -/
namespace Go.Proofs.YthoekplablhgfaaGreatDoor
open Go.RowKit
set_option linter.unusedVariables false

/-- io.EOF is what it is laid as. -/
def Eof (w : World) (a : Addr) : Prop := w.cell? ⟨0, 0, none⟩ = some (.iface 182 (.pointer (some a)))

set_option maxRecDepth 100000 in
theorem PeekErr_at (z h n cap pos st : Nat) (rf : Value) (a : Addr) (w : World) (hi : Inp w z h n cap pos st rf) (hn : pos + 1 = n) (hs : n ≤ 1000000) (hE : Eof w a) :
    Calls Tryz.prog 72 #[.pointer (some ⟨z, 0, none⟩), .int .i64 0] w fun e w' => e = .returned (.iface 182 (.pointer (some a))) ∧ ∃ k, w' = w.drewN k := by
  have k0 := hi.c0
  have k1 := hi.c1
  have k3 := hi.c3
  unfold Eof at hE
  have e1 : ((n : Nat) : Int) - 1 = ((pos : Nat) : Int) := by omega
  have e2 : IntKind.i64.wrap (((n : Nat) : Int) - 1) = ((pos : Nat) : Int) := by rw [IntWalk.i64_in _ (by omega)]; omega
  clear hi
  go_enter Tryz.func72, Tryz.ntmps72
  go_wp2_with fail
  go_quiet (fail)
  go_wp2_with fail
  go_ret
  exact ⟨rfl, _, rfl⟩

set_option maxRecDepth 100000 in
theorem Err_at (z h n cap pos st : Nat) (rf : Value) (a : Addr) (w : World) (hi : Inp w z h n cap pos st rf) (hn : pos + 1 = n) (hs : n ≤ 1000000) (hE : Eof w a) :
    Calls Tryz.prog 60 #[.pointer (some ⟨z, 0, none⟩)] w fun e w' => e = .returned (.iface 182 (.pointer (some a))) ∧ ∃ k, w' = w.drewN k := by
  go_enter Tryz.func60, Tryz.ntmps60
  go_wp2_with fail
  refine (PeekErr_at z h n cap pos st rf a w hi hn hs hE).mono ?_
  rintro e w1 ⟨rfl, k, rfl⟩
  go_wp2_with fail
  go_ret
  exact ⟨rfl, k, rfl⟩

set_option maxRecDepth 100000 in
theorem ParErr_at (p z h n cap pos st : Nat) (rf sv : Value) (nc : Bool) (a : Addr) (w : World) (hp : Par w p z sv nc) (hi : Inp w z h n cap pos st rf) (hn : pos + 1 = n) (hs : n ≤ 1000000) (hE : Eof w a) :
    Calls Tryz.prog 37 #[.pointer (some ⟨p, 0, none⟩)] w fun e w' => e = .returned (.iface 182 (.pointer (some a))) ∧ ∃ k, w' = w.drewN k := by
  have k0 := hp.c0
  have k2 := hp.c2
  clear hp
  go_enter Tryz.func37, Tryz.ntmps37
  go_wp2_with fail
  refine (Err_at z h n cap pos st rf a w hi hn hs hE).mono ?_
  rintro e w1 ⟨rfl, k, rfl⟩
  go_wp2_with fail
  go_ret
  exact ⟨rfl, k, rfl⟩

end Go.Proofs.YthoekplablhgfaaGreatDoor

/- JNextD -/
namespace Go.Proofs.YthoekplablhgfaaGreatDoor
open Go.RowKit
set_option linter.unusedVariables false

theorem Eof.keep {w w' : World} {a : Addr} (h : Eof w a) (hk : w'.heap[0]? = w.heap[0]?) : Eof w' a := by
  unfold Eof at h ⊢
  simpa [World.cell?, hk] using h

set_option maxRecDepth 100000 in
set_option maxHeartbeats 6400000 in
theorem next_eof (p z h n cap pos st : Nat) (rf sv : Value) (nc nc' : Bool) (xs : List Int) (tail : List Value) (S : List Int) (top : Int) (pre l : List Int) (w : World) (x : PS w p z h n cap pos st rf sv nc xs tail (S ++ [top])) (hhp : h ≠ p) (hS : S.length ≤ 1000) (hcap : n ≤ 1000000) (hnc : n ≤ cap) (htop : 0 ≤ top ∧ top ≤ 3) (hpre : PreOk nc top pre nc') (hl : LiesL xs pos (pre ++ 0 :: l)) (a : Addr) (htp : top = 0) (hnc' : nc' = true) (hqe : pos + pre.length + 1 = n) (hE : Eof w a) (hE0 : 0 < w.heap.size ∧ ¬ nX p z sv 0) :
    Calls Tryz.prog 36 #[.pointer (some ⟨p, 0, none⟩)] w (fun e w' => e = .returned (.tuple #[.int .u32 0, .slice none 0 0]) ∧ ∃ sv', PS w' p z h n cap (pos + pre.length) (pos + pre.length) rf sv' true xs tail (S ++ [0]) ∧ Chg w w' (nX p z sv) ∧ (sv'.ownBlock = sv.ownBlock ∨ ∀ k, sv'.ownBlock = some k → w.heap.size ≤ k)) := by
  have hc44 : (0 : Int) ≠ 44 := by decide
  have hcw : ¬ wsb 0 := by decide
  have HTP := Lib.hid htp
  have HE0 := Lib.hid hE0
  have HNC := Lib.hid hnc'
  clear htp hE0 hnc'
  obtain ⟨w1, l1, c1, hw1, hl1, hc1w, hcs⟩ := pre_parts hpre hl hc44 hcw
  obtain ⟨q, hq⟩ : ∃ q, pos + pre.length = q := ⟨_, rfl⟩
  have hlq := hl.drop
  rw [hq] at hlq hcs ⊢
  obtain ⟨q1, hq1⟩ : ∃ q1, pos + w1.length = q1 := ⟨_, rfl⟩
  rw [hq1] at hcs
  have hb1 := hl1.drop.head
  rw [hq1] at hb1
  have hbq := hlq.head
  have hN := x.lex.hn
  have hN2 := x.lex.hs
  obtain ⟨ht0, ht3⟩ := htop
  have X := Lib.hid x
  have HW1 := Lib.hid hw1
  have HL1 := Lib.hid hl1
  have HC1 := Lib.hid hc1w
  have HCS := Lib.hid hcs
  have HLQ := Lib.hid hlq
  have HB1 := Lib.hid hb1.2
  have HBQ := Lib.hid hbq.2
  have hq1n : q1 < n := by rw [← hN]; exact hb1.1
  have hqn : q < n := by rw [← hN]; exact hbq.1
  clear x hw1 hl1 hc1w hcs hlq hb1 hbq hl hpre
  go_enter Tryz.func36, Tryz.ntmps36
  go_wp2_with fail
  refine (X.out.white w1 l1 c1 HW1.out HL1.out HC1.out q1 hq1).mono ?_
  rintro e wa ⟨rfl, hx, hch⟩
  have XA := Lib.hid hx
  have HCH := Lib.hid hch
  have k0 := hx.lex.hp.c0
  clear hx hch
  go_wp2_with fail
  refine (XA.out.lex.peek 0 c1 ⟨by rw [XA.out.lex.hn]; exact hq1n, HB1.out⟩ (by omega)).mono ?_
  rintro e wb ⟨rfl, rfl⟩
  obtain ⟨g, cs, hsv, hcell, hfz, hk1, hk2, hk3⟩ := XA.out.stk.top
  have k1 := XA.out.lex.hp.c1
  rw [hsv] at k1
  obtain ⟨m, hm⟩ : ∃ m, S.length = m := ⟨_, rfl⟩
  rw [hm] at hcell k1 hS
  go_wp2_with fail
  have i2 : IntKind.i64.wrap (((m : Nat) : Int) + 1 - 1) = ((m : Nat) : Int) := by rw [IntWalk.i64_in _ (by omega)]; omega
  have i3 : ((m : Nat) : Int) + 1 - 1 = ((m : Nat) : Int) := by omega
  have i4 : ((m : Nat) : Int) < ((m : Nat) : Int) + 1 := by omega
  go_quiet (fail)
  have XB := Lib.hid (XA.out.drewN nq)
  have HCB := Lib.hid (HCH.out.drewN nq)
  clear i2 i3 i4 k0 k1 hcell hfz XA HCH
  obtain ⟨wx, hwx⟩ : ∃ W, wa.drewN nq = W := ⟨_, rfl⟩
  rw [hwx] at XB HCB ⊢
  clear hwx
  have k0 := XB.out.lex.hp.c0
  have k3 := XB.out.lex.hp.fz 3
  go_upto_if 29 with (fail)
  go_cut [4] from 9 to 59 (fun v4 wd => v4 = .int .u8 0 ∧ RowKit.Hid (PS wd p z h n cap q st rf sv nc' xs tail (S ++ [top])) ∧ RowKit.Hid (Chg w wd (nX p z sv)))
  case first =>
    rcases HCS.out with ⟨h44, hcc, rfl, rfl⟩ | ⟨rfl, htop, rfl, w2, hw2, hl2, hq2⟩
    · replace hcc := hcc.symm
      subst hcc
      have f44 : ((0 : Int) == 44) = false := beq_eq_false_iff_ne.2 hc44
      go_wp2_with fail
      go_meet
      case rel => exact ⟨rfl, XB, HCB⟩
    · exact absurd HNC.out (by simp)
  case rest =>
    clear XB HCB k0 k3 HCS HB1 HL1 HC1 HW1 X
    obtain ⟨rfl, XC, HCC⟩ := hcut
    have k0 := XC.out.lex.hp.c0
    go_wp2_with fail
    refine (XC.out.skip).mono ?_
    rintro e wg ⟨rfl, hx, hch⟩
    have XD := Lib.hid hx
    have HCD := Lib.hid (nX_trans HCC.out hch)
    clear hx hch XC HCC k0
    have k0 := XD.out.lex.hp.c0
    have k3 := XD.out.lex.hp.c3
    have kf := XD.out.lex.hp.fz 3
    have htp := HTP.out
    have hnc' := HNC.out
    subst htp
    subst hnc'
    have X2 := Lib.hid (XD.out.comma true hhp)
    have H2 := Lib.hid (nX_trans HCD.out (Chg.set (X := nX p z sv) (b := p) (o := 3) (v := .bool true) (.inr (.inl rfl))))
    obtain ⟨w2, hw2⟩ : ∃ W, wg.setCell ⟨p, 3, none⟩ (.bool true) = W := ⟨_, rfl⟩
    rw [hw2] at X2 H2
    have k02 := X2.out.lex.hp.c0
    go_wp2_with fail
    refine (num_no p z h n cap q q 0 0 rf sv true xs tail w2 X2.out.lex rfl HLQ.out.head (by omega)).mono ?_
    rintro e w6 ⟨rfl, hlx, hg6⟩
    have htk := X2.out.took hlx hg6
    have X6 := Lib.hid htk.1
    have H6 := Lib.hid (nX_trans H2.out htk.2)
    clear htk hlx hg6
    go_wp2_with fail
    refine (lit_none p z h n cap q q rf sv true xs tail w6 X6.out.lex HLQ.out.head).mono ?_
    rintro e w7 ⟨rfl, rfl⟩
    have k06 := X6.out.lex.hp.c0
    go_wp2_with fail
    refine (X6.out.lex.peek 0 0 HLQ.out.head (by omega)).mono ?_
    rintro e w7 ⟨rfl, rfl⟩
    have hE6 : Eof w6 a := hE.keep (H6.out.block 0 HE0.out.1 HE0.out.2)
    go_wp2_with fail
    refine (Err_at z h n cap q q rf a w6 X6.out.lex.hi (by omega) (by omega) hE6).mono ?_
    rintro e w7 ⟨rfl, k, rfl⟩
    have X7 := Lib.hid (X6.out.drewN k)
    have H7 := Lib.hid (H6.out.drewN k)
    go_wp2_with fail
    go_ret2
    exact ⟨rfl, sv, X7.out, H7.out, .inl rfl⟩

set_option maxRecDepth 100000 in
set_option maxHeartbeats 6400000 in
theorem next_key (p z h n cap pos st : Nat) (rf sv : Value) (nc nc' : Bool) (xs : List Int) (tail : List Value) (S : List Int) (top : Int) (pre l : List Int) (w : World) (x : PS w p z h n cap pos st rf sv nc xs tail (S ++ [top])) (hhp : h ≠ p) (hS : S.length ≤ 1000) (hcap : n ≤ 1000000) (hnc : n ≤ cap) (htop : 0 ≤ top ∧ top ≤ 3) (hpre : PreOk nc top pre nc') (hl : LiesL xs pos (pre ++ 34 :: l)) (us : List JU) (wk rr : List Int) (tl : Nat) (hu : ∀ u ∈ us, u.ok) (hwk : JWs wk) (hle : l = flat us ++ 34 :: (wk ++ 58 :: rr)) (hSL : (flat us).length.succ.succ = tl) (htp : top = 1) (hnc' : nc' = false) :
    Calls Tryz.prog 36 #[.pointer (some ⟨p, 0, none⟩)] w (NextPost 4 (pos + pre.length) tl (tl + wk.length + 1) p z h n cap (pos + pre.length + tl + wk.length + 1) rf sv false xs tail (S ++ [2]) w) := by
  have hc44 : (34 : Int) ≠ 44 := by decide
  have hcw : ¬ wsb 34 := by decide
  have HTP := Lib.hid htp
  have HLE := Lib.hid hle
  have HUO := Lib.hid hu
  have HWK := Lib.hid hwk
  clear htp hle hu hwk
  obtain ⟨w1, l1, c1, hw1, hl1, hc1w, hcs⟩ := pre_parts hpre hl hc44 hcw
  obtain ⟨q, hq⟩ : ∃ q, pos + pre.length = q := ⟨_, rfl⟩
  have hlq := hl.drop
  rw [hq] at hlq hcs ⊢
  obtain ⟨q1, hq1⟩ : ∃ q1, pos + w1.length = q1 := ⟨_, rfl⟩
  rw [hq1] at hcs
  have hb1 := hl1.drop.head
  rw [hq1] at hb1
  have hbq := hlq.head
  have hN := x.lex.hn
  have hN2 := x.lex.hs
  obtain ⟨ht0, ht3⟩ := htop
  have X := Lib.hid x
  have HW1 := Lib.hid hw1
  have HL1 := Lib.hid hl1
  have HC1 := Lib.hid hc1w
  have HCS := Lib.hid hcs
  have HLQ := Lib.hid hlq
  have HB1 := Lib.hid hb1.2
  have HBQ := Lib.hid hbq.2
  have hq1n : q1 < n := by rw [← hN]; exact hb1.1
  have hqn : q < n := by rw [← hN]; exact hbq.1
  clear x hw1 hl1 hc1w hcs hlq hb1 hbq hl hpre
  go_enter Tryz.func36, Tryz.ntmps36
  go_wp2_with fail
  refine (X.out.white w1 l1 c1 HW1.out HL1.out HC1.out q1 hq1).mono ?_
  rintro e wa ⟨rfl, hx, hch⟩
  have XA := Lib.hid hx
  have HCH := Lib.hid hch
  have k0 := hx.lex.hp.c0
  clear hx hch
  go_wp2_with fail
  refine (XA.out.lex.peek 0 c1 ⟨by rw [XA.out.lex.hn]; exact hq1n, HB1.out⟩ (by omega)).mono ?_
  rintro e wb ⟨rfl, rfl⟩
  obtain ⟨g, cs, hsv, hcell, hfz, hk1, hk2, hk3⟩ := XA.out.stk.top
  have k1 := XA.out.lex.hp.c1
  rw [hsv] at k1
  obtain ⟨m, hm⟩ : ∃ m, S.length = m := ⟨_, rfl⟩
  rw [hm] at hcell k1 hS
  go_wp2_with fail
  have i2 : IntKind.i64.wrap (((m : Nat) : Int) + 1 - 1) = ((m : Nat) : Int) := by rw [IntWalk.i64_in _ (by omega)]; omega
  have i3 : ((m : Nat) : Int) + 1 - 1 = ((m : Nat) : Int) := by omega
  have i4 : ((m : Nat) : Int) < ((m : Nat) : Int) + 1 := by omega
  go_quiet (fail)
  have XB := Lib.hid (XA.out.drewN nq)
  have HCB := Lib.hid (HCH.out.drewN nq)
  clear i2 i3 i4 k0 k1 hcell hfz XA HCH
  obtain ⟨wx, hwx⟩ : ∃ W, wa.drewN nq = W := ⟨_, rfl⟩
  rw [hwx] at XB HCB ⊢
  clear hwx
  have k0 := XB.out.lex.hp.c0
  have k3 := XB.out.lex.hp.fz 3
  go_upto_if 29 with (fail)
  go_cut [4] from 9 to 59 (fun v4 wd => v4 = .int .u8 34 ∧ RowKit.Hid (PS wd p z h n cap q st rf sv nc' xs tail (S ++ [top])) ∧ RowKit.Hid (Chg w wd (nX p z sv)))
  case first =>
    rcases HCS.out with ⟨h44, hcc, rfl, rfl⟩ | ⟨rfl, htop, rfl, w2, hw2, hl2, hq2⟩
    · replace hcc := hcc.symm
      subst hcc
      have f44 : ((34 : Int) == 44) = false := beq_eq_false_iff_ne.2 hc44
      go_wp2_with fail
      go_meet
      case rel => exact ⟨rfl, XB, HCB⟩
    · have HW2 := Lib.hid hw2
      have HL2 := Lib.hid hl2
      clear hw2 hl2
      go_upto_region 5 with (fail)
      go_cut [35] from 30 to 34 (fun v35 wd => v35 = .bool false ∧ wd = wx)
      case first =>
        rcases htop with rfl | rfl
        · go_wp2_with fail
          go_meet
          case rel => exact ⟨rfl, rfl⟩
        · go_wp2_with fail
          go_meet
          case rel => exact ⟨rfl, rfl⟩
      case rest =>
        obtain ⟨rfl, rfl⟩ := hcut
        go_wp2_with fail
        refine (XB.out.move (q1 + 1) rfl (by omega)).mono ?_
        rintro e we ⟨rfl, hx, hch⟩
        have XE := Lib.hid hx
        have HCE := Lib.hid (nX_trans HCB.out hch)
        clear hx hch
        go_wp2_with fail
        refine (XE.out.white w2 l 34 HW2.out HL2.out hcw q hq2).mono ?_
        rintro e wf ⟨rfl, hx, hch⟩
        have XF := Lib.hid hx
        have HCF := Lib.hid (nX_trans HCE.out hch)
        clear hx hch
        have k0 := XF.out.lex.hp.c0
        have k3 := XF.out.lex.hp.c3
        have kf := XF.out.lex.hp.fz 3
        have hx2 := XF.out.comma false hhp
        have XG := Lib.hid hx2
        have HCG := Lib.hid (nX_trans HCF.out (Chg.set (X := nX p z sv) (b := p) (o := 3) (v := .bool false) (.inr (.inl rfl))))
        clear hx2
        go_wp2_with fail
        refine (XG.out.lex.peek 0 34 ⟨by rw [hN]; exact hqn, HBQ.out⟩ (by omega)).mono ?_
        rintro e wb ⟨rfl, rfl⟩
        go_wp2_with fail
        go_meet
        case rel => exact ⟨rfl, XG, HCG⟩
  case rest =>
    clear XB HCB k0 k3 HCS HB1 HL1 HC1 HW1 X
    obtain ⟨rfl, XC, HCC⟩ := hcut
    have k0 := XC.out.lex.hp.c0
    go_wp2_with fail
    refine (XC.out.skip).mono ?_
    rintro e wg ⟨rfl, hx, hch⟩
    have XD := Lib.hid hx
    have HCD := Lib.hid (nX_trans HCC.out hch)
    clear hx hch XC HCC k0
    have k0 := XD.out.lex.hp.c0
    have k3 := XD.out.lex.hp.c3
    have kf := XD.out.lex.hp.fz 3
    subst hnc'
    have htp := HTP.out
    subst htp
    have X2 := Lib.hid XD.out
    have k02 := X2.out.lex.hp.c0
    go_wp2_with fail
    refine (str_tok p z h n cap q rf sv false xs (wk ++ 58 :: rr) us tail wg X2.out.lex HUO.out (by rw [← HLE.out]; exact HLQ.out) hcap hnc (by simp)).mono ?_
    rintro e w6 ⟨rfl, hlx, hg6⟩
    have htk := X2.out.took hlx hg6
    rw [hSL] at htk
    have X6 := Lib.hid htk.1
    have H6 := Lib.hid (nX_trans HCD.out htk.2)
    clear htk hlx hg6
    have hl6 : LiesL xs (q + tl) (wk ++ 58 :: rr) := by
      have h0 := HLQ.out
      rw [HLE.out] at h0
      have h1 := h0.tail.drop.tail
      rw [show q + 1 + (flat us).length + 1 = q + tl from by omega] at h1
      exact h1
    have hb9 := hl6.drop.head
    have hb10 := hb9.1
    have HL6 := Lib.hid hl6
    have HB9 := Lib.hid hb9
    clear hl6 hb9
    have k06 := X6.out.lex.hp.c0
    go_wp2_with fail
    refine (Pos_at z h n cap (q + tl) q tl rf w6 X6.out.lex.hi rfl (by omega)).mono ?_
    rintro e w7 ⟨rfl, hg7⟩
    have X7 := Lib.hid (X6.out.to (X6.out.lex.hi.keep (hg7.block z X6.out.lex.hi.lt (by simp))) (grownBy_none' hg7))
    have H7 := Lib.hid (nX_trans H6.out (Chg.of hg7 (fun k e => by cases e)))
    clear hg7
    go_wp2_with fail
    refine (X7.out.white wk rr 58 HWK.out HL6.out (by decide) (q + tl + wk.length) rfl).mono ?_
    rintro e w8 ⟨rfl, hx, hch⟩
    have X8 := Lib.hid hx
    have H8 := Lib.hid (nX_trans H7.out hch)
    clear hx hch
    have k08 := X8.out.lex.hp.c0
    go_wp2_with fail
    refine (X8.out.lex.peek 0 58 HB9.out (by omega)).mono ?_
    rintro e w9 ⟨rfl, rfl⟩
    go_wp2_with fail
    refine (X8.out.move (q + tl + wk.length + 1) rfl (by omega)).mono ?_
    rintro e w9 ⟨rfl, hx, hch⟩
    have X9 := Lib.hid hx
    have H9 := Lib.hid (nX_trans H8.out hch)
    clear hx hch
    have k12 := X9.out.lex.hp.c1
    have k09 := X9.out.lex.hp.c0
    obtain ⟨g3, cs3, hsv3, hc5, hf5, _, _, _⟩ := X9.out.stk.top
    rw [hm] at hc5 hf5
    rw [hsv3, hm] at k12
    have j2 : IntKind.i64.wrap (((m : Nat) : Int) + 1 - 1) = ((m : Nat) : Int) := by rw [IntWalk.i64_in _ (by omega)]; omega
    have j3 : ((m : Nat) : Int) + 1 - 1 = ((m : Nat) : Int) := by omega
    have j4 : ((m : Nat) : Int) < ((m : Nat) : Int) + 1 := by omega
    have HS3 := Lib.hid hsv3
    clear hsv3
    go_wp2_with fail
    go_region
    clear j2 j3 j4 k12 hc5 hf5
    obtain ⟨wA, hwA⟩ : ∃ W, (w9.setCell ⟨g3, m, none⟩ (.int .u32 2)).drew = W := ⟨_, rfl⟩
    have XA2 := Lib.hid (show PS wA p z h n cap (q + tl + wk.length + 1) q rf sv false xs tail (S ++ [2]) from by rw [← hwA]; exact X9.out.retop 2 HS3.out hm)
    have HA2 := Lib.hid (show Chg w wA (nX p z sv) from by rw [← hwA]; exact Chg.drew (nX_trans H9.out (Chg.set (.inr (.inr (by rw [HS3.out]; rfl))))))
    rw [hwA]
    clear hwA
    have k0A := XA2.out.lex.hp.c0
    obtain ⟨tk, htk⟩ : ∃ t, tl + wk.length + 1 = t := ⟨_, rfl⟩
    have hq9 : q + tk = q + tl + wk.length + 1 := by omega
    have i1 : ((tl : Nat) : Int) ≤ ((tk : Nat) : Int) := by omega
    have i2 : ¬ tl = 0 := by omega
    go_wp2_with fail
    go_region_with ((go_at_call 55; refine ((XA2.out.drewN 1).shift (k := tk) hq9 (by omega) (by omega) (by omega)).mono ?_; rintro e wB ⟨rfl, hx, hch⟩; have XB2 := Lib.hid hx; have HB2 := Lib.hid (nX_trans (HA2.out.drewN 1) hch); clear hx hch))
    go_wp2_with fail
    go_ret2
    subst htk
    exact ⟨rfl, sv, XB2.out, HB2.out, .inl rfl⟩

end Go.Proofs.YthoekplablhgfaaGreatDoor
