/-
  The contract of the parser's consumeNumberToken.
-/
import Derived.Test.YthoekplablhgfaaGreatDoorJLit
namespace Go.Proofs.YthoekplablhgfaaGreatDoor
open Go.RowKit
set_option linter.unusedVariables false

theorem lies_of {xs l : List Int} {p : Nat} (hb : ∀ v ∈ xs, byteN v) (h : LiesL xs p l) : LiesAt (strOfNums xs) p l := by
  refine ⟨by rw [str_size]; exact h.1, fun j hj => ?_⟩
  unfold byteAt
  rw [bytesL_str hb]
  exact h.2 j hj
theorem byteAt_str {xs : List Int} (hb : ∀ v ∈ xs, byteN v) (k : Nat) : byteAt (strOfNums xs) k = xs.getD k 0 := by
  unfold byteAt
  rw [bytesL_str hb]
set_option maxRecDepth 100000 in
set_option maxHeartbeats 3200000 in
theorem num_none (p z h n cap pos st k : Nat) (rf sv : Value) (nc : Bool) (xs : List Int) (tail : List Value) (w : World) (x : Lex w p z h n cap pos st rf sv nc xs tail) (hk : st + k = pos) (hl : pos < xs.length ∧ xs.getD pos 0 = 0) :
    Calls Tryz.prog 58 #[.pointer (some ⟨p, 0, none⟩)] w (Taken false 0 p z h n cap pos st rf sv nc xs tail w) := by
  have hp0 := x.hn
  have hs0 := x.hs
  have k0 := x.hp.c0
  have hps : pos < n := by omega
  have X := Lib.hid x
  clear x
  go_enter Tryz.func58, Tryz.ntmps58
  go_wp2_with fail
  refine (Pos_at z h n cap pos st k rf w X.out.hi hk (by omega)).mono ?_
  rintro e w1 ⟨rfl, hg1⟩
  have hx1 := X.out.to (X.out.hi.keep (hg1.block z X.out.hi.lt (by simp))) (grownBy_none' hg1)
  have HG1 := Lib.hid (grownBy_none' (g := z) hg1)
  have P1 := Lib.hid (hx1.peek 0 0 hl (by omega))
  have X1 := Lib.hid hx1
  clear hx1 hg1 k0
  have k0 := X1.out.hp.c0
  go_wp2_with fail
  refine P1.out.mono ?_
  rintro e w2 ⟨rfl, rfl⟩
  go_wp2_with fail
  refine P1.out.mono ?_
  rintro e w2 ⟨rfl, rfl⟩
  go_wp2_with fail
  refine (Rewind_at z h n cap pos st k pos rf w1 X1.out.hi hk (by omega)).mono ?_
  rintro e w2 ⟨rfl, hi2, hg2⟩
  have X2 := Lib.hid (X1.out.to hi2 hg2)
  have HG2 := Lib.hid (grownBy_trans HG1.out hg2)
  clear hi2 hg2
  go_wp2_with fail
  go_ret
  exact ⟨rfl, X2.out, HG2.out⟩

set_option maxRecDepth 100000 in
set_option maxHeartbeats 6400000 in
theorem num_tok (p z h n cap pos st q : Nat) (rf sv : Value) (nc : Bool) (xs : List Int) (tail : List Value) (w : World) (x : Lex w p z h n cap pos st rf sv nc xs tail) (hst : st ≤ pos) (s : ByteArray) (hb : ∀ k, pos ≤ k → byteAt s k = xs.getD k 0) (hn : NumSAt s pos q) (hqn : q < n) :
    Calls Tryz.prog 58 #[.pointer (some ⟨p, 0, none⟩)] w fun e w' => e = .returned (.bool true) ∧ Lex w' p z h n cap q st rf sv nc xs tail ∧ w.grownBy w' (some z) := by
  have hpk : ∀ wq (y : Nat), Lex wq p z h n cap y st rf sv nc xs tail → pos ≤ y ∧ y < n → Calls Tryz.prog 51 #[.pointer (some ⟨z, 0, none⟩), .int .i64 0] wq fun e w' => e = .returned (.int .u8 (byteAt s y)) ∧ wq = w' := fun wq y hx hy => hx.peek 0 _ ⟨by rw [hx.hn]; exact hy.2, by rw [Nat.add_zero]; exact (hb y hy.1).symm⟩ (by omega)
  obtain ⟨sg, ni, a, hsg, hn1, hdi, hnz, hfr, hex, hqs⟩ := hn
  obtain ⟨x1, hx1⟩ : ∃ x, pos + sg + ni = x := ⟨_, rfl⟩
  rw [hx1] at hfr
  have hxa : x1 ≤ a ∧ ¬ isDg (byteAt s x1) := by
    rcases hfr with ⟨rfl, _, h2⟩ | ⟨h1, n, _, _, h4, _⟩
    · exact ⟨Nat.le_refl _, h2⟩
    · exact ⟨by omega, by rw [h1]; unfold isDg; omega⟩
  have haq : a ≤ q := by
    rcases hex with ⟨rfl, _, _⟩ | ⟨_, es, n, _, _, _, _, h4, _⟩
    · exact Nat.le_refl _
    · omega
  obtain ⟨hxa, hxd⟩ := hxa
  obtain ⟨y, hy⟩ : ∃ y, pos + sg = y := ⟨_, rfl⟩
  rw [hy] at hdi hnz hx1
  have hdig := hdi 0 (by omega)
  rw [Nat.add_zero] at hdig
  have hN := x.hs
  have HDI := Lib.hid hdi
  have HFR := Lib.hid hfr
  have HEX := Lib.hid hex
  have HXD := Lib.hid hxd
  have HNZ := Lib.hid hnz
  have HDG := Lib.hid hdig
  have HPK := Lib.hid hpk
  have X := Lib.hid x
  have k0 := x.hp.c0
  obtain ⟨m, hm⟩ : ∃ m, st + m = pos := ⟨pos - st, by omega⟩
  clear hfr hex hxd hdi hnz hdig hpk x hb
  go_enter Tryz.func58, Tryz.ntmps58
  go_wp2_with fail
  refine (Pos_at z h n cap pos st m rf w X.out.hi hm (by omega)).mono ?_
  rintro e w1 ⟨rfl, hg1⟩
  have X1 := Lib.hid (X.out.to (X.out.hi.keep (hg1.block z X.out.hi.lt (by simp))) (grownBy_none' hg1))
  have HG := Lib.hid (grownBy_none' (g := z) hg1)
  clear hg1 k0 X
  have k0 := X1.out.hp.c0
  obtain ⟨c, hc⟩ : ∃ c, byteAt s pos = c := ⟨_, rfl⟩
  have HC := Lib.hid hc
  clear hc
  go_wp2_with fail
  refine (HPK.out w1 pos X1.out (by omega)).mono ?_
  rintro e w2 ⟨rfl, rfl⟩
  rw [HC.out]
  go_upto_if 23 with (fail)
  go_cut [] (fun wc => RowKit.Hid (Lex wc p z h n cap y st rf sv nc xs tail) ∧ RowKit.Hid (w.grownBy wc (some z)))
  case first =>
    as_aux_lemma =>
      rcases hsg with ⟨rfl, hc45⟩ | rfl
      · obtain rfl : c = 45 := by rw [← HC.out]; exact hc45
        go_wp2_with fail
        refine (X1.out.move 1 y (by omega) (by omega) (by omega)).mono ?_
        rintro e w2 ⟨rfl, hx2, hg2⟩
        have HX2 := Lib.hid hx2
        have HG2 := Lib.hid (grownBy_trans HG.out hg2)
        clear hx2 hg2
        go_wp2_with fail
        go_meet
        case rel => exact ⟨HX2, HG2⟩
      · have hcd := HDG.out
        rw [show y = pos from by omega, HC.out] at hcd
        have f1 : (c == 45) = false := by unfold isDg at hcd; simp; omega
        clear hcd
        go_wp2_with fail
        go_meet
        case rel => exact ⟨Lib.hid (by rw [← hy]; exact X1.out), HG⟩
  case rest =>
    clear X1 HG k0
    obtain ⟨HX, HG⟩ := hcut
    have k0 := HX.out.hp.c0
    obtain ⟨f, hf⟩ : ∃ f, byteAt s y = f := ⟨_, rfl⟩
    have HF := Lib.hid hf
    have hfd := HDG.out
    rw [hf] at hfd
    unfold isDg at hfd
    clear hf
    go_wp2_with fail
    refine (HPK.out wc y HX.out (by omega)).mono ?_
    rintro e w2 ⟨rfl, rfl⟩
    rw [HF.out]
    go_upto_region 5 with (fail)
    obtain ⟨fb, hfb⟩ : ∃ fb : Bool, decide (f ≠ 48) = fb := ⟨_, rfl⟩
    go_cut [39] (fun v39 wd => v39 = .bool fb ∧ wd = wc)
    case first =>
      by_cases h48 : f = 48
      · subst h48
        have e1 : fb = false := by rw [← hfb]; decide
        subst e1
        go_wp2_with fail
        go_meet
        case rel => exact ⟨rfl, rfl⟩
      · have e1 : fb = true := by rw [← hfb]; simp [h48]
        have g1 : (49 : Int) ≤ f := by omega
        have g2 : f ≤ 57 := by omega
        subst e1
        go_wp2_with fail
        go_meet
        case rel => exact ⟨rfl, rfl⟩
    case rest =>
      obtain ⟨rfl, rfl⟩ := hcut
      go_upto_if 39 with (fail)
      go_cut [5] (fun _ wd => RowKit.Hid (Lex wd p z h n cap x1 st rf sv nc xs tail) ∧ RowKit.Hid (w.grownBy wd (some z)))
      case first =>
        as_aux_lemma =>
          by_cases h48 : f = 48
          · subst h48
            have e1 : fb = false := by rw [← hfb]; decide
            subst e1
            have hn2 : ni = 1 := HNZ.out.resolve_right (fun h => h HF.out)
            go_wp2_with fail
            refine (HX.out.move 1 x1 (by omega) (by omega) (by omega)).mono ?_
            rintro e w5 ⟨rfl, hx2, hg2⟩
            have HX2 := Lib.hid hx2
            have HG2 := Lib.hid (grownBy_trans HG.out hg2)
            clear hx2 hg2
            go_wp2_with fail
            go_meet
            case rel => exact ⟨HX2, HG2⟩
          · have e1 : fb = true := by rw [← hfb]; simp [h48]
            subst e1
            go_wp2_with fail
            refine (HX.out.move 1 (y + 1) (by omega) (by omega) (by omega)).mono ?_
            rintro e w5 ⟨rfl, hx2, hg2⟩
            have HX2 := Lib.hid hx2
            have HG2 := Lib.hid (grownBy_trans HG.out hg2)
            clear hx2 hg2
            go_wp2_with fail
            go_loopw [5] (fun _ wr => ∃ k : Nat, k ≤ ni ∧ RowKit.Hid (Lex wr p z h n cap (y + k) st rf sv nc xs tail) ∧ RowKit.Hid (w.grownBy wr (some z))) (fun _ wr => y + ni - inAt wr z)
            case atStart => exact ⟨1, by omega, HX2, HG2⟩
            case round =>
              obtain ⟨k, hk, HXr, HGr⟩ := hrel
              have k0 := HXr.out.hp.c0
              go_wp2_with fail
              refine (HPK.out wr (y + k) HXr.out (by omega)).mono ?_
              rintro e w8 ⟨rfl, rfl⟩
              by_cases hlt : k < ni
              · have hd := HDI.out k hlt
                obtain ⟨v, hv⟩ : ∃ v, byteAt s (y + k) = v := ⟨_, rfl⟩
                rw [hv] at hd ⊢
                obtain ⟨hd0, hd1⟩ := hd
                have g0 : ¬ v < 48 := by omega
                have g1 : ¬ 57 < v := by omega
                clear hv
                go_wp2_with fail
                refine (HXr.out.move 1 (y + (k + 1)) (by omega) (by omega) (by omega)).mono ?_
                rintro e w9 ⟨rfl, hx2, hg2⟩
                have HX2 := Lib.hid hx2
                have HG2 := Lib.hid (grownBy_trans HGr.out hg2)
                clear hx2 hg2
                go_wp2_with fail
                go_roundw
                case rel => exact ⟨k + 1, by omega, HX2, HG2⟩
                case measure => rw [HX2.out.hi.inAt, HXr.out.hi.inAt]; omega
              · obtain rfl : k = ni := by omega
                have hd := (show ¬ isDg (byteAt s (y + k)) from by rw [hx1]; exact HXD.out)
                obtain ⟨v, hv⟩ : ∃ v, byteAt s (y + k) = v := ⟨_, rfl⟩
                rw [hv] at hd
                rw [hv]
                unfold isDg at hd
                have hd2 : v < 48 ∨ 57 < v := by omega
                clear hv hd
                rcases hd2 with hd2 | hd2
                · go_wp2_with fail
                  go_meet
                  case rel => exact ⟨Lib.hid (by rw [← hx1]; exact HXr.out), HGr⟩
                · have hd3 : ¬ v < 48 := by omega
                  go_wp2_with fail
                  go_meet
                  case rel => exact ⟨Lib.hid (by rw [← hx1]; exact HXr.out), HGr⟩
      case rest =>
        clear HX HG k0
        obtain ⟨HX, HG⟩ := hcut
        obtain ⟨t, ht⟩ : ∃ t, byteAt s x1 = t := ⟨_, rfl⟩
        have HT := Lib.hid ht
        clear ht
        have k0 := HX.out.hp.c0
        go_wp2_with fail
        refine (HPK.out wc x1 HX.out (by omega)).mono ?_
        rintro e w2 ⟨rfl, rfl⟩
        rw [HT.out]
        go_upto_if 80 with (fail)
        go_cut [7, 8] (fun _ _ wd => RowKit.Hid (Lex wd p z h n cap a st rf sv nc xs tail) ∧ RowKit.Hid (w.grownBy wd (some z)))
        case first =>
          as_aux_lemma =>
            rcases HFR.out with ⟨rfl, h1, h2⟩ | ⟨h1, nd, h2, h3, rfl, h5⟩
            · have f1 : (t == 46) = false := by rw [← HT.out]; simpa using h1
              clear h1 h2
              go_wp2_with fail
              go_meet
              case rel => exact ⟨HX, HG⟩
            · obtain rfl : t = 46 := by rw [← HT.out]; exact h1
              have H3 := Lib.hid h3
              have H5 := Lib.hid h5
              have hf0 := h3 0 (by omega)
              rw [Nat.add_zero] at hf0
              obtain ⟨f2, hf2⟩ : ∃ f2, byteAt s (x1 + 1) = f2 := ⟨_, rfl⟩
              rw [hf2] at hf0
              obtain ⟨hf0, hf1⟩ := hf0
              have HF2 := Lib.hid hf2
              clear h1 h3 h5 hf2
              go_wp2_with fail
              refine (HX.out.move 1 (x1 + 1) (by omega) (by omega) (by omega)).mono ?_
              rintro e w5 ⟨rfl, hx2, hg2⟩
              have HX2 := Lib.hid hx2
              have HG2 := Lib.hid (grownBy_trans HG.out hg2)
              clear hx2 hg2 k0
              have k0 := HX2.out.hp.c0
              go_wp2_with fail
              refine (HPK.out w5 (x1 + 1) HX2.out (by omega)).mono ?_
              rintro e w6 ⟨rfl, rfl⟩
              rw [HF2.out]
              have g0 : ¬ f2 < 48 := by omega
              have g1 : ¬ 57 < f2 := by omega
              go_wp2_with fail
              go_loopw [8] (fun _ wr => ∃ k : Nat, k ≤ nd ∧ RowKit.Hid (Lex wr p z h n cap ((x1 + 1) + k) st rf sv nc xs tail) ∧ RowKit.Hid (w.grownBy wr (some z))) (fun _ wr => (x1 + 1) + nd - inAt wr z)
              case atStart => exact ⟨0, by omega, HX2, HG2⟩
              case round =>
                obtain ⟨k, hk, HXr, HGr⟩ := hrel
                have k0 := HXr.out.hp.c0
                go_wp2_with fail
                refine (HPK.out wr ((x1 + 1) + k) HXr.out (by omega)).mono ?_
                rintro e w8 ⟨rfl, rfl⟩
                by_cases hlt : k < nd
                · have hd := H3.out k hlt
                  obtain ⟨v, hv⟩ : ∃ v, byteAt s ((x1 + 1) + k) = v := ⟨_, rfl⟩
                  rw [hv] at hd ⊢
                  obtain ⟨hd0, hd1⟩ := hd
                  have g0 : ¬ v < 48 := by omega
                  have g1 : ¬ 57 < v := by omega
                  clear hv
                  go_wp2_with fail
                  refine (HXr.out.move 1 ((x1 + 1) + (k + 1)) (by omega) (by omega) (by omega)).mono ?_
                  rintro e w9 ⟨rfl, hx2, hg2⟩
                  have HX2 := Lib.hid hx2
                  have HG2 := Lib.hid (grownBy_trans HGr.out hg2)
                  clear hx2 hg2
                  go_wp2_with fail
                  go_roundw
                  case rel => exact ⟨k + 1, by omega, HX2, HG2⟩
                  case measure => rw [HX2.out.hi.inAt, HXr.out.hi.inAt]; omega
                · obtain rfl : k = nd := by omega
                  have hd := H5.out
                  obtain ⟨v, hv⟩ : ∃ v, byteAt s (x1 + 1 + k) = v := ⟨_, rfl⟩
                  rw [hv] at hd
                  rw [hv]
                  unfold isDg at hd
                  have hd2 : v < 48 ∨ 57 < v := by omega
                  clear hv hd
                  rcases hd2 with hd2 | hd2
                  · go_wp2_with fail
                    go_meet
                    case rel => exact ⟨HXr, HGr⟩
                  · have hd3 : ¬ v < 48 := by omega
                    go_wp2_with fail
                    go_meet
                    case rel => exact ⟨HXr, HGr⟩
        case rest =>
          clear HX HG k0
          obtain ⟨HX, HG⟩ := hcut
          obtain ⟨m2, hm2⟩ : ∃ m2, st + m2 = a := ⟨a - st, by omega⟩
          have k0 := HX.out.hp.c0
          go_wp2_with fail
          refine (Pos_at z h n cap a st m2 rf wc HX.out.hi hm2 (by omega)).mono ?_
          rintro e w6 ⟨rfl, hg1⟩
          have HX6 := Lib.hid (HX.out.to (HX.out.hi.keep (hg1.block z HX.out.hi.lt (by simp))) (grownBy_none' hg1))
          have HG6 := Lib.hid (grownBy_trans HG.out (grownBy_none' (g := z) hg1))
          clear hg1 HX HG k0
          have k0 := HX6.out.hp.c0
          obtain ⟨t2, ht⟩ : ∃ t, byteAt s a = t := ⟨_, rfl⟩
          have HT2 := Lib.hid ht
          clear ht
          go_wp2_with fail
          refine (HPK.out w6 a HX6.out (by omega)).mono ?_
          rintro e w7 ⟨rfl, rfl⟩
          rw [HT2.out]
          obtain ⟨eb, heb⟩ : ∃ eb : Bool, decide (t2 = 101 ∨ t2 = 69) = eb := ⟨_, rfl⟩
          have HEB := Lib.hid heb
          clear heb
          go_upto_region 26 with (fail)
          go_cut [133] (fun v133 wd => v133 = .bool eb ∧ wd = w6)
          case first =>
            as_aux_lemma =>
              by_cases h1 : t2 = 101
              · subst h1
                have e1 : eb = true := by rw [← HEB.out]; decide
                subst e1
                go_wp2_with fail
                go_meet
                case rel => exact ⟨rfl, rfl⟩
              · have f1 : (t2 == 101) = false := by simpa using h1
                by_cases h2 : t2 = 69
                · subst h2
                  have e1 : eb = true := by rw [← HEB.out]; decide
                  subst e1
                  go_wp2_with fail
                  go_meet
                  case rel => exact ⟨rfl, rfl⟩
                · have f2 : (t2 == 69) = false := by simpa using h2
                  have e1 : eb = false := by rw [← HEB.out]; simp [h1, h2]
                  subst e1
                  go_wp2_with fail
                  go_meet
                  case rel => exact ⟨rfl, rfl⟩
          case rest =>
            obtain ⟨rfl, rfl⟩ := hcut
            rcases HEX.out with ⟨rfl, h1, h2⟩ | ⟨h1, es, nd, h2, hn1, hn6, h3, rfl, h5⟩
            ·
              as_aux_lemma =>
                have e1 : eb = false := by rw [← HEB.out]; rw [HT2.out] at h1 h2; simp [h1, h2]
                subst e1
                clear h1 h2
                go_wp2_with fail
                go_ret
                exact ⟨rfl, HX6.out, HG6.out⟩
            ·
              as_aux_lemma =>
                have e1 : eb = true := by rw [← HEB.out]; rw [HT2.out] at h1; simp [h1]
                subst e1
                have H3 := Lib.hid h3
                have H5 := Lib.hid h5
                have hf0 := h3 0 (by omega)
                rw [Nat.add_zero] at hf0
                obtain ⟨f2, hf2⟩ : ∃ f2, byteAt s (a + 1 + es) = f2 := ⟨_, rfl⟩
                rw [hf2] at hf0
                obtain ⟨hf0, hf1⟩ := hf0
                have HF2 := Lib.hid hf2
                obtain ⟨t3, ht⟩ : ∃ t, byteAt s (a + 1) = t := ⟨_, rfl⟩
                rw [ht] at h2
                have HT3 := Lib.hid ht
                have H2 := Lib.hid h2
                have hes : es ≤ 1 := by rcases h2 with ⟨h, _⟩ | ⟨h, _⟩ <;> omega
                obtain ⟨y2, hy2⟩ : ∃ y2, a + 1 + es = y2 := ⟨_, rfl⟩
                have HY2 := Lib.hid hy2
                clear h1 h3 h5 ht h2 hf2
                go_wp2_with fail
                refine (HX6.out.move 1 (a + 1) (by omega) (by omega) (by omega)).mono ?_
                rintro e w8 ⟨rfl, hx2, hg2⟩
                have HX2 := Lib.hid hx2
                have HG2 := Lib.hid (grownBy_trans HG6.out hg2)
                clear hx2 hg2 k0
                have k0 := HX2.out.hp.c0
                obtain ⟨sb, hsb⟩ : ∃ sb : Bool, decide (t3 = 43 ∨ t3 = 45) = sb := ⟨_, rfl⟩
                have HSB := Lib.hid hsb
                clear hsb
                go_wp2_with fail
                refine (HPK.out w8 (a + 1) HX2.out (by omega)).mono ?_
                rintro e w9 ⟨rfl, rfl⟩
                rw [HT3.out]
                go_upto_region 29 with (fail)
                go_cut [149] (fun v149 wd => v149 = .bool sb ∧ wd = w8)
                case first =>
                  by_cases h1 : t3 = 43
                  · subst h1
                    have e1 : sb = true := by rw [← HSB.out]; decide
                    subst e1
                    go_wp2_with fail
                    go_meet
                    case rel => exact ⟨rfl, rfl⟩
                  · have f1 : (t3 == 43) = false := by simpa using h1
                    by_cases h2 : t3 = 45
                    · subst h2
                      have e1 : sb = true := by rw [← HSB.out]; decide
                      subst e1
                      go_wp2_with fail
                      go_meet
                      case rel => exact ⟨rfl, rfl⟩
                    · have f2 : (t3 == 45) = false := by simpa using h2
                      have e1 : sb = false := by rw [← HSB.out]; simp [h1, h2]
                      subst e1
                      go_wp2_with fail
                      go_meet
                      case rel => exact ⟨rfl, rfl⟩
                case rest =>
                  obtain ⟨rfl, rfl⟩ := hcut
                  go_upto_if 149 with (fail)
                  go_cut [] (fun wd => RowKit.Hid (Lex wd p z h n cap y2 st rf sv nc xs tail) ∧ RowKit.Hid (w.grownBy wd (some z)))
                  case first =>
                    rcases H2.out with ⟨rfl, h1⟩ | ⟨rfl, h1, h2⟩
                    · have e1 : sb = true := by rw [← HSB.out]; simp [h1]
                      subst e1
                      go_wp2_with fail
                      refine (HX2.out.move 1 y2 (by omega) (by omega) (by omega)).mono ?_
                      rintro e w9 ⟨rfl, hx2, hg2⟩
                      have HX3 := Lib.hid hx2
                      have HG3 := Lib.hid (grownBy_trans HG2.out hg2)
                      clear hx2 hg2
                      go_wp2_with fail
                      go_meet
                      case rel => exact ⟨HX3, HG3⟩
                    · have e1 : sb = false := by rw [← HSB.out]; simp [h1, h2]
                      subst e1
                      go_wp2_with fail
                      go_meet
                      case rel => exact ⟨Lib.hid (by rw [← hy2]; exact HX2.out), HG2⟩
                  case rest =>
                    clear HX2 HG2 k0
                    obtain ⟨HX2, HG2⟩ := hcut
                    have k0 := HX2.out.hp.c0
                    rw [hy2] at H3 H5 hqn HF2
                    have g0 : ¬ f2 < 48 := by omega
                    have g1 : ¬ 57 < f2 := by omega
                    clear hy2
                    go_wp2_with fail
                    refine (HPK.out wc y2 HX2.out (by have := HY2.out; omega)).mono ?_
                    rintro e w9 ⟨rfl, rfl⟩
                    rw [HF2.out]
                    go_wp2_with fail
                    go_loopw [12] (fun _ wr => ∃ k : Nat, k ≤ nd ∧ RowKit.Hid (Lex wr p z h n cap (y2 + k) st rf sv nc xs tail) ∧ RowKit.Hid (w.grownBy wr (some z))) (fun _ wr => y2 + nd - inAt wr z)
                    case atStart => exact ⟨0, by omega, HX2, HG2⟩
                    case round =>
                      obtain ⟨k, hk, HXr, HGr⟩ := hrel
                      have k0 := HXr.out.hp.c0
                      go_wp2_with fail
                      refine (HPK.out wr (y2 + k) HXr.out (by have := HY2.out; omega)).mono ?_
                      rintro e w8 ⟨rfl, rfl⟩
                      by_cases hlt : k < nd
                      · have hd := H3.out k hlt
                        obtain ⟨v, hv⟩ : ∃ v, byteAt s (y2 + k) = v := ⟨_, rfl⟩
                        rw [hv] at hd ⊢
                        obtain ⟨hd0, hd1⟩ := hd
                        have g0 : ¬ v < 48 := by omega
                        have g1 : ¬ 57 < v := by omega
                        clear hv
                        go_wp2_with fail
                        refine (HXr.out.move 1 (y2 + (k + 1)) (by omega) (by omega) (by omega)).mono ?_
                        rintro e w9 ⟨rfl, hx2, hg2⟩
                        have HX2 := Lib.hid hx2
                        have HG2 := Lib.hid (grownBy_trans HGr.out hg2)
                        clear hx2 hg2
                        go_wp2_with fail
                        go_roundw
                        case rel => exact ⟨k + 1, by omega, HX2, HG2⟩
                        case measure => rw [HX2.out.hi.inAt, HXr.out.hi.inAt]; omega
                      · obtain rfl : k = nd := by omega
                        have hd := H5.out
                        obtain ⟨v, hv⟩ : ∃ v, byteAt s (y2 + k) = v := ⟨_, rfl⟩
                        rw [hv] at hd
                        rw [hv]
                        unfold isDg at hd
                        have hd2 : v < 48 ∨ 57 < v := by omega
                        clear hv hd
                        rcases hd2 with hd2 | hd2
                        · go_wp2_with fail
                          go_ret
                          exact ⟨rfl, by rw [HY2.out]; exact HXr.out, HGr.out⟩
                        · have hd3 : ¬ v < 48 := by omega
                          go_wp2_with fail
                          go_ret
                          exact ⟨rfl, by rw [HY2.out]; exact HXr.out, HGr.out⟩

end Go.Proofs.YthoekplablhgfaaGreatDoor
