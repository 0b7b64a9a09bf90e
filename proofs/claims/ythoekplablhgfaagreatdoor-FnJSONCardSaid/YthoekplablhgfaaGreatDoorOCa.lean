/-
  Case 1 of minify.Number: whole, with a power.
-/
import Derived.Test.YthoekplablhgfaaGreatDoorOPre
import Derived.Test.YthoekplablhgfaaGreatDoorMDig
import Derived.IntWalk
import Derived.Deep.DeepCutAuto
import Derived.Deep.CutBlock
namespace Go.Proofs.YthoekplablhgfaaGreatDoor
open Go.RowKit
set_option linter.unusedVariables false

set_option maxRecDepth 1000000 in
set_option maxHeartbeats 12800000 in
theorem numCase1 (h o cap N n sl di z : Nat) (neg : Bool) (I F : List Int) (ev : Int) (pre xs : List Int) (tail : List Value) (w : World) : (numPre h o cap N n sl di z neg I F ev pre xs tail w).1 := by
  intro hcap hmax nN two sl1 dil hz hNn m hmle hdin HB HL HSG HDOT HMAN HZERO HZEND HMZ HME HC HND HI HF HMF HIA HFA HNE HEX HEL ev0 ev1 i0 sb HSB HSLN u10 u11 u12 u13 u15 u16 u17 u18 u19 u20 u21 u22 u23 u24 u25 u26 u27 u28 u29 u30 u31 u32 u33 u34 u35 u36 u37 u38 u39 u40 u41 u42 u43 u44 u45 u46 u47 u48 u49 u50 u51 u52 u53 u54 u55 u56 u57 u58 u59 u60 u61 u62 u63 u64 u65 u66 u67 u68 u69 u70 u71 u72 u73 u74 u75 u76 u77 u78 u79 u80 u81 u82 u83 u84 u85 u86 u87 u88 u89 u90 u91 u92 u93 u94 u95 u96 u97 u98 u99 u100 u101 u102 u103 u104 u105 u106 u107 u108 u109 u110 u111 u112 u113 u114 u115 u116 u117 dv u118 u119 u120 st HST hst1 hst2 hn1 u121 u122 u123 u124 u125 u126 u127 u128 u129 u130 u131 u132 u133 iv u134 u135 u136 u137 u138 u139 u140 u141 u142 u143 u144 u145 u146 u147 en2 u148 u149 u150 u151 u152 u153 u154 u155 u156 u157 u158 u159 u160 u161 u162 u163 u164 u165 u166 u167 u168 u169 u170 u171 u172 u173 u174 u175 u176 u177 hIF hle nn nx en HNN HNX HST' HZ u4 u14 u327 u328 u329 u330 u331 u332 u333 u334 u335 u336 u337 u338 u339 u340 u341 u342 u343 u344 u345 u346 u347 u348 u349 u350 u351 u352 u353 u354 u355 u356 u357 u358 u359 u360 u361 u362 u363 u364 u365 u366 u367 u368 u369 u370 u371 u372 u373 u374 u375 u376 u377 u378 u379 u380 nn1 nn2 nx1 nx2 HK HR HNG u381 u382 u383 u384 u385 u386 u387 u388 u389 u390 u391 u392 u393 u394 u395 u396 u397 u398 u399 u400 u401 u402 u403 u404 u405 u406 u407 u408 u409 u410 u411 u412 u413 e HE e0 e1 Li HLI lb0 lb1 Le HLE mb0 mb1 B HBD hc1 K0 aK0
  have has : asIs I F ev = false := by unfold asIs; rw [HNN.out, HNX.out, HE.out]; simp [hc1]
  have hB : B = sigD I F ++ posTail (e - (nn : Int)) := by rw [← HBD.out]; unfold body; rw [HNN.out, if_pos hc1]
  have HAS := Lib.hid has
  have HBB := Lib.hid hB
  clear has hB
  go_upto_if 431 with (fail)
  go_cut [6, 8] from 429 to 467 (fun v6 v8 wc => ∃ (a b : Nat) (ys : List Int), v6 = .int .i64 (a : Nat) ∧ v8 = .int .i64 (b : Nat) ∧ BufO wc h o pre ys tail ∧ Onl h w wc ∧ ys.length = N ∧ (neg = true → 1 ≤ a) ∧ b = a + nn ∧ (b : Int) + tl (e - (nn : Int)) ≤ N ∧ (∀ j, j < nn → ys.getD (a + j) 0 = (sigD I F).getD j 0))
  case first =>
    -- [[
    focus
      rcases HK.out with ⟨_, _, g, K⟩ | ⟨_, _, K⟩ | ⟨_, _, K⟩
      · obtain ⟨e1, e2, e3, le, pt, zz, dd⟩ := K
        have f1 : (di : Int) < (en : Int) := by omega
        have f2 : ((di : Int) == (st : Int)) = true := by simp; omega
        have hroom := room_a (X := N - n) (by have := HEL.out.1; have := HEL.out.2.1; omega) (by have := HEL.out.1; have := HEL.out.2.1; omega) e3 HE.out hc1
        have hr : ((st + 1 + g + nn : Nat) : Int) + tl (e - (nn : Int)) ≤ N := by omega
        have ha : (en : Int) - (nn : Int) = ((st + 1 + g : Nat) : Int) := by omega
        have hb : en = st + 1 + g + nn := e2
        have HA := Lib.hid ha
        have HDD := Lib.hid dd
        have HRM := Lib.hid hr
        have HEN := Lib.hid hb
        have hen1 : en ≤ N := by omega
        have hen2 : nn ≤ en := by omega
        clear e1 e2 e3 pt zz dd hroom hr ha hb
        go_wp2_with fail
        go_meet
        case rel => exact ⟨st + 1 + g, en, xs, by rw [HA.out], rfl, HB.out, Onl.refl _ _, HL.out, fun hn => by have := HNG.out hn; omega, by rw [HEN.out], by rw [HEN.out]; exact HRM.out, HDD.out⟩
      · obtain ⟨e1, e2, e3, le, dd⟩ := K
        have f1 : ¬ (di : Int) < (en : Int) := by omega
        have hroom := room_b (r := di - en) (X := N - n) (by have := HEL.out.1; have := HEL.out.2.1; omega) (by have := HEL.out.1; have := HEL.out.2.1; omega) (show nx = (nn : Int) + ((di - en : Nat) : Int) by omega) HE.out hc1
        have hr : (en : Int) + tl (e - (nn : Int)) ≤ N := by omega
        have HDD := Lib.hid dd
        have HRM := Lib.hid hr
        have HEN := Lib.hid e1
        clear e1 e2 e3 dd hroom hr
        go_wp2_with fail
        go_meet
        case rel => exact ⟨st, en, xs, rfl, rfl, HB.out, Onl.refl _ _, HL.out, fun hn => HNG.out hn, HEN.out, HRM.out, HDD.out⟩
      · obtain ⟨e1, e2, e3, e4, le, pt, d1, d2⟩ := K
        have f1 : (di : Int) < (en : Int) := by omega
        have f2 : ((di : Int) == (st : Int)) = false := by simp; omega
        have hroom := room_c (X := N - n) (nn := nn) (by have := HEL.out.1; have := HEL.out.2.1; omega) (by have := HEL.out.1; have := HEL.out.2.1; omega) (show nx < nn by omega) HE.out hc1
        have hr : (en : Int) + tl (e - (nn : Int)) ≤ N := by omega
        have HRM := Lib.hid hr
        have HD1 := Lib.hid d1
        have HD2 := Lib.hid d2
        have HE4 := Lib.hid e4
        have hlen := HL.out
        have hsz : ∀ {o s k : Nat}, s + k ≤ N → o + k ≤ N → (moved xs o s k).length = N := fun h1 h2 => by rw [moved_length (by omega) (by omega)]; exact hlen
        by_cases hc : di - st < en - di - 1
        · have f3 : (di : Int) - (st : Int) < (en : Int) - (di : Int) - 1 := by omega
          have hmv := hsz (o := st + 1) (s := st) (k := di - st) (by omega) (by omega)
          have hget := fun k => moved_get (xs := xs) (o := st + 1) (s := st) (n := di - st) (by omega) (by omega) k
          have HMV := Lib.hid hmv
          have HGT := Lib.hid hget
          have i1 : (0 : Int) ≤ (st : Int) + 1 := by omega
          have i2 : (st : Int) + 1 ≤ (N : Int) := by omega
          have i3 : (N : Int) ≤ (cap : Int) := by omega
          have i4 : (st : Int) ≤ (di : Int) := by omega
          have i5 : (di : Int) ≤ (cap : Int) := by omega
          have i6 : ¬ cap = st + 1 := by omega
          have w1 : IntKind.i64.wrap ((st : Int) + 1) = (st : Int) + 1 := IntWalk.i64_in _ (by omega)
          have t1 : ((st : Int) + 1).toNat = st + 1 := by omega
          have i7 : ¬ cap = st := by omega
          have hcl := cut_length xs st (st + (di - st)) (by omega) (by omega)
          rw [show st + (di - st) - st = di - st from by omega] at hcl
          have HCL := Lib.hid hcl
          clear e1 e2 e3 e4 pt d1 d2 hroom hr hlen hsz hmv hget hcl
          go_wp2_with fail
          go_region_law (refine step_copy_only rfl (.tmp 449) (.tmp 453) 44 44 rfl 5 Tryz.underlying44 size_u8 (some ⟨h, o + (st + 1), none⟩) (some ⟨h, o + st, none⟩) (N - (st + 1)) (cap - (st + 1)) (di - st) (cap - st) (by simp [Act.eval, Act.put]) (by simp [Act.eval, Act.put]) h (o + (st + 1)) _ _ HB.out.2 ((cut xs st (st + (di - st))).map (Value.int .u8)) (by rw [List.length_map, HCL.out]; exact (Nat.min_eq_left (by omega)).symm) (fun _ => ⟨rfl, ⟨h, o + st, none⟩, rfl, HB.out.src st (di - st) (by rw [HL.out]; omega)⟩) (by simp only [List.length_map, List.length_append]; have := HB.out.1; have := HL.out; rw [HCL.out]; omega) (one_cells _) h w (Onl.refl _ _).drew (Nat.le_refl _) ?_; intro w4 hg4 hb4)
          have hbw : BufO w4 h o pre (moved xs (st + 1) st (di - st)) tail := BufO.moved HB.out.1 (by rw [HL.out]; omega) (by rw [HL.out]; omega) hg4.out
          have HBW := Lib.hid hbw
          have HB4 := Lib.hid hb4
          clear hg4 hb4 hbw
          go_wp2_with fail
          go_meet
          case rel =>
            have e4 := HE4.out
            refine ⟨st + 1, en, _, by go_num, rfl, HBW.out, HB4.out, HMV.out, fun _ => by omega, by omega, HRM.out, fun j hj => ?_⟩
            rw [HGT.out]
            split
            · rw [show st + (st + 1 + j - (st + 1)) = st + j from by omega]
              exact HD1.out j (by omega)
            · rw [show st + 1 + j = di + 1 + (j - (di - st)) from by omega, HD2.out _ (by omega)]
              congr 1
              omega
        · have f3 : ¬ (di : Int) - (st : Int) < (en : Int) - (di : Int) - 1 := by omega
          have hmv := hsz (o := di) (s := di + 1) (k := en - (di + 1)) (by omega) (by omega)
          have hget := fun k => moved_get (xs := xs) (o := di) (s := di + 1) (n := en - (di + 1)) (by omega) (by omega) k
          have HMV := Lib.hid hmv
          have HGT := Lib.hid hget
          have i1 : (0 : Int) ≤ (di : Int) + 1 := by omega
          have i2 : (di : Int) + 1 ≤ (en : Int) := by omega
          have i3 : (N : Int) ≤ (cap : Int) := by omega
          have i4 : (di : Int) ≤ (N : Int) := by omega
          have i5 : (en : Int) ≤ (cap : Int) := by omega
          have i6 : ¬ cap = di + 1 := by omega
          have i7 : ¬ cap = di := by omega
          have w1 : IntKind.i64.wrap ((di : Int) + 1) = (di : Int) + 1 := IntWalk.i64_in _ (by omega)
          have t1 : ((di : Int) + 1).toNat = di + 1 := by omega
          have hcl := cut_length xs (di + 1) (di + 1 + (en - (di + 1))) (by omega) (by omega)
          rw [show di + 1 + (en - (di + 1)) - (di + 1) = en - (di + 1) from by omega] at hcl
          have HCL := Lib.hid hcl
          have hen1 : 1 ≤ en := by omega
          have hen2 : en ≤ N := by omega
          have hE1 := Lib.hid e1
          have hE2 := Lib.hid e2
          clear e1 e2 e3 e4 pt d1 d2 hroom hr hlen hsz hmv hget hcl
          go_wp2_with fail
          go_region_law (refine step_copy_only rfl (.tmp 459) (.tmp 464) 44 44 rfl 5 Tryz.underlying44 size_u8 (some ⟨h, o + di, none⟩) (some ⟨h, o + (di + 1), none⟩) (N - di) (cap - di) (en - (di + 1)) (cap - (di + 1)) (by simp [Act.eval, Act.put]) (by simp [Act.eval, Act.put]) h (o + di) _ _ HB.out.2 ((cut xs (di + 1) (di + 1 + (en - (di + 1)))).map (Value.int .u8)) (by rw [List.length_map, HCL.out]; exact (Nat.min_eq_left (by omega)).symm) (fun _ => ⟨rfl, ⟨h, o + (di + 1), none⟩, rfl, HB.out.src (di + 1) (en - (di + 1)) (by rw [HL.out]; omega)⟩) (by simp only [List.length_map, List.length_append]; have := HB.out.1; have := HL.out; rw [HCL.out]; omega) (one_cells _) h w (Onl.refl _ _).drew (Nat.le_refl _) ?_; intro w4 hg4 hb4)
          have hbw : BufO w4 h o pre (moved xs di (di + 1) (en - (di + 1))) tail := BufO.moved HB.out.1 (by rw [HL.out]; omega) (by rw [HL.out]; omega) hg4.out
          have HBW := Lib.hid hbw
          have HB4 := Lib.hid hb4
          clear hg4 hb4 hbw
          go_wp2_with fail
          go_meet
          case rel =>
            have e4 := HE4.out
            have e1 := hE1.out
            have hrm := HRM.out
            refine ⟨st, en - 1, _, rfl, by rw [show ((en - 1 : Nat) : Int) = (en : Int) - 1 from by omega], HBW.out, HB4.out, HMV.out, HNG.out, by omega, by omega, fun j hj => ?_⟩
            rw [HGT.out]
            split
            · rw [show di + 1 + (st + j - di) = di + 1 + (j - (di - st)) from by omega, HD2.out _ (by omega)]
              congr 1
              omega
            · exact HD1.out j (by omega)
    -- ]]
  case rest =>
    obtain ⟨a, b, ys, rfl, rfl, hbw, hbl, hyl, hna, hba, hroom, hat⟩ := hcut
    have HBW := Lib.hid hbw
    have HBL := Lib.hid hbl
    have HYL := Lib.hid hyl
    have HNA := Lib.hid hna
    have HBA := Lib.hid hba
    have HRM := Lib.hid hroom
    have HAT := Lib.hid hat
    clear hbw hbl hyl hna hba hroom hat
    go_upto_if 471 with (fail)
    go_cut [6, 8, 21, 24] from 468 to 519 (fun v6 v8 v21 v24 wc => ∃ (a b : Nat) (ys : List Int), v6 = .int .i64 (a : Nat) ∧ v8 = .int .i64 (b : Nat) ∧ BufO wc h o pre ys tail ∧ Onl h w wc ∧ ys.length = N ∧ (neg = true → 1 ≤ a) ∧ b = a + B.length ∧ b ≤ N ∧ (∀ j, j < B.length → ys.getD (a + j) 0 = B.getD j 0))
    case first =>
      -- [[
      as_aux_lemma =>
        obtain ⟨i, hi⟩ : ∃ i : Nat, e - (nn : Int) = i := ⟨(e - (nn : Int)).toNat, by omega⟩
        have hDl := HNN.out
        have hba := HBA.out
        have hrm := HRM.out
        have hBB := HBB.out
        rw [hi] at hrm hBB
        have htl := tl_nonneg i
        have hN1 : (b : Int) ≤ N := by have := tl_nonneg i; omega
        clear htl
        by_cases h3 : 3 ≤ i
        · have f1 : (nn : Int) + 3 ≤ e := by omega
          have hL := HLI.out
          rw [hi, li_pos (by omega)] at hL
          have hrm2 : (b : Int) + 1 + Li ≤ N := by unfold tl at hrm; rw [if_pos (by omega)] at hrm; omega
          have hdg : dgs Li (i : Int) = digs i := dgs_digs (by omega) (by omega) hL
          have hB2 : B = sigD I F ++ 101 :: dgs Li (e - (nn : Int)) := by rw [hBB, hi, hdg]; unfold posTail; rw [if_pos (by omega)]
          have hBl : B.length = nn + 1 + Li := by rw [hB2, List.length_append, hDl]; simp [dgs_length]; omega
          have hB1 := HBW.out.set b (by have := HYL.out; omega) 101
          have hfz := HBW.out.frozen b
          have hcz := HBW.out.cell b (by have := HYL.out; omega)
          have hbN : b < N := by omega
          have v0 : (0 : Int) ≤ e - (nn : Int) := by omega
          have v1 : e - (nn : Int) < 1000 := by omega
          have HB1 := Lib.hid hB1
          have HB2 := Lib.hid hB2
          have HBl := Lib.hid hBl
          have hRM2 : b + 1 + Li ≤ N := by omega
          have HH := Lib.hid hba
          clear hi hrm hBB hdg hL hrm2 hBl hB2 hB1 hDl hba
          go_wp2_with fail
          go_loopw [21, 24] (fun v21 v24 wr => ∃ (k : Nat) (v : Int) (zs suf : List Int), v21 = .int .i64 v ∧ v24 = .int .i64 ((b + k : Nat) : Int) ∧ k ≤ Li ∧ 0 ≤ v ∧ v < 1000 ∧ RowKit.Hid (dgs k v ++ suf = dgs Li (e - (nn : Int))) ∧ RowKit.Hid (BufO wr h o pre zs tail) ∧ RowKit.Hid (Onl h w wr) ∧ RowKit.Hid (zs.length = N) ∧ RowKit.Hid (∀ j, j < b + 1 → zs.getD j 0 = (ys.set b 101).getD j 0) ∧ RowKit.Hid (∀ j, j < suf.length → zs.getD (b + 1 + k + j) 0 = suf.getD j 0)) (fun _ v24 _ => (intOf v24).toNat)
          case atStart => exact ⟨Li, e - (nn : Int), ys.set b 101, [], rfl, by go_num, by omega, v0, v1, Lib.hid (by simp), Lib.hid HB1.out, Lib.hid (HBL.out.setCell (p := ⟨h, o + b, none⟩) rfl _), Lib.hid (by rw [List.length_set]; exact HYL.out), Lib.hid (fun _ _ => rfl), Lib.hid (fun j hj => absurd hj (by simp))⟩
          case round =>
            obtain ⟨k, v, zs, suf, rfl, rfl, hk, hv0, hv1, HDG, HZW, HZB, HZL, HZ0, HZS⟩ := hrel
            cases k with
            | zero =>
              go_wp2_with fail
              go_meet
              case rel =>
                have hh := HH.out
                have hd := HDG.out
                refine ⟨a, b + 1 + Li, zs, rfl, by go_num, HZW.out, HZB.out, HZL.out, HNA.out, by rw [HBl.out]; omega, by omega, fun j hj => ?_⟩
                rw [HBl.out] at hj
                rw [HB2.out]
                have hDl := HNN.out
                by_cases k1 : j < nn
                · rw [HZ0.out _ (by omega), set_get (by have := HYL.out; omega), if_neg (by omega), getD_append_left' (by omega)]
                  exact HAT.out j k1
                · rw [getD_append_right' (by omega), hDl]
                  by_cases k2 : j = nn
                  · subst k2
                    rw [HZ0.out _ (by omega), set_get (by have := HYL.out; omega), if_pos (by omega), Nat.sub_self]
                    rfl
                  · obtain ⟨t, ht⟩ : ∃ t, j = nn + 1 + t := ⟨j - nn - 1, by omega⟩
                    subst ht
                    rw [show nn + 1 + t - nn = t + 1 from by omega, List.getD_cons_succ, ← hd]
                    have hs := HZS.out t (by have := congrArg List.length hd; simp [dgs, dgs_length] at this; omega)
                    rw [show a + (nn + 1 + t) = b + 1 + 0 + t from by omega]
                    exact hs
            | succ k =>
              have hb2 := HZW.out.set (b + (k + 1)) (by have := HZL.out; omega) (v % 10 + 48)
              have hfz := HZW.out.frozen (b + (k + 1))
              have hcz := HZW.out.cell (b + (k + 1)) (by have := HZL.out; omega)
              have hbN : b + (k + 1) < N := by omega
              have HS := Lib.hid hb2
              clear hb2
              go_wp2_with fail
              go_roundw
              case rel =>
                have hd := HDG.out
                have hzl := HZL.out
                refine ⟨k, v / 10, zs.set (b + (k + 1)) (v % 10 + 48), (v % 10 + 48) :: suf, rfl, by go_num, by omega, by omega, by omega, Lib.hid (by rw [← hd]; simp [dgs]), Lib.hid HS.out, Lib.hid (HZB.out.setCell (p := ⟨h, o + (b + (k + 1)), none⟩) rfl _), Lib.hid (by rw [List.length_set]; exact hzl), Lib.hid (fun j hj => by rw [set_get (by omega), if_neg (by omega)]; exact HZ0.out j hj), Lib.hid (fun j hj => ?_)⟩
                rw [set_get (by omega)]
                cases j with
                | zero => rw [if_pos (by omega)]; rfl
                | succ j =>
                  rw [if_neg (by omega), List.getD_cons_succ, show b + 1 + k + (j + 1) = b + 1 + (k + 1) + j from by omega]
                  exact HZS.out j (by simpa using hj)
              case measure => simp [intOf]; omega
        · have hBB2 : B = sigD I F ++ List.replicate i 48 := by rw [hBB]; unfold posTail; rw [if_neg (by omega)]; simp
          have hBl : B.length = nn + i := by rw [hBB2, List.length_append, hDl, List.length_replicate]
          have hrm2 : b + i ≤ N := by unfold tl at hrm; rw [if_neg (by omega)] at hrm; omega
          have f1 : ¬ (nn : Int) + 3 ≤ e := by omega
          have hi3 : i = 0 ∨ i = 1 ∨ i = 2 := by omega
          have hgB : ∀ j, j < nn + i → B.getD j 0 = if j < nn then (sigD I F).getD j 0 else 48 := fun j hj => by
            rw [hBB2]
            split
            · rw [getD_append_left' (by omega)]
            · rw [getD_append_right' (by omega), getD_rep (by omega)]
          have HBl := Lib.hid hBl
          have HGB := Lib.hid hgB
          clear hBB hBB2 hBl hDl hrm hgB
          rcases hi3 with rfl | rfl | rfl
          · have f2 : ((nn : Int) + 2 == e) = false := by simp; omega
            have f3 : ((nn : Int) + 1 == e) = false := by simp; omega
            have HH := Lib.hid hba
            clear hba hi
            go_wp2_with fail
            go_meet
            case rel => exact ⟨a, b, ys, rfl, rfl, HBW.out, HBL.out, HYL.out, HNA.out, by rw [HBl.out]; exact HH.out, by omega, fun j hj => by rw [HBl.out] at hj; rw [HGB.out j hj, if_pos (by omega)]; exact HAT.out j (by omega)⟩
          · have f2 : ((nn : Int) + 2 == e) = false := by simp; omega
            have f3 : ((nn : Int) + 1 == e) = true := by simp; omega
            have hb2 := HBW.out.set b (by have := HYL.out; omega) 48
            have hfz := HBW.out.frozen b
            have hcz := HBW.out.cell b (by have := HYL.out; omega)
            have hbN : b < N := by omega
            have HH := Lib.hid hba
            have HS := Lib.hid hb2
            clear hba hi hb2
            go_wp2_with fail
            go_meet
            case rel =>
              have hh := HH.out
              have hyl := HYL.out
              refine ⟨a, b + 1, ys.set b 48, rfl, by go_num, HS.out, HBL.out.setCell (p := ⟨h, o + b, none⟩) rfl _, by rw [List.length_set]; exact HYL.out, HNA.out, by rw [HBl.out]; omega, by omega, fun j hj => ?_⟩
              rw [HBl.out] at hj
              rw [HGB.out j hj, set_get (by omega)]
              by_cases k1 : j < nn
              · rw [if_neg (by omega), if_pos k1]; exact HAT.out j k1
              · rw [if_pos (by omega), if_neg k1]
          · have f2 : ((nn : Int) + 2 == e) = true := by simp; omega
            have hb2 := (HBW.out.set b (by have := HYL.out; omega) 48).set (b + 1) (by have := HYL.out; rw [List.length_set]; omega) 48
            have hfz := HBW.out.frozen b
            have hcz := HBW.out.cell b (by have := HYL.out; omega)
            have hfz1 := HBW.out.frozen (b + 1)
            have hcz1 := HBW.out.cell (b + 1) (by have := HYL.out; omega)
            have hbN : b < N := by omega
            have hbN1 : b + 1 < N := by omega
            have HH := Lib.hid hba
            have HS := Lib.hid hb2
            clear hba hi hb2
            go_wp2_with fail
            go_meet
            case rel =>
              have hh := HH.out
              have hyl := HYL.out
              refine ⟨a, b + 2, (ys.set b 48).set (b + 1) 48, rfl, by go_num, HS.out, (HBL.out.setCell (p := ⟨h, o + b, none⟩) rfl _).setCell (p := ⟨h, o + (b + 1), none⟩) rfl _, by rw [List.length_set, List.length_set]; exact HYL.out, HNA.out, by rw [HBl.out]; omega, by omega, fun j hj => ?_⟩
              rw [HBl.out] at hj
              rw [HGB.out j hj, set_get (by rw [List.length_set]; omega), set_get (by omega)]
              by_cases k1 : j < nn
              · rw [if_neg (by omega), if_neg (by omega), if_pos k1]; exact HAT.out j k1
              · rw [if_neg k1]
                by_cases k2 : a + j = b + 1
                · rw [if_pos k2]
                · rw [if_neg k2, if_pos (by omega)]
      -- ]]
    case rest =>
      -- [[
      as_aux_lemma =>
        obtain ⟨a, b, ys, rfl, rfl, hbw, hbl, hyl, hna, hba, hbN, hat⟩ := hcut
        have has := HAS.out
        have hR := HR.out
        rw [has, if_neg (by simp), HE.out, HBD.out] at hR
        have HRR := Lib.hid hR
        obtain ⟨L, hL⟩ : ∃ L, B.length = L := ⟨_, rfl⟩
        rw [hL] at hba hat
        have hL1 : 1 ≤ L := by rw [← hL, ← HBD.out]; exact body_pos (by rw [HNN.out]; exact nn1)
        have hab : a < b := by omega
        have HBA := Lib.hid hba
        have HLL := Lib.hid hL
        have HAT := Lib.hid hat
        have HYL := Lib.hid hyl
        have HBW := Lib.hid hbw
        have HBL := Lib.hid hbl
        clear hR has hba hat hyl hbw hbl hL
        have g1 : (b : Int) ≤ (cap : Int) := by omega
        cases neg with
        | true =>
          have hs1 : 1 ≤ a := hna rfl
          obtain ⟨a', rfl⟩ : ∃ a', a = a' + 1 := ⟨a - 1, by omega⟩
          have ec : ((a' + 1 : Nat) : Int) - 1 = (a' : Int) := by omega
          have hb2 := HBW.out.set a' (by rw [HYL.out]; omega) 45
          have hfz := HBW.out.frozen a'
          have hcz := HBW.out.cell a' (by rw [HYL.out]; omega)
          have hcst : ¬ cap = a' := by omega
          have haN : a' < N := by omega
          have g2 : (a' : Int) ≤ (b : Int) := by omega
          have HB2 := Lib.hid hb2
          clear hb2 hna hs1
          go_wp2_with fail
          go_ret
          have hL := HLL.out
          have hba := HBA.out
          have hR2 : numR xs true I F ev = [45] ++ B := by rw [HRR.out]; simp
          rw [hR2]
          refine ⟨a', ys.set a' 45, ?_, HB2.out, HBL.out.setCell (p := ⟨h, o + a', none⟩) rfl _, by rw [List.length_set]; exact HYL.out, by simp; omega, fun j hj => ?_⟩
          · have e1 : b - a' = ([45] ++ B).length := by simp; omega
            rw [← e1]
            rfl
          · rw [set_get (by rw [HYL.out]; omega)]
            cases j with
            | zero => rw [if_pos (by omega)]; rfl
            | succ j =>
              rw [if_neg (by omega), show a' + (j + 1) = a' + 1 + j from by omega, HAT.out j (by simp at hj; omega)]
              rfl
        | false =>
          have hcst : ¬ cap = a := by omega
          have g2 : (a : Int) ≤ (b : Int) := by omega
          clear hna
          go_wp2_with fail
          go_ret
          have hL := HLL.out
          have hba := HBA.out
          have hR2 : numR xs false I F ev = B := by rw [HRR.out]; simp
          rw [hR2]
          refine ⟨a, ys, ?_, HBW.out, HBL.out, HYL.out, by omega, fun j hj => HAT.out j (by omega)⟩
          have e1 : b - a = B.length := by omega
          rw [← e1]
          rfl
      -- ]]

end Go.Proofs.YthoekplablhgfaaGreatDoor
