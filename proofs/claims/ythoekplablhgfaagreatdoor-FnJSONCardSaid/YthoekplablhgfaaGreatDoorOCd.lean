/-
  Case 4 of minify.Number: whole, with a negative power.
-/
import Derived.Test.YthoekplablhgfaaGreatDoorOPre
import Derived.Test.YthoekplablhgfaaGreatDoorMDig
import Derived.IntWalk
import Derived.Deep.DeepCutAuto
import Derived.Deep.CutBlock
namespace Go.Proofs.YthoekplablhgfaaGreatDoor
open Go.RowKit
set_option linter.unusedVariables false

set_option maxRecDepth 1000000 in
set_option maxHeartbeats 12800000 in
theorem numCase4 (h o cap N n sl di z : Nat) (neg : Bool) (I F : List Int) (ev : Int) (pre xs : List Int) (tail : List Value) (w : World) : (numPre h o cap N n sl di z neg I F ev pre xs tail w).2.2.2.1 := by
  intro hcap hmax nN two sl1 dil hz hNn m hmle hdin HB HL HSG HDOT HMAN HZERO HZEND HMZ HME HC HND HI HF HMF HIA HFA HNE HEX HEL ev0 ev1 i0 sb HSLN u10 u11 u12 u13 u15 u16 u17 u18 u19 u20 u21 u22 u23 u24 u25 u26 u27 u28 u29 u30 u31 u32 u33 u34 u35 u36 u37 u38 u39 u40 u41 u42 u43 u44 u45 u46 u47 u48 u49 u50 u51 u52 u53 u54 u55 u56 u57 u58 u59 u60 u61 u62 u63 u64 u65 u66 u67 u68 u69 u70 u71 u72 u73 u74 u75 u76 u77 u78 u79 u80 u81 u82 u83 u84 u85 u86 u87 u88 u89 u90 u91 u92 u93 u94 u95 u96 u97 u98 u99 u100 u101 u102 u103 u104 u105 u106 u107 u108 u109 u110 u111 u112 u113 u114 u115 u116 u117 dv u118 u119 u120 st HST hst1 hst2 hn1 u121 u122 u123 u124 u125 u126 u127 u128 u129 u130 u131 u132 u133 iv u134 u135 u136 u137 u138 u139 u140 u141 u142 u143 u144 u145 u146 u147 en2 u148 u149 u150 u151 u152 u153 u154 u155 u156 u157 u158 u159 u160 u161 u162 u163 u164 u165 u166 u167 u168 u169 u170 u171 u172 u173 u174 u175 u176 u177 hIF hle nn nx en HNN HNX HST' HZ u4 u14 u327 u328 u329 u330 u331 u332 u333 u334 u335 u336 u337 u338 u339 u340 u341 u342 u343 u344 u345 u346 u347 u348 u349 u350 u351 u352 u353 u354 u355 u356 u357 u358 u359 u360 u361 u362 u363 u364 u365 u366 u367 u368 u369 u370 u371 u372 u373 u374 u375 u376 u377 u378 u379 u380 nn1 nn2 nx1 nx2 HK HR HNG u381 u382 u383 u384 u385 u386 u387 u388 u389 u390 u391 u392 u393 u394 u395 u396 u397 u398 u399 u400 u401 u402 u403 u404 u405 u406 u407 u408 u409 u410 u411 u412 u413 e HE e0 e1 Li HLI lb0 lb1 Le HLE mb0 mb1 B HBD HC1 K0 aK0 u520 u521 u522 u523 u524 u525 u526 u527 u528 u529 u530 HSB k6
  have K6 := Lib.hid k6
  have hasf : asIs I F ev = false := by
    unfold asIs
    rw [HNN.out, HNX.out, HE.out, HSB.out]
    simp
  have HAS := Lib.hid hasf
  clear hasf
  have hec := HC1.out
  have he6 : ¬ -li (e - (nn : Int)) ≤ e := by rw [HLI.out]; exact k6
  have he3 : e ≤ -3 := room4_e (by omega) he6 (by omega)
  have hLi : 1 + dl ((nn : Int) - e) = (Li : Int) := by
    have h1 := HLI.out
    rw [li_neg (by omega), show -(e - (nn : Int)) = (nn : Int) - e from by omega] at h1
    exact h1
  have HE3 := Lib.hid he3
  have HDL := Lib.hid hLi
  clear hec he6 he3 hLi
  go_upto_if 734 with (fail)
  clear k6
  have hdls : (∃ g, KA xs (sigD I F) N n st di en nn g nx) ∨ KC xs (sigD I F) N n st di en nn nx → dl ((nn : Int) - e) ≤ dl (-e) := by
    intro hk
    have he3 := HE3.out
    refine room4 nn2 (by omega) (by rw [HLI.out]; exact K6.out) (fun h3 h4 => ?_) (by omega)
    have hs := HSB.out
    unfold second at hs
    rw [HNN.out] at hs
    have hF : F ≠ [] := by
      rcases HK.out with ⟨_, hF, _⟩ | ⟨_, _, K⟩ | ⟨_, hF, _⟩
      · exact hF
      · exfalso
        rcases hk with ⟨g, k⟩ | k
        · have := k.e1; have := k.e2; have := K.e2; have := K.e1; omega
        · have := k.e1; have := k.e2; have := K.e2; omega
      · exact hF
    simp [h3, h4, hF] at hs
  have HDLS := Lib.hid hdls
  clear hdls
  go_cut [32] from 600 to 739 (fun v32 wc => ∃ ne : Nat, v32 = .int .i64 (ne : Nat) ∧ ne + 1 + Li < N ∧ w = wc)
  case first =>
    -- [[
    focus
      have he := HE.out
      have he3 := HE3.out
      have hLi := HDL.out
      rcases HK.out with ⟨_, _, g, K⟩ | ⟨_, _, K⟩ | ⟨_, _, K⟩
      · have hdls := HDLS.out (.inl ⟨g, K⟩)
        obtain ⟨e1, e2, e3, le, pt, zz, dd⟩ := K
        have hroom := room4_a (nn := nn) (g := g) (X := N - n) (by have := HEL.out.1; omega) (by omega) e3 (by omega) he hdls he3
        have f2 : ((di : Int) == (st : Int)) = true := by simp; omega
        have hn : (di : Int) + (nn : Int) = ((st + nn : Nat) : Int) := by omega
        have hr : st + nn + 1 + Li < N := by omega
        have HNE := Lib.hid hn
        have b1 : (di : Int) ≤ 1000000 := by omega
        clear he he3 hLi hdls e1 e2 e3 pt zz dd hroom hn
        go_wp2_with fail
        go_meet
        case rel => exact ⟨st + nn, by rw [HNE.out], hr, rfl⟩
      · obtain ⟨e1, e2, e3, le, dd⟩ := K
        have hroom := room4_b (nn := nn) (nx := nx) (X := N - n) (by have := HEL.out.1; omega) (by omega) he he3
        have f2 : ((di : Int) == (st : Int)) = false := by simp; omega
        have hn : (en : Int) - 1 = ((en - 1 : Nat) : Int) := by omega
        have hr : en - 1 + 1 + Li < N := by omega
        have HNE := Lib.hid hn
        have b1 : (en : Int) ≤ 1000000 := by omega
        have b2 : 1 ≤ (en : Int) := by omega
        clear he he3 hLi e1 e2 e3 dd hroom hn
        go_wp2_with fail
        go_meet
        case rel => exact ⟨en - 1, by rw [HNE.out], hr, rfl⟩
      · have hdls := HDLS.out (.inr K)
        obtain ⟨e1, e2, e3, e4, le, pt, d1, d2⟩ := K
        have hroom := room4_c (nn := nn) (nx := nx) (X := N - n) (by have := HEL.out.1; omega) (by omega) he hdls he3
        have f2 : ((di : Int) == (st : Int)) = false := by simp; omega
        have hn : (en : Int) - 1 = ((en - 1 : Nat) : Int) := by omega
        have hr : en - 1 + 1 + Li < N := by omega
        have HNE := Lib.hid hn
        have b1 : (en : Int) ≤ 1000000 := by omega
        have b2 : 1 ≤ (en : Int) := by omega
        clear he he3 hLi hdls e1 e2 e3 e4 pt d1 d2 hroom hn
        go_wp2_with fail
        go_meet
        case rel => exact ⟨en - 1, by rw [HNE.out], hr, rfl⟩
    -- ]]
  case rest =>
    obtain ⟨ne, rfl, hne, rfl⟩ := hcut
    have hne2 : (ne : Int) + (1 + (Li : Int)) < (N : Int) := by omega
    have hne3 : ne + (1 + Li) < N := by omega
    go_upto_if 752 with (fail)
    clear hne hne2 hne3
    go_cut [8] from 740 to 779 (fun v8 wc => ∃ (b : Nat) (ys : List Int), v8 = .int .i64 (b : Nat) ∧ BufO wc h o pre ys tail ∧ Onl h w wc ∧ ys.length = N ∧ b = st + nn ∧ (b : Int) + 2 + dl ((nn : Int) - e) ≤ N ∧ At ys st (sigD I F))
    case first =>
      -- [[
      focus
        have he := HE.out
        have he3 := HE3.out
        have hLi := HDL.out
        rcases HK.out with ⟨_, _, g, K⟩ | ⟨_, _, K⟩ | ⟨_, _, K⟩
        · have hdls := HDLS.out (.inl ⟨g, K⟩)
          obtain ⟨e1, e2, e3, le, pt, zz, dd⟩ := K
          have hroom := room4_a (nn := nn) (g := g) (X := N - n) (by have := HEL.out.1; omega) (by omega) e3 (by omega) he hdls he3
          have k1 : (di : Int) < (en : Int) := by omega
          have k2 : ((di : Int) == (st : Int)) = true := by simp; omega
          obtain ⟨u, hu⟩ : ∃ u, st + 1 + g = u := ⟨_, rfl⟩
          have hq : (en : Int) - (nn : Int) = (u : Int) := by omega
          have hr : ((st + nn : Nat) : Int) + 2 + dl ((nn : Int) - e) ≤ N := by omega
          have hue : en - u = nn := by omega
          have hue2 : u ≤ en := by omega
          have hoo : st + (en - u) ≤ N := by omega
          have HUE := Lib.hid hue
          have HRM := Lib.hid hr
          have HDD := Lib.hid dd
          have HU := Lib.hid hu
          have hcl := cut_length (xs) (u) (u + (en - u)) (by omega) (by rw [HL.out]; omega)
          rw [show u + (en - u) - (u) = en - u from by omega] at hcl
          have HCL := Lib.hid hcl
          have hmv : (moved (xs) (st) (u) (en - u)).length = N := by rw [moved_length (by rw [HL.out]; omega) (by rw [HL.out]; omega)]; exact HL.out
          have HMV := Lib.hid hmv
          have hget := fun k => moved_get (xs := xs) (o := st) (s := u) (n := en - u) (by rw [HL.out]; omega) (by rw [HL.out]; omega) k
          have HGT := Lib.hid hget
          clear hcl hmv hget
          have s17a : (0 : Int) ≤ (st : Int) := by omega
          have s17b : (st : Int) ≤ (N : Int) := by omega
          have s17c : (N : Int) ≤ (cap : Int) := by omega
          have s17d : ¬ cap = st := by omega
          have s17e : IntKind.i64.wrap ((st : Int)) = (st : Int) := IntWalk.i64_in _ (by omega)
          have s17f : ((st : Int)).toNat = st := by omega
          have s18a : (0 : Int) ≤ (u : Int) := by omega
          have s18b : (u : Int) ≤ (en : Int) := by omega
          have s18c : (en : Int) ≤ (cap : Int) := by omega
          have s18d : ¬ cap = u := by omega
          have s18e : IntKind.i64.wrap ((u : Int)) = (u : Int) := IntWalk.i64_in _ (by omega)
          have s18f : ((u : Int)).toNat = u := by omega

          have b1 : (en : Int) ≤ 1000000 := by omega
          have b2 : (nn : Int) ≤ (en : Int) := by omega
          have b3 : (st : Int) ≤ 1000000 := by omega
          clear he he3 hLi hdls e1 e2 e3 pt zz dd hroom hr hu hue
          go_wp2_with fail
          go_region_law (refine step_copy_only rfl (.tmp 758) (.tmp 764) 44 44 rfl 5 Tryz.underlying44 size_u8 (some ⟨h, o + st, none⟩) (some ⟨h, o + u, none⟩) (N - (st)) (cap - (st)) (en - u) (cap - (u)) (by simp [Act.eval, Act.put]) (by simp [Act.eval, Act.put]) h (o + (st)) _ _ HB.out.2 ((cut xs (u) (u + (en - u))).map (Value.int .u8)) (by rw [List.length_map, HCL.out]; exact (Nat.min_eq_left (by omega)).symm) (fun _ => ⟨rfl, ⟨h, o + u, none⟩, rfl, HB.out.src (u) (en - u) (by rw [HL.out]; omega)⟩) (by simp only [List.length_map, List.length_append]; have := HB.out.1; have := HL.out; rw [HCL.out]; omega) (one_cells _) h w (Onl.refl _ _).drew (Nat.le_refl _) ?_; intro w4 hg4 hb4)
          have hbw4 : BufO w4 h o pre (moved xs (st) (u) (en - u)) tail := BufO.moved HB.out.1 (by rw [HL.out]; omega) (by rw [HL.out]; omega) hg4.out
          have HBW4 := Lib.hid hbw4
          have HB4 := Lib.hid hb4
          clear hg4 hb4 hbw4

          go_wp2_with fail
          go_meet
          case rel =>
            have hu := HU.out
            have hue := HUE.out
            refine ⟨st + nn, _, (by first | rfl | go_num | (congr 1; omega)), HBW4.out, HB4.out, HMV.out, rfl, HRM.out, At.of HNN.out fun j hj => ?_⟩
            rw [HGT.out, if_pos (by omega), ← HDD.out j hj]
            congr 1
            omega
        · obtain ⟨e1, e2, e3, le, dd⟩ := K
          have hroom := room4_b (nn := nn) (nx := nx) (X := N - n) (by have := HEL.out.1; omega) (by omega) he he3
          have k1 : ¬ (di : Int) < (en : Int) := by omega
          have hr : ((st + nn : Nat) : Int) + 2 + dl ((nn : Int) - e) ≤ N := by omega
          have HRM := Lib.hid hr
          have HDD := Lib.hid dd
          have HE1 := Lib.hid e1
          clear he he3 hLi e1 e2 e3 dd hroom hr
          go_wp2_with fail
          go_meet
          case rel => exact ⟨en, xs, rfl, HB.out, Onl.refl _ _, HL.out, HE1.out, by rw [HE1.out]; exact HRM.out, At.of HNN.out HDD.out⟩
        · have hdls := HDLS.out (.inr K)
          obtain ⟨e1, e2, e3, e4, le, pt, d1, d2⟩ := K
          have hroom := room4_c (nn := nn) (nx := nx) (X := N - n) (by have := HEL.out.1; omega) (by omega) he hdls he3
          have k1 : (di : Int) < (en : Int) := by omega
          have k2 : ((di : Int) == (st : Int)) = false := by simp; omega
          have hr : ((st + nn : Nat) : Int) + 2 + dl ((nn : Int) - e) ≤ N := by omega
          have hn : (en : Int) - 1 = ((st + nn : Nat) : Int) := by omega
          have hde : di + 1 ≤ en := by omega
          have HRM := Lib.hid hr
          have HD1 := Lib.hid d1
          have HD2 := Lib.hid d2
          have HE4 := Lib.hid e4
          have HNE := Lib.hid hn
          have hcl := cut_length (xs) (di + 1) (di + 1 + (en - (di + 1))) (by omega) (by rw [HL.out]; omega)
          rw [show di + 1 + (en - (di + 1)) - (di + 1) = en - (di + 1) from by omega] at hcl
          have HCL := Lib.hid hcl
          have hmv : (moved (xs) (di) (di + 1) (en - (di + 1))).length = N := by rw [moved_length (by rw [HL.out]; omega) (by rw [HL.out]; omega)]; exact HL.out
          have HMV := Lib.hid hmv
          have hget := fun k => moved_get (xs := xs) (o := di) (s := di + 1) (n := en - (di + 1)) (by rw [HL.out]; omega) (by rw [HL.out]; omega) k
          have HGT := Lib.hid hget
          clear hcl hmv hget
          have s19a : (0 : Int) ≤ (di : Int) := by omega
          have s19b : (di : Int) ≤ (N : Int) := by omega
          have s19c : (N : Int) ≤ (cap : Int) := by omega
          have s19d : ¬ cap = di := by omega
          have s19e : IntKind.i64.wrap ((di : Int)) = (di : Int) := IntWalk.i64_in _ (by omega)
          have s19f : ((di : Int)).toNat = di := by omega
          have s20a : (0 : Int) ≤ (di : Int) + 1 := by omega
          have s20b : (di : Int) + 1 ≤ (en : Int) := by omega
          have s20c : (en : Int) ≤ (cap : Int) := by omega
          have s20d : ¬ cap = di + 1 := by omega
          have s20e : IntKind.i64.wrap ((di : Int) + 1) = (di : Int) + 1 := IntWalk.i64_in _ (by omega)
          have s20f : ((di : Int) + 1).toNat = di + 1 := by omega

          have b1 : (en : Int) ≤ 1000000 := by omega
          have b2 : 1 ≤ (en : Int) := by omega
          clear he he3 hLi hdls e3 e4 pt d1 d2 hroom hr hn
          go_wp2_with fail
          go_region_law (refine step_copy_only rfl (.tmp 771) (.tmp 776) 44 44 rfl 5 Tryz.underlying44 size_u8 (some ⟨h, o + di, none⟩) (some ⟨h, o + (di + 1), none⟩) (N - (di)) (cap - (di)) (en - (di + 1)) (cap - (di + 1)) (by simp [Act.eval, Act.put]) (by simp [Act.eval, Act.put]) h (o + (di)) _ _ HB.out.2 ((cut xs (di + 1) (di + 1 + (en - (di + 1)))).map (Value.int .u8)) (by rw [List.length_map, HCL.out]; exact (Nat.min_eq_left (by omega)).symm) (fun _ => ⟨rfl, ⟨h, o + (di + 1), none⟩, rfl, HB.out.src (di + 1) (en - (di + 1)) (by rw [HL.out]; omega)⟩) (by simp only [List.length_map, List.length_append]; have := HB.out.1; have := HL.out; rw [HCL.out]; omega) (one_cells _) h w (Onl.refl _ _).drew (Nat.le_refl _) ?_; intro w4 hg4 hb4)
          have hbw4 : BufO w4 h o pre (moved xs (di) (di + 1) (en - (di + 1))) tail := BufO.moved HB.out.1 (by rw [HL.out]; omega) (by rw [HL.out]; omega) hg4.out
          have HBW4 := Lib.hid hbw4
          have HB4 := Lib.hid hb4
          clear hg4 hb4 hbw4

          go_wp2_with fail
          go_meet
          case rel =>
            have e4 := HE4.out
            refine ⟨st + nn, _, by rw [HNE.out], HBW4.out, HB4.out, HMV.out, rfl, HRM.out, At.of HNN.out fun j hj => ?_⟩
            rw [HGT.out]
            split
            · rw [show di + 1 + (st + j - di) = di + 1 + (j - (di - st)) from by omega, HD2.out _ (by omega)]
              congr 1
              omega
            · exact HD1.out j (by omega)
      -- ]]
    case rest =>
      -- [[
      focus
        obtain ⟨b, ys, rfl, hbw, hbl, hyl, hbn, hroom, hat⟩ := hcut
        obtain ⟨L, hL⟩ : ∃ L, Li = L + 1 := ⟨Li - 1, by omega⟩
        subst hL
        have hle := HDL.out
        have he3 := HE3.out
        have hdL : dl (-(e - (nn : Int))) = (L : Int) := by rw [show -(e - (nn : Int)) = (nn : Int) - e from by omega]; omega
        have hrm : b + 2 + L ≤ N := by omega
        have hdg : dgs L (-(e - (nn : Int))) = digs (-(e - (nn : Int))) := dgs_digs (by omega) (by omega) hdL
        have hB : B = sigD I F ++ 101 :: 45 :: dgs L (-(e - (nn : Int))) := by
          rw [← HBD.out, hdg]
          unfold body
          have := HC1.out
          rw [HNN.out, if_neg (show ¬ (nn : Int) ≤ e from by omega), HSB.out, if_neg (by simp), HLI.out, if_neg K6.out]
        have hpl : st + (sigD I F).length = b := by rw [HNN.out]; omega
        have m0 : -1000 < e - (nn : Int) := by omega
        have m1 : e - (nn : Int) ≤ 0 := by omega
        have HBP := Lib.hid hB
        have HPL := Lib.hid hpl
        have HA := Lib.hid hat
        have HBW := Lib.hid hbw
        have HBL := Lib.hid hbl
        have HYL := Lib.hid hyl
        have hbn1 : st + 1 ≤ b := by omega
        clear hle hdg hB hpl hat hbw hbl hyl hroom hdL hbn he3
        have hB1 := (HBW.out.set b (by rw [HYL.out]; omega) 101).set (b + 1) (by rw [List.length_set, HYL.out]; omega) 45
        have hBB := (HBL.out.setCell (p := ⟨h, o + b, none⟩) rfl (.int .u8 101)).setCell (p := ⟨h, o + (b + 1), none⟩) rfl (.int .u8 45)
        have hfz := HBW.out.frozen b
        have hcz := HBW.out.cell b (by rw [HYL.out]; omega)
        have hfz1 := HBW.out.frozen (b + 1)
        have hcz1 := HBW.out.cell (b + 1) (by rw [HYL.out]; omega)
        have hbN : b < N := by omega
        have hbN1 : b + 1 < N := by omega
        have HB1 := Lib.hid hB1
        have HB2 := Lib.hid hBB
        clear hB1 hBB
        go_upto_block 20 with (fail)
        go_cut [33, 35] from 796 to 810 (fun v33 v35 wc => ∃ zs : List Int, RowKit.Hid (BufO wc h o pre zs tail) ∧ RowKit.Hid (Onl h w wc) ∧ RowKit.Hid (zs.length = N) ∧ RowKit.Hid (∀ j, j < b + 2 → zs.getD j 0 = ((ys.set b 101).set (b + 1) 45).getD j 0) ∧ RowKit.Hid (At zs (b + 2) (dgs L (-(e - (nn : Int))))))
        case first =>
          go_wp2_with fail
          go_loopw [33, 35] (fun v33 v35 wr => ∃ (k : Nat) (x : Int) (zs suf : List Int), v33 = .int .i64 x ∧ v35 = .int .i64 ((b + 1 + k : Nat) : Int) ∧ k ≤ L ∧ -1000 < x ∧ x ≤ 0 ∧ RowKit.Hid (dgs k (-x) ++ suf = dgs L (-(e - (nn : Int)))) ∧ RowKit.Hid (BufO wr h o pre zs tail) ∧ RowKit.Hid (Onl h w wr) ∧ RowKit.Hid (zs.length = N) ∧ RowKit.Hid (∀ j, j < b + 2 → zs.getD j 0 = ((ys.set b 101).set (b + 1) 45).getD j 0) ∧ RowKit.Hid (∀ j, j < suf.length → zs.getD (b + 2 + k + j) 0 = suf.getD j 0)) (fun _ v35 _ => (intOf v35).toNat)
          case atStart => exact ⟨L, e - (nn : Int), (ys.set b 101).set (b + 1) 45, [], rfl, by go_num, by omega, m0, m1, Lib.hid (by simp), Lib.hid HB1.out, Lib.hid HB2.out, Lib.hid (by rw [List.length_set, List.length_set]; exact HYL.out), Lib.hid (fun _ _ => rfl), Lib.hid (fun j hj => absurd hj (by simp))⟩
          case round =>
            obtain ⟨k, x, zs, suf, rfl, rfl, hk, hx0, hx1, HDG, HZW, HZB, HZL, HZ0, HZS⟩ := hrel
            cases k with
            | zero =>
              go_wp2_with fail
              go_meet
              case rel =>
                refine ⟨zs, HZW, HZB, HZL, HZ0, Lib.hid ?_⟩
                have hd := HDG.out
                simp only [dgs, List.nil_append] at hd
                rw [← hd]
                exact HZS.out
            | succ k =>
              obtain ⟨c, hc⟩ : ∃ c : Int, -x % 10 = c := ⟨_, rfl⟩
              obtain ⟨q, hq⟩ : ∃ q : Int, -x / 10 = q := ⟨_, rfl⟩
              have hxq : x = -(10 * q + c) := by omega
              have hc0 : 0 ≤ c := by omega
              have hc9 : c ≤ 9 := by omega
              have hq0 : 0 ≤ q := by omega
              have hn := neg_rem hq0 hc0 hc9
              rw [← hxq] at hn
              have hnb := neg_byte hc0 hc9
              obtain ⟨s, hs⟩ : ∃ s : Int, -c = s := ⟨_, rfl⟩
              rw [hs] at hn hnb
              obtain ⟨t, ht⟩ : ∃ t : Int, IntKind.u8.wrap s = t := ⟨_, rfl⟩
              rw [ht] at hnb
              obtain ⟨r, hr⟩ : ∃ r : Int, -q = r := ⟨_, rfl⟩
              rw [hr] at hn
              obtain ⟨hn1, hn2⟩ := hn
              have hb2 := HZW.out.set (b + 1 + (k + 1)) (by rw [HZL.out]; omega) (c + 48)
              have hfz := HZW.out.frozen (b + 1 + (k + 1))
              have hcz := HZW.out.cell (b + 1 + (k + 1)) (by rw [HZL.out]; omega)
              have hbN : b + 1 + (k + 1) < N := by omega
              have HS := Lib.hid hb2
              have HR2 := Lib.hid hr
              have HC2 := Lib.hid hc
              have HQ2 := Lib.hid hq
              have hr0 : -1000 < r := by omega
              have hr1 : r ≤ 0 := by omega
              clear hb2 hr hc hq hs hxq
              go_wp2_with fail
              go_roundw
              case rel =>
                have hd := HDG.out
                have hzl := HZL.out
                have hc := HC2.out
                have hq := HQ2.out
                have hr := HR2.out
                refine ⟨k, r, zs.set (b + 1 + (k + 1)) (c + 48), (c + 48) :: suf, rfl, by go_num, by omega, by omega, by omega, Lib.hid ?_, Lib.hid HS.out, Lib.hid (HZB.out.setCell (p := ⟨h, o + (b + 1 + (k + 1)), none⟩) rfl _), Lib.hid (by rw [List.length_set]; exact hzl), Lib.hid (fun j hj => by rw [set_get (by omega), if_neg (by omega)]; exact HZ0.out j hj), Lib.hid (fun j hj => ?_)⟩
                · rw [← hd]
                  simp only [dgs, List.append_assoc, List.singleton_append]
                  rw [hc, hq, show -r = q from by omega]
                · rw [set_get (by omega)]
                  cases j with
                  | zero => rw [if_pos (by omega)]; rfl
                  | succ j =>
                    rw [if_neg (by omega), List.getD_cons_succ, show b + 2 + k + (j + 1) = b + 2 + (k + 1) + j from by omega]
                    exact HZS.out j (by simpa using hj)
              case measure => simp [intOf]; omega
        case rest =>
          obtain ⟨zs, HZW, HZB, HZL, HZ0, HZS⟩ := hcut
          go_upto_region 208 with (fail)
          go_cut [6, 8] from 811 to 814 (fun v6 v8 wc => ∃ (a b : Nat) (ys : List Int), v6 = .int .i64 (a : Nat) ∧ v8 = .int .i64 (b : Nat) ∧ BufO wc h o pre ys tail ∧ Onl h w wc ∧ ys.length = N ∧ (neg = true → 1 ≤ a) ∧ b = a + B.length ∧ b ≤ N ∧ (∀ j, j < B.length → ys.getD (a + j) 0 = B.getD j 0))
          case first =>
            go_wp2_with fail
            go_meet
            case rel =>
              have hbp := HBP.out
              have hyl := HYL.out
              have hpl := HPL.out
              refine ⟨st, b + 2 + L, zs, rfl, by go_num, HZW.out, HZB.out, HZL.out, HNG.out, by (have hpl2 := hpl); (try simp only [List.length_cons] at hpl2); rw [hbp]; simp only [List.length_append, List.length_cons, dgs_length]; omega, by omega, ?_⟩
              rw [hbp]
              refine At.append (At.same HA.out (b := b) (by omega) (fun j hj => by rw [HZ0.out j (by omega), set_get (by rw [List.length_set]; omega), if_neg (by omega), set_get (by omega), if_neg (by omega)])) (At.cons ?_ (At.cons ?_ ?_))
              · rw [HZ0.out _ (by omega), set_get (by rw [List.length_set]; omega), if_neg (by omega), set_get (by omega), if_pos (by omega)]
              · rw [HZ0.out _ (by omega), set_get (by rw [List.length_set]; omega), if_pos (by omega)]
              · rw [hpl, show b + 1 + 1 = b + 2 from rfl]
                exact HZS.out
          case rest =>
        as_aux_lemma =>
          obtain ⟨a, b, ys, rfl, rfl, hbw, hbl, hyl, hna, hba, hbN, hat⟩ := hcut
          have has := HAS.out
          have hR := HR.out
          rw [has, if_neg (by simp), HE.out, HBD.out] at hR
          have HRR := Lib.hid hR
          obtain ⟨L, hL⟩ : ∃ L, B.length = L := ⟨_, rfl⟩
          rw [hL] at hba hat
          have hL1 : 1 ≤ L := by rw [← hL, ← HBD.out]; exact body_pos (by rw [HNN.out]; exact nn1)
          have hab : a < b := by omega
          have HBA := Lib.hid hba
          have HLL := Lib.hid hL
          have HAT := Lib.hid hat
          have HYL := Lib.hid hyl
          have HBW := Lib.hid hbw
          have HBL := Lib.hid hbl
          clear hR has hba hat hyl hbw hbl hL
          have g1 : (b : Int) ≤ (cap : Int) := by omega
          cases neg with
          | true =>
            have hs1 : 1 ≤ a := hna rfl
            obtain ⟨a', rfl⟩ : ∃ a', a = a' + 1 := ⟨a - 1, by omega⟩
            have ec : ((a' + 1 : Nat) : Int) - 1 = (a' : Int) := by omega
            have hb2 := HBW.out.set a' (by rw [HYL.out]; omega) 45
            have hfz := HBW.out.frozen a'
            have hcz := HBW.out.cell a' (by rw [HYL.out]; omega)
            have hcst : ¬ cap = a' := by omega
            have haN : a' < N := by omega
            have g2 : (a' : Int) ≤ (b : Int) := by omega
            have HB2 := Lib.hid hb2
            clear hb2 hna hs1
            go_wp2_with fail
            go_ret
            have hL := HLL.out
            have hba := HBA.out
            have hR2 : numR xs true I F ev = [45] ++ B := by rw [HRR.out]; simp
            rw [hR2]
            refine ⟨a', ys.set a' 45, ?_, HB2.out, HBL.out.setCell (p := ⟨h, o + a', none⟩) rfl _, by rw [List.length_set]; exact HYL.out, by simp; omega, fun j hj => ?_⟩
            · have e1 : b - a' = ([45] ++ B).length := by simp; omega
              rw [← e1]
              rfl
            · rw [set_get (by rw [HYL.out]; omega)]
              cases j with
              | zero => rw [if_pos (by omega)]; rfl
              | succ j =>
                rw [if_neg (by omega), show a' + (j + 1) = a' + 1 + j from by omega, HAT.out j (by simp at hj; omega)]
                rfl
          | false =>
            have hcst : ¬ cap = a := by omega
            have g2 : (a : Int) ≤ (b : Int) := by omega
            clear hna
            go_wp2_with fail
            go_ret
            have hL := HLL.out
            have hba := HBA.out
            have hR2 : numR xs false I F ev = B := by rw [HRR.out]; simp
            rw [hR2]
            refine ⟨a, ys, ?_, HBW.out, HBL.out, HYL.out, by omega, fun j hj => HAT.out j (by omega)⟩
            have e1 : b - a = B.length := by omega
            rw [← e1]
            rfl

      -- ]]

end Go.Proofs.YthoekplablhgfaaGreatDoor
